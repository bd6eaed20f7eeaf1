import JvmDerived
import JvmDerived.Pilot.@@N@@Statement
import JvmDerived.Pilot.@@N@@Code
set_option linter.unusedVariables false
set_option linter.unusedSimpArgs false
/- laws to paste: Road.eqW (cut by pick.py; bodies as the Statement names them) -/
namespace Jvm.Pilot.@@N@@
namespace StrChars
open Jvm Sem ClassFile Op Lib Jvm.Stand Jvm.Free.XT Jvm.Free.ALB Jvm.Free.JM Jvm.Free
open Jvm.Lib.Cold (StaticIs)
def lo8 (x : Int32) : Int32 := x.toInt8.toInt32
theorem fits_lo8 (y : Int32) : fits .byte (.int (lo8 y)) = true := by
  have h1 := y.toInt8.le_toInt
  have h2 := y.toInt8.toInt_lt
  simp only [lo8, fits, Bool.and_eq_true, decide_eq_true_eq, Int32.le_iff_toInt_le, Int8.toInt_toInt32, show (-128 : Int32).toInt = -128 from by decide, show (127 : Int32).toInt = 127 from by decide]
  omega
theorem lo8_mask {x : Int32} (h0 : ¬ x < 0) (h1 : ¬ 255 < x) : lo8 x &&& 255 = x := by
  have t : ∀ k : Fin 256, lo8 (Int32.ofNat k.val) &&& 255 = Int32.ofNat k.val := by decide +kernel
  rw [Int32.lt_iff_toInt_lt] at h0 h1
  have e0 : (0 : Int32).toInt = 0 := rfl
  have e1 : (255 : Int32).toInt = 255 := rfl
  obtain ⟨k, hk⟩ : ∃ k : Nat, x.toInt = k := ⟨x.toInt.toNat, by omega⟩
  have hx : x = Int32.ofNat k := Int32.toInt_inj.mp (by rw [hk, Int32.toInt_ofNat_small (by omega)])
  rw [hx]
  exact t ⟨k, by omega⟩
end StrChars
namespace StrChars.Road
open Jvm Sem ClassFile Op Lib Jvm.Stand Jvm.Free Jvm.Free.XT
open Jvm.Lib.Cold (StaticIs)
abbrev ST : String := "java/lang/String"
end StrChars.Road
namespace StrChars
open Jvm Sem ClassFile Op Lib Jvm.Stand Jvm.Free.XT Jvm.Free.ALB Jvm.Free.JM Jvm.Free
open Jvm.Lib.Cold (StaticIs)
def hi8 (x : Int32) : Int32 := lo8 (x >>> ((8 : Int32) &&& 31))
def pairCh (u v : Int32) : Int32 := (((u &&& 255) <<< ((0 : Int32) &&& 31)) ||| ((v &&& 255) <<< ((8 : Int32) &&& 31))).toUInt32.toUInt16.toUInt32.toInt32
theorem lo8_and (x : Int32) : (lo8 x &&& 255).toBitVec.toNat = x.toBitVec.toNat % 256 := by
  have h : (lo8 x).toBitVec = (x.toBitVec.signExtend 8).signExtend 32 := by rw [lo8, Int8.toBitVec_toInt32, Int32.toBitVec_toInt8]
  rw [Int32.toBitVec_and, BitVec.toNat_and, h]
  have e : ((x.toBitVec.signExtend 8).signExtend 32).toNat % 256 = x.toBitVec.toNat % 256 := by
    rw [BitVec.toNat_signExtend]
    have hlt := x.toBitVec.isLt
    simp only [BitVec.toNat_setWidth, BitVec.toNat_signExtend]
    split <;> split <;> omega
  rw [← e]
  exact Nat.and_two_pow_sub_one_eq_mod _ 8
theorem pair_says {c : Int32} (h0 : ¬ c < 0) (h1 : ¬ 65535 < c) : pairCh (lo8 c) (hi8 c) = c := by
  rw [Int32.lt_iff_toInt_lt] at h0 h1
  have e0 : (0 : Int32).toInt = 0 := rfl
  have e1 : (65535 : Int32).toInt = 65535 := rfl
  have hc : c.toInt = c.toBitVec.toNat := by
    have := c.toBitVec.isLt
    have e : c.toInt = c.toBitVec.toInt := rfl
    rw [e] at h0 h1
    rw [e]
    rw [BitVec.toInt_eq_toNat_cond] at h0 h1 ⊢
    split at h0 <;> split <;> omega
  have hn : c.toBitVec.toNat < 65536 := by omega
  have a1 := lo8_and c
  have a2 : (hi8 c &&& 255).toBitVec.toNat = c.toBitVec.toNat / 256 := by
    rw [hi8, lo8_and]
    have e : ((8 : Int32) &&& 31) = 8 := by decide
    rw [e, Int32.toBitVec_shiftRight]
    have e2 : ((8 : Int32).toBitVec.smod 32) = 8#32 := by decide
    rw [e2, BitVec.sshiftRight_eq', BitVec.toNat_sshiftRight_of_msb_false (by rw [BitVec.msb_eq_false_iff_two_mul_lt]; omega)]
    show c.toBitVec.toNat >>> 8 % 256 = _
    rw [Nat.shiftRight_eq_div_pow]
    omega
  unfold pairCh
  apply Int32.toBitVec_inj.mp
  apply BitVec.eq_of_toNat_eq
  have f0 : ((0 : Int32) &&& 31) = 0 := by decide
  have f8 : ((8 : Int32) &&& 31) = 8 := by decide
  rw [f0, f8]
  have g : (((lo8 c &&& 255) <<< (0 : Int32)) ||| ((hi8 c &&& 255) <<< (8 : Int32))).toBitVec.toNat = c.toBitVec.toNat := by
    rw [Int32.toBitVec_or, Int32.toBitVec_shiftLeft, Int32.toBitVec_shiftLeft]
    have s0 : ((0 : Int32).toBitVec.smod 32) = 0#32 := by decide
    have s8 : ((8 : Int32).toBitVec.smod 32) = 8#32 := by decide
    rw [s0, s8, BitVec.toNat_or]
    simp only [BitVec.shiftLeft_eq', BitVec.toNat_shiftLeft, a1, a2]
    show (c.toBitVec.toNat % 256) <<< 0 % 2 ^ 32 ||| (c.toBitVec.toNat / 256) <<< 8 % 2 ^ 32 = _
    rw [Nat.shiftLeft_zero, Nat.mod_eq_of_lt (show c.toBitVec.toNat % 256 < 2 ^ 32 by omega), Nat.mod_eq_of_lt (show (c.toBitVec.toNat / 256) <<< 8 < 2 ^ 32 by rw [Nat.shiftLeft_eq]; omega), Nat.or_comm, ← Nat.shiftLeft_add_eq_or_of_lt (by omega), Nat.shiftLeft_eq]
    omega
  show BitVec.toNat (((((lo8 c &&& 255) <<< (0 : Int32)) ||| ((hi8 c &&& 255) <<< (8 : Int32))).toBitVec.setWidth 16).setWidth 32) = _
  rw [BitVec.toNat_setWidth, BitVec.toNat_setWidth, g]
  omega
end StrChars
namespace StrChars
open Jvm Sem ClassFile Op Lib Jvm.Stand Jvm.Free.XT Jvm.Free.ALB Jvm.Free.JM Jvm.Free
open Jvm.Lib.Cold (StaticIs)
def Cod (cd : Int32) (n : Nat) (f : Nat → Int32) (V : Cell) : Prop := (cd = 0 ∧ V.slots.size = n ∧ ∀ j, j < n → V.slots[j]? = some (.int (lo8 (f j))) ∧ ¬ 255 < f j) ∨ (cd = 1 ∧ V.slots.size = 2 * n ∧ (∀ j, j < n → V.slots[2 * j]? = some (.int (lo8 (f j))) ∧ V.slots[2 * j + 1]? = some (.int (hi8 (f j)))) ∧ ∃ j, j < n ∧ 255 < f j)
def Txt (x t : Addr) (V : Cell) (cd : Int32) (n : Nat) (f : Nat → Int32) (U : State) : Prop := Exact "java/lang/String" x U ∧ Has x "java/lang/String" "value" "[B" (.ref t) U ∧ Has x "java/lang/String" "coder" "B" (.int cd) U ∧ XT.Arr .byte t V U ∧ Cod cd n f V ∧ ∀ j, j < n → ¬ f j < 0 ∧ ¬ 65535 < f j
theorem Txt.mv {x t : Addr} {V : Cell} {cd : Int32} {n : Nat} {f : Nat → Int32} {U U' : State} (h : Txt x t V cd n f U) (hal : U.vm.Alike U'.vm) (hh : U'.heap = U.heap) : Txt x t V cd n f U' := ⟨h.1.mv hal hh, h.2.1.mv hal hh, h.2.2.1.mv hal hh, h.2.2.2.1.mv hal hh, h.2.2.2.2⟩
end StrChars
namespace StrChars.Road
open Jvm Sem ClassFile Op Lib Jvm.Stand Jvm.Free Jvm.Free.XT
open Jvm.Lib.Cold (StaticIs)
theorem consq {a : Array Value} {s : State} {c : Jvm.Cond} {L : List Jvm.Cond} (h0 : c.before a s = true) (h : ∀ w ∈ L, w.before a s = true) : ∀ w ∈ c :: L, w.before a s = true := fun w hw => (List.mem_cons.mp hw).elim (fun e => e ▸ h0) (h w)
def wideBytes : List Int32 → List Value
  | [] => []
  | c :: cs => .int (lo8 c) :: .int (hi8 c) :: wideBytes cs
theorem wide_lo (d : Value) : ∀ (cs : List Int32) (j : Nat), j < cs.length → (wideBytes cs).getD (2 * j) d = .int (lo8 (cs.getD j 0))
  | [], j, h => absurd h (Nat.not_lt_zero j)
  | c :: cs, 0, _ => rfl
  | c :: cs, j + 1, h => by
    have q := wide_lo d cs j (by simpa using h)
    rw [show 2 * (j + 1) = 2 * j + 1 + 1 from by omega]
    simpa [wideBytes] using q
theorem wide_hi (d : Value) : ∀ (cs : List Int32) (j : Nat), j < cs.length → (wideBytes cs).getD (2 * j + 1) d = .int (hi8 (cs.getD j 0))
  | [], j, h => absurd h (Nat.not_lt_zero j)
  | c :: cs, 0, _ => rfl
  | c :: cs, j + 1, h => by
    have q := wide_hi d cs j (by simpa using h)
    rw [show 2 * (j + 1) + 1 = 2 * j + 1 + 1 + 1 from by omega]
    simpa [wideBytes] using q
theorem low_at (d : Value) (cs : List Int32) (j : Nat) (h : j < cs.length) : (cs.map fun c => Value.int (lo8 c)).getD j d = .int (lo8 (cs.getD j 0)) := by
  simp [List.getD_eq_getElem?_getD, h]
def CodA (cs : List Int32) (cd N2 : Int32) (vs : List Value) : Prop := (cd = 0 ∧ N2 = Int32.ofNat cs.length ∧ vs = (cs.map fun c => Value.int (lo8 c)) ∧ ∀ c ∈ cs, ¬ 255 < c) ∨ (cd = 1 ∧ N2 = Int32.ofNat (2 * cs.length) ∧ vs = wideBytes cs ∧ ∃ c ∈ cs, 255 < c)
theorem CodA.cod {cs : List Int32} {cd N2 : Int32} {vs : List Value} {V : Cell} (h : CodA cs cd N2 vs) (hn : 2 * cs.length < 2 ^ 31) (hs : V.slots.size = N2.toNatClampNeg) (hv : RoadKit.Has V vs (.int 0)) : Cod cd cs.length (fun j => cs.getD j 0) V := by
  rcases h with ⟨rfl, rfl, rfl, h⟩ | ⟨rfl, rfl, rfl, c, hc, hw⟩
  · rw [n32 (by omega)] at hs
    exact Or.inl ⟨rfl, hs, fun j hj => ⟨by rw [hv j (by omega), low_at _ _ _ hj], by
      have e : cs.getD j 0 = cs[j] := by simp [List.getD_eq_getElem?_getD, hj]
      show ¬ 255 < cs.getD j 0
      rw [e]; exact h _ (List.getElem_mem _)⟩⟩
  · rw [n32 (by omega)] at hs
    obtain ⟨j, hj, rfl⟩ := List.getElem_of_mem hc
    exact Or.inr ⟨rfl, hs, fun j hj => ⟨by rw [hv _ (by omega), wide_lo _ _ _ hj], by rw [hv _ (by omega), wide_hi _ _ _ hj]⟩, j, hj, by
      have e : cs.getD j 0 = cs[j] := by simp [List.getD_eq_getElem?_getD, hj]
      show 255 < cs.getD j 0
      rw [e]; exact hw⟩
theorem strObj {Z U : State} {a0 : Array Value} {kI : Nat} (wi : (Jvm.Cond.instantiable ST kI).before a0 Z = true) (al : Z.vm.Alike U.vm) {x : Addr} {v0 c0 : Value} (E : RoadKit.Exa Z U.heap x ST) (V : RoadKit.Fld Z U.heap x ST "value" "[B" v0) (C : RoadKit.Fld Z U.heap x ST "coder" "B" c0) :
    ∃ (D : Cell) (fV fC : Field), Blank ST x D U ∧ Found ST "value" "[B" fV U ∧ Found ST "coder" "B" fC U ∧ D.slots[fV.slot]? = some v0 ∧ D.slots[fC.slot]? = some c0 ∧ RoadKit.slotOf Z ST "value" "[B" = fV.slot ∧ RoadKit.slotOf Z ST "coder" "B" = fC.slot := by
  obtain ⟨D, cfV, kV, iV, fV, hD, gV, stV, knV, obV, asV, slV⟩ := V
  obtain ⟨D', cfC, kC, iC, fC, hD', gC, stC, -, -, asC, slC⟩ := C
  cases hD.symm.trans hD'
  obtain ⟨D2, kD, e1, e2, e3, e4, e5⟩ := E
  cases hD.symm.trans e1
  obtain ⟨c2, k2, i1, i2, i3, -⟩ := Cond.instantiable_spec wi
  cases e2.symm.trans i1
  cases e3.symm.trans i2
  obtain ⟨kU, u1, u2⟩ := al.2.2 _ _ e3
  exact ⟨D, fV, fC, ⟨hD, ⟨knV, fun q hq => by rw [hq] at obV; cases obV⟩, by rw [al.findClass]; exact e2, kU, u1, by rw [u2]; exact i3, by rw [u2]; exact e5 i3⟩, ⟨SBG.found_only al ⟨cfV, kV, iV, gV⟩, stV⟩, ⟨SBG.found_only al ⟨cfC, kC, iC, gC⟩, stC⟩, slV, slC, by simp [RoadKit.slotOf, gV], by simp [RoadKit.slotOf, gC]⟩
theorem sta_is {Z U : State} (al : Z.vm.Alike U.vm) {C n d : String} {v : Value} (S : RoadKit.Sta Z U.heap C n d v) : StaticIs U C n d v := by
  obtain ⟨cfS, iS, kS, fS, st, cS, t1, t2, t3, t4, t5, t6, t7⟩ := S
  exact StaticIs.there (s := { Z with heap := U.heap }) ⟨cfS, iS, kS, fS, st, cS, t1, t2, t3, t4, t5, (fun q => by rw [q] at t6; cases t6), t7⟩ al rfl
end StrChars.Road
namespace StrChars
open Jvm Sem ClassFile Op Lib Jvm.Stand Jvm.Free.XT Jvm.Free.ALB Jvm.Free.JM Jvm.Free
open Jvm.Lib.Cold (StaticIs)
def yv (A : Cell) (i : Nat) : Int32 := match A.slots[i]? with | some (.int x) => x | _ => 0
theorem yv_get {a : Addr} {A : Cell} {U : State} (h : XT.Arr .byte a A U) (ht : Typed .byte A) {i : Nat} (hi : i < A.slots.size) : A.slots[i]? = some (.int (yv A i)) := by
  have e := Array.getElem?_eq_getElem hi
  have f := ht i _ e
  unfold yv; rw [e]
  generalize A.slots[i] = v at f
  cases v <;> simp [fits] at f ⊢
def EqC (A B : Cell) : Prop := A.slots.size = B.slots.size ∧ ∀ i, i < A.slots.size → yv A i = yv B i
def Says01 (q : Prop) (r : Option Value) (s u : State) : Prop := ∃ v : Int32, r = some (.int v) ∧ u.heap = s.heap ∧ ((v = 1 ∧ q) ∨ (v = 0 ∧ ¬ q))
theorem Says01.mv {q : Prop} : ∀ r (U U' V V' : State), U'.heap = U.heap → V.vm.Alike V'.vm → V'.heap = V.heap → Says01 q r U V → Says01 q r U' V' :=
  fun r U U' V V' h1 _ h2 ⟨v, a, b, c⟩ => ⟨v, a, by rw [h1, h2]; exact b, c⟩
namespace LEq
def yN : MethodName := ⟨"java/lang/StringLatin1", "equals", "([B[B)Z"⟩
abbrev yB : ByteArray := jdk_43_method_13_code
theorem d0 : decode yB 0 = .ok (.aload_n 0, 1) := by decide +kernel
theorem d1 : decode yB 1 = .ok (.arraylength, 1) := by decide +kernel
theorem d2 : decode yB 2 = .ok (.aload_n 1, 1) := by decide +kernel
theorem d3 : decode yB 3 = .ok (.arraylength, 1) := by decide +kernel
theorem d4 : decode yB 4 = .ok (.if_icmp (.ne) 30, 3) := by decide +kernel
theorem d7 : decode yB 7 = .ok (.iconst 0, 1) := by decide +kernel
theorem d8 : decode yB 8 = .ok (.istore_n 2, 1) := by decide +kernel
theorem d9 : decode yB 9 = .ok (.iload_n 2, 1) := by decide +kernel
theorem d10 : decode yB 10 = .ok (.aload_n 0, 1) := by decide +kernel
theorem d11 : decode yB 11 = .ok (.arraylength, 1) := by decide +kernel
theorem d12 : decode yB 12 = .ok (.if_icmp (.ge) 20, 3) := by decide +kernel
theorem d15 : decode yB 15 = .ok (.aload_n 0, 1) := by decide +kernel
theorem d16 : decode yB 16 = .ok (.iload_n 2, 1) := by decide +kernel
theorem d17 : decode yB 17 = .ok (.baload, 1) := by decide +kernel
theorem d18 : decode yB 18 = .ok (.aload_n 1, 1) := by decide +kernel
theorem d19 : decode yB 19 = .ok (.iload_n 2, 1) := by decide +kernel
theorem d20 : decode yB 20 = .ok (.baload, 1) := by decide +kernel
theorem d21 : decode yB 21 = .ok (.if_icmp (.eq) 5, 3) := by decide +kernel
theorem d24 : decode yB 24 = .ok (.iconst 0, 1) := by decide +kernel
theorem d25 : decode yB 25 = .ok (.ireturn, 1) := by decide +kernel
theorem d26 : decode yB 26 = .ok (.iinc 2 1, 3) := by decide +kernel
theorem d29 : decode yB 29 = .ok (.goto (-20), 3) := by decide +kernel
theorem d32 : decode yB 32 = .ok (.iconst 1, 1) := by decide +kernel
theorem d33 : decode yB 33 = .ok (.ireturn, 1) := by decide +kernel
theorem d34 : decode yB 34 = .ok (.iconst 0, 1) := by decide +kernel
theorem d35 : decode yB 35 = .ok (.ireturn, 1) := by decide +kernel
def site : List Cond := []
def tab : Cond := tabOf yN yB 3 (some .boolean) site
def P (a : Addr) (A : Cell) (b : Addr) (B : Cell) (args : Array Value) (s : State) : Prop := args = #[.ref a, .ref b] ∧ XT.Arr .byte a A s ∧ Typed .byte A ∧ XT.Arr .byte b B s ∧ Typed .byte B
theorem law (l : Launch) (a : Addr) (A : Cell) (b : Addr) (B : Cell) : Law l yN 2 2 0 0 yB 3 (some .boolean) site (P a A b B) (Says01 (EqC A B)) [] 0 0 := by
  refine Law.of_walk (plainFor_of_name (by decide +kernel)) (by decide +kernel) (by decide +kernel) (by decide) (fun _ _ h => by rw [h.1]; rfl) (fun _ U U' hal hh h => ⟨h.1, h.2.1.mv hal hh, h.2.2.1, h.2.2.2.1.mv hal hh, h.2.2.2.2⟩) (fun r U U' V V' h1 hal h2 h => Says01.mv r U U' V V' h1 hal h2 h) ?_
  intro p e s m args below meth c s₁ X0 hexec hbytes hml hret hlk hnm hown hh0 W hP
  obtain ⟨rfl, hA, tA, hB, tB⟩ := hP
  have a31 := hA.2.2.2
  have b31 := hB.2.2.2
  have hA0 := hA.mv X0.warmed.alike hh0
  have hB0 := hB.mv X0.warmed.alike hh0
  have c1 : Steps p.tables e below (s₁.setTop (entryFrame m #[.ref a, .ref b] 3)) (s₁.setTop (mkF m 0 #[.val (.ref a), .val (.ref b), .unset] [])) := entry rfl
  have c2 : Steps p.tables e below (s₁.setTop (entryFrame m #[.ref a, .ref b] 3)) (s₁.setTop (mkF m 4 #[.val (.ref a), .val (.ref b), .unset] [.int (Int32.ofNat B.slots.size), .int (Int32.ofNat A.slots.size)])) := c1.trans (by
    refine XS.aloadN X0.here hexec rfl (hb hbytes d0) rfl rfl ?_
    refine X0.alen hexec hA0 rfl rfl (hb hbytes d1) ?_
    refine XS.aloadN X0.here hexec rfl (hb hbytes d2) rfl rfl ?_
    refine X0.alen hexec hB0 rfl rfl (hb hbytes d3) ?_
    exact Steps.refl _)
  by_cases hs : A.slots.size = B.slots.size
  · have c3 : Steps p.tables e below (s₁.setTop (entryFrame m #[.ref a, .ref b] 3)) (s₁.setTop (mkF m 9 #[.val (.ref a), .val (.ref b), .val (.int 0)] [])) := c2.trans (by
      refine XS.icmpNo X0.here hexec rfl (hb hbytes d4) rfl (ii_ne_f (by rw [hs])) ?_
      refine iconstV X0.here hexec rfl 0 (hb hbytes d7) (by decide) ?_
      refine XS.istoreN X0.here hexec rfl (hb hbytes d8) rfl rfl ?_
      exact Steps.refl _)
    have loop : ∀ (r i : Nat), i + r = A.slots.size → (∀ j, j < i → yv A j = yv B j) → Steps p.tables e below (s₁.setTop (entryFrame m #[.ref a, .ref b] 3)) (s₁.setTop (mkF m 9 #[.val (.ref a), .val (.ref b), .val (.int (Int32.ofNat i))] [])) → ∃ (pc : Nat) (Ls : Array Slot) (v : Int32), (pc = 25 ∨ pc = 33) ∧ ((v = 1 ∧ EqC A B) ∨ (v = 0 ∧ ¬ EqC A B)) ∧ Steps p.tables e below (s₁.setTop (entryFrame m #[.ref a, .ref b] 3)) (s₁.setTop (mkF m pc Ls [.int v])) := by
      intro r
      induction r with
      | zero =>
        intro i hi he cl
        exact ⟨33, _, 1, Or.inr rfl, Or.inl ⟨rfl, hs, fun j hj => he j (by omega)⟩, cl.trans (by
          refine XS.iloadN X0.here hexec rfl (hb hbytes d9) rfl ?_
          refine XS.aloadN X0.here hexec rfl (hb hbytes d10) rfl rfl ?_
          refine X0.alen hexec hA0 rfl rfl (hb hbytes d11) ?_
          refine XS.icmpYes X0.here hexec rfl (pc0 := 12) rfl (hb hbytes d12) rfl (ii_ge_t (nlt32 (by omega) (by omega))) (by decide) rfl ?_
          refine iconstV X0.here hexec rfl 1 (hb hbytes d32) (by decide) ?_
          exact Steps.refl _)⟩
      | succ r ih =>
        intro i hi he cl
        have c4 : Steps p.tables e below (s₁.setTop (entryFrame m #[.ref a, .ref b] 3)) (s₁.setTop (mkF m 21 #[.val (.ref a), .val (.ref b), .val (.int (Int32.ofNat i))] [.int (yv B i), .int (yv A i)])) := cl.trans (by
          refine XS.iloadN X0.here hexec rfl (hb hbytes d9) rfl ?_
          refine XS.aloadN X0.here hexec rfl (hb hbytes d10) rfl rfl ?_
          refine X0.alen hexec hA0 rfl rfl (hb hbytes d11) ?_
          refine XS.icmpNo X0.here hexec rfl (hb hbytes d12) rfl (ii_ge_f (lt32 (by omega) (by omega))) ?_
          refine XS.aloadN X0.here hexec rfl (hb hbytes d15) rfl rfl ?_
          refine XS.iloadN X0.here hexec rfl (hb hbytes d16) rfl ?_
          refine X0.aget hexec hA0 rfl (yv_get hA tA (i := i) (by omega)) rfl rfl (hb hbytes d17) ?_
          refine XS.aloadN X0.here hexec rfl (hb hbytes d18) rfl rfl ?_
          refine XS.iloadN X0.here hexec rfl (hb hbytes d19) rfl ?_
          refine X0.aget hexec hB0 rfl (yv_get hB tB (i := i) (by omega)) rfl rfl (hb hbytes d20) ?_
          exact Steps.refl _)
        by_cases hv : yv A i = yv B i
        · have c5 : Steps p.tables e below (s₁.setTop (entryFrame m #[.ref a, .ref b] 3)) (s₁.setTop (mkF m 9 #[.val (.ref a), .val (.ref b), .val (.int (Int32.ofNat i + 1))] [])) := c4.trans (by
            refine XS.icmpYes X0.here hexec rfl (pc0 := 21) rfl (hb hbytes d21) rfl (ii_eq_t hv) (by decide) rfl ?_
            refine iincV X0.here hexec rfl 1 (hb hbytes d26) (by decide) rfl rfl ?_
            refine XS.goto X0.here hexec rfl (pc0 := 29) rfl (hb hbytes d29) (by decide) rfl ?_
            exact Steps.refl _)
          rw [succ32] at c5
          exact ih (i + 1) (by omega) (fun j hj => by
            by_cases e : j = i
            · rw [e]; exact hv
            · exact he j (by omega)) c5
        · exact ⟨25, _, 0, Or.inl rfl, Or.inr ⟨rfl, fun q => hv (q.2 i (by omega))⟩, c4.trans (by
            refine XS.icmpNo X0.here hexec rfl (hb hbytes d21) rfl (ii_eq_f hv) ?_
            refine iconstV X0.here hexec rfl 0 (hb hbytes d24) (by decide) ?_
            exact Steps.refl _)⟩
    obtain ⟨pc, Ls, v, hpc, hv, cz⟩ := loop A.slots.size 0 (by omega) (fun j hj => absurd hj (Nat.not_lt_zero j)) c3
    have nv : narrow .boolean (.int v) = .int v := by rcases hv with ⟨rfl, -⟩ | ⟨rfl, -⟩ <;> rfl
    rcases hpc with rfl | rfl
    · exact ⟨s₁, some (.int v), _, _, _, X0, rfl, rfl, rfl, (fun h => by cases h), ⟨v, rfl, hh0, hv⟩, fun fs hl => cz.trans (X0.ireturnOut hexec hret nv (Or.inr (Or.inl rfl)) (hb hbytes d25) hl)⟩
    · exact ⟨s₁, some (.int v), _, _, _, X0, rfl, rfl, rfl, (fun h => by cases h), ⟨v, rfl, hh0, hv⟩, fun fs hl => cz.trans (X0.ireturnOut hexec hret nv (Or.inr (Or.inl rfl)) (hb hbytes d33) hl)⟩
  · have c3 : Steps p.tables e below (s₁.setTop (entryFrame m #[.ref a, .ref b] 3)) (s₁.setTop (mkF m 35 #[.val (.ref a), .val (.ref b), .unset] [.int 0])) := c2.trans (by
      refine XS.icmpYes X0.here hexec rfl (pc0 := 4) rfl (hb hbytes d4) rfl (ii_ne_t (ne32 a31 b31 hs)) (by decide) rfl ?_
      refine iconstV X0.here hexec rfl 0 (hb hbytes d34) (by decide) ?_
      exact Steps.refl _)
    exact ⟨s₁, some (.int 0), _, _, _, X0, rfl, rfl, rfl, (fun h => by cases h), ⟨0, rfl, hh0, Or.inr ⟨rfl, fun q => hs q.1⟩⟩, fun fs hl => c3.trans (X0.ireturnOut hexec hret rfl (Or.inr (Or.inl rfl)) (hb hbytes d35) hl)⟩
end LEq
theorem Cod.ty {cd : Int32} {n : Nat} {f : Nat → Int32} {V : Cell} (h : Cod cd n f V) : Typed .byte V := fun i v hv => by
  have hi : i < V.slots.size := (Array.getElem?_eq_some_iff.mp hv).1
  rcases h with ⟨-, k1, k2⟩ | ⟨-, k1, k2, -⟩
  · rw [(k2 i (by omega)).1] at hv; cases hv; exact fits_lo8 _
  · rcases Nat.mod_two_eq_zero_or_one i with e | e
    · obtain ⟨j, rfl⟩ : ∃ j, i = 2 * j := ⟨i / 2, by omega⟩
      rw [(k2 j (by omega)).1] at hv; cases hv; exact fits_lo8 _
    · obtain ⟨j, rfl⟩ : ∃ j, i = 2 * j + 1 := ⟨i / 2, by omega⟩
      rw [(k2 j (by omega)).2] at hv; cases hv; exact fits_lo8 _
def SameT (n : Nat) (f : Nat → Int32) (k : Nat) (g : Nat → Int32) : Prop := n = k ∧ ∀ j, j < n → f j = g j
theorem lo8_inj {x y : Int32} (h0 : ¬ x < 0) (h1 : ¬ 255 < x) (k0 : ¬ y < 0) (k1 : ¬ 255 < y) (h : lo8 x = lo8 y) : x = y := by
  rw [← lo8_mask h0 h1, ← lo8_mask k0 k1, h]
theorem Cod.eqv {cd : Int32} {n k : Nat} {f g : Nat → Int32} {V V' : Cell} (h : Cod cd n f V) (h' : Cod cd k g V') (hf : ∀ j, j < n → ¬ f j < 0 ∧ ¬ 65535 < f j) (hg : ∀ j, j < k → ¬ g j < 0 ∧ ¬ 65535 < g j) : EqC V V' ↔ SameT n f k g := by
  have yvv : ∀ {W : Cell} {i : Nat} {x : Int32}, W.slots[i]? = some (.int x) → yv W i = x := fun q => by unfold yv; rw [q]
  rcases h with ⟨rfl, k1, k2⟩ | ⟨rfl, k1, k2, -⟩
  · rcases h' with ⟨-, m1, m2⟩ | ⟨e, -⟩
    · constructor
      · rintro ⟨e1, e2⟩
        refine ⟨by omega, fun j hj => ?_⟩
        have q := e2 j (by omega)
        rw [yvv (k2 j hj).1, yvv (m2 j (by omega)).1] at q
        exact lo8_inj (hf j hj).1 (k2 j hj).2 (hg j (by omega)).1 (m2 j (by omega)).2 q
      · rintro ⟨rfl, e2⟩
        refine ⟨by omega, fun j hj => ?_⟩
        rw [yvv (k2 j (by omega)).1, yvv (m2 j (by omega)).1, e2 j (by omega)]
    · exact absurd e (by decide)
  · rcases h' with ⟨e, -⟩ | ⟨-, m1, m2, -⟩
    · exact absurd e (by decide)
    · constructor
      · rintro ⟨e1, e2⟩
        refine ⟨by omega, fun j hj => ?_⟩
        have q1 := e2 (2 * j) (by omega)
        have q2 := e2 (2 * j + 1) (by omega)
        rw [yvv (k2 j hj).1, yvv (m2 j (by omega)).1] at q1
        rw [yvv (k2 j hj).2, yvv (m2 j (by omega)).2] at q2
        rw [← pair_says (hf j hj).1 (hf j hj).2, ← pair_says (hg j (by omega)).1 (hg j (by omega)).2, q1, q2]
      · rintro ⟨rfl, e2⟩
        refine ⟨by omega, fun i hi => ?_⟩
        rcases Nat.mod_two_eq_zero_or_one i with e | e
        · obtain ⟨j, rfl⟩ : ∃ j, i = 2 * j := ⟨i / 2, by omega⟩
          rw [yvv (k2 j (by omega)).1, yvv (m2 j (by omega)).1, e2 j (by omega)]
        · obtain ⟨j, rfl⟩ : ∃ j, i = 2 * j + 1 := ⟨i / 2, by omega⟩
          rw [yvv (k2 j (by omega)).2, yvv (m2 j (by omega)).2, e2 j (by omega)]
theorem Cod.dif {cd cd' : Int32} {n k : Nat} {f g : Nat → Int32} {V V' : Cell} (h : Cod cd n f V) (h' : Cod cd' k g V') (hne : ¬ cd = cd') : ¬ SameT n f k g := by
  rintro ⟨rfl, e⟩
  rcases h with ⟨rfl, -, k2⟩ | ⟨rfl, -, -, j, hj, hw⟩
  · rcases h' with ⟨rfl, -⟩ | ⟨-, -, -, j, hj, hw⟩
    · exact hne rfl
    · exact (k2 j hj).2 (by rw [e j hj]; exact hw)
  · rcases h' with ⟨-, -, m2⟩ | ⟨rfl, -⟩
    · exact (m2 j hj).2 (by rw [← e j hj]; exact hw)
    · exact hne rfl
theorem cinst {p : Program} {l : Launch} {e : Env} {R : Room} {s : State} {m : MethodId} {args : Array Value} {below : List Frame} {meth : Method} {c : Code} {T : State} {locs : List Loc} {cells slots : Nat} (X : Stand p l e R s m args below meth c T locs cells slots) (hexec : p.tables.exec = Jvm.exec) {own C : String} {index : Nat} (hown : s.vm.findClass own = some m.cls) (hlink : (Cond.classLink own index C).before args s = true) {a : Addr} (hE : Exact C a T)
    {g : JFrame} (hg : g.method = m) {rest : List Value} (hstack : g.stack = .ref a :: rest) (hdg : decode c.code g.pc = .ok (.instanceof index, 3)) :
    ∃ T', Stand p l e R s m args below meth c T' locs cells slots ∧ T'.heap = T.heap ∧ ∀ target, Steps p.tables e below (T'.setTop { g with pc := g.pc + 3, stack := .int 1 :: rest }) target → Steps p.tables e below (T.setTop g) target := by
  obtain ⟨cB, h1, D, h2, h3, h4⟩ := hE
  have h1' : s.vm.findClass C = some cB := by rw [← X.warmed.alike.findClass]; exact h1
  obtain ⟨vm', X', st⟩ := X.instanceofYes hexec hown hlink h2 h4 h1' (by rw [h3]; exact Jvm.Free.SB.assignable_self _ _) hg hstack hdg
  exact ⟨_, X', rfl, st⟩
theorem cself {p : Program} {l : Launch} {e : Env} {R : Room} {s : State} {m : MethodId} {args : Array Value} {below : List Frame} {meth : Method} {c : Code} {T : State} {locs : List Loc} {cells slots : Nat} (X : Stand p l e R s m args below meth c T locs cells slots) (hexec : p.tables.exec = Jvm.exec) {own C : String} {index : Nat} (hown : s.vm.findClass own = some m.cls) (hlink : (Cond.classLink own index C).before args s = true) {a : Addr} (hE : Exact C a T)
    {g : JFrame} (hg : g.method = m) {rest : List Value} (hstack : g.stack = .ref a :: rest) (hdg : decode c.code g.pc = .ok (.checkcast index, 3)) :
    ∃ T', Stand p l e R s m args below meth c T' locs cells slots ∧ T'.heap = T.heap ∧ ∀ target, Steps p.tables e below (T'.setTop { g with pc := g.pc + 3, stack := .ref a :: rest }) target → Steps p.tables e below (T.setTop g) target := by
  obtain ⟨cB, h1, D, h2, h3, h4⟩ := hE
  have h1' : s.vm.findClass C = some cB := by rw [← X.warmed.alike.findClass]; exact h1
  obtain ⟨vm', X', st⟩ := X.checkcastYes hexec hown hlink h2 h4 h1' (by rw [h3]; exact Jvm.Free.SB.assignable_self _ _) hg hstack hdg
  exact ⟨_, X', rfl, fun t h => st t (by rw [← hstack] at h; exact h)⟩
namespace SEq
def yN : MethodName := ⟨"java/lang/String", "equals", "(Ljava/lang/Object;)Z"⟩
abbrev yB : ByteArray := jdk_42_method_66_code
theorem d0 : decode yB 0 = .ok (.aload_n 0, 1) := by decide +kernel
theorem d1 : decode yB 1 = .ok (.aload_n 1, 1) := by decide +kernel
theorem d2 : decode yB 2 = .ok (.if_acmp (.ne) 5, 3) := by decide +kernel
theorem d5 : decode yB 5 = .ok (.iconst 1, 1) := by decide +kernel
theorem d6 : decode yB 6 = .ok (.ireturn, 1) := by decide +kernel
theorem d7 : decode yB 7 = .ok (.aload_n 1, 1) := by decide +kernel
theorem d8 : decode yB 8 = .ok (.instanceof 10, 3) := by decide +kernel
theorem d11 : decode yB 11 = .ok (.ifCond (.eq) 43, 3) := by decide +kernel
theorem d14 : decode yB 14 = .ok (.aload_n 1, 1) := by decide +kernel
theorem d15 : decode yB 15 = .ok (.checkcast 10, 3) := by decide +kernel
theorem d18 : decode yB 18 = .ok (.astore_n 2, 1) := by decide +kernel
theorem d19 : decode yB 19 = .ok (.getstatic 38, 3) := by decide +kernel
theorem d22 : decode yB 22 = .ok (.ifCond (.eq) 14, 3) := by decide +kernel
theorem d25 : decode yB 25 = .ok (.aload_n 0, 1) := by decide +kernel
theorem d26 : decode yB 26 = .ok (.getfield 15, 3) := by decide +kernel
theorem d29 : decode yB 29 = .ok (.aload_n 2, 1) := by decide +kernel
theorem d30 : decode yB 30 = .ok (.getfield 15, 3) := by decide +kernel
theorem d33 : decode yB 33 = .ok (.if_icmp (.ne) 21, 3) := by decide +kernel
theorem d36 : decode yB 36 = .ok (.aload_n 0, 1) := by decide +kernel
theorem d37 : decode yB 37 = .ok (.getfield 9, 3) := by decide +kernel
theorem d40 : decode yB 40 = .ok (.aload_n 2, 1) := by decide +kernel
theorem d41 : decode yB 41 = .ok (.getfield 9, 3) := by decide +kernel
theorem d44 : decode yB 44 = .ok (.invokestatic 541, 3) := by decide +kernel
theorem d47 : decode yB 47 = .ok (.ifCond (.eq) 7, 3) := by decide +kernel
theorem d50 : decode yB 50 = .ok (.iconst 1, 1) := by decide +kernel
theorem d51 : decode yB 51 = .ok (.goto 4, 3) := by decide +kernel
theorem d54 : decode yB 54 = .ok (.iconst 0, 1) := by decide +kernel
theorem d55 : decode yB 55 = .ok (.ireturn, 1) := by decide +kernel
def site : List Cond := [.classLink "java/lang/String" 10 "java/lang/String", .fieldLink "java/lang/String" 38 "java/lang/String" "COMPACT_STRINGS" "Z", .fieldLink "java/lang/String" 15 "java/lang/String" "coder" "B", .fieldLink "java/lang/String" 9 "java/lang/String" "value" "[B", LEq.tab] ++ staticW "java/lang/String" 541 LEq.yN
def tab : Cond := tabOf yN yB 3 (some .boolean) site
def P (x t : Addr) (V : Cell) (cd : Int32) (n : Nat) (f : Nat → Int32) (y t' : Addr) (V' : Cell) (cd' : Int32) (k : Nat) (g : Nat → Int32) (z : Int32) (args : Array Value) (s : State) : Prop := args = #[.ref x, .ref y] ∧ Txt x t V cd n f s ∧ Txt y t' V' cd' k g s ∧ StaticIs s "java/lang/String" "COMPACT_STRINGS" "Z" (.int z) ∧ ¬ z = 0
theorem law (l : Launch) (x t : Addr) (V : Cell) (cd : Int32) (n : Nat) (f : Nat → Int32) (y t' : Addr) (V' : Cell) (cd' : Int32) (k : Nat) (g : Nat → Int32) (z : Int32) : Law l yN 2 1 1 14 yB 3 (some .boolean) site (P x t V cd n f y t' V' cd' k g z) (Says01 (SameT n f k g)) [] 0 0 := by
  refine Law.of_walk (plainFor_of_name (by decide +kernel)) (by decide +kernel) (by decide +kernel) (by decide) (fun _ _ h => by rw [h.1]; rfl) (fun _ U U' hal hh h => ⟨h.1, h.2.1.mv hal hh, h.2.2.1.mv hal hh, h.2.2.2.1.there hal hh, h.2.2.2.2⟩) (fun r U U' V V' h1 hal h2 h => Says01.mv r U U' V V' h1 hal h2 h) ?_
  intro p e s m args below meth c s₁ X0 hexec hbytes hml hret hlk hnm hown hh0 W hP
  obtain ⟨rfl, hx, hy, s1, hz⟩ := hP
  have c1 : Steps p.tables e below (s₁.setTop (entryFrame m #[.ref x, .ref y] 3)) (s₁.setTop (mkF m 2 #[.val (.ref x), .val (.ref y), .unset] [.ref y, .ref x])) := Steps.trans (entry rfl) (by
    show Steps p.tables e below (s₁.setTop (mkF m 0 #[.val (.ref x), .val (.ref y), .unset] [])) _
    refine XS.aloadN X0.here hexec rfl (hb hbytes d0) rfl rfl ?_
    refine XS.aloadN X0.here hexec rfl (hb hbytes d1) rfl rfl ?_
    exact Steps.refl _)
  by_cases hxy : x = y
  · have c2 : Steps p.tables e below (s₁.setTop (entryFrame m #[.ref x, .ref y] 3)) (s₁.setTop (mkF m 6 #[.val (.ref x), .val (.ref y), .unset] [.int 1])) := c1.trans (by
      refine acmpNo X0.here hexec rfl (hb hbytes d2) rfl rfl rfl (by simp [acmp, hxy]) ?_
      refine iconstV X0.here hexec rfl 1 (hb hbytes d5) (by decide) ?_
      exact Steps.refl _)
    subst hxy
    have ec : cd = cd' := by
      obtain ⟨D, fd, a1, a2, a3⟩ := hx.2.2.1
      obtain ⟨D', fd', b1, b2, b3⟩ := hy.2.2.1
      cases a1.symm.trans b1
      obtain ⟨q1, q2, q3, q4⟩ := a2.1
      obtain ⟨r1, r2, r3, r4⟩ := b2.1
      cases q4.symm.trans r4
      cases a3.symm.trans b3; rfl
    have et : t = t' := by
      obtain ⟨D, fd, a1, a2, a3⟩ := hx.2.1
      obtain ⟨D', fd', b1, b2, b3⟩ := hy.2.1
      cases a1.symm.trans b1
      obtain ⟨q1, q2, q3, q4⟩ := a2.1
      obtain ⟨r1, r2, r3, r4⟩ := b2.1
      cases q4.symm.trans r4
      cases a3.symm.trans b3; rfl
    subst ec et
    have ev : V = V' := by cases hx.2.2.2.1.1.symm.trans hy.2.2.2.1.1; rfl
    subst ev
    have hs : SameT n f k g := (Cod.eqv hx.2.2.2.2.1 hy.2.2.2.2.1 hx.2.2.2.2.2 hy.2.2.2.2.2).mp ⟨rfl, fun _ _ => rfl⟩
    exact ⟨s₁, some (.int 1), _, _, _, X0, rfl, rfl, rfl, (fun h => by cases h), ⟨1, rfl, hh0, Or.inl ⟨rfl, hs⟩⟩, fun fs hl => c2.trans (X0.ireturnOut hexec hret rfl (Or.inr (Or.inl rfl)) (hb hbytes d6) hl)⟩
  · have c2 : Steps p.tables e below (s₁.setTop (entryFrame m #[.ref x, .ref y] 3)) (s₁.setTop (mkF m 8 #[.val (.ref x), .val (.ref y), .unset] [.ref y])) := c1.trans (by
      refine acmpYes X0.here hexec rfl (pc0 := 2) rfl (hb hbytes d2) rfl rfl rfl (by simp [acmp, hxy]) (by decide) rfl ?_
      refine XS.aloadN X0.here hexec rfl (hb hbytes d7) rfl rfl ?_
      exact Steps.refl _)
    obtain ⟨T3, X3, q3, st3⟩ := cinst X0 hexec hown (wk W (.classLink "java/lang/String" 10 "java/lang/String")) (hy.mv X0.warmed.alike hh0).1 (g := (mkF m 8 #[.val (.ref x), .val (.ref y), .unset] [.ref y])) rfl (rest := []) rfl (hb hbytes d8)
    have hh3 := q3.trans hh0
    have c4 : Steps p.tables e below (s₁.setTop (entryFrame m #[.ref x, .ref y] 3)) (T3.setTop (mkF m 15 #[.val (.ref x), .val (.ref y), .unset] [.ref y])) := (c2.trans (st3 _ (Steps.refl _))).trans (by
      refine XS.ifNo X3.here hexec rfl (hb hbytes d11) rfl (i0_eq_f (by decide)) ?_
      refine XS.aloadN X3.here hexec rfl (hb hbytes d14) rfl rfl ?_
      exact Steps.refl _)
    obtain ⟨T5, X5, q5, st5⟩ := cself X3 hexec hown (wk W (.classLink "java/lang/String" 10 "java/lang/String")) (hy.mv X3.warmed.alike hh3).1 (g := (mkF m 15 #[.val (.ref x), .val (.ref y), .unset] [.ref y])) rfl (rest := []) rfl (hb hbytes d15)
    have hh5 := q5.trans hh3
    have c6 : Steps p.tables e below (s₁.setTop (entryFrame m #[.ref x, .ref y] 3)) (T5.setTop (mkF m 19 #[.val (.ref x), .val (.ref y), .val (.ref y)] [])) := (c4.trans (st5 _ (Steps.refl _))).trans (by
      refine XS.astoreN X5.here hexec rfl (hb hbytes d18) rfl rfl rfl ?_
      exact Steps.refl _)
    obtain ⟨T7, X7, q7, st7⟩ := X5.sget hexec hown (wk W (.fieldLink "java/lang/String" 38 "java/lang/String" "COMPACT_STRINGS" "Z")) s1 (fun _ _ h => by rw [hh5]; exact h) (g := (mkF m 19 #[.val (.ref x), .val (.ref y), .val (.ref y)] [])) rfl (hb hbytes d19)
    have hh7 := q7.trans hh5
    have c8 : Steps p.tables e below (s₁.setTop (entryFrame m #[.ref x, .ref y] 3)) (T7.setTop (mkF m 26 #[.val (.ref x), .val (.ref y), .val (.ref y)] [.ref x])) := (c6.trans (st7 _ (Steps.refl _))).trans (by
      refine XS.ifNo X7.here hexec rfl (hb hbytes d22) rfl (i0_eq_f hz) ?_
      refine XS.aloadN X7.here hexec rfl (hb hbytes d25) rfl rfl ?_
      exact Steps.refl _)
    obtain ⟨T9, X9, q9, st9⟩ := X7.hget hexec hown (wk W (.fieldLink "java/lang/String" 15 "java/lang/String" "coder" "B")) (hx.mv X7.warmed.alike hh7).2.2.1 (g := (mkF m 26 #[.val (.ref x), .val (.ref y), .val (.ref y)] [.ref x])) rfl (rest := []) rfl (hb hbytes d26)
    have hh9 := q9.trans hh7
    have c10 : Steps p.tables e below (s₁.setTop (entryFrame m #[.ref x, .ref y] 3)) (T9.setTop (mkF m 30 #[.val (.ref x), .val (.ref y), .val (.ref y)] [.ref y, .int cd])) := (c8.trans (st9 _ (Steps.refl _))).trans (by
      refine XS.aloadN X9.here hexec rfl (hb hbytes d29) rfl rfl ?_
      exact Steps.refl _)
    obtain ⟨T11, X11, q11, st11⟩ := X9.hget hexec hown (wk W (.fieldLink "java/lang/String" 15 "java/lang/String" "coder" "B")) (hy.mv X9.warmed.alike hh9).2.2.1 (g := (mkF m 30 #[.val (.ref x), .val (.ref y), .val (.ref y)] [.ref y, .int cd])) rfl (rest := [.int cd]) rfl (hb hbytes d30)
    have hh11 := q11.trans hh9
    have c12 : Steps p.tables e below (s₁.setTop (entryFrame m #[.ref x, .ref y] 3)) (T11.setTop (mkF m 33 #[.val (.ref x), .val (.ref y), .val (.ref y)] [.int cd', .int cd])) := c10.trans (st11 _ (Steps.refl _))
    by_cases hcd : cd = cd'
    · subst hcd
      have c13 : Steps p.tables e below (s₁.setTop (entryFrame m #[.ref x, .ref y] 3)) (T11.setTop (mkF m 37 #[.val (.ref x), .val (.ref y), .val (.ref y)] [.ref x])) := c12.trans (by
        refine XS.icmpNo X11.here hexec rfl (hb hbytes d33) rfl (ii_ne_f rfl) ?_
        refine XS.aloadN X11.here hexec rfl (hb hbytes d36) rfl rfl ?_
        exact Steps.refl _)
      obtain ⟨T14, X14, q14, st14⟩ := X11.hget hexec hown (wk W (.fieldLink "java/lang/String" 9 "java/lang/String" "value" "[B")) (hx.mv X11.warmed.alike hh11).2.1 (g := (mkF m 37 #[.val (.ref x), .val (.ref y), .val (.ref y)] [.ref x])) rfl (rest := []) rfl (hb hbytes d37)
      have hh14 := q14.trans hh11
      have c15 : Steps p.tables e below (s₁.setTop (entryFrame m #[.ref x, .ref y] 3)) (T14.setTop (mkF m 41 #[.val (.ref x), .val (.ref y), .val (.ref y)] [.ref y, .ref t])) := (c13.trans (st14 _ (Steps.refl _))).trans (by
        refine XS.aloadN X14.here hexec rfl (hb hbytes d40) rfl rfl ?_
        exact Steps.refl _)
      obtain ⟨T16, X16, q16, st16⟩ := X14.hget hexec hown (wk W (.fieldLink "java/lang/String" 9 "java/lang/String" "value" "[B")) (hy.mv X14.warmed.alike hh14).2.1 (g := (mkF m 41 #[.val (.ref x), .val (.ref y), .val (.ref y)] [.ref y, .ref t])) rfl (rest := [.ref t]) rfl (hb hbytes d41)
      have hh16 := q16.trans hh14
      have c17 : Steps p.tables e below (s₁.setTop (entryFrame m #[.ref x, .ref y] 3)) (T16.setTop (mkF m 44 #[.val (.ref x), .val (.ref y), .val (.ref y)] [.ref t', .ref t])) := c15.trans (st16 _ (Steps.refl _))
      obtain ⟨v18, T18, X18, E18, g18⟩ := X16.callS hexec (LEq.law l t V t' V') hown (wks W (staticW "java/lang/String" 541 LEq.yN)) (wk W LEq.tab) (W := 0) (Nat.le_of_ble_eq_true rfl) (Nat.le_of_ble_eq_true rfl) (Nat.le_refl _) (Nat.le_refl _) (g := (mkF m 44 #[.val (.ref x), .val (.ref y), .val (.ref y)] [.ref t', .ref t])) rfl (by rw [hml]; rfl) c17 (argsL := [.ref t, .ref t']) (rest := []) rfl rfl (by show 2 * 0 + 0 ≤ _; decide) (hb hbytes d44) (⟨rfl, hx.2.2.2.1.mv X16.warmed.alike hh16, hx.2.2.2.2.1.ty, hy.2.2.2.1.mv X16.warmed.alike hh16, hy.2.2.2.2.1.ty⟩)
      obtain ⟨v, rfl, q18, hv⟩ := E18
      have iff := Cod.eqv hx.2.2.2.2.1 hy.2.2.2.2.1 hx.2.2.2.2.2 hy.2.2.2.2.2
      rcases hv with ⟨rfl, he⟩ | ⟨rfl, he⟩
      · have c19 : Steps p.tables e below (s₁.setTop (entryFrame m #[.ref x, .ref y] 3)) (T18.setTop (mkF m 55 #[.val (.ref x), .val (.ref y), .val (.ref y)] [.int 1])) := Steps.trans g18 (by
          refine XS.ifNo X18.here hexec rfl (hb hbytes d47) rfl (i0_eq_f (by decide)) ?_
          refine iconstV X18.here hexec rfl 1 (hb hbytes d50) (by decide) ?_
          refine XS.goto X18.here hexec rfl (pc0 := 51) rfl (hb hbytes d51) (by decide) rfl ?_
          exact Steps.refl _)
        exact ⟨T18, some (.int 1), _, _, _, X18, rfl, rfl, rfl, (fun h => by cases h), ⟨1, rfl, q18.trans hh16, Or.inl ⟨rfl, iff.mp he⟩⟩, fun fs hl => c19.trans (X18.ireturnOut hexec hret rfl (Or.inr (Or.inl rfl)) (hb hbytes d55) hl)⟩
      · have c19 : Steps p.tables e below (s₁.setTop (entryFrame m #[.ref x, .ref y] 3)) (T18.setTop (mkF m 55 #[.val (.ref x), .val (.ref y), .val (.ref y)] [.int 0])) := Steps.trans g18 (by
          refine XS.ifYes X18.here hexec rfl (pc0 := 47) rfl (hb hbytes d47) rfl (i0_eq_t rfl) (by decide) rfl ?_
          refine iconstV X18.here hexec rfl 0 (hb hbytes d54) (by decide) ?_
          exact Steps.refl _)
        exact ⟨T18, some (.int 0), _, _, _, X18, rfl, rfl, rfl, (fun h => by cases h), ⟨0, rfl, q18.trans hh16, Or.inr ⟨rfl, fun q => he (iff.mpr q)⟩⟩, fun fs hl => c19.trans (X18.ireturnOut hexec hret rfl (Or.inr (Or.inl rfl)) (hb hbytes d55) hl)⟩
    · have c13 : Steps p.tables e below (s₁.setTop (entryFrame m #[.ref x, .ref y] 3)) (T11.setTop (mkF m 55 #[.val (.ref x), .val (.ref y), .val (.ref y)] [.int 0])) := c12.trans (by
        refine XS.icmpYes X11.here hexec rfl (pc0 := 33) rfl (hb hbytes d33) rfl (ii_ne_t hcd) (by decide) rfl ?_
        refine iconstV X11.here hexec rfl 0 (hb hbytes d54) (by decide) ?_
        exact Steps.refl _)
      exact ⟨T11, some (.int 0), _, _, _, X11, rfl, rfl, rfl, (fun h => by cases h), ⟨0, rfl, hh11, Or.inr ⟨rfl, Cod.dif hx.2.2.2.2.1 hy.2.2.2.2.1 hcd⟩⟩, fun fs hl => c13.trans (X11.ireturnOut hexec hret rfl (Or.inr (Or.inl rfl)) (hb hbytes d55) hl)⟩
theorem pays {l : Launch} {R : Room} {p : Program} {e : Env} {below : List Frame} {s : State} {sargs : Array Value} {len W : Nat} (x t : Addr) (V : Cell) (cd : Int32) (n : Nat) (f : Nat → Int32) (y t' : Addr) (V' : Cell) (cd' : Int32) (k : Nat) (g : Nat → Int32) (z : Int32) (htab : tab.before sargs s = true) (hfr : 2 ≤ R.frames) (hlo : W + 28 ≤ R.locals) :
    Back l R p e below s sargs yN len W (fun A₁ a₁ => A₁.cells + 0 ≤ R.cells ∧ A₁.slots + 0 ≤ R.slots ∧ P x t V cd n f y t' V' cd' k g z a₁ A₁.U) (fun A₁ _ v₁ B₁ => Says01 (SameT n f k g) v₁ A₁.U B₁.U ∧ B₁.locs = A₁.locs ++ [] ∧ B₁.cells = A₁.cells + 0 ∧ B₁.slots = A₁.slots + 0) :=
  (law l x t V cd n f y t' V' cd' k g z).pays htab hfr (by omega)
end SEq
end StrChars
namespace StrChars.Road
open Jvm Sem ClassFile Op Lib Jvm.Stand Jvm.Free Jvm.Free.XT
open Jvm.Lib.Cold (StaticIs)
abbrev wordsEq : List Jvm.Cond := [.code SEq.yN SEq.yB 3 (some .boolean), .initialized ST, .classLink ST 10 ST, .fieldLink ST 38 ST "COMPACT_STRINGS" "Z", .fieldLink ST 15 ST "coder" "B", .fieldLink ST 9 ST "value" "[B", .methodLink ST 541 LEq.yN, .static LEq.yN, .code LEq.yN LEq.yB 3 (some .boolean), .initialized "java/lang/StringLatin1"]
theorem tabEq_of {a : Array Value} {s : State} (h : ∀ w ∈ wordsEq, w.before a s = true) : SEq.tab.before a s = true := by
  have hl : LEq.tab.before a s = true := unparts (wk h (.code LEq.yN LEq.yB 3 (some .boolean))) (wks h (.initialized LEq.yN.cls :: LEq.site))
  have q := consq hl h
  exact unparts (wk q (.code SEq.yN SEq.yB 3 (some .boolean))) (wks q (.initialized SEq.yN.cls :: SEq.site))
theorem movedEq {Z s : State} {a0 args : Array Value} (hZ : Z.Warmed39 s.vm) (hw : ∀ d ∈ wordsEq, d.before a0 Z = true) : ∀ d ∈ wordsEq, d.before args s = true := fun d hd => by
  have t : ∀ d ∈ wordsEq, (d.onTables && d.keepsFace) = true := by decide +kernel
  exact RoadKit.mv hZ (hw d hd) (t d hd)
theorem txt_of {Z U : State} {a0 : Array Value} {kI : Nat} (wi : (Jvm.Cond.instantiable ST kI).before a0 Z = true) (al : Z.vm.Alike U.vm) {x t : Addr} {kb : ClassId} {cs : List Int32} {cd N2 : Int32} {vs : List Value} (E : RoadKit.Exa Z U.heap x ST) (V : RoadKit.Fld Z U.heap x ST "value" "[B" (.ref t)) (C : RoadKit.Fld Z U.heap x ST "coder" "B" (.int cd)) (K : RoadKit.Arv Z U.heap t kb .byte N2 vs (.int 0)) (hc : CodA cs cd N2 vs) (hb : ∀ c ∈ cs, ¬ c < 0 ∧ ¬ (65535 : Int32) < c) (l2 : cs.length ≤ 4000) :
    ∃ A, Txt x t A cd cs.length (fun j => cs.getD j 0) U := by
  obtain ⟨A, K1, K2, K3, K4, K5, K6⟩ := K
  have hcod := hc.cod (by omega) K3 K5
  obtain ⟨D, fV, fC, hB, F1, F2, g1, g2, -, -⟩ := strObj wi al E V C
  exact ⟨A, ⟨_, hB.2.2.1, D, hB.1, rfl, by cases q : D.vm <;> first | rfl | exact absurd q (hB.2.1.2 _)⟩, Has.of hB F1 g1, Has.of hB F2 g2, ⟨K1.1, State.isArrayOf_alike al K1.2.1, K1.2.2, by rcases hcod with ⟨-, q, -⟩ | ⟨-, q, -⟩ <;> omega⟩, hcod, fun j hj => by
    have e : cs.getD j 0 = cs[j] := by simp [List.getD_eq_getElem?_getD, hj]
    show ¬ cs.getD j 0 < 0 ∧ ¬ 65535 < cs.getD j 0
    rw [e]; exact hb _ (List.getElem_mem _)⟩
theorem same_list (cs ds : List Int32) : SameT cs.length (fun j => cs.getD j 0) ds.length (fun j => ds.getD j 0) ↔ cs = ds := by
  constructor
  · rintro ⟨e, q⟩
    refine List.ext_getElem e fun j h1 h2 => ?_
    have := q j h1
    simpa [List.getD_eq_getElem?_getD, h1, h2] using this
  · rintro rfl
    exact ⟨rfl, fun _ _ => rfl⟩
theorem eqW {p : Program} {l : Launch} {e : Env} {R : Room} {s : State} {args : Array Value} {below : List Frame} {len W : Nat} {Z : State} {a0 : Array Value} {h : Heap} (hZ : Z.Warmed39 s.vm) (hw : ∀ d ∈ wordsEq, d.before a0 Z = true) {kI : Nat} (wi : (Jvm.Cond.instantiable ST kI).before a0 Z = true)
    {x t : Addr} {kb : ClassId} {cs : List Int32} {cd N2 : Int32} {vs : List Value} (E : RoadKit.Exa Z h x ST) (V : RoadKit.Fld Z h x ST "value" "[B" (.ref t)) (C : RoadKit.Fld Z h x ST "coder" "B" (.int cd)) (K : RoadKit.Arv Z h t kb .byte N2 vs (.int 0)) (hc : CodA cs cd N2 vs) (hb : ∀ c ∈ cs, ¬ c < 0 ∧ ¬ (65535 : Int32) < c) (l2 : cs.length ≤ 4000)
    {y t' : Addr} {kb' : ClassId} {ds : List Int32} {cd' N2' : Int32} {vs' : List Value} (E' : RoadKit.Exa Z h y ST) (V' : RoadKit.Fld Z h y ST "value" "[B" (.ref t')) (C' : RoadKit.Fld Z h y ST "coder" "B" (.int cd')) (K' : RoadKit.Arv Z h t' kb' .byte N2' vs' (.int 0)) (hc' : CodA ds cd' N2' vs') (hb' : ∀ c ∈ ds, ¬ c < 0 ∧ ¬ (65535 : Int32) < c) (l2' : ds.length ≤ 4000)
    {z : Int32} (S : RoadKit.Sta Z h ST "COMPACT_STRINGS" "Z" (.int z)) (hz : ¬ z = 0) (hfr : 2 ≤ R.frames) (hlo : W + 28 ≤ R.locals) :
    Back l R p e below s args (⟨"java/lang/String", "equals", "(Ljava/lang/Object;)Z"⟩ : MethodName) len W (fun P a => a = #[.ref x, .ref y] ∧ P.U.heap = h ∧ P.cells + 0 ≤ R.cells ∧ P.slots + 0 ≤ R.slots)
      (fun P _ v B => ∃ L, (((v = some (.int 1) ∧ cs = ds) ∨ (v = some (.int 0) ∧ ¬ cs = ds)) ∧ L = [] ∧ B.U.heap = h) ∧ B.locs = P.locs ++ L ∧ B.cells = P.cells + 0 ∧ B.slots = P.slots + 0) := by
  intro m meth c P g ig mk a X hg hsize hdg hW hn hp'
  obtain ⟨rfl, rfl, r1, r2⟩ := hp'
  have al : Z.vm.Alike P.U.vm := hZ.alike.trans X.warmed.alike
  obtain ⟨A, hx⟩ := txt_of wi al E V C K hc hb l2
  obtain ⟨A', hy⟩ := txt_of wi al E' V' C' K' hc' hb' l2'
  obtain ⟨v, B, X', ⟨⟨w, hv, hh, hq⟩, hl, hk, hs⟩, st⟩ := SEq.pays x t A cd cs.length (fun j => cs.getD j 0) y t' A' cd' ds.length (fun j => ds.getD j 0) z (tabEq_of (movedEq hZ hw)) hfr hlo m meth c P g ig mk _ X hg hsize hdg hW hn ⟨r1, r2, rfl, hx, hy, sta_is al S, hz⟩
  refine ⟨v, B, X', ⟨[], ⟨?_, rfl, hh⟩, hl, hk, hs⟩, st⟩
  rcases hq with ⟨rfl, q⟩ | ⟨rfl, q⟩
  · exact Or.inl ⟨hv, (same_list cs ds).mp q⟩
  · exact Or.inr ⟨hv, fun e => q ((same_list cs ds).mpr e)⟩
end StrChars.Road
end Jvm.Pilot.@@N@@

namespace Jvm.Pilot.@@N@@
open Jvm Jvm.ClassFile Sem Op Lib Jvm.Free Jvm.Stand Jvm.LawKit Jvm.RoadKit Bundle Jvm.Pilot.@@N@@.Jvm.D
section Own
variable {p : Program} {l : Launch} {e : Env} {R : Room} {s : State} {m : MethodId} {args : Array Value} {below : List Frame} {meth : Method} {c : Code} {T : State} {locs : List Loc} {cells slots : Nat} {P : Outcome → State → Prop}
/-- from S the run comes to an end that answers -/
def own_Fin (p : Program) (e : Env) (below : List Frame) (P : Outcome → State → Prop) (S : State) : Prop := ∃ s₂ o, Steps p.tables e below S s₂ ∧ s₂.status = .running ∧ Ended s₂ below o ∧ P o s₂
def own_Ans (s : State) (Q : Option Value → Heap → List Loc → Prop) (k n : Nat) (o : Outcome) (t : State) : Prop := ∃ v L, o = .returned v ∧ Q v t.heap L ∧ FrameEnd s o t L k n
theorem own_on {A B : State} (k : ∀ t, Steps p.tables e below B t → Steps p.tables e below A t) (h : own_Fin p e below P B) : own_Fin p e below P A := by
  obtain ⟨s₂, o, h1, h2⟩ := h
  exact ⟨s₂, o, k _ h1, h2⟩
theorem own_via {A B : State} (k : Steps p.tables e below A B) (h : own_Fin p e below P B) : own_Fin p e below P A := own_on (fun _ r => k.trans r) h
theorem own_cast {g g' : JFrame} (q : g = g') (h : own_Fin p e below P (T.setTop g')) : own_Fin p e below P (T.setTop g) := q ▸ h
theorem own_ret {Q : Option Value → Heap → List Loc → Prop} {k n : Nat} (X : Stand p l e R s m args below meth c T locs cells slots) (hx : p.tables.exec = Jvm.exec) (hlk : meth.locks = false) {pc : Nat} {Ls : Array Slot} {w : Value} {t : FieldType} {i : Instr} {rest : List Value} (hret : meth.sig.returnType = some t) (hn : narrow t w = w)
    (hi : (i = .ireturn ∧ (t = .int ∨ t = .boolean ∨ t = .byte ∨ t = .char ∨ t = .short) ∧ ∃ z, w = .int z) ∨ (i = .lreturn ∧ t = .long ∧ ∃ z, w = .long z) ∨ (i = .dreturn ∧ t = .double ∧ ∃ z, w = .double z) ∨ (i = .freturn ∧ t = .float ∧ ∃ z, w = .float z) ∨ (i = .areturn ∧ t.isReference = true ∧ w.isRef = true))
    (hd : decode c.code pc = .ok (i, 1)) (hQ : Q (some w) T.heap locs) (hk : cells ≤ k) (hs : slots ≤ n) : own_Fin p e below (own_Ans s Q k n) (T.setTop (mkF m pc Ls (w :: rest))) := by
  obtain ⟨fs, hr, hrun, hended, hW, hsame⟩ := X.leave (v := some w) (fun h => by rw [hret] at h; cases h) hlk
  exact ⟨_, _, retOut X hx hret hn hi hd hr, hrun, hended, _, _, rfl, hQ, ⟨_, rfl⟩, hW, hsame.mono hk hs⟩
theorem own_retV {Q : Option Value → Heap → List Loc → Prop} {k n : Nat} (X : Stand p l e R s m args below meth c T locs cells slots) (hx : p.tables.exec = Jvm.exec) (hlk : meth.locks = false) {pc : Nat} {Ls : Array Slot} (hret : meth.sig.returnType = none)
    (hd : decode c.code pc = .ok (.return_, 1)) (hQ : Q none T.heap locs) (hk : cells ≤ k) (hs : slots ≤ n) : own_Fin p e below (own_Ans s Q k n) (T.setTop (mkF m pc Ls [])) := by
  obtain ⟨fs, hr, hrun, hended, hW, hsame⟩ := X.leave (v := none) (fun _ => rfl) hlk
  exact ⟨_, _, X.returnOut hx hret hd hr, hrun, hended, _, _, rfl, hQ, ⟨_, rfl⟩, hW, hsame.mono hk hs⟩
theorem own_b1 {P : Prop} [Decidable P] (h : P) : ¬ ((if P then (1 : Int32) else 0) = 0) := by simp [h]
theorem own_b0 {P : Prop} [Decidable P] (h : ¬ P) : (if P then (1 : Int32) else 0) = 0 := by simp [h]
theorem own_nb {P : Prop} [Decidable P] : narrow .boolean (.int (if P then (1 : Int32) else 0)) = .int (if P then (1 : Int32) else 0) := by split <;> rfl
theorem own_iI {t : FieldType} (h : t = .int ∨ t = .boolean ∨ t = .byte ∨ t = .char ∨ t = .short) {w : Value} {z : Int32} (hw : w = .int z) : ((Instr.ireturn = .ireturn ∧ (t = .int ∨ t = .boolean ∨ t = .byte ∨ t = .char ∨ t = .short) ∧ ∃ z, w = .int z) ∨ (Instr.ireturn = .lreturn ∧ t = .long ∧ ∃ z, w = .long z) ∨ (Instr.ireturn = .dreturn ∧ t = .double ∧ ∃ z, w = .double z) ∨ (Instr.ireturn = .freturn ∧ t = .float ∧ ∃ z, w = .float z) ∨ (Instr.ireturn = .areturn ∧ t.isReference = true ∧ w.isRef = true)) := Or.inl ⟨rfl, h, z, hw⟩
theorem own_ne_of {Z : State} {h : Heap} {x : Addr} (q : x < h.size) {b : Addr} (g : b = h.size) : x ≠ b := Nat.ne_of_lt (Nat.lt_of_lt_of_le q (Nat.le_of_eq g.symm))
theorem own_eqf {a0 : Array Value} {C n d : String} {t : Term} {a : Addr} {k : Int32} (ev : t.eval a0 s none [] s = some (.ref a)) (h : (Jvm.Cond.eq (.field t C n d) (.int k)).value a0 s none s [] = some true) : Fld s s.heap a C n d (.int k) := by
  obtain ⟨x, y, h1, h2, h3, -⟩ := cmp_v (Or.inl h)
  have hy : y = .int k := (Option.some.inj ((show (Term.int k).eval a0 s none [] s = some (.int k) from rfl).symm.trans h2)).symm
  subst hy
  cases x <;> simp [Kin, Value.isRef] at h3
  rename_i z
  have hz : z = k := by
    have q := h
    simp only [Cond.value, h1, show (Term.int k).eval a0 s none [] s = some (.int k) from rfl] at q
    simpa using q
  subst hz
  exact Fld.start ((fld_at ev).symm.trans h1)
theorem own_nf {a0 : Array Value} {C : String} {y z y' : MethodName} (hsel : (Jvm.Cond.selects C y z).before a0 s = true) (hc : y'.cls = z.cls) : NotFace s y' := fun r0 h0 => by
  obtain ⟨c2, r2, m2, q1, q2, q3, q4, kP, hkP, hkPi⟩ := Cond.selects_spec hsel
  have e1 := findClass_of_methodNamed h0
  have e2 := findClass_of_methodNamed q3
  rw [hc] at e1
  have e3 : r0.cls = m2.cls := Option.some.inj (e1.symm.trans e2)
  exact ⟨kP, by rw [e3]; exact hkP, hkPi⟩
theorem own_len {a0 : Array Value} {t : Term} {a : Addr} {cl : Cell} {z : Int32} (ht : t.eval a0 s none [] s = some (.ref a)) (ha : s.arrayAt? a = some cl) (h : (Term.length t).eval a0 s none [] s = some (.int z)) : cl.slots.size < 2 ^ 31 ∧ cl.slots.size.toInt32 = z := by
  by_cases hl : cl.slots.size < 2 ^ 31
  · rw [len_f ht ha hl] at h
    exact ⟨hl, by simpa using h⟩
  · have hl' : ¬ cl.slots.size < 2147483648 := hl
    simp [Term.eval, ht, ha, hl'] at h
theorem own_sub {a0 : Array Value} {t u : Term} {idx : List Nat} {x y : Int32} (h1 : t.eval a0 s none idx s = some (.int x)) (h2 : u.eval a0 s none idx s = some (.int y)) : (Term.sub t u).eval a0 s none idx s = some (.int (x - y)) := by simp [Term.eval, h1, h2]
theorem own_eqx {a0 : Array Value} {t u : Term} {b : Addr} (eu : u.eval a0 s none [] s = some (.ref b)) (h : (Jvm.Cond.eq t u).value a0 s none s [] = some true) : t.eval a0 s none [] s = some (.ref b) := by
  obtain ⟨x, y, h1, h2, h3, -⟩ := cmp_v (Or.inl h)
  cases eu.symm.trans h2
  have hr : x.isRef = true := by cases x <;> simp [Kin, Value.isRef] at h3 ⊢
  have q := gotT (eq_R h1 eu hr rfl) h
  subst q
  exact h1
theorem own_eqr {a0 : Array Value} {C n d : String} {t u : Term} {a b : Addr} (ev : t.eval a0 s none [] s = some (.ref a)) (eu : u.eval a0 s none [] s = some (.ref b)) (h : (Jvm.Cond.eq (.field t C n d) u).value a0 s none s [] = some true) : Fld s s.heap a C n d (.ref b) := by
  obtain ⟨x, y, h1, h2, h3, -⟩ := cmp_v (Or.inl h)
  cases eu.symm.trans h2
  have hr : x.isRef = true := by cases x <;> simp [Kin, Value.isRef] at h3 ⊢
  have q := gotT (eq_R h1 eu hr rfl) h
  subst q
  exact Fld.start ((fld_at ev).symm.trans h1)
end Own
theorem own_narc {x : Int32} (h : ¬ x < 0 ∧ ¬ (255 : Int32) < x) : nar .char x = x := by
  have b := c_i2c x
  have z0 : (0 : Int32).toInt = 0 := by decide
  have z1 : (255 : Int32).toInt = 255 := by decide
  rw [Int32.lt_iff_toInt_lt, Int32.lt_iff_toInt_lt] at h
  rw [← Int32.toInt_inj]
  show x.toUInt32.toUInt16.toUInt32.toInt32.toInt = _
  omega
theorem own_c255 (x : Int32) : ¬ (x &&& (255 : Int32)).toUInt32.toUInt16.toUInt32.toInt32 < 0 ∧ ¬ (255 : Int32) < (x &&& (255 : Int32)).toUInt32.toUInt16.toUInt32.toInt32 := by
  have a := c_i2c (x &&& (255 : Int32))
  have m := c_mask x 255 8 (by decide) (by decide)
  have z0 : (0 : Int32).toInt = 0 := by decide
  have z1 : (255 : Int32).toInt = 255 := by decide
  rw [Int32.lt_iff_toInt_lt, Int32.lt_iff_toInt_lt]
  omega
theorem own_r16 {cs : List Int32} (h : ∀ c ∈ cs, ¬ c < 0 ∧ ¬ (255 : Int32) < c) : ∀ c ∈ cs, ¬ c < 0 ∧ ¬ (65535 : Int32) < c := fun c q => ⟨(h c q).1, fun z => (h c q).2 (by
  have z1 : (255 : Int32).toInt = 255 := by decide
  have z2 : (65535 : Int32).toInt = 65535 := by decide
  rw [Int32.lt_iff_toInt_lt] at z ⊢
  omega)⟩
theorem own_and3 (x : Int32) : x &&& 3 = 0 ∨ x &&& 3 = 1 ∨ x &&& 3 = 2 ∨ x &&& 3 = 3 := by
  have m := c_mask x 3 2 (by decide) (by decide)
  have z0 : (0 : Int32).toInt = 0 := by decide
  have z1 : (1 : Int32).toInt = 1 := by decide
  have z2 : (2 : Int32).toInt = 2 := by decide
  have z3 : (3 : Int32).toInt = 3 := by decide
  rw [← Int32.toInt_inj, ← Int32.toInt_inj, ← Int32.toInt_inj, ← Int32.toInt_inj]
  omega
theorem own_eq1 {v : Option Value} {cs ds : List Int32} (h : (v = some (.int 1) ∧ cs = ds) ∨ (v = some (.int 0) ∧ ¬ cs = ds)) (q : cs = ds) : v = some (.int (1 : Int32)) := by
  rcases h with h | h
  · exact h.1
  · exact absurd q h.2
theorem own_eq0 {v : Option Value} {cs ds : List Int32} (h : (v = some (.int 1) ∧ cs = ds) ∨ (v = some (.int 0) ∧ ¬ cs = ds)) (q : ¬ cs = ds) : v = some (.int (0 : Int32)) := by
  rcases h with h | h
  · exact absurd h.2 q
  · exact h.1
theorem own_cod {cs : List Int32} {n : Nat} (hn : cs.length = n) (hb : ∀ c ∈ cs, ¬ (255 : Int32) < c) : StrChars.Road.CodA cs 0 (Int32.ofNat n) ((cs.map StrChars.lo8).map Value.int) := by
  subst hn
  exact Or.inl ⟨rfl, rfl, by rw [List.map_map]; rfl, hb⟩
theorem own_wE {Z : State} {a0 : Array Value} (hw : ∀ d ∈ tables_1, d.before a0 Z = true) : ∀ d ∈ StrChars.Road.wordsEq, d.before a0 Z = true := by
  intro d hd
  simp only [StrChars.Road.wordsEq, List.mem_cons, List.not_mem_nil, or_false] at hd
  rcases hd with rfl | rfl | rfl | rfl | rfl | rfl | rfl | rfl | rfl | rfl
  · exact (hw _ (List.mem_of_getElem? (i := 182) rfl))
  · exact (hw _ (List.mem_of_getElem? (i := 2) rfl))
  · exact (hw _ (List.mem_of_getElem? (i := 9) rfl))
  · exact (hw _ (List.mem_of_getElem? (i := 4) rfl))
  · exact (hw _ (List.mem_of_getElem? (i := 24) rfl))
  · exact (hw _ (List.mem_of_getElem? (i := 22) rfl))
  · exact (hw _ (List.mem_of_getElem? (i := 194) rfl))
  · exact (hw _ (List.mem_of_getElem? (i := 195) rfl))
  · exact (hw _ (List.mem_of_getElem? (i := 196) rfl))
  · exact (hw _ (List.mem_of_getElem? (i := 7) rfl))
theorem own_narb (x : Int32) : nar .byte x.toInt8.toInt32 = StrChars.lo8 x := by
  show x.toInt8.toInt32.toInt8.toInt32 = x.toInt8.toInt32
  simp
theorem own_l1 {a b : Int32} (h : ¬ a = b) : ¬ [a] = [b] := by simpa using h
theorem pn_0 : plainName "java/lang/StringLatin1" = true := by first | (simp [plainName, overriddenIn]; done) | decide +kernel
theorem d2_0 : decode jdk_43_method_3_code 0 = .ok (.iload_n 0, 1) := by decide +kernel
theorem d2_1 : decode jdk_43_method_3_code 1 = .ok (.sipush 255, 3) := by decide +kernel
theorem d2_4 : decode jdk_43_method_3_code 4 = .ok (.if_icmp .gt 7, 3) := by decide +kernel
theorem d2_7 : decode jdk_43_method_3_code 7 = .ok (.iconst 1, 1) := by decide +kernel
theorem d2_8 : decode jdk_43_method_3_code 8 = .ok (.goto 4, 3) := by decide +kernel
theorem d2_12 : decode jdk_43_method_3_code 12 = .ok (.ireturn, 1) := by decide +kernel
theorem ef_rm2 (m : MethodId) (x0 : Int32) : entryFrame m #[(.int x0)] 1 = mkF m 0 #[.val (.int x0)] [] := by first | (simp [entryFrame, mkF, argsToLocals, Value.category]; done) | rfl
def Q2 (Z : State) (c : Int32) (h0 : Heap) (n0 : Nat) (v : Option Value) (h : Heap) (L : List Loc) : Prop := v = some (.int (1 : Int32)) ∧ Fr n0 L ∧ h = h0
set_option maxRecDepth 65536 in
set_option maxHeartbeats 40000000 in
theorem rm2 (l : Launch) (Z : State) (a0 : Array Value) (hw : ∀ d ∈ tables_1, d.before a0 Z = true) (ws : List Jvm.Cond) (c : Int32) (h0 : Heap) (n0 : Nat) (Z0 : n0 ≤ h0.size) (hc : ¬ (255 : Int32) < c) :
    MetFree l (⟨"java/lang/StringLatin1", "canEncode", "(C)Z"⟩ : MethodName) (head1 (Jvm.Cond.code (⟨"java/lang/StringLatin1", "canEncode", "(C)Z"⟩ : MethodName) jdk_43_method_3_code 1 (some .boolean) :: ws) ({ frames := 0, cells := 0, slots := 0, locals := 0 } : Room)) (fun as_ U => as_ = #[(.int c)] ∧ Z.Warmed39 U.vm ∧ U.heap = h0) (fun _ _ _ _ _ => True) (fun _ U out_ U' => ∃ v L, out_ = .returned v ∧ Q2 Z c h0 n0 v U'.heap L ∧ FrameEnd U out_ U' L ({ frames := 0, cells := 0, slots := 0, locals := 0 } : Room).cells ({ frames := 0, cells := 0, slots := 0, locals := 0 } : Room).slots) := by
  refine MetFree.of_bodySF (plainFor_of_name pn_0) hisR ?_
  intro p e s m args below meth cd s₁ Bd hml0 hP hK
  obtain ⟨rfl, hZ, hh⟩ := hP
  have hx := Bd.exec
  have hby := Bd.bytes
  have hml : cd.maxLocals = 1 := hml0
  have hlk : meth.locks = false := BodyLoose.notSynchronized Bd
  have hown : s.vm.findClass "java/lang/StringLatin1" = some m.cls := findClass_of_methodNamed Bd.named
  have hnm := (name_of_methodNamed Bd.named Bd.method).1
  have hret := Bd.returns
  have X0 : Stand p l e ({ frames := 0, cells := 0, slots := 0, locals := 0 } : Room) s m #[(.int c)] below meth cd s₁ [] 0 0 := Stand.of_body Bd
  have e0 : s₁.heap = h0 := by rw [← hh, Bd.state]; rfl
  have N0 := Fr.nil n0
  show own_Fin p e below (own_Ans s (Q2 Z c h0 n0) ({ frames := 0, cells := 0, slots := 0, locals := 0 } : Room).cells ({ frames := 0, cells := 0, slots := 0, locals := 0 } : Room).slots) (s₁.setTop (entryFrame m #[(.int c)] 1))
  refine own_cast (ef_rm2 m c) ?_
  show own_Fin p e below _ (s₁.setTop (mkF m 0 #[.val (.int c)] []))
  refine own_on (fun tq => XS.iloadN X0.here hx rfl (hb hby d2_0) rfl) ?_
  show own_Fin p e below _ (s₁.setTop (mkF m 1 #[.val (.int c)] [(.int c)]))
  refine own_on (fun tq => XS.sipush X0.here hx rfl (hb hby d2_1)) ?_
  show own_Fin p e below _ (s₁.setTop (mkF m 4 #[.val (.int c)] [(.int (255 : Int32)), (.int c)]))
  refine own_on (fun tq => XS.icmpNo X0.here hx rfl (hb hby d2_4) rfl (flt hc).2.2.1) ?_
  show own_Fin p e below _ (s₁.setTop (mkF m 7 #[.val (.int c)] []))
  refine own_on (fun tq => XS.iconst X0.here hx rfl (hb hby d2_7)) ?_
  show own_Fin p e below _ (s₁.setTop (mkF m 8 #[.val (.int c)] [(.int (1 : Int32))]))
  refine own_on (fun tq => XS.goto X0.here hx rfl (pc0 := 8) (pc' := 12) rfl (hb hby d2_8) (by decide) (by decide)) ?_
  show own_Fin p e below _ (s₁.setTop (mkF m 12 #[.val (.int c)] [(.int (1 : Int32))]))
  exact own_ret (t := .boolean) X0 hx hlk hret rfl (Or.inl ⟨rfl, (by simp), _, rfl⟩) (hb hby d2_12) (⟨rfl, N0, e0⟩) (by decide) (by decide)
theorem d3_0 : decode jdk_43_method_46_code 0 = .ok (.iconst 1, 1) := by decide +kernel
theorem d3_1 : decode jdk_43_method_46_code 1 = .ok (.newarray .byte, 2) := by decide +kernel
theorem d3_3 : decode jdk_43_method_46_code 3 = .ok (.dup, 1) := by decide +kernel
theorem d3_4 : decode jdk_43_method_46_code 4 = .ok (.iconst 0, 1) := by decide +kernel
theorem d3_5 : decode jdk_43_method_46_code 5 = .ok (.iload_n 0, 1) := by decide +kernel
theorem d3_6 : decode jdk_43_method_46_code 6 = .ok (.i2b, 1) := by decide +kernel
theorem d3_7 : decode jdk_43_method_46_code 7 = .ok (.bastore, 1) := by decide +kernel
theorem d3_8 : decode jdk_43_method_46_code 8 = .ok (.areturn, 1) := by decide +kernel
theorem ef_rm3 (m : MethodId) (x0 : Int32) : entryFrame m #[(.int x0)] 1 = mkF m 0 #[.val (.int x0)] [] := by first | (simp [entryFrame, mkF, argsToLocals, Value.category]; done) | rfl
def Q3 (Z : State) (c : Int32) (h0 : Heap) (n0 : Nat) (v : Option Value) (h : Heap) (L : List Loc) : Prop := ∃ (b : Addr) (kb : ClassId), v = some (.ref b) ∧ Fr n0 L ∧ Keep h0 h [] ∧ n0 ≤ b ∧ h0.size ≤ b ∧ Arv Z h b kb .byte (1 : Int32) (([c].map StrChars.lo8).map Value.int) (.int 0)
set_option maxRecDepth 65536 in
set_option maxHeartbeats 40000000 in
theorem rm3 (l : Launch) (Z : State) (a0 : Array Value) (hw : ∀ d ∈ tables_1, d.before a0 Z = true) (ws : List Jvm.Cond) (c : Int32) (h0 : Heap) (n0 : Nat) (Z0 : n0 ≤ h0.size) :
    MetFree l (⟨"java/lang/StringLatin1", "toBytes", "(C)[B"⟩ : MethodName) (head1 (Jvm.Cond.code (⟨"java/lang/StringLatin1", "toBytes", "(C)[B"⟩ : MethodName) jdk_43_method_46_code 1 (some (.array .byte)) :: ws) ({ frames := 0, cells := 1, slots := 1, locals := 0 } : Room)) (fun as_ U => as_ = #[(.int c)] ∧ Z.Warmed39 U.vm ∧ U.heap = h0) (fun _ _ _ _ _ => True) (fun _ U out_ U' => ∃ v L, out_ = .returned v ∧ Q3 Z c h0 n0 v U'.heap L ∧ FrameEnd U out_ U' L ({ frames := 0, cells := 1, slots := 1, locals := 0 } : Room).cells ({ frames := 0, cells := 1, slots := 1, locals := 0 } : Room).slots) := by
  refine MetFree.of_bodySF (plainFor_of_name pn_0) hisR ?_
  intro p e s m args below meth cd s₁ Bd hml0 hP hK
  obtain ⟨rfl, hZ, hh⟩ := hP
  have hx := Bd.exec
  have hby := Bd.bytes
  have hml : cd.maxLocals = 1 := hml0
  have hlk : meth.locks = false := BodyLoose.notSynchronized Bd
  have hown : s.vm.findClass "java/lang/StringLatin1" = some m.cls := findClass_of_methodNamed Bd.named
  have hnm := (name_of_methodNamed Bd.named Bd.method).1
  have hret := Bd.returns
  have X0 : Stand p l e ({ frames := 0, cells := 1, slots := 1, locals := 0 } : Room) s m #[(.int c)] below meth cd s₁ [] 0 0 := Stand.of_body Bd
  have e0 : s₁.heap = h0 := by rw [← hh, Bd.state]; rfl
  have N0 := Fr.nil n0
  show own_Fin p e below (own_Ans s (Q3 Z c h0 n0) ({ frames := 0, cells := 1, slots := 1, locals := 0 } : Room).cells ({ frames := 0, cells := 1, slots := 1, locals := 0 } : Room).slots) (s₁.setTop (entryFrame m #[(.int c)] 1))
  refine own_cast (ef_rm3 m c) ?_
  show own_Fin p e below _ (s₁.setTop (mkF m 0 #[.val (.int c)] []))
  refine own_on (fun tq => XS.iconst X0.here hx rfl (hb hby d3_0)) ?_
  show own_Fin p e below _ (s₁.setTop (mkF m 1 #[.val (.int c)] [(.int (1 : Int32))]))
  obtain ⟨T1, h1, k1, X1, e1, E1, A1, st1⟩ := newP X0 hx hZ (hw _ (List.mem_of_getElem? (i := 14) rfl)) e0 (g := (mkF m 1 #[.val (.int c)] [(.int (1 : Int32))])) rfl (hb hby d3_1) rfl (by decide) (cap := 1) (by decide) (by decide) (by decide) (by decide)
  obtain ⟨b1, g1⟩ : ∃ z, z = h0.size := ⟨_, rfl⟩
  rw [← g1] at A1 st1
  have y2 := ((Keep.refl h0 []).ext E1)
  have y3 := (Nat.le_trans Z0 E1.1)
  have gn1 : n0 ≤ b1 := Nat.le_trans Z0 (Nat.le_of_eq g1.symm)
  have gk1 : h0.size ≤ b1 := Nat.le_trans (Keep.refl h0 []).1 (Nat.le_of_eq g1.symm)
  have V1 : Arv Z h1 b1 k1 .byte (1 : Int32) [(.int (0 : Int32))] (.int (0 : Int32)) := (Arv.new A1 (by decide)).pad (pad_rep [] (.int (0 : Int32)) 1)
  refine own_on st1 ?_
  show own_Fin p e below _ (T1.setTop (mkF m 3 #[.val (.int c)] [(.ref b1)]))
  refine own_on (fun tq => XS.dup X1.here hx rfl (hb hby d3_3) rfl rfl) ?_
  show own_Fin p e below _ (T1.setTop (mkF m 4 #[.val (.int c)] [(.ref b1), (.ref b1)]))
  refine own_on (fun tq => XS.iconst X1.here hx rfl (hb hby d3_4)) ?_
  show own_Fin p e below _ (T1.setTop (mkF m 5 #[.val (.int c)] [(.int (0 : Int32)), (.ref b1), (.ref b1)]))
  refine own_on (fun tq => XS.iloadN X1.here hx rfl (hb hby d3_5) rfl) ?_
  show own_Fin p e below _ (T1.setTop (mkF m 6 #[.val (.int c)] [(.int c), (.int (0 : Int32)), (.ref b1), (.ref b1)]))
  refine own_on (fun tq => XS.i2b X1.here hx rfl (hb hby d3_6) rfl) ?_
  show own_Fin p e below _ (T1.setTop (mkF m 7 #[.val (.int c)] [(.int (c.toInt8.toInt32)), (.int (0 : Int32)), (.ref b1), (.ref b1)]))
  have cp4 := V1
  obtain ⟨cl4, Ar4, q4, S4, G4, H4, F4⟩ := cp4
  have hin4 : ¬ ((0 : Int32) < 0 ∨ cl4.slots.size ≤ ((0 : Int32)).toNatClampNeg) := inb_of S4 ⟨by decide, by decide⟩
  obtain ⟨T4, h4, X4, e4, W4, st4⟩ := stB X1 hx hZ e1 Ar4 (j := (0 : Int32)) hin4 (g := (mkF m 7 #[.val (.int c)] [(.int (c.toInt8.toInt32)), (.int (0 : Int32)), (.ref b1), (.ref b1)])) rfl rfl (hb hby d3_7)
  have V4 : Arv Z h4 b1 k1 .byte (1 : Int32) [(.int (nar .byte (c.toInt8.toInt32)))] (.int (0 : Int32)) := Arv.set Ar4 q4 S4 G4 H4 F4 (fits_nar_byte _) W4 0 rfl (Nat.le_of_ble_eq_true rfl)
  have N4 := Fr.snoc X4 N0 gn1
  have y5 := (y2.wr W4 (Or.inr gk1))
  have y6 := (Nat.le_trans y3 (Keep.of_wr W4).1)
  refine own_on st4 ?_
  show own_Fin p e below _ (T4.setTop (mkF m 8 #[.val (.int c)] [(.ref b1)]))
  exact own_ret (t := (.array .byte)) X4 hx hlk hret rfl (Or.inr (Or.inr (Or.inr (Or.inr ⟨rfl, rfl, rfl⟩)))) (hb hby d3_8) (by show Q3 Z c h0 n0 _ T4.heap _; rw [e4]; exact ⟨b1, k1, rfl, N4, y5, gn1, gk1, (by have q := V4; rw [own_narb] at q; exact q)⟩) (by decide) (by decide)
theorem pn_1 : plainName "java/lang/String" = true := by first | (simp [plainName, overriddenIn]; done) | decide +kernel
theorem d4_0 : decode jdk_42_method_151_code 0 = .ok (.aload_n 0, 1) := by decide +kernel
theorem d4_1 : decode jdk_42_method_151_code 1 = .ok (.invokespecial 1, 3) := by decide +kernel
theorem d4_4 : decode jdk_42_method_151_code 4 = .ok (.aload_n 0, 1) := by decide +kernel
theorem d4_5 : decode jdk_42_method_151_code 5 = .ok (.aload_n 1, 1) := by decide +kernel
theorem d4_6 : decode jdk_42_method_151_code 6 = .ok (.putfield 9, 3) := by decide +kernel
theorem d4_9 : decode jdk_42_method_151_code 9 = .ok (.aload_n 0, 1) := by decide +kernel
theorem d4_10 : decode jdk_42_method_151_code 10 = .ok (.iload_n 2, 1) := by decide +kernel
theorem d4_11 : decode jdk_42_method_151_code 11 = .ok (.putfield 15, 3) := by decide +kernel
theorem d4_14 : decode jdk_42_method_151_code 14 = .ok (.return_, 1) := by decide +kernel
theorem ef_rm4 (m : MethodId) (x0 : Addr) (x1 : Addr) (x2 : Int32) : entryFrame m #[(.ref x0), (.ref x1), (.int x2)] 3 = mkF m 0 #[.val (.ref x0), .val (.ref x1), .val (.int x2)] [] := by first | (simp [entryFrame, mkF, argsToLocals, Value.category]; done) | rfl
def Q4 (Z : State) (a : Addr) (t : Addr) (h0 : Heap) (n0 : Nat) (v : Option Value) (h : Heap) (L : List Loc) : Prop := v = none ∧ Fr n0 L ∧ Keep h0 h [a] ∧ Exa Z h a "java/lang/String" ∧ Fld Z h a "java/lang/String" "coder" "B" (.int 0) ∧ Fld Z h a "java/lang/String" "value" "[B" (.ref t)
set_option maxRecDepth 65536 in
set_option maxHeartbeats 40000000 in
theorem rm4 (l : Launch) (Z : State) (a0 : Array Value) (hw : ∀ d ∈ tables_1, d.before a0 Z = true) (ws : List Jvm.Cond) (a : Addr) (t : Addr) (h0 : Heap) (n0 : Nat) (Z0 : n0 ≤ h0.size) (E : Exa Z h0 a "java/lang/String") (V0 : Fld Z h0 a "java/lang/String" "value" "[B" .null) (C0 : Fld Z h0 a "java/lang/String" "coder" "B" (.int (0 : Int32))) (ga : n0 ≤ a) :
    MetFree l (⟨"java/lang/String", "<init>", "([BB)V"⟩ : MethodName) (head1 (Jvm.Cond.code (⟨"java/lang/String", "<init>", "([BB)V"⟩ : MethodName) jdk_42_method_151_code 3 none :: ws) ({ frames := 1, cells := 0, slots := 0, locals := 12 } : Room)) (fun as_ U => as_ = #[(.ref a), (.ref t), (.int (0 : Int32))] ∧ Z.Warmed39 U.vm ∧ U.heap = h0) (fun _ _ _ _ _ => True) (fun _ U out_ U' => ∃ v L, out_ = .returned v ∧ Q4 Z a t h0 n0 v U'.heap L ∧ FrameEnd U out_ U' L ({ frames := 1, cells := 0, slots := 0, locals := 12 } : Room).cells ({ frames := 1, cells := 0, slots := 0, locals := 12 } : Room).slots) := by
  refine MetFree.of_bodySF (plainFor_of_name pn_1) hisR ?_
  intro p e s m args below meth cd s₁ Bd hml0 hP hK
  obtain ⟨rfl, hZ, hh⟩ := hP
  have hx := Bd.exec
  have hby := Bd.bytes
  have hml : cd.maxLocals = 3 := hml0
  have hlk : meth.locks = false := BodyLoose.notSynchronized Bd
  have hown : s.vm.findClass "java/lang/String" = some m.cls := findClass_of_methodNamed Bd.named
  have hnm := (name_of_methodNamed Bd.named Bd.method).1
  have hret := Bd.returns
  have X0 : Stand p l e ({ frames := 1, cells := 0, slots := 0, locals := 12 } : Room) s m #[(.ref a), (.ref t), (.int (0 : Int32))] below meth cd s₁ [] 0 0 := Stand.of_body Bd
  have e0 : s₁.heap = h0 := by rw [← hh, Bd.state]; rfl
  have N0 := Fr.nil n0
  show own_Fin p e below (own_Ans s (Q4 Z a t h0 n0) ({ frames := 1, cells := 0, slots := 0, locals := 12 } : Room).cells ({ frames := 1, cells := 0, slots := 0, locals := 12 } : Room).slots) (s₁.setTop (entryFrame m #[(.ref a), (.ref t), (.int (0 : Int32))] 3))
  refine own_cast (ef_rm4 m a t (0 : Int32)) ?_
  show own_Fin p e below _ (s₁.setTop (mkF m 0 #[.val (.ref a), .val (.ref t), .val (.int (0 : Int32))] []))
  refine own_on (fun tq => XS.aloadN X0.here hx rfl (hb hby d4_0) rfl rfl) ?_
  show own_Fin p e below _ (s₁.setTop (mkF m 1 #[.val (.ref a), .val (.ref t), .val (.int (0 : Int32))] [(.ref a)]))
  obtain ⟨T7, X7, e7, st7⟩ := initO X0 hx hZ hown (hw _ (List.mem_of_getElem? (i := 19) rfl)) (hw _ (List.mem_of_getElem? (i := 20) rfl)) (hw _ (List.mem_of_getElem? (i := 21) rfl)) e0 (g := (mkF m 1 #[.val (.ref a), .val (.ref t), .val (.int (0 : Int32))] [(.ref a)])) rfl (by rw [hml]; rfl) rfl (hb hby d4_1) (by decide) (W := 0) (by show 2 * 0 + _ ≤ _; exact Nat.le_of_eq rfl) (by decide)
  refine own_on st7 ?_
  show own_Fin p e below _ (T7.setTop (mkF m 4 #[.val (.ref a), .val (.ref t), .val (.int (0 : Int32))] []))
  refine own_on (fun tq => XS.aloadN X7.here hx rfl (hb hby d4_4) rfl rfl) ?_
  show own_Fin p e below _ (T7.setTop (mkF m 5 #[.val (.ref a), .val (.ref t), .val (.int (0 : Int32))] [(.ref a)]))
  refine own_on (fun tq => XS.aloadN X7.here hx rfl (hb hby d4_5) rfl rfl) ?_
  show own_Fin p e below _ (T7.setTop (mkF m 6 #[.val (.ref a), .val (.ref t), .val (.int (0 : Int32))] [(.ref t), (.ref a)]))
  obtain ⟨T8, h8, X8, e8, W8, st8⟩ := putF X7 hx hZ hown (host := "") (Or.inl (hw _ (List.mem_of_getElem? (i := 22) rfl))) Via.refl e7 V0 E (Or.inr ⟨(hw _ (List.mem_of_getElem? (i := 23) rfl)), rfl, hnm⟩) (hw _ (List.mem_of_getElem? (i := 10) rfl)) (ty := (.array .byte)) (by decide) rfl rfl (g := (mkF m 6 #[.val (.ref a), .val (.ref t), .val (.int (0 : Int32))] [(.ref t), (.ref a)])) rfl rfl (hb hby d4_6)
  have N8 := Fr.snoc X8 N0 ga
  have y9 := (E.wr W8)
  have y10 := (V0.same W8)
  have y11 := (C0.other W8 (Or.inr (slot_ne (Or.inr (hw _ (List.mem_of_getElem? (i := 25) rfl))) (Or.inr (hw _ (List.mem_of_getElem? (i := 23) rfl))) (by decide) (t := .byte) (t' := (.array .byte)) (by decide) (by decide))))
  have y12 := ((Keep.refl h0 [a]).wr W8 (Or.inl (List.mem_of_getElem? (i := 0) rfl)))
  have y13 := (Nat.le_trans Z0 (Keep.of_wr W8).1)
  refine own_on st8 ?_
  show own_Fin p e below _ (T8.setTop (mkF m 9 #[.val (.ref a), .val (.ref t), .val (.int (0 : Int32))] []))
  refine own_on (fun tq => XS.aloadN X8.here hx rfl (hb hby d4_9) rfl rfl) ?_
  show own_Fin p e below _ (T8.setTop (mkF m 10 #[.val (.ref a), .val (.ref t), .val (.int (0 : Int32))] [(.ref a)]))
  refine own_on (fun tq => XS.iloadN X8.here hx rfl (hb hby d4_10) rfl) ?_
  show own_Fin p e below _ (T8.setTop (mkF m 11 #[.val (.ref a), .val (.ref t), .val (.int (0 : Int32))] [(.int (0 : Int32)), (.ref a)]))
  obtain ⟨T14, h14, X14, e14, W14, st14⟩ := putFN X8 hx hZ hown (hw _ (List.mem_of_getElem? (i := 24) rfl)) Via.refl e8 y11 y9 (Or.inr ⟨(hw _ (List.mem_of_getElem? (i := 25) rfl)), rfl, hnm⟩) (hw _ (List.mem_of_getElem? (i := 10) rfl)) (ty := .byte) (v' := (.int (0 : Int32))) (by decide) rfl (by decide) (g := (mkF m 11 #[.val (.ref a), .val (.ref t), .val (.int (0 : Int32))] [(.int (0 : Int32)), (.ref a)])) rfl rfl (hb hby d4_11)
  have N14 := Fr.snoc X14 N8 ga
  have y15 := (y9.wr W14)
  have y16 := (y10.other W14 (Or.inr (slot_ne (Or.inr (hw _ (List.mem_of_getElem? (i := 23) rfl))) (Or.inr (hw _ (List.mem_of_getElem? (i := 25) rfl))) (by decide) (t := (.array .byte)) (t' := .byte) (by decide) (by decide))))
  have y17 := (y11.same W14)
  have y18 := (y12.wr W14 (Or.inl (List.mem_of_getElem? (i := 0) rfl)))
  have y19 := (Nat.le_trans y13 (Keep.of_wr W14).1)
  refine own_on st14 ?_
  show own_Fin p e below _ (T14.setTop (mkF m 14 #[.val (.ref a), .val (.ref t), .val (.int (0 : Int32))] []))
  exact own_retV X14 hx hlk hret (hb hby d4_14) (by show Q4 Z a t h0 n0 _ T14.heap _; rw [e14]; exact ⟨rfl, N14, y18, y15, y17, y16⟩) (by decide) (by decide)
theorem d1_0 : decode jdk_42_method_139_code 0 = .ok (.getstatic 38, 3) := by decide +kernel
theorem d1_3 : decode jdk_42_method_139_code 3 = .ok (.ifCond .eq 23, 3) := by decide +kernel
theorem d1_6 : decode jdk_42_method_139_code 6 = .ok (.iload_n 0, 1) := by decide +kernel
theorem d1_7 : decode jdk_42_method_139_code 7 = .ok (.invokestatic 1015, 3) := by decide +kernel
theorem pd_0 : parseMethodDescriptor "(C)Z" = some ⟨[.char], some .boolean⟩ := by decide +kernel
theorem d1_10 : decode jdk_42_method_139_code 10 = .ok (.ifCond .eq 16, 3) := by decide +kernel
theorem d1_13 : decode jdk_42_method_139_code 13 = .ok (.new 10, 3) := by decide +kernel
theorem d1_16 : decode jdk_42_method_139_code 16 = .ok (.dup, 1) := by decide +kernel
theorem d1_17 : decode jdk_42_method_139_code 17 = .ok (.iload_n 0, 1) := by decide +kernel
theorem d1_18 : decode jdk_42_method_139_code 18 = .ok (.invokestatic 1018, 3) := by decide +kernel
theorem pd_1 : parseMethodDescriptor "(C)[B" = some ⟨[.char], some (.array .byte)⟩ := by decide +kernel
theorem d1_21 : decode jdk_42_method_139_code 21 = .ok (.iconst 0, 1) := by decide +kernel
theorem d1_22 : decode jdk_42_method_139_code 22 = .ok (.invokespecial 209, 3) := by decide +kernel
theorem pd_2 : parseMethodDescriptor "([BB)V" = some ⟨[(.array .byte), .byte], none⟩ := by decide +kernel
theorem d1_25 : decode jdk_42_method_139_code 25 = .ok (.areturn, 1) := by decide +kernel
theorem ef_rm1 (m : MethodId) (x0 : Int32) : entryFrame m #[(.int x0)] 1 = mkF m 0 #[.val (.int x0)] [] := by first | (simp [entryFrame, mkF, argsToLocals, Value.category]; done) | rfl
def Q1 (Z : State) (c : Int32) (z : Int32) (h0 : Heap) (n0 : Nat) (v : Option Value) (h : Heap) (L : List Loc) : Prop := ∃ (x t : Addr) (kb : ClassId), v = some (.ref x) ∧ Fr n0 L ∧ Keep h0 h [] ∧ Exa Z h x "java/lang/String" ∧ Fld Z h x "java/lang/String" "coder" "B" (.int 0) ∧ Fld Z h x "java/lang/String" "value" "[B" (.ref t) ∧ Arv Z h t kb .byte (1 : Int32) (([c].map StrChars.lo8).map Value.int) (.int 0)
set_option maxRecDepth 65536 in
set_option maxHeartbeats 40000000 in
theorem rm1 (l : Launch) (Z : State) (a0 : Array Value) (hw : ∀ d ∈ tables_1, d.before a0 Z = true) (ws : List Jvm.Cond) (c : Int32) (z : Int32) (h0 : Heap) (n0 : Nat) (Z0 : n0 ≤ h0.size) (hc : ¬ (255 : Int32) < c) (hz : ¬ z = (0 : Int32)) (O : Old Z n0 h0) (SC : Sta Z Z.heap "java/lang/String" "COMPACT_STRINGS" "Z" (.int z)) :
    MetFree l (⟨"java/lang/String", "valueOf", "(C)Ljava/lang/String;"⟩ : MethodName) (head1 (Jvm.Cond.code (⟨"java/lang/String", "valueOf", "(C)Ljava/lang/String;"⟩ : MethodName) jdk_42_method_139_code 1 (some (.object "java/lang/String")) :: ws) ({ frames := 2, cells := 2, slots := 5, locals := 27 } : Room)) (fun as_ U => as_ = #[(.int c)] ∧ Z.Warmed39 U.vm ∧ U.heap = h0) (fun _ _ _ _ _ => True) (fun _ U out_ U' => ∃ v L, out_ = .returned v ∧ Q1 Z c z h0 n0 v U'.heap L ∧ FrameEnd U out_ U' L ({ frames := 2, cells := 2, slots := 5, locals := 27 } : Room).cells ({ frames := 2, cells := 2, slots := 5, locals := 27 } : Room).slots) := by
  refine MetFree.of_bodySF (plainFor_of_name pn_1) hisR ?_
  intro p e s m args below meth cd s₁ Bd hml0 hP hK
  obtain ⟨rfl, hZ, hh⟩ := hP
  have hx := Bd.exec
  have hby := Bd.bytes
  have hml : cd.maxLocals = 1 := hml0
  have hlk : meth.locks = false := BodyLoose.notSynchronized Bd
  have hown : s.vm.findClass "java/lang/String" = some m.cls := findClass_of_methodNamed Bd.named
  have hnm := (name_of_methodNamed Bd.named Bd.method).1
  have hret := Bd.returns
  have X0 : Stand p l e ({ frames := 2, cells := 2, slots := 5, locals := 27 } : Room) s m #[(.int c)] below meth cd s₁ [] 0 0 := Stand.of_body Bd
  have e0 : s₁.heap = h0 := by rw [← hh, Bd.state]; rfl
  have N0 := Fr.nil n0
  show own_Fin p e below (own_Ans s (Q1 Z c z h0 n0) ({ frames := 2, cells := 2, slots := 5, locals := 27 } : Room).cells ({ frames := 2, cells := 2, slots := 5, locals := 27 } : Room).slots) (s₁.setTop (entryFrame m #[(.int c)] 1))
  refine own_cast (ef_rm1 m c) ?_
  show own_Fin p e below _ (s₁.setTop (mkF m 0 #[.val (.int c)] []))
  obtain ⟨T20, X20, e20, st20⟩ := getS2 X0 hx hZ hown (host := "") (Or.inl (hw _ (List.mem_of_getElem? (i := 4) rfl))) Via.refl e0 (SC.ext O.2) (g := (mkF m 0 #[.val (.int c)] [])) rfl (hb hby d1_0)
  refine own_on st20 ?_
  show own_Fin p e below _ (T20.setTop (mkF m 3 #[.val (.int c)] [(.int z)]))
  refine own_on (fun tq => XS.ifNo X20.here hx rfl (hb hby d1_3) rfl ((if0 _ _).trans (feq hz).1)) ?_
  show own_Fin p e below _ (T20.setTop (mkF m 6 #[.val (.int c)] []))
  refine own_on (fun tq => XS.iloadN X20.here hx rfl (hb hby d1_6) rfl) ?_
  show own_Fin p e below _ (T20.setTop (mkF m 7 #[.val (.int c)] [(.int c)]))
  obtain ⟨_, _, ⟨T21, L21, k21, n21⟩, -, X21, ⟨Lc21, hQ21, l21, y21, z21⟩, st21⟩ := Jvm.LawKit.callS X20 hx (y := (⟨"java/lang/StringLatin1", "canEncode", "(C)Z"⟩ : MethodName)) hown (mvT hZ (hw _ (List.mem_of_getElem? (i := 5) rfl))) (mvT hZ (hw _ (List.mem_of_getElem? (i := 6) rfl))) (mvT hZ (hw _ (List.mem_of_getElem? (i := 7) rfl))) (mvT hZ (hw _ (List.mem_of_getElem? (i := 8) rfl))) (by decide) (backOf (W := 0) (rm2 l Z a0 hw [] c h0 n0 (by exact Z0) hc) hZ (hw _ (List.mem_of_getElem? (i := 8) rfl)) (hw _ (List.mem_of_getElem? (i := 7) rfl)) (by decide) (by decide)) (g := (mkF m 7 #[.val (.int c)] [(.int c)])) rfl (by rw [hml]; rfl) (argsL := [(.int c)]) (rest := []) (lenOf pd_0 rfl) rfl (by show 2 * 0 + _ ≤ _; exact Nat.le_of_eq rfl) (hb hby d1_7) (fun _ _ => ⟨rfl, e20, (by decide : 0 + 0 ≤ _), (by decide : 0 + 0 ≤ _)⟩)
  dsimp only [Pt.U, Pt.locs, Pt.cells, Pt.slots] at X21 l21 y21 z21 st21 hQ21
  subst l21 y21 z21
  obtain ⟨rfl, N21q, e21⟩ := hQ21
  have N21 := Fr.app N0 N21q
  refine own_on st21 ?_
  show own_Fin p e below _ (T21.setTop (mkF m 10 #[.val (.int c)] [(.int (1 : Int32))]))
  refine own_on (fun tq => XS.ifNo X21.here hx rfl (hb hby d1_10) rfl ((if0 _ _).trans (feq (by decide : ¬ ((1 : Int32) = (0 : Int32)))).1)) ?_
  show own_Fin p e below _ (T21.setTop (mkF m 13 #[.val (.int c)] []))
  obtain ⟨T22, h22, X22, e22, E22, A22, D22, -, st22⟩ := newO X21 hx hZ hown (hw _ (List.mem_of_getElem? (i := 9) rfl)) (hw _ (List.mem_of_getElem? (i := 10) rfl)) (hw _ (List.mem_of_getElem? (i := 2) rfl)) e21 (g := (mkF m 13 #[.val (.int c)] [])) rfl (hb hby d1_13) (by decide) (by decide)
  obtain ⟨b22, g22⟩ : ∃ z, z = h0.size := ⟨_, rfl⟩
  rw [← g22] at A22 D22 st22
  have y23 := ((Keep.refl h0 []).ext E22)
  have y24 := (Nat.le_trans Z0 E22.1)
  have y25 := (O.ext E22)
  have gn22 : n0 ≤ b22 := Nat.le_trans Z0 (Nat.le_of_eq g22.symm)
  have gk22 : h0.size ≤ b22 := Nat.le_trans (Keep.refl h0 []).1 (Nat.le_of_eq g22.symm)
  have F22_value : Fld Z h22 b22 "java/lang/String" "value" "[B" .null := D22 (Or.inr (hw _ (List.mem_of_getElem? (i := 23) rfl))) (ty := (.array .byte)) (by decide)
  have F22_coder : Fld Z h22 b22 "java/lang/String" "coder" "B" (.int (0 : Int32)) := D22 (Or.inr (hw _ (List.mem_of_getElem? (i := 25) rfl))) (ty := .byte) (by decide)
  refine own_on st22 ?_
  show own_Fin p e below _ (T22.setTop (mkF m 16 #[.val (.int c)] [(.ref b22)]))
  refine own_on (fun tq => XS.dup X22.here hx rfl (hb hby d1_16) rfl rfl) ?_
  show own_Fin p e below _ (T22.setTop (mkF m 17 #[.val (.int c)] [(.ref b22), (.ref b22)]))
  refine own_on (fun tq => XS.iloadN X22.here hx rfl (hb hby d1_17) rfl) ?_
  show own_Fin p e below _ (T22.setTop (mkF m 18 #[.val (.int c)] [(.int c), (.ref b22), (.ref b22)]))
  obtain ⟨_, _, ⟨T26, L26, k26, n26⟩, -, X26, ⟨Lc26, hQ26, l26, y26, z26⟩, st26⟩ := Jvm.LawKit.callS X22 hx (y := (⟨"java/lang/StringLatin1", "toBytes", "(C)[B"⟩ : MethodName)) hown (mvT hZ (hw _ (List.mem_of_getElem? (i := 11) rfl))) (mvT hZ (hw _ (List.mem_of_getElem? (i := 12) rfl))) (mvT hZ (hw _ (List.mem_of_getElem? (i := 7) rfl))) (mvT hZ (hw _ (List.mem_of_getElem? (i := 13) rfl))) (by decide) (backOf (W := 2) (rm3 l Z a0 hw [] c h22 n0 (by exact y24)) hZ (hw _ (List.mem_of_getElem? (i := 13) rfl)) (hw _ (List.mem_of_getElem? (i := 7) rfl)) (by decide) (by decide)) (g := (mkF m 18 #[.val (.int c)] [(.int c), (.ref b22), (.ref b22)])) rfl (by rw [hml]; rfl) (argsL := [(.int c)]) (rest := [(.ref b22), (.ref b22)]) (lenOf pd_1 rfl) rfl (by show 2 * 0 + _ ≤ _; exact Nat.le_of_eq rfl) (hb hby d1_18) (fun _ _ => ⟨rfl, e22, (by decide : 1 + 1 ≤ _), (by decide : 4 + 1 ≤ _)⟩)
  dsimp only [Pt.U, Pt.locs, Pt.cells, Pt.slots] at X26 l26 y26 z26 st26 hQ26
  subst l26 y26 z26
  obtain ⟨t26, kt26, rfl, N26q, K26, gn26, gk26, Aq26⟩ := hQ26
  have ne26_b22 : b22 ≠ t26 := Nat.ne_of_lt (Nat.lt_of_lt_of_le A22.lt gk26)
  have N26 := Fr.app N21 N26q
  have y27 := (y23.trans K26 all0)
  have y28 := (Nat.le_trans y24 K26.1)
  have y29 := (y25.keep K26 all0)
  have y30 := (A22.keep K26)
  have y31 := (F22_value.keep K26 nin0)
  have y32 := (F22_coder.keep K26 nin0)
  refine own_on st26 ?_
  show own_Fin p e below _ (T26.setTop (mkF m 21 #[.val (.int c)] [(.ref t26), (.ref b22), (.ref b22)]))
  refine own_on (fun tq => XS.iconst X26.here hx rfl (hb hby d1_21)) ?_
  show own_Fin p e below _ (T26.setTop (mkF m 22 #[.val (.int c)] [(.int (0 : Int32)), (.ref t26), (.ref b22), (.ref b22)]))
  obtain ⟨_, _, ⟨T33, L33, k33, n33⟩, -, X33, ⟨Lc33, hQ33, l33, y33, z33⟩, st33⟩ := X26.specialBack hx (y := (⟨"java/lang/String", "<init>", "([BB)V"⟩ : MethodName)) rfl hown (mvT hZ (hw _ (List.mem_of_getElem? (i := 15) rfl))) (mvT hZ (hw _ (List.mem_of_getElem? (i := 16) rfl))) (mvT hZ (hw _ (List.mem_of_getElem? (i := 18) rfl))) (by decide) (backOf (W := 1) (rm4 l Z a0 hw [] b22 t26 T26.heap n0 (by exact y28) y30 y31 y32 gn22) hZ (hw _ (List.mem_of_getElem? (i := 18) rfl)) (hw _ (List.mem_of_getElem? (i := 2) rfl)) (by decide) (by decide)) (g := (mkF m 22 #[.val (.int c)] [(.int (0 : Int32)), (.ref t26), (.ref b22), (.ref b22)])) rfl (by rw [hml]; rfl) (Steps.refl _) (a := b22) (argsL := [(.ref t26), (.int (0 : Int32))]) (rest := [(.ref b22)]) (lenOf pd_2 rfl) rfl (by show 2 * 0 + _ ≤ _; exact Nat.le_of_eq rfl) (hb hby d1_22) (fun _ _ => ⟨rfl, rfl, (by decide : 2 + 0 ≤ _), (by decide : 5 + 0 ≤ _)⟩)
  dsimp only [Pt.U, Pt.locs, Pt.cells, Pt.slots] at X33 l33 y33 z33 st33 hQ33
  subst l33 y33 z33
  obtain ⟨rfl, N33q, K33, Eq33, Cq33, Vq33⟩ := hQ33
  have N33 := Fr.app N26 N33q
  have y34 := (y27.trans K33 (allS (Or.inr gk22) all0))
  have y35 := (Nat.le_trans y28 K33.1)
  have y36 := (y29.keep K33 (allS gn22 all0))
  have y37 := (y30.keep K33)
  have y38 := (Aq26.keep K33 (ninS (Ne.symm ne26_b22) nin0))
  refine own_via st33 ?_
  show own_Fin p e below _ (T33.setTop (mkF m 25 #[.val (.int c)] [(.ref b22)]))
  exact own_ret (t := (.object "java/lang/String")) X33 hx hlk hret rfl (Or.inr (Or.inr (Or.inr (Or.inr ⟨rfl, rfl, rfl⟩)))) (hb hby d1_25) (by show Q1 Z c z h0 n0 _ T33.heap _; exact ⟨b22, t26, kt26, rfl, N33, y34, y37, Cq33, Vq33, y38⟩) (by decide) (by decide)
theorem pn_2 : plainName "java/util/AbstractMap" = true := by first | (simp [plainName, overriddenIn]; done) | decide +kernel
theorem d8_0 : decode jdk_71_method_1_code 0 = .ok (.aload_n 0, 1) := by decide +kernel
theorem d8_1 : decode jdk_71_method_1_code 1 = .ok (.invokespecial 1, 3) := by decide +kernel
theorem d8_4 : decode jdk_71_method_1_code 4 = .ok (.return_, 1) := by decide +kernel
theorem ef_rm8 (m : MethodId) (x0 : Addr) : entryFrame m #[(.ref x0)] 1 = mkF m 0 #[.val (.ref x0)] [] := by first | (simp [entryFrame, mkF, argsToLocals, Value.category]; done) | rfl
def Q8 (Z : State) (a : Addr) (h0 : Heap) (n0 : Nat) (v : Option Value) (h : Heap) (L : List Loc) : Prop := v = none ∧ Fr n0 L ∧ h = h0
set_option maxRecDepth 65536 in
set_option maxHeartbeats 40000000 in
theorem rm8 (l : Launch) (Z : State) (a0 : Array Value) (hw : ∀ d ∈ tables_1, d.before a0 Z = true) (ws : List Jvm.Cond) (a : Addr) (h0 : Heap) (n0 : Nat) (Z0 : n0 ≤ h0.size) :
    MetFree l (⟨"java/util/AbstractMap", "<init>", "()V"⟩ : MethodName) (head1 (Jvm.Cond.code (⟨"java/util/AbstractMap", "<init>", "()V"⟩ : MethodName) jdk_71_method_1_code 1 none :: ws) ({ frames := 1, cells := 0, slots := 0, locals := 12 } : Room)) (fun as_ U => as_ = #[(.ref a)] ∧ Z.Warmed39 U.vm ∧ U.heap = h0) (fun _ _ _ _ _ => True) (fun _ U out_ U' => ∃ v L, out_ = .returned v ∧ Q8 Z a h0 n0 v U'.heap L ∧ FrameEnd U out_ U' L ({ frames := 1, cells := 0, slots := 0, locals := 12 } : Room).cells ({ frames := 1, cells := 0, slots := 0, locals := 12 } : Room).slots) := by
  refine MetFree.of_bodySF (plainFor_of_name pn_2) hisR ?_
  intro p e s m args below meth cd s₁ Bd hml0 hP hK
  obtain ⟨rfl, hZ, hh⟩ := hP
  have hx := Bd.exec
  have hby := Bd.bytes
  have hml : cd.maxLocals = 1 := hml0
  have hlk : meth.locks = false := BodyLoose.notSynchronized Bd
  have hown : s.vm.findClass "java/util/AbstractMap" = some m.cls := findClass_of_methodNamed Bd.named
  have hnm := (name_of_methodNamed Bd.named Bd.method).1
  have hret := Bd.returns
  have X0 : Stand p l e ({ frames := 1, cells := 0, slots := 0, locals := 12 } : Room) s m #[(.ref a)] below meth cd s₁ [] 0 0 := Stand.of_body Bd
  have e0 : s₁.heap = h0 := by rw [← hh, Bd.state]; rfl
  have N0 := Fr.nil n0
  show own_Fin p e below (own_Ans s (Q8 Z a h0 n0) ({ frames := 1, cells := 0, slots := 0, locals := 12 } : Room).cells ({ frames := 1, cells := 0, slots := 0, locals := 12 } : Room).slots) (s₁.setTop (entryFrame m #[(.ref a)] 1))
  refine own_cast (ef_rm8 m a) ?_
  show own_Fin p e below _ (s₁.setTop (mkF m 0 #[.val (.ref a)] []))
  refine own_on (fun tq => XS.aloadN X0.here hx rfl (hb hby d8_0) rfl rfl) ?_
  show own_Fin p e below _ (s₁.setTop (mkF m 1 #[.val (.ref a)] [(.ref a)]))
  obtain ⟨T39, X39, e39, st39⟩ := initO X0 hx hZ hown (hw _ (List.mem_of_getElem? (i := 52) rfl)) (hw _ (List.mem_of_getElem? (i := 20) rfl)) (hw _ (List.mem_of_getElem? (i := 21) rfl)) e0 (g := (mkF m 1 #[.val (.ref a)] [(.ref a)])) rfl (by rw [hml]; rfl) rfl (hb hby d8_1) (by decide) (W := 0) (by show 2 * 0 + _ ≤ _; exact Nat.le_of_eq rfl) (by decide)
  refine own_on st39 ?_
  show own_Fin p e below _ (T39.setTop (mkF m 4 #[.val (.ref a)] []))
  exact own_retV X39 hx hlk hret (hb hby d8_4) (⟨rfl, N0, e39⟩) (by decide) (by decide)
theorem pn_3 : plainName "java/util/AbstractCollection" = true := by first | (simp [plainName, overriddenIn]; done) | decide +kernel
theorem d13_0 : decode jdk_22_method_1_code 0 = .ok (.aload_n 0, 1) := by decide +kernel
theorem d13_1 : decode jdk_22_method_1_code 1 = .ok (.invokespecial 1, 3) := by decide +kernel
theorem d13_4 : decode jdk_22_method_1_code 4 = .ok (.return_, 1) := by decide +kernel
theorem ef_rm13 (m : MethodId) (x0 : Addr) : entryFrame m #[(.ref x0)] 1 = mkF m 0 #[.val (.ref x0)] [] := by first | (simp [entryFrame, mkF, argsToLocals, Value.category]; done) | rfl
def Q13 (Z : State) (a : Addr) (h0 : Heap) (n0 : Nat) (v : Option Value) (h : Heap) (L : List Loc) : Prop := v = none ∧ Fr n0 L ∧ h = h0
set_option maxRecDepth 65536 in
set_option maxHeartbeats 40000000 in
theorem rm13 (l : Launch) (Z : State) (a0 : Array Value) (hw : ∀ d ∈ tables_1, d.before a0 Z = true) (ws : List Jvm.Cond) (a : Addr) (h0 : Heap) (n0 : Nat) (Z0 : n0 ≤ h0.size) :
    MetFree l (⟨"java/util/AbstractCollection", "<init>", "()V"⟩ : MethodName) (head1 (Jvm.Cond.code (⟨"java/util/AbstractCollection", "<init>", "()V"⟩ : MethodName) jdk_22_method_1_code 1 none :: ws) ({ frames := 1, cells := 0, slots := 0, locals := 12 } : Room)) (fun as_ U => as_ = #[(.ref a)] ∧ Z.Warmed39 U.vm ∧ U.heap = h0) (fun _ _ _ _ _ => True) (fun _ U out_ U' => ∃ v L, out_ = .returned v ∧ Q13 Z a h0 n0 v U'.heap L ∧ FrameEnd U out_ U' L ({ frames := 1, cells := 0, slots := 0, locals := 12 } : Room).cells ({ frames := 1, cells := 0, slots := 0, locals := 12 } : Room).slots) := by
  refine MetFree.of_bodySF (plainFor_of_name pn_3) hisR ?_
  intro p e s m args below meth cd s₁ Bd hml0 hP hK
  obtain ⟨rfl, hZ, hh⟩ := hP
  have hx := Bd.exec
  have hby := Bd.bytes
  have hml : cd.maxLocals = 1 := hml0
  have hlk : meth.locks = false := BodyLoose.notSynchronized Bd
  have hown : s.vm.findClass "java/util/AbstractCollection" = some m.cls := findClass_of_methodNamed Bd.named
  have hnm := (name_of_methodNamed Bd.named Bd.method).1
  have hret := Bd.returns
  have X0 : Stand p l e ({ frames := 1, cells := 0, slots := 0, locals := 12 } : Room) s m #[(.ref a)] below meth cd s₁ [] 0 0 := Stand.of_body Bd
  have e0 : s₁.heap = h0 := by rw [← hh, Bd.state]; rfl
  have N0 := Fr.nil n0
  show own_Fin p e below (own_Ans s (Q13 Z a h0 n0) ({ frames := 1, cells := 0, slots := 0, locals := 12 } : Room).cells ({ frames := 1, cells := 0, slots := 0, locals := 12 } : Room).slots) (s₁.setTop (entryFrame m #[(.ref a)] 1))
  refine own_cast (ef_rm13 m a) ?_
  show own_Fin p e below _ (s₁.setTop (mkF m 0 #[.val (.ref a)] []))
  refine own_on (fun tq => XS.aloadN X0.here hx rfl (hb hby d13_0) rfl rfl) ?_
  show own_Fin p e below _ (s₁.setTop (mkF m 1 #[.val (.ref a)] [(.ref a)]))
  obtain ⟨T40, X40, e40, st40⟩ := initO X0 hx hZ hown (hw _ (List.mem_of_getElem? (i := 88) rfl)) (hw _ (List.mem_of_getElem? (i := 20) rfl)) (hw _ (List.mem_of_getElem? (i := 21) rfl)) e0 (g := (mkF m 1 #[.val (.ref a)] [(.ref a)])) rfl (by rw [hml]; rfl) rfl (hb hby d13_1) (by decide) (W := 0) (by show 2 * 0 + _ ≤ _; exact Nat.le_of_eq rfl) (by decide)
  refine own_on st40 ?_
  show own_Fin p e below _ (T40.setTop (mkF m 4 #[.val (.ref a)] []))
  exact own_retV X40 hx hlk hret (hb hby d13_4) (⟨rfl, N0, e40⟩) (by decide) (by decide)
theorem pn_4 : plainName "java/util/AbstractSet" = true := by first | (simp [plainName, overriddenIn]; done) | decide +kernel
theorem d12_0 : decode jdk_91_method_1_code 0 = .ok (.aload_n 0, 1) := by decide +kernel
theorem d12_1 : decode jdk_91_method_1_code 1 = .ok (.invokespecial 1, 3) := by decide +kernel
theorem pd_3 : parseMethodDescriptor "()V" = some ⟨[], none⟩ := by decide +kernel
theorem d12_4 : decode jdk_91_method_1_code 4 = .ok (.return_, 1) := by decide +kernel
theorem ef_rm12 (m : MethodId) (x0 : Addr) : entryFrame m #[(.ref x0)] 1 = mkF m 0 #[.val (.ref x0)] [] := by first | (simp [entryFrame, mkF, argsToLocals, Value.category]; done) | rfl
def Q12 (Z : State) (a : Addr) (h0 : Heap) (n0 : Nat) (v : Option Value) (h : Heap) (L : List Loc) : Prop := v = none ∧ Fr n0 L ∧ h = h0
set_option maxRecDepth 65536 in
set_option maxHeartbeats 40000000 in
theorem rm12 (l : Launch) (Z : State) (a0 : Array Value) (hw : ∀ d ∈ tables_1, d.before a0 Z = true) (ws : List Jvm.Cond) (a : Addr) (h0 : Heap) (n0 : Nat) (Z0 : n0 ≤ h0.size) :
    MetFree l (⟨"java/util/AbstractSet", "<init>", "()V"⟩ : MethodName) (head1 (Jvm.Cond.code (⟨"java/util/AbstractSet", "<init>", "()V"⟩ : MethodName) jdk_91_method_1_code 1 none :: ws) ({ frames := 2, cells := 0, slots := 0, locals := 24 } : Room)) (fun as_ U => as_ = #[(.ref a)] ∧ Z.Warmed39 U.vm ∧ U.heap = h0) (fun _ _ _ _ _ => True) (fun _ U out_ U' => ∃ v L, out_ = .returned v ∧ Q12 Z a h0 n0 v U'.heap L ∧ FrameEnd U out_ U' L ({ frames := 2, cells := 0, slots := 0, locals := 24 } : Room).cells ({ frames := 2, cells := 0, slots := 0, locals := 24 } : Room).slots) := by
  refine MetFree.of_bodySF (plainFor_of_name pn_4) hisR ?_
  intro p e s m args below meth cd s₁ Bd hml0 hP hK
  obtain ⟨rfl, hZ, hh⟩ := hP
  have hx := Bd.exec
  have hby := Bd.bytes
  have hml : cd.maxLocals = 1 := hml0
  have hlk : meth.locks = false := BodyLoose.notSynchronized Bd
  have hown : s.vm.findClass "java/util/AbstractSet" = some m.cls := findClass_of_methodNamed Bd.named
  have hnm := (name_of_methodNamed Bd.named Bd.method).1
  have hret := Bd.returns
  have X0 : Stand p l e ({ frames := 2, cells := 0, slots := 0, locals := 24 } : Room) s m #[(.ref a)] below meth cd s₁ [] 0 0 := Stand.of_body Bd
  have e0 : s₁.heap = h0 := by rw [← hh, Bd.state]; rfl
  have N0 := Fr.nil n0
  show own_Fin p e below (own_Ans s (Q12 Z a h0 n0) ({ frames := 2, cells := 0, slots := 0, locals := 24 } : Room).cells ({ frames := 2, cells := 0, slots := 0, locals := 24 } : Room).slots) (s₁.setTop (entryFrame m #[(.ref a)] 1))
  refine own_cast (ef_rm12 m a) ?_
  show own_Fin p e below _ (s₁.setTop (mkF m 0 #[.val (.ref a)] []))
  refine own_on (fun tq => XS.aloadN X0.here hx rfl (hb hby d12_0) rfl rfl) ?_
  show own_Fin p e below _ (s₁.setTop (mkF m 1 #[.val (.ref a)] [(.ref a)]))
  obtain ⟨_, _, ⟨T41, L41, k41, n41⟩, -, X41, ⟨Lc41, hQ41, l41, y41, z41⟩, st41⟩ := X0.specialBack hx (y := (⟨"java/util/AbstractCollection", "<init>", "()V"⟩ : MethodName)) rfl hown (mvT hZ (hw _ (List.mem_of_getElem? (i := 82) rfl))) (mvT hZ (hw _ (List.mem_of_getElem? (i := 83) rfl))) (mvT hZ (hw _ (List.mem_of_getElem? (i := 87) rfl))) (by decide) (backOf (W := 0) (rm13 l Z a0 hw [] a h0 n0 (by exact Z0)) hZ (hw _ (List.mem_of_getElem? (i := 87) rfl)) (hw _ (List.mem_of_getElem? (i := 86) rfl)) (by decide) (by decide)) (g := (mkF m 1 #[.val (.ref a)] [(.ref a)])) rfl (by rw [hml]; rfl) (Steps.refl _) (a := a) (argsL := []) (rest := []) (lenOf pd_3 rfl) rfl (by show 2 * 0 + _ ≤ _; exact Nat.le_of_eq rfl) (hb hby d12_1) (fun _ _ => ⟨rfl, e0, (by decide : 0 + 0 ≤ _), (by decide : 0 + 0 ≤ _)⟩)
  dsimp only [Pt.U, Pt.locs, Pt.cells, Pt.slots] at X41 l41 y41 z41 st41 hQ41
  subst l41 y41 z41
  obtain ⟨rfl, N41q, e41⟩ := hQ41
  have N41 := Fr.app N0 N41q
  refine own_via st41 ?_
  show own_Fin p e below _ (T41.setTop (mkF m 4 #[.val (.ref a)] []))
  exact own_retV X41 hx hlk hret (hb hby d12_4) (⟨rfl, N41, e41⟩) (by decide) (by decide)
theorem pn_5 : plainName "com/example/settlewatt/settlewatt/model/TraceRecord$Inputs" = true := by first | (simp [plainName, overriddenIn]; done) | decide +kernel
theorem d7_0 : decode prog_38_method_1_code 0 = .ok (.aload_n 0, 1) := by decide +kernel
theorem d7_1 : decode prog_38_method_1_code 1 = .ok (.invokespecial 1, 3) := by decide +kernel
theorem d7_4 : decode prog_38_method_1_code 4 = .ok (.aload_n 1, 1) := by decide +kernel
theorem d7_5 : decode prog_38_method_1_code 5 = .ok (.arraylength, 1) := by decide +kernel
theorem d7_6 : decode prog_38_method_1_code 6 = .ok (.istore_n 2, 1) := by decide +kernel
theorem d7_7 : decode prog_38_method_1_code 7 = .ok (.iload_n 2, 1) := by decide +kernel
theorem d7_8 : decode prog_38_method_1_code 8 = .ok (.iconst 2, 1) := by decide +kernel
theorem d7_9 : decode prog_38_method_1_code 9 = .ok (.irem, 1) := by decide +kernel
theorem d7_10 : decode prog_38_method_1_code 10 = .ok (.ifCond .eq 21, 3) := by decide +kernel
theorem d7_31 : decode prog_38_method_1_code 31 = .ok (.iconst 0, 1) := by decide +kernel
theorem d7_32 : decode prog_38_method_1_code 32 = .ok (.istore_n 3, 1) := by decide +kernel
theorem d7_33 : decode prog_38_method_1_code 33 = .ok (.iload_n 3, 1) := by decide +kernel
theorem d7_34 : decode prog_38_method_1_code 34 = .ok (.iload_n 2, 1) := by decide +kernel
theorem d7_35 : decode prog_38_method_1_code 35 = .ok (.if_icmp .ge 53, 3) := by decide +kernel
theorem d7_88 : decode prog_38_method_1_code 88 = .ok (.aload_n 0, 1) := by decide +kernel
theorem d7_89 : decode prog_38_method_1_code 89 = .ok (.aload_n 1, 1) := by decide +kernel
theorem d7_90 : decode prog_38_method_1_code 90 = .ok (.putfield 23, 3) := by decide +kernel
theorem d7_93 : decode prog_38_method_1_code 93 = .ok (.return_, 1) := by decide +kernel
theorem ef_rmI0 (m : MethodId) (x0 : Addr) (x1 : Addr) : entryFrame m #[(.ref x0), (.ref x1)] 5 = mkF m 0 #[.val (.ref x0), .val (.ref x1), .unset, .unset, .unset] [] := by first | (simp [entryFrame, mkF, argsToLocals, Value.category]; done) | rfl
def QI0 (Z : State) (a : Addr) (b : Addr) (z : Int32) (ka : ClassId) (h0 : Heap) (n0 : Nat) (v : Option Value) (h : Heap) (L : List Loc) : Prop := v = none ∧ Fr n0 L ∧ Keep h0 h [a] ∧ Exa Z h a "com/example/settlewatt/settlewatt/model/TraceRecord$Inputs" ∧ Fld Z h a "com/example/settlewatt/settlewatt/model/TraceRecord$Inputs" "namesAndValues" "[Ljava/lang/String;" (.ref b)
set_option maxRecDepth 65536 in
set_option maxHeartbeats 40000000 in
theorem rmI0 (l : Launch) (Z : State) (a0 : Array Value) (hw : ∀ d ∈ tables_1, d.before a0 Z = true) (ws : List Jvm.Cond) (a : Addr) (b : Addr) (z : Int32) (ka : ClassId) (h0 : Heap) (n0 : Nat) (Z0 : n0 ≤ h0.size) (hz : ¬ z = (0 : Int32)) (O : Old Z n0 h0) (SC : Sta Z Z.heap "java/lang/String" "COMPACT_STRINGS" "Z" (.int z)) (E : Exa Z h0 a "com/example/settlewatt/settlewatt/model/TraceRecord$Inputs") (F : Fld Z h0 a "com/example/settlewatt/settlewatt/model/TraceRecord$Inputs" "namesAndValues" "[Ljava/lang/String;" .null) (ga : n0 ≤ a) (Ab : Arv Z h0 b ka (.object "java/lang/String") (0 : Int32) [] .null) :
    MetFree l (⟨"com/example/settlewatt/settlewatt/model/TraceRecord$Inputs", "<init>", "([Ljava/lang/String;)V"⟩ : MethodName) (head1 (Jvm.Cond.code (⟨"com/example/settlewatt/settlewatt/model/TraceRecord$Inputs", "<init>", "([Ljava/lang/String;)V"⟩ : MethodName) prog_38_method_1_code 5 none :: ws) ({ frames := 2, cells := 0, slots := 0, locals := 24 } : Room)) (fun as_ U => as_ = #[(.ref a), (.ref b)] ∧ Z.Warmed39 U.vm ∧ U.heap = h0) (fun _ _ _ _ _ => True) (fun _ U out_ U' => ∃ v L, out_ = .returned v ∧ QI0 Z a b z ka h0 n0 v U'.heap L ∧ FrameEnd U out_ U' L ({ frames := 2, cells := 0, slots := 0, locals := 24 } : Room).cells ({ frames := 2, cells := 0, slots := 0, locals := 24 } : Room).slots) := by
  refine MetFree.of_bodySF (plainFor_of_name pn_5) hisR ?_
  intro p e s m args below meth cd s₁ Bd hml0 hP hK
  obtain ⟨rfl, hZ, hh⟩ := hP
  have hx := Bd.exec
  have hby := Bd.bytes
  have hml : cd.maxLocals = 5 := hml0
  have hlk : meth.locks = false := BodyLoose.notSynchronized Bd
  have hown : s.vm.findClass "com/example/settlewatt/settlewatt/model/TraceRecord$Inputs" = some m.cls := findClass_of_methodNamed Bd.named
  have hnm := (name_of_methodNamed Bd.named Bd.method).1
  have hret := Bd.returns
  have X0 : Stand p l e ({ frames := 2, cells := 0, slots := 0, locals := 24 } : Room) s m #[(.ref a), (.ref b)] below meth cd s₁ [] 0 0 := Stand.of_body Bd
  have e0 : s₁.heap = h0 := by rw [← hh, Bd.state]; rfl
  have N0 := Fr.nil n0
  show own_Fin p e below (own_Ans s (QI0 Z a b z ka h0 n0) ({ frames := 2, cells := 0, slots := 0, locals := 24 } : Room).cells ({ frames := 2, cells := 0, slots := 0, locals := 24 } : Room).slots) (s₁.setTop (entryFrame m #[(.ref a), (.ref b)] 5))
  refine own_cast (ef_rmI0 m a b) ?_
  show own_Fin p e below _ (s₁.setTop (mkF m 0 #[.val (.ref a), .val (.ref b), .unset, .unset, .unset] []))
  refine own_on (fun tq => XS.aloadN X0.here hx rfl (hb hby d7_0) rfl rfl) ?_
  show own_Fin p e below _ (s₁.setTop (mkF m 1 #[.val (.ref a), .val (.ref b), .unset, .unset, .unset] [(.ref a)]))
  obtain ⟨_, _, ⟨T42, L42, k42, n42⟩, -, X42, ⟨Lc42, hQ42, l42, y42, z42⟩, st42⟩ := X0.specialBack hx (y := (⟨"java/util/AbstractMap", "<init>", "()V"⟩ : MethodName)) rfl hown (mvT hZ (hw _ (List.mem_of_getElem? (i := 47) rfl))) (mvT hZ (hw _ (List.mem_of_getElem? (i := 48) rfl))) (mvT hZ (hw _ (List.mem_of_getElem? (i := 51) rfl))) (by decide) (backOf (W := 0) (rm8 l Z a0 hw [] a h0 n0 (by exact Z0)) hZ (hw _ (List.mem_of_getElem? (i := 51) rfl)) (hw _ (List.mem_of_getElem? (i := 50) rfl)) (by decide) (by decide)) (g := (mkF m 1 #[.val (.ref a), .val (.ref b), .unset, .unset, .unset] [(.ref a)])) rfl (by rw [hml]; rfl) (Steps.refl _) (a := a) (argsL := []) (rest := []) (lenOf pd_3 rfl) rfl (by show 2 * 0 + _ ≤ _; exact Nat.le_of_eq rfl) (hb hby d7_1) (fun _ _ => ⟨rfl, e0, (by decide : 0 + 0 ≤ _), (by decide : 0 + 0 ≤ _)⟩)
  dsimp only [Pt.U, Pt.locs, Pt.cells, Pt.slots] at X42 l42 y42 z42 st42 hQ42
  subst l42 y42 z42
  obtain ⟨rfl, N42q, e42⟩ := hQ42
  have N42 := Fr.app N0 N42q
  refine own_via st42 ?_
  show own_Fin p e below _ (T42.setTop (mkF m 4 #[.val (.ref a), .val (.ref b), .unset, .unset, .unset] []))
  refine own_on (fun tq => XS.aloadN X42.here hx rfl (hb hby d7_4) rfl rfl) ?_
  show own_Fin p e below _ (T42.setTop (mkF m 5 #[.val (.ref a), .val (.ref b), .unset, .unset, .unset] [(.ref b)]))
  have cp43 := Ab
  obtain ⟨cl43, Ar43, q43, S43, G43, H43, F43⟩ := cp43
  refine own_on (fun tq => X42.arraylength hx (by rw [e42]; exact Ar43.1) (State.isArrayOf_alike hZ.alike Ar43.2.1) (g := (mkF m 5 #[.val (.ref a), .val (.ref b), .unset, .unset, .unset] [(.ref b)])) rfl rfl (hb hby d7_5) tq) ?_
  rw [len_of S43 G43]
  show own_Fin p e below _ (T42.setTop (mkF m 6 #[.val (.ref a), .val (.ref b), .unset, .unset, .unset] [(.int (0 : Int32))]))
  refine own_on (fun tq => XS.istoreN X42.here hx rfl (hb hby d7_6) rfl (l' := #[.val (.ref a), .val (.ref b), .val (.int (0 : Int32)), .unset, .unset]) rfl) ?_
  show own_Fin p e below _ (T42.setTop (mkF m 7 #[.val (.ref a), .val (.ref b), .val (.int (0 : Int32)), .unset, .unset] []))
  refine own_on (fun tq => XS.iloadN X42.here hx rfl (hb hby d7_7) rfl) ?_
  show own_Fin p e below _ (T42.setTop (mkF m 8 #[.val (.ref a), .val (.ref b), .val (.int (0 : Int32)), .unset, .unset] [(.int (0 : Int32))]))
  refine own_on (fun tq => XS.iconst X42.here hx rfl (hb hby d7_8)) ?_
  show own_Fin p e below _ (T42.setTop (mkF m 9 #[.val (.ref a), .val (.ref b), .val (.int (0 : Int32)), .unset, .unset] [(.int (2 : Int32)), (.int (0 : Int32))]))
  refine own_on (fun tq => iremM X42 hx rfl (hb hby d7_9) rfl (by decide)) ?_
  show own_Fin p e below _ (T42.setTop (mkF m 10 #[.val (.ref a), .val (.ref b), .val (.int (0 : Int32)), .unset, .unset] [(.int ((0 : Int32) % (2 : Int32)))]))
  refine own_on (fun tq => XS.ifYes X42.here hx rfl (pc0 := 10) (pc' := 31) rfl (hb hby d7_10) rfl ((if0 _ _).trans (teq (by decide : ((0 : Int32) % (2 : Int32)) = (0 : Int32))).1) (by decide) (by decide)) ?_
  show own_Fin p e below _ (T42.setTop (mkF m 31 #[.val (.ref a), .val (.ref b), .val (.int (0 : Int32)), .unset, .unset] []))
  refine own_on (fun tq => XS.iconst X42.here hx rfl (hb hby d7_31)) ?_
  show own_Fin p e below _ (T42.setTop (mkF m 32 #[.val (.ref a), .val (.ref b), .val (.int (0 : Int32)), .unset, .unset] [(.int (0 : Int32))]))
  refine own_on (fun tq => XS.istoreN X42.here hx rfl (hb hby d7_32) rfl (l' := #[.val (.ref a), .val (.ref b), .val (.int (0 : Int32)), .val (.int (0 : Int32)), .unset]) rfl) ?_
  show own_Fin p e below _ (T42.setTop (mkF m 33 #[.val (.ref a), .val (.ref b), .val (.int (0 : Int32)), .val (.int (0 : Int32)), .unset] []))
  refine own_on (fun tq => XS.iloadN X42.here hx rfl (hb hby d7_33) rfl) ?_
  show own_Fin p e below _ (T42.setTop (mkF m 34 #[.val (.ref a), .val (.ref b), .val (.int (0 : Int32)), .val (.int (0 : Int32)), .unset] [(.int (0 : Int32))]))
  refine own_on (fun tq => XS.iloadN X42.here hx rfl (hb hby d7_34) rfl) ?_
  show own_Fin p e below _ (T42.setTop (mkF m 35 #[.val (.ref a), .val (.ref b), .val (.int (0 : Int32)), .val (.int (0 : Int32)), .unset] [(.int (0 : Int32)), (.int (0 : Int32))]))
  refine own_on (fun tq => XS.icmpYes X42.here hx rfl (pc0 := 35) (pc' := 88) rfl (hb hby d7_35) rfl (flt (by decide : ¬ ((0 : Int32) < (0 : Int32)))).2.1 (by decide) (by decide)) ?_
  show own_Fin p e below _ (T42.setTop (mkF m 88 #[.val (.ref a), .val (.ref b), .val (.int (0 : Int32)), .val (.int (0 : Int32)), .unset] []))
  refine own_on (fun tq => XS.aloadN X42.here hx rfl (hb hby d7_88) rfl rfl) ?_
  show own_Fin p e below _ (T42.setTop (mkF m 89 #[.val (.ref a), .val (.ref b), .val (.int (0 : Int32)), .val (.int (0 : Int32)), .unset] [(.ref a)]))
  refine own_on (fun tq => XS.aloadN X42.here hx rfl (hb hby d7_89) rfl rfl) ?_
  show own_Fin p e below _ (T42.setTop (mkF m 90 #[.val (.ref a), .val (.ref b), .val (.int (0 : Int32)), .val (.int (0 : Int32)), .unset] [(.ref b), (.ref a)]))
  obtain ⟨T44, h44, X44, e44, W44, st44⟩ := putF X42 hx hZ hown (host := "") (Or.inl (hw _ (List.mem_of_getElem? (i := 53) rfl))) Via.refl e42 F E (Or.inr ⟨(hw _ (List.mem_of_getElem? (i := 54) rfl)), rfl, hnm⟩) (hw _ (List.mem_of_getElem? (i := 33) rfl)) (ty := (.array (.object "java/lang/String"))) (by decide) rfl rfl (g := (mkF m 90 #[.val (.ref a), .val (.ref b), .val (.int (0 : Int32)), .val (.int (0 : Int32)), .unset] [(.ref b), (.ref a)])) rfl rfl (hb hby d7_90)
  have N44 := Fr.snoc X44 N42 ga
  have y45 := ((Keep.refl h0 [a]).wr W44 (Or.inl (List.mem_of_getElem? (i := 0) rfl)))
  have y46 := (Nat.le_trans Z0 (Keep.of_wr W44).1)
  have y47 := (O.wr W44 ga)
  have y48 := (E.wr W44)
  have y49 := (F.same W44)
  refine own_on st44 ?_
  show own_Fin p e below _ (T44.setTop (mkF m 93 #[.val (.ref a), .val (.ref b), .val (.int (0 : Int32)), .val (.int (0 : Int32)), .unset] []))
  exact own_retV X44 hx hlk hret (hb hby d7_93) (by show QI0 Z a b z ka h0 n0 _ T44.heap _; rw [e44]; exact ⟨rfl, N44, y45, y48, y49⟩) (by decide) (by decide)
theorem pn_6 : plainName "com/example/settlewatt/settlewatt/model/TraceRecord" = true := by first | (simp [plainName, overriddenIn]; done) | decide +kernel
theorem d6_0 : decode prog_37_method_3_code 0 = .ok (.new 35, 3) := by decide +kernel
theorem d6_3 : decode prog_37_method_3_code 3 = .ok (.dup, 1) := by decide +kernel
theorem d6_4 : decode prog_37_method_3_code 4 = .ok (.aload_n 0, 1) := by decide +kernel
theorem d6_5 : decode prog_37_method_3_code 5 = .ok (.invokevirtual 37, 3) := by decide +kernel
theorem d6_8 : decode prog_37_method_3_code 8 = .ok (.checkcast 38, 3) := by decide +kernel
theorem d6_11 : decode prog_37_method_3_code 11 = .ok (.invokespecial 43, 3) := by decide +kernel
theorem pd_4 : parseMethodDescriptor "([Ljava/lang/String;)V" = some ⟨[(.array (.object "java/lang/String"))], none⟩ := by decide +kernel
theorem d6_14 : decode prog_37_method_3_code 14 = .ok (.areturn, 1) := by decide +kernel
theorem ef_rmO0 (m : MethodId) (x0 : Addr) : entryFrame m #[(.ref x0)] 1 = mkF m 0 #[.val (.ref x0)] [] := by first | (simp [entryFrame, mkF, argsToLocals, Value.category]; done) | rfl
def QO0 (Z : State) (b : Addr) (z : Int32) (ka : ClassId) (h0 : Heap) (n0 : Nat) (v : Option Value) (h : Heap) (L : List Loc) : Prop := ∃ m a : Addr, v = some (.ref m) ∧ Fr n0 L ∧ Keep h0 h [] ∧ h0.size ≤ m ∧ h0.size ≤ a ∧ Exa Z h m "com/example/settlewatt/settlewatt/model/TraceRecord$Inputs" ∧ Fld Z h m "com/example/settlewatt/settlewatt/model/TraceRecord$Inputs" "namesAndValues" "[Ljava/lang/String;" (.ref a) ∧ Arv Z h a ka (.object "java/lang/String") (0 : Int32) [] .null
set_option maxRecDepth 65536 in
set_option maxHeartbeats 40000000 in
theorem rmO0 (l : Launch) (Z : State) (a0 : Array Value) (hw : ∀ d ∈ tables_1, d.before a0 Z = true) (ws : List Jvm.Cond) (b : Addr) (z : Int32) (ka : ClassId) (h0 : Heap) (n0 : Nat) (Z0 : n0 ≤ h0.size) (hz : ¬ z = (0 : Int32)) (O : Old Z n0 h0) (SC : Sta Z Z.heap "java/lang/String" "COMPACT_STRINGS" "Z" (.int z)) (Ab : Arv Z h0 b ka (.object "java/lang/String") (0 : Int32) [] .null) (Eb : Exa Z h0 b "[Ljava/lang/String;") :
    MetFree l (⟨"com/example/settlewatt/settlewatt/model/TraceRecord", "inputsOf", "([Ljava/lang/String;)Ljava/util/Map;"⟩ : MethodName) (head1 (Jvm.Cond.code (⟨"com/example/settlewatt/settlewatt/model/TraceRecord", "inputsOf", "([Ljava/lang/String;)Ljava/util/Map;"⟩ : MethodName) prog_37_method_3_code 1 (some (.object "java/util/Map")) :: ws) ({ frames := 3, cells := 2, slots := 3, locals := 41 } : Room)) (fun as_ U => as_ = #[(.ref b)] ∧ Z.Warmed39 U.vm ∧ U.heap = h0) (fun _ _ _ _ _ => True) (fun _ U out_ U' => ∃ v L, out_ = .returned v ∧ QO0 Z b z ka h0 n0 v U'.heap L ∧ FrameEnd U out_ U' L ({ frames := 3, cells := 2, slots := 3, locals := 41 } : Room).cells ({ frames := 3, cells := 2, slots := 3, locals := 41 } : Room).slots) := by
  refine MetFree.of_bodySF (plainFor_of_name pn_6) hisR ?_
  intro p e s m args below meth cd s₁ Bd hml0 hP hK
  obtain ⟨rfl, hZ, hh⟩ := hP
  have hx := Bd.exec
  have hby := Bd.bytes
  have hml : cd.maxLocals = 1 := hml0
  have hlk : meth.locks = false := BodyLoose.notSynchronized Bd
  have hown : s.vm.findClass "com/example/settlewatt/settlewatt/model/TraceRecord" = some m.cls := findClass_of_methodNamed Bd.named
  have hnm := (name_of_methodNamed Bd.named Bd.method).1
  have hret := Bd.returns
  have X0 : Stand p l e ({ frames := 3, cells := 2, slots := 3, locals := 41 } : Room) s m #[(.ref b)] below meth cd s₁ [] 0 0 := Stand.of_body Bd
  have e0 : s₁.heap = h0 := by rw [← hh, Bd.state]; rfl
  have N0 := Fr.nil n0
  show own_Fin p e below (own_Ans s (QO0 Z b z ka h0 n0) ({ frames := 3, cells := 2, slots := 3, locals := 41 } : Room).cells ({ frames := 3, cells := 2, slots := 3, locals := 41 } : Room).slots) (s₁.setTop (entryFrame m #[(.ref b)] 1))
  refine own_cast (ef_rmO0 m b) ?_
  show own_Fin p e below _ (s₁.setTop (mkF m 0 #[.val (.ref b)] []))
  obtain ⟨T50, h50, X50, e50, E50, A50, D50, -, st50⟩ := newO X0 hx hZ hown (hw _ (List.mem_of_getElem? (i := 32) rfl)) (hw _ (List.mem_of_getElem? (i := 33) rfl)) (hw _ (List.mem_of_getElem? (i := 34) rfl)) e0 (g := (mkF m 0 #[.val (.ref b)] [])) rfl (hb hby d6_0) (by decide) (by decide)
  obtain ⟨b50, g50⟩ : ∃ z, z = h0.size := ⟨_, rfl⟩
  rw [← g50] at A50 D50 st50
  have y51 := ((Keep.refl h0 []).ext E50)
  have y52 := (Nat.le_trans Z0 E50.1)
  have y53 := (O.ext E50)
  have gn50 : n0 ≤ b50 := Nat.le_trans Z0 (Nat.le_of_eq g50.symm)
  have gk50 : h0.size ≤ b50 := Nat.le_trans (Keep.refl h0 []).1 (Nat.le_of_eq g50.symm)
  have F50_namesAndValues : Fld Z h50 b50 "com/example/settlewatt/settlewatt/model/TraceRecord$Inputs" "namesAndValues" "[Ljava/lang/String;" .null := D50 (Or.inr (hw _ (List.mem_of_getElem? (i := 54) rfl))) (ty := (.array (.object "java/lang/String"))) (by decide)
  refine own_on st50 ?_
  show own_Fin p e below _ (T50.setTop (mkF m 3 #[.val (.ref b)] [(.ref b50)]))
  refine own_on (fun tq => XS.dup X50.here hx rfl (hb hby d6_3) rfl rfl) ?_
  show own_Fin p e below _ (T50.setTop (mkF m 4 #[.val (.ref b)] [(.ref b50), (.ref b50)]))
  refine own_on (fun tq => XS.aloadN X50.here hx rfl (hb hby d6_4) rfl rfl) ?_
  show own_Fin p e below _ (T50.setTop (mkF m 5 #[.val (.ref b)] [(.ref b), (.ref b50), (.ref b50)]))
  obtain ⟨T54, h54, X54, e54, E54, A54, D54, st54⟩ := cloneH X50 hx hZ hown (hw _ (List.mem_of_getElem? (i := 35) rfl)) (hw _ (List.mem_of_getElem? (i := 36) rfl)) (hw _ (List.mem_of_getElem? (i := 40) rfl)) (hw _ (List.mem_of_getElem? (i := 38) rfl)) (hw _ (List.mem_of_getElem? (i := 39) rfl)) (hw _ (List.mem_of_getElem? (i := 41) rfl)) e50 (Arv.arh (Ab.keep y51 nin0)) (Eb.keep y51) (g := (mkF m 5 #[.val (.ref b)] [(.ref b), (.ref b50), (.ref b50)])) rfl (by rw [hml]; rfl) rfl (hb hby d6_5) (by decide) (W := 2) (cap := 0) (by show 2 * 0 + _ ≤ _; exact Nat.le_of_eq rfl) (by decide) (by decide) (by decide) (by decide)
  obtain ⟨b54, g54⟩ : ∃ z, z = h50.size := ⟨_, rfl⟩
  rw [← g54] at A54 D54 st54
  have ne54_b50 : b50 ≠ b54 := own_ne_of (Z := Z) A50.lt g54
  have y55 := (y51.ext E54)
  have y56 := (Nat.le_trans y52 E54.1)
  have y57 := (y53.ext E54)
  have y58 := (A50.ext E54)
  have y59 := (F50_namesAndValues.ext E54)
  have gn54 : n0 ≤ b54 := Nat.le_trans y52 (Nat.le_of_eq g54.symm)
  have gk54 : h0.size ≤ b54 := Nat.le_trans y51.1 (Nat.le_of_eq g54.symm)
  have V54 : Arv Z h54 b54 ka (.object "java/lang/String") (0 : Int32) [] .null := A54
  refine own_on st54 ?_
  show own_Fin p e below _ (T54.setTop (mkF m 8 #[.val (.ref b)] [(.ref b54), (.ref b50), (.ref b50)]))
  obtain ⟨T60, X60, e60, st60⟩ := castY X54 hx hZ hown (hw _ (List.mem_of_getElem? (i := 42) rfl)) e54 (Ins.self D54) (g := (mkF m 8 #[.val (.ref b)] [(.ref b54), (.ref b50), (.ref b50)])) rfl rfl (hb hby d6_8)
  refine own_on st60 ?_
  show own_Fin p e below _ (T60.setTop (mkF m 11 #[.val (.ref b)] [(.ref b54), (.ref b50), (.ref b50)]))
  obtain ⟨_, _, ⟨T61, L61, k61, n61⟩, -, X61, ⟨Lc61, hQ61, l61, y61, z61⟩, st61⟩ := X60.specialBack hx (y := (⟨"com/example/settlewatt/settlewatt/model/TraceRecord$Inputs", "<init>", "([Ljava/lang/String;)V"⟩ : MethodName)) rfl hown (mvT hZ (hw _ (List.mem_of_getElem? (i := 44) rfl))) (mvT hZ (hw _ (List.mem_of_getElem? (i := 45) rfl))) (mvT hZ (hw _ (List.mem_of_getElem? (i := 46) rfl))) (by decide) (backOf (W := 1) (rmI0 l Z a0 hw [] b50 b54 z ka h54 n0 (by exact y56) hz y57 SC y58 y59 gn50 V54) hZ (hw _ (List.mem_of_getElem? (i := 46) rfl)) (hw _ (List.mem_of_getElem? (i := 34) rfl)) (by decide) (by decide)) (g := (mkF m 11 #[.val (.ref b)] [(.ref b54), (.ref b50), (.ref b50)])) rfl (by rw [hml]; rfl) (Steps.refl _) (a := b50) (argsL := [(.ref b54)]) (rest := [(.ref b50)]) (lenOf pd_4 rfl) rfl (by show 2 * 0 + _ ≤ _; exact Nat.le_of_eq rfl) (hb hby d6_11) (fun _ _ => ⟨rfl, e60, (by decide : 2 + 0 ≤ _), (by decide : 3 + 0 ≤ _)⟩)
  dsimp only [Pt.U, Pt.locs, Pt.cells, Pt.slots] at X61 l61 y61 z61 st61 hQ61
  subst l61 y61 z61
  obtain ⟨rfl, N61q, K61, Eq61, Fq61⟩ := hQ61
  have N61 := Fr.app N0 N61q
  have y62 := (y55.trans K61 (allS (Or.inr gk50) all0))
  have y63 := (Nat.le_trans y56 K61.1)
  have y64 := (y57.keep K61 (allS gn50 all0))
  have y65 := (y58.keep K61)
  have y66 := (D54.keep K61)
  have y67 := (V54.keep K61 (ninS (Ne.symm ne54_b50) nin0))
  refine own_via st61 ?_
  show own_Fin p e below _ (T61.setTop (mkF m 14 #[.val (.ref b)] [(.ref b50)]))
  exact own_ret (t := (.object "java/util/Map")) X61 hx hlk hret rfl (Or.inr (Or.inr (Or.inr (Or.inr ⟨rfl, rfl, rfl⟩)))) (hb hby d6_14) (by show QO0 Z b z ka h0 n0 _ T61.heap _; exact ⟨b50, b54, rfl, N61, y62, gk50, gk54, y65, Fq61, y67⟩) (by decide) (by decide)
theorem d7_38 : decode prog_38_method_1_code 38 = .ok (.iconst 0, 1) := by decide +kernel
theorem d7_39 : decode prog_38_method_1_code 39 = .ok (.istore 4, 2) := by decide +kernel
theorem d7_41 : decode prog_38_method_1_code 41 = .ok (.iload 4, 2) := by decide +kernel
theorem d7_43 : decode prog_38_method_1_code 43 = .ok (.iload_n 3, 1) := by decide +kernel
theorem d7_44 : decode prog_38_method_1_code 44 = .ok (.if_icmp .ge 38, 3) := by decide +kernel
theorem d7_82 : decode prog_38_method_1_code 82 = .ok (.iinc 3 2, 3) := by decide +kernel
theorem d7_85 : decode prog_38_method_1_code 85 = .ok (.goto (-52), 3) := by decide +kernel
theorem ef_rmI1 (m : MethodId) (x0 : Addr) (x1 : Addr) : entryFrame m #[(.ref x0), (.ref x1)] 5 = mkF m 0 #[.val (.ref x0), .val (.ref x1), .unset, .unset, .unset] [] := by first | (simp [entryFrame, mkF, argsToLocals, Value.category]; done) | rfl
def QI1 (Z : State) (a : Addr) (b : Addr) (z : Int32) (ka : ClassId) (ke0 : Addr) (u0 : Addr) (c0 : Int32) (t_ke0 : Addr) (k_ke0 : ClassId) (h0 : Heap) (n0 : Nat) (v : Option Value) (h : Heap) (L : List Loc) : Prop := v = none ∧ Fr n0 L ∧ Keep h0 h [a] ∧ Exa Z h a "com/example/settlewatt/settlewatt/model/TraceRecord$Inputs" ∧ Fld Z h a "com/example/settlewatt/settlewatt/model/TraceRecord$Inputs" "namesAndValues" "[Ljava/lang/String;" (.ref b)
set_option maxRecDepth 65536 in
set_option maxHeartbeats 40000000 in
theorem rmI1 (l : Launch) (Z : State) (a0 : Array Value) (hw : ∀ d ∈ tables_1, d.before a0 Z = true) (ws : List Jvm.Cond) (a : Addr) (b : Addr) (z : Int32) (ka : ClassId) (ke0 : Addr) (u0 : Addr) (c0 : Int32) (t_ke0 : Addr) (k_ke0 : ClassId) (h0 : Heap) (n0 : Nat) (Z0 : n0 ≤ h0.size) (hz : ¬ z = (0 : Int32)) (O : Old Z n0 h0) (SC : Sta Z Z.heap "java/lang/String" "COMPACT_STRINGS" "Z" (.int z)) (E : Exa Z h0 a "com/example/settlewatt/settlewatt/model/TraceRecord$Inputs") (F : Fld Z h0 a "com/example/settlewatt/settlewatt/model/TraceRecord$Inputs" "namesAndValues" "[Ljava/lang/String;" .null) (ga : n0 ≤ a) (Ab : Arv Z h0 b ka (.object "java/lang/String") (2 : Int32) [(.ref ke0), (.ref u0)] .null) (E_ke0 : Exa Z h0 ke0 "java/lang/String") (C_ke0 : Fld Z h0 ke0 "java/lang/String" "coder" "B" (.int 0)) (V_ke0 : Fld Z h0 ke0 "java/lang/String" "value" "[B" (.ref t_ke0)) (A_ke0 : Arv Z h0 t_ke0 k_ke0 .byte (1 : Int32) (([c0].map StrChars.lo8).map Value.int) (.int 0)) (r_ke0 : ∀ q_ ∈ [c0], ¬ q_ < 0 ∧ ¬ (255 : Int32) < q_) :
    MetFree l (⟨"com/example/settlewatt/settlewatt/model/TraceRecord$Inputs", "<init>", "([Ljava/lang/String;)V"⟩ : MethodName) (head1 (Jvm.Cond.code (⟨"com/example/settlewatt/settlewatt/model/TraceRecord$Inputs", "<init>", "([Ljava/lang/String;)V"⟩ : MethodName) prog_38_method_1_code 5 none :: ws) ({ frames := 2, cells := 0, slots := 0, locals := 24 } : Room)) (fun as_ U => as_ = #[(.ref a), (.ref b)] ∧ Z.Warmed39 U.vm ∧ U.heap = h0) (fun _ _ _ _ _ => True) (fun _ U out_ U' => ∃ v L, out_ = .returned v ∧ QI1 Z a b z ka ke0 u0 c0 t_ke0 k_ke0 h0 n0 v U'.heap L ∧ FrameEnd U out_ U' L ({ frames := 2, cells := 0, slots := 0, locals := 24 } : Room).cells ({ frames := 2, cells := 0, slots := 0, locals := 24 } : Room).slots) := by
  refine MetFree.of_bodySF (plainFor_of_name pn_5) hisR ?_
  intro p e s m args below meth cd s₁ Bd hml0 hP hK
  obtain ⟨rfl, hZ, hh⟩ := hP
  have hx := Bd.exec
  have hby := Bd.bytes
  have hml : cd.maxLocals = 5 := hml0
  have hlk : meth.locks = false := BodyLoose.notSynchronized Bd
  have hown : s.vm.findClass "com/example/settlewatt/settlewatt/model/TraceRecord$Inputs" = some m.cls := findClass_of_methodNamed Bd.named
  have hnm := (name_of_methodNamed Bd.named Bd.method).1
  have hret := Bd.returns
  have X0 : Stand p l e ({ frames := 2, cells := 0, slots := 0, locals := 24 } : Room) s m #[(.ref a), (.ref b)] below meth cd s₁ [] 0 0 := Stand.of_body Bd
  have e0 : s₁.heap = h0 := by rw [← hh, Bd.state]; rfl
  have N0 := Fr.nil n0
  show own_Fin p e below (own_Ans s (QI1 Z a b z ka ke0 u0 c0 t_ke0 k_ke0 h0 n0) ({ frames := 2, cells := 0, slots := 0, locals := 24 } : Room).cells ({ frames := 2, cells := 0, slots := 0, locals := 24 } : Room).slots) (s₁.setTop (entryFrame m #[(.ref a), (.ref b)] 5))
  refine own_cast (ef_rmI1 m a b) ?_
  show own_Fin p e below _ (s₁.setTop (mkF m 0 #[.val (.ref a), .val (.ref b), .unset, .unset, .unset] []))
  refine own_on (fun tq => XS.aloadN X0.here hx rfl (hb hby d7_0) rfl rfl) ?_
  show own_Fin p e below _ (s₁.setTop (mkF m 1 #[.val (.ref a), .val (.ref b), .unset, .unset, .unset] [(.ref a)]))
  obtain ⟨_, _, ⟨T68, L68, k68, n68⟩, -, X68, ⟨Lc68, hQ68, l68, y68, z68⟩, st68⟩ := X0.specialBack hx (y := (⟨"java/util/AbstractMap", "<init>", "()V"⟩ : MethodName)) rfl hown (mvT hZ (hw _ (List.mem_of_getElem? (i := 47) rfl))) (mvT hZ (hw _ (List.mem_of_getElem? (i := 48) rfl))) (mvT hZ (hw _ (List.mem_of_getElem? (i := 51) rfl))) (by decide) (backOf (W := 0) (rm8 l Z a0 hw [] a h0 n0 (by exact Z0)) hZ (hw _ (List.mem_of_getElem? (i := 51) rfl)) (hw _ (List.mem_of_getElem? (i := 50) rfl)) (by decide) (by decide)) (g := (mkF m 1 #[.val (.ref a), .val (.ref b), .unset, .unset, .unset] [(.ref a)])) rfl (by rw [hml]; rfl) (Steps.refl _) (a := a) (argsL := []) (rest := []) (lenOf pd_3 rfl) rfl (by show 2 * 0 + _ ≤ _; exact Nat.le_of_eq rfl) (hb hby d7_1) (fun _ _ => ⟨rfl, e0, (by decide : 0 + 0 ≤ _), (by decide : 0 + 0 ≤ _)⟩)
  dsimp only [Pt.U, Pt.locs, Pt.cells, Pt.slots] at X68 l68 y68 z68 st68 hQ68
  subst l68 y68 z68
  obtain ⟨rfl, N68q, e68⟩ := hQ68
  have N68 := Fr.app N0 N68q
  refine own_via st68 ?_
  show own_Fin p e below _ (T68.setTop (mkF m 4 #[.val (.ref a), .val (.ref b), .unset, .unset, .unset] []))
  refine own_on (fun tq => XS.aloadN X68.here hx rfl (hb hby d7_4) rfl rfl) ?_
  show own_Fin p e below _ (T68.setTop (mkF m 5 #[.val (.ref a), .val (.ref b), .unset, .unset, .unset] [(.ref b)]))
  have cp69 := Ab
  obtain ⟨cl69, Ar69, q69, S69, G69, H69, F69⟩ := cp69
  refine own_on (fun tq => X68.arraylength hx (by rw [e68]; exact Ar69.1) (State.isArrayOf_alike hZ.alike Ar69.2.1) (g := (mkF m 5 #[.val (.ref a), .val (.ref b), .unset, .unset, .unset] [(.ref b)])) rfl rfl (hb hby d7_5) tq) ?_
  rw [len_of S69 G69]
  show own_Fin p e below _ (T68.setTop (mkF m 6 #[.val (.ref a), .val (.ref b), .unset, .unset, .unset] [(.int (2 : Int32))]))
  refine own_on (fun tq => XS.istoreN X68.here hx rfl (hb hby d7_6) rfl (l' := #[.val (.ref a), .val (.ref b), .val (.int (2 : Int32)), .unset, .unset]) rfl) ?_
  show own_Fin p e below _ (T68.setTop (mkF m 7 #[.val (.ref a), .val (.ref b), .val (.int (2 : Int32)), .unset, .unset] []))
  refine own_on (fun tq => XS.iloadN X68.here hx rfl (hb hby d7_7) rfl) ?_
  show own_Fin p e below _ (T68.setTop (mkF m 8 #[.val (.ref a), .val (.ref b), .val (.int (2 : Int32)), .unset, .unset] [(.int (2 : Int32))]))
  refine own_on (fun tq => XS.iconst X68.here hx rfl (hb hby d7_8)) ?_
  show own_Fin p e below _ (T68.setTop (mkF m 9 #[.val (.ref a), .val (.ref b), .val (.int (2 : Int32)), .unset, .unset] [(.int (2 : Int32)), (.int (2 : Int32))]))
  refine own_on (fun tq => iremM X68 hx rfl (hb hby d7_9) rfl (by decide)) ?_
  show own_Fin p e below _ (T68.setTop (mkF m 10 #[.val (.ref a), .val (.ref b), .val (.int (2 : Int32)), .unset, .unset] [(.int ((2 : Int32) % (2 : Int32)))]))
  refine own_on (fun tq => XS.ifYes X68.here hx rfl (pc0 := 10) (pc' := 31) rfl (hb hby d7_10) rfl ((if0 _ _).trans (teq (by decide : ((2 : Int32) % (2 : Int32)) = (0 : Int32))).1) (by decide) (by decide)) ?_
  show own_Fin p e below _ (T68.setTop (mkF m 31 #[.val (.ref a), .val (.ref b), .val (.int (2 : Int32)), .unset, .unset] []))
  refine own_on (fun tq => XS.iconst X68.here hx rfl (hb hby d7_31)) ?_
  show own_Fin p e below _ (T68.setTop (mkF m 32 #[.val (.ref a), .val (.ref b), .val (.int (2 : Int32)), .unset, .unset] [(.int (0 : Int32))]))
  refine own_on (fun tq => XS.istoreN X68.here hx rfl (hb hby d7_32) rfl (l' := #[.val (.ref a), .val (.ref b), .val (.int (2 : Int32)), .val (.int (0 : Int32)), .unset]) rfl) ?_
  show own_Fin p e below _ (T68.setTop (mkF m 33 #[.val (.ref a), .val (.ref b), .val (.int (2 : Int32)), .val (.int (0 : Int32)), .unset] []))
  refine own_on (fun tq => XS.iloadN X68.here hx rfl (hb hby d7_33) rfl) ?_
  show own_Fin p e below _ (T68.setTop (mkF m 34 #[.val (.ref a), .val (.ref b), .val (.int (2 : Int32)), .val (.int (0 : Int32)), .unset] [(.int (0 : Int32))]))
  refine own_on (fun tq => XS.iloadN X68.here hx rfl (hb hby d7_34) rfl) ?_
  show own_Fin p e below _ (T68.setTop (mkF m 35 #[.val (.ref a), .val (.ref b), .val (.int (2 : Int32)), .val (.int (0 : Int32)), .unset] [(.int (2 : Int32)), (.int (0 : Int32))]))
  refine own_on (fun tq => XS.icmpNo X68.here hx rfl (hb hby d7_35) rfl (tlt (by decide : (0 : Int32) < (2 : Int32))).2.1) ?_
  show own_Fin p e below _ (T68.setTop (mkF m 38 #[.val (.ref a), .val (.ref b), .val (.int (2 : Int32)), .val (.int (0 : Int32)), .unset] []))
  refine own_on (fun tq => XS.iconst X68.here hx rfl (hb hby d7_38)) ?_
  show own_Fin p e below _ (T68.setTop (mkF m 39 #[.val (.ref a), .val (.ref b), .val (.int (2 : Int32)), .val (.int (0 : Int32)), .unset] [(.int (0 : Int32))]))
  refine own_on (fun tq => XS.istore X68.here hx rfl (hb hby d7_39) rfl (l' := #[.val (.ref a), .val (.ref b), .val (.int (2 : Int32)), .val (.int (0 : Int32)), .val (.int (0 : Int32))]) rfl) ?_
  show own_Fin p e below _ (T68.setTop (mkF m 41 #[.val (.ref a), .val (.ref b), .val (.int (2 : Int32)), .val (.int (0 : Int32)), .val (.int (0 : Int32))] []))
  refine own_on (fun tq => XS.iload X68.here hx rfl (hb hby d7_41) rfl) ?_
  show own_Fin p e below _ (T68.setTop (mkF m 43 #[.val (.ref a), .val (.ref b), .val (.int (2 : Int32)), .val (.int (0 : Int32)), .val (.int (0 : Int32))] [(.int (0 : Int32))]))
  refine own_on (fun tq => XS.iloadN X68.here hx rfl (hb hby d7_43) rfl) ?_
  show own_Fin p e below _ (T68.setTop (mkF m 44 #[.val (.ref a), .val (.ref b), .val (.int (2 : Int32)), .val (.int (0 : Int32)), .val (.int (0 : Int32))] [(.int (0 : Int32)), (.int (0 : Int32))]))
  refine own_on (fun tq => XS.icmpYes X68.here hx rfl (pc0 := 44) (pc' := 82) rfl (hb hby d7_44) rfl (flt (by decide : ¬ ((0 : Int32) < (0 : Int32)))).2.1 (by decide) (by decide)) ?_
  show own_Fin p e below _ (T68.setTop (mkF m 82 #[.val (.ref a), .val (.ref b), .val (.int (2 : Int32)), .val (.int (0 : Int32)), .val (.int (0 : Int32))] []))
  refine own_on (fun tq => XS.iinc X68.here hx rfl (hb hby d7_82) rfl (l' := #[.val (.ref a), .val (.ref b), .val (.int (2 : Int32)), .val (.int (2 : Int32)), .val (.int (0 : Int32))]) rfl) ?_
  show own_Fin p e below _ (T68.setTop (mkF m 85 #[.val (.ref a), .val (.ref b), .val (.int (2 : Int32)), .val (.int (2 : Int32)), .val (.int (0 : Int32))] []))
  refine own_on (fun tq => XS.goto X68.here hx rfl (pc0 := 85) (pc' := 33) rfl (hb hby d7_85) (by decide) (by decide)) ?_
  show own_Fin p e below _ (T68.setTop (mkF m 33 #[.val (.ref a), .val (.ref b), .val (.int (2 : Int32)), .val (.int (2 : Int32)), .val (.int (0 : Int32))] []))
  refine own_on (fun tq => XS.iloadN X68.here hx rfl (hb hby d7_33) rfl) ?_
  show own_Fin p e below _ (T68.setTop (mkF m 34 #[.val (.ref a), .val (.ref b), .val (.int (2 : Int32)), .val (.int (2 : Int32)), .val (.int (0 : Int32))] [(.int (2 : Int32))]))
  refine own_on (fun tq => XS.iloadN X68.here hx rfl (hb hby d7_34) rfl) ?_
  show own_Fin p e below _ (T68.setTop (mkF m 35 #[.val (.ref a), .val (.ref b), .val (.int (2 : Int32)), .val (.int (2 : Int32)), .val (.int (0 : Int32))] [(.int (2 : Int32)), (.int (2 : Int32))]))
  refine own_on (fun tq => XS.icmpYes X68.here hx rfl (pc0 := 35) (pc' := 88) rfl (hb hby d7_35) rfl (flt (by decide : ¬ ((2 : Int32) < (2 : Int32)))).2.1 (by decide) (by decide)) ?_
  show own_Fin p e below _ (T68.setTop (mkF m 88 #[.val (.ref a), .val (.ref b), .val (.int (2 : Int32)), .val (.int (2 : Int32)), .val (.int (0 : Int32))] []))
  refine own_on (fun tq => XS.aloadN X68.here hx rfl (hb hby d7_88) rfl rfl) ?_
  show own_Fin p e below _ (T68.setTop (mkF m 89 #[.val (.ref a), .val (.ref b), .val (.int (2 : Int32)), .val (.int (2 : Int32)), .val (.int (0 : Int32))] [(.ref a)]))
  refine own_on (fun tq => XS.aloadN X68.here hx rfl (hb hby d7_89) rfl rfl) ?_
  show own_Fin p e below _ (T68.setTop (mkF m 90 #[.val (.ref a), .val (.ref b), .val (.int (2 : Int32)), .val (.int (2 : Int32)), .val (.int (0 : Int32))] [(.ref b), (.ref a)]))
  obtain ⟨T70, h70, X70, e70, W70, st70⟩ := putF X68 hx hZ hown (host := "") (Or.inl (hw _ (List.mem_of_getElem? (i := 53) rfl))) Via.refl e68 F E (Or.inr ⟨(hw _ (List.mem_of_getElem? (i := 54) rfl)), rfl, hnm⟩) (hw _ (List.mem_of_getElem? (i := 33) rfl)) (ty := (.array (.object "java/lang/String"))) (by decide) rfl rfl (g := (mkF m 90 #[.val (.ref a), .val (.ref b), .val (.int (2 : Int32)), .val (.int (2 : Int32)), .val (.int (0 : Int32))] [(.ref b), (.ref a)])) rfl rfl (hb hby d7_90)
  have N70 := Fr.snoc X70 N68 ga
  have y71 := ((Keep.refl h0 [a]).wr W70 (Or.inl (List.mem_of_getElem? (i := 0) rfl)))
  have y72 := (Nat.le_trans Z0 (Keep.of_wr W70).1)
  have y73 := (O.wr W70 ga)
  have y74 := (E.wr W70)
  have y75 := (F.same W70)
  refine own_on st70 ?_
  show own_Fin p e below _ (T70.setTop (mkF m 93 #[.val (.ref a), .val (.ref b), .val (.int (2 : Int32)), .val (.int (2 : Int32)), .val (.int (0 : Int32))] []))
  exact own_retV X70 hx hlk hret (hb hby d7_93) (by show QI1 Z a b z ka ke0 u0 c0 t_ke0 k_ke0 h0 n0 _ T70.heap _; rw [e70]; exact ⟨rfl, N70, y71, y74, y75⟩) (by decide) (by decide)
theorem ef_rmO1 (m : MethodId) (x0 : Addr) : entryFrame m #[(.ref x0)] 1 = mkF m 0 #[.val (.ref x0)] [] := by first | (simp [entryFrame, mkF, argsToLocals, Value.category]; done) | rfl
def QO1 (Z : State) (b : Addr) (z : Int32) (ka : ClassId) (ke0 : Addr) (u0 : Addr) (c0 : Int32) (t_ke0 : Addr) (k_ke0 : ClassId) (h0 : Heap) (n0 : Nat) (v : Option Value) (h : Heap) (L : List Loc) : Prop := ∃ m a : Addr, v = some (.ref m) ∧ Fr n0 L ∧ Keep h0 h [] ∧ h0.size ≤ m ∧ h0.size ≤ a ∧ Exa Z h m "com/example/settlewatt/settlewatt/model/TraceRecord$Inputs" ∧ Fld Z h m "com/example/settlewatt/settlewatt/model/TraceRecord$Inputs" "namesAndValues" "[Ljava/lang/String;" (.ref a) ∧ Arv Z h a ka (.object "java/lang/String") (2 : Int32) [(.ref ke0), (.ref u0)] .null
set_option maxRecDepth 65536 in
set_option maxHeartbeats 40000000 in
theorem rmO1 (l : Launch) (Z : State) (a0 : Array Value) (hw : ∀ d ∈ tables_1, d.before a0 Z = true) (ws : List Jvm.Cond) (b : Addr) (z : Int32) (ka : ClassId) (ke0 : Addr) (u0 : Addr) (c0 : Int32) (t_ke0 : Addr) (k_ke0 : ClassId) (h0 : Heap) (n0 : Nat) (Z0 : n0 ≤ h0.size) (hz : ¬ z = (0 : Int32)) (O : Old Z n0 h0) (SC : Sta Z Z.heap "java/lang/String" "COMPACT_STRINGS" "Z" (.int z)) (Ab : Arv Z h0 b ka (.object "java/lang/String") (2 : Int32) [(.ref ke0), (.ref u0)] .null) (Eb : Exa Z h0 b "[Ljava/lang/String;") (E_ke0 : Exa Z h0 ke0 "java/lang/String") (C_ke0 : Fld Z h0 ke0 "java/lang/String" "coder" "B" (.int 0)) (V_ke0 : Fld Z h0 ke0 "java/lang/String" "value" "[B" (.ref t_ke0)) (A_ke0 : Arv Z h0 t_ke0 k_ke0 .byte (1 : Int32) (([c0].map StrChars.lo8).map Value.int) (.int 0)) (r_ke0 : ∀ q_ ∈ [c0], ¬ q_ < 0 ∧ ¬ (255 : Int32) < q_) :
    MetFree l (⟨"com/example/settlewatt/settlewatt/model/TraceRecord", "inputsOf", "([Ljava/lang/String;)Ljava/util/Map;"⟩ : MethodName) (head1 (Jvm.Cond.code (⟨"com/example/settlewatt/settlewatt/model/TraceRecord", "inputsOf", "([Ljava/lang/String;)Ljava/util/Map;"⟩ : MethodName) prog_37_method_3_code 1 (some (.object "java/util/Map")) :: ws) ({ frames := 3, cells := 2, slots := 5, locals := 41 } : Room)) (fun as_ U => as_ = #[(.ref b)] ∧ Z.Warmed39 U.vm ∧ U.heap = h0) (fun _ _ _ _ _ => True) (fun _ U out_ U' => ∃ v L, out_ = .returned v ∧ QO1 Z b z ka ke0 u0 c0 t_ke0 k_ke0 h0 n0 v U'.heap L ∧ FrameEnd U out_ U' L ({ frames := 3, cells := 2, slots := 5, locals := 41 } : Room).cells ({ frames := 3, cells := 2, slots := 5, locals := 41 } : Room).slots) := by
  refine MetFree.of_bodySF (plainFor_of_name pn_6) hisR ?_
  intro p e s m args below meth cd s₁ Bd hml0 hP hK
  obtain ⟨rfl, hZ, hh⟩ := hP
  have hx := Bd.exec
  have hby := Bd.bytes
  have hml : cd.maxLocals = 1 := hml0
  have hlk : meth.locks = false := BodyLoose.notSynchronized Bd
  have hown : s.vm.findClass "com/example/settlewatt/settlewatt/model/TraceRecord" = some m.cls := findClass_of_methodNamed Bd.named
  have hnm := (name_of_methodNamed Bd.named Bd.method).1
  have hret := Bd.returns
  have X0 : Stand p l e ({ frames := 3, cells := 2, slots := 5, locals := 41 } : Room) s m #[(.ref b)] below meth cd s₁ [] 0 0 := Stand.of_body Bd
  have e0 : s₁.heap = h0 := by rw [← hh, Bd.state]; rfl
  have N0 := Fr.nil n0
  show own_Fin p e below (own_Ans s (QO1 Z b z ka ke0 u0 c0 t_ke0 k_ke0 h0 n0) ({ frames := 3, cells := 2, slots := 5, locals := 41 } : Room).cells ({ frames := 3, cells := 2, slots := 5, locals := 41 } : Room).slots) (s₁.setTop (entryFrame m #[(.ref b)] 1))
  refine own_cast (ef_rmO1 m b) ?_
  show own_Fin p e below _ (s₁.setTop (mkF m 0 #[.val (.ref b)] []))
  obtain ⟨T76, h76, X76, e76, E76, A76, D76, -, st76⟩ := newO X0 hx hZ hown (hw _ (List.mem_of_getElem? (i := 32) rfl)) (hw _ (List.mem_of_getElem? (i := 33) rfl)) (hw _ (List.mem_of_getElem? (i := 34) rfl)) e0 (g := (mkF m 0 #[.val (.ref b)] [])) rfl (hb hby d6_0) (by decide) (by decide)
  obtain ⟨b76, g76⟩ : ∃ z, z = h0.size := ⟨_, rfl⟩
  rw [← g76] at A76 D76 st76
  have y77 := ((Keep.refl h0 []).ext E76)
  have y78 := (Nat.le_trans Z0 E76.1)
  have y79 := (O.ext E76)
  have gn76 : n0 ≤ b76 := Nat.le_trans Z0 (Nat.le_of_eq g76.symm)
  have gk76 : h0.size ≤ b76 := Nat.le_trans (Keep.refl h0 []).1 (Nat.le_of_eq g76.symm)
  have F76_namesAndValues : Fld Z h76 b76 "com/example/settlewatt/settlewatt/model/TraceRecord$Inputs" "namesAndValues" "[Ljava/lang/String;" .null := D76 (Or.inr (hw _ (List.mem_of_getElem? (i := 54) rfl))) (ty := (.array (.object "java/lang/String"))) (by decide)
  refine own_on st76 ?_
  show own_Fin p e below _ (T76.setTop (mkF m 3 #[.val (.ref b)] [(.ref b76)]))
  refine own_on (fun tq => XS.dup X76.here hx rfl (hb hby d6_3) rfl rfl) ?_
  show own_Fin p e below _ (T76.setTop (mkF m 4 #[.val (.ref b)] [(.ref b76), (.ref b76)]))
  refine own_on (fun tq => XS.aloadN X76.here hx rfl (hb hby d6_4) rfl rfl) ?_
  show own_Fin p e below _ (T76.setTop (mkF m 5 #[.val (.ref b)] [(.ref b), (.ref b76), (.ref b76)]))
  obtain ⟨T80, h80, X80, e80, E80, A80, D80, st80⟩ := cloneH X76 hx hZ hown (hw _ (List.mem_of_getElem? (i := 35) rfl)) (hw _ (List.mem_of_getElem? (i := 36) rfl)) (hw _ (List.mem_of_getElem? (i := 40) rfl)) (hw _ (List.mem_of_getElem? (i := 38) rfl)) (hw _ (List.mem_of_getElem? (i := 39) rfl)) (hw _ (List.mem_of_getElem? (i := 41) rfl)) e76 (Arv.arh (Ab.keep y77 nin0)) (Eb.keep y77) (g := (mkF m 5 #[.val (.ref b)] [(.ref b), (.ref b76), (.ref b76)])) rfl (by rw [hml]; rfl) rfl (hb hby d6_5) (by decide) (W := 2) (cap := 2) (by show 2 * 0 + _ ≤ _; exact Nat.le_of_eq rfl) (by decide) (by decide) (by decide) (by decide)
  obtain ⟨b80, g80⟩ : ∃ z, z = h76.size := ⟨_, rfl⟩
  rw [← g80] at A80 D80 st80
  have ne80_b76 : b76 ≠ b80 := own_ne_of (Z := Z) A76.lt g80
  have y81 := (y77.ext E80)
  have y82 := (Nat.le_trans y78 E80.1)
  have y83 := (y79.ext E80)
  have y84 := (A76.ext E80)
  have y85 := (F76_namesAndValues.ext E80)
  have gn80 : n0 ≤ b80 := Nat.le_trans y78 (Nat.le_of_eq g80.symm)
  have gk80 : h0.size ≤ b80 := Nat.le_trans y77.1 (Nat.le_of_eq g80.symm)
  have V80 : Arv Z h80 b80 ka (.object "java/lang/String") (2 : Int32) [(.ref ke0), (.ref u0)] .null := A80
  refine own_on st80 ?_
  show own_Fin p e below _ (T80.setTop (mkF m 8 #[.val (.ref b)] [(.ref b80), (.ref b76), (.ref b76)]))
  obtain ⟨T86, X86, e86, st86⟩ := castY X80 hx hZ hown (hw _ (List.mem_of_getElem? (i := 42) rfl)) e80 (Ins.self D80) (g := (mkF m 8 #[.val (.ref b)] [(.ref b80), (.ref b76), (.ref b76)])) rfl rfl (hb hby d6_8)
  refine own_on st86 ?_
  show own_Fin p e below _ (T86.setTop (mkF m 11 #[.val (.ref b)] [(.ref b80), (.ref b76), (.ref b76)]))
  obtain ⟨_, _, ⟨T87, L87, k87, n87⟩, -, X87, ⟨Lc87, hQ87, l87, y87, z87⟩, st87⟩ := X86.specialBack hx (y := (⟨"com/example/settlewatt/settlewatt/model/TraceRecord$Inputs", "<init>", "([Ljava/lang/String;)V"⟩ : MethodName)) rfl hown (mvT hZ (hw _ (List.mem_of_getElem? (i := 44) rfl))) (mvT hZ (hw _ (List.mem_of_getElem? (i := 45) rfl))) (mvT hZ (hw _ (List.mem_of_getElem? (i := 46) rfl))) (by decide) (backOf (W := 1) (rmI1 l Z a0 hw [] b76 b80 z ka ke0 u0 c0 t_ke0 k_ke0 h80 n0 (by exact y82) hz y83 SC y84 y85 gn76 V80 (E_ke0.keep y81) (C_ke0.keep y81 nin0) (V_ke0.keep y81 nin0) (A_ke0.keep y81 nin0) r_ke0) hZ (hw _ (List.mem_of_getElem? (i := 46) rfl)) (hw _ (List.mem_of_getElem? (i := 34) rfl)) (by decide) (by decide)) (g := (mkF m 11 #[.val (.ref b)] [(.ref b80), (.ref b76), (.ref b76)])) rfl (by rw [hml]; rfl) (Steps.refl _) (a := b76) (argsL := [(.ref b80)]) (rest := [(.ref b76)]) (lenOf pd_4 rfl) rfl (by show 2 * 0 + _ ≤ _; exact Nat.le_of_eq rfl) (hb hby d6_11) (fun _ _ => ⟨rfl, e86, (by decide : 2 + 0 ≤ _), (by decide : 5 + 0 ≤ _)⟩)
  dsimp only [Pt.U, Pt.locs, Pt.cells, Pt.slots] at X87 l87 y87 z87 st87 hQ87
  subst l87 y87 z87
  obtain ⟨rfl, N87q, K87, Eq87, Fq87⟩ := hQ87
  have N87 := Fr.app N0 N87q
  have y88 := (y81.trans K87 (allS (Or.inr gk76) all0))
  have y89 := (Nat.le_trans y82 K87.1)
  have y90 := (y83.keep K87 (allS gn76 all0))
  have y91 := (y84.keep K87)
  have y92 := (D80.keep K87)
  have y93 := (V80.keep K87 (ninS (Ne.symm ne80_b76) nin0))
  refine own_via st87 ?_
  show own_Fin p e below _ (T87.setTop (mkF m 14 #[.val (.ref b)] [(.ref b76)]))
  exact own_ret (t := (.object "java/util/Map")) X87 hx hlk hret rfl (Or.inr (Or.inr (Or.inr (Or.inr ⟨rfl, rfl, rfl⟩)))) (hb hby d6_14) (by show QO1 Z b z ka ke0 u0 c0 t_ke0 k_ke0 h0 n0 _ T87.heap _; exact ⟨b76, b80, rfl, N87, y88, gk76, gk80, y91, Fq87, y93⟩) (by decide) (by decide)
theorem d7_47 : decode prog_38_method_1_code 47 = .ok (.aload_n 1, 1) := by decide +kernel
theorem d7_48 : decode prog_38_method_1_code 48 = .ok (.iload 4, 2) := by decide +kernel
theorem d7_50 : decode prog_38_method_1_code 50 = .ok (.aaload, 1) := by decide +kernel
theorem d7_51 : decode prog_38_method_1_code 51 = .ok (.aload_n 1, 1) := by decide +kernel
theorem d7_52 : decode prog_38_method_1_code 52 = .ok (.iload_n 3, 1) := by decide +kernel
theorem d7_53 : decode prog_38_method_1_code 53 = .ok (.aaload, 1) := by decide +kernel
theorem d7_54 : decode prog_38_method_1_code 54 = .ok (.invokevirtual 16, 3) := by decide +kernel
theorem pd_5 : parseMethodDescriptor "(Ljava/lang/Object;)Z" = some ⟨[(.object "java/lang/Object")], some .boolean⟩ := by decide +kernel
theorem d7_57 : decode prog_38_method_1_code 57 = .ok (.ifCond .eq 19, 3) := by decide +kernel
theorem d7_76 : decode prog_38_method_1_code 76 = .ok (.iinc 4 2, 3) := by decide +kernel
theorem d7_79 : decode prog_38_method_1_code 79 = .ok (.goto (-38), 3) := by decide +kernel
theorem ef_rmI2 (m : MethodId) (x0 : Addr) (x1 : Addr) : entryFrame m #[(.ref x0), (.ref x1)] 5 = mkF m 0 #[.val (.ref x0), .val (.ref x1), .unset, .unset, .unset] [] := by first | (simp [entryFrame, mkF, argsToLocals, Value.category]; done) | rfl
def QI2 (Z : State) (a : Addr) (b : Addr) (z : Int32) (ka : ClassId) (ke0 : Addr) (ke1 : Addr) (u0 : Addr) (u1 : Addr) (c0 : Int32) (c1 : Int32) (t_ke0 : Addr) (k_ke0 : ClassId) (t_ke1 : Addr) (k_ke1 : ClassId) (h0 : Heap) (n0 : Nat) (v : Option Value) (h : Heap) (L : List Loc) : Prop := v = none ∧ Fr n0 L ∧ Keep h0 h [a] ∧ Exa Z h a "com/example/settlewatt/settlewatt/model/TraceRecord$Inputs" ∧ Fld Z h a "com/example/settlewatt/settlewatt/model/TraceRecord$Inputs" "namesAndValues" "[Ljava/lang/String;" (.ref b)
set_option maxRecDepth 65536 in
set_option maxHeartbeats 40000000 in
theorem rmI2 (l : Launch) (Z : State) (a0 : Array Value) (hw : ∀ d ∈ tables_1, d.before a0 Z = true) (ws : List Jvm.Cond) (a : Addr) (b : Addr) (z : Int32) (ka : ClassId) (ke0 : Addr) (ke1 : Addr) (u0 : Addr) (u1 : Addr) (c0 : Int32) (c1 : Int32) (t_ke0 : Addr) (k_ke0 : ClassId) (t_ke1 : Addr) (k_ke1 : ClassId) (h0 : Heap) (n0 : Nat) (Z0 : n0 ≤ h0.size) (hz : ¬ z = (0 : Int32)) (O : Old Z n0 h0) (SC : Sta Z Z.heap "java/lang/String" "COMPACT_STRINGS" "Z" (.int z)) (E : Exa Z h0 a "com/example/settlewatt/settlewatt/model/TraceRecord$Inputs") (F : Fld Z h0 a "com/example/settlewatt/settlewatt/model/TraceRecord$Inputs" "namesAndValues" "[Ljava/lang/String;" .null) (ga : n0 ≤ a) (Ab : Arv Z h0 b ka (.object "java/lang/String") (4 : Int32) [(.ref ke0), (.ref u0), (.ref ke1), (.ref u1)] .null) (E_ke0 : Exa Z h0 ke0 "java/lang/String") (C_ke0 : Fld Z h0 ke0 "java/lang/String" "coder" "B" (.int 0)) (V_ke0 : Fld Z h0 ke0 "java/lang/String" "value" "[B" (.ref t_ke0)) (A_ke0 : Arv Z h0 t_ke0 k_ke0 .byte (1 : Int32) (([c0].map StrChars.lo8).map Value.int) (.int 0)) (r_ke0 : ∀ q_ ∈ [c0], ¬ q_ < 0 ∧ ¬ (255 : Int32) < q_) (E_ke1 : Exa Z h0 ke1 "java/lang/String") (C_ke1 : Fld Z h0 ke1 "java/lang/String" "coder" "B" (.int 0)) (V_ke1 : Fld Z h0 ke1 "java/lang/String" "value" "[B" (.ref t_ke1)) (A_ke1 : Arv Z h0 t_ke1 k_ke1 .byte (1 : Int32) (([c1].map StrChars.lo8).map Value.int) (.int 0)) (r_ke1 : ∀ q_ ∈ [c1], ¬ q_ < 0 ∧ ¬ (255 : Int32) < q_) (d01 : ¬ c0 = c1) :
    MetFree l (⟨"com/example/settlewatt/settlewatt/model/TraceRecord$Inputs", "<init>", "([Ljava/lang/String;)V"⟩ : MethodName) (head1 (Jvm.Cond.code (⟨"com/example/settlewatt/settlewatt/model/TraceRecord$Inputs", "<init>", "([Ljava/lang/String;)V"⟩ : MethodName) prog_38_method_1_code 5 none :: ws) ({ frames := 2, cells := 0, slots := 0, locals := 28 } : Room)) (fun as_ U => as_ = #[(.ref a), (.ref b)] ∧ Z.Warmed39 U.vm ∧ U.heap = h0) (fun _ _ _ _ _ => True) (fun _ U out_ U' => ∃ v L, out_ = .returned v ∧ QI2 Z a b z ka ke0 ke1 u0 u1 c0 c1 t_ke0 k_ke0 t_ke1 k_ke1 h0 n0 v U'.heap L ∧ FrameEnd U out_ U' L ({ frames := 2, cells := 0, slots := 0, locals := 28 } : Room).cells ({ frames := 2, cells := 0, slots := 0, locals := 28 } : Room).slots) := by
  refine MetFree.of_bodySF (plainFor_of_name pn_5) hisR ?_
  intro p e s m args below meth cd s₁ Bd hml0 hP hK
  obtain ⟨rfl, hZ, hh⟩ := hP
  have hx := Bd.exec
  have hby := Bd.bytes
  have hml : cd.maxLocals = 5 := hml0
  have hlk : meth.locks = false := BodyLoose.notSynchronized Bd
  have hown : s.vm.findClass "com/example/settlewatt/settlewatt/model/TraceRecord$Inputs" = some m.cls := findClass_of_methodNamed Bd.named
  have hnm := (name_of_methodNamed Bd.named Bd.method).1
  have hret := Bd.returns
  have X0 : Stand p l e ({ frames := 2, cells := 0, slots := 0, locals := 28 } : Room) s m #[(.ref a), (.ref b)] below meth cd s₁ [] 0 0 := Stand.of_body Bd
  have e0 : s₁.heap = h0 := by rw [← hh, Bd.state]; rfl
  have N0 := Fr.nil n0
  show own_Fin p e below (own_Ans s (QI2 Z a b z ka ke0 ke1 u0 u1 c0 c1 t_ke0 k_ke0 t_ke1 k_ke1 h0 n0) ({ frames := 2, cells := 0, slots := 0, locals := 28 } : Room).cells ({ frames := 2, cells := 0, slots := 0, locals := 28 } : Room).slots) (s₁.setTop (entryFrame m #[(.ref a), (.ref b)] 5))
  refine own_cast (ef_rmI2 m a b) ?_
  show own_Fin p e below _ (s₁.setTop (mkF m 0 #[.val (.ref a), .val (.ref b), .unset, .unset, .unset] []))
  refine own_on (fun tq => XS.aloadN X0.here hx rfl (hb hby d7_0) rfl rfl) ?_
  show own_Fin p e below _ (s₁.setTop (mkF m 1 #[.val (.ref a), .val (.ref b), .unset, .unset, .unset] [(.ref a)]))
  obtain ⟨_, _, ⟨T94, L94, k94, n94⟩, -, X94, ⟨Lc94, hQ94, l94, y94, z94⟩, st94⟩ := X0.specialBack hx (y := (⟨"java/util/AbstractMap", "<init>", "()V"⟩ : MethodName)) rfl hown (mvT hZ (hw _ (List.mem_of_getElem? (i := 47) rfl))) (mvT hZ (hw _ (List.mem_of_getElem? (i := 48) rfl))) (mvT hZ (hw _ (List.mem_of_getElem? (i := 51) rfl))) (by decide) (backOf (W := 0) (rm8 l Z a0 hw [] a h0 n0 (by exact Z0)) hZ (hw _ (List.mem_of_getElem? (i := 51) rfl)) (hw _ (List.mem_of_getElem? (i := 50) rfl)) (by decide) (by decide)) (g := (mkF m 1 #[.val (.ref a), .val (.ref b), .unset, .unset, .unset] [(.ref a)])) rfl (by rw [hml]; rfl) (Steps.refl _) (a := a) (argsL := []) (rest := []) (lenOf pd_3 rfl) rfl (by show 2 * 0 + _ ≤ _; exact Nat.le_of_eq rfl) (hb hby d7_1) (fun _ _ => ⟨rfl, e0, (by decide : 0 + 0 ≤ _), (by decide : 0 + 0 ≤ _)⟩)
  dsimp only [Pt.U, Pt.locs, Pt.cells, Pt.slots] at X94 l94 y94 z94 st94 hQ94
  subst l94 y94 z94
  obtain ⟨rfl, N94q, e94⟩ := hQ94
  have N94 := Fr.app N0 N94q
  refine own_via st94 ?_
  show own_Fin p e below _ (T94.setTop (mkF m 4 #[.val (.ref a), .val (.ref b), .unset, .unset, .unset] []))
  refine own_on (fun tq => XS.aloadN X94.here hx rfl (hb hby d7_4) rfl rfl) ?_
  show own_Fin p e below _ (T94.setTop (mkF m 5 #[.val (.ref a), .val (.ref b), .unset, .unset, .unset] [(.ref b)]))
  have cp95 := Ab
  obtain ⟨cl95, Ar95, q95, S95, G95, H95, F95⟩ := cp95
  refine own_on (fun tq => X94.arraylength hx (by rw [e94]; exact Ar95.1) (State.isArrayOf_alike hZ.alike Ar95.2.1) (g := (mkF m 5 #[.val (.ref a), .val (.ref b), .unset, .unset, .unset] [(.ref b)])) rfl rfl (hb hby d7_5) tq) ?_
  rw [len_of S95 G95]
  show own_Fin p e below _ (T94.setTop (mkF m 6 #[.val (.ref a), .val (.ref b), .unset, .unset, .unset] [(.int (4 : Int32))]))
  refine own_on (fun tq => XS.istoreN X94.here hx rfl (hb hby d7_6) rfl (l' := #[.val (.ref a), .val (.ref b), .val (.int (4 : Int32)), .unset, .unset]) rfl) ?_
  show own_Fin p e below _ (T94.setTop (mkF m 7 #[.val (.ref a), .val (.ref b), .val (.int (4 : Int32)), .unset, .unset] []))
  refine own_on (fun tq => XS.iloadN X94.here hx rfl (hb hby d7_7) rfl) ?_
  show own_Fin p e below _ (T94.setTop (mkF m 8 #[.val (.ref a), .val (.ref b), .val (.int (4 : Int32)), .unset, .unset] [(.int (4 : Int32))]))
  refine own_on (fun tq => XS.iconst X94.here hx rfl (hb hby d7_8)) ?_
  show own_Fin p e below _ (T94.setTop (mkF m 9 #[.val (.ref a), .val (.ref b), .val (.int (4 : Int32)), .unset, .unset] [(.int (2 : Int32)), (.int (4 : Int32))]))
  refine own_on (fun tq => iremM X94 hx rfl (hb hby d7_9) rfl (by decide)) ?_
  show own_Fin p e below _ (T94.setTop (mkF m 10 #[.val (.ref a), .val (.ref b), .val (.int (4 : Int32)), .unset, .unset] [(.int ((4 : Int32) % (2 : Int32)))]))
  refine own_on (fun tq => XS.ifYes X94.here hx rfl (pc0 := 10) (pc' := 31) rfl (hb hby d7_10) rfl ((if0 _ _).trans (teq (by decide : ((4 : Int32) % (2 : Int32)) = (0 : Int32))).1) (by decide) (by decide)) ?_
  show own_Fin p e below _ (T94.setTop (mkF m 31 #[.val (.ref a), .val (.ref b), .val (.int (4 : Int32)), .unset, .unset] []))
  refine own_on (fun tq => XS.iconst X94.here hx rfl (hb hby d7_31)) ?_
  show own_Fin p e below _ (T94.setTop (mkF m 32 #[.val (.ref a), .val (.ref b), .val (.int (4 : Int32)), .unset, .unset] [(.int (0 : Int32))]))
  refine own_on (fun tq => XS.istoreN X94.here hx rfl (hb hby d7_32) rfl (l' := #[.val (.ref a), .val (.ref b), .val (.int (4 : Int32)), .val (.int (0 : Int32)), .unset]) rfl) ?_
  show own_Fin p e below _ (T94.setTop (mkF m 33 #[.val (.ref a), .val (.ref b), .val (.int (4 : Int32)), .val (.int (0 : Int32)), .unset] []))
  refine own_on (fun tq => XS.iloadN X94.here hx rfl (hb hby d7_33) rfl) ?_
  show own_Fin p e below _ (T94.setTop (mkF m 34 #[.val (.ref a), .val (.ref b), .val (.int (4 : Int32)), .val (.int (0 : Int32)), .unset] [(.int (0 : Int32))]))
  refine own_on (fun tq => XS.iloadN X94.here hx rfl (hb hby d7_34) rfl) ?_
  show own_Fin p e below _ (T94.setTop (mkF m 35 #[.val (.ref a), .val (.ref b), .val (.int (4 : Int32)), .val (.int (0 : Int32)), .unset] [(.int (4 : Int32)), (.int (0 : Int32))]))
  refine own_on (fun tq => XS.icmpNo X94.here hx rfl (hb hby d7_35) rfl (tlt (by decide : (0 : Int32) < (4 : Int32))).2.1) ?_
  show own_Fin p e below _ (T94.setTop (mkF m 38 #[.val (.ref a), .val (.ref b), .val (.int (4 : Int32)), .val (.int (0 : Int32)), .unset] []))
  refine own_on (fun tq => XS.iconst X94.here hx rfl (hb hby d7_38)) ?_
  show own_Fin p e below _ (T94.setTop (mkF m 39 #[.val (.ref a), .val (.ref b), .val (.int (4 : Int32)), .val (.int (0 : Int32)), .unset] [(.int (0 : Int32))]))
  refine own_on (fun tq => XS.istore X94.here hx rfl (hb hby d7_39) rfl (l' := #[.val (.ref a), .val (.ref b), .val (.int (4 : Int32)), .val (.int (0 : Int32)), .val (.int (0 : Int32))]) rfl) ?_
  show own_Fin p e below _ (T94.setTop (mkF m 41 #[.val (.ref a), .val (.ref b), .val (.int (4 : Int32)), .val (.int (0 : Int32)), .val (.int (0 : Int32))] []))
  refine own_on (fun tq => XS.iload X94.here hx rfl (hb hby d7_41) rfl) ?_
  show own_Fin p e below _ (T94.setTop (mkF m 43 #[.val (.ref a), .val (.ref b), .val (.int (4 : Int32)), .val (.int (0 : Int32)), .val (.int (0 : Int32))] [(.int (0 : Int32))]))
  refine own_on (fun tq => XS.iloadN X94.here hx rfl (hb hby d7_43) rfl) ?_
  show own_Fin p e below _ (T94.setTop (mkF m 44 #[.val (.ref a), .val (.ref b), .val (.int (4 : Int32)), .val (.int (0 : Int32)), .val (.int (0 : Int32))] [(.int (0 : Int32)), (.int (0 : Int32))]))
  refine own_on (fun tq => XS.icmpYes X94.here hx rfl (pc0 := 44) (pc' := 82) rfl (hb hby d7_44) rfl (flt (by decide : ¬ ((0 : Int32) < (0 : Int32)))).2.1 (by decide) (by decide)) ?_
  show own_Fin p e below _ (T94.setTop (mkF m 82 #[.val (.ref a), .val (.ref b), .val (.int (4 : Int32)), .val (.int (0 : Int32)), .val (.int (0 : Int32))] []))
  refine own_on (fun tq => XS.iinc X94.here hx rfl (hb hby d7_82) rfl (l' := #[.val (.ref a), .val (.ref b), .val (.int (4 : Int32)), .val (.int (2 : Int32)), .val (.int (0 : Int32))]) rfl) ?_
  show own_Fin p e below _ (T94.setTop (mkF m 85 #[.val (.ref a), .val (.ref b), .val (.int (4 : Int32)), .val (.int (2 : Int32)), .val (.int (0 : Int32))] []))
  refine own_on (fun tq => XS.goto X94.here hx rfl (pc0 := 85) (pc' := 33) rfl (hb hby d7_85) (by decide) (by decide)) ?_
  show own_Fin p e below _ (T94.setTop (mkF m 33 #[.val (.ref a), .val (.ref b), .val (.int (4 : Int32)), .val (.int (2 : Int32)), .val (.int (0 : Int32))] []))
  refine own_on (fun tq => XS.iloadN X94.here hx rfl (hb hby d7_33) rfl) ?_
  show own_Fin p e below _ (T94.setTop (mkF m 34 #[.val (.ref a), .val (.ref b), .val (.int (4 : Int32)), .val (.int (2 : Int32)), .val (.int (0 : Int32))] [(.int (2 : Int32))]))
  refine own_on (fun tq => XS.iloadN X94.here hx rfl (hb hby d7_34) rfl) ?_
  show own_Fin p e below _ (T94.setTop (mkF m 35 #[.val (.ref a), .val (.ref b), .val (.int (4 : Int32)), .val (.int (2 : Int32)), .val (.int (0 : Int32))] [(.int (4 : Int32)), (.int (2 : Int32))]))
  refine own_on (fun tq => XS.icmpNo X94.here hx rfl (hb hby d7_35) rfl (tlt (by decide : (2 : Int32) < (4 : Int32))).2.1) ?_
  show own_Fin p e below _ (T94.setTop (mkF m 38 #[.val (.ref a), .val (.ref b), .val (.int (4 : Int32)), .val (.int (2 : Int32)), .val (.int (0 : Int32))] []))
  refine own_on (fun tq => XS.iconst X94.here hx rfl (hb hby d7_38)) ?_
  show own_Fin p e below _ (T94.setTop (mkF m 39 #[.val (.ref a), .val (.ref b), .val (.int (4 : Int32)), .val (.int (2 : Int32)), .val (.int (0 : Int32))] [(.int (0 : Int32))]))
  refine own_on (fun tq => XS.istore X94.here hx rfl (hb hby d7_39) rfl (l' := #[.val (.ref a), .val (.ref b), .val (.int (4 : Int32)), .val (.int (2 : Int32)), .val (.int (0 : Int32))]) rfl) ?_
  show own_Fin p e below _ (T94.setTop (mkF m 41 #[.val (.ref a), .val (.ref b), .val (.int (4 : Int32)), .val (.int (2 : Int32)), .val (.int (0 : Int32))] []))
  refine own_on (fun tq => XS.iload X94.here hx rfl (hb hby d7_41) rfl) ?_
  show own_Fin p e below _ (T94.setTop (mkF m 43 #[.val (.ref a), .val (.ref b), .val (.int (4 : Int32)), .val (.int (2 : Int32)), .val (.int (0 : Int32))] [(.int (0 : Int32))]))
  refine own_on (fun tq => XS.iloadN X94.here hx rfl (hb hby d7_43) rfl) ?_
  show own_Fin p e below _ (T94.setTop (mkF m 44 #[.val (.ref a), .val (.ref b), .val (.int (4 : Int32)), .val (.int (2 : Int32)), .val (.int (0 : Int32))] [(.int (2 : Int32)), (.int (0 : Int32))]))
  refine own_on (fun tq => XS.icmpNo X94.here hx rfl (hb hby d7_44) rfl (tlt (by decide : (0 : Int32) < (2 : Int32))).2.1) ?_
  show own_Fin p e below _ (T94.setTop (mkF m 47 #[.val (.ref a), .val (.ref b), .val (.int (4 : Int32)), .val (.int (2 : Int32)), .val (.int (0 : Int32))] []))
  refine own_on (fun tq => XS.aloadN X94.here hx rfl (hb hby d7_47) rfl rfl) ?_
  show own_Fin p e below _ (T94.setTop (mkF m 48 #[.val (.ref a), .val (.ref b), .val (.int (4 : Int32)), .val (.int (2 : Int32)), .val (.int (0 : Int32))] [(.ref b)]))
  refine own_on (fun tq => XS.iload X94.here hx rfl (hb hby d7_48) rfl) ?_
  show own_Fin p e below _ (T94.setTop (mkF m 50 #[.val (.ref a), .val (.ref b), .val (.int (4 : Int32)), .val (.int (2 : Int32)), .val (.int (0 : Int32))] [(.int (0 : Int32)), (.ref b)]))
  have cp96 := Ab
  obtain ⟨cl96, Ar96, q96, S96, G96, H96, F96⟩ := cp96
  have hin96 : ¬ ((0 : Int32) < 0 ∨ cl96.slots.size ≤ ((0 : Int32)).toNatClampNeg) := inb_of S96 ⟨by decide, by decide⟩
  have hat96 : cl96.slots[((0 : Int32)).toNatClampNeg]? = some (.ref ke0) := H96.at hin96 rfl
  refine own_on (fun tq => X94.aaload hx (j := (0 : Int32)) (v := (.ref ke0)) (by rw [e94]; exact Ar96.1) (State.isArrayOf_alike hZ.alike Ar96.2.1) rfl Ar96.2.2 hin96 hat96 (g := (mkF m 50 #[.val (.ref a), .val (.ref b), .val (.int (4 : Int32)), .val (.int (2 : Int32)), .val (.int (0 : Int32))] [(.int (0 : Int32)), (.ref b)])) rfl rfl (hb hby d7_50) tq) ?_
  show own_Fin p e below _ (T94.setTop (mkF m 51 #[.val (.ref a), .val (.ref b), .val (.int (4 : Int32)), .val (.int (2 : Int32)), .val (.int (0 : Int32))] [(.ref ke0)]))
  refine own_on (fun tq => XS.aloadN X94.here hx rfl (hb hby d7_51) rfl rfl) ?_
  show own_Fin p e below _ (T94.setTop (mkF m 52 #[.val (.ref a), .val (.ref b), .val (.int (4 : Int32)), .val (.int (2 : Int32)), .val (.int (0 : Int32))] [(.ref b), (.ref ke0)]))
  refine own_on (fun tq => XS.iloadN X94.here hx rfl (hb hby d7_52) rfl) ?_
  show own_Fin p e below _ (T94.setTop (mkF m 53 #[.val (.ref a), .val (.ref b), .val (.int (4 : Int32)), .val (.int (2 : Int32)), .val (.int (0 : Int32))] [(.int (2 : Int32)), (.ref b), (.ref ke0)]))
  have cp97 := Ab
  obtain ⟨cl97, Ar97, q97, S97, G97, H97, F97⟩ := cp97
  have hin97 : ¬ ((2 : Int32) < 0 ∨ cl97.slots.size ≤ ((2 : Int32)).toNatClampNeg) := inb_of S97 ⟨by decide, by decide⟩
  have hat97 : cl97.slots[((2 : Int32)).toNatClampNeg]? = some (.ref ke1) := H97.at hin97 rfl
  refine own_on (fun tq => X94.aaload hx (j := (2 : Int32)) (v := (.ref ke1)) (by rw [e94]; exact Ar97.1) (State.isArrayOf_alike hZ.alike Ar97.2.1) rfl Ar97.2.2 hin97 hat97 (g := (mkF m 53 #[.val (.ref a), .val (.ref b), .val (.int (4 : Int32)), .val (.int (2 : Int32)), .val (.int (0 : Int32))] [(.int (2 : Int32)), (.ref b), (.ref ke0)])) rfl rfl (hb hby d7_53) tq) ?_
  show own_Fin p e below _ (T94.setTop (mkF m 54 #[.val (.ref a), .val (.ref b), .val (.int (4 : Int32)), .val (.int (2 : Int32)), .val (.int (0 : Int32))] [(.ref ke1), (.ref ke0)]))
  obtain ⟨cq98, kq98, q98a, q98b, q98c⟩ := isOf hZ e94 E_ke0
  obtain ⟨_, _, ⟨T98, L98, k98, n98⟩, -, X98, ⟨Lc98, hQ98, l98, y98, z98⟩, st98⟩ := X94.virtualBack hx (y := (⟨"java/lang/String", "equals", "(Ljava/lang/Object;)Z"⟩ : MethodName)) (z := (⟨"java/lang/String", "equals", "(Ljava/lang/Object;)Z"⟩ : MethodName)) hown (mvT hZ (hw _ (List.mem_of_getElem? (i := 197) rfl))) (mvT hZ (hw _ (List.mem_of_getElem? (i := 192) rfl))) (notFace_of_selects (args := #[]) (mvT hZ (hw _ (List.mem_of_getElem? (i := 193) rfl)))) (mvT hZ (hw _ (List.mem_of_getElem? (i := 193) rfl))) (mvT hZ (hw _ (List.mem_of_getElem? (i := 181) rfl))) (by decide) (StrChars.Road.eqW (W := 0) hZ (own_wE hw) (hw _ (List.mem_of_getElem? (i := 10) rfl)) E_ke0 V_ke0 C_ke0 A_ke0 (own_cod (cs := [c0]) (n := 1) rfl (fun c q => (r_ke0 c q).2)) (own_r16 r_ke0) (Nat.le_of_ble_eq_true rfl) E_ke1 V_ke1 C_ke1 A_ke1 (own_cod (cs := [c1]) (n := 1) rfl (fun c q => (r_ke1 c q).2)) (own_r16 r_ke1) (Nat.le_of_ble_eq_true rfl) (SC.ext O.2) hz (by decide) (by decide)) q98a q98c (g := (mkF m 54 #[.val (.ref a), .val (.ref b), .val (.int (4 : Int32)), .val (.int (2 : Int32)), .val (.int (0 : Int32))] [(.ref ke1), (.ref ke0)])) rfl (by rw [hml]; rfl) (Steps.refl _) (argsL := [(.ref ke1)]) (rest := []) (lenOf pd_5 rfl) rfl (by show 2 * 0 + _ ≤ _; exact Nat.le_of_eq rfl) (hb hby d7_54) (fun _ _ => ⟨rfl, e94, (by decide : 0 + 0 ≤ _), (by decide : 0 + 0 ≤ _)⟩)
  dsimp only [Pt.U, Pt.locs, Pt.cells, Pt.slots] at X98 l98 y98 z98 st98 hQ98
  subst l98 y98 z98
  obtain ⟨hv98, rfl, e98⟩ := hQ98
  have N98 := Fr.app N94 (Fr.nil n0)
  obtain rfl := own_eq0 hv98 (own_l1 d01)
  refine own_via st98 ?_
  show own_Fin p e below _ (T98.setTop (mkF m 57 #[.val (.ref a), .val (.ref b), .val (.int (4 : Int32)), .val (.int (2 : Int32)), .val (.int (0 : Int32))] [(.int (0 : Int32))]))
  refine own_on (fun tq => XS.ifYes X98.here hx rfl (pc0 := 57) (pc' := 76) rfl (hb hby d7_57) rfl ((if0 _ _).trans (teq (by decide : (0 : Int32) = (0 : Int32))).1) (by decide) (by decide)) ?_
  show own_Fin p e below _ (T98.setTop (mkF m 76 #[.val (.ref a), .val (.ref b), .val (.int (4 : Int32)), .val (.int (2 : Int32)), .val (.int (0 : Int32))] []))
  refine own_on (fun tq => XS.iinc X98.here hx rfl (hb hby d7_76) rfl (l' := #[.val (.ref a), .val (.ref b), .val (.int (4 : Int32)), .val (.int (2 : Int32)), .val (.int (2 : Int32))]) rfl) ?_
  show own_Fin p e below _ (T98.setTop (mkF m 79 #[.val (.ref a), .val (.ref b), .val (.int (4 : Int32)), .val (.int (2 : Int32)), .val (.int (2 : Int32))] []))
  refine own_on (fun tq => XS.goto X98.here hx rfl (pc0 := 79) (pc' := 41) rfl (hb hby d7_79) (by decide) (by decide)) ?_
  show own_Fin p e below _ (T98.setTop (mkF m 41 #[.val (.ref a), .val (.ref b), .val (.int (4 : Int32)), .val (.int (2 : Int32)), .val (.int (2 : Int32))] []))
  refine own_on (fun tq => XS.iload X98.here hx rfl (hb hby d7_41) rfl) ?_
  show own_Fin p e below _ (T98.setTop (mkF m 43 #[.val (.ref a), .val (.ref b), .val (.int (4 : Int32)), .val (.int (2 : Int32)), .val (.int (2 : Int32))] [(.int (2 : Int32))]))
  refine own_on (fun tq => XS.iloadN X98.here hx rfl (hb hby d7_43) rfl) ?_
  show own_Fin p e below _ (T98.setTop (mkF m 44 #[.val (.ref a), .val (.ref b), .val (.int (4 : Int32)), .val (.int (2 : Int32)), .val (.int (2 : Int32))] [(.int (2 : Int32)), (.int (2 : Int32))]))
  refine own_on (fun tq => XS.icmpYes X98.here hx rfl (pc0 := 44) (pc' := 82) rfl (hb hby d7_44) rfl (flt (by decide : ¬ ((2 : Int32) < (2 : Int32)))).2.1 (by decide) (by decide)) ?_
  show own_Fin p e below _ (T98.setTop (mkF m 82 #[.val (.ref a), .val (.ref b), .val (.int (4 : Int32)), .val (.int (2 : Int32)), .val (.int (2 : Int32))] []))
  refine own_on (fun tq => XS.iinc X98.here hx rfl (hb hby d7_82) rfl (l' := #[.val (.ref a), .val (.ref b), .val (.int (4 : Int32)), .val (.int (4 : Int32)), .val (.int (2 : Int32))]) rfl) ?_
  show own_Fin p e below _ (T98.setTop (mkF m 85 #[.val (.ref a), .val (.ref b), .val (.int (4 : Int32)), .val (.int (4 : Int32)), .val (.int (2 : Int32))] []))
  refine own_on (fun tq => XS.goto X98.here hx rfl (pc0 := 85) (pc' := 33) rfl (hb hby d7_85) (by decide) (by decide)) ?_
  show own_Fin p e below _ (T98.setTop (mkF m 33 #[.val (.ref a), .val (.ref b), .val (.int (4 : Int32)), .val (.int (4 : Int32)), .val (.int (2 : Int32))] []))
  refine own_on (fun tq => XS.iloadN X98.here hx rfl (hb hby d7_33) rfl) ?_
  show own_Fin p e below _ (T98.setTop (mkF m 34 #[.val (.ref a), .val (.ref b), .val (.int (4 : Int32)), .val (.int (4 : Int32)), .val (.int (2 : Int32))] [(.int (4 : Int32))]))
  refine own_on (fun tq => XS.iloadN X98.here hx rfl (hb hby d7_34) rfl) ?_
  show own_Fin p e below _ (T98.setTop (mkF m 35 #[.val (.ref a), .val (.ref b), .val (.int (4 : Int32)), .val (.int (4 : Int32)), .val (.int (2 : Int32))] [(.int (4 : Int32)), (.int (4 : Int32))]))
  refine own_on (fun tq => XS.icmpYes X98.here hx rfl (pc0 := 35) (pc' := 88) rfl (hb hby d7_35) rfl (flt (by decide : ¬ ((4 : Int32) < (4 : Int32)))).2.1 (by decide) (by decide)) ?_
  show own_Fin p e below _ (T98.setTop (mkF m 88 #[.val (.ref a), .val (.ref b), .val (.int (4 : Int32)), .val (.int (4 : Int32)), .val (.int (2 : Int32))] []))
  refine own_on (fun tq => XS.aloadN X98.here hx rfl (hb hby d7_88) rfl rfl) ?_
  show own_Fin p e below _ (T98.setTop (mkF m 89 #[.val (.ref a), .val (.ref b), .val (.int (4 : Int32)), .val (.int (4 : Int32)), .val (.int (2 : Int32))] [(.ref a)]))
  refine own_on (fun tq => XS.aloadN X98.here hx rfl (hb hby d7_89) rfl rfl) ?_
  show own_Fin p e below _ (T98.setTop (mkF m 90 #[.val (.ref a), .val (.ref b), .val (.int (4 : Int32)), .val (.int (4 : Int32)), .val (.int (2 : Int32))] [(.ref b), (.ref a)]))
  obtain ⟨T99, h99, X99, e99, W99, st99⟩ := putF X98 hx hZ hown (host := "") (Or.inl (hw _ (List.mem_of_getElem? (i := 53) rfl))) Via.refl e98 F E (Or.inr ⟨(hw _ (List.mem_of_getElem? (i := 54) rfl)), rfl, hnm⟩) (hw _ (List.mem_of_getElem? (i := 33) rfl)) (ty := (.array (.object "java/lang/String"))) (by decide) rfl rfl (g := (mkF m 90 #[.val (.ref a), .val (.ref b), .val (.int (4 : Int32)), .val (.int (4 : Int32)), .val (.int (2 : Int32))] [(.ref b), (.ref a)])) rfl rfl (hb hby d7_90)
  have N99 := Fr.snoc X99 N98 ga
  have y100 := ((Keep.refl h0 [a]).wr W99 (Or.inl (List.mem_of_getElem? (i := 0) rfl)))
  have y101 := (Nat.le_trans Z0 (Keep.of_wr W99).1)
  have y102 := (O.wr W99 ga)
  have y103 := (E.wr W99)
  have y104 := (F.same W99)
  refine own_on st99 ?_
  show own_Fin p e below _ (T99.setTop (mkF m 93 #[.val (.ref a), .val (.ref b), .val (.int (4 : Int32)), .val (.int (4 : Int32)), .val (.int (2 : Int32))] []))
  exact own_retV X99 hx hlk hret (hb hby d7_93) (by show QI2 Z a b z ka ke0 ke1 u0 u1 c0 c1 t_ke0 k_ke0 t_ke1 k_ke1 h0 n0 _ T99.heap _; rw [e99]; exact ⟨rfl, N99, y100, y103, y104⟩) (by decide) (by decide)
theorem ef_rmO2 (m : MethodId) (x0 : Addr) : entryFrame m #[(.ref x0)] 1 = mkF m 0 #[.val (.ref x0)] [] := by first | (simp [entryFrame, mkF, argsToLocals, Value.category]; done) | rfl
def QO2 (Z : State) (b : Addr) (z : Int32) (ka : ClassId) (ke0 : Addr) (ke1 : Addr) (u0 : Addr) (u1 : Addr) (c0 : Int32) (c1 : Int32) (t_ke0 : Addr) (k_ke0 : ClassId) (t_ke1 : Addr) (k_ke1 : ClassId) (h0 : Heap) (n0 : Nat) (v : Option Value) (h : Heap) (L : List Loc) : Prop := ∃ m a : Addr, v = some (.ref m) ∧ Fr n0 L ∧ Keep h0 h [] ∧ h0.size ≤ m ∧ h0.size ≤ a ∧ Exa Z h m "com/example/settlewatt/settlewatt/model/TraceRecord$Inputs" ∧ Fld Z h m "com/example/settlewatt/settlewatt/model/TraceRecord$Inputs" "namesAndValues" "[Ljava/lang/String;" (.ref a) ∧ Arv Z h a ka (.object "java/lang/String") (4 : Int32) [(.ref ke0), (.ref u0), (.ref ke1), (.ref u1)] .null
set_option maxRecDepth 65536 in
set_option maxHeartbeats 40000000 in
theorem rmO2 (l : Launch) (Z : State) (a0 : Array Value) (hw : ∀ d ∈ tables_1, d.before a0 Z = true) (ws : List Jvm.Cond) (b : Addr) (z : Int32) (ka : ClassId) (ke0 : Addr) (ke1 : Addr) (u0 : Addr) (u1 : Addr) (c0 : Int32) (c1 : Int32) (t_ke0 : Addr) (k_ke0 : ClassId) (t_ke1 : Addr) (k_ke1 : ClassId) (h0 : Heap) (n0 : Nat) (Z0 : n0 ≤ h0.size) (hz : ¬ z = (0 : Int32)) (O : Old Z n0 h0) (SC : Sta Z Z.heap "java/lang/String" "COMPACT_STRINGS" "Z" (.int z)) (Ab : Arv Z h0 b ka (.object "java/lang/String") (4 : Int32) [(.ref ke0), (.ref u0), (.ref ke1), (.ref u1)] .null) (Eb : Exa Z h0 b "[Ljava/lang/String;") (E_ke0 : Exa Z h0 ke0 "java/lang/String") (C_ke0 : Fld Z h0 ke0 "java/lang/String" "coder" "B" (.int 0)) (V_ke0 : Fld Z h0 ke0 "java/lang/String" "value" "[B" (.ref t_ke0)) (A_ke0 : Arv Z h0 t_ke0 k_ke0 .byte (1 : Int32) (([c0].map StrChars.lo8).map Value.int) (.int 0)) (r_ke0 : ∀ q_ ∈ [c0], ¬ q_ < 0 ∧ ¬ (255 : Int32) < q_) (E_ke1 : Exa Z h0 ke1 "java/lang/String") (C_ke1 : Fld Z h0 ke1 "java/lang/String" "coder" "B" (.int 0)) (V_ke1 : Fld Z h0 ke1 "java/lang/String" "value" "[B" (.ref t_ke1)) (A_ke1 : Arv Z h0 t_ke1 k_ke1 .byte (1 : Int32) (([c1].map StrChars.lo8).map Value.int) (.int 0)) (r_ke1 : ∀ q_ ∈ [c1], ¬ q_ < 0 ∧ ¬ (255 : Int32) < q_) (d01 : ¬ c0 = c1) :
    MetFree l (⟨"com/example/settlewatt/settlewatt/model/TraceRecord", "inputsOf", "([Ljava/lang/String;)Ljava/util/Map;"⟩ : MethodName) (head1 (Jvm.Cond.code (⟨"com/example/settlewatt/settlewatt/model/TraceRecord", "inputsOf", "([Ljava/lang/String;)Ljava/util/Map;"⟩ : MethodName) prog_37_method_3_code 1 (some (.object "java/util/Map")) :: ws) ({ frames := 3, cells := 2, slots := 7, locals := 45 } : Room)) (fun as_ U => as_ = #[(.ref b)] ∧ Z.Warmed39 U.vm ∧ U.heap = h0) (fun _ _ _ _ _ => True) (fun _ U out_ U' => ∃ v L, out_ = .returned v ∧ QO2 Z b z ka ke0 ke1 u0 u1 c0 c1 t_ke0 k_ke0 t_ke1 k_ke1 h0 n0 v U'.heap L ∧ FrameEnd U out_ U' L ({ frames := 3, cells := 2, slots := 7, locals := 45 } : Room).cells ({ frames := 3, cells := 2, slots := 7, locals := 45 } : Room).slots) := by
  refine MetFree.of_bodySF (plainFor_of_name pn_6) hisR ?_
  intro p e s m args below meth cd s₁ Bd hml0 hP hK
  obtain ⟨rfl, hZ, hh⟩ := hP
  have hx := Bd.exec
  have hby := Bd.bytes
  have hml : cd.maxLocals = 1 := hml0
  have hlk : meth.locks = false := BodyLoose.notSynchronized Bd
  have hown : s.vm.findClass "com/example/settlewatt/settlewatt/model/TraceRecord" = some m.cls := findClass_of_methodNamed Bd.named
  have hnm := (name_of_methodNamed Bd.named Bd.method).1
  have hret := Bd.returns
  have X0 : Stand p l e ({ frames := 3, cells := 2, slots := 7, locals := 45 } : Room) s m #[(.ref b)] below meth cd s₁ [] 0 0 := Stand.of_body Bd
  have e0 : s₁.heap = h0 := by rw [← hh, Bd.state]; rfl
  have N0 := Fr.nil n0
  show own_Fin p e below (own_Ans s (QO2 Z b z ka ke0 ke1 u0 u1 c0 c1 t_ke0 k_ke0 t_ke1 k_ke1 h0 n0) ({ frames := 3, cells := 2, slots := 7, locals := 45 } : Room).cells ({ frames := 3, cells := 2, slots := 7, locals := 45 } : Room).slots) (s₁.setTop (entryFrame m #[(.ref b)] 1))
  refine own_cast (ef_rmO2 m b) ?_
  show own_Fin p e below _ (s₁.setTop (mkF m 0 #[.val (.ref b)] []))
  obtain ⟨T105, h105, X105, e105, E105, A105, D105, -, st105⟩ := newO X0 hx hZ hown (hw _ (List.mem_of_getElem? (i := 32) rfl)) (hw _ (List.mem_of_getElem? (i := 33) rfl)) (hw _ (List.mem_of_getElem? (i := 34) rfl)) e0 (g := (mkF m 0 #[.val (.ref b)] [])) rfl (hb hby d6_0) (by decide) (by decide)
  obtain ⟨b105, g105⟩ : ∃ z, z = h0.size := ⟨_, rfl⟩
  rw [← g105] at A105 D105 st105
  have y106 := ((Keep.refl h0 []).ext E105)
  have y107 := (Nat.le_trans Z0 E105.1)
  have y108 := (O.ext E105)
  have gn105 : n0 ≤ b105 := Nat.le_trans Z0 (Nat.le_of_eq g105.symm)
  have gk105 : h0.size ≤ b105 := Nat.le_trans (Keep.refl h0 []).1 (Nat.le_of_eq g105.symm)
  have F105_namesAndValues : Fld Z h105 b105 "com/example/settlewatt/settlewatt/model/TraceRecord$Inputs" "namesAndValues" "[Ljava/lang/String;" .null := D105 (Or.inr (hw _ (List.mem_of_getElem? (i := 54) rfl))) (ty := (.array (.object "java/lang/String"))) (by decide)
  refine own_on st105 ?_
  show own_Fin p e below _ (T105.setTop (mkF m 3 #[.val (.ref b)] [(.ref b105)]))
  refine own_on (fun tq => XS.dup X105.here hx rfl (hb hby d6_3) rfl rfl) ?_
  show own_Fin p e below _ (T105.setTop (mkF m 4 #[.val (.ref b)] [(.ref b105), (.ref b105)]))
  refine own_on (fun tq => XS.aloadN X105.here hx rfl (hb hby d6_4) rfl rfl) ?_
  show own_Fin p e below _ (T105.setTop (mkF m 5 #[.val (.ref b)] [(.ref b), (.ref b105), (.ref b105)]))
  obtain ⟨T109, h109, X109, e109, E109, A109, D109, st109⟩ := cloneH X105 hx hZ hown (hw _ (List.mem_of_getElem? (i := 35) rfl)) (hw _ (List.mem_of_getElem? (i := 36) rfl)) (hw _ (List.mem_of_getElem? (i := 40) rfl)) (hw _ (List.mem_of_getElem? (i := 38) rfl)) (hw _ (List.mem_of_getElem? (i := 39) rfl)) (hw _ (List.mem_of_getElem? (i := 41) rfl)) e105 (Arv.arh (Ab.keep y106 nin0)) (Eb.keep y106) (g := (mkF m 5 #[.val (.ref b)] [(.ref b), (.ref b105), (.ref b105)])) rfl (by rw [hml]; rfl) rfl (hb hby d6_5) (by decide) (W := 2) (cap := 4) (by show 2 * 0 + _ ≤ _; exact Nat.le_of_eq rfl) (by decide) (by decide) (by decide) (by decide)
  obtain ⟨b109, g109⟩ : ∃ z, z = h105.size := ⟨_, rfl⟩
  rw [← g109] at A109 D109 st109
  have ne109_b105 : b105 ≠ b109 := own_ne_of (Z := Z) A105.lt g109
  have y110 := (y106.ext E109)
  have y111 := (Nat.le_trans y107 E109.1)
  have y112 := (y108.ext E109)
  have y113 := (A105.ext E109)
  have y114 := (F105_namesAndValues.ext E109)
  have gn109 : n0 ≤ b109 := Nat.le_trans y107 (Nat.le_of_eq g109.symm)
  have gk109 : h0.size ≤ b109 := Nat.le_trans y106.1 (Nat.le_of_eq g109.symm)
  have V109 : Arv Z h109 b109 ka (.object "java/lang/String") (4 : Int32) [(.ref ke0), (.ref u0), (.ref ke1), (.ref u1)] .null := A109
  refine own_on st109 ?_
  show own_Fin p e below _ (T109.setTop (mkF m 8 #[.val (.ref b)] [(.ref b109), (.ref b105), (.ref b105)]))
  obtain ⟨T115, X115, e115, st115⟩ := castY X109 hx hZ hown (hw _ (List.mem_of_getElem? (i := 42) rfl)) e109 (Ins.self D109) (g := (mkF m 8 #[.val (.ref b)] [(.ref b109), (.ref b105), (.ref b105)])) rfl rfl (hb hby d6_8)
  refine own_on st115 ?_
  show own_Fin p e below _ (T115.setTop (mkF m 11 #[.val (.ref b)] [(.ref b109), (.ref b105), (.ref b105)]))
  obtain ⟨_, _, ⟨T116, L116, k116, n116⟩, -, X116, ⟨Lc116, hQ116, l116, y116, z116⟩, st116⟩ := X115.specialBack hx (y := (⟨"com/example/settlewatt/settlewatt/model/TraceRecord$Inputs", "<init>", "([Ljava/lang/String;)V"⟩ : MethodName)) rfl hown (mvT hZ (hw _ (List.mem_of_getElem? (i := 44) rfl))) (mvT hZ (hw _ (List.mem_of_getElem? (i := 45) rfl))) (mvT hZ (hw _ (List.mem_of_getElem? (i := 46) rfl))) (by decide) (backOf (W := 1) (rmI2 l Z a0 hw [] b105 b109 z ka ke0 ke1 u0 u1 c0 c1 t_ke0 k_ke0 t_ke1 k_ke1 h109 n0 (by exact y111) hz y112 SC y113 y114 gn105 V109 (E_ke0.keep y110) (C_ke0.keep y110 nin0) (V_ke0.keep y110 nin0) (A_ke0.keep y110 nin0) r_ke0 (E_ke1.keep y110) (C_ke1.keep y110 nin0) (V_ke1.keep y110 nin0) (A_ke1.keep y110 nin0) r_ke1 d01) hZ (hw _ (List.mem_of_getElem? (i := 46) rfl)) (hw _ (List.mem_of_getElem? (i := 34) rfl)) (by decide) (by decide)) (g := (mkF m 11 #[.val (.ref b)] [(.ref b109), (.ref b105), (.ref b105)])) rfl (by rw [hml]; rfl) (Steps.refl _) (a := b105) (argsL := [(.ref b109)]) (rest := [(.ref b105)]) (lenOf pd_4 rfl) rfl (by show 2 * 0 + _ ≤ _; exact Nat.le_of_eq rfl) (hb hby d6_11) (fun _ _ => ⟨rfl, e115, (by decide : 2 + 0 ≤ _), (by decide : 7 + 0 ≤ _)⟩)
  dsimp only [Pt.U, Pt.locs, Pt.cells, Pt.slots] at X116 l116 y116 z116 st116 hQ116
  subst l116 y116 z116
  obtain ⟨rfl, N116q, K116, Eq116, Fq116⟩ := hQ116
  have N116 := Fr.app N0 N116q
  have y117 := (y110.trans K116 (allS (Or.inr gk105) all0))
  have y118 := (Nat.le_trans y111 K116.1)
  have y119 := (y112.keep K116 (allS gn105 all0))
  have y120 := (y113.keep K116)
  have y121 := (D109.keep K116)
  have y122 := (V109.keep K116 (ninS (Ne.symm ne109_b105) nin0))
  refine own_via st116 ?_
  show own_Fin p e below _ (T116.setTop (mkF m 14 #[.val (.ref b)] [(.ref b105)]))
  exact own_ret (t := (.object "java/util/Map")) X116 hx hlk hret rfl (Or.inr (Or.inr (Or.inr (Or.inr ⟨rfl, rfl, rfl⟩)))) (hb hby d6_14) (by show QO2 Z b z ka ke0 ke1 u0 u1 c0 c1 t_ke0 k_ke0 t_ke1 k_ke1 h0 n0 _ T116.heap _; exact ⟨b105, b109, rfl, N116, y117, gk105, gk109, y120, Fq116, y122⟩) (by decide) (by decide)
theorem ef_rmI3 (m : MethodId) (x0 : Addr) (x1 : Addr) : entryFrame m #[(.ref x0), (.ref x1)] 5 = mkF m 0 #[.val (.ref x0), .val (.ref x1), .unset, .unset, .unset] [] := by first | (simp [entryFrame, mkF, argsToLocals, Value.category]; done) | rfl
def QI3 (Z : State) (a : Addr) (b : Addr) (z : Int32) (ka : ClassId) (ke0 : Addr) (ke1 : Addr) (ke2 : Addr) (u0 : Addr) (u1 : Addr) (u2 : Addr) (c0 : Int32) (c1 : Int32) (c2 : Int32) (t_ke0 : Addr) (k_ke0 : ClassId) (t_ke1 : Addr) (k_ke1 : ClassId) (t_ke2 : Addr) (k_ke2 : ClassId) (h0 : Heap) (n0 : Nat) (v : Option Value) (h : Heap) (L : List Loc) : Prop := v = none ∧ Fr n0 L ∧ Keep h0 h [a] ∧ Exa Z h a "com/example/settlewatt/settlewatt/model/TraceRecord$Inputs" ∧ Fld Z h a "com/example/settlewatt/settlewatt/model/TraceRecord$Inputs" "namesAndValues" "[Ljava/lang/String;" (.ref b)
set_option maxRecDepth 65536 in
set_option maxHeartbeats 40000000 in
theorem rmI3 (l : Launch) (Z : State) (a0 : Array Value) (hw : ∀ d ∈ tables_1, d.before a0 Z = true) (ws : List Jvm.Cond) (a : Addr) (b : Addr) (z : Int32) (ka : ClassId) (ke0 : Addr) (ke1 : Addr) (ke2 : Addr) (u0 : Addr) (u1 : Addr) (u2 : Addr) (c0 : Int32) (c1 : Int32) (c2 : Int32) (t_ke0 : Addr) (k_ke0 : ClassId) (t_ke1 : Addr) (k_ke1 : ClassId) (t_ke2 : Addr) (k_ke2 : ClassId) (h0 : Heap) (n0 : Nat) (Z0 : n0 ≤ h0.size) (hz : ¬ z = (0 : Int32)) (O : Old Z n0 h0) (SC : Sta Z Z.heap "java/lang/String" "COMPACT_STRINGS" "Z" (.int z)) (E : Exa Z h0 a "com/example/settlewatt/settlewatt/model/TraceRecord$Inputs") (F : Fld Z h0 a "com/example/settlewatt/settlewatt/model/TraceRecord$Inputs" "namesAndValues" "[Ljava/lang/String;" .null) (ga : n0 ≤ a) (Ab : Arv Z h0 b ka (.object "java/lang/String") (6 : Int32) [(.ref ke0), (.ref u0), (.ref ke1), (.ref u1), (.ref ke2), (.ref u2)] .null) (E_ke0 : Exa Z h0 ke0 "java/lang/String") (C_ke0 : Fld Z h0 ke0 "java/lang/String" "coder" "B" (.int 0)) (V_ke0 : Fld Z h0 ke0 "java/lang/String" "value" "[B" (.ref t_ke0)) (A_ke0 : Arv Z h0 t_ke0 k_ke0 .byte (1 : Int32) (([c0].map StrChars.lo8).map Value.int) (.int 0)) (r_ke0 : ∀ q_ ∈ [c0], ¬ q_ < 0 ∧ ¬ (255 : Int32) < q_) (E_ke1 : Exa Z h0 ke1 "java/lang/String") (C_ke1 : Fld Z h0 ke1 "java/lang/String" "coder" "B" (.int 0)) (V_ke1 : Fld Z h0 ke1 "java/lang/String" "value" "[B" (.ref t_ke1)) (A_ke1 : Arv Z h0 t_ke1 k_ke1 .byte (1 : Int32) (([c1].map StrChars.lo8).map Value.int) (.int 0)) (r_ke1 : ∀ q_ ∈ [c1], ¬ q_ < 0 ∧ ¬ (255 : Int32) < q_) (E_ke2 : Exa Z h0 ke2 "java/lang/String") (C_ke2 : Fld Z h0 ke2 "java/lang/String" "coder" "B" (.int 0)) (V_ke2 : Fld Z h0 ke2 "java/lang/String" "value" "[B" (.ref t_ke2)) (A_ke2 : Arv Z h0 t_ke2 k_ke2 .byte (1 : Int32) (([c2].map StrChars.lo8).map Value.int) (.int 0)) (r_ke2 : ∀ q_ ∈ [c2], ¬ q_ < 0 ∧ ¬ (255 : Int32) < q_) (d01 : ¬ c0 = c1) (d02 : ¬ c0 = c2) (d12 : ¬ c1 = c2) :
    MetFree l (⟨"com/example/settlewatt/settlewatt/model/TraceRecord$Inputs", "<init>", "([Ljava/lang/String;)V"⟩ : MethodName) (head1 (Jvm.Cond.code (⟨"com/example/settlewatt/settlewatt/model/TraceRecord$Inputs", "<init>", "([Ljava/lang/String;)V"⟩ : MethodName) prog_38_method_1_code 5 none :: ws) ({ frames := 2, cells := 0, slots := 0, locals := 28 } : Room)) (fun as_ U => as_ = #[(.ref a), (.ref b)] ∧ Z.Warmed39 U.vm ∧ U.heap = h0) (fun _ _ _ _ _ => True) (fun _ U out_ U' => ∃ v L, out_ = .returned v ∧ QI3 Z a b z ka ke0 ke1 ke2 u0 u1 u2 c0 c1 c2 t_ke0 k_ke0 t_ke1 k_ke1 t_ke2 k_ke2 h0 n0 v U'.heap L ∧ FrameEnd U out_ U' L ({ frames := 2, cells := 0, slots := 0, locals := 28 } : Room).cells ({ frames := 2, cells := 0, slots := 0, locals := 28 } : Room).slots) := by
  refine MetFree.of_bodySF (plainFor_of_name pn_5) hisR ?_
  intro p e s m args below meth cd s₁ Bd hml0 hP hK
  obtain ⟨rfl, hZ, hh⟩ := hP
  have hx := Bd.exec
  have hby := Bd.bytes
  have hml : cd.maxLocals = 5 := hml0
  have hlk : meth.locks = false := BodyLoose.notSynchronized Bd
  have hown : s.vm.findClass "com/example/settlewatt/settlewatt/model/TraceRecord$Inputs" = some m.cls := findClass_of_methodNamed Bd.named
  have hnm := (name_of_methodNamed Bd.named Bd.method).1
  have hret := Bd.returns
  have X0 : Stand p l e ({ frames := 2, cells := 0, slots := 0, locals := 28 } : Room) s m #[(.ref a), (.ref b)] below meth cd s₁ [] 0 0 := Stand.of_body Bd
  have e0 : s₁.heap = h0 := by rw [← hh, Bd.state]; rfl
  have N0 := Fr.nil n0
  show own_Fin p e below (own_Ans s (QI3 Z a b z ka ke0 ke1 ke2 u0 u1 u2 c0 c1 c2 t_ke0 k_ke0 t_ke1 k_ke1 t_ke2 k_ke2 h0 n0) ({ frames := 2, cells := 0, slots := 0, locals := 28 } : Room).cells ({ frames := 2, cells := 0, slots := 0, locals := 28 } : Room).slots) (s₁.setTop (entryFrame m #[(.ref a), (.ref b)] 5))
  refine own_cast (ef_rmI3 m a b) ?_
  show own_Fin p e below _ (s₁.setTop (mkF m 0 #[.val (.ref a), .val (.ref b), .unset, .unset, .unset] []))
  refine own_on (fun tq => XS.aloadN X0.here hx rfl (hb hby d7_0) rfl rfl) ?_
  show own_Fin p e below _ (s₁.setTop (mkF m 1 #[.val (.ref a), .val (.ref b), .unset, .unset, .unset] [(.ref a)]))
  obtain ⟨_, _, ⟨T123, L123, k123, n123⟩, -, X123, ⟨Lc123, hQ123, l123, y123, z123⟩, st123⟩ := X0.specialBack hx (y := (⟨"java/util/AbstractMap", "<init>", "()V"⟩ : MethodName)) rfl hown (mvT hZ (hw _ (List.mem_of_getElem? (i := 47) rfl))) (mvT hZ (hw _ (List.mem_of_getElem? (i := 48) rfl))) (mvT hZ (hw _ (List.mem_of_getElem? (i := 51) rfl))) (by decide) (backOf (W := 0) (rm8 l Z a0 hw [] a h0 n0 (by exact Z0)) hZ (hw _ (List.mem_of_getElem? (i := 51) rfl)) (hw _ (List.mem_of_getElem? (i := 50) rfl)) (by decide) (by decide)) (g := (mkF m 1 #[.val (.ref a), .val (.ref b), .unset, .unset, .unset] [(.ref a)])) rfl (by rw [hml]; rfl) (Steps.refl _) (a := a) (argsL := []) (rest := []) (lenOf pd_3 rfl) rfl (by show 2 * 0 + _ ≤ _; exact Nat.le_of_eq rfl) (hb hby d7_1) (fun _ _ => ⟨rfl, e0, (by decide : 0 + 0 ≤ _), (by decide : 0 + 0 ≤ _)⟩)
  dsimp only [Pt.U, Pt.locs, Pt.cells, Pt.slots] at X123 l123 y123 z123 st123 hQ123
  subst l123 y123 z123
  obtain ⟨rfl, N123q, e123⟩ := hQ123
  have N123 := Fr.app N0 N123q
  refine own_via st123 ?_
  show own_Fin p e below _ (T123.setTop (mkF m 4 #[.val (.ref a), .val (.ref b), .unset, .unset, .unset] []))
  refine own_on (fun tq => XS.aloadN X123.here hx rfl (hb hby d7_4) rfl rfl) ?_
  show own_Fin p e below _ (T123.setTop (mkF m 5 #[.val (.ref a), .val (.ref b), .unset, .unset, .unset] [(.ref b)]))
  have cp124 := Ab
  obtain ⟨cl124, Ar124, q124, S124, G124, H124, F124⟩ := cp124
  refine own_on (fun tq => X123.arraylength hx (by rw [e123]; exact Ar124.1) (State.isArrayOf_alike hZ.alike Ar124.2.1) (g := (mkF m 5 #[.val (.ref a), .val (.ref b), .unset, .unset, .unset] [(.ref b)])) rfl rfl (hb hby d7_5) tq) ?_
  rw [len_of S124 G124]
  show own_Fin p e below _ (T123.setTop (mkF m 6 #[.val (.ref a), .val (.ref b), .unset, .unset, .unset] [(.int (6 : Int32))]))
  refine own_on (fun tq => XS.istoreN X123.here hx rfl (hb hby d7_6) rfl (l' := #[.val (.ref a), .val (.ref b), .val (.int (6 : Int32)), .unset, .unset]) rfl) ?_
  show own_Fin p e below _ (T123.setTop (mkF m 7 #[.val (.ref a), .val (.ref b), .val (.int (6 : Int32)), .unset, .unset] []))
  refine own_on (fun tq => XS.iloadN X123.here hx rfl (hb hby d7_7) rfl) ?_
  show own_Fin p e below _ (T123.setTop (mkF m 8 #[.val (.ref a), .val (.ref b), .val (.int (6 : Int32)), .unset, .unset] [(.int (6 : Int32))]))
  refine own_on (fun tq => XS.iconst X123.here hx rfl (hb hby d7_8)) ?_
  show own_Fin p e below _ (T123.setTop (mkF m 9 #[.val (.ref a), .val (.ref b), .val (.int (6 : Int32)), .unset, .unset] [(.int (2 : Int32)), (.int (6 : Int32))]))
  refine own_on (fun tq => iremM X123 hx rfl (hb hby d7_9) rfl (by decide)) ?_
  show own_Fin p e below _ (T123.setTop (mkF m 10 #[.val (.ref a), .val (.ref b), .val (.int (6 : Int32)), .unset, .unset] [(.int ((6 : Int32) % (2 : Int32)))]))
  refine own_on (fun tq => XS.ifYes X123.here hx rfl (pc0 := 10) (pc' := 31) rfl (hb hby d7_10) rfl ((if0 _ _).trans (teq (by decide : ((6 : Int32) % (2 : Int32)) = (0 : Int32))).1) (by decide) (by decide)) ?_
  show own_Fin p e below _ (T123.setTop (mkF m 31 #[.val (.ref a), .val (.ref b), .val (.int (6 : Int32)), .unset, .unset] []))
  refine own_on (fun tq => XS.iconst X123.here hx rfl (hb hby d7_31)) ?_
  show own_Fin p e below _ (T123.setTop (mkF m 32 #[.val (.ref a), .val (.ref b), .val (.int (6 : Int32)), .unset, .unset] [(.int (0 : Int32))]))
  refine own_on (fun tq => XS.istoreN X123.here hx rfl (hb hby d7_32) rfl (l' := #[.val (.ref a), .val (.ref b), .val (.int (6 : Int32)), .val (.int (0 : Int32)), .unset]) rfl) ?_
  show own_Fin p e below _ (T123.setTop (mkF m 33 #[.val (.ref a), .val (.ref b), .val (.int (6 : Int32)), .val (.int (0 : Int32)), .unset] []))
  refine own_on (fun tq => XS.iloadN X123.here hx rfl (hb hby d7_33) rfl) ?_
  show own_Fin p e below _ (T123.setTop (mkF m 34 #[.val (.ref a), .val (.ref b), .val (.int (6 : Int32)), .val (.int (0 : Int32)), .unset] [(.int (0 : Int32))]))
  refine own_on (fun tq => XS.iloadN X123.here hx rfl (hb hby d7_34) rfl) ?_
  show own_Fin p e below _ (T123.setTop (mkF m 35 #[.val (.ref a), .val (.ref b), .val (.int (6 : Int32)), .val (.int (0 : Int32)), .unset] [(.int (6 : Int32)), (.int (0 : Int32))]))
  refine own_on (fun tq => XS.icmpNo X123.here hx rfl (hb hby d7_35) rfl (tlt (by decide : (0 : Int32) < (6 : Int32))).2.1) ?_
  show own_Fin p e below _ (T123.setTop (mkF m 38 #[.val (.ref a), .val (.ref b), .val (.int (6 : Int32)), .val (.int (0 : Int32)), .unset] []))
  refine own_on (fun tq => XS.iconst X123.here hx rfl (hb hby d7_38)) ?_
  show own_Fin p e below _ (T123.setTop (mkF m 39 #[.val (.ref a), .val (.ref b), .val (.int (6 : Int32)), .val (.int (0 : Int32)), .unset] [(.int (0 : Int32))]))
  refine own_on (fun tq => XS.istore X123.here hx rfl (hb hby d7_39) rfl (l' := #[.val (.ref a), .val (.ref b), .val (.int (6 : Int32)), .val (.int (0 : Int32)), .val (.int (0 : Int32))]) rfl) ?_
  show own_Fin p e below _ (T123.setTop (mkF m 41 #[.val (.ref a), .val (.ref b), .val (.int (6 : Int32)), .val (.int (0 : Int32)), .val (.int (0 : Int32))] []))
  refine own_on (fun tq => XS.iload X123.here hx rfl (hb hby d7_41) rfl) ?_
  show own_Fin p e below _ (T123.setTop (mkF m 43 #[.val (.ref a), .val (.ref b), .val (.int (6 : Int32)), .val (.int (0 : Int32)), .val (.int (0 : Int32))] [(.int (0 : Int32))]))
  refine own_on (fun tq => XS.iloadN X123.here hx rfl (hb hby d7_43) rfl) ?_
  show own_Fin p e below _ (T123.setTop (mkF m 44 #[.val (.ref a), .val (.ref b), .val (.int (6 : Int32)), .val (.int (0 : Int32)), .val (.int (0 : Int32))] [(.int (0 : Int32)), (.int (0 : Int32))]))
  refine own_on (fun tq => XS.icmpYes X123.here hx rfl (pc0 := 44) (pc' := 82) rfl (hb hby d7_44) rfl (flt (by decide : ¬ ((0 : Int32) < (0 : Int32)))).2.1 (by decide) (by decide)) ?_
  show own_Fin p e below _ (T123.setTop (mkF m 82 #[.val (.ref a), .val (.ref b), .val (.int (6 : Int32)), .val (.int (0 : Int32)), .val (.int (0 : Int32))] []))
  refine own_on (fun tq => XS.iinc X123.here hx rfl (hb hby d7_82) rfl (l' := #[.val (.ref a), .val (.ref b), .val (.int (6 : Int32)), .val (.int (2 : Int32)), .val (.int (0 : Int32))]) rfl) ?_
  show own_Fin p e below _ (T123.setTop (mkF m 85 #[.val (.ref a), .val (.ref b), .val (.int (6 : Int32)), .val (.int (2 : Int32)), .val (.int (0 : Int32))] []))
  refine own_on (fun tq => XS.goto X123.here hx rfl (pc0 := 85) (pc' := 33) rfl (hb hby d7_85) (by decide) (by decide)) ?_
  show own_Fin p e below _ (T123.setTop (mkF m 33 #[.val (.ref a), .val (.ref b), .val (.int (6 : Int32)), .val (.int (2 : Int32)), .val (.int (0 : Int32))] []))
  refine own_on (fun tq => XS.iloadN X123.here hx rfl (hb hby d7_33) rfl) ?_
  show own_Fin p e below _ (T123.setTop (mkF m 34 #[.val (.ref a), .val (.ref b), .val (.int (6 : Int32)), .val (.int (2 : Int32)), .val (.int (0 : Int32))] [(.int (2 : Int32))]))
  refine own_on (fun tq => XS.iloadN X123.here hx rfl (hb hby d7_34) rfl) ?_
  show own_Fin p e below _ (T123.setTop (mkF m 35 #[.val (.ref a), .val (.ref b), .val (.int (6 : Int32)), .val (.int (2 : Int32)), .val (.int (0 : Int32))] [(.int (6 : Int32)), (.int (2 : Int32))]))
  refine own_on (fun tq => XS.icmpNo X123.here hx rfl (hb hby d7_35) rfl (tlt (by decide : (2 : Int32) < (6 : Int32))).2.1) ?_
  show own_Fin p e below _ (T123.setTop (mkF m 38 #[.val (.ref a), .val (.ref b), .val (.int (6 : Int32)), .val (.int (2 : Int32)), .val (.int (0 : Int32))] []))
  refine own_on (fun tq => XS.iconst X123.here hx rfl (hb hby d7_38)) ?_
  show own_Fin p e below _ (T123.setTop (mkF m 39 #[.val (.ref a), .val (.ref b), .val (.int (6 : Int32)), .val (.int (2 : Int32)), .val (.int (0 : Int32))] [(.int (0 : Int32))]))
  refine own_on (fun tq => XS.istore X123.here hx rfl (hb hby d7_39) rfl (l' := #[.val (.ref a), .val (.ref b), .val (.int (6 : Int32)), .val (.int (2 : Int32)), .val (.int (0 : Int32))]) rfl) ?_
  show own_Fin p e below _ (T123.setTop (mkF m 41 #[.val (.ref a), .val (.ref b), .val (.int (6 : Int32)), .val (.int (2 : Int32)), .val (.int (0 : Int32))] []))
  refine own_on (fun tq => XS.iload X123.here hx rfl (hb hby d7_41) rfl) ?_
  show own_Fin p e below _ (T123.setTop (mkF m 43 #[.val (.ref a), .val (.ref b), .val (.int (6 : Int32)), .val (.int (2 : Int32)), .val (.int (0 : Int32))] [(.int (0 : Int32))]))
  refine own_on (fun tq => XS.iloadN X123.here hx rfl (hb hby d7_43) rfl) ?_
  show own_Fin p e below _ (T123.setTop (mkF m 44 #[.val (.ref a), .val (.ref b), .val (.int (6 : Int32)), .val (.int (2 : Int32)), .val (.int (0 : Int32))] [(.int (2 : Int32)), (.int (0 : Int32))]))
  refine own_on (fun tq => XS.icmpNo X123.here hx rfl (hb hby d7_44) rfl (tlt (by decide : (0 : Int32) < (2 : Int32))).2.1) ?_
  show own_Fin p e below _ (T123.setTop (mkF m 47 #[.val (.ref a), .val (.ref b), .val (.int (6 : Int32)), .val (.int (2 : Int32)), .val (.int (0 : Int32))] []))
  refine own_on (fun tq => XS.aloadN X123.here hx rfl (hb hby d7_47) rfl rfl) ?_
  show own_Fin p e below _ (T123.setTop (mkF m 48 #[.val (.ref a), .val (.ref b), .val (.int (6 : Int32)), .val (.int (2 : Int32)), .val (.int (0 : Int32))] [(.ref b)]))
  refine own_on (fun tq => XS.iload X123.here hx rfl (hb hby d7_48) rfl) ?_
  show own_Fin p e below _ (T123.setTop (mkF m 50 #[.val (.ref a), .val (.ref b), .val (.int (6 : Int32)), .val (.int (2 : Int32)), .val (.int (0 : Int32))] [(.int (0 : Int32)), (.ref b)]))
  have cp125 := Ab
  obtain ⟨cl125, Ar125, q125, S125, G125, H125, F125⟩ := cp125
  have hin125 : ¬ ((0 : Int32) < 0 ∨ cl125.slots.size ≤ ((0 : Int32)).toNatClampNeg) := inb_of S125 ⟨by decide, by decide⟩
  have hat125 : cl125.slots[((0 : Int32)).toNatClampNeg]? = some (.ref ke0) := H125.at hin125 rfl
  refine own_on (fun tq => X123.aaload hx (j := (0 : Int32)) (v := (.ref ke0)) (by rw [e123]; exact Ar125.1) (State.isArrayOf_alike hZ.alike Ar125.2.1) rfl Ar125.2.2 hin125 hat125 (g := (mkF m 50 #[.val (.ref a), .val (.ref b), .val (.int (6 : Int32)), .val (.int (2 : Int32)), .val (.int (0 : Int32))] [(.int (0 : Int32)), (.ref b)])) rfl rfl (hb hby d7_50) tq) ?_
  show own_Fin p e below _ (T123.setTop (mkF m 51 #[.val (.ref a), .val (.ref b), .val (.int (6 : Int32)), .val (.int (2 : Int32)), .val (.int (0 : Int32))] [(.ref ke0)]))
  refine own_on (fun tq => XS.aloadN X123.here hx rfl (hb hby d7_51) rfl rfl) ?_
  show own_Fin p e below _ (T123.setTop (mkF m 52 #[.val (.ref a), .val (.ref b), .val (.int (6 : Int32)), .val (.int (2 : Int32)), .val (.int (0 : Int32))] [(.ref b), (.ref ke0)]))
  refine own_on (fun tq => XS.iloadN X123.here hx rfl (hb hby d7_52) rfl) ?_
  show own_Fin p e below _ (T123.setTop (mkF m 53 #[.val (.ref a), .val (.ref b), .val (.int (6 : Int32)), .val (.int (2 : Int32)), .val (.int (0 : Int32))] [(.int (2 : Int32)), (.ref b), (.ref ke0)]))
  have cp126 := Ab
  obtain ⟨cl126, Ar126, q126, S126, G126, H126, F126⟩ := cp126
  have hin126 : ¬ ((2 : Int32) < 0 ∨ cl126.slots.size ≤ ((2 : Int32)).toNatClampNeg) := inb_of S126 ⟨by decide, by decide⟩
  have hat126 : cl126.slots[((2 : Int32)).toNatClampNeg]? = some (.ref ke1) := H126.at hin126 rfl
  refine own_on (fun tq => X123.aaload hx (j := (2 : Int32)) (v := (.ref ke1)) (by rw [e123]; exact Ar126.1) (State.isArrayOf_alike hZ.alike Ar126.2.1) rfl Ar126.2.2 hin126 hat126 (g := (mkF m 53 #[.val (.ref a), .val (.ref b), .val (.int (6 : Int32)), .val (.int (2 : Int32)), .val (.int (0 : Int32))] [(.int (2 : Int32)), (.ref b), (.ref ke0)])) rfl rfl (hb hby d7_53) tq) ?_
  show own_Fin p e below _ (T123.setTop (mkF m 54 #[.val (.ref a), .val (.ref b), .val (.int (6 : Int32)), .val (.int (2 : Int32)), .val (.int (0 : Int32))] [(.ref ke1), (.ref ke0)]))
  obtain ⟨cq127, kq127, q127a, q127b, q127c⟩ := isOf hZ e123 E_ke0
  obtain ⟨_, _, ⟨T127, L127, k127, n127⟩, -, X127, ⟨Lc127, hQ127, l127, y127, z127⟩, st127⟩ := X123.virtualBack hx (y := (⟨"java/lang/String", "equals", "(Ljava/lang/Object;)Z"⟩ : MethodName)) (z := (⟨"java/lang/String", "equals", "(Ljava/lang/Object;)Z"⟩ : MethodName)) hown (mvT hZ (hw _ (List.mem_of_getElem? (i := 197) rfl))) (mvT hZ (hw _ (List.mem_of_getElem? (i := 192) rfl))) (notFace_of_selects (args := #[]) (mvT hZ (hw _ (List.mem_of_getElem? (i := 193) rfl)))) (mvT hZ (hw _ (List.mem_of_getElem? (i := 193) rfl))) (mvT hZ (hw _ (List.mem_of_getElem? (i := 181) rfl))) (by decide) (StrChars.Road.eqW (W := 0) hZ (own_wE hw) (hw _ (List.mem_of_getElem? (i := 10) rfl)) E_ke0 V_ke0 C_ke0 A_ke0 (own_cod (cs := [c0]) (n := 1) rfl (fun c q => (r_ke0 c q).2)) (own_r16 r_ke0) (Nat.le_of_ble_eq_true rfl) E_ke1 V_ke1 C_ke1 A_ke1 (own_cod (cs := [c1]) (n := 1) rfl (fun c q => (r_ke1 c q).2)) (own_r16 r_ke1) (Nat.le_of_ble_eq_true rfl) (SC.ext O.2) hz (by decide) (by decide)) q127a q127c (g := (mkF m 54 #[.val (.ref a), .val (.ref b), .val (.int (6 : Int32)), .val (.int (2 : Int32)), .val (.int (0 : Int32))] [(.ref ke1), (.ref ke0)])) rfl (by rw [hml]; rfl) (Steps.refl _) (argsL := [(.ref ke1)]) (rest := []) (lenOf pd_5 rfl) rfl (by show 2 * 0 + _ ≤ _; exact Nat.le_of_eq rfl) (hb hby d7_54) (fun _ _ => ⟨rfl, e123, (by decide : 0 + 0 ≤ _), (by decide : 0 + 0 ≤ _)⟩)
  dsimp only [Pt.U, Pt.locs, Pt.cells, Pt.slots] at X127 l127 y127 z127 st127 hQ127
  subst l127 y127 z127
  obtain ⟨hv127, rfl, e127⟩ := hQ127
  have N127 := Fr.app N123 (Fr.nil n0)
  obtain rfl := own_eq0 hv127 (own_l1 d01)
  refine own_via st127 ?_
  show own_Fin p e below _ (T127.setTop (mkF m 57 #[.val (.ref a), .val (.ref b), .val (.int (6 : Int32)), .val (.int (2 : Int32)), .val (.int (0 : Int32))] [(.int (0 : Int32))]))
  refine own_on (fun tq => XS.ifYes X127.here hx rfl (pc0 := 57) (pc' := 76) rfl (hb hby d7_57) rfl ((if0 _ _).trans (teq (by decide : (0 : Int32) = (0 : Int32))).1) (by decide) (by decide)) ?_
  show own_Fin p e below _ (T127.setTop (mkF m 76 #[.val (.ref a), .val (.ref b), .val (.int (6 : Int32)), .val (.int (2 : Int32)), .val (.int (0 : Int32))] []))
  refine own_on (fun tq => XS.iinc X127.here hx rfl (hb hby d7_76) rfl (l' := #[.val (.ref a), .val (.ref b), .val (.int (6 : Int32)), .val (.int (2 : Int32)), .val (.int (2 : Int32))]) rfl) ?_
  show own_Fin p e below _ (T127.setTop (mkF m 79 #[.val (.ref a), .val (.ref b), .val (.int (6 : Int32)), .val (.int (2 : Int32)), .val (.int (2 : Int32))] []))
  refine own_on (fun tq => XS.goto X127.here hx rfl (pc0 := 79) (pc' := 41) rfl (hb hby d7_79) (by decide) (by decide)) ?_
  show own_Fin p e below _ (T127.setTop (mkF m 41 #[.val (.ref a), .val (.ref b), .val (.int (6 : Int32)), .val (.int (2 : Int32)), .val (.int (2 : Int32))] []))
  refine own_on (fun tq => XS.iload X127.here hx rfl (hb hby d7_41) rfl) ?_
  show own_Fin p e below _ (T127.setTop (mkF m 43 #[.val (.ref a), .val (.ref b), .val (.int (6 : Int32)), .val (.int (2 : Int32)), .val (.int (2 : Int32))] [(.int (2 : Int32))]))
  refine own_on (fun tq => XS.iloadN X127.here hx rfl (hb hby d7_43) rfl) ?_
  show own_Fin p e below _ (T127.setTop (mkF m 44 #[.val (.ref a), .val (.ref b), .val (.int (6 : Int32)), .val (.int (2 : Int32)), .val (.int (2 : Int32))] [(.int (2 : Int32)), (.int (2 : Int32))]))
  refine own_on (fun tq => XS.icmpYes X127.here hx rfl (pc0 := 44) (pc' := 82) rfl (hb hby d7_44) rfl (flt (by decide : ¬ ((2 : Int32) < (2 : Int32)))).2.1 (by decide) (by decide)) ?_
  show own_Fin p e below _ (T127.setTop (mkF m 82 #[.val (.ref a), .val (.ref b), .val (.int (6 : Int32)), .val (.int (2 : Int32)), .val (.int (2 : Int32))] []))
  refine own_on (fun tq => XS.iinc X127.here hx rfl (hb hby d7_82) rfl (l' := #[.val (.ref a), .val (.ref b), .val (.int (6 : Int32)), .val (.int (4 : Int32)), .val (.int (2 : Int32))]) rfl) ?_
  show own_Fin p e below _ (T127.setTop (mkF m 85 #[.val (.ref a), .val (.ref b), .val (.int (6 : Int32)), .val (.int (4 : Int32)), .val (.int (2 : Int32))] []))
  refine own_on (fun tq => XS.goto X127.here hx rfl (pc0 := 85) (pc' := 33) rfl (hb hby d7_85) (by decide) (by decide)) ?_
  show own_Fin p e below _ (T127.setTop (mkF m 33 #[.val (.ref a), .val (.ref b), .val (.int (6 : Int32)), .val (.int (4 : Int32)), .val (.int (2 : Int32))] []))
  refine own_on (fun tq => XS.iloadN X127.here hx rfl (hb hby d7_33) rfl) ?_
  show own_Fin p e below _ (T127.setTop (mkF m 34 #[.val (.ref a), .val (.ref b), .val (.int (6 : Int32)), .val (.int (4 : Int32)), .val (.int (2 : Int32))] [(.int (4 : Int32))]))
  refine own_on (fun tq => XS.iloadN X127.here hx rfl (hb hby d7_34) rfl) ?_
  show own_Fin p e below _ (T127.setTop (mkF m 35 #[.val (.ref a), .val (.ref b), .val (.int (6 : Int32)), .val (.int (4 : Int32)), .val (.int (2 : Int32))] [(.int (6 : Int32)), (.int (4 : Int32))]))
  refine own_on (fun tq => XS.icmpNo X127.here hx rfl (hb hby d7_35) rfl (tlt (by decide : (4 : Int32) < (6 : Int32))).2.1) ?_
  show own_Fin p e below _ (T127.setTop (mkF m 38 #[.val (.ref a), .val (.ref b), .val (.int (6 : Int32)), .val (.int (4 : Int32)), .val (.int (2 : Int32))] []))
  refine own_on (fun tq => XS.iconst X127.here hx rfl (hb hby d7_38)) ?_
  show own_Fin p e below _ (T127.setTop (mkF m 39 #[.val (.ref a), .val (.ref b), .val (.int (6 : Int32)), .val (.int (4 : Int32)), .val (.int (2 : Int32))] [(.int (0 : Int32))]))
  refine own_on (fun tq => XS.istore X127.here hx rfl (hb hby d7_39) rfl (l' := #[.val (.ref a), .val (.ref b), .val (.int (6 : Int32)), .val (.int (4 : Int32)), .val (.int (0 : Int32))]) rfl) ?_
  show own_Fin p e below _ (T127.setTop (mkF m 41 #[.val (.ref a), .val (.ref b), .val (.int (6 : Int32)), .val (.int (4 : Int32)), .val (.int (0 : Int32))] []))
  refine own_on (fun tq => XS.iload X127.here hx rfl (hb hby d7_41) rfl) ?_
  show own_Fin p e below _ (T127.setTop (mkF m 43 #[.val (.ref a), .val (.ref b), .val (.int (6 : Int32)), .val (.int (4 : Int32)), .val (.int (0 : Int32))] [(.int (0 : Int32))]))
  refine own_on (fun tq => XS.iloadN X127.here hx rfl (hb hby d7_43) rfl) ?_
  show own_Fin p e below _ (T127.setTop (mkF m 44 #[.val (.ref a), .val (.ref b), .val (.int (6 : Int32)), .val (.int (4 : Int32)), .val (.int (0 : Int32))] [(.int (4 : Int32)), (.int (0 : Int32))]))
  refine own_on (fun tq => XS.icmpNo X127.here hx rfl (hb hby d7_44) rfl (tlt (by decide : (0 : Int32) < (4 : Int32))).2.1) ?_
  show own_Fin p e below _ (T127.setTop (mkF m 47 #[.val (.ref a), .val (.ref b), .val (.int (6 : Int32)), .val (.int (4 : Int32)), .val (.int (0 : Int32))] []))
  refine own_on (fun tq => XS.aloadN X127.here hx rfl (hb hby d7_47) rfl rfl) ?_
  show own_Fin p e below _ (T127.setTop (mkF m 48 #[.val (.ref a), .val (.ref b), .val (.int (6 : Int32)), .val (.int (4 : Int32)), .val (.int (0 : Int32))] [(.ref b)]))
  refine own_on (fun tq => XS.iload X127.here hx rfl (hb hby d7_48) rfl) ?_
  show own_Fin p e below _ (T127.setTop (mkF m 50 #[.val (.ref a), .val (.ref b), .val (.int (6 : Int32)), .val (.int (4 : Int32)), .val (.int (0 : Int32))] [(.int (0 : Int32)), (.ref b)]))
  have cp128 := Ab
  obtain ⟨cl128, Ar128, q128, S128, G128, H128, F128⟩ := cp128
  have hin128 : ¬ ((0 : Int32) < 0 ∨ cl128.slots.size ≤ ((0 : Int32)).toNatClampNeg) := inb_of S128 ⟨by decide, by decide⟩
  have hat128 : cl128.slots[((0 : Int32)).toNatClampNeg]? = some (.ref ke0) := H128.at hin128 rfl
  refine own_on (fun tq => X127.aaload hx (j := (0 : Int32)) (v := (.ref ke0)) (by rw [e127]; exact Ar128.1) (State.isArrayOf_alike hZ.alike Ar128.2.1) rfl Ar128.2.2 hin128 hat128 (g := (mkF m 50 #[.val (.ref a), .val (.ref b), .val (.int (6 : Int32)), .val (.int (4 : Int32)), .val (.int (0 : Int32))] [(.int (0 : Int32)), (.ref b)])) rfl rfl (hb hby d7_50) tq) ?_
  show own_Fin p e below _ (T127.setTop (mkF m 51 #[.val (.ref a), .val (.ref b), .val (.int (6 : Int32)), .val (.int (4 : Int32)), .val (.int (0 : Int32))] [(.ref ke0)]))
  refine own_on (fun tq => XS.aloadN X127.here hx rfl (hb hby d7_51) rfl rfl) ?_
  show own_Fin p e below _ (T127.setTop (mkF m 52 #[.val (.ref a), .val (.ref b), .val (.int (6 : Int32)), .val (.int (4 : Int32)), .val (.int (0 : Int32))] [(.ref b), (.ref ke0)]))
  refine own_on (fun tq => XS.iloadN X127.here hx rfl (hb hby d7_52) rfl) ?_
  show own_Fin p e below _ (T127.setTop (mkF m 53 #[.val (.ref a), .val (.ref b), .val (.int (6 : Int32)), .val (.int (4 : Int32)), .val (.int (0 : Int32))] [(.int (4 : Int32)), (.ref b), (.ref ke0)]))
  have cp129 := Ab
  obtain ⟨cl129, Ar129, q129, S129, G129, H129, F129⟩ := cp129
  have hin129 : ¬ ((4 : Int32) < 0 ∨ cl129.slots.size ≤ ((4 : Int32)).toNatClampNeg) := inb_of S129 ⟨by decide, by decide⟩
  have hat129 : cl129.slots[((4 : Int32)).toNatClampNeg]? = some (.ref ke2) := H129.at hin129 rfl
  refine own_on (fun tq => X127.aaload hx (j := (4 : Int32)) (v := (.ref ke2)) (by rw [e127]; exact Ar129.1) (State.isArrayOf_alike hZ.alike Ar129.2.1) rfl Ar129.2.2 hin129 hat129 (g := (mkF m 53 #[.val (.ref a), .val (.ref b), .val (.int (6 : Int32)), .val (.int (4 : Int32)), .val (.int (0 : Int32))] [(.int (4 : Int32)), (.ref b), (.ref ke0)])) rfl rfl (hb hby d7_53) tq) ?_
  show own_Fin p e below _ (T127.setTop (mkF m 54 #[.val (.ref a), .val (.ref b), .val (.int (6 : Int32)), .val (.int (4 : Int32)), .val (.int (0 : Int32))] [(.ref ke2), (.ref ke0)]))
  obtain ⟨cq130, kq130, q130a, q130b, q130c⟩ := isOf hZ e127 E_ke0
  obtain ⟨_, _, ⟨T130, L130, k130, n130⟩, -, X130, ⟨Lc130, hQ130, l130, y130, z130⟩, st130⟩ := X127.virtualBack hx (y := (⟨"java/lang/String", "equals", "(Ljava/lang/Object;)Z"⟩ : MethodName)) (z := (⟨"java/lang/String", "equals", "(Ljava/lang/Object;)Z"⟩ : MethodName)) hown (mvT hZ (hw _ (List.mem_of_getElem? (i := 197) rfl))) (mvT hZ (hw _ (List.mem_of_getElem? (i := 192) rfl))) (notFace_of_selects (args := #[]) (mvT hZ (hw _ (List.mem_of_getElem? (i := 193) rfl)))) (mvT hZ (hw _ (List.mem_of_getElem? (i := 193) rfl))) (mvT hZ (hw _ (List.mem_of_getElem? (i := 181) rfl))) (by decide) (StrChars.Road.eqW (W := 0) hZ (own_wE hw) (hw _ (List.mem_of_getElem? (i := 10) rfl)) E_ke0 V_ke0 C_ke0 A_ke0 (own_cod (cs := [c0]) (n := 1) rfl (fun c q => (r_ke0 c q).2)) (own_r16 r_ke0) (Nat.le_of_ble_eq_true rfl) E_ke2 V_ke2 C_ke2 A_ke2 (own_cod (cs := [c2]) (n := 1) rfl (fun c q => (r_ke2 c q).2)) (own_r16 r_ke2) (Nat.le_of_ble_eq_true rfl) (SC.ext O.2) hz (by decide) (by decide)) q130a q130c (g := (mkF m 54 #[.val (.ref a), .val (.ref b), .val (.int (6 : Int32)), .val (.int (4 : Int32)), .val (.int (0 : Int32))] [(.ref ke2), (.ref ke0)])) rfl (by rw [hml]; rfl) (Steps.refl _) (argsL := [(.ref ke2)]) (rest := []) (lenOf pd_5 rfl) rfl (by show 2 * 0 + _ ≤ _; exact Nat.le_of_eq rfl) (hb hby d7_54) (fun _ _ => ⟨rfl, e127, (by decide : 0 + 0 ≤ _), (by decide : 0 + 0 ≤ _)⟩)
  dsimp only [Pt.U, Pt.locs, Pt.cells, Pt.slots] at X130 l130 y130 z130 st130 hQ130
  subst l130 y130 z130
  obtain ⟨hv130, rfl, e130⟩ := hQ130
  have N130 := Fr.app N127 (Fr.nil n0)
  obtain rfl := own_eq0 hv130 (own_l1 d02)
  refine own_via st130 ?_
  show own_Fin p e below _ (T130.setTop (mkF m 57 #[.val (.ref a), .val (.ref b), .val (.int (6 : Int32)), .val (.int (4 : Int32)), .val (.int (0 : Int32))] [(.int (0 : Int32))]))
  refine own_on (fun tq => XS.ifYes X130.here hx rfl (pc0 := 57) (pc' := 76) rfl (hb hby d7_57) rfl ((if0 _ _).trans (teq (by decide : (0 : Int32) = (0 : Int32))).1) (by decide) (by decide)) ?_
  show own_Fin p e below _ (T130.setTop (mkF m 76 #[.val (.ref a), .val (.ref b), .val (.int (6 : Int32)), .val (.int (4 : Int32)), .val (.int (0 : Int32))] []))
  refine own_on (fun tq => XS.iinc X130.here hx rfl (hb hby d7_76) rfl (l' := #[.val (.ref a), .val (.ref b), .val (.int (6 : Int32)), .val (.int (4 : Int32)), .val (.int (2 : Int32))]) rfl) ?_
  show own_Fin p e below _ (T130.setTop (mkF m 79 #[.val (.ref a), .val (.ref b), .val (.int (6 : Int32)), .val (.int (4 : Int32)), .val (.int (2 : Int32))] []))
  refine own_on (fun tq => XS.goto X130.here hx rfl (pc0 := 79) (pc' := 41) rfl (hb hby d7_79) (by decide) (by decide)) ?_
  show own_Fin p e below _ (T130.setTop (mkF m 41 #[.val (.ref a), .val (.ref b), .val (.int (6 : Int32)), .val (.int (4 : Int32)), .val (.int (2 : Int32))] []))
  refine own_on (fun tq => XS.iload X130.here hx rfl (hb hby d7_41) rfl) ?_
  show own_Fin p e below _ (T130.setTop (mkF m 43 #[.val (.ref a), .val (.ref b), .val (.int (6 : Int32)), .val (.int (4 : Int32)), .val (.int (2 : Int32))] [(.int (2 : Int32))]))
  refine own_on (fun tq => XS.iloadN X130.here hx rfl (hb hby d7_43) rfl) ?_
  show own_Fin p e below _ (T130.setTop (mkF m 44 #[.val (.ref a), .val (.ref b), .val (.int (6 : Int32)), .val (.int (4 : Int32)), .val (.int (2 : Int32))] [(.int (4 : Int32)), (.int (2 : Int32))]))
  refine own_on (fun tq => XS.icmpNo X130.here hx rfl (hb hby d7_44) rfl (tlt (by decide : (2 : Int32) < (4 : Int32))).2.1) ?_
  show own_Fin p e below _ (T130.setTop (mkF m 47 #[.val (.ref a), .val (.ref b), .val (.int (6 : Int32)), .val (.int (4 : Int32)), .val (.int (2 : Int32))] []))
  refine own_on (fun tq => XS.aloadN X130.here hx rfl (hb hby d7_47) rfl rfl) ?_
  show own_Fin p e below _ (T130.setTop (mkF m 48 #[.val (.ref a), .val (.ref b), .val (.int (6 : Int32)), .val (.int (4 : Int32)), .val (.int (2 : Int32))] [(.ref b)]))
  refine own_on (fun tq => XS.iload X130.here hx rfl (hb hby d7_48) rfl) ?_
  show own_Fin p e below _ (T130.setTop (mkF m 50 #[.val (.ref a), .val (.ref b), .val (.int (6 : Int32)), .val (.int (4 : Int32)), .val (.int (2 : Int32))] [(.int (2 : Int32)), (.ref b)]))
  have cp131 := Ab
  obtain ⟨cl131, Ar131, q131, S131, G131, H131, F131⟩ := cp131
  have hin131 : ¬ ((2 : Int32) < 0 ∨ cl131.slots.size ≤ ((2 : Int32)).toNatClampNeg) := inb_of S131 ⟨by decide, by decide⟩
  have hat131 : cl131.slots[((2 : Int32)).toNatClampNeg]? = some (.ref ke1) := H131.at hin131 rfl
  refine own_on (fun tq => X130.aaload hx (j := (2 : Int32)) (v := (.ref ke1)) (by rw [e130]; exact Ar131.1) (State.isArrayOf_alike hZ.alike Ar131.2.1) rfl Ar131.2.2 hin131 hat131 (g := (mkF m 50 #[.val (.ref a), .val (.ref b), .val (.int (6 : Int32)), .val (.int (4 : Int32)), .val (.int (2 : Int32))] [(.int (2 : Int32)), (.ref b)])) rfl rfl (hb hby d7_50) tq) ?_
  show own_Fin p e below _ (T130.setTop (mkF m 51 #[.val (.ref a), .val (.ref b), .val (.int (6 : Int32)), .val (.int (4 : Int32)), .val (.int (2 : Int32))] [(.ref ke1)]))
  refine own_on (fun tq => XS.aloadN X130.here hx rfl (hb hby d7_51) rfl rfl) ?_
  show own_Fin p e below _ (T130.setTop (mkF m 52 #[.val (.ref a), .val (.ref b), .val (.int (6 : Int32)), .val (.int (4 : Int32)), .val (.int (2 : Int32))] [(.ref b), (.ref ke1)]))
  refine own_on (fun tq => XS.iloadN X130.here hx rfl (hb hby d7_52) rfl) ?_
  show own_Fin p e below _ (T130.setTop (mkF m 53 #[.val (.ref a), .val (.ref b), .val (.int (6 : Int32)), .val (.int (4 : Int32)), .val (.int (2 : Int32))] [(.int (4 : Int32)), (.ref b), (.ref ke1)]))
  have cp132 := Ab
  obtain ⟨cl132, Ar132, q132, S132, G132, H132, F132⟩ := cp132
  have hin132 : ¬ ((4 : Int32) < 0 ∨ cl132.slots.size ≤ ((4 : Int32)).toNatClampNeg) := inb_of S132 ⟨by decide, by decide⟩
  have hat132 : cl132.slots[((4 : Int32)).toNatClampNeg]? = some (.ref ke2) := H132.at hin132 rfl
  refine own_on (fun tq => X130.aaload hx (j := (4 : Int32)) (v := (.ref ke2)) (by rw [e130]; exact Ar132.1) (State.isArrayOf_alike hZ.alike Ar132.2.1) rfl Ar132.2.2 hin132 hat132 (g := (mkF m 53 #[.val (.ref a), .val (.ref b), .val (.int (6 : Int32)), .val (.int (4 : Int32)), .val (.int (2 : Int32))] [(.int (4 : Int32)), (.ref b), (.ref ke1)])) rfl rfl (hb hby d7_53) tq) ?_
  show own_Fin p e below _ (T130.setTop (mkF m 54 #[.val (.ref a), .val (.ref b), .val (.int (6 : Int32)), .val (.int (4 : Int32)), .val (.int (2 : Int32))] [(.ref ke2), (.ref ke1)]))
  obtain ⟨cq133, kq133, q133a, q133b, q133c⟩ := isOf hZ e130 E_ke1
  obtain ⟨_, _, ⟨T133, L133, k133, n133⟩, -, X133, ⟨Lc133, hQ133, l133, y133, z133⟩, st133⟩ := X130.virtualBack hx (y := (⟨"java/lang/String", "equals", "(Ljava/lang/Object;)Z"⟩ : MethodName)) (z := (⟨"java/lang/String", "equals", "(Ljava/lang/Object;)Z"⟩ : MethodName)) hown (mvT hZ (hw _ (List.mem_of_getElem? (i := 197) rfl))) (mvT hZ (hw _ (List.mem_of_getElem? (i := 192) rfl))) (notFace_of_selects (args := #[]) (mvT hZ (hw _ (List.mem_of_getElem? (i := 193) rfl)))) (mvT hZ (hw _ (List.mem_of_getElem? (i := 193) rfl))) (mvT hZ (hw _ (List.mem_of_getElem? (i := 181) rfl))) (by decide) (StrChars.Road.eqW (W := 0) hZ (own_wE hw) (hw _ (List.mem_of_getElem? (i := 10) rfl)) E_ke1 V_ke1 C_ke1 A_ke1 (own_cod (cs := [c1]) (n := 1) rfl (fun c q => (r_ke1 c q).2)) (own_r16 r_ke1) (Nat.le_of_ble_eq_true rfl) E_ke2 V_ke2 C_ke2 A_ke2 (own_cod (cs := [c2]) (n := 1) rfl (fun c q => (r_ke2 c q).2)) (own_r16 r_ke2) (Nat.le_of_ble_eq_true rfl) (SC.ext O.2) hz (by decide) (by decide)) q133a q133c (g := (mkF m 54 #[.val (.ref a), .val (.ref b), .val (.int (6 : Int32)), .val (.int (4 : Int32)), .val (.int (2 : Int32))] [(.ref ke2), (.ref ke1)])) rfl (by rw [hml]; rfl) (Steps.refl _) (argsL := [(.ref ke2)]) (rest := []) (lenOf pd_5 rfl) rfl (by show 2 * 0 + _ ≤ _; exact Nat.le_of_eq rfl) (hb hby d7_54) (fun _ _ => ⟨rfl, e130, (by decide : 0 + 0 ≤ _), (by decide : 0 + 0 ≤ _)⟩)
  dsimp only [Pt.U, Pt.locs, Pt.cells, Pt.slots] at X133 l133 y133 z133 st133 hQ133
  subst l133 y133 z133
  obtain ⟨hv133, rfl, e133⟩ := hQ133
  have N133 := Fr.app N130 (Fr.nil n0)
  obtain rfl := own_eq0 hv133 (own_l1 d12)
  refine own_via st133 ?_
  show own_Fin p e below _ (T133.setTop (mkF m 57 #[.val (.ref a), .val (.ref b), .val (.int (6 : Int32)), .val (.int (4 : Int32)), .val (.int (2 : Int32))] [(.int (0 : Int32))]))
  refine own_on (fun tq => XS.ifYes X133.here hx rfl (pc0 := 57) (pc' := 76) rfl (hb hby d7_57) rfl ((if0 _ _).trans (teq (by decide : (0 : Int32) = (0 : Int32))).1) (by decide) (by decide)) ?_
  show own_Fin p e below _ (T133.setTop (mkF m 76 #[.val (.ref a), .val (.ref b), .val (.int (6 : Int32)), .val (.int (4 : Int32)), .val (.int (2 : Int32))] []))
  refine own_on (fun tq => XS.iinc X133.here hx rfl (hb hby d7_76) rfl (l' := #[.val (.ref a), .val (.ref b), .val (.int (6 : Int32)), .val (.int (4 : Int32)), .val (.int (4 : Int32))]) rfl) ?_
  show own_Fin p e below _ (T133.setTop (mkF m 79 #[.val (.ref a), .val (.ref b), .val (.int (6 : Int32)), .val (.int (4 : Int32)), .val (.int (4 : Int32))] []))
  refine own_on (fun tq => XS.goto X133.here hx rfl (pc0 := 79) (pc' := 41) rfl (hb hby d7_79) (by decide) (by decide)) ?_
  show own_Fin p e below _ (T133.setTop (mkF m 41 #[.val (.ref a), .val (.ref b), .val (.int (6 : Int32)), .val (.int (4 : Int32)), .val (.int (4 : Int32))] []))
  refine own_on (fun tq => XS.iload X133.here hx rfl (hb hby d7_41) rfl) ?_
  show own_Fin p e below _ (T133.setTop (mkF m 43 #[.val (.ref a), .val (.ref b), .val (.int (6 : Int32)), .val (.int (4 : Int32)), .val (.int (4 : Int32))] [(.int (4 : Int32))]))
  refine own_on (fun tq => XS.iloadN X133.here hx rfl (hb hby d7_43) rfl) ?_
  show own_Fin p e below _ (T133.setTop (mkF m 44 #[.val (.ref a), .val (.ref b), .val (.int (6 : Int32)), .val (.int (4 : Int32)), .val (.int (4 : Int32))] [(.int (4 : Int32)), (.int (4 : Int32))]))
  refine own_on (fun tq => XS.icmpYes X133.here hx rfl (pc0 := 44) (pc' := 82) rfl (hb hby d7_44) rfl (flt (by decide : ¬ ((4 : Int32) < (4 : Int32)))).2.1 (by decide) (by decide)) ?_
  show own_Fin p e below _ (T133.setTop (mkF m 82 #[.val (.ref a), .val (.ref b), .val (.int (6 : Int32)), .val (.int (4 : Int32)), .val (.int (4 : Int32))] []))
  refine own_on (fun tq => XS.iinc X133.here hx rfl (hb hby d7_82) rfl (l' := #[.val (.ref a), .val (.ref b), .val (.int (6 : Int32)), .val (.int (6 : Int32)), .val (.int (4 : Int32))]) rfl) ?_
  show own_Fin p e below _ (T133.setTop (mkF m 85 #[.val (.ref a), .val (.ref b), .val (.int (6 : Int32)), .val (.int (6 : Int32)), .val (.int (4 : Int32))] []))
  refine own_on (fun tq => XS.goto X133.here hx rfl (pc0 := 85) (pc' := 33) rfl (hb hby d7_85) (by decide) (by decide)) ?_
  show own_Fin p e below _ (T133.setTop (mkF m 33 #[.val (.ref a), .val (.ref b), .val (.int (6 : Int32)), .val (.int (6 : Int32)), .val (.int (4 : Int32))] []))
  refine own_on (fun tq => XS.iloadN X133.here hx rfl (hb hby d7_33) rfl) ?_
  show own_Fin p e below _ (T133.setTop (mkF m 34 #[.val (.ref a), .val (.ref b), .val (.int (6 : Int32)), .val (.int (6 : Int32)), .val (.int (4 : Int32))] [(.int (6 : Int32))]))
  refine own_on (fun tq => XS.iloadN X133.here hx rfl (hb hby d7_34) rfl) ?_
  show own_Fin p e below _ (T133.setTop (mkF m 35 #[.val (.ref a), .val (.ref b), .val (.int (6 : Int32)), .val (.int (6 : Int32)), .val (.int (4 : Int32))] [(.int (6 : Int32)), (.int (6 : Int32))]))
  refine own_on (fun tq => XS.icmpYes X133.here hx rfl (pc0 := 35) (pc' := 88) rfl (hb hby d7_35) rfl (flt (by decide : ¬ ((6 : Int32) < (6 : Int32)))).2.1 (by decide) (by decide)) ?_
  show own_Fin p e below _ (T133.setTop (mkF m 88 #[.val (.ref a), .val (.ref b), .val (.int (6 : Int32)), .val (.int (6 : Int32)), .val (.int (4 : Int32))] []))
  refine own_on (fun tq => XS.aloadN X133.here hx rfl (hb hby d7_88) rfl rfl) ?_
  show own_Fin p e below _ (T133.setTop (mkF m 89 #[.val (.ref a), .val (.ref b), .val (.int (6 : Int32)), .val (.int (6 : Int32)), .val (.int (4 : Int32))] [(.ref a)]))
  refine own_on (fun tq => XS.aloadN X133.here hx rfl (hb hby d7_89) rfl rfl) ?_
  show own_Fin p e below _ (T133.setTop (mkF m 90 #[.val (.ref a), .val (.ref b), .val (.int (6 : Int32)), .val (.int (6 : Int32)), .val (.int (4 : Int32))] [(.ref b), (.ref a)]))
  obtain ⟨T134, h134, X134, e134, W134, st134⟩ := putF X133 hx hZ hown (host := "") (Or.inl (hw _ (List.mem_of_getElem? (i := 53) rfl))) Via.refl e133 F E (Or.inr ⟨(hw _ (List.mem_of_getElem? (i := 54) rfl)), rfl, hnm⟩) (hw _ (List.mem_of_getElem? (i := 33) rfl)) (ty := (.array (.object "java/lang/String"))) (by decide) rfl rfl (g := (mkF m 90 #[.val (.ref a), .val (.ref b), .val (.int (6 : Int32)), .val (.int (6 : Int32)), .val (.int (4 : Int32))] [(.ref b), (.ref a)])) rfl rfl (hb hby d7_90)
  have N134 := Fr.snoc X134 N133 ga
  have y135 := ((Keep.refl h0 [a]).wr W134 (Or.inl (List.mem_of_getElem? (i := 0) rfl)))
  have y136 := (Nat.le_trans Z0 (Keep.of_wr W134).1)
  have y137 := (O.wr W134 ga)
  have y138 := (E.wr W134)
  have y139 := (F.same W134)
  refine own_on st134 ?_
  show own_Fin p e below _ (T134.setTop (mkF m 93 #[.val (.ref a), .val (.ref b), .val (.int (6 : Int32)), .val (.int (6 : Int32)), .val (.int (4 : Int32))] []))
  exact own_retV X134 hx hlk hret (hb hby d7_93) (by show QI3 Z a b z ka ke0 ke1 ke2 u0 u1 u2 c0 c1 c2 t_ke0 k_ke0 t_ke1 k_ke1 t_ke2 k_ke2 h0 n0 _ T134.heap _; rw [e134]; exact ⟨rfl, N134, y135, y138, y139⟩) (by decide) (by decide)
theorem ef_rmO3 (m : MethodId) (x0 : Addr) : entryFrame m #[(.ref x0)] 1 = mkF m 0 #[.val (.ref x0)] [] := by first | (simp [entryFrame, mkF, argsToLocals, Value.category]; done) | rfl
def QO3 (Z : State) (b : Addr) (z : Int32) (ka : ClassId) (ke0 : Addr) (ke1 : Addr) (ke2 : Addr) (u0 : Addr) (u1 : Addr) (u2 : Addr) (c0 : Int32) (c1 : Int32) (c2 : Int32) (t_ke0 : Addr) (k_ke0 : ClassId) (t_ke1 : Addr) (k_ke1 : ClassId) (t_ke2 : Addr) (k_ke2 : ClassId) (h0 : Heap) (n0 : Nat) (v : Option Value) (h : Heap) (L : List Loc) : Prop := ∃ m a : Addr, v = some (.ref m) ∧ Fr n0 L ∧ Keep h0 h [] ∧ h0.size ≤ m ∧ h0.size ≤ a ∧ Exa Z h m "com/example/settlewatt/settlewatt/model/TraceRecord$Inputs" ∧ Fld Z h m "com/example/settlewatt/settlewatt/model/TraceRecord$Inputs" "namesAndValues" "[Ljava/lang/String;" (.ref a) ∧ Arv Z h a ka (.object "java/lang/String") (6 : Int32) [(.ref ke0), (.ref u0), (.ref ke1), (.ref u1), (.ref ke2), (.ref u2)] .null
set_option maxRecDepth 65536 in
set_option maxHeartbeats 40000000 in
theorem rmO3 (l : Launch) (Z : State) (a0 : Array Value) (hw : ∀ d ∈ tables_1, d.before a0 Z = true) (ws : List Jvm.Cond) (b : Addr) (z : Int32) (ka : ClassId) (ke0 : Addr) (ke1 : Addr) (ke2 : Addr) (u0 : Addr) (u1 : Addr) (u2 : Addr) (c0 : Int32) (c1 : Int32) (c2 : Int32) (t_ke0 : Addr) (k_ke0 : ClassId) (t_ke1 : Addr) (k_ke1 : ClassId) (t_ke2 : Addr) (k_ke2 : ClassId) (h0 : Heap) (n0 : Nat) (Z0 : n0 ≤ h0.size) (hz : ¬ z = (0 : Int32)) (O : Old Z n0 h0) (SC : Sta Z Z.heap "java/lang/String" "COMPACT_STRINGS" "Z" (.int z)) (Ab : Arv Z h0 b ka (.object "java/lang/String") (6 : Int32) [(.ref ke0), (.ref u0), (.ref ke1), (.ref u1), (.ref ke2), (.ref u2)] .null) (Eb : Exa Z h0 b "[Ljava/lang/String;") (E_ke0 : Exa Z h0 ke0 "java/lang/String") (C_ke0 : Fld Z h0 ke0 "java/lang/String" "coder" "B" (.int 0)) (V_ke0 : Fld Z h0 ke0 "java/lang/String" "value" "[B" (.ref t_ke0)) (A_ke0 : Arv Z h0 t_ke0 k_ke0 .byte (1 : Int32) (([c0].map StrChars.lo8).map Value.int) (.int 0)) (r_ke0 : ∀ q_ ∈ [c0], ¬ q_ < 0 ∧ ¬ (255 : Int32) < q_) (E_ke1 : Exa Z h0 ke1 "java/lang/String") (C_ke1 : Fld Z h0 ke1 "java/lang/String" "coder" "B" (.int 0)) (V_ke1 : Fld Z h0 ke1 "java/lang/String" "value" "[B" (.ref t_ke1)) (A_ke1 : Arv Z h0 t_ke1 k_ke1 .byte (1 : Int32) (([c1].map StrChars.lo8).map Value.int) (.int 0)) (r_ke1 : ∀ q_ ∈ [c1], ¬ q_ < 0 ∧ ¬ (255 : Int32) < q_) (E_ke2 : Exa Z h0 ke2 "java/lang/String") (C_ke2 : Fld Z h0 ke2 "java/lang/String" "coder" "B" (.int 0)) (V_ke2 : Fld Z h0 ke2 "java/lang/String" "value" "[B" (.ref t_ke2)) (A_ke2 : Arv Z h0 t_ke2 k_ke2 .byte (1 : Int32) (([c2].map StrChars.lo8).map Value.int) (.int 0)) (r_ke2 : ∀ q_ ∈ [c2], ¬ q_ < 0 ∧ ¬ (255 : Int32) < q_) (d01 : ¬ c0 = c1) (d02 : ¬ c0 = c2) (d12 : ¬ c1 = c2) :
    MetFree l (⟨"com/example/settlewatt/settlewatt/model/TraceRecord", "inputsOf", "([Ljava/lang/String;)Ljava/util/Map;"⟩ : MethodName) (head1 (Jvm.Cond.code (⟨"com/example/settlewatt/settlewatt/model/TraceRecord", "inputsOf", "([Ljava/lang/String;)Ljava/util/Map;"⟩ : MethodName) prog_37_method_3_code 1 (some (.object "java/util/Map")) :: ws) ({ frames := 3, cells := 2, slots := 9, locals := 45 } : Room)) (fun as_ U => as_ = #[(.ref b)] ∧ Z.Warmed39 U.vm ∧ U.heap = h0) (fun _ _ _ _ _ => True) (fun _ U out_ U' => ∃ v L, out_ = .returned v ∧ QO3 Z b z ka ke0 ke1 ke2 u0 u1 u2 c0 c1 c2 t_ke0 k_ke0 t_ke1 k_ke1 t_ke2 k_ke2 h0 n0 v U'.heap L ∧ FrameEnd U out_ U' L ({ frames := 3, cells := 2, slots := 9, locals := 45 } : Room).cells ({ frames := 3, cells := 2, slots := 9, locals := 45 } : Room).slots) := by
  refine MetFree.of_bodySF (plainFor_of_name pn_6) hisR ?_
  intro p e s m args below meth cd s₁ Bd hml0 hP hK
  obtain ⟨rfl, hZ, hh⟩ := hP
  have hx := Bd.exec
  have hby := Bd.bytes
  have hml : cd.maxLocals = 1 := hml0
  have hlk : meth.locks = false := BodyLoose.notSynchronized Bd
  have hown : s.vm.findClass "com/example/settlewatt/settlewatt/model/TraceRecord" = some m.cls := findClass_of_methodNamed Bd.named
  have hnm := (name_of_methodNamed Bd.named Bd.method).1
  have hret := Bd.returns
  have X0 : Stand p l e ({ frames := 3, cells := 2, slots := 9, locals := 45 } : Room) s m #[(.ref b)] below meth cd s₁ [] 0 0 := Stand.of_body Bd
  have e0 : s₁.heap = h0 := by rw [← hh, Bd.state]; rfl
  have N0 := Fr.nil n0
  show own_Fin p e below (own_Ans s (QO3 Z b z ka ke0 ke1 ke2 u0 u1 u2 c0 c1 c2 t_ke0 k_ke0 t_ke1 k_ke1 t_ke2 k_ke2 h0 n0) ({ frames := 3, cells := 2, slots := 9, locals := 45 } : Room).cells ({ frames := 3, cells := 2, slots := 9, locals := 45 } : Room).slots) (s₁.setTop (entryFrame m #[(.ref b)] 1))
  refine own_cast (ef_rmO3 m b) ?_
  show own_Fin p e below _ (s₁.setTop (mkF m 0 #[.val (.ref b)] []))
  obtain ⟨T140, h140, X140, e140, E140, A140, D140, -, st140⟩ := newO X0 hx hZ hown (hw _ (List.mem_of_getElem? (i := 32) rfl)) (hw _ (List.mem_of_getElem? (i := 33) rfl)) (hw _ (List.mem_of_getElem? (i := 34) rfl)) e0 (g := (mkF m 0 #[.val (.ref b)] [])) rfl (hb hby d6_0) (by decide) (by decide)
  obtain ⟨b140, g140⟩ : ∃ z, z = h0.size := ⟨_, rfl⟩
  rw [← g140] at A140 D140 st140
  have y141 := ((Keep.refl h0 []).ext E140)
  have y142 := (Nat.le_trans Z0 E140.1)
  have y143 := (O.ext E140)
  have gn140 : n0 ≤ b140 := Nat.le_trans Z0 (Nat.le_of_eq g140.symm)
  have gk140 : h0.size ≤ b140 := Nat.le_trans (Keep.refl h0 []).1 (Nat.le_of_eq g140.symm)
  have F140_namesAndValues : Fld Z h140 b140 "com/example/settlewatt/settlewatt/model/TraceRecord$Inputs" "namesAndValues" "[Ljava/lang/String;" .null := D140 (Or.inr (hw _ (List.mem_of_getElem? (i := 54) rfl))) (ty := (.array (.object "java/lang/String"))) (by decide)
  refine own_on st140 ?_
  show own_Fin p e below _ (T140.setTop (mkF m 3 #[.val (.ref b)] [(.ref b140)]))
  refine own_on (fun tq => XS.dup X140.here hx rfl (hb hby d6_3) rfl rfl) ?_
  show own_Fin p e below _ (T140.setTop (mkF m 4 #[.val (.ref b)] [(.ref b140), (.ref b140)]))
  refine own_on (fun tq => XS.aloadN X140.here hx rfl (hb hby d6_4) rfl rfl) ?_
  show own_Fin p e below _ (T140.setTop (mkF m 5 #[.val (.ref b)] [(.ref b), (.ref b140), (.ref b140)]))
  obtain ⟨T144, h144, X144, e144, E144, A144, D144, st144⟩ := cloneH X140 hx hZ hown (hw _ (List.mem_of_getElem? (i := 35) rfl)) (hw _ (List.mem_of_getElem? (i := 36) rfl)) (hw _ (List.mem_of_getElem? (i := 40) rfl)) (hw _ (List.mem_of_getElem? (i := 38) rfl)) (hw _ (List.mem_of_getElem? (i := 39) rfl)) (hw _ (List.mem_of_getElem? (i := 41) rfl)) e140 (Arv.arh (Ab.keep y141 nin0)) (Eb.keep y141) (g := (mkF m 5 #[.val (.ref b)] [(.ref b), (.ref b140), (.ref b140)])) rfl (by rw [hml]; rfl) rfl (hb hby d6_5) (by decide) (W := 2) (cap := 6) (by show 2 * 0 + _ ≤ _; exact Nat.le_of_eq rfl) (by decide) (by decide) (by decide) (by decide)
  obtain ⟨b144, g144⟩ : ∃ z, z = h140.size := ⟨_, rfl⟩
  rw [← g144] at A144 D144 st144
  have ne144_b140 : b140 ≠ b144 := own_ne_of (Z := Z) A140.lt g144
  have y145 := (y141.ext E144)
  have y146 := (Nat.le_trans y142 E144.1)
  have y147 := (y143.ext E144)
  have y148 := (A140.ext E144)
  have y149 := (F140_namesAndValues.ext E144)
  have gn144 : n0 ≤ b144 := Nat.le_trans y142 (Nat.le_of_eq g144.symm)
  have gk144 : h0.size ≤ b144 := Nat.le_trans y141.1 (Nat.le_of_eq g144.symm)
  have V144 : Arv Z h144 b144 ka (.object "java/lang/String") (6 : Int32) [(.ref ke0), (.ref u0), (.ref ke1), (.ref u1), (.ref ke2), (.ref u2)] .null := A144
  refine own_on st144 ?_
  show own_Fin p e below _ (T144.setTop (mkF m 8 #[.val (.ref b)] [(.ref b144), (.ref b140), (.ref b140)]))
  obtain ⟨T150, X150, e150, st150⟩ := castY X144 hx hZ hown (hw _ (List.mem_of_getElem? (i := 42) rfl)) e144 (Ins.self D144) (g := (mkF m 8 #[.val (.ref b)] [(.ref b144), (.ref b140), (.ref b140)])) rfl rfl (hb hby d6_8)
  refine own_on st150 ?_
  show own_Fin p e below _ (T150.setTop (mkF m 11 #[.val (.ref b)] [(.ref b144), (.ref b140), (.ref b140)]))
  obtain ⟨_, _, ⟨T151, L151, k151, n151⟩, -, X151, ⟨Lc151, hQ151, l151, y151, z151⟩, st151⟩ := X150.specialBack hx (y := (⟨"com/example/settlewatt/settlewatt/model/TraceRecord$Inputs", "<init>", "([Ljava/lang/String;)V"⟩ : MethodName)) rfl hown (mvT hZ (hw _ (List.mem_of_getElem? (i := 44) rfl))) (mvT hZ (hw _ (List.mem_of_getElem? (i := 45) rfl))) (mvT hZ (hw _ (List.mem_of_getElem? (i := 46) rfl))) (by decide) (backOf (W := 1) (rmI3 l Z a0 hw [] b140 b144 z ka ke0 ke1 ke2 u0 u1 u2 c0 c1 c2 t_ke0 k_ke0 t_ke1 k_ke1 t_ke2 k_ke2 h144 n0 (by exact y146) hz y147 SC y148 y149 gn140 V144 (E_ke0.keep y145) (C_ke0.keep y145 nin0) (V_ke0.keep y145 nin0) (A_ke0.keep y145 nin0) r_ke0 (E_ke1.keep y145) (C_ke1.keep y145 nin0) (V_ke1.keep y145 nin0) (A_ke1.keep y145 nin0) r_ke1 (E_ke2.keep y145) (C_ke2.keep y145 nin0) (V_ke2.keep y145 nin0) (A_ke2.keep y145 nin0) r_ke2 d01 d02 d12) hZ (hw _ (List.mem_of_getElem? (i := 46) rfl)) (hw _ (List.mem_of_getElem? (i := 34) rfl)) (by decide) (by decide)) (g := (mkF m 11 #[.val (.ref b)] [(.ref b144), (.ref b140), (.ref b140)])) rfl (by rw [hml]; rfl) (Steps.refl _) (a := b140) (argsL := [(.ref b144)]) (rest := [(.ref b140)]) (lenOf pd_4 rfl) rfl (by show 2 * 0 + _ ≤ _; exact Nat.le_of_eq rfl) (hb hby d6_11) (fun _ _ => ⟨rfl, e150, (by decide : 2 + 0 ≤ _), (by decide : 9 + 0 ≤ _)⟩)
  dsimp only [Pt.U, Pt.locs, Pt.cells, Pt.slots] at X151 l151 y151 z151 st151 hQ151
  subst l151 y151 z151
  obtain ⟨rfl, N151q, K151, Eq151, Fq151⟩ := hQ151
  have N151 := Fr.app N0 N151q
  have y152 := (y145.trans K151 (allS (Or.inr gk140) all0))
  have y153 := (Nat.le_trans y146 K151.1)
  have y154 := (y147.keep K151 (allS gn140 all0))
  have y155 := (y148.keep K151)
  have y156 := (D144.keep K151)
  have y157 := (V144.keep K151 (ninS (Ne.symm ne144_b140) nin0))
  refine own_via st151 ?_
  show own_Fin p e below _ (T151.setTop (mkF m 14 #[.val (.ref b)] [(.ref b140)]))
  exact own_ret (t := (.object "java/util/Map")) X151 hx hlk hret rfl (Or.inr (Or.inr (Or.inr (Or.inr ⟨rfl, rfl, rfl⟩)))) (hb hby d6_14) (by show QO3 Z b z ka ke0 ke1 ke2 u0 u1 u2 c0 c1 c2 t_ke0 k_ke0 t_ke1 k_ke1 t_ke2 k_ke2 h0 n0 _ T151.heap _; exact ⟨b140, b144, rfl, N151, y152, gk140, gk144, y155, Fq151, y157⟩) (by decide) (by decide)
theorem pn_7 : plainName "com/example/settlewatt/settlewatt/model/TraceRecord$Inputs$1" = true := by first | (simp [plainName, overriddenIn]; done) | decide +kernel
theorem d11_0 : decode prog_39_method_1_code 0 = .ok (.aload_n 0, 1) := by decide +kernel
theorem d11_1 : decode prog_39_method_1_code 1 = .ok (.aload_n 1, 1) := by decide +kernel
theorem d11_2 : decode prog_39_method_1_code 2 = .ok (.putfield 1, 3) := by decide +kernel
theorem d11_5 : decode prog_39_method_1_code 5 = .ok (.aload_n 0, 1) := by decide +kernel
theorem d11_6 : decode prog_39_method_1_code 6 = .ok (.invokespecial 7, 3) := by decide +kernel
theorem d11_9 : decode prog_39_method_1_code 9 = .ok (.return_, 1) := by decide +kernel
theorem ef_rm11 (m : MethodId) (x0 : Addr) (x1 : Addr) : entryFrame m #[(.ref x0), (.ref x1)] 2 = mkF m 0 #[.val (.ref x0), .val (.ref x1)] [] := by first | (simp [entryFrame, mkF, argsToLocals, Value.category]; done) | rfl
def Q11 (Z : State) (a : Addr) (mp : Addr) (h0 : Heap) (n0 : Nat) (v : Option Value) (h : Heap) (L : List Loc) : Prop := v = none ∧ Fr n0 L ∧ Keep h0 h [a] ∧ Exa Z h a "com/example/settlewatt/settlewatt/model/TraceRecord$Inputs$1" ∧ Fld Z h a "com/example/settlewatt/settlewatt/model/TraceRecord$Inputs$1" "this$0" "Lcom/example/settlewatt/settlewatt/model/TraceRecord$Inputs;" (.ref mp)
set_option maxRecDepth 65536 in
set_option maxHeartbeats 40000000 in
theorem rm11 (l : Launch) (Z : State) (a0 : Array Value) (hw : ∀ d ∈ tables_1, d.before a0 Z = true) (ws : List Jvm.Cond) (a : Addr) (mp : Addr) (h0 : Heap) (n0 : Nat) (Z0 : n0 ≤ h0.size) (E : Exa Z h0 a "com/example/settlewatt/settlewatt/model/TraceRecord$Inputs$1") (F : Fld Z h0 a "com/example/settlewatt/settlewatt/model/TraceRecord$Inputs$1" "this$0" "Lcom/example/settlewatt/settlewatt/model/TraceRecord$Inputs;" .null) (ga : n0 ≤ a) :
    MetFree l (⟨"com/example/settlewatt/settlewatt/model/TraceRecord$Inputs$1", "<init>", "(Lcom/example/settlewatt/settlewatt/model/TraceRecord$Inputs;)V"⟩ : MethodName) (head1 (Jvm.Cond.code (⟨"com/example/settlewatt/settlewatt/model/TraceRecord$Inputs$1", "<init>", "(Lcom/example/settlewatt/settlewatt/model/TraceRecord$Inputs;)V"⟩ : MethodName) prog_39_method_1_code 2 none :: ws) ({ frames := 3, cells := 0, slots := 0, locals := 36 } : Room)) (fun as_ U => as_ = #[(.ref a), (.ref mp)] ∧ Z.Warmed39 U.vm ∧ U.heap = h0) (fun _ _ _ _ _ => True) (fun _ U out_ U' => ∃ v L, out_ = .returned v ∧ Q11 Z a mp h0 n0 v U'.heap L ∧ FrameEnd U out_ U' L ({ frames := 3, cells := 0, slots := 0, locals := 36 } : Room).cells ({ frames := 3, cells := 0, slots := 0, locals := 36 } : Room).slots) := by
  refine MetFree.of_bodySF (plainFor_of_name pn_7) hisR ?_
  intro p e s m args below meth cd s₁ Bd hml0 hP hK
  obtain ⟨rfl, hZ, hh⟩ := hP
  have hx := Bd.exec
  have hby := Bd.bytes
  have hml : cd.maxLocals = 2 := hml0
  have hlk : meth.locks = false := BodyLoose.notSynchronized Bd
  have hown : s.vm.findClass "com/example/settlewatt/settlewatt/model/TraceRecord$Inputs$1" = some m.cls := findClass_of_methodNamed Bd.named
  have hnm := (name_of_methodNamed Bd.named Bd.method).1
  have hret := Bd.returns
  have X0 : Stand p l e ({ frames := 3, cells := 0, slots := 0, locals := 36 } : Room) s m #[(.ref a), (.ref mp)] below meth cd s₁ [] 0 0 := Stand.of_body Bd
  have e0 : s₁.heap = h0 := by rw [← hh, Bd.state]; rfl
  have N0 := Fr.nil n0
  show own_Fin p e below (own_Ans s (Q11 Z a mp h0 n0) ({ frames := 3, cells := 0, slots := 0, locals := 36 } : Room).cells ({ frames := 3, cells := 0, slots := 0, locals := 36 } : Room).slots) (s₁.setTop (entryFrame m #[(.ref a), (.ref mp)] 2))
  refine own_cast (ef_rm11 m a mp) ?_
  show own_Fin p e below _ (s₁.setTop (mkF m 0 #[.val (.ref a), .val (.ref mp)] []))
  refine own_on (fun tq => XS.aloadN X0.here hx rfl (hb hby d11_0) rfl rfl) ?_
  show own_Fin p e below _ (s₁.setTop (mkF m 1 #[.val (.ref a), .val (.ref mp)] [(.ref a)]))
  refine own_on (fun tq => XS.aloadN X0.here hx rfl (hb hby d11_1) rfl rfl) ?_
  show own_Fin p e below _ (s₁.setTop (mkF m 2 #[.val (.ref a), .val (.ref mp)] [(.ref mp), (.ref a)]))
  obtain ⟨T158, h158, X158, e158, W158, st158⟩ := putF X0 hx hZ hown (host := "") (Or.inl (hw _ (List.mem_of_getElem? (i := 75) rfl))) Via.refl e0 F E (Or.inr ⟨(hw _ (List.mem_of_getElem? (i := 76) rfl)), rfl, hnm⟩) (hw _ (List.mem_of_getElem? (i := 70) rfl)) (ty := (.object "com/example/settlewatt/settlewatt/model/TraceRecord$Inputs")) (by decide) rfl rfl (g := (mkF m 2 #[.val (.ref a), .val (.ref mp)] [(.ref mp), (.ref a)])) rfl rfl (hb hby d11_2)
  have N158 := Fr.snoc X158 N0 ga
  have y159 := ((Keep.refl h0 [a]).wr W158 (Or.inl (List.mem_of_getElem? (i := 0) rfl)))
  have y160 := (Nat.le_trans Z0 (Keep.of_wr W158).1)
  have y161 := (E.wr W158)
  have y162 := (F.same W158)
  refine own_on st158 ?_
  show own_Fin p e below _ (T158.setTop (mkF m 5 #[.val (.ref a), .val (.ref mp)] []))
  refine own_on (fun tq => XS.aloadN X158.here hx rfl (hb hby d11_5) rfl rfl) ?_
  show own_Fin p e below _ (T158.setTop (mkF m 6 #[.val (.ref a), .val (.ref mp)] [(.ref a)]))
  obtain ⟨_, _, ⟨T163, L163, k163, n163⟩, -, X163, ⟨Lc163, hQ163, l163, y163, z163⟩, st163⟩ := X158.specialBack hx (y := (⟨"java/util/AbstractSet", "<init>", "()V"⟩ : MethodName)) rfl hown (mvT hZ (hw _ (List.mem_of_getElem? (i := 77) rfl))) (mvT hZ (hw _ (List.mem_of_getElem? (i := 78) rfl))) (mvT hZ (hw _ (List.mem_of_getElem? (i := 81) rfl))) (by decide) (backOf (W := 0) (rm12 l Z a0 hw [] a h158 n0 (by exact y160)) hZ (hw _ (List.mem_of_getElem? (i := 81) rfl)) (hw _ (List.mem_of_getElem? (i := 80) rfl)) (by decide) (by decide)) (g := (mkF m 6 #[.val (.ref a), .val (.ref mp)] [(.ref a)])) rfl (by rw [hml]; rfl) (Steps.refl _) (a := a) (argsL := []) (rest := []) (lenOf pd_3 rfl) rfl (by show 2 * 0 + _ ≤ _; exact Nat.le_of_eq rfl) (hb hby d11_6) (fun _ _ => ⟨rfl, e158, (by decide : 0 + 0 ≤ _), (by decide : 0 + 0 ≤ _)⟩)
  dsimp only [Pt.U, Pt.locs, Pt.cells, Pt.slots] at X163 l163 y163 z163 st163 hQ163
  subst l163 y163 z163
  obtain ⟨rfl, N163q, e163⟩ := hQ163
  have N163 := Fr.app N158 N163q
  refine own_via st163 ?_
  show own_Fin p e below _ (T163.setTop (mkF m 9 #[.val (.ref a), .val (.ref mp)] []))
  exact own_retV X163 hx hlk hret (hb hby d11_9) (by show Q11 Z a mp h0 n0 _ T163.heap _; rw [e163]; exact ⟨rfl, N163, y159, y161, y162⟩) (by decide) (by decide)
theorem d10_0 : decode prog_38_method_2_code 0 = .ok (.new 29, 3) := by decide +kernel
theorem d10_3 : decode prog_38_method_2_code 3 = .ok (.dup, 1) := by decide +kernel
theorem d10_4 : decode prog_38_method_2_code 4 = .ok (.aload_n 0, 1) := by decide +kernel
theorem d10_5 : decode prog_38_method_2_code 5 = .ok (.invokespecial 31, 3) := by decide +kernel
theorem pd_6 : parseMethodDescriptor "(Lcom/example/settlewatt/settlewatt/model/TraceRecord$Inputs;)V" = some ⟨[(.object "com/example/settlewatt/settlewatt/model/TraceRecord$Inputs")], none⟩ := by decide +kernel
theorem d10_8 : decode prog_38_method_2_code 8 = .ok (.areturn, 1) := by decide +kernel
theorem ef_rm10 (m : MethodId) (x0 : Addr) : entryFrame m #[(.ref x0)] 1 = mkF m 0 #[.val (.ref x0)] [] := by first | (simp [entryFrame, mkF, argsToLocals, Value.category]; done) | rfl
def Q10 (Z : State) (mp : Addr) (h0 : Heap) (n0 : Nat) (v : Option Value) (h : Heap) (L : List Loc) : Prop := ∃ b : Addr, v = some (.ref b) ∧ Fr n0 L ∧ Keep h0 h [] ∧ Exa Z h b "com/example/settlewatt/settlewatt/model/TraceRecord$Inputs$1" ∧ Fld Z h b "com/example/settlewatt/settlewatt/model/TraceRecord$Inputs$1" "this$0" "Lcom/example/settlewatt/settlewatt/model/TraceRecord$Inputs;" (.ref mp)
set_option maxRecDepth 65536 in
set_option maxHeartbeats 40000000 in
theorem rm10 (l : Launch) (Z : State) (a0 : Array Value) (hw : ∀ d ∈ tables_1, d.before a0 Z = true) (ws : List Jvm.Cond) (mp : Addr) (h0 : Heap) (n0 : Nat) (Z0 : n0 ≤ h0.size) :
    MetFree l (⟨"com/example/settlewatt/settlewatt/model/TraceRecord$Inputs", "entrySet", "()Ljava/util/Set;"⟩ : MethodName) (head1 (Jvm.Cond.code (⟨"com/example/settlewatt/settlewatt/model/TraceRecord$Inputs", "entrySet", "()Ljava/util/Set;"⟩ : MethodName) prog_38_method_2_code 1 (some (.object "java/util/Set")) :: ws) ({ frames := 4, cells := 1, slots := 1, locals := 50 } : Room)) (fun as_ U => as_ = #[(.ref mp)] ∧ Z.Warmed39 U.vm ∧ U.heap = h0) (fun _ _ _ _ _ => True) (fun _ U out_ U' => ∃ v L, out_ = .returned v ∧ Q10 Z mp h0 n0 v U'.heap L ∧ FrameEnd U out_ U' L ({ frames := 4, cells := 1, slots := 1, locals := 50 } : Room).cells ({ frames := 4, cells := 1, slots := 1, locals := 50 } : Room).slots) := by
  refine MetFree.of_bodySF (plainFor_of_name pn_5) hisR ?_
  intro p e s m args below meth cd s₁ Bd hml0 hP hK
  obtain ⟨rfl, hZ, hh⟩ := hP
  have hx := Bd.exec
  have hby := Bd.bytes
  have hml : cd.maxLocals = 1 := hml0
  have hlk : meth.locks = false := BodyLoose.notSynchronized Bd
  have hown : s.vm.findClass "com/example/settlewatt/settlewatt/model/TraceRecord$Inputs" = some m.cls := findClass_of_methodNamed Bd.named
  have hnm := (name_of_methodNamed Bd.named Bd.method).1
  have hret := Bd.returns
  have X0 : Stand p l e ({ frames := 4, cells := 1, slots := 1, locals := 50 } : Room) s m #[(.ref mp)] below meth cd s₁ [] 0 0 := Stand.of_body Bd
  have e0 : s₁.heap = h0 := by rw [← hh, Bd.state]; rfl
  have N0 := Fr.nil n0
  show own_Fin p e below (own_Ans s (Q10 Z mp h0 n0) ({ frames := 4, cells := 1, slots := 1, locals := 50 } : Room).cells ({ frames := 4, cells := 1, slots := 1, locals := 50 } : Room).slots) (s₁.setTop (entryFrame m #[(.ref mp)] 1))
  refine own_cast (ef_rm10 m mp) ?_
  show own_Fin p e below _ (s₁.setTop (mkF m 0 #[.val (.ref mp)] []))
  obtain ⟨T164, h164, X164, e164, E164, A164, D164, -, st164⟩ := newO X0 hx hZ hown (hw _ (List.mem_of_getElem? (i := 69) rfl)) (hw _ (List.mem_of_getElem? (i := 70) rfl)) (hw _ (List.mem_of_getElem? (i := 71) rfl)) e0 (g := (mkF m 0 #[.val (.ref mp)] [])) rfl (hb hby d10_0) (by decide) (by decide)
  obtain ⟨b164, g164⟩ : ∃ z, z = h0.size := ⟨_, rfl⟩
  rw [← g164] at A164 D164 st164
  have y165 := ((Keep.refl h0 []).ext E164)
  have y166 := (Nat.le_trans Z0 E164.1)
  have gn164 : n0 ≤ b164 := Nat.le_trans Z0 (Nat.le_of_eq g164.symm)
  have gk164 : h0.size ≤ b164 := Nat.le_trans (Keep.refl h0 []).1 (Nat.le_of_eq g164.symm)
  have F164_this_0 : Fld Z h164 b164 "com/example/settlewatt/settlewatt/model/TraceRecord$Inputs$1" "this$0" "Lcom/example/settlewatt/settlewatt/model/TraceRecord$Inputs;" .null := D164 (Or.inr (hw _ (List.mem_of_getElem? (i := 76) rfl))) (ty := (.object "com/example/settlewatt/settlewatt/model/TraceRecord$Inputs")) (by decide)
  refine own_on st164 ?_
  show own_Fin p e below _ (T164.setTop (mkF m 3 #[.val (.ref mp)] [(.ref b164)]))
  refine own_on (fun tq => XS.dup X164.here hx rfl (hb hby d10_3) rfl rfl) ?_
  show own_Fin p e below _ (T164.setTop (mkF m 4 #[.val (.ref mp)] [(.ref b164), (.ref b164)]))
  refine own_on (fun tq => XS.aloadN X164.here hx rfl (hb hby d10_4) rfl rfl) ?_
  show own_Fin p e below _ (T164.setTop (mkF m 5 #[.val (.ref mp)] [(.ref mp), (.ref b164), (.ref b164)]))
  obtain ⟨_, _, ⟨T167, L167, k167, n167⟩, -, X167, ⟨Lc167, hQ167, l167, y167, z167⟩, st167⟩ := X164.specialBack hx (y := (⟨"com/example/settlewatt/settlewatt/model/TraceRecord$Inputs$1", "<init>", "(Lcom/example/settlewatt/settlewatt/model/TraceRecord$Inputs;)V"⟩ : MethodName)) rfl hown (mvT hZ (hw _ (List.mem_of_getElem? (i := 72) rfl))) (mvT hZ (hw _ (List.mem_of_getElem? (i := 73) rfl))) (mvT hZ (hw _ (List.mem_of_getElem? (i := 74) rfl))) (by decide) (backOf (W := 1) (rm11 l Z a0 hw [] b164 mp h164 n0 (by exact y166) A164 F164_this_0 gn164) hZ (hw _ (List.mem_of_getElem? (i := 74) rfl)) (hw _ (List.mem_of_getElem? (i := 71) rfl)) (by decide) (by decide)) (g := (mkF m 5 #[.val (.ref mp)] [(.ref mp), (.ref b164), (.ref b164)])) rfl (by rw [hml]; rfl) (Steps.refl _) (a := b164) (argsL := [(.ref mp)]) (rest := [(.ref b164)]) (lenOf pd_6 rfl) rfl (by show 2 * 0 + _ ≤ _; exact Nat.le_of_eq rfl) (hb hby d10_5) (fun _ _ => ⟨rfl, e164, (by decide : 1 + 0 ≤ _), (by decide : 1 + 0 ≤ _)⟩)
  dsimp only [Pt.U, Pt.locs, Pt.cells, Pt.slots] at X167 l167 y167 z167 st167 hQ167
  subst l167 y167 z167
  obtain ⟨rfl, N167q, K167, Eq167, F167_0⟩ := hQ167
  have N167 := Fr.app N0 N167q
  have y168 := (y165.trans K167 (allS (Or.inr gk164) all0))
  have y169 := (Nat.le_trans y166 K167.1)
  have y170 := (A164.keep K167)
  refine own_via st167 ?_
  show own_Fin p e below _ (T167.setTop (mkF m 8 #[.val (.ref mp)] [(.ref b164)]))
  exact own_ret (t := (.object "java/util/Set")) X167 hx hlk hret rfl (Or.inr (Or.inr (Or.inr (Or.inr ⟨rfl, rfl, rfl⟩)))) (hb hby d10_8) (by show Q10 Z mp h0 n0 _ T167.heap _; exact ⟨b164, rfl, N167, y168, y170, F167_0⟩) (by decide) (by decide)
theorem d14_0 : decode prog_39_method_2_code 0 = .ok (.aload_n 0, 1) := by decide +kernel
theorem d14_1 : decode prog_39_method_2_code 1 = .ok (.getfield 1, 3) := by decide +kernel
theorem d14_4 : decode prog_39_method_2_code 4 = .ok (.getfield 13, 3) := by decide +kernel
theorem d14_7 : decode prog_39_method_2_code 7 = .ok (.arraylength, 1) := by decide +kernel
theorem d14_8 : decode prog_39_method_2_code 8 = .ok (.iconst 2, 1) := by decide +kernel
theorem d14_9 : decode prog_39_method_2_code 9 = .ok (.idiv, 1) := by decide +kernel
theorem d14_10 : decode prog_39_method_2_code 10 = .ok (.ireturn, 1) := by decide +kernel
theorem ef_rm14 (m : MethodId) (x0 : Addr) : entryFrame m #[(.ref x0)] 1 = mkF m 0 #[.val (.ref x0)] [] := by first | (simp [entryFrame, mkF, argsToLocals, Value.category]; done) | rfl
def Q14 (Z : State) (b : Addr) (mp : Addr) (a : Addr) (ka : ClassId) (y : Int32) (vs : List Value) (h0 : Heap) (n0 : Nat) (v : Option Value) (h : Heap) (L : List Loc) : Prop := v = some (.int (y / (2 : Int32))) ∧ Fr n0 L ∧ h = h0
set_option maxRecDepth 65536 in
set_option maxHeartbeats 40000000 in
theorem rm14 (l : Launch) (Z : State) (a0 : Array Value) (hw : ∀ d ∈ tables_1, d.before a0 Z = true) (ws : List Jvm.Cond) (b : Addr) (mp : Addr) (a : Addr) (ka : ClassId) (y : Int32) (vs : List Value) (h0 : Heap) (n0 : Nat) (Z0 : n0 ≤ h0.size) (F1 : Fld Z h0 b "com/example/settlewatt/settlewatt/model/TraceRecord$Inputs$1" "this$0" "Lcom/example/settlewatt/settlewatt/model/TraceRecord$Inputs;" (.ref mp)) (F2 : Fld Z h0 mp "com/example/settlewatt/settlewatt/model/TraceRecord$Inputs" "namesAndValues" "[Ljava/lang/String;" (.ref a)) (Aa : Arv Z h0 a ka (.object "java/lang/String") y vs .null) :
    MetFree l (⟨"com/example/settlewatt/settlewatt/model/TraceRecord$Inputs$1", "size", "()I"⟩ : MethodName) (head1 (Jvm.Cond.code (⟨"com/example/settlewatt/settlewatt/model/TraceRecord$Inputs$1", "size", "()I"⟩ : MethodName) prog_39_method_2_code 1 (some .int) :: ws) ({ frames := 0, cells := 0, slots := 0, locals := 0 } : Room)) (fun as_ U => as_ = #[(.ref b)] ∧ Z.Warmed39 U.vm ∧ U.heap = h0) (fun _ _ _ _ _ => True) (fun _ U out_ U' => ∃ v L, out_ = .returned v ∧ Q14 Z b mp a ka y vs h0 n0 v U'.heap L ∧ FrameEnd U out_ U' L ({ frames := 0, cells := 0, slots := 0, locals := 0 } : Room).cells ({ frames := 0, cells := 0, slots := 0, locals := 0 } : Room).slots) := by
  refine MetFree.of_bodySF (plainFor_of_name pn_7) hisR ?_
  intro p e s m args below meth cd s₁ Bd hml0 hP hK
  obtain ⟨rfl, hZ, hh⟩ := hP
  have hx := Bd.exec
  have hby := Bd.bytes
  have hml : cd.maxLocals = 1 := hml0
  have hlk : meth.locks = false := BodyLoose.notSynchronized Bd
  have hown : s.vm.findClass "com/example/settlewatt/settlewatt/model/TraceRecord$Inputs$1" = some m.cls := findClass_of_methodNamed Bd.named
  have hnm := (name_of_methodNamed Bd.named Bd.method).1
  have hret := Bd.returns
  have X0 : Stand p l e ({ frames := 0, cells := 0, slots := 0, locals := 0 } : Room) s m #[(.ref b)] below meth cd s₁ [] 0 0 := Stand.of_body Bd
  have e0 : s₁.heap = h0 := by rw [← hh, Bd.state]; rfl
  have N0 := Fr.nil n0
  show own_Fin p e below (own_Ans s (Q14 Z b mp a ka y vs h0 n0) ({ frames := 0, cells := 0, slots := 0, locals := 0 } : Room).cells ({ frames := 0, cells := 0, slots := 0, locals := 0 } : Room).slots) (s₁.setTop (entryFrame m #[(.ref b)] 1))
  refine own_cast (ef_rm14 m b) ?_
  show own_Fin p e below _ (s₁.setTop (mkF m 0 #[.val (.ref b)] []))
  refine own_on (fun tq => XS.aloadN X0.here hx rfl (hb hby d14_0) rfl rfl) ?_
  show own_Fin p e below _ (s₁.setTop (mkF m 1 #[.val (.ref b)] [(.ref b)]))
  obtain ⟨T171, X171, e171, st171⟩ := getF X0 hx hZ hown (host := "") (Or.inl (hw _ (List.mem_of_getElem? (i := 75) rfl))) Via.refl e0 F1 (g := (mkF m 1 #[.val (.ref b)] [(.ref b)])) rfl rfl (hb hby d14_1)
  refine own_on st171 ?_
  show own_Fin p e below _ (T171.setTop (mkF m 4 #[.val (.ref b)] [(.ref mp)]))
  obtain ⟨T172, X172, e172, st172⟩ := getF X171 hx hZ hown (Or.inr (hw _ (List.mem_of_getElem? (i := 98) rfl))) Via.refl e171 F2 (g := (mkF m 4 #[.val (.ref b)] [(.ref mp)])) rfl rfl (hb hby d14_4)
  refine own_on st172 ?_
  show own_Fin p e below _ (T172.setTop (mkF m 7 #[.val (.ref b)] [(.ref a)]))
  have cp173 := Aa
  obtain ⟨cl173, Ar173, q173, S173, G173, H173, F173⟩ := cp173
  refine own_on (fun tq => X172.arraylength hx (by rw [e172]; exact Ar173.1) (State.isArrayOf_alike hZ.alike Ar173.2.1) (g := (mkF m 7 #[.val (.ref b)] [(.ref a)])) rfl rfl (hb hby d14_7) tq) ?_
  rw [len_of S173 G173]
  show own_Fin p e below _ (T172.setTop (mkF m 8 #[.val (.ref b)] [(.int y)]))
  refine own_on (fun tq => XS.iconst X172.here hx rfl (hb hby d14_8)) ?_
  show own_Fin p e below _ (T172.setTop (mkF m 9 #[.val (.ref b)] [(.int (2 : Int32)), (.int y)]))
  refine own_on (fun tq => XS.idiv X172.here hx rfl (hb hby d14_9) rfl (by decide)) ?_
  show own_Fin p e below _ (T172.setTop (mkF m 10 #[.val (.ref b)] [(.int (y / (2 : Int32)))]))
  exact own_ret (t := .int) X172 hx hlk hret rfl (Or.inl ⟨rfl, (by simp), _, rfl⟩) (hb hby d14_10) (⟨rfl, N0, e172⟩) (by decide) (by decide)
theorem d9_0 : decode jdk_71_method_2_code 0 = .ok (.aload_n 0, 1) := by decide +kernel
theorem d9_1 : decode jdk_71_method_2_code 1 = .ok (.invokevirtual 7, 3) := by decide +kernel
theorem pd_7 : parseMethodDescriptor "()Ljava/util/Set;" = some ⟨[], some (.object "java/util/Set")⟩ := by decide +kernel
theorem d9_4 : decode jdk_71_method_2_code 4 = .ok (.invokeinterface 13 1, 5) := by decide +kernel
theorem pd_8 : parseMethodDescriptor "()I" = some ⟨[], some .int⟩ := by decide +kernel
theorem d9_9 : decode jdk_71_method_2_code 9 = .ok (.ireturn, 1) := by decide +kernel
theorem ef_rm9 (m : MethodId) (x0 : Addr) : entryFrame m #[(.ref x0)] 1 = mkF m 0 #[.val (.ref x0)] [] := by first | (simp [entryFrame, mkF, argsToLocals, Value.category]; done) | rfl
def Q9 (Z : State) (mp : Addr) (a : Addr) (ka : ClassId) (y : Int32) (vs : List Value) (h0 : Heap) (n0 : Nat) (v : Option Value) (h : Heap) (L : List Loc) : Prop := v = some (.int (y / (2 : Int32))) ∧ Fr n0 L ∧ Keep h0 h []
set_option maxRecDepth 65536 in
set_option maxHeartbeats 40000000 in
theorem rm9 (l : Launch) (Z : State) (a0 : Array Value) (hw : ∀ d ∈ tables_1, d.before a0 Z = true) (ws : List Jvm.Cond) (mp : Addr) (a : Addr) (ka : ClassId) (y : Int32) (vs : List Value) (h0 : Heap) (n0 : Nat) (Z0 : n0 ≤ h0.size) (E : Exa Z h0 mp "com/example/settlewatt/settlewatt/model/TraceRecord$Inputs") (F2 : Fld Z h0 mp "com/example/settlewatt/settlewatt/model/TraceRecord$Inputs" "namesAndValues" "[Ljava/lang/String;" (.ref a)) (Aa : Arv Z h0 a ka (.object "java/lang/String") y vs .null) :
    MetFree l (⟨"java/util/AbstractMap", "size", "()I"⟩ : MethodName) (head1 (Jvm.Cond.code (⟨"java/util/AbstractMap", "size", "()I"⟩ : MethodName) jdk_71_method_2_code 1 (some .int) :: ws) ({ frames := 5, cells := 1, slots := 1, locals := 62 } : Room)) (fun as_ U => as_ = #[(.ref mp)] ∧ Z.Warmed39 U.vm ∧ U.heap = h0) (fun _ _ _ _ _ => True) (fun _ U out_ U' => ∃ v L, out_ = .returned v ∧ Q9 Z mp a ka y vs h0 n0 v U'.heap L ∧ FrameEnd U out_ U' L ({ frames := 5, cells := 1, slots := 1, locals := 62 } : Room).cells ({ frames := 5, cells := 1, slots := 1, locals := 62 } : Room).slots) := by
  refine MetFree.of_bodySF (plainFor_of_name pn_2) hisR ?_
  intro p e s m args below meth cd s₁ Bd hml0 hP hK
  obtain ⟨rfl, hZ, hh⟩ := hP
  have hx := Bd.exec
  have hby := Bd.bytes
  have hml : cd.maxLocals = 1 := hml0
  have hlk : meth.locks = false := BodyLoose.notSynchronized Bd
  have hown : s.vm.findClass "java/util/AbstractMap" = some m.cls := findClass_of_methodNamed Bd.named
  have hnm := (name_of_methodNamed Bd.named Bd.method).1
  have hret := Bd.returns
  have X0 : Stand p l e ({ frames := 5, cells := 1, slots := 1, locals := 62 } : Room) s m #[(.ref mp)] below meth cd s₁ [] 0 0 := Stand.of_body Bd
  have e0 : s₁.heap = h0 := by rw [← hh, Bd.state]; rfl
  have N0 := Fr.nil n0
  show own_Fin p e below (own_Ans s (Q9 Z mp a ka y vs h0 n0) ({ frames := 5, cells := 1, slots := 1, locals := 62 } : Room).cells ({ frames := 5, cells := 1, slots := 1, locals := 62 } : Room).slots) (s₁.setTop (entryFrame m #[(.ref mp)] 1))
  refine own_cast (ef_rm9 m mp) ?_
  show own_Fin p e below _ (s₁.setTop (mkF m 0 #[.val (.ref mp)] []))
  refine own_on (fun tq => XS.aloadN X0.here hx rfl (hb hby d9_0) rfl rfl) ?_
  show own_Fin p e below _ (s₁.setTop (mkF m 1 #[.val (.ref mp)] [(.ref mp)]))
  obtain ⟨cq174, kq174, q174a, q174b, q174c⟩ := isOf hZ e0 (E.keep (Keep.refl h0 []))
  obtain ⟨_, _, ⟨T174, L174, k174, n174⟩, -, X174, ⟨Lc174, hQ174, l174, y174, z174⟩, st174⟩ := X0.virtualBack hx (y := (⟨"java/util/AbstractMap", "entrySet", "()Ljava/util/Set;"⟩ : MethodName)) (z := (⟨"com/example/settlewatt/settlewatt/model/TraceRecord$Inputs", "entrySet", "()Ljava/util/Set;"⟩ : MethodName)) hown (mvT hZ (hw _ (List.mem_of_getElem? (i := 64) rfl))) (mvT hZ (hw _ (List.mem_of_getElem? (i := 65) rfl))) (own_nf (a0 := #[]) (mvT hZ (hw _ (List.mem_of_getElem? (i := 58) rfl))) rfl) (mvT hZ (hw _ (List.mem_of_getElem? (i := 66) rfl))) (mvT hZ (hw _ (List.mem_of_getElem? (i := 67) rfl))) (by decide) (backOf (W := 0) (rm10 l Z a0 hw [] mp h0 n0 (by exact Z0)) hZ (hw _ (List.mem_of_getElem? (i := 68) rfl)) (hw _ (List.mem_of_getElem? (i := 34) rfl)) (by decide) (by decide)) q174a q174c (g := (mkF m 1 #[.val (.ref mp)] [(.ref mp)])) rfl (by rw [hml]; rfl) (Steps.refl _) (argsL := []) (rest := []) (lenOf pd_7 rfl) rfl (by show 2 * 0 + _ ≤ _; exact Nat.le_of_eq rfl) (hb hby d9_1) (fun _ _ => ⟨rfl, e0, (by decide : 0 + 1 ≤ _), (by decide : 0 + 1 ≤ _)⟩)
  dsimp only [Pt.U, Pt.locs, Pt.cells, Pt.slots] at X174 l174 y174 z174 st174 hQ174
  subst l174 y174 z174
  obtain ⟨s174, rfl, N174q, K174, Eq174, Fq174⟩ := hQ174
  have N174 := Fr.app N0 N174q
  have y175 := ((Keep.refl h0 []).trans K174 all0)
  have y176 := (Nat.le_trans Z0 K174.1)
  refine own_via st174 ?_
  show own_Fin p e below _ (T174.setTop (mkF m 4 #[.val (.ref mp)] [(.ref s174)]))
  obtain ⟨cq177, kq177, q177a, q177b, q177c⟩ := isOf hZ rfl Eq174
  obtain ⟨_, _, ⟨T177, L177, k177, n177⟩, -, X177, ⟨Lc177, hQ177, l177, y177, z177⟩, st177⟩ := X174.interfaceBack hx (xi := (⟨"java/util/Set", "size", "()I"⟩ : MethodName)) (y := (⟨"com/example/settlewatt/settlewatt/model/TraceRecord$Inputs$1", "size", "()I"⟩ : MethodName)) hown (mvT hZ (hw _ (List.mem_of_getElem? (i := 89) rfl))) (mvT hZ (hw _ (List.mem_of_getElem? (i := 90) rfl))) (mvT hZ (hw _ (List.mem_of_getElem? (i := 91) rfl))) (mvT hZ (hw _ (List.mem_of_getElem? (i := 92) rfl))) (mvT hZ (hw _ (List.mem_of_getElem? (i := 93) rfl))) (mvT hZ (hw _ (List.mem_of_getElem? (i := 94) rfl))) (mvT hZ (hw _ (List.mem_of_getElem? (i := 95) rfl))) (mvT hZ (hw _ (List.mem_of_getElem? (i := 96) rfl))) (by decide) (backOf (W := 0) (rm14 l Z a0 hw [] s174 mp a ka y _ T174.heap n0 (by exact y176) Fq174 (F2.keep y175 nin0) (Aa.keep y175 nin0)) hZ (hw _ (List.mem_of_getElem? (i := 97) rfl)) (hw _ (List.mem_of_getElem? (i := 71) rfl)) (by decide) (by decide)) q177a q177b q177c (g := (mkF m 4 #[.val (.ref mp)] [(.ref s174)])) rfl (by rw [hml]; rfl) (Steps.refl _) (argsL := []) (rest := []) (lenOf pd_8 rfl) rfl (by show 2 * 0 + _ ≤ _; exact Nat.le_of_eq rfl) (hb hby d9_4) (fun _ _ => ⟨rfl, rfl, (by decide : 1 + 0 ≤ _), (by decide : 1 + 0 ≤ _)⟩)
  dsimp only [Pt.U, Pt.locs, Pt.cells, Pt.slots] at X177 l177 y177 z177 st177 hQ177
  subst l177 y177 z177
  obtain ⟨rfl, N177q, e177⟩ := hQ177
  have N177 := Fr.app N174 N177q
  refine own_via st177 ?_
  show own_Fin p e below _ (T177.setTop (mkF m 9 #[.val (.ref mp)] [(.int (y / (2 : Int32)))]))
  exact own_ret (t := .int) X177 hx hlk hret rfl (Or.inl ⟨rfl, (by simp), _, rfl⟩) (hb hby d9_9) (by show Q9 Z mp a ka y vs h0 n0 _ T177.heap _; rw [e177]; exact ⟨rfl, N177, y175⟩) (by decide) (by decide)
theorem pn_8 : plainName "com/example/settlewatt/settlewatt/model/TraceRecord$Inputs$Entries" = true := by first | (simp [plainName, overriddenIn]; done) | decide +kernel
theorem d18_0 : decode prog_40_method_1_code 0 = .ok (.aload_n 0, 1) := by decide +kernel
theorem d18_1 : decode prog_40_method_1_code 1 = .ok (.aload_n 1, 1) := by decide +kernel
theorem d18_2 : decode prog_40_method_1_code 2 = .ok (.putfield 1, 3) := by decide +kernel
theorem d18_5 : decode prog_40_method_1_code 5 = .ok (.aload_n 0, 1) := by decide +kernel
theorem d18_6 : decode prog_40_method_1_code 6 = .ok (.invokespecial 7, 3) := by decide +kernel
theorem d18_9 : decode prog_40_method_1_code 9 = .ok (.return_, 1) := by decide +kernel
theorem ef_rm18 (m : MethodId) (x0 : Addr) (x1 : Addr) : entryFrame m #[(.ref x0), (.ref x1)] 2 = mkF m 0 #[.val (.ref x0), .val (.ref x1)] [] := by first | (simp [entryFrame, mkF, argsToLocals, Value.category]; done) | rfl
def Q18 (Z : State) (a : Addr) (mp : Addr) (h0 : Heap) (n0 : Nat) (v : Option Value) (h : Heap) (L : List Loc) : Prop := v = none ∧ Fr n0 L ∧ Keep h0 h [a] ∧ Exa Z h a "com/example/settlewatt/settlewatt/model/TraceRecord$Inputs$Entries" ∧ Fld Z h a "com/example/settlewatt/settlewatt/model/TraceRecord$Inputs$Entries" "this$0" "Lcom/example/settlewatt/settlewatt/model/TraceRecord$Inputs;" (.ref mp) ∧ Fld Z h a "com/example/settlewatt/settlewatt/model/TraceRecord$Inputs$Entries" "next" "I" (.int (0 : Int32))
set_option maxRecDepth 65536 in
set_option maxHeartbeats 40000000 in
theorem rm18 (l : Launch) (Z : State) (a0 : Array Value) (hw : ∀ d ∈ tables_1, d.before a0 Z = true) (ws : List Jvm.Cond) (a : Addr) (mp : Addr) (h0 : Heap) (n0 : Nat) (Z0 : n0 ≤ h0.size) (E : Exa Z h0 a "com/example/settlewatt/settlewatt/model/TraceRecord$Inputs$Entries") (F : Fld Z h0 a "com/example/settlewatt/settlewatt/model/TraceRecord$Inputs$Entries" "this$0" "Lcom/example/settlewatt/settlewatt/model/TraceRecord$Inputs;" .null) (G : Fld Z h0 a "com/example/settlewatt/settlewatt/model/TraceRecord$Inputs$Entries" "next" "I" (.int (0 : Int32))) (ga : n0 ≤ a) :
    MetFree l (⟨"com/example/settlewatt/settlewatt/model/TraceRecord$Inputs$Entries", "<init>", "(Lcom/example/settlewatt/settlewatt/model/TraceRecord$Inputs;)V"⟩ : MethodName) (head1 (Jvm.Cond.code (⟨"com/example/settlewatt/settlewatt/model/TraceRecord$Inputs$Entries", "<init>", "(Lcom/example/settlewatt/settlewatt/model/TraceRecord$Inputs;)V"⟩ : MethodName) prog_40_method_1_code 2 none :: ws) ({ frames := 1, cells := 0, slots := 0, locals := 12 } : Room)) (fun as_ U => as_ = #[(.ref a), (.ref mp)] ∧ Z.Warmed39 U.vm ∧ U.heap = h0) (fun _ _ _ _ _ => True) (fun _ U out_ U' => ∃ v L, out_ = .returned v ∧ Q18 Z a mp h0 n0 v U'.heap L ∧ FrameEnd U out_ U' L ({ frames := 1, cells := 0, slots := 0, locals := 12 } : Room).cells ({ frames := 1, cells := 0, slots := 0, locals := 12 } : Room).slots) := by
  refine MetFree.of_bodySF (plainFor_of_name pn_8) hisR ?_
  intro p e s m args below meth cd s₁ Bd hml0 hP hK
  obtain ⟨rfl, hZ, hh⟩ := hP
  have hx := Bd.exec
  have hby := Bd.bytes
  have hml : cd.maxLocals = 2 := hml0
  have hlk : meth.locks = false := BodyLoose.notSynchronized Bd
  have hown : s.vm.findClass "com/example/settlewatt/settlewatt/model/TraceRecord$Inputs$Entries" = some m.cls := findClass_of_methodNamed Bd.named
  have hnm := (name_of_methodNamed Bd.named Bd.method).1
  have hret := Bd.returns
  have X0 : Stand p l e ({ frames := 1, cells := 0, slots := 0, locals := 12 } : Room) s m #[(.ref a), (.ref mp)] below meth cd s₁ [] 0 0 := Stand.of_body Bd
  have e0 : s₁.heap = h0 := by rw [← hh, Bd.state]; rfl
  have N0 := Fr.nil n0
  show own_Fin p e below (own_Ans s (Q18 Z a mp h0 n0) ({ frames := 1, cells := 0, slots := 0, locals := 12 } : Room).cells ({ frames := 1, cells := 0, slots := 0, locals := 12 } : Room).slots) (s₁.setTop (entryFrame m #[(.ref a), (.ref mp)] 2))
  refine own_cast (ef_rm18 m a mp) ?_
  show own_Fin p e below _ (s₁.setTop (mkF m 0 #[.val (.ref a), .val (.ref mp)] []))
  refine own_on (fun tq => XS.aloadN X0.here hx rfl (hb hby d18_0) rfl rfl) ?_
  show own_Fin p e below _ (s₁.setTop (mkF m 1 #[.val (.ref a), .val (.ref mp)] [(.ref a)]))
  refine own_on (fun tq => XS.aloadN X0.here hx rfl (hb hby d18_1) rfl rfl) ?_
  show own_Fin p e below _ (s₁.setTop (mkF m 2 #[.val (.ref a), .val (.ref mp)] [(.ref mp), (.ref a)]))
  obtain ⟨T178, h178, X178, e178, W178, st178⟩ := putF X0 hx hZ hown (host := "") (Or.inl (hw _ (List.mem_of_getElem? (i := 125) rfl))) Via.refl e0 F E (Or.inr ⟨(hw _ (List.mem_of_getElem? (i := 126) rfl)), rfl, hnm⟩) (hw _ (List.mem_of_getElem? (i := 120) rfl)) (ty := (.object "com/example/settlewatt/settlewatt/model/TraceRecord$Inputs")) (by decide) rfl rfl (g := (mkF m 2 #[.val (.ref a), .val (.ref mp)] [(.ref mp), (.ref a)])) rfl rfl (hb hby d18_2)
  have N178 := Fr.snoc X178 N0 ga
  have y179 := ((Keep.refl h0 [a]).wr W178 (Or.inl (List.mem_of_getElem? (i := 0) rfl)))
  have y180 := (Nat.le_trans Z0 (Keep.of_wr W178).1)
  have y181 := (E.wr W178)
  have y182 := (F.same W178)
  have y183 := (G.other W178 (Or.inr (slot_ne (Or.inl (hw _ (List.mem_of_getElem? (i := 138) rfl))) (Or.inr (hw _ (List.mem_of_getElem? (i := 126) rfl))) (by decide) (t := .int) (t' := (.object "com/example/settlewatt/settlewatt/model/TraceRecord$Inputs")) (by decide) (by decide))))
  refine own_on st178 ?_
  show own_Fin p e below _ (T178.setTop (mkF m 5 #[.val (.ref a), .val (.ref mp)] []))
  refine own_on (fun tq => XS.aloadN X178.here hx rfl (hb hby d18_5) rfl rfl) ?_
  show own_Fin p e below _ (T178.setTop (mkF m 6 #[.val (.ref a), .val (.ref mp)] [(.ref a)]))
  obtain ⟨T184, X184, e184, st184⟩ := initO X178 hx hZ hown (hw _ (List.mem_of_getElem? (i := 127) rfl)) (hw _ (List.mem_of_getElem? (i := 20) rfl)) (hw _ (List.mem_of_getElem? (i := 21) rfl)) e178 (g := (mkF m 6 #[.val (.ref a), .val (.ref mp)] [(.ref a)])) rfl (by rw [hml]; rfl) rfl (hb hby d18_6) (by decide) (W := 0) (by show 2 * 0 + _ ≤ _; exact Nat.le_of_eq rfl) (by decide)
  refine own_on st184 ?_
  show own_Fin p e below _ (T184.setTop (mkF m 9 #[.val (.ref a), .val (.ref mp)] []))
  exact own_retV X184 hx hlk hret (hb hby d18_9) (by show Q18 Z a mp h0 n0 _ T184.heap _; rw [e184]; exact ⟨rfl, N178, y179, y181, y182, y183⟩) (by decide) (by decide)
theorem d17_0 : decode prog_39_method_3_code 0 = .ok (.new 19, 3) := by decide +kernel
theorem d17_3 : decode prog_39_method_3_code 3 = .ok (.dup, 1) := by decide +kernel
theorem d17_4 : decode prog_39_method_3_code 4 = .ok (.aload_n 0, 1) := by decide +kernel
theorem d17_5 : decode prog_39_method_3_code 5 = .ok (.getfield 1, 3) := by decide +kernel
theorem d17_8 : decode prog_39_method_3_code 8 = .ok (.invokespecial 21, 3) := by decide +kernel
theorem d17_11 : decode prog_39_method_3_code 11 = .ok (.areturn, 1) := by decide +kernel
theorem ef_rm17 (m : MethodId) (x0 : Addr) : entryFrame m #[(.ref x0)] 1 = mkF m 0 #[.val (.ref x0)] [] := by first | (simp [entryFrame, mkF, argsToLocals, Value.category]; done) | rfl
def Q17 (Z : State) (b : Addr) (mp : Addr) (h0 : Heap) (n0 : Nat) (v : Option Value) (h : Heap) (L : List Loc) : Prop := ∃ t : Addr, v = some (.ref t) ∧ Fr n0 L ∧ Keep h0 h [] ∧ n0 ≤ t ∧ h0.size ≤ t ∧ Exa Z h t "com/example/settlewatt/settlewatt/model/TraceRecord$Inputs$Entries" ∧ Fld Z h t "com/example/settlewatt/settlewatt/model/TraceRecord$Inputs$Entries" "this$0" "Lcom/example/settlewatt/settlewatt/model/TraceRecord$Inputs;" (.ref mp) ∧ Fld Z h t "com/example/settlewatt/settlewatt/model/TraceRecord$Inputs$Entries" "next" "I" (.int (0 : Int32))
set_option maxRecDepth 65536 in
set_option maxHeartbeats 40000000 in
theorem rm17 (l : Launch) (Z : State) (a0 : Array Value) (hw : ∀ d ∈ tables_1, d.before a0 Z = true) (ws : List Jvm.Cond) (b : Addr) (mp : Addr) (h0 : Heap) (n0 : Nat) (Z0 : n0 ≤ h0.size) (F1 : Fld Z h0 b "com/example/settlewatt/settlewatt/model/TraceRecord$Inputs$1" "this$0" "Lcom/example/settlewatt/settlewatt/model/TraceRecord$Inputs;" (.ref mp)) :
    MetFree l (⟨"com/example/settlewatt/settlewatt/model/TraceRecord$Inputs$1", "iterator", "()Ljava/util/Iterator;"⟩ : MethodName) (head1 (Jvm.Cond.code (⟨"com/example/settlewatt/settlewatt/model/TraceRecord$Inputs$1", "iterator", "()Ljava/util/Iterator;"⟩ : MethodName) prog_39_method_3_code 1 (some (.object "java/util/Iterator")) :: ws) ({ frames := 2, cells := 1, slots := 2, locals := 26 } : Room)) (fun as_ U => as_ = #[(.ref b)] ∧ Z.Warmed39 U.vm ∧ U.heap = h0) (fun _ _ _ _ _ => True) (fun _ U out_ U' => ∃ v L, out_ = .returned v ∧ Q17 Z b mp h0 n0 v U'.heap L ∧ FrameEnd U out_ U' L ({ frames := 2, cells := 1, slots := 2, locals := 26 } : Room).cells ({ frames := 2, cells := 1, slots := 2, locals := 26 } : Room).slots) := by
  refine MetFree.of_bodySF (plainFor_of_name pn_7) hisR ?_
  intro p e s m args below meth cd s₁ Bd hml0 hP hK
  obtain ⟨rfl, hZ, hh⟩ := hP
  have hx := Bd.exec
  have hby := Bd.bytes
  have hml : cd.maxLocals = 1 := hml0
  have hlk : meth.locks = false := BodyLoose.notSynchronized Bd
  have hown : s.vm.findClass "com/example/settlewatt/settlewatt/model/TraceRecord$Inputs$1" = some m.cls := findClass_of_methodNamed Bd.named
  have hnm := (name_of_methodNamed Bd.named Bd.method).1
  have hret := Bd.returns
  have X0 : Stand p l e ({ frames := 2, cells := 1, slots := 2, locals := 26 } : Room) s m #[(.ref b)] below meth cd s₁ [] 0 0 := Stand.of_body Bd
  have e0 : s₁.heap = h0 := by rw [← hh, Bd.state]; rfl
  have N0 := Fr.nil n0
  show own_Fin p e below (own_Ans s (Q17 Z b mp h0 n0) ({ frames := 2, cells := 1, slots := 2, locals := 26 } : Room).cells ({ frames := 2, cells := 1, slots := 2, locals := 26 } : Room).slots) (s₁.setTop (entryFrame m #[(.ref b)] 1))
  refine own_cast (ef_rm17 m b) ?_
  show own_Fin p e below _ (s₁.setTop (mkF m 0 #[.val (.ref b)] []))
  obtain ⟨T185, h185, X185, e185, E185, A185, D185, -, st185⟩ := newO X0 hx hZ hown (hw _ (List.mem_of_getElem? (i := 119) rfl)) (hw _ (List.mem_of_getElem? (i := 120) rfl)) (hw _ (List.mem_of_getElem? (i := 121) rfl)) e0 (g := (mkF m 0 #[.val (.ref b)] [])) rfl (hb hby d17_0) (by decide) (by decide)
  obtain ⟨b185, g185⟩ : ∃ z, z = h0.size := ⟨_, rfl⟩
  rw [← g185] at A185 D185 st185
  have y186 := ((Keep.refl h0 []).ext E185)
  have y187 := (Nat.le_trans Z0 E185.1)
  have gn185 : n0 ≤ b185 := Nat.le_trans Z0 (Nat.le_of_eq g185.symm)
  have gk185 : h0.size ≤ b185 := Nat.le_trans (Keep.refl h0 []).1 (Nat.le_of_eq g185.symm)
  have F185_this_0 : Fld Z h185 b185 "com/example/settlewatt/settlewatt/model/TraceRecord$Inputs$Entries" "this$0" "Lcom/example/settlewatt/settlewatt/model/TraceRecord$Inputs;" .null := D185 (Or.inr (hw _ (List.mem_of_getElem? (i := 126) rfl))) (ty := (.object "com/example/settlewatt/settlewatt/model/TraceRecord$Inputs")) (by decide)
  have F185_next : Fld Z h185 b185 "com/example/settlewatt/settlewatt/model/TraceRecord$Inputs$Entries" "next" "I" (.int (0 : Int32)) := D185 (Or.inl (hw _ (List.mem_of_getElem? (i := 138) rfl))) (ty := .int) (by decide)
  refine own_on st185 ?_
  show own_Fin p e below _ (T185.setTop (mkF m 3 #[.val (.ref b)] [(.ref b185)]))
  refine own_on (fun tq => XS.dup X185.here hx rfl (hb hby d17_3) rfl rfl) ?_
  show own_Fin p e below _ (T185.setTop (mkF m 4 #[.val (.ref b)] [(.ref b185), (.ref b185)]))
  refine own_on (fun tq => XS.aloadN X185.here hx rfl (hb hby d17_4) rfl rfl) ?_
  show own_Fin p e below _ (T185.setTop (mkF m 5 #[.val (.ref b)] [(.ref b), (.ref b185), (.ref b185)]))
  obtain ⟨T188, X188, e188, st188⟩ := getF X185 hx hZ hown (host := "") (Or.inl (hw _ (List.mem_of_getElem? (i := 75) rfl))) Via.refl e185 (F1.keep y186 nin0) (g := (mkF m 5 #[.val (.ref b)] [(.ref b), (.ref b185), (.ref b185)])) rfl rfl (hb hby d17_5)
  refine own_on st188 ?_
  show own_Fin p e below _ (T188.setTop (mkF m 8 #[.val (.ref b)] [(.ref mp), (.ref b185), (.ref b185)]))
  obtain ⟨_, _, ⟨T189, L189, k189, n189⟩, -, X189, ⟨Lc189, hQ189, l189, y189, z189⟩, st189⟩ := X188.specialBackNest hx (y := (⟨"com/example/settlewatt/settlewatt/model/TraceRecord$Inputs$Entries", "<init>", "(Lcom/example/settlewatt/settlewatt/model/TraceRecord$Inputs;)V"⟩ : MethodName)) rfl hown (Cond.methodLinkNest_wide hZ (hw _ (List.mem_of_getElem? (i := 122) rfl)) :) (mvT hZ (hw _ (List.mem_of_getElem? (i := 123) rfl))) (mvT hZ (hw _ (List.mem_of_getElem? (i := 124) rfl))) (by decide) (backOf (W := 1) (rm18 l Z a0 hw [] b185 mp h185 n0 (by exact y187) A185 F185_this_0 F185_next gn185) hZ (hw _ (List.mem_of_getElem? (i := 124) rfl)) (hw _ (List.mem_of_getElem? (i := 121) rfl)) (by decide) (by decide)) (g := (mkF m 8 #[.val (.ref b)] [(.ref mp), (.ref b185), (.ref b185)])) rfl (by rw [hml]; rfl) (Steps.refl _) (a := b185) (argsL := [(.ref mp)]) (rest := [(.ref b185)]) (lenOf pd_6 rfl) rfl (by show 2 * 0 + _ ≤ _; exact Nat.le_of_eq rfl) (hb hby d17_8) (fun _ _ => ⟨rfl, e188, (by decide : 1 + 0 ≤ _), (by decide : 2 + 0 ≤ _)⟩)
  dsimp only [Pt.U, Pt.locs, Pt.cells, Pt.slots] at X189 l189 y189 z189 st189 hQ189
  subst l189 y189 z189
  obtain ⟨rfl, N189q, K189, Eq189, F189_0, F189_1⟩ := hQ189
  have N189 := Fr.app N0 N189q
  have y190 := (y186.trans K189 (allS (Or.inr gk185) all0))
  have y191 := (Nat.le_trans y187 K189.1)
  have y192 := (A185.keep K189)
  refine own_via st189 ?_
  show own_Fin p e below _ (T189.setTop (mkF m 11 #[.val (.ref b)] [(.ref b185)]))
  exact own_ret (t := (.object "java/util/Iterator")) X189 hx hlk hret rfl (Or.inr (Or.inr (Or.inr (Or.inr ⟨rfl, rfl, rfl⟩)))) (hb hby d17_11) (by show Q17 Z b mp h0 n0 _ T189.heap _; exact ⟨b185, rfl, N189, y190, gn185, gk185, y192, F189_0, F189_1⟩) (by decide) (by decide)
theorem d19_0 : decode prog_40_method_2_code 0 = .ok (.aload_n 0, 1) := by decide +kernel
theorem d19_1 : decode prog_40_method_2_code 1 = .ok (.getfield 13, 3) := by decide +kernel
theorem d19_4 : decode prog_40_method_2_code 4 = .ok (.aload_n 0, 1) := by decide +kernel
theorem d19_5 : decode prog_40_method_2_code 5 = .ok (.getfield 1, 3) := by decide +kernel
theorem d19_8 : decode prog_40_method_2_code 8 = .ok (.getfield 17, 3) := by decide +kernel
theorem d19_11 : decode prog_40_method_2_code 11 = .ok (.arraylength, 1) := by decide +kernel
theorem d19_12 : decode prog_40_method_2_code 12 = .ok (.if_icmp .ge 7, 3) := by decide +kernel
theorem d19_15 : decode prog_40_method_2_code 15 = .ok (.iconst 1, 1) := by decide +kernel
theorem d19_16 : decode prog_40_method_2_code 16 = .ok (.goto 4, 3) := by decide +kernel
theorem d19_20 : decode prog_40_method_2_code 20 = .ok (.ireturn, 1) := by decide +kernel
theorem d19_19 : decode prog_40_method_2_code 19 = .ok (.iconst 0, 1) := by decide +kernel
theorem ef_rm19 (m : MethodId) (x0 : Addr) : entryFrame m #[(.ref x0)] 1 = mkF m 0 #[.val (.ref x0)] [] := by first | (simp [entryFrame, mkF, argsToLocals, Value.category]; done) | rfl
def Q19 (Z : State) (t : Addr) (mp : Addr) (a : Addr) (ka : ClassId) (j : Int32) (y : Int32) (vs : List Value) (r : Int32) (h0 : Heap) (n0 : Nat) (v : Option Value) (h : Heap) (L : List Loc) : Prop := v = some (.int r) ∧ Fr n0 L ∧ h = h0
set_option maxRecDepth 65536 in
set_option maxHeartbeats 40000000 in
theorem rm19 (l : Launch) (Z : State) (a0 : Array Value) (hw : ∀ d ∈ tables_1, d.before a0 Z = true) (ws : List Jvm.Cond) (t : Addr) (mp : Addr) (a : Addr) (ka : ClassId) (j : Int32) (y : Int32) (vs : List Value) (r : Int32) (h0 : Heap) (n0 : Nat) (Z0 : n0 ≤ h0.size) (F1 : Fld Z h0 t "com/example/settlewatt/settlewatt/model/TraceRecord$Inputs$Entries" "this$0" "Lcom/example/settlewatt/settlewatt/model/TraceRecord$Inputs;" (.ref mp)) (G : Fld Z h0 t "com/example/settlewatt/settlewatt/model/TraceRecord$Inputs$Entries" "next" "I" (.int j)) (F2 : Fld Z h0 mp "com/example/settlewatt/settlewatt/model/TraceRecord$Inputs" "namesAndValues" "[Ljava/lang/String;" (.ref a)) (Aa : Arv Z h0 a ka (.object "java/lang/String") y vs .null) (hr : r = if j < y then (1 : Int32) else 0) :
    MetFree l (⟨"com/example/settlewatt/settlewatt/model/TraceRecord$Inputs$Entries", "hasNext", "()Z"⟩ : MethodName) (head1 (Jvm.Cond.code (⟨"com/example/settlewatt/settlewatt/model/TraceRecord$Inputs$Entries", "hasNext", "()Z"⟩ : MethodName) prog_40_method_2_code 1 (some .boolean) :: ws) ({ frames := 0, cells := 0, slots := 0, locals := 0 } : Room)) (fun as_ U => as_ = #[(.ref t)] ∧ Z.Warmed39 U.vm ∧ U.heap = h0) (fun _ _ _ _ _ => True) (fun _ U out_ U' => ∃ v L, out_ = .returned v ∧ Q19 Z t mp a ka j y vs r h0 n0 v U'.heap L ∧ FrameEnd U out_ U' L ({ frames := 0, cells := 0, slots := 0, locals := 0 } : Room).cells ({ frames := 0, cells := 0, slots := 0, locals := 0 } : Room).slots) := by
  refine MetFree.of_bodySF (plainFor_of_name pn_8) hisR ?_
  intro p e s m args below meth cd s₁ Bd hml0 hP hK
  obtain ⟨rfl, hZ, hh⟩ := hP
  have hx := Bd.exec
  have hby := Bd.bytes
  have hml : cd.maxLocals = 1 := hml0
  have hlk : meth.locks = false := BodyLoose.notSynchronized Bd
  have hown : s.vm.findClass "com/example/settlewatt/settlewatt/model/TraceRecord$Inputs$Entries" = some m.cls := findClass_of_methodNamed Bd.named
  have hnm := (name_of_methodNamed Bd.named Bd.method).1
  have hret := Bd.returns
  have X0 : Stand p l e ({ frames := 0, cells := 0, slots := 0, locals := 0 } : Room) s m #[(.ref t)] below meth cd s₁ [] 0 0 := Stand.of_body Bd
  have e0 : s₁.heap = h0 := by rw [← hh, Bd.state]; rfl
  have N0 := Fr.nil n0
  show own_Fin p e below (own_Ans s (Q19 Z t mp a ka j y vs r h0 n0) ({ frames := 0, cells := 0, slots := 0, locals := 0 } : Room).cells ({ frames := 0, cells := 0, slots := 0, locals := 0 } : Room).slots) (s₁.setTop (entryFrame m #[(.ref t)] 1))
  refine own_cast (ef_rm19 m t) ?_
  show own_Fin p e below _ (s₁.setTop (mkF m 0 #[.val (.ref t)] []))
  refine own_on (fun tq => XS.aloadN X0.here hx rfl (hb hby d19_0) rfl rfl) ?_
  show own_Fin p e below _ (s₁.setTop (mkF m 1 #[.val (.ref t)] [(.ref t)]))
  obtain ⟨T193, X193, e193, st193⟩ := getF X0 hx hZ hown (host := "") (Or.inl (hw _ (List.mem_of_getElem? (i := 137) rfl))) Via.refl e0 G (g := (mkF m 1 #[.val (.ref t)] [(.ref t)])) rfl rfl (hb hby d19_1)
  refine own_on st193 ?_
  show own_Fin p e below _ (T193.setTop (mkF m 4 #[.val (.ref t)] [(.int j)]))
  refine own_on (fun tq => XS.aloadN X193.here hx rfl (hb hby d19_4) rfl rfl) ?_
  show own_Fin p e below _ (T193.setTop (mkF m 5 #[.val (.ref t)] [(.ref t), (.int j)]))
  obtain ⟨T194, X194, e194, st194⟩ := getF X193 hx hZ hown (host := "") (Or.inl (hw _ (List.mem_of_getElem? (i := 125) rfl))) Via.refl e193 F1 (g := (mkF m 5 #[.val (.ref t)] [(.ref t), (.int j)])) rfl rfl (hb hby d19_5)
  refine own_on st194 ?_
  show own_Fin p e below _ (T194.setTop (mkF m 8 #[.val (.ref t)] [(.ref mp), (.int j)]))
  obtain ⟨T195, X195, e195, st195⟩ := getF X194 hx hZ hown (Or.inr (hw _ (List.mem_of_getElem? (i := 139) rfl))) Via.refl e194 F2 (g := (mkF m 8 #[.val (.ref t)] [(.ref mp), (.int j)])) rfl rfl (hb hby d19_8)
  refine own_on st195 ?_
  show own_Fin p e below _ (T195.setTop (mkF m 11 #[.val (.ref t)] [(.ref a), (.int j)]))
  have cp196 := Aa
  obtain ⟨cl196, Ar196, q196, S196, G196, H196, F196⟩ := cp196
  refine own_on (fun tq => X195.arraylength hx (by rw [e195]; exact Ar196.1) (State.isArrayOf_alike hZ.alike Ar196.2.1) (g := (mkF m 11 #[.val (.ref t)] [(.ref a), (.int j)])) rfl rfl (hb hby d19_11) tq) ?_
  rw [len_of S196 G196]
  show own_Fin p e below _ (T195.setTop (mkF m 12 #[.val (.ref t)] [(.int y), (.int j)]))
  by_cases hc197 : j < y
  · refine own_on (fun tq => XS.icmpNo X195.here hx rfl (hb hby d19_12) rfl (tlt hc197).2.1) ?_
    show own_Fin p e below _ (T195.setTop (mkF m 15 #[.val (.ref t)] []))
    refine own_on (fun tq => XS.iconst X195.here hx rfl (hb hby d19_15)) ?_
    show own_Fin p e below _ (T195.setTop (mkF m 16 #[.val (.ref t)] [(.int (1 : Int32))]))
    refine own_on (fun tq => XS.goto X195.here hx rfl (pc0 := 16) (pc' := 20) rfl (hb hby d19_16) (by decide) (by decide)) ?_
    show own_Fin p e below _ (T195.setTop (mkF m 20 #[.val (.ref t)] [(.int (1 : Int32))]))
    exact own_ret (t := .boolean) X195 hx hlk hret rfl (Or.inl ⟨rfl, (by simp), _, rfl⟩) (hb hby d19_20) (⟨by rw [hr]; simp [hc197], N0, e195⟩) (by decide) (by decide)
  · refine own_on (fun tq => XS.icmpYes X195.here hx rfl (pc0 := 12) (pc' := 19) rfl (hb hby d19_12) rfl (flt hc197).2.1 (by decide) (by decide)) ?_
    show own_Fin p e below _ (T195.setTop (mkF m 19 #[.val (.ref t)] []))
    refine own_on (fun tq => XS.iconst X195.here hx rfl (hb hby d19_19)) ?_
    show own_Fin p e below _ (T195.setTop (mkF m 20 #[.val (.ref t)] [(.int (0 : Int32))]))
    exact own_ret (t := .boolean) X195 hx hlk hret rfl (Or.inl ⟨rfl, (by simp), _, rfl⟩) (hb hby d19_20) (⟨by rw [hr]; simp [hc197], N0, e195⟩) (by decide) (by decide)
theorem pn_9 : plainName "java/util/AbstractMap$SimpleImmutableEntry" = true := by first | (simp [plainName, overriddenIn]; done) | decide +kernel
theorem d22_0 : decode jdk_140_method_1_code 0 = .ok (.aload_n 0, 1) := by decide +kernel
theorem d22_1 : decode jdk_140_method_1_code 1 = .ok (.invokespecial 1, 3) := by decide +kernel
theorem d22_4 : decode jdk_140_method_1_code 4 = .ok (.aload_n 0, 1) := by decide +kernel
theorem d22_5 : decode jdk_140_method_1_code 5 = .ok (.aload_n 1, 1) := by decide +kernel
theorem d22_6 : decode jdk_140_method_1_code 6 = .ok (.putfield 7, 3) := by decide +kernel
theorem d22_9 : decode jdk_140_method_1_code 9 = .ok (.aload_n 0, 1) := by decide +kernel
theorem d22_10 : decode jdk_140_method_1_code 10 = .ok (.aload_n 2, 1) := by decide +kernel
theorem d22_11 : decode jdk_140_method_1_code 11 = .ok (.putfield 13, 3) := by decide +kernel
theorem d22_14 : decode jdk_140_method_1_code 14 = .ok (.return_, 1) := by decide +kernel
theorem ef_rm22 (m : MethodId) (x0 : Addr) (x1 : Addr) (x2 : Addr) : entryFrame m #[(.ref x0), (.ref x1), (.ref x2)] 3 = mkF m 0 #[.val (.ref x0), .val (.ref x1), .val (.ref x2)] [] := by first | (simp [entryFrame, mkF, argsToLocals, Value.category]; done) | rfl
def Q22 (Z : State) (a : Addr) (x : Addr) (y : Addr) (h0 : Heap) (n0 : Nat) (v : Option Value) (h : Heap) (L : List Loc) : Prop := v = none ∧ Fr n0 L ∧ Keep h0 h [a] ∧ Exa Z h a "java/util/AbstractMap$SimpleImmutableEntry" ∧ Fld Z h a "java/util/AbstractMap$SimpleImmutableEntry" "key" "Ljava/lang/Object;" (.ref x) ∧ Fld Z h a "java/util/AbstractMap$SimpleImmutableEntry" "value" "Ljava/lang/Object;" (.ref y)
set_option maxRecDepth 65536 in
set_option maxHeartbeats 40000000 in
theorem rm22 (l : Launch) (Z : State) (a0 : Array Value) (hw : ∀ d ∈ tables_1, d.before a0 Z = true) (ws : List Jvm.Cond) (a : Addr) (x : Addr) (y : Addr) (h0 : Heap) (n0 : Nat) (Z0 : n0 ≤ h0.size) (E : Exa Z h0 a "java/util/AbstractMap$SimpleImmutableEntry") (F : Fld Z h0 a "java/util/AbstractMap$SimpleImmutableEntry" "key" "Ljava/lang/Object;" .null) (G : Fld Z h0 a "java/util/AbstractMap$SimpleImmutableEntry" "value" "Ljava/lang/Object;" .null) (ga : n0 ≤ a) :
    MetFree l (⟨"java/util/AbstractMap$SimpleImmutableEntry", "<init>", "(Ljava/lang/Object;Ljava/lang/Object;)V"⟩ : MethodName) (head1 (Jvm.Cond.code (⟨"java/util/AbstractMap$SimpleImmutableEntry", "<init>", "(Ljava/lang/Object;Ljava/lang/Object;)V"⟩ : MethodName) jdk_140_method_1_code 3 none :: ws) ({ frames := 1, cells := 0, slots := 0, locals := 12 } : Room)) (fun as_ U => as_ = #[(.ref a), (.ref x), (.ref y)] ∧ Z.Warmed39 U.vm ∧ U.heap = h0) (fun _ _ _ _ _ => True) (fun _ U out_ U' => ∃ v L, out_ = .returned v ∧ Q22 Z a x y h0 n0 v U'.heap L ∧ FrameEnd U out_ U' L ({ frames := 1, cells := 0, slots := 0, locals := 12 } : Room).cells ({ frames := 1, cells := 0, slots := 0, locals := 12 } : Room).slots) := by
  refine MetFree.of_bodySF (plainFor_of_name pn_9) hisR ?_
  intro p e s m args below meth cd s₁ Bd hml0 hP hK
  obtain ⟨rfl, hZ, hh⟩ := hP
  have hx := Bd.exec
  have hby := Bd.bytes
  have hml : cd.maxLocals = 3 := hml0
  have hlk : meth.locks = false := BodyLoose.notSynchronized Bd
  have hown : s.vm.findClass "java/util/AbstractMap$SimpleImmutableEntry" = some m.cls := findClass_of_methodNamed Bd.named
  have hnm := (name_of_methodNamed Bd.named Bd.method).1
  have hret := Bd.returns
  have X0 : Stand p l e ({ frames := 1, cells := 0, slots := 0, locals := 12 } : Room) s m #[(.ref a), (.ref x), (.ref y)] below meth cd s₁ [] 0 0 := Stand.of_body Bd
  have e0 : s₁.heap = h0 := by rw [← hh, Bd.state]; rfl
  have N0 := Fr.nil n0
  show own_Fin p e below (own_Ans s (Q22 Z a x y h0 n0) ({ frames := 1, cells := 0, slots := 0, locals := 12 } : Room).cells ({ frames := 1, cells := 0, slots := 0, locals := 12 } : Room).slots) (s₁.setTop (entryFrame m #[(.ref a), (.ref x), (.ref y)] 3))
  refine own_cast (ef_rm22 m a x y) ?_
  show own_Fin p e below _ (s₁.setTop (mkF m 0 #[.val (.ref a), .val (.ref x), .val (.ref y)] []))
  refine own_on (fun tq => XS.aloadN X0.here hx rfl (hb hby d22_0) rfl rfl) ?_
  show own_Fin p e below _ (s₁.setTop (mkF m 1 #[.val (.ref a), .val (.ref x), .val (.ref y)] [(.ref a)]))
  obtain ⟨T198, X198, e198, st198⟩ := initO X0 hx hZ hown (hw _ (List.mem_of_getElem? (i := 162) rfl)) (hw _ (List.mem_of_getElem? (i := 20) rfl)) (hw _ (List.mem_of_getElem? (i := 21) rfl)) e0 (g := (mkF m 1 #[.val (.ref a), .val (.ref x), .val (.ref y)] [(.ref a)])) rfl (by rw [hml]; rfl) rfl (hb hby d22_1) (by decide) (W := 0) (by show 2 * 0 + _ ≤ _; exact Nat.le_of_eq rfl) (by decide)
  refine own_on st198 ?_
  show own_Fin p e below _ (T198.setTop (mkF m 4 #[.val (.ref a), .val (.ref x), .val (.ref y)] []))
  refine own_on (fun tq => XS.aloadN X198.here hx rfl (hb hby d22_4) rfl rfl) ?_
  show own_Fin p e below _ (T198.setTop (mkF m 5 #[.val (.ref a), .val (.ref x), .val (.ref y)] [(.ref a)]))
  refine own_on (fun tq => XS.aloadN X198.here hx rfl (hb hby d22_5) rfl rfl) ?_
  show own_Fin p e below _ (T198.setTop (mkF m 6 #[.val (.ref a), .val (.ref x), .val (.ref y)] [(.ref x), (.ref a)]))
  obtain ⟨T199, h199, X199, e199, W199, st199⟩ := putF X198 hx hZ hown (host := "") (Or.inl (hw _ (List.mem_of_getElem? (i := 163) rfl))) Via.refl e198 F E (Or.inr ⟨(hw _ (List.mem_of_getElem? (i := 164) rfl)), rfl, hnm⟩) (hw _ (List.mem_of_getElem? (i := 157) rfl)) (ty := (.object "java/lang/Object")) (by decide) rfl rfl (g := (mkF m 6 #[.val (.ref a), .val (.ref x), .val (.ref y)] [(.ref x), (.ref a)])) rfl rfl (hb hby d22_6)
  have N199 := Fr.snoc X199 N0 ga
  have y200 := ((Keep.refl h0 [a]).wr W199 (Or.inl (List.mem_of_getElem? (i := 0) rfl)))
  have y201 := (Nat.le_trans Z0 (Keep.of_wr W199).1)
  have y202 := (E.wr W199)
  have y203 := (F.same W199)
  have y204 := (G.other W199 (Or.inr (slot_ne (Or.inr (hw _ (List.mem_of_getElem? (i := 166) rfl))) (Or.inr (hw _ (List.mem_of_getElem? (i := 164) rfl))) (by decide) (t := (.object "java/lang/Object")) (t' := (.object "java/lang/Object")) (by decide) (by decide))))
  refine own_on st199 ?_
  show own_Fin p e below _ (T199.setTop (mkF m 9 #[.val (.ref a), .val (.ref x), .val (.ref y)] []))
  refine own_on (fun tq => XS.aloadN X199.here hx rfl (hb hby d22_9) rfl rfl) ?_
  show own_Fin p e below _ (T199.setTop (mkF m 10 #[.val (.ref a), .val (.ref x), .val (.ref y)] [(.ref a)]))
  refine own_on (fun tq => XS.aloadN X199.here hx rfl (hb hby d22_10) rfl rfl) ?_
  show own_Fin p e below _ (T199.setTop (mkF m 11 #[.val (.ref a), .val (.ref x), .val (.ref y)] [(.ref y), (.ref a)]))
  obtain ⟨T205, h205, X205, e205, W205, st205⟩ := putF X199 hx hZ hown (host := "") (Or.inl (hw _ (List.mem_of_getElem? (i := 165) rfl))) Via.refl e199 y204 y202 (Or.inr ⟨(hw _ (List.mem_of_getElem? (i := 166) rfl)), rfl, hnm⟩) (hw _ (List.mem_of_getElem? (i := 157) rfl)) (ty := (.object "java/lang/Object")) (by decide) rfl rfl (g := (mkF m 11 #[.val (.ref a), .val (.ref x), .val (.ref y)] [(.ref y), (.ref a)])) rfl rfl (hb hby d22_11)
  have N205 := Fr.snoc X205 N199 ga
  have y206 := (y200.wr W205 (Or.inl (List.mem_of_getElem? (i := 0) rfl)))
  have y207 := (Nat.le_trans y201 (Keep.of_wr W205).1)
  have y208 := (y202.wr W205)
  have y209 := (y203.other W205 (Or.inr (slot_ne (Or.inr (hw _ (List.mem_of_getElem? (i := 164) rfl))) (Or.inr (hw _ (List.mem_of_getElem? (i := 166) rfl))) (by decide) (t := (.object "java/lang/Object")) (t' := (.object "java/lang/Object")) (by decide) (by decide))))
  have y210 := (y204.same W205)
  refine own_on st205 ?_
  show own_Fin p e below _ (T205.setTop (mkF m 14 #[.val (.ref a), .val (.ref x), .val (.ref y)] []))
  exact own_retV X205 hx hlk hret (hb hby d22_14) (by show Q22 Z a x y h0 n0 _ T205.heap _; rw [e205]; exact ⟨rfl, N205, y206, y208, y209, y210⟩) (by decide) (by decide)
theorem d21_0 : decode prog_40_method_3_code 0 = .ok (.aload_n 0, 1) := by decide +kernel
theorem d21_1 : decode prog_40_method_3_code 1 = .ok (.invokevirtual 23, 3) := by decide +kernel
theorem pd_9 : parseMethodDescriptor "()Z" = some ⟨[], some .boolean⟩ := by decide +kernel
theorem d21_4 : decode prog_40_method_3_code 4 = .ok (.ifCond .ne 11, 3) := by decide +kernel
theorem d21_15 : decode prog_40_method_3_code 15 = .ok (.new 30, 3) := by decide +kernel
theorem d21_18 : decode prog_40_method_3_code 18 = .ok (.dup, 1) := by decide +kernel
theorem d21_19 : decode prog_40_method_3_code 19 = .ok (.aload_n 0, 1) := by decide +kernel
theorem d21_20 : decode prog_40_method_3_code 20 = .ok (.getfield 1, 3) := by decide +kernel
theorem d21_23 : decode prog_40_method_3_code 23 = .ok (.getfield 17, 3) := by decide +kernel
theorem d21_26 : decode prog_40_method_3_code 26 = .ok (.aload_n 0, 1) := by decide +kernel
theorem d21_27 : decode prog_40_method_3_code 27 = .ok (.getfield 13, 3) := by decide +kernel
theorem d21_30 : decode prog_40_method_3_code 30 = .ok (.aaload, 1) := by decide +kernel
theorem d21_31 : decode prog_40_method_3_code 31 = .ok (.aload_n 0, 1) := by decide +kernel
theorem d21_32 : decode prog_40_method_3_code 32 = .ok (.getfield 1, 3) := by decide +kernel
theorem d21_35 : decode prog_40_method_3_code 35 = .ok (.getfield 17, 3) := by decide +kernel
theorem d21_38 : decode prog_40_method_3_code 38 = .ok (.aload_n 0, 1) := by decide +kernel
theorem d21_39 : decode prog_40_method_3_code 39 = .ok (.getfield 13, 3) := by decide +kernel
theorem d21_42 : decode prog_40_method_3_code 42 = .ok (.iconst 1, 1) := by decide +kernel
theorem d21_43 : decode prog_40_method_3_code 43 = .ok (.iadd, 1) := by decide +kernel
theorem d21_44 : decode prog_40_method_3_code 44 = .ok (.aaload, 1) := by decide +kernel
theorem d21_45 : decode prog_40_method_3_code 45 = .ok (.invokespecial 32, 3) := by decide +kernel
theorem pd_10 : parseMethodDescriptor "(Ljava/lang/Object;Ljava/lang/Object;)V" = some ⟨[(.object "java/lang/Object"), (.object "java/lang/Object")], none⟩ := by decide +kernel
theorem d21_48 : decode prog_40_method_3_code 48 = .ok (.astore_n 1, 1) := by decide +kernel
theorem d21_49 : decode prog_40_method_3_code 49 = .ok (.aload_n 0, 1) := by decide +kernel
theorem d21_50 : decode prog_40_method_3_code 50 = .ok (.dup, 1) := by decide +kernel
theorem d21_51 : decode prog_40_method_3_code 51 = .ok (.getfield 13, 3) := by decide +kernel
theorem d21_54 : decode prog_40_method_3_code 54 = .ok (.iconst 2, 1) := by decide +kernel
theorem d21_55 : decode prog_40_method_3_code 55 = .ok (.iadd, 1) := by decide +kernel
theorem d21_56 : decode prog_40_method_3_code 56 = .ok (.putfield 13, 3) := by decide +kernel
theorem d21_59 : decode prog_40_method_3_code 59 = .ok (.aload_n 1, 1) := by decide +kernel
theorem d21_60 : decode prog_40_method_3_code 60 = .ok (.areturn, 1) := by decide +kernel
theorem ef_rmNE (m : MethodId) (x0 : Addr) : entryFrame m #[(.ref x0)] 2 = mkF m 0 #[.val (.ref x0), .unset] [] := by first | (simp [entryFrame, mkF, argsToLocals, Value.category]; done) | rfl
def QNE (Z : State) (t : Addr) (mp : Addr) (a : Addr) (ka : ClassId) (j : Int32) (y : Int32) (vs : List Value) (kx : Addr) (vx : Addr) (h0 : Heap) (n0 : Nat) (v : Option Value) (h : Heap) (L : List Loc) : Prop := ∃ b : Addr, v = some (.ref b) ∧ Fr n0 L ∧ Keep h0 h [t] ∧ Exa Z h b "java/util/AbstractMap$SimpleImmutableEntry" ∧ Fld Z h b "java/util/AbstractMap$SimpleImmutableEntry" "key" "Ljava/lang/Object;" (.ref kx) ∧ Fld Z h b "java/util/AbstractMap$SimpleImmutableEntry" "value" "Ljava/lang/Object;" (.ref vx) ∧ Fld Z h t "com/example/settlewatt/settlewatt/model/TraceRecord$Inputs$Entries" "this$0" "Lcom/example/settlewatt/settlewatt/model/TraceRecord$Inputs;" (.ref mp) ∧ Fld Z h t "com/example/settlewatt/settlewatt/model/TraceRecord$Inputs$Entries" "next" "I" (.int (j + (2 : Int32)))
set_option maxRecDepth 65536 in
set_option maxHeartbeats 40000000 in
theorem rmNE (l : Launch) (Z : State) (a0 : Array Value) (hw : ∀ d ∈ tables_1, d.before a0 Z = true) (ws : List Jvm.Cond) (t : Addr) (mp : Addr) (a : Addr) (ka : ClassId) (j : Int32) (y : Int32) (vs : List Value) (kx : Addr) (vx : Addr) (h0 : Heap) (n0 : Nat) (Z0 : n0 ≤ h0.size) (E : Exa Z h0 t "com/example/settlewatt/settlewatt/model/TraceRecord$Inputs$Entries") (F1 : Fld Z h0 t "com/example/settlewatt/settlewatt/model/TraceRecord$Inputs$Entries" "this$0" "Lcom/example/settlewatt/settlewatt/model/TraceRecord$Inputs;" (.ref mp)) (G : Fld Z h0 t "com/example/settlewatt/settlewatt/model/TraceRecord$Inputs$Entries" "next" "I" (.int j)) (gt : n0 ≤ t) (F2 : Fld Z h0 mp "com/example/settlewatt/settlewatt/model/TraceRecord$Inputs" "namesAndValues" "[Ljava/lang/String;" (.ref a)) (Aa : Arv Z h0 a ka (.object "java/lang/String") y vs .null) (nmt : mp ≠ t) (nat : a ≠ t) (hj : ¬ j < 0 ∧ j < y) (hk : vs.getD j.toNatClampNeg .null = .ref kx) (hj1 : ¬ (j + (1 : Int32)) < 0 ∧ (j + (1 : Int32)) < y) (hv : vs.getD (j + (1 : Int32)).toNatClampNeg .null = .ref vx) :
    MetFree l (⟨"com/example/settlewatt/settlewatt/model/TraceRecord$Inputs$Entries", "next", "()Ljava/util/Map$Entry;"⟩ : MethodName) (head1 (Jvm.Cond.code (⟨"com/example/settlewatt/settlewatt/model/TraceRecord$Inputs$Entries", "next", "()Ljava/util/Map$Entry;"⟩ : MethodName) prog_40_method_3_code 2 (some (.object "java/util/Map$Entry")) :: ws) ({ frames := 2, cells := 1, slots := 2, locals := 27 } : Room)) (fun as_ U => as_ = #[(.ref t)] ∧ Z.Warmed39 U.vm ∧ U.heap = h0) (fun _ _ _ _ _ => True) (fun _ U out_ U' => ∃ v L, out_ = .returned v ∧ QNE Z t mp a ka j y vs kx vx h0 n0 v U'.heap L ∧ FrameEnd U out_ U' L ({ frames := 2, cells := 1, slots := 2, locals := 27 } : Room).cells ({ frames := 2, cells := 1, slots := 2, locals := 27 } : Room).slots) := by
  refine MetFree.of_bodySF (plainFor_of_name pn_8) hisR ?_
  intro p e s m args below meth cd s₁ Bd hml0 hP hK
  obtain ⟨rfl, hZ, hh⟩ := hP
  have hx := Bd.exec
  have hby := Bd.bytes
  have hml : cd.maxLocals = 2 := hml0
  have hlk : meth.locks = false := BodyLoose.notSynchronized Bd
  have hown : s.vm.findClass "com/example/settlewatt/settlewatt/model/TraceRecord$Inputs$Entries" = some m.cls := findClass_of_methodNamed Bd.named
  have hnm := (name_of_methodNamed Bd.named Bd.method).1
  have hret := Bd.returns
  have X0 : Stand p l e ({ frames := 2, cells := 1, slots := 2, locals := 27 } : Room) s m #[(.ref t)] below meth cd s₁ [] 0 0 := Stand.of_body Bd
  have e0 : s₁.heap = h0 := by rw [← hh, Bd.state]; rfl
  have N0 := Fr.nil n0
  show own_Fin p e below (own_Ans s (QNE Z t mp a ka j y vs kx vx h0 n0) ({ frames := 2, cells := 1, slots := 2, locals := 27 } : Room).cells ({ frames := 2, cells := 1, slots := 2, locals := 27 } : Room).slots) (s₁.setTop (entryFrame m #[(.ref t)] 2))
  refine own_cast (ef_rmNE m t) ?_
  show own_Fin p e below _ (s₁.setTop (mkF m 0 #[.val (.ref t), .unset] []))
  refine own_on (fun tq => XS.aloadN X0.here hx rfl (hb hby d21_0) rfl rfl) ?_
  show own_Fin p e below _ (s₁.setTop (mkF m 1 #[.val (.ref t), .unset] [(.ref t)]))
  obtain ⟨cq211, kq211, q211a, q211b, q211c⟩ := isOf hZ e0 E
  obtain ⟨_, _, ⟨T211, L211, k211, n211⟩, -, X211, ⟨Lc211, hQ211, l211, y211, z211⟩, st211⟩ := X0.virtualBack hx (y := (⟨"com/example/settlewatt/settlewatt/model/TraceRecord$Inputs$Entries", "hasNext", "()Z"⟩ : MethodName)) (z := (⟨"com/example/settlewatt/settlewatt/model/TraceRecord$Inputs$Entries", "hasNext", "()Z"⟩ : MethodName)) hown (mvT hZ (hw _ (List.mem_of_getElem? (i := 153) rfl))) (mvT hZ (hw _ (List.mem_of_getElem? (i := 154) rfl))) (notFace_of_selects (args := #[]) (mvT hZ (hw _ (List.mem_of_getElem? (i := 155) rfl)))) (mvT hZ (hw _ (List.mem_of_getElem? (i := 155) rfl))) (mvT hZ (hw _ (List.mem_of_getElem? (i := 132) rfl))) (by decide) (backOf (W := 0) (rm19 l Z a0 hw [] t mp a ka j y _ (1 : Int32) h0 n0 (by exact Z0) F1 G F2 Aa (by rw [if_pos hj.2])) hZ (hw _ (List.mem_of_getElem? (i := 136) rfl)) (hw _ (List.mem_of_getElem? (i := 121) rfl)) (by decide) (by decide)) q211a q211c (g := (mkF m 1 #[.val (.ref t), .unset] [(.ref t)])) rfl (by rw [hml]; rfl) (Steps.refl _) (argsL := []) (rest := []) (lenOf pd_9 rfl) rfl (by show 2 * 0 + _ ≤ _; exact Nat.le_of_eq rfl) (hb hby d21_1) (fun _ _ => ⟨rfl, e0, (by decide : 0 + 0 ≤ _), (by decide : 0 + 0 ≤ _)⟩)
  dsimp only [Pt.U, Pt.locs, Pt.cells, Pt.slots] at X211 l211 y211 z211 st211 hQ211
  subst l211 y211 z211
  obtain ⟨rfl, N211q, e211⟩ := hQ211
  have N211 := Fr.app N0 N211q
  refine own_via st211 ?_
  show own_Fin p e below _ (T211.setTop (mkF m 4 #[.val (.ref t), .unset] [(.int (1 : Int32))]))
  refine own_on (fun tq => XS.ifYes X211.here hx rfl (pc0 := 4) (pc' := 15) rfl (hb hby d21_4) rfl ((if0 _ _).trans (feq (by decide : ¬ ((1 : Int32) = (0 : Int32)))).2) (by decide) (by decide)) ?_
  show own_Fin p e below _ (T211.setTop (mkF m 15 #[.val (.ref t), .unset] []))
  obtain ⟨T212, h212, X212, e212, E212, A212, D212, -, st212⟩ := newO X211 hx hZ hown (hw _ (List.mem_of_getElem? (i := 156) rfl)) (hw _ (List.mem_of_getElem? (i := 157) rfl)) (hw _ (List.mem_of_getElem? (i := 158) rfl)) e211 (g := (mkF m 15 #[.val (.ref t), .unset] [])) rfl (hb hby d21_15) (by decide) (by decide)
  obtain ⟨b212, g212⟩ : ∃ z, z = h0.size := ⟨_, rfl⟩
  rw [← g212] at A212 D212 st212
  have ne212_t : t ≠ b212 := own_ne_of (Z := Z) F1.lt g212
  have ne212_mp : mp ≠ b212 := own_ne_of (Z := Z) F2.lt g212
  have ne212_a : a ≠ b212 := own_ne_of (Z := Z) Aa.lt g212
  have y213 := (Nat.le_trans Z0 E212.1)
  have y214 := (F1.ext E212)
  have y215 := (G.ext E212)
  have y216 := (F2.ext E212)
  have y217 := (Aa.ext E212)
  have y218 := ((Keep.refl h0 [t]).ext E212)
  have y219 := (E.ext E212)
  have gn212 : n0 ≤ b212 := Nat.le_trans Z0 (Nat.le_of_eq g212.symm)
  have gk212 : h0.size ≤ b212 := Nat.le_trans (Keep.refl h0 [t]).1 (Nat.le_of_eq g212.symm)
  have F212_key : Fld Z h212 b212 "java/util/AbstractMap$SimpleImmutableEntry" "key" "Ljava/lang/Object;" .null := D212 (Or.inr (hw _ (List.mem_of_getElem? (i := 164) rfl))) (ty := (.object "java/lang/Object")) (by decide)
  have F212_value : Fld Z h212 b212 "java/util/AbstractMap$SimpleImmutableEntry" "value" "Ljava/lang/Object;" .null := D212 (Or.inr (hw _ (List.mem_of_getElem? (i := 166) rfl))) (ty := (.object "java/lang/Object")) (by decide)
  refine own_on st212 ?_
  show own_Fin p e below _ (T212.setTop (mkF m 18 #[.val (.ref t), .unset] [(.ref b212)]))
  refine own_on (fun tq => XS.dup X212.here hx rfl (hb hby d21_18) rfl rfl) ?_
  show own_Fin p e below _ (T212.setTop (mkF m 19 #[.val (.ref t), .unset] [(.ref b212), (.ref b212)]))
  refine own_on (fun tq => XS.aloadN X212.here hx rfl (hb hby d21_19) rfl rfl) ?_
  show own_Fin p e below _ (T212.setTop (mkF m 20 #[.val (.ref t), .unset] [(.ref t), (.ref b212), (.ref b212)]))
  obtain ⟨T220, X220, e220, st220⟩ := getF X212 hx hZ hown (host := "") (Or.inl (hw _ (List.mem_of_getElem? (i := 125) rfl))) Via.refl e212 y214 (g := (mkF m 20 #[.val (.ref t), .unset] [(.ref t), (.ref b212), (.ref b212)])) rfl rfl (hb hby d21_20)
  refine own_on st220 ?_
  show own_Fin p e below _ (T220.setTop (mkF m 23 #[.val (.ref t), .unset] [(.ref mp), (.ref b212), (.ref b212)]))
  obtain ⟨T221, X221, e221, st221⟩ := getF X220 hx hZ hown (Or.inr (hw _ (List.mem_of_getElem? (i := 139) rfl))) Via.refl e220 y216 (g := (mkF m 23 #[.val (.ref t), .unset] [(.ref mp), (.ref b212), (.ref b212)])) rfl rfl (hb hby d21_23)
  refine own_on st221 ?_
  show own_Fin p e below _ (T221.setTop (mkF m 26 #[.val (.ref t), .unset] [(.ref a), (.ref b212), (.ref b212)]))
  refine own_on (fun tq => XS.aloadN X221.here hx rfl (hb hby d21_26) rfl rfl) ?_
  show own_Fin p e below _ (T221.setTop (mkF m 27 #[.val (.ref t), .unset] [(.ref t), (.ref a), (.ref b212), (.ref b212)]))
  obtain ⟨T222, X222, e222, st222⟩ := getF X221 hx hZ hown (host := "") (Or.inl (hw _ (List.mem_of_getElem? (i := 137) rfl))) Via.refl e221 y215 (g := (mkF m 27 #[.val (.ref t), .unset] [(.ref t), (.ref a), (.ref b212), (.ref b212)])) rfl rfl (hb hby d21_27)
  refine own_on st222 ?_
  show own_Fin p e below _ (T222.setTop (mkF m 30 #[.val (.ref t), .unset] [(.int j), (.ref a), (.ref b212), (.ref b212)]))
  have cp223 := y217
  obtain ⟨cl223, Ar223, q223, S223, G223, H223, F223⟩ := cp223
  have hin223 : ¬ (j < 0 ∨ cl223.slots.size ≤ (j).toNatClampNeg) := inb_of S223 hj
  have hat223 : cl223.slots[(j).toNatClampNeg]? = some (.ref kx) := H223.at hin223 hk
  refine own_on (fun tq => X222.aaload hx (j := j) (v := (.ref kx)) (by rw [e222]; exact Ar223.1) (State.isArrayOf_alike hZ.alike Ar223.2.1) rfl Ar223.2.2 hin223 hat223 (g := (mkF m 30 #[.val (.ref t), .unset] [(.int j), (.ref a), (.ref b212), (.ref b212)])) rfl rfl (hb hby d21_30) tq) ?_
  show own_Fin p e below _ (T222.setTop (mkF m 31 #[.val (.ref t), .unset] [(.ref kx), (.ref b212), (.ref b212)]))
  refine own_on (fun tq => XS.aloadN X222.here hx rfl (hb hby d21_31) rfl rfl) ?_
  show own_Fin p e below _ (T222.setTop (mkF m 32 #[.val (.ref t), .unset] [(.ref t), (.ref kx), (.ref b212), (.ref b212)]))
  obtain ⟨T224, X224, e224, st224⟩ := getF X222 hx hZ hown (host := "") (Or.inl (hw _ (List.mem_of_getElem? (i := 125) rfl))) Via.refl e222 y214 (g := (mkF m 32 #[.val (.ref t), .unset] [(.ref t), (.ref kx), (.ref b212), (.ref b212)])) rfl rfl (hb hby d21_32)
  refine own_on st224 ?_
  show own_Fin p e below _ (T224.setTop (mkF m 35 #[.val (.ref t), .unset] [(.ref mp), (.ref kx), (.ref b212), (.ref b212)]))
  obtain ⟨T225, X225, e225, st225⟩ := getF X224 hx hZ hown (Or.inr (hw _ (List.mem_of_getElem? (i := 139) rfl))) Via.refl e224 y216 (g := (mkF m 35 #[.val (.ref t), .unset] [(.ref mp), (.ref kx), (.ref b212), (.ref b212)])) rfl rfl (hb hby d21_35)
  refine own_on st225 ?_
  show own_Fin p e below _ (T225.setTop (mkF m 38 #[.val (.ref t), .unset] [(.ref a), (.ref kx), (.ref b212), (.ref b212)]))
  refine own_on (fun tq => XS.aloadN X225.here hx rfl (hb hby d21_38) rfl rfl) ?_
  show own_Fin p e below _ (T225.setTop (mkF m 39 #[.val (.ref t), .unset] [(.ref t), (.ref a), (.ref kx), (.ref b212), (.ref b212)]))
  obtain ⟨T226, X226, e226, st226⟩ := getF X225 hx hZ hown (host := "") (Or.inl (hw _ (List.mem_of_getElem? (i := 137) rfl))) Via.refl e225 y215 (g := (mkF m 39 #[.val (.ref t), .unset] [(.ref t), (.ref a), (.ref kx), (.ref b212), (.ref b212)])) rfl rfl (hb hby d21_39)
  refine own_on st226 ?_
  show own_Fin p e below _ (T226.setTop (mkF m 42 #[.val (.ref t), .unset] [(.int j), (.ref a), (.ref kx), (.ref b212), (.ref b212)]))
  refine own_on (fun tq => XS.iconst X226.here hx rfl (hb hby d21_42)) ?_
  show own_Fin p e below _ (T226.setTop (mkF m 43 #[.val (.ref t), .unset] [(.int (1 : Int32)), (.int j), (.ref a), (.ref kx), (.ref b212), (.ref b212)]))
  refine own_on (fun tq => XS.iadd X226.here hx rfl (hb hby d21_43) rfl) ?_
  show own_Fin p e below _ (T226.setTop (mkF m 44 #[.val (.ref t), .unset] [(.int (j + (1 : Int32))), (.ref a), (.ref kx), (.ref b212), (.ref b212)]))
  have cp227 := y217
  obtain ⟨cl227, Ar227, q227, S227, G227, H227, F227⟩ := cp227
  have hin227 : ¬ ((j + (1 : Int32)) < 0 ∨ cl227.slots.size ≤ ((j + (1 : Int32))).toNatClampNeg) := inb_of S227 hj1
  have hat227 : cl227.slots[((j + (1 : Int32))).toNatClampNeg]? = some (.ref vx) := H227.at hin227 hv
  refine own_on (fun tq => X226.aaload hx (j := (j + (1 : Int32))) (v := (.ref vx)) (by rw [e226]; exact Ar227.1) (State.isArrayOf_alike hZ.alike Ar227.2.1) rfl Ar227.2.2 hin227 hat227 (g := (mkF m 44 #[.val (.ref t), .unset] [(.int (j + (1 : Int32))), (.ref a), (.ref kx), (.ref b212), (.ref b212)])) rfl rfl (hb hby d21_44) tq) ?_
  show own_Fin p e below _ (T226.setTop (mkF m 45 #[.val (.ref t), .unset] [(.ref vx), (.ref kx), (.ref b212), (.ref b212)]))
  obtain ⟨_, _, ⟨T228, L228, k228, n228⟩, -, X228, ⟨Lc228, hQ228, l228, y228, z228⟩, st228⟩ := X226.specialBack hx (y := (⟨"java/util/AbstractMap$SimpleImmutableEntry", "<init>", "(Ljava/lang/Object;Ljava/lang/Object;)V"⟩ : MethodName)) rfl hown (mvT hZ (hw _ (List.mem_of_getElem? (i := 159) rfl))) (mvT hZ (hw _ (List.mem_of_getElem? (i := 160) rfl))) (mvT hZ (hw _ (List.mem_of_getElem? (i := 161) rfl))) (by decide) (backOf (W := 1) (rm22 l Z a0 hw [] b212 kx vx h212 n0 (by exact y213) A212 F212_key F212_value gn212) hZ (hw _ (List.mem_of_getElem? (i := 161) rfl)) (hw _ (List.mem_of_getElem? (i := 158) rfl)) (by decide) (by decide)) (g := (mkF m 45 #[.val (.ref t), .unset] [(.ref vx), (.ref kx), (.ref b212), (.ref b212)])) rfl (by rw [hml]; rfl) (Steps.refl _) (a := b212) (argsL := [(.ref kx), (.ref vx)]) (rest := [(.ref b212)]) (lenOf pd_10 rfl) rfl (by show 2 * 0 + _ ≤ _; exact Nat.le_of_eq rfl) (hb hby d21_45) (fun _ _ => ⟨rfl, e226, (by decide : 1 + 0 ≤ _), (by decide : 2 + 0 ≤ _)⟩)
  dsimp only [Pt.U, Pt.locs, Pt.cells, Pt.slots] at X228 l228 y228 z228 st228 hQ228
  subst l228 y228 z228
  obtain ⟨rfl, N228q, K228, Eq228, F228_0, F228_1⟩ := hQ228
  have N228 := Fr.app N211 N228q
  have y229 := (Nat.le_trans y213 K228.1)
  have y230 := (y214.keep K228 (ninS ne212_t nin0))
  have y231 := (y215.keep K228 (ninS ne212_t nin0))
  have y232 := (y216.keep K228 (ninS ne212_mp nin0))
  have y233 := (y217.keep K228 (ninS ne212_a nin0))
  have y234 := (y218.trans K228 (allS (Or.inr gk212) all0))
  have y235 := (y219.keep K228)
  have y236 := (A212.keep K228)
  refine own_via st228 ?_
  show own_Fin p e below _ (T228.setTop (mkF m 48 #[.val (.ref t), .unset] [(.ref b212)]))
  refine own_on (fun tq => XS.astoreN X228.here hx rfl (hb hby d21_48) rfl rfl (l' := #[.val (.ref t), .val (.ref b212)]) rfl) ?_
  show own_Fin p e below _ (T228.setTop (mkF m 49 #[.val (.ref t), .val (.ref b212)] []))
  refine own_on (fun tq => XS.aloadN X228.here hx rfl (hb hby d21_49) rfl rfl) ?_
  show own_Fin p e below _ (T228.setTop (mkF m 50 #[.val (.ref t), .val (.ref b212)] [(.ref t)]))
  refine own_on (fun tq => XS.dup X228.here hx rfl (hb hby d21_50) rfl rfl) ?_
  show own_Fin p e below _ (T228.setTop (mkF m 51 #[.val (.ref t), .val (.ref b212)] [(.ref t), (.ref t)]))
  obtain ⟨T237, X237, e237, st237⟩ := getF X228 hx hZ hown (host := "") (Or.inl (hw _ (List.mem_of_getElem? (i := 137) rfl))) Via.refl rfl y231 (g := (mkF m 51 #[.val (.ref t), .val (.ref b212)] [(.ref t), (.ref t)])) rfl rfl (hb hby d21_51)
  refine own_on st237 ?_
  show own_Fin p e below _ (T237.setTop (mkF m 54 #[.val (.ref t), .val (.ref b212)] [(.int j), (.ref t)]))
  refine own_on (fun tq => XS.iconst X237.here hx rfl (hb hby d21_54)) ?_
  show own_Fin p e below _ (T237.setTop (mkF m 55 #[.val (.ref t), .val (.ref b212)] [(.int (2 : Int32)), (.int j), (.ref t)]))
  refine own_on (fun tq => XS.iadd X237.here hx rfl (hb hby d21_55) rfl) ?_
  show own_Fin p e below _ (T237.setTop (mkF m 56 #[.val (.ref t), .val (.ref b212)] [(.int (j + (2 : Int32))), (.ref t)]))
  obtain ⟨T238, h238, X238, e238, W238, st238⟩ := putF X237 hx hZ hown (host := "") (Or.inl (hw _ (List.mem_of_getElem? (i := 137) rfl))) Via.refl e237 y231 y235 (Or.inl (hw _ (List.mem_of_getElem? (i := 138) rfl))) (hw _ (List.mem_of_getElem? (i := 120) rfl)) (ty := .int) (by decide) rfl rfl (g := (mkF m 56 #[.val (.ref t), .val (.ref b212)] [(.int (j + (2 : Int32))), (.ref t)])) rfl rfl (hb hby d21_56)
  have N238 := Fr.snoc X238 N228 gt
  have y239 := (Nat.le_trans y229 (Keep.of_wr W238).1)
  have y240 := (y230.other W238 (Or.inr (slot_ne (Or.inr (hw _ (List.mem_of_getElem? (i := 126) rfl))) (Or.inl (hw _ (List.mem_of_getElem? (i := 138) rfl))) (by decide) (t := (.object "com/example/settlewatt/settlewatt/model/TraceRecord$Inputs")) (t' := .int) (by decide) (by decide))))
  have y241 := (y231.same W238)
  have y242 := (y232.other W238 (Or.inl nmt))
  have y243 := (y233.other W238 nat)
  have y244 := (y234.wr W238 (Or.inl (List.mem_of_getElem? (i := 0) rfl)))
  have y245 := (y235.wr W238)
  have y246 := (y236.wr W238)
  have y247 := (F228_0.other W238 (Or.inl (Ne.symm ne212_t)))
  have y248 := (F228_1.other W238 (Or.inl (Ne.symm ne212_t)))
  refine own_on st238 ?_
  show own_Fin p e below _ (T238.setTop (mkF m 59 #[.val (.ref t), .val (.ref b212)] []))
  refine own_on (fun tq => XS.aloadN X238.here hx rfl (hb hby d21_59) rfl rfl) ?_
  show own_Fin p e below _ (T238.setTop (mkF m 60 #[.val (.ref t), .val (.ref b212)] [(.ref b212)]))
  exact own_ret (t := (.object "java/util/Map$Entry")) X238 hx hlk hret rfl (Or.inr (Or.inr (Or.inr (Or.inr ⟨rfl, rfl, rfl⟩)))) (hb hby d21_60) (by show QNE Z t mp a ka j y vs kx vx h0 n0 _ T238.heap _; rw [e238]; exact ⟨b212, rfl, N238, y244, y246, y247, y248, y240, y241⟩) (by decide) (by decide)
theorem d20_0 : decode prog_40_method_4_code 0 = .ok (.aload_n 0, 1) := by decide +kernel
theorem d20_1 : decode prog_40_method_4_code 1 = .ok (.invokevirtual 35, 3) := by decide +kernel
theorem pd_11 : parseMethodDescriptor "()Ljava/util/Map$Entry;" = some ⟨[], some (.object "java/util/Map$Entry")⟩ := by decide +kernel
theorem d20_4 : decode prog_40_method_4_code 4 = .ok (.areturn, 1) := by decide +kernel
theorem ef_rmNO (m : MethodId) (x0 : Addr) : entryFrame m #[(.ref x0)] 1 = mkF m 0 #[.val (.ref x0)] [] := by first | (simp [entryFrame, mkF, argsToLocals, Value.category]; done) | rfl
def QNO (Z : State) (t : Addr) (mp : Addr) (a : Addr) (ka : ClassId) (j : Int32) (y : Int32) (vs : List Value) (kx : Addr) (vx : Addr) (h0 : Heap) (n0 : Nat) (v : Option Value) (h : Heap) (L : List Loc) : Prop := ∃ b : Addr, v = some (.ref b) ∧ Fr n0 L ∧ Keep h0 h [t] ∧ Exa Z h b "java/util/AbstractMap$SimpleImmutableEntry" ∧ Fld Z h b "java/util/AbstractMap$SimpleImmutableEntry" "key" "Ljava/lang/Object;" (.ref kx) ∧ Fld Z h b "java/util/AbstractMap$SimpleImmutableEntry" "value" "Ljava/lang/Object;" (.ref vx) ∧ Fld Z h t "com/example/settlewatt/settlewatt/model/TraceRecord$Inputs$Entries" "this$0" "Lcom/example/settlewatt/settlewatt/model/TraceRecord$Inputs;" (.ref mp) ∧ Fld Z h t "com/example/settlewatt/settlewatt/model/TraceRecord$Inputs$Entries" "next" "I" (.int (j + (2 : Int32)))
set_option maxRecDepth 65536 in
set_option maxHeartbeats 40000000 in
theorem rmNO (l : Launch) (Z : State) (a0 : Array Value) (hw : ∀ d ∈ tables_1, d.before a0 Z = true) (ws : List Jvm.Cond) (t : Addr) (mp : Addr) (a : Addr) (ka : ClassId) (j : Int32) (y : Int32) (vs : List Value) (kx : Addr) (vx : Addr) (h0 : Heap) (n0 : Nat) (Z0 : n0 ≤ h0.size) (E : Exa Z h0 t "com/example/settlewatt/settlewatt/model/TraceRecord$Inputs$Entries") (F1 : Fld Z h0 t "com/example/settlewatt/settlewatt/model/TraceRecord$Inputs$Entries" "this$0" "Lcom/example/settlewatt/settlewatt/model/TraceRecord$Inputs;" (.ref mp)) (G : Fld Z h0 t "com/example/settlewatt/settlewatt/model/TraceRecord$Inputs$Entries" "next" "I" (.int j)) (gt : n0 ≤ t) (F2 : Fld Z h0 mp "com/example/settlewatt/settlewatt/model/TraceRecord$Inputs" "namesAndValues" "[Ljava/lang/String;" (.ref a)) (Aa : Arv Z h0 a ka (.object "java/lang/String") y vs .null) (nmt : mp ≠ t) (nat : a ≠ t) (hj : ¬ j < 0 ∧ j < y) (hk : vs.getD j.toNatClampNeg .null = .ref kx) (hj1 : ¬ (j + (1 : Int32)) < 0 ∧ (j + (1 : Int32)) < y) (hv : vs.getD (j + (1 : Int32)).toNatClampNeg .null = .ref vx) :
    MetFree l (⟨"com/example/settlewatt/settlewatt/model/TraceRecord$Inputs$Entries", "next", "()Ljava/lang/Object;"⟩ : MethodName) (head1 (Jvm.Cond.code (⟨"com/example/settlewatt/settlewatt/model/TraceRecord$Inputs$Entries", "next", "()Ljava/lang/Object;"⟩ : MethodName) prog_40_method_4_code 1 (some (.object "java/lang/Object")) :: ws) ({ frames := 3, cells := 1, slots := 2, locals := 40 } : Room)) (fun as_ U => as_ = #[(.ref t)] ∧ Z.Warmed39 U.vm ∧ U.heap = h0) (fun _ _ _ _ _ => True) (fun _ U out_ U' => ∃ v L, out_ = .returned v ∧ QNO Z t mp a ka j y vs kx vx h0 n0 v U'.heap L ∧ FrameEnd U out_ U' L ({ frames := 3, cells := 1, slots := 2, locals := 40 } : Room).cells ({ frames := 3, cells := 1, slots := 2, locals := 40 } : Room).slots) := by
  refine MetFree.of_bodySF (plainFor_of_name pn_8) hisR ?_
  intro p e s m args below meth cd s₁ Bd hml0 hP hK
  obtain ⟨rfl, hZ, hh⟩ := hP
  have hx := Bd.exec
  have hby := Bd.bytes
  have hml : cd.maxLocals = 1 := hml0
  have hlk : meth.locks = false := BodyLoose.notSynchronized Bd
  have hown : s.vm.findClass "com/example/settlewatt/settlewatt/model/TraceRecord$Inputs$Entries" = some m.cls := findClass_of_methodNamed Bd.named
  have hnm := (name_of_methodNamed Bd.named Bd.method).1
  have hret := Bd.returns
  have X0 : Stand p l e ({ frames := 3, cells := 1, slots := 2, locals := 40 } : Room) s m #[(.ref t)] below meth cd s₁ [] 0 0 := Stand.of_body Bd
  have e0 : s₁.heap = h0 := by rw [← hh, Bd.state]; rfl
  have N0 := Fr.nil n0
  show own_Fin p e below (own_Ans s (QNO Z t mp a ka j y vs kx vx h0 n0) ({ frames := 3, cells := 1, slots := 2, locals := 40 } : Room).cells ({ frames := 3, cells := 1, slots := 2, locals := 40 } : Room).slots) (s₁.setTop (entryFrame m #[(.ref t)] 1))
  refine own_cast (ef_rmNO m t) ?_
  show own_Fin p e below _ (s₁.setTop (mkF m 0 #[.val (.ref t)] []))
  refine own_on (fun tq => XS.aloadN X0.here hx rfl (hb hby d20_0) rfl rfl) ?_
  show own_Fin p e below _ (s₁.setTop (mkF m 1 #[.val (.ref t)] [(.ref t)]))
  obtain ⟨cq249, kq249, q249a, q249b, q249c⟩ := isOf hZ e0 E
  obtain ⟨_, _, ⟨T249, L249, k249, n249⟩, -, X249, ⟨Lc249, hQ249, l249, y249, z249⟩, st249⟩ := X0.virtualBack hx (y := (⟨"com/example/settlewatt/settlewatt/model/TraceRecord$Inputs$Entries", "next", "()Ljava/util/Map$Entry;"⟩ : MethodName)) (z := (⟨"com/example/settlewatt/settlewatt/model/TraceRecord$Inputs$Entries", "next", "()Ljava/util/Map$Entry;"⟩ : MethodName)) hown (mvT hZ (hw _ (List.mem_of_getElem? (i := 148) rfl))) (mvT hZ (hw _ (List.mem_of_getElem? (i := 149) rfl))) (notFace_of_selects (args := #[]) (mvT hZ (hw _ (List.mem_of_getElem? (i := 151) rfl)))) (mvT hZ (hw _ (List.mem_of_getElem? (i := 151) rfl))) (mvT hZ (hw _ (List.mem_of_getElem? (i := 150) rfl))) (by decide) (backOf (W := 0) (rmNE l Z a0 hw [] t mp a ka j y vs kx vx h0 n0 (by exact Z0) E F1 G gt F2 Aa nmt nat hj hk hj1 hv) hZ (hw _ (List.mem_of_getElem? (i := 152) rfl)) (hw _ (List.mem_of_getElem? (i := 121) rfl)) (by decide) (by decide)) q249a q249c (g := (mkF m 1 #[.val (.ref t)] [(.ref t)])) rfl (by rw [hml]; rfl) (Steps.refl _) (argsL := []) (rest := []) (lenOf pd_11 rfl) rfl (by show 2 * 0 + _ ≤ _; exact Nat.le_of_eq rfl) (hb hby d20_1) (fun _ _ => ⟨rfl, e0, (by decide : 0 + 1 ≤ _), (by decide : 0 + 2 ≤ _)⟩)
  dsimp only [Pt.U, Pt.locs, Pt.cells, Pt.slots] at X249 l249 y249 z249 st249 hQ249
  subst l249 y249 z249
  obtain ⟨en249, rfl, N249q, K249, Eq249, F249a, F249b, F249c, F249d⟩ := hQ249
  have N249 := Fr.app N0 N249q
  have y250 := (Nat.le_trans Z0 K249.1)
  have y251 := (F2.keep K249 (ninS nmt nin0))
  have y252 := (Aa.keep K249 (ninS nat nin0))
  have y253 := ((Keep.refl h0 [t]).trans K249 (allS (Or.inl (List.mem_of_getElem? (i := 0) rfl)) all0))
  have y254 := (E.keep K249)
  refine own_via st249 ?_
  show own_Fin p e below _ (T249.setTop (mkF m 4 #[.val (.ref t)] [(.ref en249)]))
  exact own_ret (t := (.object "java/lang/Object")) X249 hx hlk hret rfl (Or.inr (Or.inr (Or.inr (Or.inr ⟨rfl, rfl, rfl⟩)))) (hb hby d20_4) (by show QNO Z t mp a ka j y vs kx vx h0 n0 _ T249.heap _; exact ⟨en249, rfl, N249, y253, Eq249, F249a, F249b, F249c, F249d⟩) (by decide) (by decide)
theorem d23_0 : decode jdk_140_method_3_code 0 = .ok (.aload_n 0, 1) := by decide +kernel
theorem d23_1 : decode jdk_140_method_3_code 1 = .ok (.getfield 7, 3) := by decide +kernel
theorem d23_4 : decode jdk_140_method_3_code 4 = .ok (.areturn, 1) := by decide +kernel
theorem ef_rm23 (m : MethodId) (x0 : Addr) : entryFrame m #[(.ref x0)] 1 = mkF m 0 #[.val (.ref x0)] [] := by first | (simp [entryFrame, mkF, argsToLocals, Value.category]; done) | rfl
def Q23 (Z : State) (b : Addr) (x : Addr) (h0 : Heap) (n0 : Nat) (v : Option Value) (h : Heap) (L : List Loc) : Prop := v = some (.ref x) ∧ Fr n0 L ∧ h = h0
set_option maxRecDepth 65536 in
set_option maxHeartbeats 40000000 in
theorem rm23 (l : Launch) (Z : State) (a0 : Array Value) (hw : ∀ d ∈ tables_1, d.before a0 Z = true) (ws : List Jvm.Cond) (b : Addr) (x : Addr) (h0 : Heap) (n0 : Nat) (Z0 : n0 ≤ h0.size) (F : Fld Z h0 b "java/util/AbstractMap$SimpleImmutableEntry" "key" "Ljava/lang/Object;" (.ref x)) :
    MetFree l (⟨"java/util/AbstractMap$SimpleImmutableEntry", "getKey", "()Ljava/lang/Object;"⟩ : MethodName) (head1 (Jvm.Cond.code (⟨"java/util/AbstractMap$SimpleImmutableEntry", "getKey", "()Ljava/lang/Object;"⟩ : MethodName) jdk_140_method_3_code 1 (some (.object "java/lang/Object")) :: ws) ({ frames := 0, cells := 0, slots := 0, locals := 0 } : Room)) (fun as_ U => as_ = #[(.ref b)] ∧ Z.Warmed39 U.vm ∧ U.heap = h0) (fun _ _ _ _ _ => True) (fun _ U out_ U' => ∃ v L, out_ = .returned v ∧ Q23 Z b x h0 n0 v U'.heap L ∧ FrameEnd U out_ U' L ({ frames := 0, cells := 0, slots := 0, locals := 0 } : Room).cells ({ frames := 0, cells := 0, slots := 0, locals := 0 } : Room).slots) := by
  refine MetFree.of_bodySF (plainFor_of_name pn_9) hisR ?_
  intro p e s m args below meth cd s₁ Bd hml0 hP hK
  obtain ⟨rfl, hZ, hh⟩ := hP
  have hx := Bd.exec
  have hby := Bd.bytes
  have hml : cd.maxLocals = 1 := hml0
  have hlk : meth.locks = false := BodyLoose.notSynchronized Bd
  have hown : s.vm.findClass "java/util/AbstractMap$SimpleImmutableEntry" = some m.cls := findClass_of_methodNamed Bd.named
  have hnm := (name_of_methodNamed Bd.named Bd.method).1
  have hret := Bd.returns
  have X0 : Stand p l e ({ frames := 0, cells := 0, slots := 0, locals := 0 } : Room) s m #[(.ref b)] below meth cd s₁ [] 0 0 := Stand.of_body Bd
  have e0 : s₁.heap = h0 := by rw [← hh, Bd.state]; rfl
  have N0 := Fr.nil n0
  show own_Fin p e below (own_Ans s (Q23 Z b x h0 n0) ({ frames := 0, cells := 0, slots := 0, locals := 0 } : Room).cells ({ frames := 0, cells := 0, slots := 0, locals := 0 } : Room).slots) (s₁.setTop (entryFrame m #[(.ref b)] 1))
  refine own_cast (ef_rm23 m b) ?_
  show own_Fin p e below _ (s₁.setTop (mkF m 0 #[.val (.ref b)] []))
  refine own_on (fun tq => XS.aloadN X0.here hx rfl (hb hby d23_0) rfl rfl) ?_
  show own_Fin p e below _ (s₁.setTop (mkF m 1 #[.val (.ref b)] [(.ref b)]))
  obtain ⟨T255, X255, e255, st255⟩ := getF X0 hx hZ hown (host := "") (Or.inl (hw _ (List.mem_of_getElem? (i := 163) rfl))) Via.refl e0 F (g := (mkF m 1 #[.val (.ref b)] [(.ref b)])) rfl rfl (hb hby d23_1)
  refine own_on st255 ?_
  show own_Fin p e below _ (T255.setTop (mkF m 4 #[.val (.ref b)] [(.ref x)]))
  exact own_ret (t := (.object "java/lang/Object")) X255 hx hlk hret rfl (Or.inr (Or.inr (Or.inr (Or.inr ⟨rfl, rfl, rfl⟩)))) (hb hby d23_4) (⟨rfl, N0, e255⟩) (by decide) (by decide)
theorem d25_0 : decode jdk_140_method_4_code 0 = .ok (.aload_n 0, 1) := by decide +kernel
theorem d25_1 : decode jdk_140_method_4_code 1 = .ok (.getfield 13, 3) := by decide +kernel
theorem d25_4 : decode jdk_140_method_4_code 4 = .ok (.areturn, 1) := by decide +kernel
theorem ef_rm25 (m : MethodId) (x0 : Addr) : entryFrame m #[(.ref x0)] 1 = mkF m 0 #[.val (.ref x0)] [] := by first | (simp [entryFrame, mkF, argsToLocals, Value.category]; done) | rfl
def Q25 (Z : State) (b : Addr) (x : Addr) (h0 : Heap) (n0 : Nat) (v : Option Value) (h : Heap) (L : List Loc) : Prop := v = some (.ref x) ∧ Fr n0 L ∧ h = h0
set_option maxRecDepth 65536 in
set_option maxHeartbeats 40000000 in
theorem rm25 (l : Launch) (Z : State) (a0 : Array Value) (hw : ∀ d ∈ tables_1, d.before a0 Z = true) (ws : List Jvm.Cond) (b : Addr) (x : Addr) (h0 : Heap) (n0 : Nat) (Z0 : n0 ≤ h0.size) (F : Fld Z h0 b "java/util/AbstractMap$SimpleImmutableEntry" "value" "Ljava/lang/Object;" (.ref x)) :
    MetFree l (⟨"java/util/AbstractMap$SimpleImmutableEntry", "getValue", "()Ljava/lang/Object;"⟩ : MethodName) (head1 (Jvm.Cond.code (⟨"java/util/AbstractMap$SimpleImmutableEntry", "getValue", "()Ljava/lang/Object;"⟩ : MethodName) jdk_140_method_4_code 1 (some (.object "java/lang/Object")) :: ws) ({ frames := 0, cells := 0, slots := 0, locals := 0 } : Room)) (fun as_ U => as_ = #[(.ref b)] ∧ Z.Warmed39 U.vm ∧ U.heap = h0) (fun _ _ _ _ _ => True) (fun _ U out_ U' => ∃ v L, out_ = .returned v ∧ Q25 Z b x h0 n0 v U'.heap L ∧ FrameEnd U out_ U' L ({ frames := 0, cells := 0, slots := 0, locals := 0 } : Room).cells ({ frames := 0, cells := 0, slots := 0, locals := 0 } : Room).slots) := by
  refine MetFree.of_bodySF (plainFor_of_name pn_9) hisR ?_
  intro p e s m args below meth cd s₁ Bd hml0 hP hK
  obtain ⟨rfl, hZ, hh⟩ := hP
  have hx := Bd.exec
  have hby := Bd.bytes
  have hml : cd.maxLocals = 1 := hml0
  have hlk : meth.locks = false := BodyLoose.notSynchronized Bd
  have hown : s.vm.findClass "java/util/AbstractMap$SimpleImmutableEntry" = some m.cls := findClass_of_methodNamed Bd.named
  have hnm := (name_of_methodNamed Bd.named Bd.method).1
  have hret := Bd.returns
  have X0 : Stand p l e ({ frames := 0, cells := 0, slots := 0, locals := 0 } : Room) s m #[(.ref b)] below meth cd s₁ [] 0 0 := Stand.of_body Bd
  have e0 : s₁.heap = h0 := by rw [← hh, Bd.state]; rfl
  have N0 := Fr.nil n0
  show own_Fin p e below (own_Ans s (Q25 Z b x h0 n0) ({ frames := 0, cells := 0, slots := 0, locals := 0 } : Room).cells ({ frames := 0, cells := 0, slots := 0, locals := 0 } : Room).slots) (s₁.setTop (entryFrame m #[(.ref b)] 1))
  refine own_cast (ef_rm25 m b) ?_
  show own_Fin p e below _ (s₁.setTop (mkF m 0 #[.val (.ref b)] []))
  refine own_on (fun tq => XS.aloadN X0.here hx rfl (hb hby d25_0) rfl rfl) ?_
  show own_Fin p e below _ (s₁.setTop (mkF m 1 #[.val (.ref b)] [(.ref b)]))
  obtain ⟨T256, X256, e256, st256⟩ := getF X0 hx hZ hown (host := "") (Or.inl (hw _ (List.mem_of_getElem? (i := 165) rfl))) Via.refl e0 F (g := (mkF m 1 #[.val (.ref b)] [(.ref b)])) rfl rfl (hb hby d25_1)
  refine own_on st256 ?_
  show own_Fin p e below _ (T256.setTop (mkF m 4 #[.val (.ref b)] [(.ref x)]))
  exact own_ret (t := (.object "java/lang/Object")) X256 hx hlk hret rfl (Or.inr (Or.inr (Or.inr (Or.inr ⟨rfl, rfl, rfl⟩)))) (hb hby d25_4) (⟨rfl, N0, e256⟩) (by decide) (by decide)
def own_get0 (c : Int32)   : Value := .null
theorem d16_0 : decode jdk_71_method_6_code 0 = .ok (.aload_n 0, 1) := by decide +kernel
theorem d16_1 : decode jdk_71_method_6_code 1 = .ok (.invokevirtual 7, 3) := by decide +kernel
theorem d16_4 : decode jdk_71_method_6_code 4 = .ok (.invokeinterface 20 1, 5) := by decide +kernel
theorem pd_12 : parseMethodDescriptor "()Ljava/util/Iterator;" = some ⟨[], some (.object "java/util/Iterator")⟩ := by decide +kernel
theorem d16_9 : decode jdk_71_method_6_code 9 = .ok (.astore_n 2, 1) := by decide +kernel
theorem d16_10 : decode jdk_71_method_6_code 10 = .ok (.aload_n 1, 1) := by decide +kernel
theorem d16_11 : decode jdk_71_method_6_code 11 = .ok (.ifnonnull 41, 3) := by decide +kernel
theorem d16_52 : decode jdk_71_method_6_code 52 = .ok (.aload_n 2, 1) := by decide +kernel
theorem d16_53 : decode jdk_71_method_6_code 53 = .ok (.invokeinterface 24 1, 5) := by decide +kernel
theorem d16_58 : decode jdk_71_method_6_code 58 = .ok (.ifCond .eq 36, 3) := by decide +kernel
theorem d16_94 : decode jdk_71_method_6_code 94 = .ok (.aconst_null, 1) := by decide +kernel
theorem d16_95 : decode jdk_71_method_6_code 95 = .ok (.areturn, 1) := by decide +kernel
theorem ef_rmG0 (m : MethodId) (x0 : Addr) (x1 : Addr) : entryFrame m #[(.ref x0), (.ref x1)] 4 = mkF m 0 #[.val (.ref x0), .val (.ref x1), .unset, .unset] [] := by first | (simp [entryFrame, mkF, argsToLocals, Value.category]; done) | rfl
def QG0 (Z : State) (mp : Addr) (x : Addr) (z : Int32) (a : Addr) (ka : ClassId) (t_x : Addr) (k_x : ClassId) (c : Int32) (r : Value) (h0 : Heap) (n0 : Nat) (v : Option Value) (h : Heap) (L : List Loc) : Prop := v = some r ∧ Fr n0 L ∧ Keep h0 h []
set_option maxRecDepth 65536 in
set_option maxHeartbeats 40000000 in
theorem rmG0 (l : Launch) (Z : State) (a0 : Array Value) (hw : ∀ d ∈ tables_1, d.before a0 Z = true) (ws : List Jvm.Cond) (mp : Addr) (x : Addr) (z : Int32) (a : Addr) (ka : ClassId) (t_x : Addr) (k_x : ClassId) (c : Int32) (r : Value) (h0 : Heap) (n0 : Nat) (Z0 : n0 ≤ h0.size) (hz : ¬ z = (0 : Int32)) (O : Old Z n0 h0) (SC : Sta Z Z.heap "java/lang/String" "COMPACT_STRINGS" "Z" (.int z)) (E : Exa Z h0 mp "com/example/settlewatt/settlewatt/model/TraceRecord$Inputs") (F2 : Fld Z h0 mp "com/example/settlewatt/settlewatt/model/TraceRecord$Inputs" "namesAndValues" "[Ljava/lang/String;" (.ref a)) (Aa : Arv Z h0 a ka (.object "java/lang/String") (0 : Int32) [] .null) (E_x : Exa Z h0 x "java/lang/String") (C_x : Fld Z h0 x "java/lang/String" "coder" "B" (.int 0)) (V_x : Fld Z h0 x "java/lang/String" "value" "[B" (.ref t_x)) (A_x : Arv Z h0 t_x k_x .byte (1 : Int32) (([c].map StrChars.lo8).map Value.int) (.int 0)) (r_x : ∀ q_ ∈ [c], ¬ q_ < 0 ∧ ¬ (255 : Int32) < q_) (hr : r = own_get0 c  ) :
    MetFree l (⟨"java/util/AbstractMap", "get", "(Ljava/lang/Object;)Ljava/lang/Object;"⟩ : MethodName) (head1 (Jvm.Cond.code (⟨"java/util/AbstractMap", "get", "(Ljava/lang/Object;)Ljava/lang/Object;"⟩ : MethodName) jdk_71_method_6_code 4 (some (.object "java/lang/Object")) :: ws) ({ frames := 5, cells := 2, slots := 3, locals := 62 } : Room)) (fun as_ U => as_ = #[(.ref mp), (.ref x)] ∧ Z.Warmed39 U.vm ∧ U.heap = h0) (fun _ _ _ _ _ => True) (fun _ U out_ U' => ∃ v L, out_ = .returned v ∧ QG0 Z mp x z a ka t_x k_x c r h0 n0 v U'.heap L ∧ FrameEnd U out_ U' L ({ frames := 5, cells := 2, slots := 3, locals := 62 } : Room).cells ({ frames := 5, cells := 2, slots := 3, locals := 62 } : Room).slots) := by
  refine MetFree.of_bodySF (plainFor_of_name pn_2) hisR ?_
  intro p e s m args below meth cd s₁ Bd hml0 hP hK
  obtain ⟨rfl, hZ, hh⟩ := hP
  have hx := Bd.exec
  have hby := Bd.bytes
  have hml : cd.maxLocals = 4 := hml0
  have hlk : meth.locks = false := BodyLoose.notSynchronized Bd
  have hown : s.vm.findClass "java/util/AbstractMap" = some m.cls := findClass_of_methodNamed Bd.named
  have hnm := (name_of_methodNamed Bd.named Bd.method).1
  have hret := Bd.returns
  have X0 : Stand p l e ({ frames := 5, cells := 2, slots := 3, locals := 62 } : Room) s m #[(.ref mp), (.ref x)] below meth cd s₁ [] 0 0 := Stand.of_body Bd
  have e0 : s₁.heap = h0 := by rw [← hh, Bd.state]; rfl
  have N0 := Fr.nil n0
  show own_Fin p e below (own_Ans s (QG0 Z mp x z a ka t_x k_x c r h0 n0) ({ frames := 5, cells := 2, slots := 3, locals := 62 } : Room).cells ({ frames := 5, cells := 2, slots := 3, locals := 62 } : Room).slots) (s₁.setTop (entryFrame m #[(.ref mp), (.ref x)] 4))
  refine own_cast (ef_rmG0 m mp x) ?_
  show own_Fin p e below _ (s₁.setTop (mkF m 0 #[.val (.ref mp), .val (.ref x), .unset, .unset] []))
  refine own_on (fun tq => XS.aloadN X0.here hx rfl (hb hby d16_0) rfl rfl) ?_
  show own_Fin p e below _ (s₁.setTop (mkF m 1 #[.val (.ref mp), .val (.ref x), .unset, .unset] [(.ref mp)]))
  obtain ⟨cq257, kq257, q257a, q257b, q257c⟩ := isOf hZ e0 (E.keep (Keep.refl h0 []))
  obtain ⟨_, _, ⟨T257, L257, k257, n257⟩, -, X257, ⟨Lc257, hQ257, l257, y257, z257⟩, st257⟩ := X0.virtualBack hx (y := (⟨"java/util/AbstractMap", "entrySet", "()Ljava/util/Set;"⟩ : MethodName)) (z := (⟨"com/example/settlewatt/settlewatt/model/TraceRecord$Inputs", "entrySet", "()Ljava/util/Set;"⟩ : MethodName)) hown (mvT hZ (hw _ (List.mem_of_getElem? (i := 64) rfl))) (mvT hZ (hw _ (List.mem_of_getElem? (i := 65) rfl))) (own_nf (a0 := #[]) (mvT hZ (hw _ (List.mem_of_getElem? (i := 58) rfl))) rfl) (mvT hZ (hw _ (List.mem_of_getElem? (i := 66) rfl))) (mvT hZ (hw _ (List.mem_of_getElem? (i := 67) rfl))) (by decide) (backOf (W := 0) (rm10 l Z a0 hw [] mp h0 n0 (by exact Z0)) hZ (hw _ (List.mem_of_getElem? (i := 68) rfl)) (hw _ (List.mem_of_getElem? (i := 34) rfl)) (by decide) (by decide)) q257a q257c (g := (mkF m 1 #[.val (.ref mp), .val (.ref x), .unset, .unset] [(.ref mp)])) rfl (by rw [hml]; rfl) (Steps.refl _) (argsL := []) (rest := []) (lenOf pd_7 rfl) rfl (by show 2 * 0 + _ ≤ _; exact Nat.le_of_eq rfl) (hb hby d16_1) (fun _ _ => ⟨rfl, e0, (by decide : 0 + 1 ≤ _), (by decide : 0 + 1 ≤ _)⟩)
  dsimp only [Pt.U, Pt.locs, Pt.cells, Pt.slots] at X257 l257 y257 z257 st257 hQ257
  subst l257 y257 z257
  obtain ⟨s257, rfl, N257q, K257, Eq257, Fq257⟩ := hQ257
  have N257 := Fr.app N0 N257q
  have y258 := ((Keep.refl h0 []).trans K257 all0)
  have y259 := (Nat.le_trans Z0 K257.1)
  have y260 := (O.keep K257 all0)
  refine own_via st257 ?_
  show own_Fin p e below _ (T257.setTop (mkF m 4 #[.val (.ref mp), .val (.ref x), .unset, .unset] [(.ref s257)]))
  obtain ⟨cq261, kq261, q261a, q261b, q261c⟩ := isOf hZ rfl Eq257
  obtain ⟨_, _, ⟨T261, L261, k261, n261⟩, -, X261, ⟨Lc261, hQ261, l261, y261, z261⟩, st261⟩ := X257.interfaceBack hx (xi := (⟨"java/util/Set", "iterator", "()Ljava/util/Iterator;"⟩ : MethodName)) (y := (⟨"com/example/settlewatt/settlewatt/model/TraceRecord$Inputs$1", "iterator", "()Ljava/util/Iterator;"⟩ : MethodName)) hown (mvT hZ (hw _ (List.mem_of_getElem? (i := 111) rfl))) (mvT hZ (hw _ (List.mem_of_getElem? (i := 112) rfl))) (mvT hZ (hw _ (List.mem_of_getElem? (i := 113) rfl))) (mvT hZ (hw _ (List.mem_of_getElem? (i := 114) rfl))) (mvT hZ (hw _ (List.mem_of_getElem? (i := 115) rfl))) (mvT hZ (hw _ (List.mem_of_getElem? (i := 116) rfl))) (mvT hZ (hw _ (List.mem_of_getElem? (i := 117) rfl))) (mvT hZ (hw _ (List.mem_of_getElem? (i := 96) rfl))) (by decide) (backOf (W := 0) (rm17 l Z a0 hw [] s257 mp T257.heap n0 (by exact y259) Fq257) hZ (hw _ (List.mem_of_getElem? (i := 118) rfl)) (hw _ (List.mem_of_getElem? (i := 71) rfl)) (by decide) (by decide)) q261a q261b q261c (g := (mkF m 4 #[.val (.ref mp), .val (.ref x), .unset, .unset] [(.ref s257)])) rfl (by rw [hml]; rfl) (Steps.refl _) (argsL := []) (rest := []) (lenOf pd_12 rfl) rfl (by show 2 * 0 + _ ≤ _; exact Nat.le_of_eq rfl) (hb hby d16_4) (fun _ _ => ⟨rfl, rfl, (by decide : 1 + 1 ≤ _), (by decide : 1 + 2 ≤ _)⟩)
  dsimp only [Pt.U, Pt.locs, Pt.cells, Pt.slots] at X261 l261 y261 z261 st261 hQ261
  subst l261 y261 z261
  obtain ⟨it261, rfl, N261q, K261, gn261, gx261, Eq261, F261a, F261b⟩ := hQ261
  have gk261 : h0.size ≤ it261 := Nat.le_trans y258.1 gx261
  have N261 := Fr.app N257 N261q
  have y262 := (y258.trans K261 all0)
  have y263 := (Nat.le_trans y259 K261.1)
  have y264 := (y260.keep K261 all0)
  have y265 := (Eq257.keep K261)
  have y266 := (Fq257.keep K261 nin0)
  refine own_via st261 ?_
  show own_Fin p e below _ (T261.setTop (mkF m 9 #[.val (.ref mp), .val (.ref x), .unset, .unset] [(.ref it261)]))
  refine own_on (fun tq => XS.astoreN X261.here hx rfl (hb hby d16_9) rfl rfl (l' := #[.val (.ref mp), .val (.ref x), .val (.ref it261), .unset]) rfl) ?_
  show own_Fin p e below _ (T261.setTop (mkF m 10 #[.val (.ref mp), .val (.ref x), .val (.ref it261), .unset] []))
  refine own_on (fun tq => XS.aloadN X261.here hx rfl (hb hby d16_10) rfl rfl) ?_
  show own_Fin p e below _ (T261.setTop (mkF m 11 #[.val (.ref mp), .val (.ref x), .val (.ref it261), .unset] [(.ref x)]))
  refine own_on (fun tq => XS.ifnonnullYes X261.here hx rfl (pc0 := 11) (pc' := 52) rfl (hb hby d16_11) rfl (by decide) (by decide)) ?_
  show own_Fin p e below _ (T261.setTop (mkF m 52 #[.val (.ref mp), .val (.ref x), .val (.ref it261), .unset] []))
  refine own_on (fun tq => XS.aloadN X261.here hx rfl (hb hby d16_52) rfl rfl) ?_
  show own_Fin p e below _ (T261.setTop (mkF m 53 #[.val (.ref mp), .val (.ref x), .val (.ref it261), .unset] [(.ref it261)]))
  obtain ⟨cq267, kq267, q267a, q267b, q267c⟩ := isOf hZ rfl Eq261
  obtain ⟨_, _, ⟨T267, L267, k267, n267⟩, -, X267, ⟨Lc267, hQ267, l267, y267, z267⟩, st267⟩ := X261.interfaceBack hx (xi := (⟨"java/util/Iterator", "hasNext", "()Z"⟩ : MethodName)) (y := (⟨"com/example/settlewatt/settlewatt/model/TraceRecord$Inputs$Entries", "hasNext", "()Z"⟩ : MethodName)) hown (mvT hZ (hw _ (List.mem_of_getElem? (i := 128) rfl))) (mvT hZ (hw _ (List.mem_of_getElem? (i := 129) rfl))) (mvT hZ (hw _ (List.mem_of_getElem? (i := 130) rfl))) (mvT hZ (hw _ (List.mem_of_getElem? (i := 131) rfl))) (mvT hZ (hw _ (List.mem_of_getElem? (i := 132) rfl))) (mvT hZ (hw _ (List.mem_of_getElem? (i := 133) rfl))) (mvT hZ (hw _ (List.mem_of_getElem? (i := 134) rfl))) (mvT hZ (hw _ (List.mem_of_getElem? (i := 135) rfl))) (by decide) (backOf (W := 0) (rm19 l Z a0 hw [] it261 mp a ka (0 : Int32) (0 : Int32) _ (0 : Int32) T261.heap n0 (by exact y263) F261a F261b (F2.keep y262 nin0) (Aa.keep y262 nin0) (by decide)) hZ (hw _ (List.mem_of_getElem? (i := 136) rfl)) (hw _ (List.mem_of_getElem? (i := 121) rfl)) (by decide) (by decide)) q267a q267b q267c (g := (mkF m 53 #[.val (.ref mp), .val (.ref x), .val (.ref it261), .unset] [(.ref it261)])) rfl (by rw [hml]; rfl) (Steps.refl _) (argsL := []) (rest := []) (lenOf pd_9 rfl) rfl (by show 2 * 0 + _ ≤ _; exact Nat.le_of_eq rfl) (hb hby d16_53) (fun _ _ => ⟨rfl, rfl, (by decide : 2 + 0 ≤ _), (by decide : 3 + 0 ≤ _)⟩)
  dsimp only [Pt.U, Pt.locs, Pt.cells, Pt.slots] at X267 l267 y267 z267 st267 hQ267
  subst l267 y267 z267
  obtain ⟨rfl, N267q, e267⟩ := hQ267
  have N267 := Fr.app N261 N267q
  refine own_via st267 ?_
  show own_Fin p e below _ (T267.setTop (mkF m 58 #[.val (.ref mp), .val (.ref x), .val (.ref it261), .unset] [(.int (0 : Int32))]))
  refine own_on (fun tq => XS.ifYes X267.here hx rfl (pc0 := 58) (pc' := 94) rfl (hb hby d16_58) rfl ((if0 _ _).trans (teq (by decide : (0 : Int32) = (0 : Int32))).1) (by decide) (by decide)) ?_
  show own_Fin p e below _ (T267.setTop (mkF m 94 #[.val (.ref mp), .val (.ref x), .val (.ref it261), .unset] []))
  refine own_on (fun tq => XS.aconstNull X267.here hx rfl (hb hby d16_94)) ?_
  show own_Fin p e below _ (T267.setTop (mkF m 95 #[.val (.ref mp), .val (.ref x), .val (.ref it261), .unset] [.null]))
  exact own_ret (t := (.object "java/lang/Object")) X267 hx hlk hret rfl (Or.inr (Or.inr (Or.inr (Or.inr ⟨rfl, rfl, rfl⟩)))) (hb hby d16_95) (by show QG0 Z mp x z a ka t_x k_x c r h0 n0 _ T267.heap _; rw [e267]; exact ⟨by rw [hr]; first | rfl | (unfold own_get0; rw []), N267, y262⟩) (by decide) (by decide)
theorem pn_10 : plainName "com/example/settlewatt/settlewatt/model/TraceRecordInputsOfPinLaw" = true := by first | (simp [plainName, overriddenIn]; done) | decide +kernel
theorem d15_0 : decode method_2_code 0 = .ok (.aload_n 0, 1) := by decide +kernel
theorem d15_1 : decode method_2_code 1 = .ok (.aload_n 1, 1) := by decide +kernel
theorem d15_2 : decode method_2_code 2 = .ok (.invokeinterface 7 2, 5) := by decide +kernel
theorem pd_13 : parseMethodDescriptor "(Ljava/lang/Object;)Ljava/lang/Object;" = some ⟨[(.object "java/lang/Object")], some (.object "java/lang/Object")⟩ := by decide +kernel
theorem d15_7 : decode method_2_code 7 = .ok (.checkcast 13, 3) := by decide +kernel
theorem d15_10 : decode method_2_code 10 = .ok (.astore 4, 2) := by decide +kernel
theorem d15_12 : decode method_2_code 12 = .ok (.iload_n 3, 1) := by decide +kernel
theorem d15_13 : decode method_2_code 13 = .ok (.ifCond .eq 23, 3) := by decide +kernel
theorem d15_36 : decode method_2_code 36 = .ok (.aload 4, 2) := by decide +kernel
theorem d15_38 : decode method_2_code 38 = .ok (.ifnonnull 7, 3) := by decide +kernel
theorem d15_41 : decode method_2_code 41 = .ok (.iconst 1, 1) := by decide +kernel
theorem d15_42 : decode method_2_code 42 = .ok (.goto 4, 3) := by decide +kernel
theorem d15_46 : decode method_2_code 46 = .ok (.ireturn, 1) := by decide +kernel
theorem ef_rmH00 (m : MethodId) (x0 : Addr) (x1 : Addr) (x2 : Addr) (x3 : Int32) : entryFrame m #[(.ref x0), (.ref x1), (.ref x2), (.int x3)] 5 = mkF m 0 #[.val (.ref x0), .val (.ref x1), .val (.ref x2), .val (.int x3), .unset] [] := by first | (simp [entryFrame, mkF, argsToLocals, Value.category]; done) | rfl
def QH00 (Z : State) (mp : Addr) (x : Addr) (y : Addr) (z : Int32) (a : Addr) (ka : ClassId) (t_x : Addr) (k_x : ClassId) (c : Int32) (h0 : Heap) (n0 : Nat) (v : Option Value) (h : Heap) (L : List Loc) : Prop := v = some (.int 1) ∧ Fr n0 L ∧ Keep h0 h []
set_option maxRecDepth 65536 in
set_option maxHeartbeats 40000000 in
theorem rmH00 (l : Launch) (Z : State) (a0 : Array Value) (hw : ∀ d ∈ tables_1, d.before a0 Z = true) (ws : List Jvm.Cond) (mp : Addr) (x : Addr) (y : Addr) (z : Int32) (a : Addr) (ka : ClassId) (t_x : Addr) (k_x : ClassId) (c : Int32) (h0 : Heap) (n0 : Nat) (Z0 : n0 ≤ h0.size) (hz : ¬ z = (0 : Int32)) (O : Old Z n0 h0) (SC : Sta Z Z.heap "java/lang/String" "COMPACT_STRINGS" "Z" (.int z)) (E : Exa Z h0 mp "com/example/settlewatt/settlewatt/model/TraceRecord$Inputs") (F2 : Fld Z h0 mp "com/example/settlewatt/settlewatt/model/TraceRecord$Inputs" "namesAndValues" "[Ljava/lang/String;" (.ref a)) (Aa : Arv Z h0 a ka (.object "java/lang/String") (0 : Int32) [] .null) (E_x : Exa Z h0 x "java/lang/String") (C_x : Fld Z h0 x "java/lang/String" "coder" "B" (.int 0)) (V_x : Fld Z h0 x "java/lang/String" "value" "[B" (.ref t_x)) (A_x : Arv Z h0 t_x k_x .byte (1 : Int32) (([c].map StrChars.lo8).map Value.int) (.int 0)) (r_x : ∀ q_ ∈ [c], ¬ q_ < 0 ∧ ¬ (255 : Int32) < q_) (hr : own_get0 c   = .null) :
    MetFree l (⟨"com/example/settlewatt/settlewatt/model/TraceRecordInputsOfPinLaw", "has", "(Ljava/util/Map;Ljava/lang/String;Ljava/lang/String;Z)Z"⟩ : MethodName) (head1 (Jvm.Cond.code (⟨"com/example/settlewatt/settlewatt/model/TraceRecordInputsOfPinLaw", "has", "(Ljava/util/Map;Ljava/lang/String;Ljava/lang/String;Z)Z"⟩ : MethodName) method_2_code 5 (some .boolean) :: ws) ({ frames := 6, cells := 2, slots := 3, locals := 77 } : Room)) (fun as_ U => as_ = #[(.ref mp), (.ref x), (.ref y), (.int (0 : Int32))] ∧ Z.Warmed39 U.vm ∧ U.heap = h0) (fun _ _ _ _ _ => True) (fun _ U out_ U' => ∃ v L, out_ = .returned v ∧ QH00 Z mp x y z a ka t_x k_x c h0 n0 v U'.heap L ∧ FrameEnd U out_ U' L ({ frames := 6, cells := 2, slots := 3, locals := 77 } : Room).cells ({ frames := 6, cells := 2, slots := 3, locals := 77 } : Room).slots) := by
  refine MetFree.of_bodySF (plainFor_of_name pn_10) hisR ?_
  intro p e s m args below meth cd s₁ Bd hml0 hP hK
  obtain ⟨rfl, hZ, hh⟩ := hP
  have hx := Bd.exec
  have hby := Bd.bytes
  have hml : cd.maxLocals = 5 := hml0
  have hlk : meth.locks = false := BodyLoose.notSynchronized Bd
  have hown : s.vm.findClass "com/example/settlewatt/settlewatt/model/TraceRecordInputsOfPinLaw" = some m.cls := findClass_of_methodNamed Bd.named
  have hnm := (name_of_methodNamed Bd.named Bd.method).1
  have hret := Bd.returns
  have X0 : Stand p l e ({ frames := 6, cells := 2, slots := 3, locals := 77 } : Room) s m #[(.ref mp), (.ref x), (.ref y), (.int (0 : Int32))] below meth cd s₁ [] 0 0 := Stand.of_body Bd
  have e0 : s₁.heap = h0 := by rw [← hh, Bd.state]; rfl
  have N0 := Fr.nil n0
  show own_Fin p e below (own_Ans s (QH00 Z mp x y z a ka t_x k_x c h0 n0) ({ frames := 6, cells := 2, slots := 3, locals := 77 } : Room).cells ({ frames := 6, cells := 2, slots := 3, locals := 77 } : Room).slots) (s₁.setTop (entryFrame m #[(.ref mp), (.ref x), (.ref y), (.int (0 : Int32))] 5))
  refine own_cast (ef_rmH00 m mp x y (0 : Int32)) ?_
  show own_Fin p e below _ (s₁.setTop (mkF m 0 #[.val (.ref mp), .val (.ref x), .val (.ref y), .val (.int (0 : Int32)), .unset] []))
  refine own_on (fun tq => XS.aloadN X0.here hx rfl (hb hby d15_0) rfl rfl) ?_
  show own_Fin p e below _ (s₁.setTop (mkF m 1 #[.val (.ref mp), .val (.ref x), .val (.ref y), .val (.int (0 : Int32)), .unset] [(.ref mp)]))
  refine own_on (fun tq => XS.aloadN X0.here hx rfl (hb hby d15_1) rfl rfl) ?_
  show own_Fin p e below _ (s₁.setTop (mkF m 2 #[.val (.ref mp), .val (.ref x), .val (.ref y), .val (.int (0 : Int32)), .unset] [(.ref x), (.ref mp)]))
  obtain ⟨cq268, kq268, q268a, q268b, q268c⟩ := isOf hZ e0 (E.keep (Keep.refl h0 []))
  obtain ⟨_, _, ⟨T268, L268, k268, n268⟩, -, X268, ⟨Lc268, hQ268, l268, y268, z268⟩, st268⟩ := X0.interfaceBack hx (xi := (⟨"java/util/Map", "get", "(Ljava/lang/Object;)Ljava/lang/Object;"⟩ : MethodName)) (y := (⟨"java/util/AbstractMap", "get", "(Ljava/lang/Object;)Ljava/lang/Object;"⟩ : MethodName)) hown (mvT hZ (hw _ (List.mem_of_getElem? (i := 103) rfl))) (mvT hZ (hw _ (List.mem_of_getElem? (i := 104) rfl))) (mvT hZ (hw _ (List.mem_of_getElem? (i := 105) rfl))) (mvT hZ (hw _ (List.mem_of_getElem? (i := 106) rfl))) (mvT hZ (hw _ (List.mem_of_getElem? (i := 107) rfl))) (mvT hZ (hw _ (List.mem_of_getElem? (i := 108) rfl))) (mvT hZ (hw _ (List.mem_of_getElem? (i := 109) rfl))) (mvT hZ (hw _ (List.mem_of_getElem? (i := 62) rfl))) (by decide) (backOf (W := 0) (rmG0 l Z a0 hw [] mp x z a ka t_x k_x c .null h0 n0 (by exact Z0) hz O SC (E.keep (Keep.refl h0 [])) (F2.keep (Keep.refl h0 []) nin0) (Aa.keep (Keep.refl h0 []) nin0) (E_x.keep (Keep.refl h0 [])) (C_x.keep (Keep.refl h0 []) nin0) (V_x.keep (Keep.refl h0 []) nin0) (A_x.keep (Keep.refl h0 []) nin0) r_x hr.symm) hZ (hw _ (List.mem_of_getElem? (i := 110) rfl)) (hw _ (List.mem_of_getElem? (i := 50) rfl)) (by decide) (by decide)) q268a q268b q268c (g := (mkF m 2 #[.val (.ref mp), .val (.ref x), .val (.ref y), .val (.int (0 : Int32)), .unset] [(.ref x), (.ref mp)])) rfl (by rw [hml]; rfl) (Steps.refl _) (argsL := [(.ref x)]) (rest := []) (lenOf pd_13 rfl) rfl (by show 2 * 0 + _ ≤ _; exact Nat.le_of_eq rfl) (hb hby d15_2) (fun _ _ => ⟨rfl, e0, (by decide : 0 + 2 ≤ _), (by decide : 0 + 3 ≤ _)⟩)
  dsimp only [Pt.U, Pt.locs, Pt.cells, Pt.slots] at X268 l268 y268 z268 st268 hQ268
  subst l268 y268 z268
  obtain ⟨rfl, N268q, K268⟩ := hQ268
  have N268 := Fr.app N0 N268q
  have y269 := ((Keep.refl h0 []).trans K268 all0)
  have y270 := (Nat.le_trans Z0 K268.1)
  have y271 := (O.keep K268 all0)
  refine own_via st268 ?_
  show own_Fin p e below _ (T268.setTop (mkF m 7 #[.val (.ref mp), .val (.ref x), .val (.ref y), .val (.int (0 : Int32)), .unset] [.null]))
  refine own_on (fun tq => X268.checkcastNull hx (g := (mkF m 7 #[.val (.ref mp), .val (.ref x), .val (.ref y), .val (.int (0 : Int32)), .unset] [.null])) rfl rfl (hb hby d15_7) tq) ?_
  show own_Fin p e below _ (T268.setTop (mkF m 10 #[.val (.ref mp), .val (.ref x), .val (.ref y), .val (.int (0 : Int32)), .unset] [.null]))
  refine own_on (fun tq => XS.astore X268.here hx rfl (hb hby d15_10) rfl rfl (l' := #[.val (.ref mp), .val (.ref x), .val (.ref y), .val (.int (0 : Int32)), .val .null]) rfl) ?_
  show own_Fin p e below _ (T268.setTop (mkF m 12 #[.val (.ref mp), .val (.ref x), .val (.ref y), .val (.int (0 : Int32)), .val .null] []))
  refine own_on (fun tq => XS.iloadN X268.here hx rfl (hb hby d15_12) rfl) ?_
  show own_Fin p e below _ (T268.setTop (mkF m 13 #[.val (.ref mp), .val (.ref x), .val (.ref y), .val (.int (0 : Int32)), .val .null] [(.int (0 : Int32))]))
  refine own_on (fun tq => XS.ifYes X268.here hx rfl (pc0 := 13) (pc' := 36) rfl (hb hby d15_13) rfl ((if0 _ _).trans (teq (by decide : (0 : Int32) = (0 : Int32))).1) (by decide) (by decide)) ?_
  show own_Fin p e below _ (T268.setTop (mkF m 36 #[.val (.ref mp), .val (.ref x), .val (.ref y), .val (.int (0 : Int32)), .val .null] []))
  refine own_on (fun tq => XS.aload X268.here hx rfl (hb hby d15_36) rfl rfl) ?_
  show own_Fin p e below _ (T268.setTop (mkF m 38 #[.val (.ref mp), .val (.ref x), .val (.ref y), .val (.int (0 : Int32)), .val .null] [.null]))
  refine own_on (fun tq => XS.ifnonnullNo X268.here hx rfl (hb hby d15_38) rfl) ?_
  show own_Fin p e below _ (T268.setTop (mkF m 41 #[.val (.ref mp), .val (.ref x), .val (.ref y), .val (.int (0 : Int32)), .val .null] []))
  refine own_on (fun tq => XS.iconst X268.here hx rfl (hb hby d15_41)) ?_
  show own_Fin p e below _ (T268.setTop (mkF m 42 #[.val (.ref mp), .val (.ref x), .val (.ref y), .val (.int (0 : Int32)), .val .null] [(.int (1 : Int32))]))
  refine own_on (fun tq => XS.goto X268.here hx rfl (pc0 := 42) (pc' := 46) rfl (hb hby d15_42) (by decide) (by decide)) ?_
  show own_Fin p e below _ (T268.setTop (mkF m 46 #[.val (.ref mp), .val (.ref x), .val (.ref y), .val (.int (0 : Int32)), .val .null] [(.int (1 : Int32))]))
  exact own_ret (t := .boolean) X268 hx hlk hret rfl (Or.inl ⟨rfl, (by simp), _, rfl⟩) (hb hby d15_46) (by show QH00 Z mp x y z a ka t_x k_x c h0 n0 _ T268.heap _; exact ⟨rfl, N268, y269⟩) (by decide) (by decide)
def own_get1 (c : Int32) (c0 : Int32) (u0 : Addr) : Value := if c = c0 then .ref u0 else .null
theorem d16_61 : decode jdk_71_method_6_code 61 = .ok (.aload_n 2, 1) := by decide +kernel
theorem d16_62 : decode jdk_71_method_6_code 62 = .ok (.invokeinterface 30 1, 5) := by decide +kernel
theorem pd_14 : parseMethodDescriptor "()Ljava/lang/Object;" = some ⟨[], some (.object "java/lang/Object")⟩ := by decide +kernel
theorem d16_67 : decode jdk_71_method_6_code 67 = .ok (.checkcast 34, 3) := by decide +kernel
theorem d16_70 : decode jdk_71_method_6_code 70 = .ok (.astore_n 3, 1) := by decide +kernel
theorem d16_71 : decode jdk_71_method_6_code 71 = .ok (.aload_n 1, 1) := by decide +kernel
theorem d16_72 : decode jdk_71_method_6_code 72 = .ok (.aload_n 3, 1) := by decide +kernel
theorem d16_73 : decode jdk_71_method_6_code 73 = .ok (.invokeinterface 43 1, 5) := by decide +kernel
theorem d16_78 : decode jdk_71_method_6_code 78 = .ok (.invokevirtual 39, 3) := by decide +kernel
theorem d16_81 : decode jdk_71_method_6_code 81 = .ok (.ifCond .eq 10, 3) := by decide +kernel
theorem d16_84 : decode jdk_71_method_6_code 84 = .ok (.aload_n 3, 1) := by decide +kernel
theorem d16_85 : decode jdk_71_method_6_code 85 = .ok (.invokeinterface 36 1, 5) := by decide +kernel
theorem d16_90 : decode jdk_71_method_6_code 90 = .ok (.areturn, 1) := by decide +kernel
theorem d16_91 : decode jdk_71_method_6_code 91 = .ok (.goto (-39), 3) := by decide +kernel
theorem ef_rmG1 (m : MethodId) (x0 : Addr) (x1 : Addr) : entryFrame m #[(.ref x0), (.ref x1)] 4 = mkF m 0 #[.val (.ref x0), .val (.ref x1), .unset, .unset] [] := by first | (simp [entryFrame, mkF, argsToLocals, Value.category]; done) | rfl
def QG1 (Z : State) (mp : Addr) (x : Addr) (z : Int32) (a : Addr) (ka : ClassId) (ke0 : Addr) (u0 : Addr) (c0 : Int32) (t_ke0 : Addr) (k_ke0 : ClassId) (t_x : Addr) (k_x : ClassId) (c : Int32) (r : Value) (h0 : Heap) (n0 : Nat) (v : Option Value) (h : Heap) (L : List Loc) : Prop := v = some r ∧ Fr n0 L ∧ Keep h0 h []
set_option maxRecDepth 65536 in
set_option maxHeartbeats 40000000 in
theorem rmG1 (l : Launch) (Z : State) (a0 : Array Value) (hw : ∀ d ∈ tables_1, d.before a0 Z = true) (ws : List Jvm.Cond) (mp : Addr) (x : Addr) (z : Int32) (a : Addr) (ka : ClassId) (ke0 : Addr) (u0 : Addr) (c0 : Int32) (t_ke0 : Addr) (k_ke0 : ClassId) (t_x : Addr) (k_x : ClassId) (c : Int32) (r : Value) (h0 : Heap) (n0 : Nat) (Z0 : n0 ≤ h0.size) (hz : ¬ z = (0 : Int32)) (O : Old Z n0 h0) (SC : Sta Z Z.heap "java/lang/String" "COMPACT_STRINGS" "Z" (.int z)) (E : Exa Z h0 mp "com/example/settlewatt/settlewatt/model/TraceRecord$Inputs") (F2 : Fld Z h0 mp "com/example/settlewatt/settlewatt/model/TraceRecord$Inputs" "namesAndValues" "[Ljava/lang/String;" (.ref a)) (Aa : Arv Z h0 a ka (.object "java/lang/String") (2 : Int32) [(.ref ke0), (.ref u0)] .null) (E_ke0 : Exa Z h0 ke0 "java/lang/String") (C_ke0 : Fld Z h0 ke0 "java/lang/String" "coder" "B" (.int 0)) (V_ke0 : Fld Z h0 ke0 "java/lang/String" "value" "[B" (.ref t_ke0)) (A_ke0 : Arv Z h0 t_ke0 k_ke0 .byte (1 : Int32) (([c0].map StrChars.lo8).map Value.int) (.int 0)) (r_ke0 : ∀ q_ ∈ [c0], ¬ q_ < 0 ∧ ¬ (255 : Int32) < q_) (E_x : Exa Z h0 x "java/lang/String") (C_x : Fld Z h0 x "java/lang/String" "coder" "B" (.int 0)) (V_x : Fld Z h0 x "java/lang/String" "value" "[B" (.ref t_x)) (A_x : Arv Z h0 t_x k_x .byte (1 : Int32) (([c].map StrChars.lo8).map Value.int) (.int 0)) (r_x : ∀ q_ ∈ [c], ¬ q_ < 0 ∧ ¬ (255 : Int32) < q_) (hr : r = own_get1 c c0 u0) :
    MetFree l (⟨"java/util/AbstractMap", "get", "(Ljava/lang/Object;)Ljava/lang/Object;"⟩ : MethodName) (head1 (Jvm.Cond.code (⟨"java/util/AbstractMap", "get", "(Ljava/lang/Object;)Ljava/lang/Object;"⟩ : MethodName) jdk_71_method_6_code 4 (some (.object "java/lang/Object")) :: ws) ({ frames := 5, cells := 3, slots := 5, locals := 62 } : Room)) (fun as_ U => as_ = #[(.ref mp), (.ref x)] ∧ Z.Warmed39 U.vm ∧ U.heap = h0) (fun _ _ _ _ _ => True) (fun _ U out_ U' => ∃ v L, out_ = .returned v ∧ QG1 Z mp x z a ka ke0 u0 c0 t_ke0 k_ke0 t_x k_x c r h0 n0 v U'.heap L ∧ FrameEnd U out_ U' L ({ frames := 5, cells := 3, slots := 5, locals := 62 } : Room).cells ({ frames := 5, cells := 3, slots := 5, locals := 62 } : Room).slots) := by
  refine MetFree.of_bodySF (plainFor_of_name pn_2) hisR ?_
  intro p e s m args below meth cd s₁ Bd hml0 hP hK
  obtain ⟨rfl, hZ, hh⟩ := hP
  have hx := Bd.exec
  have hby := Bd.bytes
  have hml : cd.maxLocals = 4 := hml0
  have hlk : meth.locks = false := BodyLoose.notSynchronized Bd
  have hown : s.vm.findClass "java/util/AbstractMap" = some m.cls := findClass_of_methodNamed Bd.named
  have hnm := (name_of_methodNamed Bd.named Bd.method).1
  have hret := Bd.returns
  have X0 : Stand p l e ({ frames := 5, cells := 3, slots := 5, locals := 62 } : Room) s m #[(.ref mp), (.ref x)] below meth cd s₁ [] 0 0 := Stand.of_body Bd
  have e0 : s₁.heap = h0 := by rw [← hh, Bd.state]; rfl
  have N0 := Fr.nil n0
  show own_Fin p e below (own_Ans s (QG1 Z mp x z a ka ke0 u0 c0 t_ke0 k_ke0 t_x k_x c r h0 n0) ({ frames := 5, cells := 3, slots := 5, locals := 62 } : Room).cells ({ frames := 5, cells := 3, slots := 5, locals := 62 } : Room).slots) (s₁.setTop (entryFrame m #[(.ref mp), (.ref x)] 4))
  refine own_cast (ef_rmG1 m mp x) ?_
  show own_Fin p e below _ (s₁.setTop (mkF m 0 #[.val (.ref mp), .val (.ref x), .unset, .unset] []))
  refine own_on (fun tq => XS.aloadN X0.here hx rfl (hb hby d16_0) rfl rfl) ?_
  show own_Fin p e below _ (s₁.setTop (mkF m 1 #[.val (.ref mp), .val (.ref x), .unset, .unset] [(.ref mp)]))
  obtain ⟨cq272, kq272, q272a, q272b, q272c⟩ := isOf hZ e0 (E.keep (Keep.refl h0 []))
  obtain ⟨_, _, ⟨T272, L272, k272, n272⟩, -, X272, ⟨Lc272, hQ272, l272, y272, z272⟩, st272⟩ := X0.virtualBack hx (y := (⟨"java/util/AbstractMap", "entrySet", "()Ljava/util/Set;"⟩ : MethodName)) (z := (⟨"com/example/settlewatt/settlewatt/model/TraceRecord$Inputs", "entrySet", "()Ljava/util/Set;"⟩ : MethodName)) hown (mvT hZ (hw _ (List.mem_of_getElem? (i := 64) rfl))) (mvT hZ (hw _ (List.mem_of_getElem? (i := 65) rfl))) (own_nf (a0 := #[]) (mvT hZ (hw _ (List.mem_of_getElem? (i := 58) rfl))) rfl) (mvT hZ (hw _ (List.mem_of_getElem? (i := 66) rfl))) (mvT hZ (hw _ (List.mem_of_getElem? (i := 67) rfl))) (by decide) (backOf (W := 0) (rm10 l Z a0 hw [] mp h0 n0 (by exact Z0)) hZ (hw _ (List.mem_of_getElem? (i := 68) rfl)) (hw _ (List.mem_of_getElem? (i := 34) rfl)) (by decide) (by decide)) q272a q272c (g := (mkF m 1 #[.val (.ref mp), .val (.ref x), .unset, .unset] [(.ref mp)])) rfl (by rw [hml]; rfl) (Steps.refl _) (argsL := []) (rest := []) (lenOf pd_7 rfl) rfl (by show 2 * 0 + _ ≤ _; exact Nat.le_of_eq rfl) (hb hby d16_1) (fun _ _ => ⟨rfl, e0, (by decide : 0 + 1 ≤ _), (by decide : 0 + 1 ≤ _)⟩)
  dsimp only [Pt.U, Pt.locs, Pt.cells, Pt.slots] at X272 l272 y272 z272 st272 hQ272
  subst l272 y272 z272
  obtain ⟨s272, rfl, N272q, K272, Eq272, Fq272⟩ := hQ272
  have N272 := Fr.app N0 N272q
  have y273 := ((Keep.refl h0 []).trans K272 all0)
  have y274 := (Nat.le_trans Z0 K272.1)
  have y275 := (O.keep K272 all0)
  refine own_via st272 ?_
  show own_Fin p e below _ (T272.setTop (mkF m 4 #[.val (.ref mp), .val (.ref x), .unset, .unset] [(.ref s272)]))
  obtain ⟨cq276, kq276, q276a, q276b, q276c⟩ := isOf hZ rfl Eq272
  obtain ⟨_, _, ⟨T276, L276, k276, n276⟩, -, X276, ⟨Lc276, hQ276, l276, y276, z276⟩, st276⟩ := X272.interfaceBack hx (xi := (⟨"java/util/Set", "iterator", "()Ljava/util/Iterator;"⟩ : MethodName)) (y := (⟨"com/example/settlewatt/settlewatt/model/TraceRecord$Inputs$1", "iterator", "()Ljava/util/Iterator;"⟩ : MethodName)) hown (mvT hZ (hw _ (List.mem_of_getElem? (i := 111) rfl))) (mvT hZ (hw _ (List.mem_of_getElem? (i := 112) rfl))) (mvT hZ (hw _ (List.mem_of_getElem? (i := 113) rfl))) (mvT hZ (hw _ (List.mem_of_getElem? (i := 114) rfl))) (mvT hZ (hw _ (List.mem_of_getElem? (i := 115) rfl))) (mvT hZ (hw _ (List.mem_of_getElem? (i := 116) rfl))) (mvT hZ (hw _ (List.mem_of_getElem? (i := 117) rfl))) (mvT hZ (hw _ (List.mem_of_getElem? (i := 96) rfl))) (by decide) (backOf (W := 0) (rm17 l Z a0 hw [] s272 mp T272.heap n0 (by exact y274) Fq272) hZ (hw _ (List.mem_of_getElem? (i := 118) rfl)) (hw _ (List.mem_of_getElem? (i := 71) rfl)) (by decide) (by decide)) q276a q276b q276c (g := (mkF m 4 #[.val (.ref mp), .val (.ref x), .unset, .unset] [(.ref s272)])) rfl (by rw [hml]; rfl) (Steps.refl _) (argsL := []) (rest := []) (lenOf pd_12 rfl) rfl (by show 2 * 0 + _ ≤ _; exact Nat.le_of_eq rfl) (hb hby d16_4) (fun _ _ => ⟨rfl, rfl, (by decide : 1 + 1 ≤ _), (by decide : 1 + 2 ≤ _)⟩)
  dsimp only [Pt.U, Pt.locs, Pt.cells, Pt.slots] at X276 l276 y276 z276 st276 hQ276
  subst l276 y276 z276
  obtain ⟨it276, rfl, N276q, K276, gn276, gx276, Eq276, F276a, F276b⟩ := hQ276
  have gk276 : h0.size ≤ it276 := Nat.le_trans y273.1 gx276
  have N276 := Fr.app N272 N276q
  have y277 := (y273.trans K276 all0)
  have y278 := (Nat.le_trans y274 K276.1)
  have y279 := (y275.keep K276 all0)
  have y280 := (Eq272.keep K276)
  have y281 := (Fq272.keep K276 nin0)
  refine own_via st276 ?_
  show own_Fin p e below _ (T276.setTop (mkF m 9 #[.val (.ref mp), .val (.ref x), .unset, .unset] [(.ref it276)]))
  refine own_on (fun tq => XS.astoreN X276.here hx rfl (hb hby d16_9) rfl rfl (l' := #[.val (.ref mp), .val (.ref x), .val (.ref it276), .unset]) rfl) ?_
  show own_Fin p e below _ (T276.setTop (mkF m 10 #[.val (.ref mp), .val (.ref x), .val (.ref it276), .unset] []))
  refine own_on (fun tq => XS.aloadN X276.here hx rfl (hb hby d16_10) rfl rfl) ?_
  show own_Fin p e below _ (T276.setTop (mkF m 11 #[.val (.ref mp), .val (.ref x), .val (.ref it276), .unset] [(.ref x)]))
  refine own_on (fun tq => XS.ifnonnullYes X276.here hx rfl (pc0 := 11) (pc' := 52) rfl (hb hby d16_11) rfl (by decide) (by decide)) ?_
  show own_Fin p e below _ (T276.setTop (mkF m 52 #[.val (.ref mp), .val (.ref x), .val (.ref it276), .unset] []))
  refine own_on (fun tq => XS.aloadN X276.here hx rfl (hb hby d16_52) rfl rfl) ?_
  show own_Fin p e below _ (T276.setTop (mkF m 53 #[.val (.ref mp), .val (.ref x), .val (.ref it276), .unset] [(.ref it276)]))
  obtain ⟨cq282, kq282, q282a, q282b, q282c⟩ := isOf hZ rfl Eq276
  obtain ⟨_, _, ⟨T282, L282, k282, n282⟩, -, X282, ⟨Lc282, hQ282, l282, y282, z282⟩, st282⟩ := X276.interfaceBack hx (xi := (⟨"java/util/Iterator", "hasNext", "()Z"⟩ : MethodName)) (y := (⟨"com/example/settlewatt/settlewatt/model/TraceRecord$Inputs$Entries", "hasNext", "()Z"⟩ : MethodName)) hown (mvT hZ (hw _ (List.mem_of_getElem? (i := 128) rfl))) (mvT hZ (hw _ (List.mem_of_getElem? (i := 129) rfl))) (mvT hZ (hw _ (List.mem_of_getElem? (i := 130) rfl))) (mvT hZ (hw _ (List.mem_of_getElem? (i := 131) rfl))) (mvT hZ (hw _ (List.mem_of_getElem? (i := 132) rfl))) (mvT hZ (hw _ (List.mem_of_getElem? (i := 133) rfl))) (mvT hZ (hw _ (List.mem_of_getElem? (i := 134) rfl))) (mvT hZ (hw _ (List.mem_of_getElem? (i := 135) rfl))) (by decide) (backOf (W := 0) (rm19 l Z a0 hw [] it276 mp a ka (0 : Int32) (2 : Int32) _ (1 : Int32) T276.heap n0 (by exact y278) F276a F276b (F2.keep y277 nin0) (Aa.keep y277 nin0) (by decide)) hZ (hw _ (List.mem_of_getElem? (i := 136) rfl)) (hw _ (List.mem_of_getElem? (i := 121) rfl)) (by decide) (by decide)) q282a q282b q282c (g := (mkF m 53 #[.val (.ref mp), .val (.ref x), .val (.ref it276), .unset] [(.ref it276)])) rfl (by rw [hml]; rfl) (Steps.refl _) (argsL := []) (rest := []) (lenOf pd_9 rfl) rfl (by show 2 * 0 + _ ≤ _; exact Nat.le_of_eq rfl) (hb hby d16_53) (fun _ _ => ⟨rfl, rfl, (by decide : 2 + 0 ≤ _), (by decide : 3 + 0 ≤ _)⟩)
  dsimp only [Pt.U, Pt.locs, Pt.cells, Pt.slots] at X282 l282 y282 z282 st282 hQ282
  subst l282 y282 z282
  obtain ⟨rfl, N282q, e282⟩ := hQ282
  have N282 := Fr.app N276 N282q
  refine own_via st282 ?_
  show own_Fin p e below _ (T282.setTop (mkF m 58 #[.val (.ref mp), .val (.ref x), .val (.ref it276), .unset] [(.int (1 : Int32))]))
  refine own_on (fun tq => XS.ifNo X282.here hx rfl (hb hby d16_58) rfl ((if0 _ _).trans (feq (by decide : ¬ ((1 : Int32) = (0 : Int32)))).1)) ?_
  show own_Fin p e below _ (T282.setTop (mkF m 61 #[.val (.ref mp), .val (.ref x), .val (.ref it276), .unset] []))
  refine own_on (fun tq => XS.aloadN X282.here hx rfl (hb hby d16_61) rfl rfl) ?_
  show own_Fin p e below _ (T282.setTop (mkF m 62 #[.val (.ref mp), .val (.ref x), .val (.ref it276), .unset] [(.ref it276)]))
  obtain ⟨cq283, kq283, q283a, q283b, q283c⟩ := isOf hZ e282 Eq276
  obtain ⟨_, _, ⟨T283, L283, k283, n283⟩, -, X283, ⟨Lc283, hQ283, l283, y283, z283⟩, st283⟩ := X282.interfaceBack hx (xi := (⟨"java/util/Iterator", "next", "()Ljava/lang/Object;"⟩ : MethodName)) (y := (⟨"com/example/settlewatt/settlewatt/model/TraceRecord$Inputs$Entries", "next", "()Ljava/lang/Object;"⟩ : MethodName)) hown (mvT hZ (hw _ (List.mem_of_getElem? (i := 140) rfl))) (mvT hZ (hw _ (List.mem_of_getElem? (i := 141) rfl))) (mvT hZ (hw _ (List.mem_of_getElem? (i := 142) rfl))) (mvT hZ (hw _ (List.mem_of_getElem? (i := 143) rfl))) (mvT hZ (hw _ (List.mem_of_getElem? (i := 144) rfl))) (mvT hZ (hw _ (List.mem_of_getElem? (i := 145) rfl))) (mvT hZ (hw _ (List.mem_of_getElem? (i := 146) rfl))) (mvT hZ (hw _ (List.mem_of_getElem? (i := 135) rfl))) (by decide) (backOf (W := 0) (rmNO l Z a0 hw [] it276 mp a ka (0 : Int32) (2 : Int32) ([(.ref ke0), (.ref u0)]) ke0 u0 T276.heap n0 (by exact y278) Eq276 F276a F276b gn276 (F2.keep y277 nin0) (Aa.keep y277 nin0) (Nat.ne_of_lt (Nat.lt_of_lt_of_le E.lt gk276)) (Nat.ne_of_lt (Nat.lt_of_lt_of_le Aa.lt gk276)) ⟨by decide, by decide⟩ rfl ⟨by decide, by decide⟩ rfl) hZ (hw _ (List.mem_of_getElem? (i := 147) rfl)) (hw _ (List.mem_of_getElem? (i := 121) rfl)) (by decide) (by decide)) q283a q283b q283c (g := (mkF m 62 #[.val (.ref mp), .val (.ref x), .val (.ref it276), .unset] [(.ref it276)])) rfl (by rw [hml]; rfl) (Steps.refl _) (argsL := []) (rest := []) (lenOf pd_14 rfl) rfl (by show 2 * 0 + _ ≤ _; exact Nat.le_of_eq rfl) (hb hby d16_62) (fun _ _ => ⟨rfl, e282, (by decide : 2 + 1 ≤ _), (by decide : 3 + 2 ≤ _)⟩)
  dsimp only [Pt.U, Pt.locs, Pt.cells, Pt.slots] at X283 l283 y283 z283 st283 hQ283
  subst l283 y283 z283
  obtain ⟨en283, rfl, N283q, K283, Eq283, F283a, F283b, F283c, F283d⟩ := hQ283
  have N283 := Fr.app N282 N283q
  have y284 := (y277.trans K283 (allS (Or.inr gk276) all0))
  have y285 := (Nat.le_trans y278 K283.1)
  have y286 := (y279.keep K283 (allS gn276 all0))
  have y287 := (Eq276.keep K283)
  refine own_via st283 ?_
  show own_Fin p e below _ (T283.setTop (mkF m 67 #[.val (.ref mp), .val (.ref x), .val (.ref it276), .unset] [(.ref en283)]))
  obtain ⟨T288, X288, e288, st288⟩ := castY X283 hx hZ hown (hw _ (List.mem_of_getElem? (i := 167) rfl)) rfl (Ins.of_exa Eq283 (hw _ (List.mem_of_getElem? (i := 168) rfl))) (g := (mkF m 67 #[.val (.ref mp), .val (.ref x), .val (.ref it276), .unset] [(.ref en283)])) rfl rfl (hb hby d16_67)
  refine own_on st288 ?_
  show own_Fin p e below _ (T288.setTop (mkF m 70 #[.val (.ref mp), .val (.ref x), .val (.ref it276), .unset] [(.ref en283)]))
  refine own_on (fun tq => XS.astoreN X288.here hx rfl (hb hby d16_70) rfl rfl (l' := #[.val (.ref mp), .val (.ref x), .val (.ref it276), .val (.ref en283)]) rfl) ?_
  show own_Fin p e below _ (T288.setTop (mkF m 71 #[.val (.ref mp), .val (.ref x), .val (.ref it276), .val (.ref en283)] []))
  refine own_on (fun tq => XS.aloadN X288.here hx rfl (hb hby d16_71) rfl rfl) ?_
  show own_Fin p e below _ (T288.setTop (mkF m 72 #[.val (.ref mp), .val (.ref x), .val (.ref it276), .val (.ref en283)] [(.ref x)]))
  refine own_on (fun tq => XS.aloadN X288.here hx rfl (hb hby d16_72) rfl rfl) ?_
  show own_Fin p e below _ (T288.setTop (mkF m 73 #[.val (.ref mp), .val (.ref x), .val (.ref it276), .val (.ref en283)] [(.ref en283), (.ref x)]))
  obtain ⟨cq289, kq289, q289a, q289b, q289c⟩ := isOf hZ e288 Eq283
  obtain ⟨_, _, ⟨T289, L289, k289, n289⟩, -, X289, ⟨Lc289, hQ289, l289, y289, z289⟩, st289⟩ := X288.interfaceBack hx (xi := (⟨"java/util/Map$Entry", "getKey", "()Ljava/lang/Object;"⟩ : MethodName)) (y := (⟨"java/util/AbstractMap$SimpleImmutableEntry", "getKey", "()Ljava/lang/Object;"⟩ : MethodName)) hown (mvT hZ (hw _ (List.mem_of_getElem? (i := 169) rfl))) (mvT hZ (hw _ (List.mem_of_getElem? (i := 170) rfl))) (mvT hZ (hw _ (List.mem_of_getElem? (i := 171) rfl))) (mvT hZ (hw _ (List.mem_of_getElem? (i := 172) rfl))) (mvT hZ (hw _ (List.mem_of_getElem? (i := 173) rfl))) (mvT hZ (hw _ (List.mem_of_getElem? (i := 174) rfl))) (mvT hZ (hw _ (List.mem_of_getElem? (i := 175) rfl))) (mvT hZ (hw _ (List.mem_of_getElem? (i := 168) rfl))) (by decide) (backOf (W := 1) (rm23 l Z a0 hw [] en283 ke0 T283.heap n0 (by exact y285) F283a) hZ (hw _ (List.mem_of_getElem? (i := 176) rfl)) (hw _ (List.mem_of_getElem? (i := 158) rfl)) (by decide) (by decide)) q289a q289b q289c (g := (mkF m 73 #[.val (.ref mp), .val (.ref x), .val (.ref it276), .val (.ref en283)] [(.ref en283), (.ref x)])) rfl (by rw [hml]; rfl) (Steps.refl _) (argsL := []) (rest := [(.ref x)]) (lenOf pd_14 rfl) rfl (by show 2 * 0 + _ ≤ _; exact Nat.le_of_eq rfl) (hb hby d16_73) (fun _ _ => ⟨rfl, e288, (by decide : 3 + 0 ≤ _), (by decide : 5 + 0 ≤ _)⟩)
  dsimp only [Pt.U, Pt.locs, Pt.cells, Pt.slots] at X289 l289 y289 z289 st289 hQ289
  subst l289 y289 z289
  obtain ⟨rfl, N289q, e289⟩ := hQ289
  have N289 := Fr.app N283 N289q
  refine own_via st289 ?_
  show own_Fin p e below _ (T289.setTop (mkF m 78 #[.val (.ref mp), .val (.ref x), .val (.ref it276), .val (.ref en283)] [(.ref ke0), (.ref x)]))
  obtain ⟨cq290, kq290, q290a, q290b, q290c⟩ := isOf hZ e289 (E_x.keep y284)
  obtain ⟨_, _, ⟨T290, L290, k290, n290⟩, -, X290, ⟨Lc290, hQ290, l290, y290, z290⟩, st290⟩ := X289.virtualBack hx (y := (⟨"java/lang/Object", "equals", "(Ljava/lang/Object;)Z"⟩ : MethodName)) (z := (⟨"java/lang/String", "equals", "(Ljava/lang/Object;)Z"⟩ : MethodName)) hown (mvT hZ (hw _ (List.mem_of_getElem? (i := 177) rfl))) (mvT hZ (hw _ (List.mem_of_getElem? (i := 178) rfl))) (own_nf (a0 := #[]) (mvT hZ (hw _ (List.mem_of_getElem? (i := 39) rfl))) rfl) (mvT hZ (hw _ (List.mem_of_getElem? (i := 180) rfl))) (mvT hZ (hw _ (List.mem_of_getElem? (i := 181) rfl))) (by decide) (StrChars.Road.eqW (W := 0) hZ (own_wE hw) (hw _ (List.mem_of_getElem? (i := 10) rfl)) (E_x.keep y284) (V_x.keep y284 nin0) (C_x.keep y284 nin0) (A_x.keep y284 nin0) (own_cod (cs := [c]) (n := 1) rfl (fun c q => (r_x c q).2)) (own_r16 r_x) (Nat.le_of_ble_eq_true rfl) (E_ke0.keep y284) (V_ke0.keep y284 nin0) (C_ke0.keep y284 nin0) (A_ke0.keep y284 nin0) (own_cod (cs := [c0]) (n := 1) rfl (fun c q => (r_ke0 c q).2)) (own_r16 r_ke0) (Nat.le_of_ble_eq_true rfl) (SC.ext y286.2) hz (by decide) (by decide)) q290a q290c (g := (mkF m 78 #[.val (.ref mp), .val (.ref x), .val (.ref it276), .val (.ref en283)] [(.ref ke0), (.ref x)])) rfl (by rw [hml]; rfl) (Steps.refl _) (argsL := [(.ref ke0)]) (rest := []) (lenOf pd_5 rfl) rfl (by show 2 * 0 + _ ≤ _; exact Nat.le_of_eq rfl) (hb hby d16_78) (fun _ _ => ⟨rfl, e289, (by decide : 3 + 0 ≤ _), (by decide : 5 + 0 ≤ _)⟩)
  dsimp only [Pt.U, Pt.locs, Pt.cells, Pt.slots] at X290 l290 y290 z290 st290 hQ290
  subst l290 y290 z290
  obtain ⟨hv290, rfl, e290⟩ := hQ290
  have N290 := Fr.app N289 (Fr.nil n0)
  by_cases hq291 : c = c0
  · obtain rfl := own_eq1 hv290 (congrArg (fun q => [q]) hq291)
    refine own_via st290 ?_
    show own_Fin p e below _ (T290.setTop (mkF m 81 #[.val (.ref mp), .val (.ref x), .val (.ref it276), .val (.ref en283)] [(.int (1 : Int32))]))
    refine own_on (fun tq => XS.ifNo X290.here hx rfl (hb hby d16_81) rfl ((if0 _ _).trans (feq (by decide : ¬ ((1 : Int32) = (0 : Int32)))).1)) ?_
    show own_Fin p e below _ (T290.setTop (mkF m 84 #[.val (.ref mp), .val (.ref x), .val (.ref it276), .val (.ref en283)] []))
    refine own_on (fun tq => XS.aloadN X290.here hx rfl (hb hby d16_84) rfl rfl) ?_
    show own_Fin p e below _ (T290.setTop (mkF m 85 #[.val (.ref mp), .val (.ref x), .val (.ref it276), .val (.ref en283)] [(.ref en283)]))
    obtain ⟨cq292, kq292, q292a, q292b, q292c⟩ := isOf hZ e290 Eq283
    obtain ⟨_, _, ⟨T292, L292, k292, n292⟩, -, X292, ⟨Lc292, hQ292, l292, y292, z292⟩, st292⟩ := X290.interfaceBack hx (xi := (⟨"java/util/Map$Entry", "getValue", "()Ljava/lang/Object;"⟩ : MethodName)) (y := (⟨"java/util/AbstractMap$SimpleImmutableEntry", "getValue", "()Ljava/lang/Object;"⟩ : MethodName)) hown (mvT hZ (hw _ (List.mem_of_getElem? (i := 183) rfl))) (mvT hZ (hw _ (List.mem_of_getElem? (i := 184) rfl))) (mvT hZ (hw _ (List.mem_of_getElem? (i := 185) rfl))) (mvT hZ (hw _ (List.mem_of_getElem? (i := 186) rfl))) (mvT hZ (hw _ (List.mem_of_getElem? (i := 187) rfl))) (mvT hZ (hw _ (List.mem_of_getElem? (i := 188) rfl))) (mvT hZ (hw _ (List.mem_of_getElem? (i := 189) rfl))) (mvT hZ (hw _ (List.mem_of_getElem? (i := 168) rfl))) (by decide) (backOf (W := 0) (rm25 l Z a0 hw [] en283 u0 T283.heap n0 (by exact y285) F283b) hZ (hw _ (List.mem_of_getElem? (i := 190) rfl)) (hw _ (List.mem_of_getElem? (i := 158) rfl)) (by decide) (by decide)) q292a q292b q292c (g := (mkF m 85 #[.val (.ref mp), .val (.ref x), .val (.ref it276), .val (.ref en283)] [(.ref en283)])) rfl (by rw [hml]; rfl) (Steps.refl _) (argsL := []) (rest := []) (lenOf pd_14 rfl) rfl (by show 2 * 0 + _ ≤ _; exact Nat.le_of_eq rfl) (hb hby d16_85) (fun _ _ => ⟨rfl, e290, (by decide : 3 + 0 ≤ _), (by decide : 5 + 0 ≤ _)⟩)
    dsimp only [Pt.U, Pt.locs, Pt.cells, Pt.slots] at X292 l292 y292 z292 st292 hQ292
    subst l292 y292 z292
    obtain ⟨rfl, N292q, e292⟩ := hQ292
    have N292 := Fr.app N290 N292q
    refine own_via st292 ?_
    show own_Fin p e below _ (T292.setTop (mkF m 90 #[.val (.ref mp), .val (.ref x), .val (.ref it276), .val (.ref en283)] [(.ref u0)]))
    exact own_ret (t := (.object "java/lang/Object")) X292 hx hlk hret rfl (Or.inr (Or.inr (Or.inr (Or.inr ⟨rfl, rfl, rfl⟩)))) (hb hby d16_90) (by show QG1 Z mp x z a ka ke0 u0 c0 t_ke0 k_ke0 t_x k_x c r h0 n0 _ T292.heap _; rw [e292]; exact ⟨by rw [hr]; first | rfl | (unfold own_get1; rw [if_pos hq291]), N292, y284⟩) (by decide) (by decide)
  · obtain rfl := own_eq0 hv290 (own_l1 hq291)
    refine own_via st290 ?_
    show own_Fin p e below _ (T290.setTop (mkF m 81 #[.val (.ref mp), .val (.ref x), .val (.ref it276), .val (.ref en283)] [(.int (0 : Int32))]))
    refine own_on (fun tq => XS.ifYes X290.here hx rfl (pc0 := 81) (pc' := 91) rfl (hb hby d16_81) rfl ((if0 _ _).trans (teq (by decide : (0 : Int32) = (0 : Int32))).1) (by decide) (by decide)) ?_
    show own_Fin p e below _ (T290.setTop (mkF m 91 #[.val (.ref mp), .val (.ref x), .val (.ref it276), .val (.ref en283)] []))
    refine own_on (fun tq => XS.goto X290.here hx rfl (pc0 := 91) (pc' := 52) rfl (hb hby d16_91) (by decide) (by decide)) ?_
    show own_Fin p e below _ (T290.setTop (mkF m 52 #[.val (.ref mp), .val (.ref x), .val (.ref it276), .val (.ref en283)] []))
    refine own_on (fun tq => XS.aloadN X290.here hx rfl (hb hby d16_52) rfl rfl) ?_
    show own_Fin p e below _ (T290.setTop (mkF m 53 #[.val (.ref mp), .val (.ref x), .val (.ref it276), .val (.ref en283)] [(.ref it276)]))
    obtain ⟨cq293, kq293, q293a, q293b, q293c⟩ := isOf hZ e290 y287
    obtain ⟨_, _, ⟨T293, L293, k293, n293⟩, -, X293, ⟨Lc293, hQ293, l293, y293, z293⟩, st293⟩ := X290.interfaceBack hx (xi := (⟨"java/util/Iterator", "hasNext", "()Z"⟩ : MethodName)) (y := (⟨"com/example/settlewatt/settlewatt/model/TraceRecord$Inputs$Entries", "hasNext", "()Z"⟩ : MethodName)) hown (mvT hZ (hw _ (List.mem_of_getElem? (i := 128) rfl))) (mvT hZ (hw _ (List.mem_of_getElem? (i := 129) rfl))) (mvT hZ (hw _ (List.mem_of_getElem? (i := 130) rfl))) (mvT hZ (hw _ (List.mem_of_getElem? (i := 131) rfl))) (mvT hZ (hw _ (List.mem_of_getElem? (i := 132) rfl))) (mvT hZ (hw _ (List.mem_of_getElem? (i := 133) rfl))) (mvT hZ (hw _ (List.mem_of_getElem? (i := 134) rfl))) (mvT hZ (hw _ (List.mem_of_getElem? (i := 135) rfl))) (by decide) (backOf (W := 0) (rm19 l Z a0 hw [] it276 mp a ka (2 : Int32) (2 : Int32) _ (0 : Int32) T283.heap n0 (by exact y285) F283c F283d (F2.keep y284 nin0) (Aa.keep y284 nin0) (by decide)) hZ (hw _ (List.mem_of_getElem? (i := 136) rfl)) (hw _ (List.mem_of_getElem? (i := 121) rfl)) (by decide) (by decide)) q293a q293b q293c (g := (mkF m 53 #[.val (.ref mp), .val (.ref x), .val (.ref it276), .val (.ref en283)] [(.ref it276)])) rfl (by rw [hml]; rfl) (Steps.refl _) (argsL := []) (rest := []) (lenOf pd_9 rfl) rfl (by show 2 * 0 + _ ≤ _; exact Nat.le_of_eq rfl) (hb hby d16_53) (fun _ _ => ⟨rfl, e290, (by decide : 3 + 0 ≤ _), (by decide : 5 + 0 ≤ _)⟩)
    dsimp only [Pt.U, Pt.locs, Pt.cells, Pt.slots] at X293 l293 y293 z293 st293 hQ293
    subst l293 y293 z293
    obtain ⟨rfl, N293q, e293⟩ := hQ293
    have N293 := Fr.app N290 N293q
    refine own_via st293 ?_
    show own_Fin p e below _ (T293.setTop (mkF m 58 #[.val (.ref mp), .val (.ref x), .val (.ref it276), .val (.ref en283)] [(.int (0 : Int32))]))
    refine own_on (fun tq => XS.ifYes X293.here hx rfl (pc0 := 58) (pc' := 94) rfl (hb hby d16_58) rfl ((if0 _ _).trans (teq (by decide : (0 : Int32) = (0 : Int32))).1) (by decide) (by decide)) ?_
    show own_Fin p e below _ (T293.setTop (mkF m 94 #[.val (.ref mp), .val (.ref x), .val (.ref it276), .val (.ref en283)] []))
    refine own_on (fun tq => XS.aconstNull X293.here hx rfl (hb hby d16_94)) ?_
    show own_Fin p e below _ (T293.setTop (mkF m 95 #[.val (.ref mp), .val (.ref x), .val (.ref it276), .val (.ref en283)] [.null]))
    exact own_ret (t := (.object "java/lang/Object")) X293 hx hlk hret rfl (Or.inr (Or.inr (Or.inr (Or.inr ⟨rfl, rfl, rfl⟩)))) (hb hby d16_95) (by show QG1 Z mp x z a ka ke0 u0 c0 t_ke0 k_ke0 t_x k_x c r h0 n0 _ T293.heap _; rw [e293]; exact ⟨by rw [hr]; first | rfl | (unfold own_get1; rw [if_neg hq291]), N293, y284⟩) (by decide) (by decide)
theorem ef_rmH10 (m : MethodId) (x0 : Addr) (x1 : Addr) (x2 : Addr) (x3 : Int32) : entryFrame m #[(.ref x0), (.ref x1), (.ref x2), (.int x3)] 5 = mkF m 0 #[.val (.ref x0), .val (.ref x1), .val (.ref x2), .val (.int x3), .unset] [] := by first | (simp [entryFrame, mkF, argsToLocals, Value.category]; done) | rfl
def QH10 (Z : State) (mp : Addr) (x : Addr) (y : Addr) (z : Int32) (a : Addr) (ka : ClassId) (ke0 : Addr) (u0 : Addr) (c0 : Int32) (t_ke0 : Addr) (k_ke0 : ClassId) (t_x : Addr) (k_x : ClassId) (c : Int32) (h0 : Heap) (n0 : Nat) (v : Option Value) (h : Heap) (L : List Loc) : Prop := v = some (.int 1) ∧ Fr n0 L ∧ Keep h0 h []
set_option maxRecDepth 65536 in
set_option maxHeartbeats 40000000 in
theorem rmH10 (l : Launch) (Z : State) (a0 : Array Value) (hw : ∀ d ∈ tables_1, d.before a0 Z = true) (ws : List Jvm.Cond) (mp : Addr) (x : Addr) (y : Addr) (z : Int32) (a : Addr) (ka : ClassId) (ke0 : Addr) (u0 : Addr) (c0 : Int32) (t_ke0 : Addr) (k_ke0 : ClassId) (t_x : Addr) (k_x : ClassId) (c : Int32) (h0 : Heap) (n0 : Nat) (Z0 : n0 ≤ h0.size) (hz : ¬ z = (0 : Int32)) (O : Old Z n0 h0) (SC : Sta Z Z.heap "java/lang/String" "COMPACT_STRINGS" "Z" (.int z)) (E : Exa Z h0 mp "com/example/settlewatt/settlewatt/model/TraceRecord$Inputs") (F2 : Fld Z h0 mp "com/example/settlewatt/settlewatt/model/TraceRecord$Inputs" "namesAndValues" "[Ljava/lang/String;" (.ref a)) (Aa : Arv Z h0 a ka (.object "java/lang/String") (2 : Int32) [(.ref ke0), (.ref u0)] .null) (E_ke0 : Exa Z h0 ke0 "java/lang/String") (C_ke0 : Fld Z h0 ke0 "java/lang/String" "coder" "B" (.int 0)) (V_ke0 : Fld Z h0 ke0 "java/lang/String" "value" "[B" (.ref t_ke0)) (A_ke0 : Arv Z h0 t_ke0 k_ke0 .byte (1 : Int32) (([c0].map StrChars.lo8).map Value.int) (.int 0)) (r_ke0 : ∀ q_ ∈ [c0], ¬ q_ < 0 ∧ ¬ (255 : Int32) < q_) (E_x : Exa Z h0 x "java/lang/String") (C_x : Fld Z h0 x "java/lang/String" "coder" "B" (.int 0)) (V_x : Fld Z h0 x "java/lang/String" "value" "[B" (.ref t_x)) (A_x : Arv Z h0 t_x k_x .byte (1 : Int32) (([c].map StrChars.lo8).map Value.int) (.int 0)) (r_x : ∀ q_ ∈ [c], ¬ q_ < 0 ∧ ¬ (255 : Int32) < q_) (hr : own_get1 c c0 u0 = .null) :
    MetFree l (⟨"com/example/settlewatt/settlewatt/model/TraceRecordInputsOfPinLaw", "has", "(Ljava/util/Map;Ljava/lang/String;Ljava/lang/String;Z)Z"⟩ : MethodName) (head1 (Jvm.Cond.code (⟨"com/example/settlewatt/settlewatt/model/TraceRecordInputsOfPinLaw", "has", "(Ljava/util/Map;Ljava/lang/String;Ljava/lang/String;Z)Z"⟩ : MethodName) method_2_code 5 (some .boolean) :: ws) ({ frames := 6, cells := 3, slots := 5, locals := 77 } : Room)) (fun as_ U => as_ = #[(.ref mp), (.ref x), (.ref y), (.int (0 : Int32))] ∧ Z.Warmed39 U.vm ∧ U.heap = h0) (fun _ _ _ _ _ => True) (fun _ U out_ U' => ∃ v L, out_ = .returned v ∧ QH10 Z mp x y z a ka ke0 u0 c0 t_ke0 k_ke0 t_x k_x c h0 n0 v U'.heap L ∧ FrameEnd U out_ U' L ({ frames := 6, cells := 3, slots := 5, locals := 77 } : Room).cells ({ frames := 6, cells := 3, slots := 5, locals := 77 } : Room).slots) := by
  refine MetFree.of_bodySF (plainFor_of_name pn_10) hisR ?_
  intro p e s m args below meth cd s₁ Bd hml0 hP hK
  obtain ⟨rfl, hZ, hh⟩ := hP
  have hx := Bd.exec
  have hby := Bd.bytes
  have hml : cd.maxLocals = 5 := hml0
  have hlk : meth.locks = false := BodyLoose.notSynchronized Bd
  have hown : s.vm.findClass "com/example/settlewatt/settlewatt/model/TraceRecordInputsOfPinLaw" = some m.cls := findClass_of_methodNamed Bd.named
  have hnm := (name_of_methodNamed Bd.named Bd.method).1
  have hret := Bd.returns
  have X0 : Stand p l e ({ frames := 6, cells := 3, slots := 5, locals := 77 } : Room) s m #[(.ref mp), (.ref x), (.ref y), (.int (0 : Int32))] below meth cd s₁ [] 0 0 := Stand.of_body Bd
  have e0 : s₁.heap = h0 := by rw [← hh, Bd.state]; rfl
  have N0 := Fr.nil n0
  show own_Fin p e below (own_Ans s (QH10 Z mp x y z a ka ke0 u0 c0 t_ke0 k_ke0 t_x k_x c h0 n0) ({ frames := 6, cells := 3, slots := 5, locals := 77 } : Room).cells ({ frames := 6, cells := 3, slots := 5, locals := 77 } : Room).slots) (s₁.setTop (entryFrame m #[(.ref mp), (.ref x), (.ref y), (.int (0 : Int32))] 5))
  refine own_cast (ef_rmH10 m mp x y (0 : Int32)) ?_
  show own_Fin p e below _ (s₁.setTop (mkF m 0 #[.val (.ref mp), .val (.ref x), .val (.ref y), .val (.int (0 : Int32)), .unset] []))
  refine own_on (fun tq => XS.aloadN X0.here hx rfl (hb hby d15_0) rfl rfl) ?_
  show own_Fin p e below _ (s₁.setTop (mkF m 1 #[.val (.ref mp), .val (.ref x), .val (.ref y), .val (.int (0 : Int32)), .unset] [(.ref mp)]))
  refine own_on (fun tq => XS.aloadN X0.here hx rfl (hb hby d15_1) rfl rfl) ?_
  show own_Fin p e below _ (s₁.setTop (mkF m 2 #[.val (.ref mp), .val (.ref x), .val (.ref y), .val (.int (0 : Int32)), .unset] [(.ref x), (.ref mp)]))
  obtain ⟨cq294, kq294, q294a, q294b, q294c⟩ := isOf hZ e0 (E.keep (Keep.refl h0 []))
  obtain ⟨_, _, ⟨T294, L294, k294, n294⟩, -, X294, ⟨Lc294, hQ294, l294, y294, z294⟩, st294⟩ := X0.interfaceBack hx (xi := (⟨"java/util/Map", "get", "(Ljava/lang/Object;)Ljava/lang/Object;"⟩ : MethodName)) (y := (⟨"java/util/AbstractMap", "get", "(Ljava/lang/Object;)Ljava/lang/Object;"⟩ : MethodName)) hown (mvT hZ (hw _ (List.mem_of_getElem? (i := 103) rfl))) (mvT hZ (hw _ (List.mem_of_getElem? (i := 104) rfl))) (mvT hZ (hw _ (List.mem_of_getElem? (i := 105) rfl))) (mvT hZ (hw _ (List.mem_of_getElem? (i := 106) rfl))) (mvT hZ (hw _ (List.mem_of_getElem? (i := 107) rfl))) (mvT hZ (hw _ (List.mem_of_getElem? (i := 108) rfl))) (mvT hZ (hw _ (List.mem_of_getElem? (i := 109) rfl))) (mvT hZ (hw _ (List.mem_of_getElem? (i := 62) rfl))) (by decide) (backOf (W := 0) (rmG1 l Z a0 hw [] mp x z a ka ke0 u0 c0 t_ke0 k_ke0 t_x k_x c .null h0 n0 (by exact Z0) hz O SC (E.keep (Keep.refl h0 [])) (F2.keep (Keep.refl h0 []) nin0) (Aa.keep (Keep.refl h0 []) nin0) (E_ke0.keep (Keep.refl h0 [])) (C_ke0.keep (Keep.refl h0 []) nin0) (V_ke0.keep (Keep.refl h0 []) nin0) (A_ke0.keep (Keep.refl h0 []) nin0) r_ke0 (E_x.keep (Keep.refl h0 [])) (C_x.keep (Keep.refl h0 []) nin0) (V_x.keep (Keep.refl h0 []) nin0) (A_x.keep (Keep.refl h0 []) nin0) r_x hr.symm) hZ (hw _ (List.mem_of_getElem? (i := 110) rfl)) (hw _ (List.mem_of_getElem? (i := 50) rfl)) (by decide) (by decide)) q294a q294b q294c (g := (mkF m 2 #[.val (.ref mp), .val (.ref x), .val (.ref y), .val (.int (0 : Int32)), .unset] [(.ref x), (.ref mp)])) rfl (by rw [hml]; rfl) (Steps.refl _) (argsL := [(.ref x)]) (rest := []) (lenOf pd_13 rfl) rfl (by show 2 * 0 + _ ≤ _; exact Nat.le_of_eq rfl) (hb hby d15_2) (fun _ _ => ⟨rfl, e0, (by decide : 0 + 3 ≤ _), (by decide : 0 + 5 ≤ _)⟩)
  dsimp only [Pt.U, Pt.locs, Pt.cells, Pt.slots] at X294 l294 y294 z294 st294 hQ294
  subst l294 y294 z294
  obtain ⟨rfl, N294q, K294⟩ := hQ294
  have N294 := Fr.app N0 N294q
  have y295 := ((Keep.refl h0 []).trans K294 all0)
  have y296 := (Nat.le_trans Z0 K294.1)
  have y297 := (O.keep K294 all0)
  refine own_via st294 ?_
  show own_Fin p e below _ (T294.setTop (mkF m 7 #[.val (.ref mp), .val (.ref x), .val (.ref y), .val (.int (0 : Int32)), .unset] [.null]))
  refine own_on (fun tq => X294.checkcastNull hx (g := (mkF m 7 #[.val (.ref mp), .val (.ref x), .val (.ref y), .val (.int (0 : Int32)), .unset] [.null])) rfl rfl (hb hby d15_7) tq) ?_
  show own_Fin p e below _ (T294.setTop (mkF m 10 #[.val (.ref mp), .val (.ref x), .val (.ref y), .val (.int (0 : Int32)), .unset] [.null]))
  refine own_on (fun tq => XS.astore X294.here hx rfl (hb hby d15_10) rfl rfl (l' := #[.val (.ref mp), .val (.ref x), .val (.ref y), .val (.int (0 : Int32)), .val .null]) rfl) ?_
  show own_Fin p e below _ (T294.setTop (mkF m 12 #[.val (.ref mp), .val (.ref x), .val (.ref y), .val (.int (0 : Int32)), .val .null] []))
  refine own_on (fun tq => XS.iloadN X294.here hx rfl (hb hby d15_12) rfl) ?_
  show own_Fin p e below _ (T294.setTop (mkF m 13 #[.val (.ref mp), .val (.ref x), .val (.ref y), .val (.int (0 : Int32)), .val .null] [(.int (0 : Int32))]))
  refine own_on (fun tq => XS.ifYes X294.here hx rfl (pc0 := 13) (pc' := 36) rfl (hb hby d15_13) rfl ((if0 _ _).trans (teq (by decide : (0 : Int32) = (0 : Int32))).1) (by decide) (by decide)) ?_
  show own_Fin p e below _ (T294.setTop (mkF m 36 #[.val (.ref mp), .val (.ref x), .val (.ref y), .val (.int (0 : Int32)), .val .null] []))
  refine own_on (fun tq => XS.aload X294.here hx rfl (hb hby d15_36) rfl rfl) ?_
  show own_Fin p e below _ (T294.setTop (mkF m 38 #[.val (.ref mp), .val (.ref x), .val (.ref y), .val (.int (0 : Int32)), .val .null] [.null]))
  refine own_on (fun tq => XS.ifnonnullNo X294.here hx rfl (hb hby d15_38) rfl) ?_
  show own_Fin p e below _ (T294.setTop (mkF m 41 #[.val (.ref mp), .val (.ref x), .val (.ref y), .val (.int (0 : Int32)), .val .null] []))
  refine own_on (fun tq => XS.iconst X294.here hx rfl (hb hby d15_41)) ?_
  show own_Fin p e below _ (T294.setTop (mkF m 42 #[.val (.ref mp), .val (.ref x), .val (.ref y), .val (.int (0 : Int32)), .val .null] [(.int (1 : Int32))]))
  refine own_on (fun tq => XS.goto X294.here hx rfl (pc0 := 42) (pc' := 46) rfl (hb hby d15_42) (by decide) (by decide)) ?_
  show own_Fin p e below _ (T294.setTop (mkF m 46 #[.val (.ref mp), .val (.ref x), .val (.ref y), .val (.int (0 : Int32)), .val .null] [(.int (1 : Int32))]))
  exact own_ret (t := .boolean) X294 hx hlk hret rfl (Or.inl ⟨rfl, (by simp), _, rfl⟩) (hb hby d15_46) (by show QH10 Z mp x y z a ka ke0 u0 c0 t_ke0 k_ke0 t_x k_x c h0 n0 _ T294.heap _; exact ⟨rfl, N294, y295⟩) (by decide) (by decide)
theorem d15_16 : decode method_2_code 16 = .ok (.aload 4, 2) := by decide +kernel
theorem d15_18 : decode method_2_code 18 = .ok (.ifnull 16, 3) := by decide +kernel
theorem d15_21 : decode method_2_code 21 = .ok (.aload 4, 2) := by decide +kernel
theorem d15_23 : decode method_2_code 23 = .ok (.aload_n 2, 1) := by decide +kernel
theorem d15_24 : decode method_2_code 24 = .ok (.invokevirtual 15, 3) := by decide +kernel
theorem d15_27 : decode method_2_code 27 = .ok (.ifCond .eq 7, 3) := by decide +kernel
theorem d15_30 : decode method_2_code 30 = .ok (.iconst 1, 1) := by decide +kernel
theorem d15_31 : decode method_2_code 31 = .ok (.goto 4, 3) := by decide +kernel
theorem d15_35 : decode method_2_code 35 = .ok (.ireturn, 1) := by decide +kernel
theorem ef_rmH11 (m : MethodId) (x0 : Addr) (x1 : Addr) (x2 : Addr) (x3 : Int32) : entryFrame m #[(.ref x0), (.ref x1), (.ref x2), (.int x3)] 5 = mkF m 0 #[.val (.ref x0), .val (.ref x1), .val (.ref x2), .val (.int x3), .unset] [] := by first | (simp [entryFrame, mkF, argsToLocals, Value.category]; done) | rfl
def QH11 (Z : State) (mp : Addr) (x : Addr) (y : Addr) (z : Int32) (a : Addr) (ka : ClassId) (ke0 : Addr) (u0 : Addr) (c0 : Int32) (t_ke0 : Addr) (k_ke0 : ClassId) (t_x : Addr) (k_x : ClassId) (c : Int32) (t_y : Addr) (k_y : ClassId) (d : Int32) (h0 : Heap) (n0 : Nat) (v : Option Value) (h : Heap) (L : List Loc) : Prop := v = some (.int 1) ∧ Fr n0 L ∧ Keep h0 h []
set_option maxRecDepth 65536 in
set_option maxHeartbeats 40000000 in
theorem rmH11 (l : Launch) (Z : State) (a0 : Array Value) (hw : ∀ d ∈ tables_1, d.before a0 Z = true) (ws : List Jvm.Cond) (mp : Addr) (x : Addr) (y : Addr) (z : Int32) (a : Addr) (ka : ClassId) (ke0 : Addr) (u0 : Addr) (c0 : Int32) (t_ke0 : Addr) (k_ke0 : ClassId) (t_x : Addr) (k_x : ClassId) (c : Int32) (t_y : Addr) (k_y : ClassId) (d : Int32) (h0 : Heap) (n0 : Nat) (Z0 : n0 ≤ h0.size) (hz : ¬ z = (0 : Int32)) (O : Old Z n0 h0) (SC : Sta Z Z.heap "java/lang/String" "COMPACT_STRINGS" "Z" (.int z)) (E : Exa Z h0 mp "com/example/settlewatt/settlewatt/model/TraceRecord$Inputs") (F2 : Fld Z h0 mp "com/example/settlewatt/settlewatt/model/TraceRecord$Inputs" "namesAndValues" "[Ljava/lang/String;" (.ref a)) (Aa : Arv Z h0 a ka (.object "java/lang/String") (2 : Int32) [(.ref ke0), (.ref u0)] .null) (E_ke0 : Exa Z h0 ke0 "java/lang/String") (C_ke0 : Fld Z h0 ke0 "java/lang/String" "coder" "B" (.int 0)) (V_ke0 : Fld Z h0 ke0 "java/lang/String" "value" "[B" (.ref t_ke0)) (A_ke0 : Arv Z h0 t_ke0 k_ke0 .byte (1 : Int32) (([c0].map StrChars.lo8).map Value.int) (.int 0)) (r_ke0 : ∀ q_ ∈ [c0], ¬ q_ < 0 ∧ ¬ (255 : Int32) < q_) (E_x : Exa Z h0 x "java/lang/String") (C_x : Fld Z h0 x "java/lang/String" "coder" "B" (.int 0)) (V_x : Fld Z h0 x "java/lang/String" "value" "[B" (.ref t_x)) (A_x : Arv Z h0 t_x k_x .byte (1 : Int32) (([c].map StrChars.lo8).map Value.int) (.int 0)) (r_x : ∀ q_ ∈ [c], ¬ q_ < 0 ∧ ¬ (255 : Int32) < q_) (E_y : Exa Z h0 y "java/lang/String") (C_y : Fld Z h0 y "java/lang/String" "coder" "B" (.int 0)) (V_y : Fld Z h0 y "java/lang/String" "value" "[B" (.ref t_y)) (A_y : Arv Z h0 t_y k_y .byte (1 : Int32) (([d].map StrChars.lo8).map Value.int) (.int 0)) (r_y : ∀ q_ ∈ [d], ¬ q_ < 0 ∧ ¬ (255 : Int32) < q_) (hr : own_get1 c c0 u0 = .ref y) :
    MetFree l (⟨"com/example/settlewatt/settlewatt/model/TraceRecordInputsOfPinLaw", "has", "(Ljava/util/Map;Ljava/lang/String;Ljava/lang/String;Z)Z"⟩ : MethodName) (head1 (Jvm.Cond.code (⟨"com/example/settlewatt/settlewatt/model/TraceRecordInputsOfPinLaw", "has", "(Ljava/util/Map;Ljava/lang/String;Ljava/lang/String;Z)Z"⟩ : MethodName) method_2_code 5 (some .boolean) :: ws) ({ frames := 6, cells := 3, slots := 5, locals := 77 } : Room)) (fun as_ U => as_ = #[(.ref mp), (.ref x), (.ref y), (.int (1 : Int32))] ∧ Z.Warmed39 U.vm ∧ U.heap = h0) (fun _ _ _ _ _ => True) (fun _ U out_ U' => ∃ v L, out_ = .returned v ∧ QH11 Z mp x y z a ka ke0 u0 c0 t_ke0 k_ke0 t_x k_x c t_y k_y d h0 n0 v U'.heap L ∧ FrameEnd U out_ U' L ({ frames := 6, cells := 3, slots := 5, locals := 77 } : Room).cells ({ frames := 6, cells := 3, slots := 5, locals := 77 } : Room).slots) := by
  refine MetFree.of_bodySF (plainFor_of_name pn_10) hisR ?_
  intro p e s m args below meth cd s₁ Bd hml0 hP hK
  obtain ⟨rfl, hZ, hh⟩ := hP
  have hx := Bd.exec
  have hby := Bd.bytes
  have hml : cd.maxLocals = 5 := hml0
  have hlk : meth.locks = false := BodyLoose.notSynchronized Bd
  have hown : s.vm.findClass "com/example/settlewatt/settlewatt/model/TraceRecordInputsOfPinLaw" = some m.cls := findClass_of_methodNamed Bd.named
  have hnm := (name_of_methodNamed Bd.named Bd.method).1
  have hret := Bd.returns
  have X0 : Stand p l e ({ frames := 6, cells := 3, slots := 5, locals := 77 } : Room) s m #[(.ref mp), (.ref x), (.ref y), (.int (1 : Int32))] below meth cd s₁ [] 0 0 := Stand.of_body Bd
  have e0 : s₁.heap = h0 := by rw [← hh, Bd.state]; rfl
  have N0 := Fr.nil n0
  show own_Fin p e below (own_Ans s (QH11 Z mp x y z a ka ke0 u0 c0 t_ke0 k_ke0 t_x k_x c t_y k_y d h0 n0) ({ frames := 6, cells := 3, slots := 5, locals := 77 } : Room).cells ({ frames := 6, cells := 3, slots := 5, locals := 77 } : Room).slots) (s₁.setTop (entryFrame m #[(.ref mp), (.ref x), (.ref y), (.int (1 : Int32))] 5))
  refine own_cast (ef_rmH11 m mp x y (1 : Int32)) ?_
  show own_Fin p e below _ (s₁.setTop (mkF m 0 #[.val (.ref mp), .val (.ref x), .val (.ref y), .val (.int (1 : Int32)), .unset] []))
  refine own_on (fun tq => XS.aloadN X0.here hx rfl (hb hby d15_0) rfl rfl) ?_
  show own_Fin p e below _ (s₁.setTop (mkF m 1 #[.val (.ref mp), .val (.ref x), .val (.ref y), .val (.int (1 : Int32)), .unset] [(.ref mp)]))
  refine own_on (fun tq => XS.aloadN X0.here hx rfl (hb hby d15_1) rfl rfl) ?_
  show own_Fin p e below _ (s₁.setTop (mkF m 2 #[.val (.ref mp), .val (.ref x), .val (.ref y), .val (.int (1 : Int32)), .unset] [(.ref x), (.ref mp)]))
  obtain ⟨cq298, kq298, q298a, q298b, q298c⟩ := isOf hZ e0 (E.keep (Keep.refl h0 []))
  obtain ⟨_, _, ⟨T298, L298, k298, n298⟩, -, X298, ⟨Lc298, hQ298, l298, y298, z298⟩, st298⟩ := X0.interfaceBack hx (xi := (⟨"java/util/Map", "get", "(Ljava/lang/Object;)Ljava/lang/Object;"⟩ : MethodName)) (y := (⟨"java/util/AbstractMap", "get", "(Ljava/lang/Object;)Ljava/lang/Object;"⟩ : MethodName)) hown (mvT hZ (hw _ (List.mem_of_getElem? (i := 103) rfl))) (mvT hZ (hw _ (List.mem_of_getElem? (i := 104) rfl))) (mvT hZ (hw _ (List.mem_of_getElem? (i := 105) rfl))) (mvT hZ (hw _ (List.mem_of_getElem? (i := 106) rfl))) (mvT hZ (hw _ (List.mem_of_getElem? (i := 107) rfl))) (mvT hZ (hw _ (List.mem_of_getElem? (i := 108) rfl))) (mvT hZ (hw _ (List.mem_of_getElem? (i := 109) rfl))) (mvT hZ (hw _ (List.mem_of_getElem? (i := 62) rfl))) (by decide) (backOf (W := 0) (rmG1 l Z a0 hw [] mp x z a ka ke0 u0 c0 t_ke0 k_ke0 t_x k_x c (.ref y) h0 n0 (by exact Z0) hz O SC (E.keep (Keep.refl h0 [])) (F2.keep (Keep.refl h0 []) nin0) (Aa.keep (Keep.refl h0 []) nin0) (E_ke0.keep (Keep.refl h0 [])) (C_ke0.keep (Keep.refl h0 []) nin0) (V_ke0.keep (Keep.refl h0 []) nin0) (A_ke0.keep (Keep.refl h0 []) nin0) r_ke0 (E_x.keep (Keep.refl h0 [])) (C_x.keep (Keep.refl h0 []) nin0) (V_x.keep (Keep.refl h0 []) nin0) (A_x.keep (Keep.refl h0 []) nin0) r_x hr.symm) hZ (hw _ (List.mem_of_getElem? (i := 110) rfl)) (hw _ (List.mem_of_getElem? (i := 50) rfl)) (by decide) (by decide)) q298a q298b q298c (g := (mkF m 2 #[.val (.ref mp), .val (.ref x), .val (.ref y), .val (.int (1 : Int32)), .unset] [(.ref x), (.ref mp)])) rfl (by rw [hml]; rfl) (Steps.refl _) (argsL := [(.ref x)]) (rest := []) (lenOf pd_13 rfl) rfl (by show 2 * 0 + _ ≤ _; exact Nat.le_of_eq rfl) (hb hby d15_2) (fun _ _ => ⟨rfl, e0, (by decide : 0 + 3 ≤ _), (by decide : 0 + 5 ≤ _)⟩)
  dsimp only [Pt.U, Pt.locs, Pt.cells, Pt.slots] at X298 l298 y298 z298 st298 hQ298
  subst l298 y298 z298
  obtain ⟨rfl, N298q, K298⟩ := hQ298
  have N298 := Fr.app N0 N298q
  have y299 := ((Keep.refl h0 []).trans K298 all0)
  have y300 := (Nat.le_trans Z0 K298.1)
  have y301 := (O.keep K298 all0)
  refine own_via st298 ?_
  show own_Fin p e below _ (T298.setTop (mkF m 7 #[.val (.ref mp), .val (.ref x), .val (.ref y), .val (.int (1 : Int32)), .unset] [(.ref y)]))
  obtain ⟨T302, X302, e302, st302⟩ := castY X298 hx hZ hown (hw _ (List.mem_of_getElem? (i := 26) rfl)) rfl (Ins.self (E_y.keep y299)) (g := (mkF m 7 #[.val (.ref mp), .val (.ref x), .val (.ref y), .val (.int (1 : Int32)), .unset] [(.ref y)])) rfl rfl (hb hby d15_7)
  refine own_on st302 ?_
  show own_Fin p e below _ (T302.setTop (mkF m 10 #[.val (.ref mp), .val (.ref x), .val (.ref y), .val (.int (1 : Int32)), .unset] [(.ref y)]))
  refine own_on (fun tq => XS.astore X302.here hx rfl (hb hby d15_10) rfl rfl (l' := #[.val (.ref mp), .val (.ref x), .val (.ref y), .val (.int (1 : Int32)), .val (.ref y)]) rfl) ?_
  show own_Fin p e below _ (T302.setTop (mkF m 12 #[.val (.ref mp), .val (.ref x), .val (.ref y), .val (.int (1 : Int32)), .val (.ref y)] []))
  refine own_on (fun tq => XS.iloadN X302.here hx rfl (hb hby d15_12) rfl) ?_
  show own_Fin p e below _ (T302.setTop (mkF m 13 #[.val (.ref mp), .val (.ref x), .val (.ref y), .val (.int (1 : Int32)), .val (.ref y)] [(.int (1 : Int32))]))
  refine own_on (fun tq => XS.ifNo X302.here hx rfl (hb hby d15_13) rfl ((if0 _ _).trans (feq (by decide : ¬ ((1 : Int32) = (0 : Int32)))).1)) ?_
  show own_Fin p e below _ (T302.setTop (mkF m 16 #[.val (.ref mp), .val (.ref x), .val (.ref y), .val (.int (1 : Int32)), .val (.ref y)] []))
  refine own_on (fun tq => XS.aload X302.here hx rfl (hb hby d15_16) rfl rfl) ?_
  show own_Fin p e below _ (T302.setTop (mkF m 18 #[.val (.ref mp), .val (.ref x), .val (.ref y), .val (.int (1 : Int32)), .val (.ref y)] [(.ref y)]))
  refine own_on (fun tq => XS.ifnullNo X302.here hx rfl (hb hby d15_18) rfl) ?_
  show own_Fin p e below _ (T302.setTop (mkF m 21 #[.val (.ref mp), .val (.ref x), .val (.ref y), .val (.int (1 : Int32)), .val (.ref y)] []))
  refine own_on (fun tq => XS.aload X302.here hx rfl (hb hby d15_21) rfl rfl) ?_
  show own_Fin p e below _ (T302.setTop (mkF m 23 #[.val (.ref mp), .val (.ref x), .val (.ref y), .val (.int (1 : Int32)), .val (.ref y)] [(.ref y)]))
  refine own_on (fun tq => XS.aloadN X302.here hx rfl (hb hby d15_23) rfl rfl) ?_
  show own_Fin p e below _ (T302.setTop (mkF m 24 #[.val (.ref mp), .val (.ref x), .val (.ref y), .val (.int (1 : Int32)), .val (.ref y)] [(.ref y), (.ref y)]))
  obtain ⟨cq303, kq303, q303a, q303b, q303c⟩ := isOf hZ e302 (E_y.keep y299)
  obtain ⟨_, _, ⟨T303, L303, k303, n303⟩, -, X303, ⟨Lc303, hQ303, l303, y303, z303⟩, st303⟩ := X302.virtualBack hx (y := (⟨"java/lang/String", "equals", "(Ljava/lang/Object;)Z"⟩ : MethodName)) (z := (⟨"java/lang/String", "equals", "(Ljava/lang/Object;)Z"⟩ : MethodName)) hown (mvT hZ (hw _ (List.mem_of_getElem? (i := 191) rfl))) (mvT hZ (hw _ (List.mem_of_getElem? (i := 192) rfl))) (notFace_of_selects (args := #[]) (mvT hZ (hw _ (List.mem_of_getElem? (i := 193) rfl)))) (mvT hZ (hw _ (List.mem_of_getElem? (i := 193) rfl))) (mvT hZ (hw _ (List.mem_of_getElem? (i := 181) rfl))) (by decide) (StrChars.Road.eqW (W := 0) hZ (own_wE hw) (hw _ (List.mem_of_getElem? (i := 10) rfl)) (E_y.keep y299) (V_y.keep y299 nin0) (C_y.keep y299 nin0) (A_y.keep y299 nin0) (own_cod (cs := [d]) (n := 1) rfl (fun c q => (r_y c q).2)) (own_r16 r_y) (Nat.le_of_ble_eq_true rfl) (E_y.keep y299) (V_y.keep y299 nin0) (C_y.keep y299 nin0) (A_y.keep y299 nin0) (own_cod (cs := [d]) (n := 1) rfl (fun c q => (r_y c q).2)) (own_r16 r_y) (Nat.le_of_ble_eq_true rfl) (SC.ext y301.2) hz (by decide) (by decide)) q303a q303c (g := (mkF m 24 #[.val (.ref mp), .val (.ref x), .val (.ref y), .val (.int (1 : Int32)), .val (.ref y)] [(.ref y), (.ref y)])) rfl (by rw [hml]; rfl) (Steps.refl _) (argsL := [(.ref y)]) (rest := []) (lenOf pd_5 rfl) rfl (by show 2 * 0 + _ ≤ _; exact Nat.le_of_eq rfl) (hb hby d15_24) (fun _ _ => ⟨rfl, e302, (by decide : 3 + 0 ≤ _), (by decide : 5 + 0 ≤ _)⟩)
  dsimp only [Pt.U, Pt.locs, Pt.cells, Pt.slots] at X303 l303 y303 z303 st303 hQ303
  subst l303 y303 z303
  obtain ⟨hv303, rfl, e303⟩ := hQ303
  have N303 := Fr.app N298 (Fr.nil n0)
  obtain rfl := own_eq1 hv303 rfl
  refine own_via st303 ?_
  show own_Fin p e below _ (T303.setTop (mkF m 27 #[.val (.ref mp), .val (.ref x), .val (.ref y), .val (.int (1 : Int32)), .val (.ref y)] [(.int (1 : Int32))]))
  refine own_on (fun tq => XS.ifNo X303.here hx rfl (hb hby d15_27) rfl ((if0 _ _).trans (feq (by decide : ¬ ((1 : Int32) = (0 : Int32)))).1)) ?_
  show own_Fin p e below _ (T303.setTop (mkF m 30 #[.val (.ref mp), .val (.ref x), .val (.ref y), .val (.int (1 : Int32)), .val (.ref y)] []))
  refine own_on (fun tq => XS.iconst X303.here hx rfl (hb hby d15_30)) ?_
  show own_Fin p e below _ (T303.setTop (mkF m 31 #[.val (.ref mp), .val (.ref x), .val (.ref y), .val (.int (1 : Int32)), .val (.ref y)] [(.int (1 : Int32))]))
  refine own_on (fun tq => XS.goto X303.here hx rfl (pc0 := 31) (pc' := 35) rfl (hb hby d15_31) (by decide) (by decide)) ?_
  show own_Fin p e below _ (T303.setTop (mkF m 35 #[.val (.ref mp), .val (.ref x), .val (.ref y), .val (.int (1 : Int32)), .val (.ref y)] [(.int (1 : Int32))]))
  exact own_ret (t := .boolean) X303 hx hlk hret rfl (Or.inl ⟨rfl, (by simp), _, rfl⟩) (hb hby d15_35) (by show QH11 Z mp x y z a ka ke0 u0 c0 t_ke0 k_ke0 t_x k_x c t_y k_y d h0 n0 _ T303.heap _; rw [e303]; exact ⟨rfl, N303, y299⟩) (by decide) (by decide)
def own_get2 (c : Int32) (c0 c1 : Int32) (u0 u1 : Addr) : Value := if c = c0 then .ref u0 else if c = c1 then .ref u1 else .null
theorem ef_rmG2 (m : MethodId) (x0 : Addr) (x1 : Addr) : entryFrame m #[(.ref x0), (.ref x1)] 4 = mkF m 0 #[.val (.ref x0), .val (.ref x1), .unset, .unset] [] := by first | (simp [entryFrame, mkF, argsToLocals, Value.category]; done) | rfl
def QG2 (Z : State) (mp : Addr) (x : Addr) (z : Int32) (a : Addr) (ka : ClassId) (ke0 : Addr) (ke1 : Addr) (u0 : Addr) (u1 : Addr) (c0 : Int32) (c1 : Int32) (t_ke0 : Addr) (k_ke0 : ClassId) (t_ke1 : Addr) (k_ke1 : ClassId) (t_x : Addr) (k_x : ClassId) (c : Int32) (r : Value) (h0 : Heap) (n0 : Nat) (v : Option Value) (h : Heap) (L : List Loc) : Prop := v = some r ∧ Fr n0 L ∧ Keep h0 h []
set_option maxRecDepth 65536 in
set_option maxHeartbeats 40000000 in
theorem rmG2 (l : Launch) (Z : State) (a0 : Array Value) (hw : ∀ d ∈ tables_1, d.before a0 Z = true) (ws : List Jvm.Cond) (mp : Addr) (x : Addr) (z : Int32) (a : Addr) (ka : ClassId) (ke0 : Addr) (ke1 : Addr) (u0 : Addr) (u1 : Addr) (c0 : Int32) (c1 : Int32) (t_ke0 : Addr) (k_ke0 : ClassId) (t_ke1 : Addr) (k_ke1 : ClassId) (t_x : Addr) (k_x : ClassId) (c : Int32) (r : Value) (h0 : Heap) (n0 : Nat) (Z0 : n0 ≤ h0.size) (hz : ¬ z = (0 : Int32)) (O : Old Z n0 h0) (SC : Sta Z Z.heap "java/lang/String" "COMPACT_STRINGS" "Z" (.int z)) (E : Exa Z h0 mp "com/example/settlewatt/settlewatt/model/TraceRecord$Inputs") (F2 : Fld Z h0 mp "com/example/settlewatt/settlewatt/model/TraceRecord$Inputs" "namesAndValues" "[Ljava/lang/String;" (.ref a)) (Aa : Arv Z h0 a ka (.object "java/lang/String") (4 : Int32) [(.ref ke0), (.ref u0), (.ref ke1), (.ref u1)] .null) (E_ke0 : Exa Z h0 ke0 "java/lang/String") (C_ke0 : Fld Z h0 ke0 "java/lang/String" "coder" "B" (.int 0)) (V_ke0 : Fld Z h0 ke0 "java/lang/String" "value" "[B" (.ref t_ke0)) (A_ke0 : Arv Z h0 t_ke0 k_ke0 .byte (1 : Int32) (([c0].map StrChars.lo8).map Value.int) (.int 0)) (r_ke0 : ∀ q_ ∈ [c0], ¬ q_ < 0 ∧ ¬ (255 : Int32) < q_) (E_ke1 : Exa Z h0 ke1 "java/lang/String") (C_ke1 : Fld Z h0 ke1 "java/lang/String" "coder" "B" (.int 0)) (V_ke1 : Fld Z h0 ke1 "java/lang/String" "value" "[B" (.ref t_ke1)) (A_ke1 : Arv Z h0 t_ke1 k_ke1 .byte (1 : Int32) (([c1].map StrChars.lo8).map Value.int) (.int 0)) (r_ke1 : ∀ q_ ∈ [c1], ¬ q_ < 0 ∧ ¬ (255 : Int32) < q_) (E_x : Exa Z h0 x "java/lang/String") (C_x : Fld Z h0 x "java/lang/String" "coder" "B" (.int 0)) (V_x : Fld Z h0 x "java/lang/String" "value" "[B" (.ref t_x)) (A_x : Arv Z h0 t_x k_x .byte (1 : Int32) (([c].map StrChars.lo8).map Value.int) (.int 0)) (r_x : ∀ q_ ∈ [c], ¬ q_ < 0 ∧ ¬ (255 : Int32) < q_) (hr : r = own_get2 c c0 c1 u0 u1) :
    MetFree l (⟨"java/util/AbstractMap", "get", "(Ljava/lang/Object;)Ljava/lang/Object;"⟩ : MethodName) (head1 (Jvm.Cond.code (⟨"java/util/AbstractMap", "get", "(Ljava/lang/Object;)Ljava/lang/Object;"⟩ : MethodName) jdk_71_method_6_code 4 (some (.object "java/lang/Object")) :: ws) ({ frames := 5, cells := 4, slots := 7, locals := 62 } : Room)) (fun as_ U => as_ = #[(.ref mp), (.ref x)] ∧ Z.Warmed39 U.vm ∧ U.heap = h0) (fun _ _ _ _ _ => True) (fun _ U out_ U' => ∃ v L, out_ = .returned v ∧ QG2 Z mp x z a ka ke0 ke1 u0 u1 c0 c1 t_ke0 k_ke0 t_ke1 k_ke1 t_x k_x c r h0 n0 v U'.heap L ∧ FrameEnd U out_ U' L ({ frames := 5, cells := 4, slots := 7, locals := 62 } : Room).cells ({ frames := 5, cells := 4, slots := 7, locals := 62 } : Room).slots) := by
  refine MetFree.of_bodySF (plainFor_of_name pn_2) hisR ?_
  intro p e s m args below meth cd s₁ Bd hml0 hP hK
  obtain ⟨rfl, hZ, hh⟩ := hP
  have hx := Bd.exec
  have hby := Bd.bytes
  have hml : cd.maxLocals = 4 := hml0
  have hlk : meth.locks = false := BodyLoose.notSynchronized Bd
  have hown : s.vm.findClass "java/util/AbstractMap" = some m.cls := findClass_of_methodNamed Bd.named
  have hnm := (name_of_methodNamed Bd.named Bd.method).1
  have hret := Bd.returns
  have X0 : Stand p l e ({ frames := 5, cells := 4, slots := 7, locals := 62 } : Room) s m #[(.ref mp), (.ref x)] below meth cd s₁ [] 0 0 := Stand.of_body Bd
  have e0 : s₁.heap = h0 := by rw [← hh, Bd.state]; rfl
  have N0 := Fr.nil n0
  show own_Fin p e below (own_Ans s (QG2 Z mp x z a ka ke0 ke1 u0 u1 c0 c1 t_ke0 k_ke0 t_ke1 k_ke1 t_x k_x c r h0 n0) ({ frames := 5, cells := 4, slots := 7, locals := 62 } : Room).cells ({ frames := 5, cells := 4, slots := 7, locals := 62 } : Room).slots) (s₁.setTop (entryFrame m #[(.ref mp), (.ref x)] 4))
  refine own_cast (ef_rmG2 m mp x) ?_
  show own_Fin p e below _ (s₁.setTop (mkF m 0 #[.val (.ref mp), .val (.ref x), .unset, .unset] []))
  refine own_on (fun tq => XS.aloadN X0.here hx rfl (hb hby d16_0) rfl rfl) ?_
  show own_Fin p e below _ (s₁.setTop (mkF m 1 #[.val (.ref mp), .val (.ref x), .unset, .unset] [(.ref mp)]))
  obtain ⟨cq304, kq304, q304a, q304b, q304c⟩ := isOf hZ e0 (E.keep (Keep.refl h0 []))
  obtain ⟨_, _, ⟨T304, L304, k304, n304⟩, -, X304, ⟨Lc304, hQ304, l304, y304, z304⟩, st304⟩ := X0.virtualBack hx (y := (⟨"java/util/AbstractMap", "entrySet", "()Ljava/util/Set;"⟩ : MethodName)) (z := (⟨"com/example/settlewatt/settlewatt/model/TraceRecord$Inputs", "entrySet", "()Ljava/util/Set;"⟩ : MethodName)) hown (mvT hZ (hw _ (List.mem_of_getElem? (i := 64) rfl))) (mvT hZ (hw _ (List.mem_of_getElem? (i := 65) rfl))) (own_nf (a0 := #[]) (mvT hZ (hw _ (List.mem_of_getElem? (i := 58) rfl))) rfl) (mvT hZ (hw _ (List.mem_of_getElem? (i := 66) rfl))) (mvT hZ (hw _ (List.mem_of_getElem? (i := 67) rfl))) (by decide) (backOf (W := 0) (rm10 l Z a0 hw [] mp h0 n0 (by exact Z0)) hZ (hw _ (List.mem_of_getElem? (i := 68) rfl)) (hw _ (List.mem_of_getElem? (i := 34) rfl)) (by decide) (by decide)) q304a q304c (g := (mkF m 1 #[.val (.ref mp), .val (.ref x), .unset, .unset] [(.ref mp)])) rfl (by rw [hml]; rfl) (Steps.refl _) (argsL := []) (rest := []) (lenOf pd_7 rfl) rfl (by show 2 * 0 + _ ≤ _; exact Nat.le_of_eq rfl) (hb hby d16_1) (fun _ _ => ⟨rfl, e0, (by decide : 0 + 1 ≤ _), (by decide : 0 + 1 ≤ _)⟩)
  dsimp only [Pt.U, Pt.locs, Pt.cells, Pt.slots] at X304 l304 y304 z304 st304 hQ304
  subst l304 y304 z304
  obtain ⟨s304, rfl, N304q, K304, Eq304, Fq304⟩ := hQ304
  have N304 := Fr.app N0 N304q
  have y305 := ((Keep.refl h0 []).trans K304 all0)
  have y306 := (Nat.le_trans Z0 K304.1)
  have y307 := (O.keep K304 all0)
  refine own_via st304 ?_
  show own_Fin p e below _ (T304.setTop (mkF m 4 #[.val (.ref mp), .val (.ref x), .unset, .unset] [(.ref s304)]))
  obtain ⟨cq308, kq308, q308a, q308b, q308c⟩ := isOf hZ rfl Eq304
  obtain ⟨_, _, ⟨T308, L308, k308, n308⟩, -, X308, ⟨Lc308, hQ308, l308, y308, z308⟩, st308⟩ := X304.interfaceBack hx (xi := (⟨"java/util/Set", "iterator", "()Ljava/util/Iterator;"⟩ : MethodName)) (y := (⟨"com/example/settlewatt/settlewatt/model/TraceRecord$Inputs$1", "iterator", "()Ljava/util/Iterator;"⟩ : MethodName)) hown (mvT hZ (hw _ (List.mem_of_getElem? (i := 111) rfl))) (mvT hZ (hw _ (List.mem_of_getElem? (i := 112) rfl))) (mvT hZ (hw _ (List.mem_of_getElem? (i := 113) rfl))) (mvT hZ (hw _ (List.mem_of_getElem? (i := 114) rfl))) (mvT hZ (hw _ (List.mem_of_getElem? (i := 115) rfl))) (mvT hZ (hw _ (List.mem_of_getElem? (i := 116) rfl))) (mvT hZ (hw _ (List.mem_of_getElem? (i := 117) rfl))) (mvT hZ (hw _ (List.mem_of_getElem? (i := 96) rfl))) (by decide) (backOf (W := 0) (rm17 l Z a0 hw [] s304 mp T304.heap n0 (by exact y306) Fq304) hZ (hw _ (List.mem_of_getElem? (i := 118) rfl)) (hw _ (List.mem_of_getElem? (i := 71) rfl)) (by decide) (by decide)) q308a q308b q308c (g := (mkF m 4 #[.val (.ref mp), .val (.ref x), .unset, .unset] [(.ref s304)])) rfl (by rw [hml]; rfl) (Steps.refl _) (argsL := []) (rest := []) (lenOf pd_12 rfl) rfl (by show 2 * 0 + _ ≤ _; exact Nat.le_of_eq rfl) (hb hby d16_4) (fun _ _ => ⟨rfl, rfl, (by decide : 1 + 1 ≤ _), (by decide : 1 + 2 ≤ _)⟩)
  dsimp only [Pt.U, Pt.locs, Pt.cells, Pt.slots] at X308 l308 y308 z308 st308 hQ308
  subst l308 y308 z308
  obtain ⟨it308, rfl, N308q, K308, gn308, gx308, Eq308, F308a, F308b⟩ := hQ308
  have gk308 : h0.size ≤ it308 := Nat.le_trans y305.1 gx308
  have N308 := Fr.app N304 N308q
  have y309 := (y305.trans K308 all0)
  have y310 := (Nat.le_trans y306 K308.1)
  have y311 := (y307.keep K308 all0)
  have y312 := (Eq304.keep K308)
  have y313 := (Fq304.keep K308 nin0)
  refine own_via st308 ?_
  show own_Fin p e below _ (T308.setTop (mkF m 9 #[.val (.ref mp), .val (.ref x), .unset, .unset] [(.ref it308)]))
  refine own_on (fun tq => XS.astoreN X308.here hx rfl (hb hby d16_9) rfl rfl (l' := #[.val (.ref mp), .val (.ref x), .val (.ref it308), .unset]) rfl) ?_
  show own_Fin p e below _ (T308.setTop (mkF m 10 #[.val (.ref mp), .val (.ref x), .val (.ref it308), .unset] []))
  refine own_on (fun tq => XS.aloadN X308.here hx rfl (hb hby d16_10) rfl rfl) ?_
  show own_Fin p e below _ (T308.setTop (mkF m 11 #[.val (.ref mp), .val (.ref x), .val (.ref it308), .unset] [(.ref x)]))
  refine own_on (fun tq => XS.ifnonnullYes X308.here hx rfl (pc0 := 11) (pc' := 52) rfl (hb hby d16_11) rfl (by decide) (by decide)) ?_
  show own_Fin p e below _ (T308.setTop (mkF m 52 #[.val (.ref mp), .val (.ref x), .val (.ref it308), .unset] []))
  refine own_on (fun tq => XS.aloadN X308.here hx rfl (hb hby d16_52) rfl rfl) ?_
  show own_Fin p e below _ (T308.setTop (mkF m 53 #[.val (.ref mp), .val (.ref x), .val (.ref it308), .unset] [(.ref it308)]))
  obtain ⟨cq314, kq314, q314a, q314b, q314c⟩ := isOf hZ rfl Eq308
  obtain ⟨_, _, ⟨T314, L314, k314, n314⟩, -, X314, ⟨Lc314, hQ314, l314, y314, z314⟩, st314⟩ := X308.interfaceBack hx (xi := (⟨"java/util/Iterator", "hasNext", "()Z"⟩ : MethodName)) (y := (⟨"com/example/settlewatt/settlewatt/model/TraceRecord$Inputs$Entries", "hasNext", "()Z"⟩ : MethodName)) hown (mvT hZ (hw _ (List.mem_of_getElem? (i := 128) rfl))) (mvT hZ (hw _ (List.mem_of_getElem? (i := 129) rfl))) (mvT hZ (hw _ (List.mem_of_getElem? (i := 130) rfl))) (mvT hZ (hw _ (List.mem_of_getElem? (i := 131) rfl))) (mvT hZ (hw _ (List.mem_of_getElem? (i := 132) rfl))) (mvT hZ (hw _ (List.mem_of_getElem? (i := 133) rfl))) (mvT hZ (hw _ (List.mem_of_getElem? (i := 134) rfl))) (mvT hZ (hw _ (List.mem_of_getElem? (i := 135) rfl))) (by decide) (backOf (W := 0) (rm19 l Z a0 hw [] it308 mp a ka (0 : Int32) (4 : Int32) _ (1 : Int32) T308.heap n0 (by exact y310) F308a F308b (F2.keep y309 nin0) (Aa.keep y309 nin0) (by decide)) hZ (hw _ (List.mem_of_getElem? (i := 136) rfl)) (hw _ (List.mem_of_getElem? (i := 121) rfl)) (by decide) (by decide)) q314a q314b q314c (g := (mkF m 53 #[.val (.ref mp), .val (.ref x), .val (.ref it308), .unset] [(.ref it308)])) rfl (by rw [hml]; rfl) (Steps.refl _) (argsL := []) (rest := []) (lenOf pd_9 rfl) rfl (by show 2 * 0 + _ ≤ _; exact Nat.le_of_eq rfl) (hb hby d16_53) (fun _ _ => ⟨rfl, rfl, (by decide : 2 + 0 ≤ _), (by decide : 3 + 0 ≤ _)⟩)
  dsimp only [Pt.U, Pt.locs, Pt.cells, Pt.slots] at X314 l314 y314 z314 st314 hQ314
  subst l314 y314 z314
  obtain ⟨rfl, N314q, e314⟩ := hQ314
  have N314 := Fr.app N308 N314q
  refine own_via st314 ?_
  show own_Fin p e below _ (T314.setTop (mkF m 58 #[.val (.ref mp), .val (.ref x), .val (.ref it308), .unset] [(.int (1 : Int32))]))
  refine own_on (fun tq => XS.ifNo X314.here hx rfl (hb hby d16_58) rfl ((if0 _ _).trans (feq (by decide : ¬ ((1 : Int32) = (0 : Int32)))).1)) ?_
  show own_Fin p e below _ (T314.setTop (mkF m 61 #[.val (.ref mp), .val (.ref x), .val (.ref it308), .unset] []))
  refine own_on (fun tq => XS.aloadN X314.here hx rfl (hb hby d16_61) rfl rfl) ?_
  show own_Fin p e below _ (T314.setTop (mkF m 62 #[.val (.ref mp), .val (.ref x), .val (.ref it308), .unset] [(.ref it308)]))
  obtain ⟨cq315, kq315, q315a, q315b, q315c⟩ := isOf hZ e314 Eq308
  obtain ⟨_, _, ⟨T315, L315, k315, n315⟩, -, X315, ⟨Lc315, hQ315, l315, y315, z315⟩, st315⟩ := X314.interfaceBack hx (xi := (⟨"java/util/Iterator", "next", "()Ljava/lang/Object;"⟩ : MethodName)) (y := (⟨"com/example/settlewatt/settlewatt/model/TraceRecord$Inputs$Entries", "next", "()Ljava/lang/Object;"⟩ : MethodName)) hown (mvT hZ (hw _ (List.mem_of_getElem? (i := 140) rfl))) (mvT hZ (hw _ (List.mem_of_getElem? (i := 141) rfl))) (mvT hZ (hw _ (List.mem_of_getElem? (i := 142) rfl))) (mvT hZ (hw _ (List.mem_of_getElem? (i := 143) rfl))) (mvT hZ (hw _ (List.mem_of_getElem? (i := 144) rfl))) (mvT hZ (hw _ (List.mem_of_getElem? (i := 145) rfl))) (mvT hZ (hw _ (List.mem_of_getElem? (i := 146) rfl))) (mvT hZ (hw _ (List.mem_of_getElem? (i := 135) rfl))) (by decide) (backOf (W := 0) (rmNO l Z a0 hw [] it308 mp a ka (0 : Int32) (4 : Int32) ([(.ref ke0), (.ref u0), (.ref ke1), (.ref u1)]) ke0 u0 T308.heap n0 (by exact y310) Eq308 F308a F308b gn308 (F2.keep y309 nin0) (Aa.keep y309 nin0) (Nat.ne_of_lt (Nat.lt_of_lt_of_le E.lt gk308)) (Nat.ne_of_lt (Nat.lt_of_lt_of_le Aa.lt gk308)) ⟨by decide, by decide⟩ rfl ⟨by decide, by decide⟩ rfl) hZ (hw _ (List.mem_of_getElem? (i := 147) rfl)) (hw _ (List.mem_of_getElem? (i := 121) rfl)) (by decide) (by decide)) q315a q315b q315c (g := (mkF m 62 #[.val (.ref mp), .val (.ref x), .val (.ref it308), .unset] [(.ref it308)])) rfl (by rw [hml]; rfl) (Steps.refl _) (argsL := []) (rest := []) (lenOf pd_14 rfl) rfl (by show 2 * 0 + _ ≤ _; exact Nat.le_of_eq rfl) (hb hby d16_62) (fun _ _ => ⟨rfl, e314, (by decide : 2 + 1 ≤ _), (by decide : 3 + 2 ≤ _)⟩)
  dsimp only [Pt.U, Pt.locs, Pt.cells, Pt.slots] at X315 l315 y315 z315 st315 hQ315
  subst l315 y315 z315
  obtain ⟨en315, rfl, N315q, K315, Eq315, F315a, F315b, F315c, F315d⟩ := hQ315
  have N315 := Fr.app N314 N315q
  have y316 := (y309.trans K315 (allS (Or.inr gk308) all0))
  have y317 := (Nat.le_trans y310 K315.1)
  have y318 := (y311.keep K315 (allS gn308 all0))
  have y319 := (Eq308.keep K315)
  refine own_via st315 ?_
  show own_Fin p e below _ (T315.setTop (mkF m 67 #[.val (.ref mp), .val (.ref x), .val (.ref it308), .unset] [(.ref en315)]))
  obtain ⟨T320, X320, e320, st320⟩ := castY X315 hx hZ hown (hw _ (List.mem_of_getElem? (i := 167) rfl)) rfl (Ins.of_exa Eq315 (hw _ (List.mem_of_getElem? (i := 168) rfl))) (g := (mkF m 67 #[.val (.ref mp), .val (.ref x), .val (.ref it308), .unset] [(.ref en315)])) rfl rfl (hb hby d16_67)
  refine own_on st320 ?_
  show own_Fin p e below _ (T320.setTop (mkF m 70 #[.val (.ref mp), .val (.ref x), .val (.ref it308), .unset] [(.ref en315)]))
  refine own_on (fun tq => XS.astoreN X320.here hx rfl (hb hby d16_70) rfl rfl (l' := #[.val (.ref mp), .val (.ref x), .val (.ref it308), .val (.ref en315)]) rfl) ?_
  show own_Fin p e below _ (T320.setTop (mkF m 71 #[.val (.ref mp), .val (.ref x), .val (.ref it308), .val (.ref en315)] []))
  refine own_on (fun tq => XS.aloadN X320.here hx rfl (hb hby d16_71) rfl rfl) ?_
  show own_Fin p e below _ (T320.setTop (mkF m 72 #[.val (.ref mp), .val (.ref x), .val (.ref it308), .val (.ref en315)] [(.ref x)]))
  refine own_on (fun tq => XS.aloadN X320.here hx rfl (hb hby d16_72) rfl rfl) ?_
  show own_Fin p e below _ (T320.setTop (mkF m 73 #[.val (.ref mp), .val (.ref x), .val (.ref it308), .val (.ref en315)] [(.ref en315), (.ref x)]))
  obtain ⟨cq321, kq321, q321a, q321b, q321c⟩ := isOf hZ e320 Eq315
  obtain ⟨_, _, ⟨T321, L321, k321, n321⟩, -, X321, ⟨Lc321, hQ321, l321, y321, z321⟩, st321⟩ := X320.interfaceBack hx (xi := (⟨"java/util/Map$Entry", "getKey", "()Ljava/lang/Object;"⟩ : MethodName)) (y := (⟨"java/util/AbstractMap$SimpleImmutableEntry", "getKey", "()Ljava/lang/Object;"⟩ : MethodName)) hown (mvT hZ (hw _ (List.mem_of_getElem? (i := 169) rfl))) (mvT hZ (hw _ (List.mem_of_getElem? (i := 170) rfl))) (mvT hZ (hw _ (List.mem_of_getElem? (i := 171) rfl))) (mvT hZ (hw _ (List.mem_of_getElem? (i := 172) rfl))) (mvT hZ (hw _ (List.mem_of_getElem? (i := 173) rfl))) (mvT hZ (hw _ (List.mem_of_getElem? (i := 174) rfl))) (mvT hZ (hw _ (List.mem_of_getElem? (i := 175) rfl))) (mvT hZ (hw _ (List.mem_of_getElem? (i := 168) rfl))) (by decide) (backOf (W := 1) (rm23 l Z a0 hw [] en315 ke0 T315.heap n0 (by exact y317) F315a) hZ (hw _ (List.mem_of_getElem? (i := 176) rfl)) (hw _ (List.mem_of_getElem? (i := 158) rfl)) (by decide) (by decide)) q321a q321b q321c (g := (mkF m 73 #[.val (.ref mp), .val (.ref x), .val (.ref it308), .val (.ref en315)] [(.ref en315), (.ref x)])) rfl (by rw [hml]; rfl) (Steps.refl _) (argsL := []) (rest := [(.ref x)]) (lenOf pd_14 rfl) rfl (by show 2 * 0 + _ ≤ _; exact Nat.le_of_eq rfl) (hb hby d16_73) (fun _ _ => ⟨rfl, e320, (by decide : 3 + 0 ≤ _), (by decide : 5 + 0 ≤ _)⟩)
  dsimp only [Pt.U, Pt.locs, Pt.cells, Pt.slots] at X321 l321 y321 z321 st321 hQ321
  subst l321 y321 z321
  obtain ⟨rfl, N321q, e321⟩ := hQ321
  have N321 := Fr.app N315 N321q
  refine own_via st321 ?_
  show own_Fin p e below _ (T321.setTop (mkF m 78 #[.val (.ref mp), .val (.ref x), .val (.ref it308), .val (.ref en315)] [(.ref ke0), (.ref x)]))
  obtain ⟨cq322, kq322, q322a, q322b, q322c⟩ := isOf hZ e321 (E_x.keep y316)
  obtain ⟨_, _, ⟨T322, L322, k322, n322⟩, -, X322, ⟨Lc322, hQ322, l322, y322, z322⟩, st322⟩ := X321.virtualBack hx (y := (⟨"java/lang/Object", "equals", "(Ljava/lang/Object;)Z"⟩ : MethodName)) (z := (⟨"java/lang/String", "equals", "(Ljava/lang/Object;)Z"⟩ : MethodName)) hown (mvT hZ (hw _ (List.mem_of_getElem? (i := 177) rfl))) (mvT hZ (hw _ (List.mem_of_getElem? (i := 178) rfl))) (own_nf (a0 := #[]) (mvT hZ (hw _ (List.mem_of_getElem? (i := 39) rfl))) rfl) (mvT hZ (hw _ (List.mem_of_getElem? (i := 180) rfl))) (mvT hZ (hw _ (List.mem_of_getElem? (i := 181) rfl))) (by decide) (StrChars.Road.eqW (W := 0) hZ (own_wE hw) (hw _ (List.mem_of_getElem? (i := 10) rfl)) (E_x.keep y316) (V_x.keep y316 nin0) (C_x.keep y316 nin0) (A_x.keep y316 nin0) (own_cod (cs := [c]) (n := 1) rfl (fun c q => (r_x c q).2)) (own_r16 r_x) (Nat.le_of_ble_eq_true rfl) (E_ke0.keep y316) (V_ke0.keep y316 nin0) (C_ke0.keep y316 nin0) (A_ke0.keep y316 nin0) (own_cod (cs := [c0]) (n := 1) rfl (fun c q => (r_ke0 c q).2)) (own_r16 r_ke0) (Nat.le_of_ble_eq_true rfl) (SC.ext y318.2) hz (by decide) (by decide)) q322a q322c (g := (mkF m 78 #[.val (.ref mp), .val (.ref x), .val (.ref it308), .val (.ref en315)] [(.ref ke0), (.ref x)])) rfl (by rw [hml]; rfl) (Steps.refl _) (argsL := [(.ref ke0)]) (rest := []) (lenOf pd_5 rfl) rfl (by show 2 * 0 + _ ≤ _; exact Nat.le_of_eq rfl) (hb hby d16_78) (fun _ _ => ⟨rfl, e321, (by decide : 3 + 0 ≤ _), (by decide : 5 + 0 ≤ _)⟩)
  dsimp only [Pt.U, Pt.locs, Pt.cells, Pt.slots] at X322 l322 y322 z322 st322 hQ322
  subst l322 y322 z322
  obtain ⟨hv322, rfl, e322⟩ := hQ322
  have N322 := Fr.app N321 (Fr.nil n0)
  by_cases hq323 : c = c0
  · obtain rfl := own_eq1 hv322 (congrArg (fun q => [q]) hq323)
    refine own_via st322 ?_
    show own_Fin p e below _ (T322.setTop (mkF m 81 #[.val (.ref mp), .val (.ref x), .val (.ref it308), .val (.ref en315)] [(.int (1 : Int32))]))
    refine own_on (fun tq => XS.ifNo X322.here hx rfl (hb hby d16_81) rfl ((if0 _ _).trans (feq (by decide : ¬ ((1 : Int32) = (0 : Int32)))).1)) ?_
    show own_Fin p e below _ (T322.setTop (mkF m 84 #[.val (.ref mp), .val (.ref x), .val (.ref it308), .val (.ref en315)] []))
    refine own_on (fun tq => XS.aloadN X322.here hx rfl (hb hby d16_84) rfl rfl) ?_
    show own_Fin p e below _ (T322.setTop (mkF m 85 #[.val (.ref mp), .val (.ref x), .val (.ref it308), .val (.ref en315)] [(.ref en315)]))
    obtain ⟨cq324, kq324, q324a, q324b, q324c⟩ := isOf hZ e322 Eq315
    obtain ⟨_, _, ⟨T324, L324, k324, n324⟩, -, X324, ⟨Lc324, hQ324, l324, y324, z324⟩, st324⟩ := X322.interfaceBack hx (xi := (⟨"java/util/Map$Entry", "getValue", "()Ljava/lang/Object;"⟩ : MethodName)) (y := (⟨"java/util/AbstractMap$SimpleImmutableEntry", "getValue", "()Ljava/lang/Object;"⟩ : MethodName)) hown (mvT hZ (hw _ (List.mem_of_getElem? (i := 183) rfl))) (mvT hZ (hw _ (List.mem_of_getElem? (i := 184) rfl))) (mvT hZ (hw _ (List.mem_of_getElem? (i := 185) rfl))) (mvT hZ (hw _ (List.mem_of_getElem? (i := 186) rfl))) (mvT hZ (hw _ (List.mem_of_getElem? (i := 187) rfl))) (mvT hZ (hw _ (List.mem_of_getElem? (i := 188) rfl))) (mvT hZ (hw _ (List.mem_of_getElem? (i := 189) rfl))) (mvT hZ (hw _ (List.mem_of_getElem? (i := 168) rfl))) (by decide) (backOf (W := 0) (rm25 l Z a0 hw [] en315 u0 T315.heap n0 (by exact y317) F315b) hZ (hw _ (List.mem_of_getElem? (i := 190) rfl)) (hw _ (List.mem_of_getElem? (i := 158) rfl)) (by decide) (by decide)) q324a q324b q324c (g := (mkF m 85 #[.val (.ref mp), .val (.ref x), .val (.ref it308), .val (.ref en315)] [(.ref en315)])) rfl (by rw [hml]; rfl) (Steps.refl _) (argsL := []) (rest := []) (lenOf pd_14 rfl) rfl (by show 2 * 0 + _ ≤ _; exact Nat.le_of_eq rfl) (hb hby d16_85) (fun _ _ => ⟨rfl, e322, (by decide : 3 + 0 ≤ _), (by decide : 5 + 0 ≤ _)⟩)
    dsimp only [Pt.U, Pt.locs, Pt.cells, Pt.slots] at X324 l324 y324 z324 st324 hQ324
    subst l324 y324 z324
    obtain ⟨rfl, N324q, e324⟩ := hQ324
    have N324 := Fr.app N322 N324q
    refine own_via st324 ?_
    show own_Fin p e below _ (T324.setTop (mkF m 90 #[.val (.ref mp), .val (.ref x), .val (.ref it308), .val (.ref en315)] [(.ref u0)]))
    exact own_ret (t := (.object "java/lang/Object")) X324 hx hlk hret rfl (Or.inr (Or.inr (Or.inr (Or.inr ⟨rfl, rfl, rfl⟩)))) (hb hby d16_90) (by show QG2 Z mp x z a ka ke0 ke1 u0 u1 c0 c1 t_ke0 k_ke0 t_ke1 k_ke1 t_x k_x c r h0 n0 _ T324.heap _; rw [e324]; exact ⟨by rw [hr]; first | rfl | (unfold own_get2; rw [if_pos hq323]), N324, y316⟩) (by decide) (by decide)
  · obtain rfl := own_eq0 hv322 (own_l1 hq323)
    refine own_via st322 ?_
    show own_Fin p e below _ (T322.setTop (mkF m 81 #[.val (.ref mp), .val (.ref x), .val (.ref it308), .val (.ref en315)] [(.int (0 : Int32))]))
    refine own_on (fun tq => XS.ifYes X322.here hx rfl (pc0 := 81) (pc' := 91) rfl (hb hby d16_81) rfl ((if0 _ _).trans (teq (by decide : (0 : Int32) = (0 : Int32))).1) (by decide) (by decide)) ?_
    show own_Fin p e below _ (T322.setTop (mkF m 91 #[.val (.ref mp), .val (.ref x), .val (.ref it308), .val (.ref en315)] []))
    refine own_on (fun tq => XS.goto X322.here hx rfl (pc0 := 91) (pc' := 52) rfl (hb hby d16_91) (by decide) (by decide)) ?_
    show own_Fin p e below _ (T322.setTop (mkF m 52 #[.val (.ref mp), .val (.ref x), .val (.ref it308), .val (.ref en315)] []))
    refine own_on (fun tq => XS.aloadN X322.here hx rfl (hb hby d16_52) rfl rfl) ?_
    show own_Fin p e below _ (T322.setTop (mkF m 53 #[.val (.ref mp), .val (.ref x), .val (.ref it308), .val (.ref en315)] [(.ref it308)]))
    obtain ⟨cq325, kq325, q325a, q325b, q325c⟩ := isOf hZ e322 y319
    obtain ⟨_, _, ⟨T325, L325, k325, n325⟩, -, X325, ⟨Lc325, hQ325, l325, y325, z325⟩, st325⟩ := X322.interfaceBack hx (xi := (⟨"java/util/Iterator", "hasNext", "()Z"⟩ : MethodName)) (y := (⟨"com/example/settlewatt/settlewatt/model/TraceRecord$Inputs$Entries", "hasNext", "()Z"⟩ : MethodName)) hown (mvT hZ (hw _ (List.mem_of_getElem? (i := 128) rfl))) (mvT hZ (hw _ (List.mem_of_getElem? (i := 129) rfl))) (mvT hZ (hw _ (List.mem_of_getElem? (i := 130) rfl))) (mvT hZ (hw _ (List.mem_of_getElem? (i := 131) rfl))) (mvT hZ (hw _ (List.mem_of_getElem? (i := 132) rfl))) (mvT hZ (hw _ (List.mem_of_getElem? (i := 133) rfl))) (mvT hZ (hw _ (List.mem_of_getElem? (i := 134) rfl))) (mvT hZ (hw _ (List.mem_of_getElem? (i := 135) rfl))) (by decide) (backOf (W := 0) (rm19 l Z a0 hw [] it308 mp a ka (2 : Int32) (4 : Int32) _ (1 : Int32) T315.heap n0 (by exact y317) F315c F315d (F2.keep y316 nin0) (Aa.keep y316 nin0) (by decide)) hZ (hw _ (List.mem_of_getElem? (i := 136) rfl)) (hw _ (List.mem_of_getElem? (i := 121) rfl)) (by decide) (by decide)) q325a q325b q325c (g := (mkF m 53 #[.val (.ref mp), .val (.ref x), .val (.ref it308), .val (.ref en315)] [(.ref it308)])) rfl (by rw [hml]; rfl) (Steps.refl _) (argsL := []) (rest := []) (lenOf pd_9 rfl) rfl (by show 2 * 0 + _ ≤ _; exact Nat.le_of_eq rfl) (hb hby d16_53) (fun _ _ => ⟨rfl, e322, (by decide : 3 + 0 ≤ _), (by decide : 5 + 0 ≤ _)⟩)
    dsimp only [Pt.U, Pt.locs, Pt.cells, Pt.slots] at X325 l325 y325 z325 st325 hQ325
    subst l325 y325 z325
    obtain ⟨rfl, N325q, e325⟩ := hQ325
    have N325 := Fr.app N322 N325q
    refine own_via st325 ?_
    show own_Fin p e below _ (T325.setTop (mkF m 58 #[.val (.ref mp), .val (.ref x), .val (.ref it308), .val (.ref en315)] [(.int (1 : Int32))]))
    refine own_on (fun tq => XS.ifNo X325.here hx rfl (hb hby d16_58) rfl ((if0 _ _).trans (feq (by decide : ¬ ((1 : Int32) = (0 : Int32)))).1)) ?_
    show own_Fin p e below _ (T325.setTop (mkF m 61 #[.val (.ref mp), .val (.ref x), .val (.ref it308), .val (.ref en315)] []))
    refine own_on (fun tq => XS.aloadN X325.here hx rfl (hb hby d16_61) rfl rfl) ?_
    show own_Fin p e below _ (T325.setTop (mkF m 62 #[.val (.ref mp), .val (.ref x), .val (.ref it308), .val (.ref en315)] [(.ref it308)]))
    obtain ⟨cq326, kq326, q326a, q326b, q326c⟩ := isOf hZ e325 y319
    obtain ⟨_, _, ⟨T326, L326, k326, n326⟩, -, X326, ⟨Lc326, hQ326, l326, y326, z326⟩, st326⟩ := X325.interfaceBack hx (xi := (⟨"java/util/Iterator", "next", "()Ljava/lang/Object;"⟩ : MethodName)) (y := (⟨"com/example/settlewatt/settlewatt/model/TraceRecord$Inputs$Entries", "next", "()Ljava/lang/Object;"⟩ : MethodName)) hown (mvT hZ (hw _ (List.mem_of_getElem? (i := 140) rfl))) (mvT hZ (hw _ (List.mem_of_getElem? (i := 141) rfl))) (mvT hZ (hw _ (List.mem_of_getElem? (i := 142) rfl))) (mvT hZ (hw _ (List.mem_of_getElem? (i := 143) rfl))) (mvT hZ (hw _ (List.mem_of_getElem? (i := 144) rfl))) (mvT hZ (hw _ (List.mem_of_getElem? (i := 145) rfl))) (mvT hZ (hw _ (List.mem_of_getElem? (i := 146) rfl))) (mvT hZ (hw _ (List.mem_of_getElem? (i := 135) rfl))) (by decide) (backOf (W := 0) (rmNO l Z a0 hw [] it308 mp a ka (2 : Int32) (4 : Int32) ([(.ref ke0), (.ref u0), (.ref ke1), (.ref u1)]) ke1 u1 T315.heap n0 (by exact y317) y319 F315c F315d gn308 (F2.keep y316 nin0) (Aa.keep y316 nin0) (Nat.ne_of_lt (Nat.lt_of_lt_of_le E.lt gk308)) (Nat.ne_of_lt (Nat.lt_of_lt_of_le Aa.lt gk308)) ⟨by decide, by decide⟩ rfl ⟨by decide, by decide⟩ rfl) hZ (hw _ (List.mem_of_getElem? (i := 147) rfl)) (hw _ (List.mem_of_getElem? (i := 121) rfl)) (by decide) (by decide)) q326a q326b q326c (g := (mkF m 62 #[.val (.ref mp), .val (.ref x), .val (.ref it308), .val (.ref en315)] [(.ref it308)])) rfl (by rw [hml]; rfl) (Steps.refl _) (argsL := []) (rest := []) (lenOf pd_14 rfl) rfl (by show 2 * 0 + _ ≤ _; exact Nat.le_of_eq rfl) (hb hby d16_62) (fun _ _ => ⟨rfl, e325, (by decide : 3 + 1 ≤ _), (by decide : 5 + 2 ≤ _)⟩)
    dsimp only [Pt.U, Pt.locs, Pt.cells, Pt.slots] at X326 l326 y326 z326 st326 hQ326
    subst l326 y326 z326
    obtain ⟨en326, rfl, N326q, K326, Eq326, F326a, F326b, F326c, F326d⟩ := hQ326
    have N326 := Fr.app N325 N326q
    have y327 := (y316.trans K326 (allS (Or.inr gk308) all0))
    have y328 := (Nat.le_trans y317 K326.1)
    have y329 := (y318.keep K326 (allS gn308 all0))
    have y330 := (y319.keep K326)
    refine own_via st326 ?_
    show own_Fin p e below _ (T326.setTop (mkF m 67 #[.val (.ref mp), .val (.ref x), .val (.ref it308), .val (.ref en315)] [(.ref en326)]))
    obtain ⟨T331, X331, e331, st331⟩ := castY X326 hx hZ hown (hw _ (List.mem_of_getElem? (i := 167) rfl)) rfl (Ins.of_exa Eq326 (hw _ (List.mem_of_getElem? (i := 168) rfl))) (g := (mkF m 67 #[.val (.ref mp), .val (.ref x), .val (.ref it308), .val (.ref en315)] [(.ref en326)])) rfl rfl (hb hby d16_67)
    refine own_on st331 ?_
    show own_Fin p e below _ (T331.setTop (mkF m 70 #[.val (.ref mp), .val (.ref x), .val (.ref it308), .val (.ref en315)] [(.ref en326)]))
    refine own_on (fun tq => XS.astoreN X331.here hx rfl (hb hby d16_70) rfl rfl (l' := #[.val (.ref mp), .val (.ref x), .val (.ref it308), .val (.ref en326)]) rfl) ?_
    show own_Fin p e below _ (T331.setTop (mkF m 71 #[.val (.ref mp), .val (.ref x), .val (.ref it308), .val (.ref en326)] []))
    refine own_on (fun tq => XS.aloadN X331.here hx rfl (hb hby d16_71) rfl rfl) ?_
    show own_Fin p e below _ (T331.setTop (mkF m 72 #[.val (.ref mp), .val (.ref x), .val (.ref it308), .val (.ref en326)] [(.ref x)]))
    refine own_on (fun tq => XS.aloadN X331.here hx rfl (hb hby d16_72) rfl rfl) ?_
    show own_Fin p e below _ (T331.setTop (mkF m 73 #[.val (.ref mp), .val (.ref x), .val (.ref it308), .val (.ref en326)] [(.ref en326), (.ref x)]))
    obtain ⟨cq332, kq332, q332a, q332b, q332c⟩ := isOf hZ e331 Eq326
    obtain ⟨_, _, ⟨T332, L332, k332, n332⟩, -, X332, ⟨Lc332, hQ332, l332, y332, z332⟩, st332⟩ := X331.interfaceBack hx (xi := (⟨"java/util/Map$Entry", "getKey", "()Ljava/lang/Object;"⟩ : MethodName)) (y := (⟨"java/util/AbstractMap$SimpleImmutableEntry", "getKey", "()Ljava/lang/Object;"⟩ : MethodName)) hown (mvT hZ (hw _ (List.mem_of_getElem? (i := 169) rfl))) (mvT hZ (hw _ (List.mem_of_getElem? (i := 170) rfl))) (mvT hZ (hw _ (List.mem_of_getElem? (i := 171) rfl))) (mvT hZ (hw _ (List.mem_of_getElem? (i := 172) rfl))) (mvT hZ (hw _ (List.mem_of_getElem? (i := 173) rfl))) (mvT hZ (hw _ (List.mem_of_getElem? (i := 174) rfl))) (mvT hZ (hw _ (List.mem_of_getElem? (i := 175) rfl))) (mvT hZ (hw _ (List.mem_of_getElem? (i := 168) rfl))) (by decide) (backOf (W := 1) (rm23 l Z a0 hw [] en326 ke1 T326.heap n0 (by exact y328) F326a) hZ (hw _ (List.mem_of_getElem? (i := 176) rfl)) (hw _ (List.mem_of_getElem? (i := 158) rfl)) (by decide) (by decide)) q332a q332b q332c (g := (mkF m 73 #[.val (.ref mp), .val (.ref x), .val (.ref it308), .val (.ref en326)] [(.ref en326), (.ref x)])) rfl (by rw [hml]; rfl) (Steps.refl _) (argsL := []) (rest := [(.ref x)]) (lenOf pd_14 rfl) rfl (by show 2 * 0 + _ ≤ _; exact Nat.le_of_eq rfl) (hb hby d16_73) (fun _ _ => ⟨rfl, e331, (by decide : 4 + 0 ≤ _), (by decide : 7 + 0 ≤ _)⟩)
    dsimp only [Pt.U, Pt.locs, Pt.cells, Pt.slots] at X332 l332 y332 z332 st332 hQ332
    subst l332 y332 z332
    obtain ⟨rfl, N332q, e332⟩ := hQ332
    have N332 := Fr.app N326 N332q
    refine own_via st332 ?_
    show own_Fin p e below _ (T332.setTop (mkF m 78 #[.val (.ref mp), .val (.ref x), .val (.ref it308), .val (.ref en326)] [(.ref ke1), (.ref x)]))
    obtain ⟨cq333, kq333, q333a, q333b, q333c⟩ := isOf hZ e332 (E_x.keep y327)
    obtain ⟨_, _, ⟨T333, L333, k333, n333⟩, -, X333, ⟨Lc333, hQ333, l333, y333, z333⟩, st333⟩ := X332.virtualBack hx (y := (⟨"java/lang/Object", "equals", "(Ljava/lang/Object;)Z"⟩ : MethodName)) (z := (⟨"java/lang/String", "equals", "(Ljava/lang/Object;)Z"⟩ : MethodName)) hown (mvT hZ (hw _ (List.mem_of_getElem? (i := 177) rfl))) (mvT hZ (hw _ (List.mem_of_getElem? (i := 178) rfl))) (own_nf (a0 := #[]) (mvT hZ (hw _ (List.mem_of_getElem? (i := 39) rfl))) rfl) (mvT hZ (hw _ (List.mem_of_getElem? (i := 180) rfl))) (mvT hZ (hw _ (List.mem_of_getElem? (i := 181) rfl))) (by decide) (StrChars.Road.eqW (W := 0) hZ (own_wE hw) (hw _ (List.mem_of_getElem? (i := 10) rfl)) (E_x.keep y327) (V_x.keep y327 nin0) (C_x.keep y327 nin0) (A_x.keep y327 nin0) (own_cod (cs := [c]) (n := 1) rfl (fun c q => (r_x c q).2)) (own_r16 r_x) (Nat.le_of_ble_eq_true rfl) (E_ke1.keep y327) (V_ke1.keep y327 nin0) (C_ke1.keep y327 nin0) (A_ke1.keep y327 nin0) (own_cod (cs := [c1]) (n := 1) rfl (fun c q => (r_ke1 c q).2)) (own_r16 r_ke1) (Nat.le_of_ble_eq_true rfl) (SC.ext y329.2) hz (by decide) (by decide)) q333a q333c (g := (mkF m 78 #[.val (.ref mp), .val (.ref x), .val (.ref it308), .val (.ref en326)] [(.ref ke1), (.ref x)])) rfl (by rw [hml]; rfl) (Steps.refl _) (argsL := [(.ref ke1)]) (rest := []) (lenOf pd_5 rfl) rfl (by show 2 * 0 + _ ≤ _; exact Nat.le_of_eq rfl) (hb hby d16_78) (fun _ _ => ⟨rfl, e332, (by decide : 4 + 0 ≤ _), (by decide : 7 + 0 ≤ _)⟩)
    dsimp only [Pt.U, Pt.locs, Pt.cells, Pt.slots] at X333 l333 y333 z333 st333 hQ333
    subst l333 y333 z333
    obtain ⟨hv333, rfl, e333⟩ := hQ333
    have N333 := Fr.app N332 (Fr.nil n0)
    by_cases hq334 : c = c1
    · obtain rfl := own_eq1 hv333 (congrArg (fun q => [q]) hq334)
      refine own_via st333 ?_
      show own_Fin p e below _ (T333.setTop (mkF m 81 #[.val (.ref mp), .val (.ref x), .val (.ref it308), .val (.ref en326)] [(.int (1 : Int32))]))
      refine own_on (fun tq => XS.ifNo X333.here hx rfl (hb hby d16_81) rfl ((if0 _ _).trans (feq (by decide : ¬ ((1 : Int32) = (0 : Int32)))).1)) ?_
      show own_Fin p e below _ (T333.setTop (mkF m 84 #[.val (.ref mp), .val (.ref x), .val (.ref it308), .val (.ref en326)] []))
      refine own_on (fun tq => XS.aloadN X333.here hx rfl (hb hby d16_84) rfl rfl) ?_
      show own_Fin p e below _ (T333.setTop (mkF m 85 #[.val (.ref mp), .val (.ref x), .val (.ref it308), .val (.ref en326)] [(.ref en326)]))
      obtain ⟨cq335, kq335, q335a, q335b, q335c⟩ := isOf hZ e333 Eq326
      obtain ⟨_, _, ⟨T335, L335, k335, n335⟩, -, X335, ⟨Lc335, hQ335, l335, y335, z335⟩, st335⟩ := X333.interfaceBack hx (xi := (⟨"java/util/Map$Entry", "getValue", "()Ljava/lang/Object;"⟩ : MethodName)) (y := (⟨"java/util/AbstractMap$SimpleImmutableEntry", "getValue", "()Ljava/lang/Object;"⟩ : MethodName)) hown (mvT hZ (hw _ (List.mem_of_getElem? (i := 183) rfl))) (mvT hZ (hw _ (List.mem_of_getElem? (i := 184) rfl))) (mvT hZ (hw _ (List.mem_of_getElem? (i := 185) rfl))) (mvT hZ (hw _ (List.mem_of_getElem? (i := 186) rfl))) (mvT hZ (hw _ (List.mem_of_getElem? (i := 187) rfl))) (mvT hZ (hw _ (List.mem_of_getElem? (i := 188) rfl))) (mvT hZ (hw _ (List.mem_of_getElem? (i := 189) rfl))) (mvT hZ (hw _ (List.mem_of_getElem? (i := 168) rfl))) (by decide) (backOf (W := 0) (rm25 l Z a0 hw [] en326 u1 T326.heap n0 (by exact y328) F326b) hZ (hw _ (List.mem_of_getElem? (i := 190) rfl)) (hw _ (List.mem_of_getElem? (i := 158) rfl)) (by decide) (by decide)) q335a q335b q335c (g := (mkF m 85 #[.val (.ref mp), .val (.ref x), .val (.ref it308), .val (.ref en326)] [(.ref en326)])) rfl (by rw [hml]; rfl) (Steps.refl _) (argsL := []) (rest := []) (lenOf pd_14 rfl) rfl (by show 2 * 0 + _ ≤ _; exact Nat.le_of_eq rfl) (hb hby d16_85) (fun _ _ => ⟨rfl, e333, (by decide : 4 + 0 ≤ _), (by decide : 7 + 0 ≤ _)⟩)
      dsimp only [Pt.U, Pt.locs, Pt.cells, Pt.slots] at X335 l335 y335 z335 st335 hQ335
      subst l335 y335 z335
      obtain ⟨rfl, N335q, e335⟩ := hQ335
      have N335 := Fr.app N333 N335q
      refine own_via st335 ?_
      show own_Fin p e below _ (T335.setTop (mkF m 90 #[.val (.ref mp), .val (.ref x), .val (.ref it308), .val (.ref en326)] [(.ref u1)]))
      exact own_ret (t := (.object "java/lang/Object")) X335 hx hlk hret rfl (Or.inr (Or.inr (Or.inr (Or.inr ⟨rfl, rfl, rfl⟩)))) (hb hby d16_90) (by show QG2 Z mp x z a ka ke0 ke1 u0 u1 c0 c1 t_ke0 k_ke0 t_ke1 k_ke1 t_x k_x c r h0 n0 _ T335.heap _; rw [e335]; exact ⟨by rw [hr]; first | rfl | (unfold own_get2; rw [if_neg hq323, if_pos hq334]), N335, y327⟩) (by decide) (by decide)
    · obtain rfl := own_eq0 hv333 (own_l1 hq334)
      refine own_via st333 ?_
      show own_Fin p e below _ (T333.setTop (mkF m 81 #[.val (.ref mp), .val (.ref x), .val (.ref it308), .val (.ref en326)] [(.int (0 : Int32))]))
      refine own_on (fun tq => XS.ifYes X333.here hx rfl (pc0 := 81) (pc' := 91) rfl (hb hby d16_81) rfl ((if0 _ _).trans (teq (by decide : (0 : Int32) = (0 : Int32))).1) (by decide) (by decide)) ?_
      show own_Fin p e below _ (T333.setTop (mkF m 91 #[.val (.ref mp), .val (.ref x), .val (.ref it308), .val (.ref en326)] []))
      refine own_on (fun tq => XS.goto X333.here hx rfl (pc0 := 91) (pc' := 52) rfl (hb hby d16_91) (by decide) (by decide)) ?_
      show own_Fin p e below _ (T333.setTop (mkF m 52 #[.val (.ref mp), .val (.ref x), .val (.ref it308), .val (.ref en326)] []))
      refine own_on (fun tq => XS.aloadN X333.here hx rfl (hb hby d16_52) rfl rfl) ?_
      show own_Fin p e below _ (T333.setTop (mkF m 53 #[.val (.ref mp), .val (.ref x), .val (.ref it308), .val (.ref en326)] [(.ref it308)]))
      obtain ⟨cq336, kq336, q336a, q336b, q336c⟩ := isOf hZ e333 y330
      obtain ⟨_, _, ⟨T336, L336, k336, n336⟩, -, X336, ⟨Lc336, hQ336, l336, y336, z336⟩, st336⟩ := X333.interfaceBack hx (xi := (⟨"java/util/Iterator", "hasNext", "()Z"⟩ : MethodName)) (y := (⟨"com/example/settlewatt/settlewatt/model/TraceRecord$Inputs$Entries", "hasNext", "()Z"⟩ : MethodName)) hown (mvT hZ (hw _ (List.mem_of_getElem? (i := 128) rfl))) (mvT hZ (hw _ (List.mem_of_getElem? (i := 129) rfl))) (mvT hZ (hw _ (List.mem_of_getElem? (i := 130) rfl))) (mvT hZ (hw _ (List.mem_of_getElem? (i := 131) rfl))) (mvT hZ (hw _ (List.mem_of_getElem? (i := 132) rfl))) (mvT hZ (hw _ (List.mem_of_getElem? (i := 133) rfl))) (mvT hZ (hw _ (List.mem_of_getElem? (i := 134) rfl))) (mvT hZ (hw _ (List.mem_of_getElem? (i := 135) rfl))) (by decide) (backOf (W := 0) (rm19 l Z a0 hw [] it308 mp a ka (4 : Int32) (4 : Int32) _ (0 : Int32) T326.heap n0 (by exact y328) F326c F326d (F2.keep y327 nin0) (Aa.keep y327 nin0) (by decide)) hZ (hw _ (List.mem_of_getElem? (i := 136) rfl)) (hw _ (List.mem_of_getElem? (i := 121) rfl)) (by decide) (by decide)) q336a q336b q336c (g := (mkF m 53 #[.val (.ref mp), .val (.ref x), .val (.ref it308), .val (.ref en326)] [(.ref it308)])) rfl (by rw [hml]; rfl) (Steps.refl _) (argsL := []) (rest := []) (lenOf pd_9 rfl) rfl (by show 2 * 0 + _ ≤ _; exact Nat.le_of_eq rfl) (hb hby d16_53) (fun _ _ => ⟨rfl, e333, (by decide : 4 + 0 ≤ _), (by decide : 7 + 0 ≤ _)⟩)
      dsimp only [Pt.U, Pt.locs, Pt.cells, Pt.slots] at X336 l336 y336 z336 st336 hQ336
      subst l336 y336 z336
      obtain ⟨rfl, N336q, e336⟩ := hQ336
      have N336 := Fr.app N333 N336q
      refine own_via st336 ?_
      show own_Fin p e below _ (T336.setTop (mkF m 58 #[.val (.ref mp), .val (.ref x), .val (.ref it308), .val (.ref en326)] [(.int (0 : Int32))]))
      refine own_on (fun tq => XS.ifYes X336.here hx rfl (pc0 := 58) (pc' := 94) rfl (hb hby d16_58) rfl ((if0 _ _).trans (teq (by decide : (0 : Int32) = (0 : Int32))).1) (by decide) (by decide)) ?_
      show own_Fin p e below _ (T336.setTop (mkF m 94 #[.val (.ref mp), .val (.ref x), .val (.ref it308), .val (.ref en326)] []))
      refine own_on (fun tq => XS.aconstNull X336.here hx rfl (hb hby d16_94)) ?_
      show own_Fin p e below _ (T336.setTop (mkF m 95 #[.val (.ref mp), .val (.ref x), .val (.ref it308), .val (.ref en326)] [.null]))
      exact own_ret (t := (.object "java/lang/Object")) X336 hx hlk hret rfl (Or.inr (Or.inr (Or.inr (Or.inr ⟨rfl, rfl, rfl⟩)))) (hb hby d16_95) (by show QG2 Z mp x z a ka ke0 ke1 u0 u1 c0 c1 t_ke0 k_ke0 t_ke1 k_ke1 t_x k_x c r h0 n0 _ T336.heap _; rw [e336]; exact ⟨by rw [hr]; first | rfl | (unfold own_get2; rw [if_neg hq323, if_neg hq334]), N336, y327⟩) (by decide) (by decide)
theorem ef_rmH20 (m : MethodId) (x0 : Addr) (x1 : Addr) (x2 : Addr) (x3 : Int32) : entryFrame m #[(.ref x0), (.ref x1), (.ref x2), (.int x3)] 5 = mkF m 0 #[.val (.ref x0), .val (.ref x1), .val (.ref x2), .val (.int x3), .unset] [] := by first | (simp [entryFrame, mkF, argsToLocals, Value.category]; done) | rfl
def QH20 (Z : State) (mp : Addr) (x : Addr) (y : Addr) (z : Int32) (a : Addr) (ka : ClassId) (ke0 : Addr) (ke1 : Addr) (u0 : Addr) (u1 : Addr) (c0 : Int32) (c1 : Int32) (t_ke0 : Addr) (k_ke0 : ClassId) (t_ke1 : Addr) (k_ke1 : ClassId) (t_x : Addr) (k_x : ClassId) (c : Int32) (h0 : Heap) (n0 : Nat) (v : Option Value) (h : Heap) (L : List Loc) : Prop := v = some (.int 1) ∧ Fr n0 L ∧ Keep h0 h []
set_option maxRecDepth 65536 in
set_option maxHeartbeats 40000000 in
theorem rmH20 (l : Launch) (Z : State) (a0 : Array Value) (hw : ∀ d ∈ tables_1, d.before a0 Z = true) (ws : List Jvm.Cond) (mp : Addr) (x : Addr) (y : Addr) (z : Int32) (a : Addr) (ka : ClassId) (ke0 : Addr) (ke1 : Addr) (u0 : Addr) (u1 : Addr) (c0 : Int32) (c1 : Int32) (t_ke0 : Addr) (k_ke0 : ClassId) (t_ke1 : Addr) (k_ke1 : ClassId) (t_x : Addr) (k_x : ClassId) (c : Int32) (h0 : Heap) (n0 : Nat) (Z0 : n0 ≤ h0.size) (hz : ¬ z = (0 : Int32)) (O : Old Z n0 h0) (SC : Sta Z Z.heap "java/lang/String" "COMPACT_STRINGS" "Z" (.int z)) (E : Exa Z h0 mp "com/example/settlewatt/settlewatt/model/TraceRecord$Inputs") (F2 : Fld Z h0 mp "com/example/settlewatt/settlewatt/model/TraceRecord$Inputs" "namesAndValues" "[Ljava/lang/String;" (.ref a)) (Aa : Arv Z h0 a ka (.object "java/lang/String") (4 : Int32) [(.ref ke0), (.ref u0), (.ref ke1), (.ref u1)] .null) (E_ke0 : Exa Z h0 ke0 "java/lang/String") (C_ke0 : Fld Z h0 ke0 "java/lang/String" "coder" "B" (.int 0)) (V_ke0 : Fld Z h0 ke0 "java/lang/String" "value" "[B" (.ref t_ke0)) (A_ke0 : Arv Z h0 t_ke0 k_ke0 .byte (1 : Int32) (([c0].map StrChars.lo8).map Value.int) (.int 0)) (r_ke0 : ∀ q_ ∈ [c0], ¬ q_ < 0 ∧ ¬ (255 : Int32) < q_) (E_ke1 : Exa Z h0 ke1 "java/lang/String") (C_ke1 : Fld Z h0 ke1 "java/lang/String" "coder" "B" (.int 0)) (V_ke1 : Fld Z h0 ke1 "java/lang/String" "value" "[B" (.ref t_ke1)) (A_ke1 : Arv Z h0 t_ke1 k_ke1 .byte (1 : Int32) (([c1].map StrChars.lo8).map Value.int) (.int 0)) (r_ke1 : ∀ q_ ∈ [c1], ¬ q_ < 0 ∧ ¬ (255 : Int32) < q_) (E_x : Exa Z h0 x "java/lang/String") (C_x : Fld Z h0 x "java/lang/String" "coder" "B" (.int 0)) (V_x : Fld Z h0 x "java/lang/String" "value" "[B" (.ref t_x)) (A_x : Arv Z h0 t_x k_x .byte (1 : Int32) (([c].map StrChars.lo8).map Value.int) (.int 0)) (r_x : ∀ q_ ∈ [c], ¬ q_ < 0 ∧ ¬ (255 : Int32) < q_) (hr : own_get2 c c0 c1 u0 u1 = .null) :
    MetFree l (⟨"com/example/settlewatt/settlewatt/model/TraceRecordInputsOfPinLaw", "has", "(Ljava/util/Map;Ljava/lang/String;Ljava/lang/String;Z)Z"⟩ : MethodName) (head1 (Jvm.Cond.code (⟨"com/example/settlewatt/settlewatt/model/TraceRecordInputsOfPinLaw", "has", "(Ljava/util/Map;Ljava/lang/String;Ljava/lang/String;Z)Z"⟩ : MethodName) method_2_code 5 (some .boolean) :: ws) ({ frames := 6, cells := 4, slots := 7, locals := 77 } : Room)) (fun as_ U => as_ = #[(.ref mp), (.ref x), (.ref y), (.int (0 : Int32))] ∧ Z.Warmed39 U.vm ∧ U.heap = h0) (fun _ _ _ _ _ => True) (fun _ U out_ U' => ∃ v L, out_ = .returned v ∧ QH20 Z mp x y z a ka ke0 ke1 u0 u1 c0 c1 t_ke0 k_ke0 t_ke1 k_ke1 t_x k_x c h0 n0 v U'.heap L ∧ FrameEnd U out_ U' L ({ frames := 6, cells := 4, slots := 7, locals := 77 } : Room).cells ({ frames := 6, cells := 4, slots := 7, locals := 77 } : Room).slots) := by
  refine MetFree.of_bodySF (plainFor_of_name pn_10) hisR ?_
  intro p e s m args below meth cd s₁ Bd hml0 hP hK
  obtain ⟨rfl, hZ, hh⟩ := hP
  have hx := Bd.exec
  have hby := Bd.bytes
  have hml : cd.maxLocals = 5 := hml0
  have hlk : meth.locks = false := BodyLoose.notSynchronized Bd
  have hown : s.vm.findClass "com/example/settlewatt/settlewatt/model/TraceRecordInputsOfPinLaw" = some m.cls := findClass_of_methodNamed Bd.named
  have hnm := (name_of_methodNamed Bd.named Bd.method).1
  have hret := Bd.returns
  have X0 : Stand p l e ({ frames := 6, cells := 4, slots := 7, locals := 77 } : Room) s m #[(.ref mp), (.ref x), (.ref y), (.int (0 : Int32))] below meth cd s₁ [] 0 0 := Stand.of_body Bd
  have e0 : s₁.heap = h0 := by rw [← hh, Bd.state]; rfl
  have N0 := Fr.nil n0
  show own_Fin p e below (own_Ans s (QH20 Z mp x y z a ka ke0 ke1 u0 u1 c0 c1 t_ke0 k_ke0 t_ke1 k_ke1 t_x k_x c h0 n0) ({ frames := 6, cells := 4, slots := 7, locals := 77 } : Room).cells ({ frames := 6, cells := 4, slots := 7, locals := 77 } : Room).slots) (s₁.setTop (entryFrame m #[(.ref mp), (.ref x), (.ref y), (.int (0 : Int32))] 5))
  refine own_cast (ef_rmH20 m mp x y (0 : Int32)) ?_
  show own_Fin p e below _ (s₁.setTop (mkF m 0 #[.val (.ref mp), .val (.ref x), .val (.ref y), .val (.int (0 : Int32)), .unset] []))
  refine own_on (fun tq => XS.aloadN X0.here hx rfl (hb hby d15_0) rfl rfl) ?_
  show own_Fin p e below _ (s₁.setTop (mkF m 1 #[.val (.ref mp), .val (.ref x), .val (.ref y), .val (.int (0 : Int32)), .unset] [(.ref mp)]))
  refine own_on (fun tq => XS.aloadN X0.here hx rfl (hb hby d15_1) rfl rfl) ?_
  show own_Fin p e below _ (s₁.setTop (mkF m 2 #[.val (.ref mp), .val (.ref x), .val (.ref y), .val (.int (0 : Int32)), .unset] [(.ref x), (.ref mp)]))
  obtain ⟨cq337, kq337, q337a, q337b, q337c⟩ := isOf hZ e0 (E.keep (Keep.refl h0 []))
  obtain ⟨_, _, ⟨T337, L337, k337, n337⟩, -, X337, ⟨Lc337, hQ337, l337, y337, z337⟩, st337⟩ := X0.interfaceBack hx (xi := (⟨"java/util/Map", "get", "(Ljava/lang/Object;)Ljava/lang/Object;"⟩ : MethodName)) (y := (⟨"java/util/AbstractMap", "get", "(Ljava/lang/Object;)Ljava/lang/Object;"⟩ : MethodName)) hown (mvT hZ (hw _ (List.mem_of_getElem? (i := 103) rfl))) (mvT hZ (hw _ (List.mem_of_getElem? (i := 104) rfl))) (mvT hZ (hw _ (List.mem_of_getElem? (i := 105) rfl))) (mvT hZ (hw _ (List.mem_of_getElem? (i := 106) rfl))) (mvT hZ (hw _ (List.mem_of_getElem? (i := 107) rfl))) (mvT hZ (hw _ (List.mem_of_getElem? (i := 108) rfl))) (mvT hZ (hw _ (List.mem_of_getElem? (i := 109) rfl))) (mvT hZ (hw _ (List.mem_of_getElem? (i := 62) rfl))) (by decide) (backOf (W := 0) (rmG2 l Z a0 hw [] mp x z a ka ke0 ke1 u0 u1 c0 c1 t_ke0 k_ke0 t_ke1 k_ke1 t_x k_x c .null h0 n0 (by exact Z0) hz O SC (E.keep (Keep.refl h0 [])) (F2.keep (Keep.refl h0 []) nin0) (Aa.keep (Keep.refl h0 []) nin0) (E_ke0.keep (Keep.refl h0 [])) (C_ke0.keep (Keep.refl h0 []) nin0) (V_ke0.keep (Keep.refl h0 []) nin0) (A_ke0.keep (Keep.refl h0 []) nin0) r_ke0 (E_ke1.keep (Keep.refl h0 [])) (C_ke1.keep (Keep.refl h0 []) nin0) (V_ke1.keep (Keep.refl h0 []) nin0) (A_ke1.keep (Keep.refl h0 []) nin0) r_ke1 (E_x.keep (Keep.refl h0 [])) (C_x.keep (Keep.refl h0 []) nin0) (V_x.keep (Keep.refl h0 []) nin0) (A_x.keep (Keep.refl h0 []) nin0) r_x hr.symm) hZ (hw _ (List.mem_of_getElem? (i := 110) rfl)) (hw _ (List.mem_of_getElem? (i := 50) rfl)) (by decide) (by decide)) q337a q337b q337c (g := (mkF m 2 #[.val (.ref mp), .val (.ref x), .val (.ref y), .val (.int (0 : Int32)), .unset] [(.ref x), (.ref mp)])) rfl (by rw [hml]; rfl) (Steps.refl _) (argsL := [(.ref x)]) (rest := []) (lenOf pd_13 rfl) rfl (by show 2 * 0 + _ ≤ _; exact Nat.le_of_eq rfl) (hb hby d15_2) (fun _ _ => ⟨rfl, e0, (by decide : 0 + 4 ≤ _), (by decide : 0 + 7 ≤ _)⟩)
  dsimp only [Pt.U, Pt.locs, Pt.cells, Pt.slots] at X337 l337 y337 z337 st337 hQ337
  subst l337 y337 z337
  obtain ⟨rfl, N337q, K337⟩ := hQ337
  have N337 := Fr.app N0 N337q
  have y338 := ((Keep.refl h0 []).trans K337 all0)
  have y339 := (Nat.le_trans Z0 K337.1)
  have y340 := (O.keep K337 all0)
  refine own_via st337 ?_
  show own_Fin p e below _ (T337.setTop (mkF m 7 #[.val (.ref mp), .val (.ref x), .val (.ref y), .val (.int (0 : Int32)), .unset] [.null]))
  refine own_on (fun tq => X337.checkcastNull hx (g := (mkF m 7 #[.val (.ref mp), .val (.ref x), .val (.ref y), .val (.int (0 : Int32)), .unset] [.null])) rfl rfl (hb hby d15_7) tq) ?_
  show own_Fin p e below _ (T337.setTop (mkF m 10 #[.val (.ref mp), .val (.ref x), .val (.ref y), .val (.int (0 : Int32)), .unset] [.null]))
  refine own_on (fun tq => XS.astore X337.here hx rfl (hb hby d15_10) rfl rfl (l' := #[.val (.ref mp), .val (.ref x), .val (.ref y), .val (.int (0 : Int32)), .val .null]) rfl) ?_
  show own_Fin p e below _ (T337.setTop (mkF m 12 #[.val (.ref mp), .val (.ref x), .val (.ref y), .val (.int (0 : Int32)), .val .null] []))
  refine own_on (fun tq => XS.iloadN X337.here hx rfl (hb hby d15_12) rfl) ?_
  show own_Fin p e below _ (T337.setTop (mkF m 13 #[.val (.ref mp), .val (.ref x), .val (.ref y), .val (.int (0 : Int32)), .val .null] [(.int (0 : Int32))]))
  refine own_on (fun tq => XS.ifYes X337.here hx rfl (pc0 := 13) (pc' := 36) rfl (hb hby d15_13) rfl ((if0 _ _).trans (teq (by decide : (0 : Int32) = (0 : Int32))).1) (by decide) (by decide)) ?_
  show own_Fin p e below _ (T337.setTop (mkF m 36 #[.val (.ref mp), .val (.ref x), .val (.ref y), .val (.int (0 : Int32)), .val .null] []))
  refine own_on (fun tq => XS.aload X337.here hx rfl (hb hby d15_36) rfl rfl) ?_
  show own_Fin p e below _ (T337.setTop (mkF m 38 #[.val (.ref mp), .val (.ref x), .val (.ref y), .val (.int (0 : Int32)), .val .null] [.null]))
  refine own_on (fun tq => XS.ifnonnullNo X337.here hx rfl (hb hby d15_38) rfl) ?_
  show own_Fin p e below _ (T337.setTop (mkF m 41 #[.val (.ref mp), .val (.ref x), .val (.ref y), .val (.int (0 : Int32)), .val .null] []))
  refine own_on (fun tq => XS.iconst X337.here hx rfl (hb hby d15_41)) ?_
  show own_Fin p e below _ (T337.setTop (mkF m 42 #[.val (.ref mp), .val (.ref x), .val (.ref y), .val (.int (0 : Int32)), .val .null] [(.int (1 : Int32))]))
  refine own_on (fun tq => XS.goto X337.here hx rfl (pc0 := 42) (pc' := 46) rfl (hb hby d15_42) (by decide) (by decide)) ?_
  show own_Fin p e below _ (T337.setTop (mkF m 46 #[.val (.ref mp), .val (.ref x), .val (.ref y), .val (.int (0 : Int32)), .val .null] [(.int (1 : Int32))]))
  exact own_ret (t := .boolean) X337 hx hlk hret rfl (Or.inl ⟨rfl, (by simp), _, rfl⟩) (hb hby d15_46) (by show QH20 Z mp x y z a ka ke0 ke1 u0 u1 c0 c1 t_ke0 k_ke0 t_ke1 k_ke1 t_x k_x c h0 n0 _ T337.heap _; exact ⟨rfl, N337, y338⟩) (by decide) (by decide)
theorem ef_rmH21 (m : MethodId) (x0 : Addr) (x1 : Addr) (x2 : Addr) (x3 : Int32) : entryFrame m #[(.ref x0), (.ref x1), (.ref x2), (.int x3)] 5 = mkF m 0 #[.val (.ref x0), .val (.ref x1), .val (.ref x2), .val (.int x3), .unset] [] := by first | (simp [entryFrame, mkF, argsToLocals, Value.category]; done) | rfl
def QH21 (Z : State) (mp : Addr) (x : Addr) (y : Addr) (z : Int32) (a : Addr) (ka : ClassId) (ke0 : Addr) (ke1 : Addr) (u0 : Addr) (u1 : Addr) (c0 : Int32) (c1 : Int32) (t_ke0 : Addr) (k_ke0 : ClassId) (t_ke1 : Addr) (k_ke1 : ClassId) (t_x : Addr) (k_x : ClassId) (c : Int32) (t_y : Addr) (k_y : ClassId) (d : Int32) (h0 : Heap) (n0 : Nat) (v : Option Value) (h : Heap) (L : List Loc) : Prop := v = some (.int 1) ∧ Fr n0 L ∧ Keep h0 h []
set_option maxRecDepth 65536 in
set_option maxHeartbeats 40000000 in
theorem rmH21 (l : Launch) (Z : State) (a0 : Array Value) (hw : ∀ d ∈ tables_1, d.before a0 Z = true) (ws : List Jvm.Cond) (mp : Addr) (x : Addr) (y : Addr) (z : Int32) (a : Addr) (ka : ClassId) (ke0 : Addr) (ke1 : Addr) (u0 : Addr) (u1 : Addr) (c0 : Int32) (c1 : Int32) (t_ke0 : Addr) (k_ke0 : ClassId) (t_ke1 : Addr) (k_ke1 : ClassId) (t_x : Addr) (k_x : ClassId) (c : Int32) (t_y : Addr) (k_y : ClassId) (d : Int32) (h0 : Heap) (n0 : Nat) (Z0 : n0 ≤ h0.size) (hz : ¬ z = (0 : Int32)) (O : Old Z n0 h0) (SC : Sta Z Z.heap "java/lang/String" "COMPACT_STRINGS" "Z" (.int z)) (E : Exa Z h0 mp "com/example/settlewatt/settlewatt/model/TraceRecord$Inputs") (F2 : Fld Z h0 mp "com/example/settlewatt/settlewatt/model/TraceRecord$Inputs" "namesAndValues" "[Ljava/lang/String;" (.ref a)) (Aa : Arv Z h0 a ka (.object "java/lang/String") (4 : Int32) [(.ref ke0), (.ref u0), (.ref ke1), (.ref u1)] .null) (E_ke0 : Exa Z h0 ke0 "java/lang/String") (C_ke0 : Fld Z h0 ke0 "java/lang/String" "coder" "B" (.int 0)) (V_ke0 : Fld Z h0 ke0 "java/lang/String" "value" "[B" (.ref t_ke0)) (A_ke0 : Arv Z h0 t_ke0 k_ke0 .byte (1 : Int32) (([c0].map StrChars.lo8).map Value.int) (.int 0)) (r_ke0 : ∀ q_ ∈ [c0], ¬ q_ < 0 ∧ ¬ (255 : Int32) < q_) (E_ke1 : Exa Z h0 ke1 "java/lang/String") (C_ke1 : Fld Z h0 ke1 "java/lang/String" "coder" "B" (.int 0)) (V_ke1 : Fld Z h0 ke1 "java/lang/String" "value" "[B" (.ref t_ke1)) (A_ke1 : Arv Z h0 t_ke1 k_ke1 .byte (1 : Int32) (([c1].map StrChars.lo8).map Value.int) (.int 0)) (r_ke1 : ∀ q_ ∈ [c1], ¬ q_ < 0 ∧ ¬ (255 : Int32) < q_) (E_x : Exa Z h0 x "java/lang/String") (C_x : Fld Z h0 x "java/lang/String" "coder" "B" (.int 0)) (V_x : Fld Z h0 x "java/lang/String" "value" "[B" (.ref t_x)) (A_x : Arv Z h0 t_x k_x .byte (1 : Int32) (([c].map StrChars.lo8).map Value.int) (.int 0)) (r_x : ∀ q_ ∈ [c], ¬ q_ < 0 ∧ ¬ (255 : Int32) < q_) (E_y : Exa Z h0 y "java/lang/String") (C_y : Fld Z h0 y "java/lang/String" "coder" "B" (.int 0)) (V_y : Fld Z h0 y "java/lang/String" "value" "[B" (.ref t_y)) (A_y : Arv Z h0 t_y k_y .byte (1 : Int32) (([d].map StrChars.lo8).map Value.int) (.int 0)) (r_y : ∀ q_ ∈ [d], ¬ q_ < 0 ∧ ¬ (255 : Int32) < q_) (hr : own_get2 c c0 c1 u0 u1 = .ref y) :
    MetFree l (⟨"com/example/settlewatt/settlewatt/model/TraceRecordInputsOfPinLaw", "has", "(Ljava/util/Map;Ljava/lang/String;Ljava/lang/String;Z)Z"⟩ : MethodName) (head1 (Jvm.Cond.code (⟨"com/example/settlewatt/settlewatt/model/TraceRecordInputsOfPinLaw", "has", "(Ljava/util/Map;Ljava/lang/String;Ljava/lang/String;Z)Z"⟩ : MethodName) method_2_code 5 (some .boolean) :: ws) ({ frames := 6, cells := 4, slots := 7, locals := 77 } : Room)) (fun as_ U => as_ = #[(.ref mp), (.ref x), (.ref y), (.int (1 : Int32))] ∧ Z.Warmed39 U.vm ∧ U.heap = h0) (fun _ _ _ _ _ => True) (fun _ U out_ U' => ∃ v L, out_ = .returned v ∧ QH21 Z mp x y z a ka ke0 ke1 u0 u1 c0 c1 t_ke0 k_ke0 t_ke1 k_ke1 t_x k_x c t_y k_y d h0 n0 v U'.heap L ∧ FrameEnd U out_ U' L ({ frames := 6, cells := 4, slots := 7, locals := 77 } : Room).cells ({ frames := 6, cells := 4, slots := 7, locals := 77 } : Room).slots) := by
  refine MetFree.of_bodySF (plainFor_of_name pn_10) hisR ?_
  intro p e s m args below meth cd s₁ Bd hml0 hP hK
  obtain ⟨rfl, hZ, hh⟩ := hP
  have hx := Bd.exec
  have hby := Bd.bytes
  have hml : cd.maxLocals = 5 := hml0
  have hlk : meth.locks = false := BodyLoose.notSynchronized Bd
  have hown : s.vm.findClass "com/example/settlewatt/settlewatt/model/TraceRecordInputsOfPinLaw" = some m.cls := findClass_of_methodNamed Bd.named
  have hnm := (name_of_methodNamed Bd.named Bd.method).1
  have hret := Bd.returns
  have X0 : Stand p l e ({ frames := 6, cells := 4, slots := 7, locals := 77 } : Room) s m #[(.ref mp), (.ref x), (.ref y), (.int (1 : Int32))] below meth cd s₁ [] 0 0 := Stand.of_body Bd
  have e0 : s₁.heap = h0 := by rw [← hh, Bd.state]; rfl
  have N0 := Fr.nil n0
  show own_Fin p e below (own_Ans s (QH21 Z mp x y z a ka ke0 ke1 u0 u1 c0 c1 t_ke0 k_ke0 t_ke1 k_ke1 t_x k_x c t_y k_y d h0 n0) ({ frames := 6, cells := 4, slots := 7, locals := 77 } : Room).cells ({ frames := 6, cells := 4, slots := 7, locals := 77 } : Room).slots) (s₁.setTop (entryFrame m #[(.ref mp), (.ref x), (.ref y), (.int (1 : Int32))] 5))
  refine own_cast (ef_rmH21 m mp x y (1 : Int32)) ?_
  show own_Fin p e below _ (s₁.setTop (mkF m 0 #[.val (.ref mp), .val (.ref x), .val (.ref y), .val (.int (1 : Int32)), .unset] []))
  refine own_on (fun tq => XS.aloadN X0.here hx rfl (hb hby d15_0) rfl rfl) ?_
  show own_Fin p e below _ (s₁.setTop (mkF m 1 #[.val (.ref mp), .val (.ref x), .val (.ref y), .val (.int (1 : Int32)), .unset] [(.ref mp)]))
  refine own_on (fun tq => XS.aloadN X0.here hx rfl (hb hby d15_1) rfl rfl) ?_
  show own_Fin p e below _ (s₁.setTop (mkF m 2 #[.val (.ref mp), .val (.ref x), .val (.ref y), .val (.int (1 : Int32)), .unset] [(.ref x), (.ref mp)]))
  obtain ⟨cq341, kq341, q341a, q341b, q341c⟩ := isOf hZ e0 (E.keep (Keep.refl h0 []))
  obtain ⟨_, _, ⟨T341, L341, k341, n341⟩, -, X341, ⟨Lc341, hQ341, l341, y341, z341⟩, st341⟩ := X0.interfaceBack hx (xi := (⟨"java/util/Map", "get", "(Ljava/lang/Object;)Ljava/lang/Object;"⟩ : MethodName)) (y := (⟨"java/util/AbstractMap", "get", "(Ljava/lang/Object;)Ljava/lang/Object;"⟩ : MethodName)) hown (mvT hZ (hw _ (List.mem_of_getElem? (i := 103) rfl))) (mvT hZ (hw _ (List.mem_of_getElem? (i := 104) rfl))) (mvT hZ (hw _ (List.mem_of_getElem? (i := 105) rfl))) (mvT hZ (hw _ (List.mem_of_getElem? (i := 106) rfl))) (mvT hZ (hw _ (List.mem_of_getElem? (i := 107) rfl))) (mvT hZ (hw _ (List.mem_of_getElem? (i := 108) rfl))) (mvT hZ (hw _ (List.mem_of_getElem? (i := 109) rfl))) (mvT hZ (hw _ (List.mem_of_getElem? (i := 62) rfl))) (by decide) (backOf (W := 0) (rmG2 l Z a0 hw [] mp x z a ka ke0 ke1 u0 u1 c0 c1 t_ke0 k_ke0 t_ke1 k_ke1 t_x k_x c (.ref y) h0 n0 (by exact Z0) hz O SC (E.keep (Keep.refl h0 [])) (F2.keep (Keep.refl h0 []) nin0) (Aa.keep (Keep.refl h0 []) nin0) (E_ke0.keep (Keep.refl h0 [])) (C_ke0.keep (Keep.refl h0 []) nin0) (V_ke0.keep (Keep.refl h0 []) nin0) (A_ke0.keep (Keep.refl h0 []) nin0) r_ke0 (E_ke1.keep (Keep.refl h0 [])) (C_ke1.keep (Keep.refl h0 []) nin0) (V_ke1.keep (Keep.refl h0 []) nin0) (A_ke1.keep (Keep.refl h0 []) nin0) r_ke1 (E_x.keep (Keep.refl h0 [])) (C_x.keep (Keep.refl h0 []) nin0) (V_x.keep (Keep.refl h0 []) nin0) (A_x.keep (Keep.refl h0 []) nin0) r_x hr.symm) hZ (hw _ (List.mem_of_getElem? (i := 110) rfl)) (hw _ (List.mem_of_getElem? (i := 50) rfl)) (by decide) (by decide)) q341a q341b q341c (g := (mkF m 2 #[.val (.ref mp), .val (.ref x), .val (.ref y), .val (.int (1 : Int32)), .unset] [(.ref x), (.ref mp)])) rfl (by rw [hml]; rfl) (Steps.refl _) (argsL := [(.ref x)]) (rest := []) (lenOf pd_13 rfl) rfl (by show 2 * 0 + _ ≤ _; exact Nat.le_of_eq rfl) (hb hby d15_2) (fun _ _ => ⟨rfl, e0, (by decide : 0 + 4 ≤ _), (by decide : 0 + 7 ≤ _)⟩)
  dsimp only [Pt.U, Pt.locs, Pt.cells, Pt.slots] at X341 l341 y341 z341 st341 hQ341
  subst l341 y341 z341
  obtain ⟨rfl, N341q, K341⟩ := hQ341
  have N341 := Fr.app N0 N341q
  have y342 := ((Keep.refl h0 []).trans K341 all0)
  have y343 := (Nat.le_trans Z0 K341.1)
  have y344 := (O.keep K341 all0)
  refine own_via st341 ?_
  show own_Fin p e below _ (T341.setTop (mkF m 7 #[.val (.ref mp), .val (.ref x), .val (.ref y), .val (.int (1 : Int32)), .unset] [(.ref y)]))
  obtain ⟨T345, X345, e345, st345⟩ := castY X341 hx hZ hown (hw _ (List.mem_of_getElem? (i := 26) rfl)) rfl (Ins.self (E_y.keep y342)) (g := (mkF m 7 #[.val (.ref mp), .val (.ref x), .val (.ref y), .val (.int (1 : Int32)), .unset] [(.ref y)])) rfl rfl (hb hby d15_7)
  refine own_on st345 ?_
  show own_Fin p e below _ (T345.setTop (mkF m 10 #[.val (.ref mp), .val (.ref x), .val (.ref y), .val (.int (1 : Int32)), .unset] [(.ref y)]))
  refine own_on (fun tq => XS.astore X345.here hx rfl (hb hby d15_10) rfl rfl (l' := #[.val (.ref mp), .val (.ref x), .val (.ref y), .val (.int (1 : Int32)), .val (.ref y)]) rfl) ?_
  show own_Fin p e below _ (T345.setTop (mkF m 12 #[.val (.ref mp), .val (.ref x), .val (.ref y), .val (.int (1 : Int32)), .val (.ref y)] []))
  refine own_on (fun tq => XS.iloadN X345.here hx rfl (hb hby d15_12) rfl) ?_
  show own_Fin p e below _ (T345.setTop (mkF m 13 #[.val (.ref mp), .val (.ref x), .val (.ref y), .val (.int (1 : Int32)), .val (.ref y)] [(.int (1 : Int32))]))
  refine own_on (fun tq => XS.ifNo X345.here hx rfl (hb hby d15_13) rfl ((if0 _ _).trans (feq (by decide : ¬ ((1 : Int32) = (0 : Int32)))).1)) ?_
  show own_Fin p e below _ (T345.setTop (mkF m 16 #[.val (.ref mp), .val (.ref x), .val (.ref y), .val (.int (1 : Int32)), .val (.ref y)] []))
  refine own_on (fun tq => XS.aload X345.here hx rfl (hb hby d15_16) rfl rfl) ?_
  show own_Fin p e below _ (T345.setTop (mkF m 18 #[.val (.ref mp), .val (.ref x), .val (.ref y), .val (.int (1 : Int32)), .val (.ref y)] [(.ref y)]))
  refine own_on (fun tq => XS.ifnullNo X345.here hx rfl (hb hby d15_18) rfl) ?_
  show own_Fin p e below _ (T345.setTop (mkF m 21 #[.val (.ref mp), .val (.ref x), .val (.ref y), .val (.int (1 : Int32)), .val (.ref y)] []))
  refine own_on (fun tq => XS.aload X345.here hx rfl (hb hby d15_21) rfl rfl) ?_
  show own_Fin p e below _ (T345.setTop (mkF m 23 #[.val (.ref mp), .val (.ref x), .val (.ref y), .val (.int (1 : Int32)), .val (.ref y)] [(.ref y)]))
  refine own_on (fun tq => XS.aloadN X345.here hx rfl (hb hby d15_23) rfl rfl) ?_
  show own_Fin p e below _ (T345.setTop (mkF m 24 #[.val (.ref mp), .val (.ref x), .val (.ref y), .val (.int (1 : Int32)), .val (.ref y)] [(.ref y), (.ref y)]))
  obtain ⟨cq346, kq346, q346a, q346b, q346c⟩ := isOf hZ e345 (E_y.keep y342)
  obtain ⟨_, _, ⟨T346, L346, k346, n346⟩, -, X346, ⟨Lc346, hQ346, l346, y346, z346⟩, st346⟩ := X345.virtualBack hx (y := (⟨"java/lang/String", "equals", "(Ljava/lang/Object;)Z"⟩ : MethodName)) (z := (⟨"java/lang/String", "equals", "(Ljava/lang/Object;)Z"⟩ : MethodName)) hown (mvT hZ (hw _ (List.mem_of_getElem? (i := 191) rfl))) (mvT hZ (hw _ (List.mem_of_getElem? (i := 192) rfl))) (notFace_of_selects (args := #[]) (mvT hZ (hw _ (List.mem_of_getElem? (i := 193) rfl)))) (mvT hZ (hw _ (List.mem_of_getElem? (i := 193) rfl))) (mvT hZ (hw _ (List.mem_of_getElem? (i := 181) rfl))) (by decide) (StrChars.Road.eqW (W := 0) hZ (own_wE hw) (hw _ (List.mem_of_getElem? (i := 10) rfl)) (E_y.keep y342) (V_y.keep y342 nin0) (C_y.keep y342 nin0) (A_y.keep y342 nin0) (own_cod (cs := [d]) (n := 1) rfl (fun c q => (r_y c q).2)) (own_r16 r_y) (Nat.le_of_ble_eq_true rfl) (E_y.keep y342) (V_y.keep y342 nin0) (C_y.keep y342 nin0) (A_y.keep y342 nin0) (own_cod (cs := [d]) (n := 1) rfl (fun c q => (r_y c q).2)) (own_r16 r_y) (Nat.le_of_ble_eq_true rfl) (SC.ext y344.2) hz (by decide) (by decide)) q346a q346c (g := (mkF m 24 #[.val (.ref mp), .val (.ref x), .val (.ref y), .val (.int (1 : Int32)), .val (.ref y)] [(.ref y), (.ref y)])) rfl (by rw [hml]; rfl) (Steps.refl _) (argsL := [(.ref y)]) (rest := []) (lenOf pd_5 rfl) rfl (by show 2 * 0 + _ ≤ _; exact Nat.le_of_eq rfl) (hb hby d15_24) (fun _ _ => ⟨rfl, e345, (by decide : 4 + 0 ≤ _), (by decide : 7 + 0 ≤ _)⟩)
  dsimp only [Pt.U, Pt.locs, Pt.cells, Pt.slots] at X346 l346 y346 z346 st346 hQ346
  subst l346 y346 z346
  obtain ⟨hv346, rfl, e346⟩ := hQ346
  have N346 := Fr.app N341 (Fr.nil n0)
  obtain rfl := own_eq1 hv346 rfl
  refine own_via st346 ?_
  show own_Fin p e below _ (T346.setTop (mkF m 27 #[.val (.ref mp), .val (.ref x), .val (.ref y), .val (.int (1 : Int32)), .val (.ref y)] [(.int (1 : Int32))]))
  refine own_on (fun tq => XS.ifNo X346.here hx rfl (hb hby d15_27) rfl ((if0 _ _).trans (feq (by decide : ¬ ((1 : Int32) = (0 : Int32)))).1)) ?_
  show own_Fin p e below _ (T346.setTop (mkF m 30 #[.val (.ref mp), .val (.ref x), .val (.ref y), .val (.int (1 : Int32)), .val (.ref y)] []))
  refine own_on (fun tq => XS.iconst X346.here hx rfl (hb hby d15_30)) ?_
  show own_Fin p e below _ (T346.setTop (mkF m 31 #[.val (.ref mp), .val (.ref x), .val (.ref y), .val (.int (1 : Int32)), .val (.ref y)] [(.int (1 : Int32))]))
  refine own_on (fun tq => XS.goto X346.here hx rfl (pc0 := 31) (pc' := 35) rfl (hb hby d15_31) (by decide) (by decide)) ?_
  show own_Fin p e below _ (T346.setTop (mkF m 35 #[.val (.ref mp), .val (.ref x), .val (.ref y), .val (.int (1 : Int32)), .val (.ref y)] [(.int (1 : Int32))]))
  exact own_ret (t := .boolean) X346 hx hlk hret rfl (Or.inl ⟨rfl, (by simp), _, rfl⟩) (hb hby d15_35) (by show QH21 Z mp x y z a ka ke0 ke1 u0 u1 c0 c1 t_ke0 k_ke0 t_ke1 k_ke1 t_x k_x c t_y k_y d h0 n0 _ T346.heap _; rw [e346]; exact ⟨rfl, N346, y342⟩) (by decide) (by decide)
def own_get3 (c : Int32) (c0 c1 c2 : Int32) (u0 u1 u2 : Addr) : Value := if c = c0 then .ref u0 else if c = c1 then .ref u1 else if c = c2 then .ref u2 else .null
theorem ef_rmG3 (m : MethodId) (x0 : Addr) (x1 : Addr) : entryFrame m #[(.ref x0), (.ref x1)] 4 = mkF m 0 #[.val (.ref x0), .val (.ref x1), .unset, .unset] [] := by first | (simp [entryFrame, mkF, argsToLocals, Value.category]; done) | rfl
def QG3 (Z : State) (mp : Addr) (x : Addr) (z : Int32) (a : Addr) (ka : ClassId) (ke0 : Addr) (ke1 : Addr) (ke2 : Addr) (u0 : Addr) (u1 : Addr) (u2 : Addr) (c0 : Int32) (c1 : Int32) (c2 : Int32) (t_ke0 : Addr) (k_ke0 : ClassId) (t_ke1 : Addr) (k_ke1 : ClassId) (t_ke2 : Addr) (k_ke2 : ClassId) (t_x : Addr) (k_x : ClassId) (c : Int32) (r : Value) (h0 : Heap) (n0 : Nat) (v : Option Value) (h : Heap) (L : List Loc) : Prop := v = some r ∧ Fr n0 L ∧ Keep h0 h []
set_option maxRecDepth 65536 in
set_option maxHeartbeats 40000000 in
theorem rmG3 (l : Launch) (Z : State) (a0 : Array Value) (hw : ∀ d ∈ tables_1, d.before a0 Z = true) (ws : List Jvm.Cond) (mp : Addr) (x : Addr) (z : Int32) (a : Addr) (ka : ClassId) (ke0 : Addr) (ke1 : Addr) (ke2 : Addr) (u0 : Addr) (u1 : Addr) (u2 : Addr) (c0 : Int32) (c1 : Int32) (c2 : Int32) (t_ke0 : Addr) (k_ke0 : ClassId) (t_ke1 : Addr) (k_ke1 : ClassId) (t_ke2 : Addr) (k_ke2 : ClassId) (t_x : Addr) (k_x : ClassId) (c : Int32) (r : Value) (h0 : Heap) (n0 : Nat) (Z0 : n0 ≤ h0.size) (hz : ¬ z = (0 : Int32)) (O : Old Z n0 h0) (SC : Sta Z Z.heap "java/lang/String" "COMPACT_STRINGS" "Z" (.int z)) (E : Exa Z h0 mp "com/example/settlewatt/settlewatt/model/TraceRecord$Inputs") (F2 : Fld Z h0 mp "com/example/settlewatt/settlewatt/model/TraceRecord$Inputs" "namesAndValues" "[Ljava/lang/String;" (.ref a)) (Aa : Arv Z h0 a ka (.object "java/lang/String") (6 : Int32) [(.ref ke0), (.ref u0), (.ref ke1), (.ref u1), (.ref ke2), (.ref u2)] .null) (E_ke0 : Exa Z h0 ke0 "java/lang/String") (C_ke0 : Fld Z h0 ke0 "java/lang/String" "coder" "B" (.int 0)) (V_ke0 : Fld Z h0 ke0 "java/lang/String" "value" "[B" (.ref t_ke0)) (A_ke0 : Arv Z h0 t_ke0 k_ke0 .byte (1 : Int32) (([c0].map StrChars.lo8).map Value.int) (.int 0)) (r_ke0 : ∀ q_ ∈ [c0], ¬ q_ < 0 ∧ ¬ (255 : Int32) < q_) (E_ke1 : Exa Z h0 ke1 "java/lang/String") (C_ke1 : Fld Z h0 ke1 "java/lang/String" "coder" "B" (.int 0)) (V_ke1 : Fld Z h0 ke1 "java/lang/String" "value" "[B" (.ref t_ke1)) (A_ke1 : Arv Z h0 t_ke1 k_ke1 .byte (1 : Int32) (([c1].map StrChars.lo8).map Value.int) (.int 0)) (r_ke1 : ∀ q_ ∈ [c1], ¬ q_ < 0 ∧ ¬ (255 : Int32) < q_) (E_ke2 : Exa Z h0 ke2 "java/lang/String") (C_ke2 : Fld Z h0 ke2 "java/lang/String" "coder" "B" (.int 0)) (V_ke2 : Fld Z h0 ke2 "java/lang/String" "value" "[B" (.ref t_ke2)) (A_ke2 : Arv Z h0 t_ke2 k_ke2 .byte (1 : Int32) (([c2].map StrChars.lo8).map Value.int) (.int 0)) (r_ke2 : ∀ q_ ∈ [c2], ¬ q_ < 0 ∧ ¬ (255 : Int32) < q_) (E_x : Exa Z h0 x "java/lang/String") (C_x : Fld Z h0 x "java/lang/String" "coder" "B" (.int 0)) (V_x : Fld Z h0 x "java/lang/String" "value" "[B" (.ref t_x)) (A_x : Arv Z h0 t_x k_x .byte (1 : Int32) (([c].map StrChars.lo8).map Value.int) (.int 0)) (r_x : ∀ q_ ∈ [c], ¬ q_ < 0 ∧ ¬ (255 : Int32) < q_) (hr : r = own_get3 c c0 c1 c2 u0 u1 u2) :
    MetFree l (⟨"java/util/AbstractMap", "get", "(Ljava/lang/Object;)Ljava/lang/Object;"⟩ : MethodName) (head1 (Jvm.Cond.code (⟨"java/util/AbstractMap", "get", "(Ljava/lang/Object;)Ljava/lang/Object;"⟩ : MethodName) jdk_71_method_6_code 4 (some (.object "java/lang/Object")) :: ws) ({ frames := 5, cells := 5, slots := 9, locals := 62 } : Room)) (fun as_ U => as_ = #[(.ref mp), (.ref x)] ∧ Z.Warmed39 U.vm ∧ U.heap = h0) (fun _ _ _ _ _ => True) (fun _ U out_ U' => ∃ v L, out_ = .returned v ∧ QG3 Z mp x z a ka ke0 ke1 ke2 u0 u1 u2 c0 c1 c2 t_ke0 k_ke0 t_ke1 k_ke1 t_ke2 k_ke2 t_x k_x c r h0 n0 v U'.heap L ∧ FrameEnd U out_ U' L ({ frames := 5, cells := 5, slots := 9, locals := 62 } : Room).cells ({ frames := 5, cells := 5, slots := 9, locals := 62 } : Room).slots) := by
  refine MetFree.of_bodySF (plainFor_of_name pn_2) hisR ?_
  intro p e s m args below meth cd s₁ Bd hml0 hP hK
  obtain ⟨rfl, hZ, hh⟩ := hP
  have hx := Bd.exec
  have hby := Bd.bytes
  have hml : cd.maxLocals = 4 := hml0
  have hlk : meth.locks = false := BodyLoose.notSynchronized Bd
  have hown : s.vm.findClass "java/util/AbstractMap" = some m.cls := findClass_of_methodNamed Bd.named
  have hnm := (name_of_methodNamed Bd.named Bd.method).1
  have hret := Bd.returns
  have X0 : Stand p l e ({ frames := 5, cells := 5, slots := 9, locals := 62 } : Room) s m #[(.ref mp), (.ref x)] below meth cd s₁ [] 0 0 := Stand.of_body Bd
  have e0 : s₁.heap = h0 := by rw [← hh, Bd.state]; rfl
  have N0 := Fr.nil n0
  show own_Fin p e below (own_Ans s (QG3 Z mp x z a ka ke0 ke1 ke2 u0 u1 u2 c0 c1 c2 t_ke0 k_ke0 t_ke1 k_ke1 t_ke2 k_ke2 t_x k_x c r h0 n0) ({ frames := 5, cells := 5, slots := 9, locals := 62 } : Room).cells ({ frames := 5, cells := 5, slots := 9, locals := 62 } : Room).slots) (s₁.setTop (entryFrame m #[(.ref mp), (.ref x)] 4))
  refine own_cast (ef_rmG3 m mp x) ?_
  show own_Fin p e below _ (s₁.setTop (mkF m 0 #[.val (.ref mp), .val (.ref x), .unset, .unset] []))
  refine own_on (fun tq => XS.aloadN X0.here hx rfl (hb hby d16_0) rfl rfl) ?_
  show own_Fin p e below _ (s₁.setTop (mkF m 1 #[.val (.ref mp), .val (.ref x), .unset, .unset] [(.ref mp)]))
  obtain ⟨cq347, kq347, q347a, q347b, q347c⟩ := isOf hZ e0 (E.keep (Keep.refl h0 []))
  obtain ⟨_, _, ⟨T347, L347, k347, n347⟩, -, X347, ⟨Lc347, hQ347, l347, y347, z347⟩, st347⟩ := X0.virtualBack hx (y := (⟨"java/util/AbstractMap", "entrySet", "()Ljava/util/Set;"⟩ : MethodName)) (z := (⟨"com/example/settlewatt/settlewatt/model/TraceRecord$Inputs", "entrySet", "()Ljava/util/Set;"⟩ : MethodName)) hown (mvT hZ (hw _ (List.mem_of_getElem? (i := 64) rfl))) (mvT hZ (hw _ (List.mem_of_getElem? (i := 65) rfl))) (own_nf (a0 := #[]) (mvT hZ (hw _ (List.mem_of_getElem? (i := 58) rfl))) rfl) (mvT hZ (hw _ (List.mem_of_getElem? (i := 66) rfl))) (mvT hZ (hw _ (List.mem_of_getElem? (i := 67) rfl))) (by decide) (backOf (W := 0) (rm10 l Z a0 hw [] mp h0 n0 (by exact Z0)) hZ (hw _ (List.mem_of_getElem? (i := 68) rfl)) (hw _ (List.mem_of_getElem? (i := 34) rfl)) (by decide) (by decide)) q347a q347c (g := (mkF m 1 #[.val (.ref mp), .val (.ref x), .unset, .unset] [(.ref mp)])) rfl (by rw [hml]; rfl) (Steps.refl _) (argsL := []) (rest := []) (lenOf pd_7 rfl) rfl (by show 2 * 0 + _ ≤ _; exact Nat.le_of_eq rfl) (hb hby d16_1) (fun _ _ => ⟨rfl, e0, (by decide : 0 + 1 ≤ _), (by decide : 0 + 1 ≤ _)⟩)
  dsimp only [Pt.U, Pt.locs, Pt.cells, Pt.slots] at X347 l347 y347 z347 st347 hQ347
  subst l347 y347 z347
  obtain ⟨s347, rfl, N347q, K347, Eq347, Fq347⟩ := hQ347
  have N347 := Fr.app N0 N347q
  have y348 := ((Keep.refl h0 []).trans K347 all0)
  have y349 := (Nat.le_trans Z0 K347.1)
  have y350 := (O.keep K347 all0)
  refine own_via st347 ?_
  show own_Fin p e below _ (T347.setTop (mkF m 4 #[.val (.ref mp), .val (.ref x), .unset, .unset] [(.ref s347)]))
  obtain ⟨cq351, kq351, q351a, q351b, q351c⟩ := isOf hZ rfl Eq347
  obtain ⟨_, _, ⟨T351, L351, k351, n351⟩, -, X351, ⟨Lc351, hQ351, l351, y351, z351⟩, st351⟩ := X347.interfaceBack hx (xi := (⟨"java/util/Set", "iterator", "()Ljava/util/Iterator;"⟩ : MethodName)) (y := (⟨"com/example/settlewatt/settlewatt/model/TraceRecord$Inputs$1", "iterator", "()Ljava/util/Iterator;"⟩ : MethodName)) hown (mvT hZ (hw _ (List.mem_of_getElem? (i := 111) rfl))) (mvT hZ (hw _ (List.mem_of_getElem? (i := 112) rfl))) (mvT hZ (hw _ (List.mem_of_getElem? (i := 113) rfl))) (mvT hZ (hw _ (List.mem_of_getElem? (i := 114) rfl))) (mvT hZ (hw _ (List.mem_of_getElem? (i := 115) rfl))) (mvT hZ (hw _ (List.mem_of_getElem? (i := 116) rfl))) (mvT hZ (hw _ (List.mem_of_getElem? (i := 117) rfl))) (mvT hZ (hw _ (List.mem_of_getElem? (i := 96) rfl))) (by decide) (backOf (W := 0) (rm17 l Z a0 hw [] s347 mp T347.heap n0 (by exact y349) Fq347) hZ (hw _ (List.mem_of_getElem? (i := 118) rfl)) (hw _ (List.mem_of_getElem? (i := 71) rfl)) (by decide) (by decide)) q351a q351b q351c (g := (mkF m 4 #[.val (.ref mp), .val (.ref x), .unset, .unset] [(.ref s347)])) rfl (by rw [hml]; rfl) (Steps.refl _) (argsL := []) (rest := []) (lenOf pd_12 rfl) rfl (by show 2 * 0 + _ ≤ _; exact Nat.le_of_eq rfl) (hb hby d16_4) (fun _ _ => ⟨rfl, rfl, (by decide : 1 + 1 ≤ _), (by decide : 1 + 2 ≤ _)⟩)
  dsimp only [Pt.U, Pt.locs, Pt.cells, Pt.slots] at X351 l351 y351 z351 st351 hQ351
  subst l351 y351 z351
  obtain ⟨it351, rfl, N351q, K351, gn351, gx351, Eq351, F351a, F351b⟩ := hQ351
  have gk351 : h0.size ≤ it351 := Nat.le_trans y348.1 gx351
  have N351 := Fr.app N347 N351q
  have y352 := (y348.trans K351 all0)
  have y353 := (Nat.le_trans y349 K351.1)
  have y354 := (y350.keep K351 all0)
  have y355 := (Eq347.keep K351)
  have y356 := (Fq347.keep K351 nin0)
  refine own_via st351 ?_
  show own_Fin p e below _ (T351.setTop (mkF m 9 #[.val (.ref mp), .val (.ref x), .unset, .unset] [(.ref it351)]))
  refine own_on (fun tq => XS.astoreN X351.here hx rfl (hb hby d16_9) rfl rfl (l' := #[.val (.ref mp), .val (.ref x), .val (.ref it351), .unset]) rfl) ?_
  show own_Fin p e below _ (T351.setTop (mkF m 10 #[.val (.ref mp), .val (.ref x), .val (.ref it351), .unset] []))
  refine own_on (fun tq => XS.aloadN X351.here hx rfl (hb hby d16_10) rfl rfl) ?_
  show own_Fin p e below _ (T351.setTop (mkF m 11 #[.val (.ref mp), .val (.ref x), .val (.ref it351), .unset] [(.ref x)]))
  refine own_on (fun tq => XS.ifnonnullYes X351.here hx rfl (pc0 := 11) (pc' := 52) rfl (hb hby d16_11) rfl (by decide) (by decide)) ?_
  show own_Fin p e below _ (T351.setTop (mkF m 52 #[.val (.ref mp), .val (.ref x), .val (.ref it351), .unset] []))
  refine own_on (fun tq => XS.aloadN X351.here hx rfl (hb hby d16_52) rfl rfl) ?_
  show own_Fin p e below _ (T351.setTop (mkF m 53 #[.val (.ref mp), .val (.ref x), .val (.ref it351), .unset] [(.ref it351)]))
  obtain ⟨cq357, kq357, q357a, q357b, q357c⟩ := isOf hZ rfl Eq351
  obtain ⟨_, _, ⟨T357, L357, k357, n357⟩, -, X357, ⟨Lc357, hQ357, l357, y357, z357⟩, st357⟩ := X351.interfaceBack hx (xi := (⟨"java/util/Iterator", "hasNext", "()Z"⟩ : MethodName)) (y := (⟨"com/example/settlewatt/settlewatt/model/TraceRecord$Inputs$Entries", "hasNext", "()Z"⟩ : MethodName)) hown (mvT hZ (hw _ (List.mem_of_getElem? (i := 128) rfl))) (mvT hZ (hw _ (List.mem_of_getElem? (i := 129) rfl))) (mvT hZ (hw _ (List.mem_of_getElem? (i := 130) rfl))) (mvT hZ (hw _ (List.mem_of_getElem? (i := 131) rfl))) (mvT hZ (hw _ (List.mem_of_getElem? (i := 132) rfl))) (mvT hZ (hw _ (List.mem_of_getElem? (i := 133) rfl))) (mvT hZ (hw _ (List.mem_of_getElem? (i := 134) rfl))) (mvT hZ (hw _ (List.mem_of_getElem? (i := 135) rfl))) (by decide) (backOf (W := 0) (rm19 l Z a0 hw [] it351 mp a ka (0 : Int32) (6 : Int32) _ (1 : Int32) T351.heap n0 (by exact y353) F351a F351b (F2.keep y352 nin0) (Aa.keep y352 nin0) (by decide)) hZ (hw _ (List.mem_of_getElem? (i := 136) rfl)) (hw _ (List.mem_of_getElem? (i := 121) rfl)) (by decide) (by decide)) q357a q357b q357c (g := (mkF m 53 #[.val (.ref mp), .val (.ref x), .val (.ref it351), .unset] [(.ref it351)])) rfl (by rw [hml]; rfl) (Steps.refl _) (argsL := []) (rest := []) (lenOf pd_9 rfl) rfl (by show 2 * 0 + _ ≤ _; exact Nat.le_of_eq rfl) (hb hby d16_53) (fun _ _ => ⟨rfl, rfl, (by decide : 2 + 0 ≤ _), (by decide : 3 + 0 ≤ _)⟩)
  dsimp only [Pt.U, Pt.locs, Pt.cells, Pt.slots] at X357 l357 y357 z357 st357 hQ357
  subst l357 y357 z357
  obtain ⟨rfl, N357q, e357⟩ := hQ357
  have N357 := Fr.app N351 N357q
  refine own_via st357 ?_
  show own_Fin p e below _ (T357.setTop (mkF m 58 #[.val (.ref mp), .val (.ref x), .val (.ref it351), .unset] [(.int (1 : Int32))]))
  refine own_on (fun tq => XS.ifNo X357.here hx rfl (hb hby d16_58) rfl ((if0 _ _).trans (feq (by decide : ¬ ((1 : Int32) = (0 : Int32)))).1)) ?_
  show own_Fin p e below _ (T357.setTop (mkF m 61 #[.val (.ref mp), .val (.ref x), .val (.ref it351), .unset] []))
  refine own_on (fun tq => XS.aloadN X357.here hx rfl (hb hby d16_61) rfl rfl) ?_
  show own_Fin p e below _ (T357.setTop (mkF m 62 #[.val (.ref mp), .val (.ref x), .val (.ref it351), .unset] [(.ref it351)]))
  obtain ⟨cq358, kq358, q358a, q358b, q358c⟩ := isOf hZ e357 Eq351
  obtain ⟨_, _, ⟨T358, L358, k358, n358⟩, -, X358, ⟨Lc358, hQ358, l358, y358, z358⟩, st358⟩ := X357.interfaceBack hx (xi := (⟨"java/util/Iterator", "next", "()Ljava/lang/Object;"⟩ : MethodName)) (y := (⟨"com/example/settlewatt/settlewatt/model/TraceRecord$Inputs$Entries", "next", "()Ljava/lang/Object;"⟩ : MethodName)) hown (mvT hZ (hw _ (List.mem_of_getElem? (i := 140) rfl))) (mvT hZ (hw _ (List.mem_of_getElem? (i := 141) rfl))) (mvT hZ (hw _ (List.mem_of_getElem? (i := 142) rfl))) (mvT hZ (hw _ (List.mem_of_getElem? (i := 143) rfl))) (mvT hZ (hw _ (List.mem_of_getElem? (i := 144) rfl))) (mvT hZ (hw _ (List.mem_of_getElem? (i := 145) rfl))) (mvT hZ (hw _ (List.mem_of_getElem? (i := 146) rfl))) (mvT hZ (hw _ (List.mem_of_getElem? (i := 135) rfl))) (by decide) (backOf (W := 0) (rmNO l Z a0 hw [] it351 mp a ka (0 : Int32) (6 : Int32) ([(.ref ke0), (.ref u0), (.ref ke1), (.ref u1), (.ref ke2), (.ref u2)]) ke0 u0 T351.heap n0 (by exact y353) Eq351 F351a F351b gn351 (F2.keep y352 nin0) (Aa.keep y352 nin0) (Nat.ne_of_lt (Nat.lt_of_lt_of_le E.lt gk351)) (Nat.ne_of_lt (Nat.lt_of_lt_of_le Aa.lt gk351)) ⟨by decide, by decide⟩ rfl ⟨by decide, by decide⟩ rfl) hZ (hw _ (List.mem_of_getElem? (i := 147) rfl)) (hw _ (List.mem_of_getElem? (i := 121) rfl)) (by decide) (by decide)) q358a q358b q358c (g := (mkF m 62 #[.val (.ref mp), .val (.ref x), .val (.ref it351), .unset] [(.ref it351)])) rfl (by rw [hml]; rfl) (Steps.refl _) (argsL := []) (rest := []) (lenOf pd_14 rfl) rfl (by show 2 * 0 + _ ≤ _; exact Nat.le_of_eq rfl) (hb hby d16_62) (fun _ _ => ⟨rfl, e357, (by decide : 2 + 1 ≤ _), (by decide : 3 + 2 ≤ _)⟩)
  dsimp only [Pt.U, Pt.locs, Pt.cells, Pt.slots] at X358 l358 y358 z358 st358 hQ358
  subst l358 y358 z358
  obtain ⟨en358, rfl, N358q, K358, Eq358, F358a, F358b, F358c, F358d⟩ := hQ358
  have N358 := Fr.app N357 N358q
  have y359 := (y352.trans K358 (allS (Or.inr gk351) all0))
  have y360 := (Nat.le_trans y353 K358.1)
  have y361 := (y354.keep K358 (allS gn351 all0))
  have y362 := (Eq351.keep K358)
  refine own_via st358 ?_
  show own_Fin p e below _ (T358.setTop (mkF m 67 #[.val (.ref mp), .val (.ref x), .val (.ref it351), .unset] [(.ref en358)]))
  obtain ⟨T363, X363, e363, st363⟩ := castY X358 hx hZ hown (hw _ (List.mem_of_getElem? (i := 167) rfl)) rfl (Ins.of_exa Eq358 (hw _ (List.mem_of_getElem? (i := 168) rfl))) (g := (mkF m 67 #[.val (.ref mp), .val (.ref x), .val (.ref it351), .unset] [(.ref en358)])) rfl rfl (hb hby d16_67)
  refine own_on st363 ?_
  show own_Fin p e below _ (T363.setTop (mkF m 70 #[.val (.ref mp), .val (.ref x), .val (.ref it351), .unset] [(.ref en358)]))
  refine own_on (fun tq => XS.astoreN X363.here hx rfl (hb hby d16_70) rfl rfl (l' := #[.val (.ref mp), .val (.ref x), .val (.ref it351), .val (.ref en358)]) rfl) ?_
  show own_Fin p e below _ (T363.setTop (mkF m 71 #[.val (.ref mp), .val (.ref x), .val (.ref it351), .val (.ref en358)] []))
  refine own_on (fun tq => XS.aloadN X363.here hx rfl (hb hby d16_71) rfl rfl) ?_
  show own_Fin p e below _ (T363.setTop (mkF m 72 #[.val (.ref mp), .val (.ref x), .val (.ref it351), .val (.ref en358)] [(.ref x)]))
  refine own_on (fun tq => XS.aloadN X363.here hx rfl (hb hby d16_72) rfl rfl) ?_
  show own_Fin p e below _ (T363.setTop (mkF m 73 #[.val (.ref mp), .val (.ref x), .val (.ref it351), .val (.ref en358)] [(.ref en358), (.ref x)]))
  obtain ⟨cq364, kq364, q364a, q364b, q364c⟩ := isOf hZ e363 Eq358
  obtain ⟨_, _, ⟨T364, L364, k364, n364⟩, -, X364, ⟨Lc364, hQ364, l364, y364, z364⟩, st364⟩ := X363.interfaceBack hx (xi := (⟨"java/util/Map$Entry", "getKey", "()Ljava/lang/Object;"⟩ : MethodName)) (y := (⟨"java/util/AbstractMap$SimpleImmutableEntry", "getKey", "()Ljava/lang/Object;"⟩ : MethodName)) hown (mvT hZ (hw _ (List.mem_of_getElem? (i := 169) rfl))) (mvT hZ (hw _ (List.mem_of_getElem? (i := 170) rfl))) (mvT hZ (hw _ (List.mem_of_getElem? (i := 171) rfl))) (mvT hZ (hw _ (List.mem_of_getElem? (i := 172) rfl))) (mvT hZ (hw _ (List.mem_of_getElem? (i := 173) rfl))) (mvT hZ (hw _ (List.mem_of_getElem? (i := 174) rfl))) (mvT hZ (hw _ (List.mem_of_getElem? (i := 175) rfl))) (mvT hZ (hw _ (List.mem_of_getElem? (i := 168) rfl))) (by decide) (backOf (W := 1) (rm23 l Z a0 hw [] en358 ke0 T358.heap n0 (by exact y360) F358a) hZ (hw _ (List.mem_of_getElem? (i := 176) rfl)) (hw _ (List.mem_of_getElem? (i := 158) rfl)) (by decide) (by decide)) q364a q364b q364c (g := (mkF m 73 #[.val (.ref mp), .val (.ref x), .val (.ref it351), .val (.ref en358)] [(.ref en358), (.ref x)])) rfl (by rw [hml]; rfl) (Steps.refl _) (argsL := []) (rest := [(.ref x)]) (lenOf pd_14 rfl) rfl (by show 2 * 0 + _ ≤ _; exact Nat.le_of_eq rfl) (hb hby d16_73) (fun _ _ => ⟨rfl, e363, (by decide : 3 + 0 ≤ _), (by decide : 5 + 0 ≤ _)⟩)
  dsimp only [Pt.U, Pt.locs, Pt.cells, Pt.slots] at X364 l364 y364 z364 st364 hQ364
  subst l364 y364 z364
  obtain ⟨rfl, N364q, e364⟩ := hQ364
  have N364 := Fr.app N358 N364q
  refine own_via st364 ?_
  show own_Fin p e below _ (T364.setTop (mkF m 78 #[.val (.ref mp), .val (.ref x), .val (.ref it351), .val (.ref en358)] [(.ref ke0), (.ref x)]))
  obtain ⟨cq365, kq365, q365a, q365b, q365c⟩ := isOf hZ e364 (E_x.keep y359)
  obtain ⟨_, _, ⟨T365, L365, k365, n365⟩, -, X365, ⟨Lc365, hQ365, l365, y365, z365⟩, st365⟩ := X364.virtualBack hx (y := (⟨"java/lang/Object", "equals", "(Ljava/lang/Object;)Z"⟩ : MethodName)) (z := (⟨"java/lang/String", "equals", "(Ljava/lang/Object;)Z"⟩ : MethodName)) hown (mvT hZ (hw _ (List.mem_of_getElem? (i := 177) rfl))) (mvT hZ (hw _ (List.mem_of_getElem? (i := 178) rfl))) (own_nf (a0 := #[]) (mvT hZ (hw _ (List.mem_of_getElem? (i := 39) rfl))) rfl) (mvT hZ (hw _ (List.mem_of_getElem? (i := 180) rfl))) (mvT hZ (hw _ (List.mem_of_getElem? (i := 181) rfl))) (by decide) (StrChars.Road.eqW (W := 0) hZ (own_wE hw) (hw _ (List.mem_of_getElem? (i := 10) rfl)) (E_x.keep y359) (V_x.keep y359 nin0) (C_x.keep y359 nin0) (A_x.keep y359 nin0) (own_cod (cs := [c]) (n := 1) rfl (fun c q => (r_x c q).2)) (own_r16 r_x) (Nat.le_of_ble_eq_true rfl) (E_ke0.keep y359) (V_ke0.keep y359 nin0) (C_ke0.keep y359 nin0) (A_ke0.keep y359 nin0) (own_cod (cs := [c0]) (n := 1) rfl (fun c q => (r_ke0 c q).2)) (own_r16 r_ke0) (Nat.le_of_ble_eq_true rfl) (SC.ext y361.2) hz (by decide) (by decide)) q365a q365c (g := (mkF m 78 #[.val (.ref mp), .val (.ref x), .val (.ref it351), .val (.ref en358)] [(.ref ke0), (.ref x)])) rfl (by rw [hml]; rfl) (Steps.refl _) (argsL := [(.ref ke0)]) (rest := []) (lenOf pd_5 rfl) rfl (by show 2 * 0 + _ ≤ _; exact Nat.le_of_eq rfl) (hb hby d16_78) (fun _ _ => ⟨rfl, e364, (by decide : 3 + 0 ≤ _), (by decide : 5 + 0 ≤ _)⟩)
  dsimp only [Pt.U, Pt.locs, Pt.cells, Pt.slots] at X365 l365 y365 z365 st365 hQ365
  subst l365 y365 z365
  obtain ⟨hv365, rfl, e365⟩ := hQ365
  have N365 := Fr.app N364 (Fr.nil n0)
  by_cases hq366 : c = c0
  · obtain rfl := own_eq1 hv365 (congrArg (fun q => [q]) hq366)
    refine own_via st365 ?_
    show own_Fin p e below _ (T365.setTop (mkF m 81 #[.val (.ref mp), .val (.ref x), .val (.ref it351), .val (.ref en358)] [(.int (1 : Int32))]))
    refine own_on (fun tq => XS.ifNo X365.here hx rfl (hb hby d16_81) rfl ((if0 _ _).trans (feq (by decide : ¬ ((1 : Int32) = (0 : Int32)))).1)) ?_
    show own_Fin p e below _ (T365.setTop (mkF m 84 #[.val (.ref mp), .val (.ref x), .val (.ref it351), .val (.ref en358)] []))
    refine own_on (fun tq => XS.aloadN X365.here hx rfl (hb hby d16_84) rfl rfl) ?_
    show own_Fin p e below _ (T365.setTop (mkF m 85 #[.val (.ref mp), .val (.ref x), .val (.ref it351), .val (.ref en358)] [(.ref en358)]))
    obtain ⟨cq367, kq367, q367a, q367b, q367c⟩ := isOf hZ e365 Eq358
    obtain ⟨_, _, ⟨T367, L367, k367, n367⟩, -, X367, ⟨Lc367, hQ367, l367, y367, z367⟩, st367⟩ := X365.interfaceBack hx (xi := (⟨"java/util/Map$Entry", "getValue", "()Ljava/lang/Object;"⟩ : MethodName)) (y := (⟨"java/util/AbstractMap$SimpleImmutableEntry", "getValue", "()Ljava/lang/Object;"⟩ : MethodName)) hown (mvT hZ (hw _ (List.mem_of_getElem? (i := 183) rfl))) (mvT hZ (hw _ (List.mem_of_getElem? (i := 184) rfl))) (mvT hZ (hw _ (List.mem_of_getElem? (i := 185) rfl))) (mvT hZ (hw _ (List.mem_of_getElem? (i := 186) rfl))) (mvT hZ (hw _ (List.mem_of_getElem? (i := 187) rfl))) (mvT hZ (hw _ (List.mem_of_getElem? (i := 188) rfl))) (mvT hZ (hw _ (List.mem_of_getElem? (i := 189) rfl))) (mvT hZ (hw _ (List.mem_of_getElem? (i := 168) rfl))) (by decide) (backOf (W := 0) (rm25 l Z a0 hw [] en358 u0 T358.heap n0 (by exact y360) F358b) hZ (hw _ (List.mem_of_getElem? (i := 190) rfl)) (hw _ (List.mem_of_getElem? (i := 158) rfl)) (by decide) (by decide)) q367a q367b q367c (g := (mkF m 85 #[.val (.ref mp), .val (.ref x), .val (.ref it351), .val (.ref en358)] [(.ref en358)])) rfl (by rw [hml]; rfl) (Steps.refl _) (argsL := []) (rest := []) (lenOf pd_14 rfl) rfl (by show 2 * 0 + _ ≤ _; exact Nat.le_of_eq rfl) (hb hby d16_85) (fun _ _ => ⟨rfl, e365, (by decide : 3 + 0 ≤ _), (by decide : 5 + 0 ≤ _)⟩)
    dsimp only [Pt.U, Pt.locs, Pt.cells, Pt.slots] at X367 l367 y367 z367 st367 hQ367
    subst l367 y367 z367
    obtain ⟨rfl, N367q, e367⟩ := hQ367
    have N367 := Fr.app N365 N367q
    refine own_via st367 ?_
    show own_Fin p e below _ (T367.setTop (mkF m 90 #[.val (.ref mp), .val (.ref x), .val (.ref it351), .val (.ref en358)] [(.ref u0)]))
    exact own_ret (t := (.object "java/lang/Object")) X367 hx hlk hret rfl (Or.inr (Or.inr (Or.inr (Or.inr ⟨rfl, rfl, rfl⟩)))) (hb hby d16_90) (by show QG3 Z mp x z a ka ke0 ke1 ke2 u0 u1 u2 c0 c1 c2 t_ke0 k_ke0 t_ke1 k_ke1 t_ke2 k_ke2 t_x k_x c r h0 n0 _ T367.heap _; rw [e367]; exact ⟨by rw [hr]; first | rfl | (unfold own_get3; rw [if_pos hq366]), N367, y359⟩) (by decide) (by decide)
  · obtain rfl := own_eq0 hv365 (own_l1 hq366)
    refine own_via st365 ?_
    show own_Fin p e below _ (T365.setTop (mkF m 81 #[.val (.ref mp), .val (.ref x), .val (.ref it351), .val (.ref en358)] [(.int (0 : Int32))]))
    refine own_on (fun tq => XS.ifYes X365.here hx rfl (pc0 := 81) (pc' := 91) rfl (hb hby d16_81) rfl ((if0 _ _).trans (teq (by decide : (0 : Int32) = (0 : Int32))).1) (by decide) (by decide)) ?_
    show own_Fin p e below _ (T365.setTop (mkF m 91 #[.val (.ref mp), .val (.ref x), .val (.ref it351), .val (.ref en358)] []))
    refine own_on (fun tq => XS.goto X365.here hx rfl (pc0 := 91) (pc' := 52) rfl (hb hby d16_91) (by decide) (by decide)) ?_
    show own_Fin p e below _ (T365.setTop (mkF m 52 #[.val (.ref mp), .val (.ref x), .val (.ref it351), .val (.ref en358)] []))
    refine own_on (fun tq => XS.aloadN X365.here hx rfl (hb hby d16_52) rfl rfl) ?_
    show own_Fin p e below _ (T365.setTop (mkF m 53 #[.val (.ref mp), .val (.ref x), .val (.ref it351), .val (.ref en358)] [(.ref it351)]))
    obtain ⟨cq368, kq368, q368a, q368b, q368c⟩ := isOf hZ e365 y362
    obtain ⟨_, _, ⟨T368, L368, k368, n368⟩, -, X368, ⟨Lc368, hQ368, l368, y368, z368⟩, st368⟩ := X365.interfaceBack hx (xi := (⟨"java/util/Iterator", "hasNext", "()Z"⟩ : MethodName)) (y := (⟨"com/example/settlewatt/settlewatt/model/TraceRecord$Inputs$Entries", "hasNext", "()Z"⟩ : MethodName)) hown (mvT hZ (hw _ (List.mem_of_getElem? (i := 128) rfl))) (mvT hZ (hw _ (List.mem_of_getElem? (i := 129) rfl))) (mvT hZ (hw _ (List.mem_of_getElem? (i := 130) rfl))) (mvT hZ (hw _ (List.mem_of_getElem? (i := 131) rfl))) (mvT hZ (hw _ (List.mem_of_getElem? (i := 132) rfl))) (mvT hZ (hw _ (List.mem_of_getElem? (i := 133) rfl))) (mvT hZ (hw _ (List.mem_of_getElem? (i := 134) rfl))) (mvT hZ (hw _ (List.mem_of_getElem? (i := 135) rfl))) (by decide) (backOf (W := 0) (rm19 l Z a0 hw [] it351 mp a ka (2 : Int32) (6 : Int32) _ (1 : Int32) T358.heap n0 (by exact y360) F358c F358d (F2.keep y359 nin0) (Aa.keep y359 nin0) (by decide)) hZ (hw _ (List.mem_of_getElem? (i := 136) rfl)) (hw _ (List.mem_of_getElem? (i := 121) rfl)) (by decide) (by decide)) q368a q368b q368c (g := (mkF m 53 #[.val (.ref mp), .val (.ref x), .val (.ref it351), .val (.ref en358)] [(.ref it351)])) rfl (by rw [hml]; rfl) (Steps.refl _) (argsL := []) (rest := []) (lenOf pd_9 rfl) rfl (by show 2 * 0 + _ ≤ _; exact Nat.le_of_eq rfl) (hb hby d16_53) (fun _ _ => ⟨rfl, e365, (by decide : 3 + 0 ≤ _), (by decide : 5 + 0 ≤ _)⟩)
    dsimp only [Pt.U, Pt.locs, Pt.cells, Pt.slots] at X368 l368 y368 z368 st368 hQ368
    subst l368 y368 z368
    obtain ⟨rfl, N368q, e368⟩ := hQ368
    have N368 := Fr.app N365 N368q
    refine own_via st368 ?_
    show own_Fin p e below _ (T368.setTop (mkF m 58 #[.val (.ref mp), .val (.ref x), .val (.ref it351), .val (.ref en358)] [(.int (1 : Int32))]))
    refine own_on (fun tq => XS.ifNo X368.here hx rfl (hb hby d16_58) rfl ((if0 _ _).trans (feq (by decide : ¬ ((1 : Int32) = (0 : Int32)))).1)) ?_
    show own_Fin p e below _ (T368.setTop (mkF m 61 #[.val (.ref mp), .val (.ref x), .val (.ref it351), .val (.ref en358)] []))
    refine own_on (fun tq => XS.aloadN X368.here hx rfl (hb hby d16_61) rfl rfl) ?_
    show own_Fin p e below _ (T368.setTop (mkF m 62 #[.val (.ref mp), .val (.ref x), .val (.ref it351), .val (.ref en358)] [(.ref it351)]))
    obtain ⟨cq369, kq369, q369a, q369b, q369c⟩ := isOf hZ e368 y362
    obtain ⟨_, _, ⟨T369, L369, k369, n369⟩, -, X369, ⟨Lc369, hQ369, l369, y369, z369⟩, st369⟩ := X368.interfaceBack hx (xi := (⟨"java/util/Iterator", "next", "()Ljava/lang/Object;"⟩ : MethodName)) (y := (⟨"com/example/settlewatt/settlewatt/model/TraceRecord$Inputs$Entries", "next", "()Ljava/lang/Object;"⟩ : MethodName)) hown (mvT hZ (hw _ (List.mem_of_getElem? (i := 140) rfl))) (mvT hZ (hw _ (List.mem_of_getElem? (i := 141) rfl))) (mvT hZ (hw _ (List.mem_of_getElem? (i := 142) rfl))) (mvT hZ (hw _ (List.mem_of_getElem? (i := 143) rfl))) (mvT hZ (hw _ (List.mem_of_getElem? (i := 144) rfl))) (mvT hZ (hw _ (List.mem_of_getElem? (i := 145) rfl))) (mvT hZ (hw _ (List.mem_of_getElem? (i := 146) rfl))) (mvT hZ (hw _ (List.mem_of_getElem? (i := 135) rfl))) (by decide) (backOf (W := 0) (rmNO l Z a0 hw [] it351 mp a ka (2 : Int32) (6 : Int32) ([(.ref ke0), (.ref u0), (.ref ke1), (.ref u1), (.ref ke2), (.ref u2)]) ke1 u1 T358.heap n0 (by exact y360) y362 F358c F358d gn351 (F2.keep y359 nin0) (Aa.keep y359 nin0) (Nat.ne_of_lt (Nat.lt_of_lt_of_le E.lt gk351)) (Nat.ne_of_lt (Nat.lt_of_lt_of_le Aa.lt gk351)) ⟨by decide, by decide⟩ rfl ⟨by decide, by decide⟩ rfl) hZ (hw _ (List.mem_of_getElem? (i := 147) rfl)) (hw _ (List.mem_of_getElem? (i := 121) rfl)) (by decide) (by decide)) q369a q369b q369c (g := (mkF m 62 #[.val (.ref mp), .val (.ref x), .val (.ref it351), .val (.ref en358)] [(.ref it351)])) rfl (by rw [hml]; rfl) (Steps.refl _) (argsL := []) (rest := []) (lenOf pd_14 rfl) rfl (by show 2 * 0 + _ ≤ _; exact Nat.le_of_eq rfl) (hb hby d16_62) (fun _ _ => ⟨rfl, e368, (by decide : 3 + 1 ≤ _), (by decide : 5 + 2 ≤ _)⟩)
    dsimp only [Pt.U, Pt.locs, Pt.cells, Pt.slots] at X369 l369 y369 z369 st369 hQ369
    subst l369 y369 z369
    obtain ⟨en369, rfl, N369q, K369, Eq369, F369a, F369b, F369c, F369d⟩ := hQ369
    have N369 := Fr.app N368 N369q
    have y370 := (y359.trans K369 (allS (Or.inr gk351) all0))
    have y371 := (Nat.le_trans y360 K369.1)
    have y372 := (y361.keep K369 (allS gn351 all0))
    have y373 := (y362.keep K369)
    refine own_via st369 ?_
    show own_Fin p e below _ (T369.setTop (mkF m 67 #[.val (.ref mp), .val (.ref x), .val (.ref it351), .val (.ref en358)] [(.ref en369)]))
    obtain ⟨T374, X374, e374, st374⟩ := castY X369 hx hZ hown (hw _ (List.mem_of_getElem? (i := 167) rfl)) rfl (Ins.of_exa Eq369 (hw _ (List.mem_of_getElem? (i := 168) rfl))) (g := (mkF m 67 #[.val (.ref mp), .val (.ref x), .val (.ref it351), .val (.ref en358)] [(.ref en369)])) rfl rfl (hb hby d16_67)
    refine own_on st374 ?_
    show own_Fin p e below _ (T374.setTop (mkF m 70 #[.val (.ref mp), .val (.ref x), .val (.ref it351), .val (.ref en358)] [(.ref en369)]))
    refine own_on (fun tq => XS.astoreN X374.here hx rfl (hb hby d16_70) rfl rfl (l' := #[.val (.ref mp), .val (.ref x), .val (.ref it351), .val (.ref en369)]) rfl) ?_
    show own_Fin p e below _ (T374.setTop (mkF m 71 #[.val (.ref mp), .val (.ref x), .val (.ref it351), .val (.ref en369)] []))
    refine own_on (fun tq => XS.aloadN X374.here hx rfl (hb hby d16_71) rfl rfl) ?_
    show own_Fin p e below _ (T374.setTop (mkF m 72 #[.val (.ref mp), .val (.ref x), .val (.ref it351), .val (.ref en369)] [(.ref x)]))
    refine own_on (fun tq => XS.aloadN X374.here hx rfl (hb hby d16_72) rfl rfl) ?_
    show own_Fin p e below _ (T374.setTop (mkF m 73 #[.val (.ref mp), .val (.ref x), .val (.ref it351), .val (.ref en369)] [(.ref en369), (.ref x)]))
    obtain ⟨cq375, kq375, q375a, q375b, q375c⟩ := isOf hZ e374 Eq369
    obtain ⟨_, _, ⟨T375, L375, k375, n375⟩, -, X375, ⟨Lc375, hQ375, l375, y375, z375⟩, st375⟩ := X374.interfaceBack hx (xi := (⟨"java/util/Map$Entry", "getKey", "()Ljava/lang/Object;"⟩ : MethodName)) (y := (⟨"java/util/AbstractMap$SimpleImmutableEntry", "getKey", "()Ljava/lang/Object;"⟩ : MethodName)) hown (mvT hZ (hw _ (List.mem_of_getElem? (i := 169) rfl))) (mvT hZ (hw _ (List.mem_of_getElem? (i := 170) rfl))) (mvT hZ (hw _ (List.mem_of_getElem? (i := 171) rfl))) (mvT hZ (hw _ (List.mem_of_getElem? (i := 172) rfl))) (mvT hZ (hw _ (List.mem_of_getElem? (i := 173) rfl))) (mvT hZ (hw _ (List.mem_of_getElem? (i := 174) rfl))) (mvT hZ (hw _ (List.mem_of_getElem? (i := 175) rfl))) (mvT hZ (hw _ (List.mem_of_getElem? (i := 168) rfl))) (by decide) (backOf (W := 1) (rm23 l Z a0 hw [] en369 ke1 T369.heap n0 (by exact y371) F369a) hZ (hw _ (List.mem_of_getElem? (i := 176) rfl)) (hw _ (List.mem_of_getElem? (i := 158) rfl)) (by decide) (by decide)) q375a q375b q375c (g := (mkF m 73 #[.val (.ref mp), .val (.ref x), .val (.ref it351), .val (.ref en369)] [(.ref en369), (.ref x)])) rfl (by rw [hml]; rfl) (Steps.refl _) (argsL := []) (rest := [(.ref x)]) (lenOf pd_14 rfl) rfl (by show 2 * 0 + _ ≤ _; exact Nat.le_of_eq rfl) (hb hby d16_73) (fun _ _ => ⟨rfl, e374, (by decide : 4 + 0 ≤ _), (by decide : 7 + 0 ≤ _)⟩)
    dsimp only [Pt.U, Pt.locs, Pt.cells, Pt.slots] at X375 l375 y375 z375 st375 hQ375
    subst l375 y375 z375
    obtain ⟨rfl, N375q, e375⟩ := hQ375
    have N375 := Fr.app N369 N375q
    refine own_via st375 ?_
    show own_Fin p e below _ (T375.setTop (mkF m 78 #[.val (.ref mp), .val (.ref x), .val (.ref it351), .val (.ref en369)] [(.ref ke1), (.ref x)]))
    obtain ⟨cq376, kq376, q376a, q376b, q376c⟩ := isOf hZ e375 (E_x.keep y370)
    obtain ⟨_, _, ⟨T376, L376, k376, n376⟩, -, X376, ⟨Lc376, hQ376, l376, y376, z376⟩, st376⟩ := X375.virtualBack hx (y := (⟨"java/lang/Object", "equals", "(Ljava/lang/Object;)Z"⟩ : MethodName)) (z := (⟨"java/lang/String", "equals", "(Ljava/lang/Object;)Z"⟩ : MethodName)) hown (mvT hZ (hw _ (List.mem_of_getElem? (i := 177) rfl))) (mvT hZ (hw _ (List.mem_of_getElem? (i := 178) rfl))) (own_nf (a0 := #[]) (mvT hZ (hw _ (List.mem_of_getElem? (i := 39) rfl))) rfl) (mvT hZ (hw _ (List.mem_of_getElem? (i := 180) rfl))) (mvT hZ (hw _ (List.mem_of_getElem? (i := 181) rfl))) (by decide) (StrChars.Road.eqW (W := 0) hZ (own_wE hw) (hw _ (List.mem_of_getElem? (i := 10) rfl)) (E_x.keep y370) (V_x.keep y370 nin0) (C_x.keep y370 nin0) (A_x.keep y370 nin0) (own_cod (cs := [c]) (n := 1) rfl (fun c q => (r_x c q).2)) (own_r16 r_x) (Nat.le_of_ble_eq_true rfl) (E_ke1.keep y370) (V_ke1.keep y370 nin0) (C_ke1.keep y370 nin0) (A_ke1.keep y370 nin0) (own_cod (cs := [c1]) (n := 1) rfl (fun c q => (r_ke1 c q).2)) (own_r16 r_ke1) (Nat.le_of_ble_eq_true rfl) (SC.ext y372.2) hz (by decide) (by decide)) q376a q376c (g := (mkF m 78 #[.val (.ref mp), .val (.ref x), .val (.ref it351), .val (.ref en369)] [(.ref ke1), (.ref x)])) rfl (by rw [hml]; rfl) (Steps.refl _) (argsL := [(.ref ke1)]) (rest := []) (lenOf pd_5 rfl) rfl (by show 2 * 0 + _ ≤ _; exact Nat.le_of_eq rfl) (hb hby d16_78) (fun _ _ => ⟨rfl, e375, (by decide : 4 + 0 ≤ _), (by decide : 7 + 0 ≤ _)⟩)
    dsimp only [Pt.U, Pt.locs, Pt.cells, Pt.slots] at X376 l376 y376 z376 st376 hQ376
    subst l376 y376 z376
    obtain ⟨hv376, rfl, e376⟩ := hQ376
    have N376 := Fr.app N375 (Fr.nil n0)
    by_cases hq377 : c = c1
    · obtain rfl := own_eq1 hv376 (congrArg (fun q => [q]) hq377)
      refine own_via st376 ?_
      show own_Fin p e below _ (T376.setTop (mkF m 81 #[.val (.ref mp), .val (.ref x), .val (.ref it351), .val (.ref en369)] [(.int (1 : Int32))]))
      refine own_on (fun tq => XS.ifNo X376.here hx rfl (hb hby d16_81) rfl ((if0 _ _).trans (feq (by decide : ¬ ((1 : Int32) = (0 : Int32)))).1)) ?_
      show own_Fin p e below _ (T376.setTop (mkF m 84 #[.val (.ref mp), .val (.ref x), .val (.ref it351), .val (.ref en369)] []))
      refine own_on (fun tq => XS.aloadN X376.here hx rfl (hb hby d16_84) rfl rfl) ?_
      show own_Fin p e below _ (T376.setTop (mkF m 85 #[.val (.ref mp), .val (.ref x), .val (.ref it351), .val (.ref en369)] [(.ref en369)]))
      obtain ⟨cq378, kq378, q378a, q378b, q378c⟩ := isOf hZ e376 Eq369
      obtain ⟨_, _, ⟨T378, L378, k378, n378⟩, -, X378, ⟨Lc378, hQ378, l378, y378, z378⟩, st378⟩ := X376.interfaceBack hx (xi := (⟨"java/util/Map$Entry", "getValue", "()Ljava/lang/Object;"⟩ : MethodName)) (y := (⟨"java/util/AbstractMap$SimpleImmutableEntry", "getValue", "()Ljava/lang/Object;"⟩ : MethodName)) hown (mvT hZ (hw _ (List.mem_of_getElem? (i := 183) rfl))) (mvT hZ (hw _ (List.mem_of_getElem? (i := 184) rfl))) (mvT hZ (hw _ (List.mem_of_getElem? (i := 185) rfl))) (mvT hZ (hw _ (List.mem_of_getElem? (i := 186) rfl))) (mvT hZ (hw _ (List.mem_of_getElem? (i := 187) rfl))) (mvT hZ (hw _ (List.mem_of_getElem? (i := 188) rfl))) (mvT hZ (hw _ (List.mem_of_getElem? (i := 189) rfl))) (mvT hZ (hw _ (List.mem_of_getElem? (i := 168) rfl))) (by decide) (backOf (W := 0) (rm25 l Z a0 hw [] en369 u1 T369.heap n0 (by exact y371) F369b) hZ (hw _ (List.mem_of_getElem? (i := 190) rfl)) (hw _ (List.mem_of_getElem? (i := 158) rfl)) (by decide) (by decide)) q378a q378b q378c (g := (mkF m 85 #[.val (.ref mp), .val (.ref x), .val (.ref it351), .val (.ref en369)] [(.ref en369)])) rfl (by rw [hml]; rfl) (Steps.refl _) (argsL := []) (rest := []) (lenOf pd_14 rfl) rfl (by show 2 * 0 + _ ≤ _; exact Nat.le_of_eq rfl) (hb hby d16_85) (fun _ _ => ⟨rfl, e376, (by decide : 4 + 0 ≤ _), (by decide : 7 + 0 ≤ _)⟩)
      dsimp only [Pt.U, Pt.locs, Pt.cells, Pt.slots] at X378 l378 y378 z378 st378 hQ378
      subst l378 y378 z378
      obtain ⟨rfl, N378q, e378⟩ := hQ378
      have N378 := Fr.app N376 N378q
      refine own_via st378 ?_
      show own_Fin p e below _ (T378.setTop (mkF m 90 #[.val (.ref mp), .val (.ref x), .val (.ref it351), .val (.ref en369)] [(.ref u1)]))
      exact own_ret (t := (.object "java/lang/Object")) X378 hx hlk hret rfl (Or.inr (Or.inr (Or.inr (Or.inr ⟨rfl, rfl, rfl⟩)))) (hb hby d16_90) (by show QG3 Z mp x z a ka ke0 ke1 ke2 u0 u1 u2 c0 c1 c2 t_ke0 k_ke0 t_ke1 k_ke1 t_ke2 k_ke2 t_x k_x c r h0 n0 _ T378.heap _; rw [e378]; exact ⟨by rw [hr]; first | rfl | (unfold own_get3; rw [if_neg hq366, if_pos hq377]), N378, y370⟩) (by decide) (by decide)
    · obtain rfl := own_eq0 hv376 (own_l1 hq377)
      refine own_via st376 ?_
      show own_Fin p e below _ (T376.setTop (mkF m 81 #[.val (.ref mp), .val (.ref x), .val (.ref it351), .val (.ref en369)] [(.int (0 : Int32))]))
      refine own_on (fun tq => XS.ifYes X376.here hx rfl (pc0 := 81) (pc' := 91) rfl (hb hby d16_81) rfl ((if0 _ _).trans (teq (by decide : (0 : Int32) = (0 : Int32))).1) (by decide) (by decide)) ?_
      show own_Fin p e below _ (T376.setTop (mkF m 91 #[.val (.ref mp), .val (.ref x), .val (.ref it351), .val (.ref en369)] []))
      refine own_on (fun tq => XS.goto X376.here hx rfl (pc0 := 91) (pc' := 52) rfl (hb hby d16_91) (by decide) (by decide)) ?_
      show own_Fin p e below _ (T376.setTop (mkF m 52 #[.val (.ref mp), .val (.ref x), .val (.ref it351), .val (.ref en369)] []))
      refine own_on (fun tq => XS.aloadN X376.here hx rfl (hb hby d16_52) rfl rfl) ?_
      show own_Fin p e below _ (T376.setTop (mkF m 53 #[.val (.ref mp), .val (.ref x), .val (.ref it351), .val (.ref en369)] [(.ref it351)]))
      obtain ⟨cq379, kq379, q379a, q379b, q379c⟩ := isOf hZ e376 y373
      obtain ⟨_, _, ⟨T379, L379, k379, n379⟩, -, X379, ⟨Lc379, hQ379, l379, y379, z379⟩, st379⟩ := X376.interfaceBack hx (xi := (⟨"java/util/Iterator", "hasNext", "()Z"⟩ : MethodName)) (y := (⟨"com/example/settlewatt/settlewatt/model/TraceRecord$Inputs$Entries", "hasNext", "()Z"⟩ : MethodName)) hown (mvT hZ (hw _ (List.mem_of_getElem? (i := 128) rfl))) (mvT hZ (hw _ (List.mem_of_getElem? (i := 129) rfl))) (mvT hZ (hw _ (List.mem_of_getElem? (i := 130) rfl))) (mvT hZ (hw _ (List.mem_of_getElem? (i := 131) rfl))) (mvT hZ (hw _ (List.mem_of_getElem? (i := 132) rfl))) (mvT hZ (hw _ (List.mem_of_getElem? (i := 133) rfl))) (mvT hZ (hw _ (List.mem_of_getElem? (i := 134) rfl))) (mvT hZ (hw _ (List.mem_of_getElem? (i := 135) rfl))) (by decide) (backOf (W := 0) (rm19 l Z a0 hw [] it351 mp a ka (4 : Int32) (6 : Int32) _ (1 : Int32) T369.heap n0 (by exact y371) F369c F369d (F2.keep y370 nin0) (Aa.keep y370 nin0) (by decide)) hZ (hw _ (List.mem_of_getElem? (i := 136) rfl)) (hw _ (List.mem_of_getElem? (i := 121) rfl)) (by decide) (by decide)) q379a q379b q379c (g := (mkF m 53 #[.val (.ref mp), .val (.ref x), .val (.ref it351), .val (.ref en369)] [(.ref it351)])) rfl (by rw [hml]; rfl) (Steps.refl _) (argsL := []) (rest := []) (lenOf pd_9 rfl) rfl (by show 2 * 0 + _ ≤ _; exact Nat.le_of_eq rfl) (hb hby d16_53) (fun _ _ => ⟨rfl, e376, (by decide : 4 + 0 ≤ _), (by decide : 7 + 0 ≤ _)⟩)
      dsimp only [Pt.U, Pt.locs, Pt.cells, Pt.slots] at X379 l379 y379 z379 st379 hQ379
      subst l379 y379 z379
      obtain ⟨rfl, N379q, e379⟩ := hQ379
      have N379 := Fr.app N376 N379q
      refine own_via st379 ?_
      show own_Fin p e below _ (T379.setTop (mkF m 58 #[.val (.ref mp), .val (.ref x), .val (.ref it351), .val (.ref en369)] [(.int (1 : Int32))]))
      refine own_on (fun tq => XS.ifNo X379.here hx rfl (hb hby d16_58) rfl ((if0 _ _).trans (feq (by decide : ¬ ((1 : Int32) = (0 : Int32)))).1)) ?_
      show own_Fin p e below _ (T379.setTop (mkF m 61 #[.val (.ref mp), .val (.ref x), .val (.ref it351), .val (.ref en369)] []))
      refine own_on (fun tq => XS.aloadN X379.here hx rfl (hb hby d16_61) rfl rfl) ?_
      show own_Fin p e below _ (T379.setTop (mkF m 62 #[.val (.ref mp), .val (.ref x), .val (.ref it351), .val (.ref en369)] [(.ref it351)]))
      obtain ⟨cq380, kq380, q380a, q380b, q380c⟩ := isOf hZ e379 y373
      obtain ⟨_, _, ⟨T380, L380, k380, n380⟩, -, X380, ⟨Lc380, hQ380, l380, y380, z380⟩, st380⟩ := X379.interfaceBack hx (xi := (⟨"java/util/Iterator", "next", "()Ljava/lang/Object;"⟩ : MethodName)) (y := (⟨"com/example/settlewatt/settlewatt/model/TraceRecord$Inputs$Entries", "next", "()Ljava/lang/Object;"⟩ : MethodName)) hown (mvT hZ (hw _ (List.mem_of_getElem? (i := 140) rfl))) (mvT hZ (hw _ (List.mem_of_getElem? (i := 141) rfl))) (mvT hZ (hw _ (List.mem_of_getElem? (i := 142) rfl))) (mvT hZ (hw _ (List.mem_of_getElem? (i := 143) rfl))) (mvT hZ (hw _ (List.mem_of_getElem? (i := 144) rfl))) (mvT hZ (hw _ (List.mem_of_getElem? (i := 145) rfl))) (mvT hZ (hw _ (List.mem_of_getElem? (i := 146) rfl))) (mvT hZ (hw _ (List.mem_of_getElem? (i := 135) rfl))) (by decide) (backOf (W := 0) (rmNO l Z a0 hw [] it351 mp a ka (4 : Int32) (6 : Int32) ([(.ref ke0), (.ref u0), (.ref ke1), (.ref u1), (.ref ke2), (.ref u2)]) ke2 u2 T369.heap n0 (by exact y371) y373 F369c F369d gn351 (F2.keep y370 nin0) (Aa.keep y370 nin0) (Nat.ne_of_lt (Nat.lt_of_lt_of_le E.lt gk351)) (Nat.ne_of_lt (Nat.lt_of_lt_of_le Aa.lt gk351)) ⟨by decide, by decide⟩ rfl ⟨by decide, by decide⟩ rfl) hZ (hw _ (List.mem_of_getElem? (i := 147) rfl)) (hw _ (List.mem_of_getElem? (i := 121) rfl)) (by decide) (by decide)) q380a q380b q380c (g := (mkF m 62 #[.val (.ref mp), .val (.ref x), .val (.ref it351), .val (.ref en369)] [(.ref it351)])) rfl (by rw [hml]; rfl) (Steps.refl _) (argsL := []) (rest := []) (lenOf pd_14 rfl) rfl (by show 2 * 0 + _ ≤ _; exact Nat.le_of_eq rfl) (hb hby d16_62) (fun _ _ => ⟨rfl, e379, (by decide : 4 + 1 ≤ _), (by decide : 7 + 2 ≤ _)⟩)
      dsimp only [Pt.U, Pt.locs, Pt.cells, Pt.slots] at X380 l380 y380 z380 st380 hQ380
      subst l380 y380 z380
      obtain ⟨en380, rfl, N380q, K380, Eq380, F380a, F380b, F380c, F380d⟩ := hQ380
      have N380 := Fr.app N379 N380q
      have y381 := (y370.trans K380 (allS (Or.inr gk351) all0))
      have y382 := (Nat.le_trans y371 K380.1)
      have y383 := (y372.keep K380 (allS gn351 all0))
      have y384 := (y373.keep K380)
      refine own_via st380 ?_
      show own_Fin p e below _ (T380.setTop (mkF m 67 #[.val (.ref mp), .val (.ref x), .val (.ref it351), .val (.ref en369)] [(.ref en380)]))
      obtain ⟨T385, X385, e385, st385⟩ := castY X380 hx hZ hown (hw _ (List.mem_of_getElem? (i := 167) rfl)) rfl (Ins.of_exa Eq380 (hw _ (List.mem_of_getElem? (i := 168) rfl))) (g := (mkF m 67 #[.val (.ref mp), .val (.ref x), .val (.ref it351), .val (.ref en369)] [(.ref en380)])) rfl rfl (hb hby d16_67)
      refine own_on st385 ?_
      show own_Fin p e below _ (T385.setTop (mkF m 70 #[.val (.ref mp), .val (.ref x), .val (.ref it351), .val (.ref en369)] [(.ref en380)]))
      refine own_on (fun tq => XS.astoreN X385.here hx rfl (hb hby d16_70) rfl rfl (l' := #[.val (.ref mp), .val (.ref x), .val (.ref it351), .val (.ref en380)]) rfl) ?_
      show own_Fin p e below _ (T385.setTop (mkF m 71 #[.val (.ref mp), .val (.ref x), .val (.ref it351), .val (.ref en380)] []))
      refine own_on (fun tq => XS.aloadN X385.here hx rfl (hb hby d16_71) rfl rfl) ?_
      show own_Fin p e below _ (T385.setTop (mkF m 72 #[.val (.ref mp), .val (.ref x), .val (.ref it351), .val (.ref en380)] [(.ref x)]))
      refine own_on (fun tq => XS.aloadN X385.here hx rfl (hb hby d16_72) rfl rfl) ?_
      show own_Fin p e below _ (T385.setTop (mkF m 73 #[.val (.ref mp), .val (.ref x), .val (.ref it351), .val (.ref en380)] [(.ref en380), (.ref x)]))
      obtain ⟨cq386, kq386, q386a, q386b, q386c⟩ := isOf hZ e385 Eq380
      obtain ⟨_, _, ⟨T386, L386, k386, n386⟩, -, X386, ⟨Lc386, hQ386, l386, y386, z386⟩, st386⟩ := X385.interfaceBack hx (xi := (⟨"java/util/Map$Entry", "getKey", "()Ljava/lang/Object;"⟩ : MethodName)) (y := (⟨"java/util/AbstractMap$SimpleImmutableEntry", "getKey", "()Ljava/lang/Object;"⟩ : MethodName)) hown (mvT hZ (hw _ (List.mem_of_getElem? (i := 169) rfl))) (mvT hZ (hw _ (List.mem_of_getElem? (i := 170) rfl))) (mvT hZ (hw _ (List.mem_of_getElem? (i := 171) rfl))) (mvT hZ (hw _ (List.mem_of_getElem? (i := 172) rfl))) (mvT hZ (hw _ (List.mem_of_getElem? (i := 173) rfl))) (mvT hZ (hw _ (List.mem_of_getElem? (i := 174) rfl))) (mvT hZ (hw _ (List.mem_of_getElem? (i := 175) rfl))) (mvT hZ (hw _ (List.mem_of_getElem? (i := 168) rfl))) (by decide) (backOf (W := 1) (rm23 l Z a0 hw [] en380 ke2 T380.heap n0 (by exact y382) F380a) hZ (hw _ (List.mem_of_getElem? (i := 176) rfl)) (hw _ (List.mem_of_getElem? (i := 158) rfl)) (by decide) (by decide)) q386a q386b q386c (g := (mkF m 73 #[.val (.ref mp), .val (.ref x), .val (.ref it351), .val (.ref en380)] [(.ref en380), (.ref x)])) rfl (by rw [hml]; rfl) (Steps.refl _) (argsL := []) (rest := [(.ref x)]) (lenOf pd_14 rfl) rfl (by show 2 * 0 + _ ≤ _; exact Nat.le_of_eq rfl) (hb hby d16_73) (fun _ _ => ⟨rfl, e385, (by decide : 5 + 0 ≤ _), (by decide : 9 + 0 ≤ _)⟩)
      dsimp only [Pt.U, Pt.locs, Pt.cells, Pt.slots] at X386 l386 y386 z386 st386 hQ386
      subst l386 y386 z386
      obtain ⟨rfl, N386q, e386⟩ := hQ386
      have N386 := Fr.app N380 N386q
      refine own_via st386 ?_
      show own_Fin p e below _ (T386.setTop (mkF m 78 #[.val (.ref mp), .val (.ref x), .val (.ref it351), .val (.ref en380)] [(.ref ke2), (.ref x)]))
      obtain ⟨cq387, kq387, q387a, q387b, q387c⟩ := isOf hZ e386 (E_x.keep y381)
      obtain ⟨_, _, ⟨T387, L387, k387, n387⟩, -, X387, ⟨Lc387, hQ387, l387, y387, z387⟩, st387⟩ := X386.virtualBack hx (y := (⟨"java/lang/Object", "equals", "(Ljava/lang/Object;)Z"⟩ : MethodName)) (z := (⟨"java/lang/String", "equals", "(Ljava/lang/Object;)Z"⟩ : MethodName)) hown (mvT hZ (hw _ (List.mem_of_getElem? (i := 177) rfl))) (mvT hZ (hw _ (List.mem_of_getElem? (i := 178) rfl))) (own_nf (a0 := #[]) (mvT hZ (hw _ (List.mem_of_getElem? (i := 39) rfl))) rfl) (mvT hZ (hw _ (List.mem_of_getElem? (i := 180) rfl))) (mvT hZ (hw _ (List.mem_of_getElem? (i := 181) rfl))) (by decide) (StrChars.Road.eqW (W := 0) hZ (own_wE hw) (hw _ (List.mem_of_getElem? (i := 10) rfl)) (E_x.keep y381) (V_x.keep y381 nin0) (C_x.keep y381 nin0) (A_x.keep y381 nin0) (own_cod (cs := [c]) (n := 1) rfl (fun c q => (r_x c q).2)) (own_r16 r_x) (Nat.le_of_ble_eq_true rfl) (E_ke2.keep y381) (V_ke2.keep y381 nin0) (C_ke2.keep y381 nin0) (A_ke2.keep y381 nin0) (own_cod (cs := [c2]) (n := 1) rfl (fun c q => (r_ke2 c q).2)) (own_r16 r_ke2) (Nat.le_of_ble_eq_true rfl) (SC.ext y383.2) hz (by decide) (by decide)) q387a q387c (g := (mkF m 78 #[.val (.ref mp), .val (.ref x), .val (.ref it351), .val (.ref en380)] [(.ref ke2), (.ref x)])) rfl (by rw [hml]; rfl) (Steps.refl _) (argsL := [(.ref ke2)]) (rest := []) (lenOf pd_5 rfl) rfl (by show 2 * 0 + _ ≤ _; exact Nat.le_of_eq rfl) (hb hby d16_78) (fun _ _ => ⟨rfl, e386, (by decide : 5 + 0 ≤ _), (by decide : 9 + 0 ≤ _)⟩)
      dsimp only [Pt.U, Pt.locs, Pt.cells, Pt.slots] at X387 l387 y387 z387 st387 hQ387
      subst l387 y387 z387
      obtain ⟨hv387, rfl, e387⟩ := hQ387
      have N387 := Fr.app N386 (Fr.nil n0)
      by_cases hq388 : c = c2
      · obtain rfl := own_eq1 hv387 (congrArg (fun q => [q]) hq388)
        refine own_via st387 ?_
        show own_Fin p e below _ (T387.setTop (mkF m 81 #[.val (.ref mp), .val (.ref x), .val (.ref it351), .val (.ref en380)] [(.int (1 : Int32))]))
        refine own_on (fun tq => XS.ifNo X387.here hx rfl (hb hby d16_81) rfl ((if0 _ _).trans (feq (by decide : ¬ ((1 : Int32) = (0 : Int32)))).1)) ?_
        show own_Fin p e below _ (T387.setTop (mkF m 84 #[.val (.ref mp), .val (.ref x), .val (.ref it351), .val (.ref en380)] []))
        refine own_on (fun tq => XS.aloadN X387.here hx rfl (hb hby d16_84) rfl rfl) ?_
        show own_Fin p e below _ (T387.setTop (mkF m 85 #[.val (.ref mp), .val (.ref x), .val (.ref it351), .val (.ref en380)] [(.ref en380)]))
        obtain ⟨cq389, kq389, q389a, q389b, q389c⟩ := isOf hZ e387 Eq380
        obtain ⟨_, _, ⟨T389, L389, k389, n389⟩, -, X389, ⟨Lc389, hQ389, l389, y389, z389⟩, st389⟩ := X387.interfaceBack hx (xi := (⟨"java/util/Map$Entry", "getValue", "()Ljava/lang/Object;"⟩ : MethodName)) (y := (⟨"java/util/AbstractMap$SimpleImmutableEntry", "getValue", "()Ljava/lang/Object;"⟩ : MethodName)) hown (mvT hZ (hw _ (List.mem_of_getElem? (i := 183) rfl))) (mvT hZ (hw _ (List.mem_of_getElem? (i := 184) rfl))) (mvT hZ (hw _ (List.mem_of_getElem? (i := 185) rfl))) (mvT hZ (hw _ (List.mem_of_getElem? (i := 186) rfl))) (mvT hZ (hw _ (List.mem_of_getElem? (i := 187) rfl))) (mvT hZ (hw _ (List.mem_of_getElem? (i := 188) rfl))) (mvT hZ (hw _ (List.mem_of_getElem? (i := 189) rfl))) (mvT hZ (hw _ (List.mem_of_getElem? (i := 168) rfl))) (by decide) (backOf (W := 0) (rm25 l Z a0 hw [] en380 u2 T380.heap n0 (by exact y382) F380b) hZ (hw _ (List.mem_of_getElem? (i := 190) rfl)) (hw _ (List.mem_of_getElem? (i := 158) rfl)) (by decide) (by decide)) q389a q389b q389c (g := (mkF m 85 #[.val (.ref mp), .val (.ref x), .val (.ref it351), .val (.ref en380)] [(.ref en380)])) rfl (by rw [hml]; rfl) (Steps.refl _) (argsL := []) (rest := []) (lenOf pd_14 rfl) rfl (by show 2 * 0 + _ ≤ _; exact Nat.le_of_eq rfl) (hb hby d16_85) (fun _ _ => ⟨rfl, e387, (by decide : 5 + 0 ≤ _), (by decide : 9 + 0 ≤ _)⟩)
        dsimp only [Pt.U, Pt.locs, Pt.cells, Pt.slots] at X389 l389 y389 z389 st389 hQ389
        subst l389 y389 z389
        obtain ⟨rfl, N389q, e389⟩ := hQ389
        have N389 := Fr.app N387 N389q
        refine own_via st389 ?_
        show own_Fin p e below _ (T389.setTop (mkF m 90 #[.val (.ref mp), .val (.ref x), .val (.ref it351), .val (.ref en380)] [(.ref u2)]))
        exact own_ret (t := (.object "java/lang/Object")) X389 hx hlk hret rfl (Or.inr (Or.inr (Or.inr (Or.inr ⟨rfl, rfl, rfl⟩)))) (hb hby d16_90) (by show QG3 Z mp x z a ka ke0 ke1 ke2 u0 u1 u2 c0 c1 c2 t_ke0 k_ke0 t_ke1 k_ke1 t_ke2 k_ke2 t_x k_x c r h0 n0 _ T389.heap _; rw [e389]; exact ⟨by rw [hr]; first | rfl | (unfold own_get3; rw [if_neg hq366, if_neg hq377, if_pos hq388]), N389, y381⟩) (by decide) (by decide)
      · obtain rfl := own_eq0 hv387 (own_l1 hq388)
        refine own_via st387 ?_
        show own_Fin p e below _ (T387.setTop (mkF m 81 #[.val (.ref mp), .val (.ref x), .val (.ref it351), .val (.ref en380)] [(.int (0 : Int32))]))
        refine own_on (fun tq => XS.ifYes X387.here hx rfl (pc0 := 81) (pc' := 91) rfl (hb hby d16_81) rfl ((if0 _ _).trans (teq (by decide : (0 : Int32) = (0 : Int32))).1) (by decide) (by decide)) ?_
        show own_Fin p e below _ (T387.setTop (mkF m 91 #[.val (.ref mp), .val (.ref x), .val (.ref it351), .val (.ref en380)] []))
        refine own_on (fun tq => XS.goto X387.here hx rfl (pc0 := 91) (pc' := 52) rfl (hb hby d16_91) (by decide) (by decide)) ?_
        show own_Fin p e below _ (T387.setTop (mkF m 52 #[.val (.ref mp), .val (.ref x), .val (.ref it351), .val (.ref en380)] []))
        refine own_on (fun tq => XS.aloadN X387.here hx rfl (hb hby d16_52) rfl rfl) ?_
        show own_Fin p e below _ (T387.setTop (mkF m 53 #[.val (.ref mp), .val (.ref x), .val (.ref it351), .val (.ref en380)] [(.ref it351)]))
        obtain ⟨cq390, kq390, q390a, q390b, q390c⟩ := isOf hZ e387 y384
        obtain ⟨_, _, ⟨T390, L390, k390, n390⟩, -, X390, ⟨Lc390, hQ390, l390, y390, z390⟩, st390⟩ := X387.interfaceBack hx (xi := (⟨"java/util/Iterator", "hasNext", "()Z"⟩ : MethodName)) (y := (⟨"com/example/settlewatt/settlewatt/model/TraceRecord$Inputs$Entries", "hasNext", "()Z"⟩ : MethodName)) hown (mvT hZ (hw _ (List.mem_of_getElem? (i := 128) rfl))) (mvT hZ (hw _ (List.mem_of_getElem? (i := 129) rfl))) (mvT hZ (hw _ (List.mem_of_getElem? (i := 130) rfl))) (mvT hZ (hw _ (List.mem_of_getElem? (i := 131) rfl))) (mvT hZ (hw _ (List.mem_of_getElem? (i := 132) rfl))) (mvT hZ (hw _ (List.mem_of_getElem? (i := 133) rfl))) (mvT hZ (hw _ (List.mem_of_getElem? (i := 134) rfl))) (mvT hZ (hw _ (List.mem_of_getElem? (i := 135) rfl))) (by decide) (backOf (W := 0) (rm19 l Z a0 hw [] it351 mp a ka (6 : Int32) (6 : Int32) _ (0 : Int32) T380.heap n0 (by exact y382) F380c F380d (F2.keep y381 nin0) (Aa.keep y381 nin0) (by decide)) hZ (hw _ (List.mem_of_getElem? (i := 136) rfl)) (hw _ (List.mem_of_getElem? (i := 121) rfl)) (by decide) (by decide)) q390a q390b q390c (g := (mkF m 53 #[.val (.ref mp), .val (.ref x), .val (.ref it351), .val (.ref en380)] [(.ref it351)])) rfl (by rw [hml]; rfl) (Steps.refl _) (argsL := []) (rest := []) (lenOf pd_9 rfl) rfl (by show 2 * 0 + _ ≤ _; exact Nat.le_of_eq rfl) (hb hby d16_53) (fun _ _ => ⟨rfl, e387, (by decide : 5 + 0 ≤ _), (by decide : 9 + 0 ≤ _)⟩)
        dsimp only [Pt.U, Pt.locs, Pt.cells, Pt.slots] at X390 l390 y390 z390 st390 hQ390
        subst l390 y390 z390
        obtain ⟨rfl, N390q, e390⟩ := hQ390
        have N390 := Fr.app N387 N390q
        refine own_via st390 ?_
        show own_Fin p e below _ (T390.setTop (mkF m 58 #[.val (.ref mp), .val (.ref x), .val (.ref it351), .val (.ref en380)] [(.int (0 : Int32))]))
        refine own_on (fun tq => XS.ifYes X390.here hx rfl (pc0 := 58) (pc' := 94) rfl (hb hby d16_58) rfl ((if0 _ _).trans (teq (by decide : (0 : Int32) = (0 : Int32))).1) (by decide) (by decide)) ?_
        show own_Fin p e below _ (T390.setTop (mkF m 94 #[.val (.ref mp), .val (.ref x), .val (.ref it351), .val (.ref en380)] []))
        refine own_on (fun tq => XS.aconstNull X390.here hx rfl (hb hby d16_94)) ?_
        show own_Fin p e below _ (T390.setTop (mkF m 95 #[.val (.ref mp), .val (.ref x), .val (.ref it351), .val (.ref en380)] [.null]))
        exact own_ret (t := (.object "java/lang/Object")) X390 hx hlk hret rfl (Or.inr (Or.inr (Or.inr (Or.inr ⟨rfl, rfl, rfl⟩)))) (hb hby d16_95) (by show QG3 Z mp x z a ka ke0 ke1 ke2 u0 u1 u2 c0 c1 c2 t_ke0 k_ke0 t_ke1 k_ke1 t_ke2 k_ke2 t_x k_x c r h0 n0 _ T390.heap _; rw [e390]; exact ⟨by rw [hr]; first | rfl | (unfold own_get3; rw [if_neg hq366, if_neg hq377, if_neg hq388]), N390, y381⟩) (by decide) (by decide)
theorem ef_rmH30 (m : MethodId) (x0 : Addr) (x1 : Addr) (x2 : Addr) (x3 : Int32) : entryFrame m #[(.ref x0), (.ref x1), (.ref x2), (.int x3)] 5 = mkF m 0 #[.val (.ref x0), .val (.ref x1), .val (.ref x2), .val (.int x3), .unset] [] := by first | (simp [entryFrame, mkF, argsToLocals, Value.category]; done) | rfl
def QH30 (Z : State) (mp : Addr) (x : Addr) (y : Addr) (z : Int32) (a : Addr) (ka : ClassId) (ke0 : Addr) (ke1 : Addr) (ke2 : Addr) (u0 : Addr) (u1 : Addr) (u2 : Addr) (c0 : Int32) (c1 : Int32) (c2 : Int32) (t_ke0 : Addr) (k_ke0 : ClassId) (t_ke1 : Addr) (k_ke1 : ClassId) (t_ke2 : Addr) (k_ke2 : ClassId) (t_x : Addr) (k_x : ClassId) (c : Int32) (h0 : Heap) (n0 : Nat) (v : Option Value) (h : Heap) (L : List Loc) : Prop := v = some (.int 1) ∧ Fr n0 L ∧ Keep h0 h []
set_option maxRecDepth 65536 in
set_option maxHeartbeats 40000000 in
theorem rmH30 (l : Launch) (Z : State) (a0 : Array Value) (hw : ∀ d ∈ tables_1, d.before a0 Z = true) (ws : List Jvm.Cond) (mp : Addr) (x : Addr) (y : Addr) (z : Int32) (a : Addr) (ka : ClassId) (ke0 : Addr) (ke1 : Addr) (ke2 : Addr) (u0 : Addr) (u1 : Addr) (u2 : Addr) (c0 : Int32) (c1 : Int32) (c2 : Int32) (t_ke0 : Addr) (k_ke0 : ClassId) (t_ke1 : Addr) (k_ke1 : ClassId) (t_ke2 : Addr) (k_ke2 : ClassId) (t_x : Addr) (k_x : ClassId) (c : Int32) (h0 : Heap) (n0 : Nat) (Z0 : n0 ≤ h0.size) (hz : ¬ z = (0 : Int32)) (O : Old Z n0 h0) (SC : Sta Z Z.heap "java/lang/String" "COMPACT_STRINGS" "Z" (.int z)) (E : Exa Z h0 mp "com/example/settlewatt/settlewatt/model/TraceRecord$Inputs") (F2 : Fld Z h0 mp "com/example/settlewatt/settlewatt/model/TraceRecord$Inputs" "namesAndValues" "[Ljava/lang/String;" (.ref a)) (Aa : Arv Z h0 a ka (.object "java/lang/String") (6 : Int32) [(.ref ke0), (.ref u0), (.ref ke1), (.ref u1), (.ref ke2), (.ref u2)] .null) (E_ke0 : Exa Z h0 ke0 "java/lang/String") (C_ke0 : Fld Z h0 ke0 "java/lang/String" "coder" "B" (.int 0)) (V_ke0 : Fld Z h0 ke0 "java/lang/String" "value" "[B" (.ref t_ke0)) (A_ke0 : Arv Z h0 t_ke0 k_ke0 .byte (1 : Int32) (([c0].map StrChars.lo8).map Value.int) (.int 0)) (r_ke0 : ∀ q_ ∈ [c0], ¬ q_ < 0 ∧ ¬ (255 : Int32) < q_) (E_ke1 : Exa Z h0 ke1 "java/lang/String") (C_ke1 : Fld Z h0 ke1 "java/lang/String" "coder" "B" (.int 0)) (V_ke1 : Fld Z h0 ke1 "java/lang/String" "value" "[B" (.ref t_ke1)) (A_ke1 : Arv Z h0 t_ke1 k_ke1 .byte (1 : Int32) (([c1].map StrChars.lo8).map Value.int) (.int 0)) (r_ke1 : ∀ q_ ∈ [c1], ¬ q_ < 0 ∧ ¬ (255 : Int32) < q_) (E_ke2 : Exa Z h0 ke2 "java/lang/String") (C_ke2 : Fld Z h0 ke2 "java/lang/String" "coder" "B" (.int 0)) (V_ke2 : Fld Z h0 ke2 "java/lang/String" "value" "[B" (.ref t_ke2)) (A_ke2 : Arv Z h0 t_ke2 k_ke2 .byte (1 : Int32) (([c2].map StrChars.lo8).map Value.int) (.int 0)) (r_ke2 : ∀ q_ ∈ [c2], ¬ q_ < 0 ∧ ¬ (255 : Int32) < q_) (E_x : Exa Z h0 x "java/lang/String") (C_x : Fld Z h0 x "java/lang/String" "coder" "B" (.int 0)) (V_x : Fld Z h0 x "java/lang/String" "value" "[B" (.ref t_x)) (A_x : Arv Z h0 t_x k_x .byte (1 : Int32) (([c].map StrChars.lo8).map Value.int) (.int 0)) (r_x : ∀ q_ ∈ [c], ¬ q_ < 0 ∧ ¬ (255 : Int32) < q_) (hr : own_get3 c c0 c1 c2 u0 u1 u2 = .null) :
    MetFree l (⟨"com/example/settlewatt/settlewatt/model/TraceRecordInputsOfPinLaw", "has", "(Ljava/util/Map;Ljava/lang/String;Ljava/lang/String;Z)Z"⟩ : MethodName) (head1 (Jvm.Cond.code (⟨"com/example/settlewatt/settlewatt/model/TraceRecordInputsOfPinLaw", "has", "(Ljava/util/Map;Ljava/lang/String;Ljava/lang/String;Z)Z"⟩ : MethodName) method_2_code 5 (some .boolean) :: ws) ({ frames := 6, cells := 5, slots := 9, locals := 77 } : Room)) (fun as_ U => as_ = #[(.ref mp), (.ref x), (.ref y), (.int (0 : Int32))] ∧ Z.Warmed39 U.vm ∧ U.heap = h0) (fun _ _ _ _ _ => True) (fun _ U out_ U' => ∃ v L, out_ = .returned v ∧ QH30 Z mp x y z a ka ke0 ke1 ke2 u0 u1 u2 c0 c1 c2 t_ke0 k_ke0 t_ke1 k_ke1 t_ke2 k_ke2 t_x k_x c h0 n0 v U'.heap L ∧ FrameEnd U out_ U' L ({ frames := 6, cells := 5, slots := 9, locals := 77 } : Room).cells ({ frames := 6, cells := 5, slots := 9, locals := 77 } : Room).slots) := by
  refine MetFree.of_bodySF (plainFor_of_name pn_10) hisR ?_
  intro p e s m args below meth cd s₁ Bd hml0 hP hK
  obtain ⟨rfl, hZ, hh⟩ := hP
  have hx := Bd.exec
  have hby := Bd.bytes
  have hml : cd.maxLocals = 5 := hml0
  have hlk : meth.locks = false := BodyLoose.notSynchronized Bd
  have hown : s.vm.findClass "com/example/settlewatt/settlewatt/model/TraceRecordInputsOfPinLaw" = some m.cls := findClass_of_methodNamed Bd.named
  have hnm := (name_of_methodNamed Bd.named Bd.method).1
  have hret := Bd.returns
  have X0 : Stand p l e ({ frames := 6, cells := 5, slots := 9, locals := 77 } : Room) s m #[(.ref mp), (.ref x), (.ref y), (.int (0 : Int32))] below meth cd s₁ [] 0 0 := Stand.of_body Bd
  have e0 : s₁.heap = h0 := by rw [← hh, Bd.state]; rfl
  have N0 := Fr.nil n0
  show own_Fin p e below (own_Ans s (QH30 Z mp x y z a ka ke0 ke1 ke2 u0 u1 u2 c0 c1 c2 t_ke0 k_ke0 t_ke1 k_ke1 t_ke2 k_ke2 t_x k_x c h0 n0) ({ frames := 6, cells := 5, slots := 9, locals := 77 } : Room).cells ({ frames := 6, cells := 5, slots := 9, locals := 77 } : Room).slots) (s₁.setTop (entryFrame m #[(.ref mp), (.ref x), (.ref y), (.int (0 : Int32))] 5))
  refine own_cast (ef_rmH30 m mp x y (0 : Int32)) ?_
  show own_Fin p e below _ (s₁.setTop (mkF m 0 #[.val (.ref mp), .val (.ref x), .val (.ref y), .val (.int (0 : Int32)), .unset] []))
  refine own_on (fun tq => XS.aloadN X0.here hx rfl (hb hby d15_0) rfl rfl) ?_
  show own_Fin p e below _ (s₁.setTop (mkF m 1 #[.val (.ref mp), .val (.ref x), .val (.ref y), .val (.int (0 : Int32)), .unset] [(.ref mp)]))
  refine own_on (fun tq => XS.aloadN X0.here hx rfl (hb hby d15_1) rfl rfl) ?_
  show own_Fin p e below _ (s₁.setTop (mkF m 2 #[.val (.ref mp), .val (.ref x), .val (.ref y), .val (.int (0 : Int32)), .unset] [(.ref x), (.ref mp)]))
  obtain ⟨cq391, kq391, q391a, q391b, q391c⟩ := isOf hZ e0 (E.keep (Keep.refl h0 []))
  obtain ⟨_, _, ⟨T391, L391, k391, n391⟩, -, X391, ⟨Lc391, hQ391, l391, y391, z391⟩, st391⟩ := X0.interfaceBack hx (xi := (⟨"java/util/Map", "get", "(Ljava/lang/Object;)Ljava/lang/Object;"⟩ : MethodName)) (y := (⟨"java/util/AbstractMap", "get", "(Ljava/lang/Object;)Ljava/lang/Object;"⟩ : MethodName)) hown (mvT hZ (hw _ (List.mem_of_getElem? (i := 103) rfl))) (mvT hZ (hw _ (List.mem_of_getElem? (i := 104) rfl))) (mvT hZ (hw _ (List.mem_of_getElem? (i := 105) rfl))) (mvT hZ (hw _ (List.mem_of_getElem? (i := 106) rfl))) (mvT hZ (hw _ (List.mem_of_getElem? (i := 107) rfl))) (mvT hZ (hw _ (List.mem_of_getElem? (i := 108) rfl))) (mvT hZ (hw _ (List.mem_of_getElem? (i := 109) rfl))) (mvT hZ (hw _ (List.mem_of_getElem? (i := 62) rfl))) (by decide) (backOf (W := 0) (rmG3 l Z a0 hw [] mp x z a ka ke0 ke1 ke2 u0 u1 u2 c0 c1 c2 t_ke0 k_ke0 t_ke1 k_ke1 t_ke2 k_ke2 t_x k_x c .null h0 n0 (by exact Z0) hz O SC (E.keep (Keep.refl h0 [])) (F2.keep (Keep.refl h0 []) nin0) (Aa.keep (Keep.refl h0 []) nin0) (E_ke0.keep (Keep.refl h0 [])) (C_ke0.keep (Keep.refl h0 []) nin0) (V_ke0.keep (Keep.refl h0 []) nin0) (A_ke0.keep (Keep.refl h0 []) nin0) r_ke0 (E_ke1.keep (Keep.refl h0 [])) (C_ke1.keep (Keep.refl h0 []) nin0) (V_ke1.keep (Keep.refl h0 []) nin0) (A_ke1.keep (Keep.refl h0 []) nin0) r_ke1 (E_ke2.keep (Keep.refl h0 [])) (C_ke2.keep (Keep.refl h0 []) nin0) (V_ke2.keep (Keep.refl h0 []) nin0) (A_ke2.keep (Keep.refl h0 []) nin0) r_ke2 (E_x.keep (Keep.refl h0 [])) (C_x.keep (Keep.refl h0 []) nin0) (V_x.keep (Keep.refl h0 []) nin0) (A_x.keep (Keep.refl h0 []) nin0) r_x hr.symm) hZ (hw _ (List.mem_of_getElem? (i := 110) rfl)) (hw _ (List.mem_of_getElem? (i := 50) rfl)) (by decide) (by decide)) q391a q391b q391c (g := (mkF m 2 #[.val (.ref mp), .val (.ref x), .val (.ref y), .val (.int (0 : Int32)), .unset] [(.ref x), (.ref mp)])) rfl (by rw [hml]; rfl) (Steps.refl _) (argsL := [(.ref x)]) (rest := []) (lenOf pd_13 rfl) rfl (by show 2 * 0 + _ ≤ _; exact Nat.le_of_eq rfl) (hb hby d15_2) (fun _ _ => ⟨rfl, e0, (by decide : 0 + 5 ≤ _), (by decide : 0 + 9 ≤ _)⟩)
  dsimp only [Pt.U, Pt.locs, Pt.cells, Pt.slots] at X391 l391 y391 z391 st391 hQ391
  subst l391 y391 z391
  obtain ⟨rfl, N391q, K391⟩ := hQ391
  have N391 := Fr.app N0 N391q
  have y392 := ((Keep.refl h0 []).trans K391 all0)
  have y393 := (Nat.le_trans Z0 K391.1)
  have y394 := (O.keep K391 all0)
  refine own_via st391 ?_
  show own_Fin p e below _ (T391.setTop (mkF m 7 #[.val (.ref mp), .val (.ref x), .val (.ref y), .val (.int (0 : Int32)), .unset] [.null]))
  refine own_on (fun tq => X391.checkcastNull hx (g := (mkF m 7 #[.val (.ref mp), .val (.ref x), .val (.ref y), .val (.int (0 : Int32)), .unset] [.null])) rfl rfl (hb hby d15_7) tq) ?_
  show own_Fin p e below _ (T391.setTop (mkF m 10 #[.val (.ref mp), .val (.ref x), .val (.ref y), .val (.int (0 : Int32)), .unset] [.null]))
  refine own_on (fun tq => XS.astore X391.here hx rfl (hb hby d15_10) rfl rfl (l' := #[.val (.ref mp), .val (.ref x), .val (.ref y), .val (.int (0 : Int32)), .val .null]) rfl) ?_
  show own_Fin p e below _ (T391.setTop (mkF m 12 #[.val (.ref mp), .val (.ref x), .val (.ref y), .val (.int (0 : Int32)), .val .null] []))
  refine own_on (fun tq => XS.iloadN X391.here hx rfl (hb hby d15_12) rfl) ?_
  show own_Fin p e below _ (T391.setTop (mkF m 13 #[.val (.ref mp), .val (.ref x), .val (.ref y), .val (.int (0 : Int32)), .val .null] [(.int (0 : Int32))]))
  refine own_on (fun tq => XS.ifYes X391.here hx rfl (pc0 := 13) (pc' := 36) rfl (hb hby d15_13) rfl ((if0 _ _).trans (teq (by decide : (0 : Int32) = (0 : Int32))).1) (by decide) (by decide)) ?_
  show own_Fin p e below _ (T391.setTop (mkF m 36 #[.val (.ref mp), .val (.ref x), .val (.ref y), .val (.int (0 : Int32)), .val .null] []))
  refine own_on (fun tq => XS.aload X391.here hx rfl (hb hby d15_36) rfl rfl) ?_
  show own_Fin p e below _ (T391.setTop (mkF m 38 #[.val (.ref mp), .val (.ref x), .val (.ref y), .val (.int (0 : Int32)), .val .null] [.null]))
  refine own_on (fun tq => XS.ifnonnullNo X391.here hx rfl (hb hby d15_38) rfl) ?_
  show own_Fin p e below _ (T391.setTop (mkF m 41 #[.val (.ref mp), .val (.ref x), .val (.ref y), .val (.int (0 : Int32)), .val .null] []))
  refine own_on (fun tq => XS.iconst X391.here hx rfl (hb hby d15_41)) ?_
  show own_Fin p e below _ (T391.setTop (mkF m 42 #[.val (.ref mp), .val (.ref x), .val (.ref y), .val (.int (0 : Int32)), .val .null] [(.int (1 : Int32))]))
  refine own_on (fun tq => XS.goto X391.here hx rfl (pc0 := 42) (pc' := 46) rfl (hb hby d15_42) (by decide) (by decide)) ?_
  show own_Fin p e below _ (T391.setTop (mkF m 46 #[.val (.ref mp), .val (.ref x), .val (.ref y), .val (.int (0 : Int32)), .val .null] [(.int (1 : Int32))]))
  exact own_ret (t := .boolean) X391 hx hlk hret rfl (Or.inl ⟨rfl, (by simp), _, rfl⟩) (hb hby d15_46) (by show QH30 Z mp x y z a ka ke0 ke1 ke2 u0 u1 u2 c0 c1 c2 t_ke0 k_ke0 t_ke1 k_ke1 t_ke2 k_ke2 t_x k_x c h0 n0 _ T391.heap _; exact ⟨rfl, N391, y392⟩) (by decide) (by decide)
theorem ef_rmH31 (m : MethodId) (x0 : Addr) (x1 : Addr) (x2 : Addr) (x3 : Int32) : entryFrame m #[(.ref x0), (.ref x1), (.ref x2), (.int x3)] 5 = mkF m 0 #[.val (.ref x0), .val (.ref x1), .val (.ref x2), .val (.int x3), .unset] [] := by first | (simp [entryFrame, mkF, argsToLocals, Value.category]; done) | rfl
def QH31 (Z : State) (mp : Addr) (x : Addr) (y : Addr) (z : Int32) (a : Addr) (ka : ClassId) (ke0 : Addr) (ke1 : Addr) (ke2 : Addr) (u0 : Addr) (u1 : Addr) (u2 : Addr) (c0 : Int32) (c1 : Int32) (c2 : Int32) (t_ke0 : Addr) (k_ke0 : ClassId) (t_ke1 : Addr) (k_ke1 : ClassId) (t_ke2 : Addr) (k_ke2 : ClassId) (t_x : Addr) (k_x : ClassId) (c : Int32) (t_y : Addr) (k_y : ClassId) (d : Int32) (h0 : Heap) (n0 : Nat) (v : Option Value) (h : Heap) (L : List Loc) : Prop := v = some (.int 1) ∧ Fr n0 L ∧ Keep h0 h []
set_option maxRecDepth 65536 in
set_option maxHeartbeats 40000000 in
theorem rmH31 (l : Launch) (Z : State) (a0 : Array Value) (hw : ∀ d ∈ tables_1, d.before a0 Z = true) (ws : List Jvm.Cond) (mp : Addr) (x : Addr) (y : Addr) (z : Int32) (a : Addr) (ka : ClassId) (ke0 : Addr) (ke1 : Addr) (ke2 : Addr) (u0 : Addr) (u1 : Addr) (u2 : Addr) (c0 : Int32) (c1 : Int32) (c2 : Int32) (t_ke0 : Addr) (k_ke0 : ClassId) (t_ke1 : Addr) (k_ke1 : ClassId) (t_ke2 : Addr) (k_ke2 : ClassId) (t_x : Addr) (k_x : ClassId) (c : Int32) (t_y : Addr) (k_y : ClassId) (d : Int32) (h0 : Heap) (n0 : Nat) (Z0 : n0 ≤ h0.size) (hz : ¬ z = (0 : Int32)) (O : Old Z n0 h0) (SC : Sta Z Z.heap "java/lang/String" "COMPACT_STRINGS" "Z" (.int z)) (E : Exa Z h0 mp "com/example/settlewatt/settlewatt/model/TraceRecord$Inputs") (F2 : Fld Z h0 mp "com/example/settlewatt/settlewatt/model/TraceRecord$Inputs" "namesAndValues" "[Ljava/lang/String;" (.ref a)) (Aa : Arv Z h0 a ka (.object "java/lang/String") (6 : Int32) [(.ref ke0), (.ref u0), (.ref ke1), (.ref u1), (.ref ke2), (.ref u2)] .null) (E_ke0 : Exa Z h0 ke0 "java/lang/String") (C_ke0 : Fld Z h0 ke0 "java/lang/String" "coder" "B" (.int 0)) (V_ke0 : Fld Z h0 ke0 "java/lang/String" "value" "[B" (.ref t_ke0)) (A_ke0 : Arv Z h0 t_ke0 k_ke0 .byte (1 : Int32) (([c0].map StrChars.lo8).map Value.int) (.int 0)) (r_ke0 : ∀ q_ ∈ [c0], ¬ q_ < 0 ∧ ¬ (255 : Int32) < q_) (E_ke1 : Exa Z h0 ke1 "java/lang/String") (C_ke1 : Fld Z h0 ke1 "java/lang/String" "coder" "B" (.int 0)) (V_ke1 : Fld Z h0 ke1 "java/lang/String" "value" "[B" (.ref t_ke1)) (A_ke1 : Arv Z h0 t_ke1 k_ke1 .byte (1 : Int32) (([c1].map StrChars.lo8).map Value.int) (.int 0)) (r_ke1 : ∀ q_ ∈ [c1], ¬ q_ < 0 ∧ ¬ (255 : Int32) < q_) (E_ke2 : Exa Z h0 ke2 "java/lang/String") (C_ke2 : Fld Z h0 ke2 "java/lang/String" "coder" "B" (.int 0)) (V_ke2 : Fld Z h0 ke2 "java/lang/String" "value" "[B" (.ref t_ke2)) (A_ke2 : Arv Z h0 t_ke2 k_ke2 .byte (1 : Int32) (([c2].map StrChars.lo8).map Value.int) (.int 0)) (r_ke2 : ∀ q_ ∈ [c2], ¬ q_ < 0 ∧ ¬ (255 : Int32) < q_) (E_x : Exa Z h0 x "java/lang/String") (C_x : Fld Z h0 x "java/lang/String" "coder" "B" (.int 0)) (V_x : Fld Z h0 x "java/lang/String" "value" "[B" (.ref t_x)) (A_x : Arv Z h0 t_x k_x .byte (1 : Int32) (([c].map StrChars.lo8).map Value.int) (.int 0)) (r_x : ∀ q_ ∈ [c], ¬ q_ < 0 ∧ ¬ (255 : Int32) < q_) (E_y : Exa Z h0 y "java/lang/String") (C_y : Fld Z h0 y "java/lang/String" "coder" "B" (.int 0)) (V_y : Fld Z h0 y "java/lang/String" "value" "[B" (.ref t_y)) (A_y : Arv Z h0 t_y k_y .byte (1 : Int32) (([d].map StrChars.lo8).map Value.int) (.int 0)) (r_y : ∀ q_ ∈ [d], ¬ q_ < 0 ∧ ¬ (255 : Int32) < q_) (hr : own_get3 c c0 c1 c2 u0 u1 u2 = .ref y) :
    MetFree l (⟨"com/example/settlewatt/settlewatt/model/TraceRecordInputsOfPinLaw", "has", "(Ljava/util/Map;Ljava/lang/String;Ljava/lang/String;Z)Z"⟩ : MethodName) (head1 (Jvm.Cond.code (⟨"com/example/settlewatt/settlewatt/model/TraceRecordInputsOfPinLaw", "has", "(Ljava/util/Map;Ljava/lang/String;Ljava/lang/String;Z)Z"⟩ : MethodName) method_2_code 5 (some .boolean) :: ws) ({ frames := 6, cells := 5, slots := 9, locals := 77 } : Room)) (fun as_ U => as_ = #[(.ref mp), (.ref x), (.ref y), (.int (1 : Int32))] ∧ Z.Warmed39 U.vm ∧ U.heap = h0) (fun _ _ _ _ _ => True) (fun _ U out_ U' => ∃ v L, out_ = .returned v ∧ QH31 Z mp x y z a ka ke0 ke1 ke2 u0 u1 u2 c0 c1 c2 t_ke0 k_ke0 t_ke1 k_ke1 t_ke2 k_ke2 t_x k_x c t_y k_y d h0 n0 v U'.heap L ∧ FrameEnd U out_ U' L ({ frames := 6, cells := 5, slots := 9, locals := 77 } : Room).cells ({ frames := 6, cells := 5, slots := 9, locals := 77 } : Room).slots) := by
  refine MetFree.of_bodySF (plainFor_of_name pn_10) hisR ?_
  intro p e s m args below meth cd s₁ Bd hml0 hP hK
  obtain ⟨rfl, hZ, hh⟩ := hP
  have hx := Bd.exec
  have hby := Bd.bytes
  have hml : cd.maxLocals = 5 := hml0
  have hlk : meth.locks = false := BodyLoose.notSynchronized Bd
  have hown : s.vm.findClass "com/example/settlewatt/settlewatt/model/TraceRecordInputsOfPinLaw" = some m.cls := findClass_of_methodNamed Bd.named
  have hnm := (name_of_methodNamed Bd.named Bd.method).1
  have hret := Bd.returns
  have X0 : Stand p l e ({ frames := 6, cells := 5, slots := 9, locals := 77 } : Room) s m #[(.ref mp), (.ref x), (.ref y), (.int (1 : Int32))] below meth cd s₁ [] 0 0 := Stand.of_body Bd
  have e0 : s₁.heap = h0 := by rw [← hh, Bd.state]; rfl
  have N0 := Fr.nil n0
  show own_Fin p e below (own_Ans s (QH31 Z mp x y z a ka ke0 ke1 ke2 u0 u1 u2 c0 c1 c2 t_ke0 k_ke0 t_ke1 k_ke1 t_ke2 k_ke2 t_x k_x c t_y k_y d h0 n0) ({ frames := 6, cells := 5, slots := 9, locals := 77 } : Room).cells ({ frames := 6, cells := 5, slots := 9, locals := 77 } : Room).slots) (s₁.setTop (entryFrame m #[(.ref mp), (.ref x), (.ref y), (.int (1 : Int32))] 5))
  refine own_cast (ef_rmH31 m mp x y (1 : Int32)) ?_
  show own_Fin p e below _ (s₁.setTop (mkF m 0 #[.val (.ref mp), .val (.ref x), .val (.ref y), .val (.int (1 : Int32)), .unset] []))
  refine own_on (fun tq => XS.aloadN X0.here hx rfl (hb hby d15_0) rfl rfl) ?_
  show own_Fin p e below _ (s₁.setTop (mkF m 1 #[.val (.ref mp), .val (.ref x), .val (.ref y), .val (.int (1 : Int32)), .unset] [(.ref mp)]))
  refine own_on (fun tq => XS.aloadN X0.here hx rfl (hb hby d15_1) rfl rfl) ?_
  show own_Fin p e below _ (s₁.setTop (mkF m 2 #[.val (.ref mp), .val (.ref x), .val (.ref y), .val (.int (1 : Int32)), .unset] [(.ref x), (.ref mp)]))
  obtain ⟨cq395, kq395, q395a, q395b, q395c⟩ := isOf hZ e0 (E.keep (Keep.refl h0 []))
  obtain ⟨_, _, ⟨T395, L395, k395, n395⟩, -, X395, ⟨Lc395, hQ395, l395, y395, z395⟩, st395⟩ := X0.interfaceBack hx (xi := (⟨"java/util/Map", "get", "(Ljava/lang/Object;)Ljava/lang/Object;"⟩ : MethodName)) (y := (⟨"java/util/AbstractMap", "get", "(Ljava/lang/Object;)Ljava/lang/Object;"⟩ : MethodName)) hown (mvT hZ (hw _ (List.mem_of_getElem? (i := 103) rfl))) (mvT hZ (hw _ (List.mem_of_getElem? (i := 104) rfl))) (mvT hZ (hw _ (List.mem_of_getElem? (i := 105) rfl))) (mvT hZ (hw _ (List.mem_of_getElem? (i := 106) rfl))) (mvT hZ (hw _ (List.mem_of_getElem? (i := 107) rfl))) (mvT hZ (hw _ (List.mem_of_getElem? (i := 108) rfl))) (mvT hZ (hw _ (List.mem_of_getElem? (i := 109) rfl))) (mvT hZ (hw _ (List.mem_of_getElem? (i := 62) rfl))) (by decide) (backOf (W := 0) (rmG3 l Z a0 hw [] mp x z a ka ke0 ke1 ke2 u0 u1 u2 c0 c1 c2 t_ke0 k_ke0 t_ke1 k_ke1 t_ke2 k_ke2 t_x k_x c (.ref y) h0 n0 (by exact Z0) hz O SC (E.keep (Keep.refl h0 [])) (F2.keep (Keep.refl h0 []) nin0) (Aa.keep (Keep.refl h0 []) nin0) (E_ke0.keep (Keep.refl h0 [])) (C_ke0.keep (Keep.refl h0 []) nin0) (V_ke0.keep (Keep.refl h0 []) nin0) (A_ke0.keep (Keep.refl h0 []) nin0) r_ke0 (E_ke1.keep (Keep.refl h0 [])) (C_ke1.keep (Keep.refl h0 []) nin0) (V_ke1.keep (Keep.refl h0 []) nin0) (A_ke1.keep (Keep.refl h0 []) nin0) r_ke1 (E_ke2.keep (Keep.refl h0 [])) (C_ke2.keep (Keep.refl h0 []) nin0) (V_ke2.keep (Keep.refl h0 []) nin0) (A_ke2.keep (Keep.refl h0 []) nin0) r_ke2 (E_x.keep (Keep.refl h0 [])) (C_x.keep (Keep.refl h0 []) nin0) (V_x.keep (Keep.refl h0 []) nin0) (A_x.keep (Keep.refl h0 []) nin0) r_x hr.symm) hZ (hw _ (List.mem_of_getElem? (i := 110) rfl)) (hw _ (List.mem_of_getElem? (i := 50) rfl)) (by decide) (by decide)) q395a q395b q395c (g := (mkF m 2 #[.val (.ref mp), .val (.ref x), .val (.ref y), .val (.int (1 : Int32)), .unset] [(.ref x), (.ref mp)])) rfl (by rw [hml]; rfl) (Steps.refl _) (argsL := [(.ref x)]) (rest := []) (lenOf pd_13 rfl) rfl (by show 2 * 0 + _ ≤ _; exact Nat.le_of_eq rfl) (hb hby d15_2) (fun _ _ => ⟨rfl, e0, (by decide : 0 + 5 ≤ _), (by decide : 0 + 9 ≤ _)⟩)
  dsimp only [Pt.U, Pt.locs, Pt.cells, Pt.slots] at X395 l395 y395 z395 st395 hQ395
  subst l395 y395 z395
  obtain ⟨rfl, N395q, K395⟩ := hQ395
  have N395 := Fr.app N0 N395q
  have y396 := ((Keep.refl h0 []).trans K395 all0)
  have y397 := (Nat.le_trans Z0 K395.1)
  have y398 := (O.keep K395 all0)
  refine own_via st395 ?_
  show own_Fin p e below _ (T395.setTop (mkF m 7 #[.val (.ref mp), .val (.ref x), .val (.ref y), .val (.int (1 : Int32)), .unset] [(.ref y)]))
  obtain ⟨T399, X399, e399, st399⟩ := castY X395 hx hZ hown (hw _ (List.mem_of_getElem? (i := 26) rfl)) rfl (Ins.self (E_y.keep y396)) (g := (mkF m 7 #[.val (.ref mp), .val (.ref x), .val (.ref y), .val (.int (1 : Int32)), .unset] [(.ref y)])) rfl rfl (hb hby d15_7)
  refine own_on st399 ?_
  show own_Fin p e below _ (T399.setTop (mkF m 10 #[.val (.ref mp), .val (.ref x), .val (.ref y), .val (.int (1 : Int32)), .unset] [(.ref y)]))
  refine own_on (fun tq => XS.astore X399.here hx rfl (hb hby d15_10) rfl rfl (l' := #[.val (.ref mp), .val (.ref x), .val (.ref y), .val (.int (1 : Int32)), .val (.ref y)]) rfl) ?_
  show own_Fin p e below _ (T399.setTop (mkF m 12 #[.val (.ref mp), .val (.ref x), .val (.ref y), .val (.int (1 : Int32)), .val (.ref y)] []))
  refine own_on (fun tq => XS.iloadN X399.here hx rfl (hb hby d15_12) rfl) ?_
  show own_Fin p e below _ (T399.setTop (mkF m 13 #[.val (.ref mp), .val (.ref x), .val (.ref y), .val (.int (1 : Int32)), .val (.ref y)] [(.int (1 : Int32))]))
  refine own_on (fun tq => XS.ifNo X399.here hx rfl (hb hby d15_13) rfl ((if0 _ _).trans (feq (by decide : ¬ ((1 : Int32) = (0 : Int32)))).1)) ?_
  show own_Fin p e below _ (T399.setTop (mkF m 16 #[.val (.ref mp), .val (.ref x), .val (.ref y), .val (.int (1 : Int32)), .val (.ref y)] []))
  refine own_on (fun tq => XS.aload X399.here hx rfl (hb hby d15_16) rfl rfl) ?_
  show own_Fin p e below _ (T399.setTop (mkF m 18 #[.val (.ref mp), .val (.ref x), .val (.ref y), .val (.int (1 : Int32)), .val (.ref y)] [(.ref y)]))
  refine own_on (fun tq => XS.ifnullNo X399.here hx rfl (hb hby d15_18) rfl) ?_
  show own_Fin p e below _ (T399.setTop (mkF m 21 #[.val (.ref mp), .val (.ref x), .val (.ref y), .val (.int (1 : Int32)), .val (.ref y)] []))
  refine own_on (fun tq => XS.aload X399.here hx rfl (hb hby d15_21) rfl rfl) ?_
  show own_Fin p e below _ (T399.setTop (mkF m 23 #[.val (.ref mp), .val (.ref x), .val (.ref y), .val (.int (1 : Int32)), .val (.ref y)] [(.ref y)]))
  refine own_on (fun tq => XS.aloadN X399.here hx rfl (hb hby d15_23) rfl rfl) ?_
  show own_Fin p e below _ (T399.setTop (mkF m 24 #[.val (.ref mp), .val (.ref x), .val (.ref y), .val (.int (1 : Int32)), .val (.ref y)] [(.ref y), (.ref y)]))
  obtain ⟨cq400, kq400, q400a, q400b, q400c⟩ := isOf hZ e399 (E_y.keep y396)
  obtain ⟨_, _, ⟨T400, L400, k400, n400⟩, -, X400, ⟨Lc400, hQ400, l400, y400, z400⟩, st400⟩ := X399.virtualBack hx (y := (⟨"java/lang/String", "equals", "(Ljava/lang/Object;)Z"⟩ : MethodName)) (z := (⟨"java/lang/String", "equals", "(Ljava/lang/Object;)Z"⟩ : MethodName)) hown (mvT hZ (hw _ (List.mem_of_getElem? (i := 191) rfl))) (mvT hZ (hw _ (List.mem_of_getElem? (i := 192) rfl))) (notFace_of_selects (args := #[]) (mvT hZ (hw _ (List.mem_of_getElem? (i := 193) rfl)))) (mvT hZ (hw _ (List.mem_of_getElem? (i := 193) rfl))) (mvT hZ (hw _ (List.mem_of_getElem? (i := 181) rfl))) (by decide) (StrChars.Road.eqW (W := 0) hZ (own_wE hw) (hw _ (List.mem_of_getElem? (i := 10) rfl)) (E_y.keep y396) (V_y.keep y396 nin0) (C_y.keep y396 nin0) (A_y.keep y396 nin0) (own_cod (cs := [d]) (n := 1) rfl (fun c q => (r_y c q).2)) (own_r16 r_y) (Nat.le_of_ble_eq_true rfl) (E_y.keep y396) (V_y.keep y396 nin0) (C_y.keep y396 nin0) (A_y.keep y396 nin0) (own_cod (cs := [d]) (n := 1) rfl (fun c q => (r_y c q).2)) (own_r16 r_y) (Nat.le_of_ble_eq_true rfl) (SC.ext y398.2) hz (by decide) (by decide)) q400a q400c (g := (mkF m 24 #[.val (.ref mp), .val (.ref x), .val (.ref y), .val (.int (1 : Int32)), .val (.ref y)] [(.ref y), (.ref y)])) rfl (by rw [hml]; rfl) (Steps.refl _) (argsL := [(.ref y)]) (rest := []) (lenOf pd_5 rfl) rfl (by show 2 * 0 + _ ≤ _; exact Nat.le_of_eq rfl) (hb hby d15_24) (fun _ _ => ⟨rfl, e399, (by decide : 5 + 0 ≤ _), (by decide : 9 + 0 ≤ _)⟩)
  dsimp only [Pt.U, Pt.locs, Pt.cells, Pt.slots] at X400 l400 y400 z400 st400 hQ400
  subst l400 y400 z400
  obtain ⟨hv400, rfl, e400⟩ := hQ400
  have N400 := Fr.app N395 (Fr.nil n0)
  obtain rfl := own_eq1 hv400 rfl
  refine own_via st400 ?_
  show own_Fin p e below _ (T400.setTop (mkF m 27 #[.val (.ref mp), .val (.ref x), .val (.ref y), .val (.int (1 : Int32)), .val (.ref y)] [(.int (1 : Int32))]))
  refine own_on (fun tq => XS.ifNo X400.here hx rfl (hb hby d15_27) rfl ((if0 _ _).trans (feq (by decide : ¬ ((1 : Int32) = (0 : Int32)))).1)) ?_
  show own_Fin p e below _ (T400.setTop (mkF m 30 #[.val (.ref mp), .val (.ref x), .val (.ref y), .val (.int (1 : Int32)), .val (.ref y)] []))
  refine own_on (fun tq => XS.iconst X400.here hx rfl (hb hby d15_30)) ?_
  show own_Fin p e below _ (T400.setTop (mkF m 31 #[.val (.ref mp), .val (.ref x), .val (.ref y), .val (.int (1 : Int32)), .val (.ref y)] [(.int (1 : Int32))]))
  refine own_on (fun tq => XS.goto X400.here hx rfl (pc0 := 31) (pc' := 35) rfl (hb hby d15_31) (by decide) (by decide)) ?_
  show own_Fin p e below _ (T400.setTop (mkF m 35 #[.val (.ref mp), .val (.ref x), .val (.ref y), .val (.int (1 : Int32)), .val (.ref y)] [(.int (1 : Int32))]))
  exact own_ret (t := .boolean) X400 hx hlk hret rfl (Or.inl ⟨rfl, (by simp), _, rfl⟩) (hb hby d15_35) (by show QH31 Z mp x y z a ka ke0 ke1 ke2 u0 u1 u2 c0 c1 c2 t_ke0 k_ke0 t_ke1 k_ke1 t_ke2 k_ke2 t_x k_x c t_y k_y d h0 n0 _ T400.heap _; rw [e400]; exact ⟨rfl, N400, y396⟩) (by decide) (by decide)
theorem pd_15 : parseMethodDescriptor "(C)Ljava/lang/String;" = some ⟨[.char], some (.object "java/lang/String")⟩ := by decide +kernel
theorem pd_16 : parseMethodDescriptor "([Ljava/lang/String;)Ljava/util/Map;" = some ⟨[(.array (.object "java/lang/String"))], some (.object "java/util/Map")⟩ := by decide +kernel
theorem pd_17 : parseMethodDescriptor "(Ljava/util/Map;Ljava/lang/String;Ljava/lang/String;Z)Z" = some ⟨[(.object "java/util/Map"), (.object "java/lang/String"), (.object "java/lang/String"), .boolean], some .boolean⟩ := by decide +kernel
theorem ef_rm0 (m : MethodId) (x0 : Int32) (x1 : Int32) (x2 : Int32) : entryFrame m #[(.int x0), (.int x1), (.int x2)] maxLocals = mkF m 0 #[.val (.int x0), .val (.int x1), .val (.int x2), .unset, .unset, .unset, .unset, .unset, .unset, .unset, .unset, .unset, .unset, .unset, .unset] [] := by first | (simp [entryFrame, mkF, argsToLocals, Value.category, maxLocals]; done) | rfl
def Q0 (Z : State) (p1 : Int32) (p2 : Int32) (p3 : Int32) (z : Int32) (h0 : Heap) (n0 : Nat) (v : Option Value) (h : Heap) (L : List Loc) : Prop := v = some (.int 1) ∧ Fr n0 L
set_option maxRecDepth 65536 in
set_option maxHeartbeats 40000000 in
theorem rm0 (l : Launch) (Z : State) (a0 : Array Value) (hw : ∀ d ∈ tables_1, d.before a0 Z = true) (ws : List Jvm.Cond) (p1 : Int32) (p2 : Int32) (p3 : Int32) (z : Int32) (h0 : Heap) (n0 : Nat) (Z0 : n0 ≤ h0.size) (hz : ¬ z = (0 : Int32)) (O : Old Z n0 h0) (SC : Sta Z Z.heap "java/lang/String" "COMPACT_STRINGS" "Z" (.int z)) :
    MetFree l x (head1 (Jvm.Cond.code x code maxLocals ret :: ws) room_1) (fun as_ U => as_ = #[(.int p1), (.int p2), (.int p3)] ∧ Z.Warmed39 U.vm ∧ U.heap = h0) (fun _ _ _ _ _ => True) (fun _ U out_ U' => ∃ v L, out_ = .returned v ∧ Q0 Z p1 p2 p3 z h0 n0 v U'.heap L ∧ FrameEnd U out_ U' L room_1.cells room_1.slots) := by
  refine MetFree.of_bodySF (plainFor_of_name pn_10) hisR ?_
  intro p e s m args below meth cd s₁ Bd hml0 hP hK
  obtain ⟨rfl, hZ, hh⟩ := hP
  have hx := Bd.exec
  have hby := Bd.bytes
  have hml : cd.maxLocals = 15 := hml0
  have hlk : meth.locks = false := BodyLoose.notSynchronized Bd
  have hown : s.vm.findClass "com/example/settlewatt/settlewatt/model/TraceRecordInputsOfPinLaw" = some m.cls := findClass_of_methodNamed Bd.named
  have hnm := (name_of_methodNamed Bd.named Bd.method).1
  have hret := Bd.returns
  have X0 : Stand p l e room_1 s m #[(.int p1), (.int p2), (.int p3)] below meth cd s₁ [] 0 0 := Stand.of_body Bd
  have e0 : s₁.heap = h0 := by rw [← hh, Bd.state]; rfl
  have N0 := Fr.nil n0
  show own_Fin p e below (own_Ans s (Q0 Z p1 p2 p3 z h0 n0) room_1.cells room_1.slots) (s₁.setTop (entryFrame m #[(.int p1), (.int p2), (.int p3)] maxLocals))
  refine own_cast (ef_rm0 m p1 p2 p3) ?_
  show own_Fin p e below _ (s₁.setTop (mkF m 0 #[.val (.int p1), .val (.int p2), .val (.int p3), .unset, .unset, .unset, .unset, .unset, .unset, .unset, .unset, .unset, .unset, .unset, .unset] []))
  refine own_on (fun tq => XS.iloadN X0.here hx rfl (hb hby at_0) rfl) ?_
  show own_Fin p e below _ (s₁.setTop (mkF m 1 #[.val (.int p1), .val (.int p2), .val (.int p3), .unset, .unset, .unset, .unset, .unset, .unset, .unset, .unset, .unset, .unset, .unset, .unset] [(.int p1)]))
  refine own_on (fun tq => XS.sipush X0.here hx rfl (hb hby at_1)) ?_
  show own_Fin p e below _ (s₁.setTop (mkF m 4 #[.val (.int p1), .val (.int p2), .val (.int p3), .unset, .unset, .unset, .unset, .unset, .unset, .unset, .unset, .unset, .unset, .unset, .unset] [(.int (255 : Int32)), (.int p1)]))
  refine own_on (fun tq => XS.iand X0.here hx rfl (hb hby at_4) rfl) ?_
  show own_Fin p e below _ (s₁.setTop (mkF m 5 #[.val (.int p1), .val (.int p2), .val (.int p3), .unset, .unset, .unset, .unset, .unset, .unset, .unset, .unset, .unset, .unset, .unset, .unset] [(.int (p1 &&& (255 : Int32)))]))
  refine own_on (fun tq => XS.i2c X0.here hx rfl (hb hby at_5) rfl) ?_
  show own_Fin p e below _ (s₁.setTop (mkF m 6 #[.val (.int p1), .val (.int p2), .val (.int p3), .unset, .unset, .unset, .unset, .unset, .unset, .unset, .unset, .unset, .unset, .unset, .unset] [(.int ((p1 &&& (255 : Int32)).toUInt32.toUInt16.toUInt32.toInt32))]))
  obtain ⟨c0, hc0⟩ : ∃ q : Int32, q = ((p1 &&& (255 : Int32)).toUInt32.toUInt16.toUInt32.toInt32) := ⟨_, rfl⟩
  have rc0 : ¬ c0 < 0 ∧ ¬ (255 : Int32) < c0 := hc0 ▸ own_c255 _
  rw [← hc0]
  show own_Fin p e below _ (s₁.setTop (mkF m 6 #[.val (.int p1), .val (.int p2), .val (.int p3), .unset, .unset, .unset, .unset, .unset, .unset, .unset, .unset, .unset, .unset, .unset, .unset] [(.int c0)]))
  refine own_on (fun tq => XS.istoreN X0.here hx rfl (hb hby at_6) rfl (l' := #[.val (.int p1), .val (.int p2), .val (.int p3), .val (.int c0), .unset, .unset, .unset, .unset, .unset, .unset, .unset, .unset, .unset, .unset, .unset]) rfl) ?_
  show own_Fin p e below _ (s₁.setTop (mkF m 7 #[.val (.int p1), .val (.int p2), .val (.int p3), .val (.int c0), .unset, .unset, .unset, .unset, .unset, .unset, .unset, .unset, .unset, .unset, .unset] []))
  refine own_on (fun tq => XS.iloadN X0.here hx rfl (hb hby at_7) rfl) ?_
  show own_Fin p e below _ (s₁.setTop (mkF m 8 #[.val (.int p1), .val (.int p2), .val (.int p3), .val (.int c0), .unset, .unset, .unset, .unset, .unset, .unset, .unset, .unset, .unset, .unset, .unset] [(.int p1)]))
  refine own_on (fun tq => XS.bipush X0.here hx rfl (hb hby at_8)) ?_
  show own_Fin p e below _ (s₁.setTop (mkF m 10 #[.val (.int p1), .val (.int p2), .val (.int p3), .val (.int c0), .unset, .unset, .unset, .unset, .unset, .unset, .unset, .unset, .unset, .unset, .unset] [(.int (8 : Int32)), (.int p1)]))
  refine own_on (fun tq => XS.iushr X0.here hx rfl (hb hby at_10) rfl) ?_
  show own_Fin p e below _ (s₁.setTop (mkF m 11 #[.val (.int p1), .val (.int p2), .val (.int p3), .val (.int c0), .unset, .unset, .unset, .unset, .unset, .unset, .unset, .unset, .unset, .unset, .unset] [(.int ((p1.toUInt32 >>> ((8 : Int32) &&& 31).toUInt32).toInt32))]))
  refine own_on (fun tq => XS.sipush X0.here hx rfl (hb hby at_11)) ?_
  show own_Fin p e below _ (s₁.setTop (mkF m 14 #[.val (.int p1), .val (.int p2), .val (.int p3), .val (.int c0), .unset, .unset, .unset, .unset, .unset, .unset, .unset, .unset, .unset, .unset, .unset] [(.int (255 : Int32)), (.int ((p1.toUInt32 >>> ((8 : Int32) &&& 31).toUInt32).toInt32))]))
  refine own_on (fun tq => XS.iand X0.here hx rfl (hb hby at_14) rfl) ?_
  show own_Fin p e below _ (s₁.setTop (mkF m 15 #[.val (.int p1), .val (.int p2), .val (.int p3), .val (.int c0), .unset, .unset, .unset, .unset, .unset, .unset, .unset, .unset, .unset, .unset, .unset] [(.int (((p1.toUInt32 >>> ((8 : Int32) &&& 31).toUInt32).toInt32) &&& (255 : Int32)))]))
  refine own_on (fun tq => XS.i2c X0.here hx rfl (hb hby at_15) rfl) ?_
  show own_Fin p e below _ (s₁.setTop (mkF m 16 #[.val (.int p1), .val (.int p2), .val (.int p3), .val (.int c0), .unset, .unset, .unset, .unset, .unset, .unset, .unset, .unset, .unset, .unset, .unset] [(.int ((((p1.toUInt32 >>> ((8 : Int32) &&& 31).toUInt32).toInt32) &&& (255 : Int32)).toUInt32.toUInt16.toUInt32.toInt32))]))
  obtain ⟨c1, hc1⟩ : ∃ q : Int32, q = ((((p1.toUInt32 >>> ((8 : Int32) &&& 31).toUInt32).toInt32) &&& (255 : Int32)).toUInt32.toUInt16.toUInt32.toInt32) := ⟨_, rfl⟩
  have rc1 : ¬ c1 < 0 ∧ ¬ (255 : Int32) < c1 := hc1 ▸ own_c255 _
  rw [← hc1]
  show own_Fin p e below _ (s₁.setTop (mkF m 16 #[.val (.int p1), .val (.int p2), .val (.int p3), .val (.int c0), .unset, .unset, .unset, .unset, .unset, .unset, .unset, .unset, .unset, .unset, .unset] [(.int c1)]))
  refine own_on (fun tq => XS.istore X0.here hx rfl (hb hby at_16) rfl (l' := #[.val (.int p1), .val (.int p2), .val (.int p3), .val (.int c0), .val (.int c1), .unset, .unset, .unset, .unset, .unset, .unset, .unset, .unset, .unset, .unset]) rfl) ?_
  show own_Fin p e below _ (s₁.setTop (mkF m 18 #[.val (.int p1), .val (.int p2), .val (.int p3), .val (.int c0), .val (.int c1), .unset, .unset, .unset, .unset, .unset, .unset, .unset, .unset, .unset, .unset] []))
  refine own_on (fun tq => XS.iloadN X0.here hx rfl (hb hby at_18) rfl) ?_
  show own_Fin p e below _ (s₁.setTop (mkF m 19 #[.val (.int p1), .val (.int p2), .val (.int p3), .val (.int c0), .val (.int c1), .unset, .unset, .unset, .unset, .unset, .unset, .unset, .unset, .unset, .unset] [(.int p1)]))
  refine own_on (fun tq => XS.bipush X0.here hx rfl (hb hby at_19)) ?_
  show own_Fin p e below _ (s₁.setTop (mkF m 21 #[.val (.int p1), .val (.int p2), .val (.int p3), .val (.int c0), .val (.int c1), .unset, .unset, .unset, .unset, .unset, .unset, .unset, .unset, .unset, .unset] [(.int (16 : Int32)), (.int p1)]))
  refine own_on (fun tq => XS.iushr X0.here hx rfl (hb hby at_21) rfl) ?_
  show own_Fin p e below _ (s₁.setTop (mkF m 22 #[.val (.int p1), .val (.int p2), .val (.int p3), .val (.int c0), .val (.int c1), .unset, .unset, .unset, .unset, .unset, .unset, .unset, .unset, .unset, .unset] [(.int ((p1.toUInt32 >>> ((16 : Int32) &&& 31).toUInt32).toInt32))]))
  refine own_on (fun tq => XS.sipush X0.here hx rfl (hb hby at_22)) ?_
  show own_Fin p e below _ (s₁.setTop (mkF m 25 #[.val (.int p1), .val (.int p2), .val (.int p3), .val (.int c0), .val (.int c1), .unset, .unset, .unset, .unset, .unset, .unset, .unset, .unset, .unset, .unset] [(.int (255 : Int32)), (.int ((p1.toUInt32 >>> ((16 : Int32) &&& 31).toUInt32).toInt32))]))
  refine own_on (fun tq => XS.iand X0.here hx rfl (hb hby at_25) rfl) ?_
  show own_Fin p e below _ (s₁.setTop (mkF m 26 #[.val (.int p1), .val (.int p2), .val (.int p3), .val (.int c0), .val (.int c1), .unset, .unset, .unset, .unset, .unset, .unset, .unset, .unset, .unset, .unset] [(.int (((p1.toUInt32 >>> ((16 : Int32) &&& 31).toUInt32).toInt32) &&& (255 : Int32)))]))
  refine own_on (fun tq => XS.i2c X0.here hx rfl (hb hby at_26) rfl) ?_
  show own_Fin p e below _ (s₁.setTop (mkF m 27 #[.val (.int p1), .val (.int p2), .val (.int p3), .val (.int c0), .val (.int c1), .unset, .unset, .unset, .unset, .unset, .unset, .unset, .unset, .unset, .unset] [(.int ((((p1.toUInt32 >>> ((16 : Int32) &&& 31).toUInt32).toInt32) &&& (255 : Int32)).toUInt32.toUInt16.toUInt32.toInt32))]))
  obtain ⟨c2, hc2⟩ : ∃ q : Int32, q = ((((p1.toUInt32 >>> ((16 : Int32) &&& 31).toUInt32).toInt32) &&& (255 : Int32)).toUInt32.toUInt16.toUInt32.toInt32) := ⟨_, rfl⟩
  have rc2 : ¬ c2 < 0 ∧ ¬ (255 : Int32) < c2 := hc2 ▸ own_c255 _
  rw [← hc2]
  show own_Fin p e below _ (s₁.setTop (mkF m 27 #[.val (.int p1), .val (.int p2), .val (.int p3), .val (.int c0), .val (.int c1), .unset, .unset, .unset, .unset, .unset, .unset, .unset, .unset, .unset, .unset] [(.int c2)]))
  refine own_on (fun tq => XS.istore X0.here hx rfl (hb hby at_27) rfl (l' := #[.val (.int p1), .val (.int p2), .val (.int p3), .val (.int c0), .val (.int c1), .val (.int c2), .unset, .unset, .unset, .unset, .unset, .unset, .unset, .unset, .unset]) rfl) ?_
  show own_Fin p e below _ (s₁.setTop (mkF m 29 #[.val (.int p1), .val (.int p2), .val (.int p3), .val (.int c0), .val (.int c1), .val (.int c2), .unset, .unset, .unset, .unset, .unset, .unset, .unset, .unset, .unset] []))
  refine own_on (fun tq => XS.iloadN X0.here hx rfl (hb hby at_29) rfl) ?_
  show own_Fin p e below _ (s₁.setTop (mkF m 30 #[.val (.int p1), .val (.int p2), .val (.int p3), .val (.int c0), .val (.int c1), .val (.int c2), .unset, .unset, .unset, .unset, .unset, .unset, .unset, .unset, .unset] [(.int c0)]))
  refine own_on (fun tq => XS.iload X0.here hx rfl (hb hby at_30) rfl) ?_
  show own_Fin p e below _ (s₁.setTop (mkF m 32 #[.val (.int p1), .val (.int p2), .val (.int p3), .val (.int c0), .val (.int c1), .val (.int c2), .unset, .unset, .unset, .unset, .unset, .unset, .unset, .unset, .unset] [(.int c1), (.int c0)]))
  by_cases hc401 : c0 = c1
  · refine own_on (fun tq => XS.icmpYes X0.here hx rfl (pc0 := 32) (pc' := 48) rfl (hb hby at_32) rfl (teq hc401).1 (by decide) (by decide)) ?_
    show own_Fin p e below _ (s₁.setTop (mkF m 48 #[.val (.int p1), .val (.int p2), .val (.int p3), .val (.int c0), .val (.int c1), .val (.int c2), .unset, .unset, .unset, .unset, .unset, .unset, .unset, .unset, .unset] []))
    refine own_on (fun tq => XS.iconst X0.here hx rfl (hb hby at_48)) ?_
    show own_Fin p e below _ (s₁.setTop (mkF m 49 #[.val (.int p1), .val (.int p2), .val (.int p3), .val (.int c0), .val (.int c1), .val (.int c2), .unset, .unset, .unset, .unset, .unset, .unset, .unset, .unset, .unset] [(.int (1 : Int32))]))
    exact own_ret (t := .boolean) X0 hx hlk hret rfl (Or.inl ⟨rfl, (by simp), _, rfl⟩) (hb hby at_49) (⟨rfl, N0⟩) (by decide) (by decide)
  · refine own_on (fun tq => XS.icmpNo X0.here hx rfl (hb hby at_32) rfl (feq hc401).1) ?_
    show own_Fin p e below _ (s₁.setTop (mkF m 35 #[.val (.int p1), .val (.int p2), .val (.int p3), .val (.int c0), .val (.int c1), .val (.int c2), .unset, .unset, .unset, .unset, .unset, .unset, .unset, .unset, .unset] []))
    refine own_on (fun tq => XS.iloadN X0.here hx rfl (hb hby at_35) rfl) ?_
    show own_Fin p e below _ (s₁.setTop (mkF m 36 #[.val (.int p1), .val (.int p2), .val (.int p3), .val (.int c0), .val (.int c1), .val (.int c2), .unset, .unset, .unset, .unset, .unset, .unset, .unset, .unset, .unset] [(.int c0)]))
    refine own_on (fun tq => XS.iload X0.here hx rfl (hb hby at_36) rfl) ?_
    show own_Fin p e below _ (s₁.setTop (mkF m 38 #[.val (.int p1), .val (.int p2), .val (.int p3), .val (.int c0), .val (.int c1), .val (.int c2), .unset, .unset, .unset, .unset, .unset, .unset, .unset, .unset, .unset] [(.int c2), (.int c0)]))
    by_cases hc402 : c0 = c2
    · refine own_on (fun tq => XS.icmpYes X0.here hx rfl (pc0 := 38) (pc' := 48) rfl (hb hby at_38) rfl (teq hc402).1 (by decide) (by decide)) ?_
      show own_Fin p e below _ (s₁.setTop (mkF m 48 #[.val (.int p1), .val (.int p2), .val (.int p3), .val (.int c0), .val (.int c1), .val (.int c2), .unset, .unset, .unset, .unset, .unset, .unset, .unset, .unset, .unset] []))
      refine own_on (fun tq => XS.iconst X0.here hx rfl (hb hby at_48)) ?_
      show own_Fin p e below _ (s₁.setTop (mkF m 49 #[.val (.int p1), .val (.int p2), .val (.int p3), .val (.int c0), .val (.int c1), .val (.int c2), .unset, .unset, .unset, .unset, .unset, .unset, .unset, .unset, .unset] [(.int (1 : Int32))]))
      exact own_ret (t := .boolean) X0 hx hlk hret rfl (Or.inl ⟨rfl, (by simp), _, rfl⟩) (hb hby at_49) (⟨rfl, N0⟩) (by decide) (by decide)
    · refine own_on (fun tq => XS.icmpNo X0.here hx rfl (hb hby at_38) rfl (feq hc402).1) ?_
      show own_Fin p e below _ (s₁.setTop (mkF m 41 #[.val (.int p1), .val (.int p2), .val (.int p3), .val (.int c0), .val (.int c1), .val (.int c2), .unset, .unset, .unset, .unset, .unset, .unset, .unset, .unset, .unset] []))
      refine own_on (fun tq => XS.iload X0.here hx rfl (hb hby at_41) rfl) ?_
      show own_Fin p e below _ (s₁.setTop (mkF m 43 #[.val (.int p1), .val (.int p2), .val (.int p3), .val (.int c0), .val (.int c1), .val (.int c2), .unset, .unset, .unset, .unset, .unset, .unset, .unset, .unset, .unset] [(.int c1)]))
      refine own_on (fun tq => XS.iload X0.here hx rfl (hb hby at_43) rfl) ?_
      show own_Fin p e below _ (s₁.setTop (mkF m 45 #[.val (.int p1), .val (.int p2), .val (.int p3), .val (.int c0), .val (.int c1), .val (.int c2), .unset, .unset, .unset, .unset, .unset, .unset, .unset, .unset, .unset] [(.int c2), (.int c1)]))
      by_cases hc403 : c1 = c2
      · refine own_on (fun tq => XS.icmpNo X0.here hx rfl (hb hby at_45) rfl (teq hc403).2) ?_
        show own_Fin p e below _ (s₁.setTop (mkF m 48 #[.val (.int p1), .val (.int p2), .val (.int p3), .val (.int c0), .val (.int c1), .val (.int c2), .unset, .unset, .unset, .unset, .unset, .unset, .unset, .unset, .unset] []))
        refine own_on (fun tq => XS.iconst X0.here hx rfl (hb hby at_48)) ?_
        show own_Fin p e below _ (s₁.setTop (mkF m 49 #[.val (.int p1), .val (.int p2), .val (.int p3), .val (.int c0), .val (.int c1), .val (.int c2), .unset, .unset, .unset, .unset, .unset, .unset, .unset, .unset, .unset] [(.int (1 : Int32))]))
        exact own_ret (t := .boolean) X0 hx hlk hret rfl (Or.inl ⟨rfl, (by simp), _, rfl⟩) (hb hby at_49) (⟨rfl, N0⟩) (by decide) (by decide)
      · refine own_on (fun tq => XS.icmpYes X0.here hx rfl (pc0 := 45) (pc' := 50) rfl (hb hby at_45) rfl (feq hc403).2 (by decide) (by decide)) ?_
        show own_Fin p e below _ (s₁.setTop (mkF m 50 #[.val (.int p1), .val (.int p2), .val (.int p3), .val (.int c0), .val (.int c1), .val (.int c2), .unset, .unset, .unset, .unset, .unset, .unset, .unset, .unset, .unset] []))
        refine own_on (fun tq => XS.iloadN X0.here hx rfl (hb hby at_50) rfl) ?_
        show own_Fin p e below _ (s₁.setTop (mkF m 51 #[.val (.int p1), .val (.int p2), .val (.int p3), .val (.int c0), .val (.int c1), .val (.int c2), .unset, .unset, .unset, .unset, .unset, .unset, .unset, .unset, .unset] [(.int c0)]))
        obtain ⟨_, _, ⟨T404, L404, k404, n404⟩, -, X404, ⟨Lc404, hQ404, l404, y404, z404⟩, st404⟩ := Jvm.LawKit.callS X0 hx (y := (⟨"java/lang/String", "valueOf", "(C)Ljava/lang/String;"⟩ : MethodName)) hown (mvT hZ (hw _ (List.mem_of_getElem? (i := 0) rfl))) (mvT hZ (hw _ (List.mem_of_getElem? (i := 1) rfl))) (mvT hZ (hw _ (List.mem_of_getElem? (i := 2) rfl))) (mvT hZ (hw _ (List.mem_of_getElem? (i := 3) rfl))) (by decide) (backOf (W := 0) (rm1 l Z a0 hw [] c0 z h0 n0 (by exact Z0) rc0.2 hz O SC) hZ (hw _ (List.mem_of_getElem? (i := 3) rfl)) (hw _ (List.mem_of_getElem? (i := 2) rfl)) (by decide) (by decide)) (g := (mkF m 51 #[.val (.int p1), .val (.int p2), .val (.int p3), .val (.int c0), .val (.int c1), .val (.int c2), .unset, .unset, .unset, .unset, .unset, .unset, .unset, .unset, .unset] [(.int c0)])) rfl (by rw [hml]; rfl) (argsL := [(.int c0)]) (rest := []) (lenOf pd_15 rfl) rfl (by show 2 * 0 + _ ≤ _; exact Nat.le_of_eq rfl) (hb hby at_51) (fun _ _ => ⟨rfl, e0, (by decide : 0 + 2 ≤ _), (by decide : 0 + 5 ≤ _)⟩)
        dsimp only [Pt.U, Pt.locs, Pt.cells, Pt.slots] at X404 l404 y404 z404 st404 hQ404
        subst l404 y404 z404
        obtain ⟨xc0, t404, kt404, rfl, N404q, K404, Eq404, Cq404, Vq404, Aq404⟩ := hQ404
        have N404 := Fr.app N0 N404q
        have y405 := (O.keep K404 all0)
        have y406 := (Nat.le_trans Z0 K404.1)
        have rg407 : ∀ q_ ∈ [c0], ¬ q_ < 0 ∧ ¬ (255 : Int32) < q_ := List.forall_mem_cons.mpr ⟨rc0, fun _ q => nomatch q⟩
        refine own_on st404 ?_
        show own_Fin p e below _ (T404.setTop (mkF m 54 #[.val (.int p1), .val (.int p2), .val (.int p3), .val (.int c0), .val (.int c1), .val (.int c2), .unset, .unset, .unset, .unset, .unset, .unset, .unset, .unset, .unset] [(.ref xc0)]))
        refine own_on (fun tq => XS.astore X404.here hx rfl (hb hby at_54) rfl rfl (l' := #[.val (.int p1), .val (.int p2), .val (.int p3), .val (.int c0), .val (.int c1), .val (.int c2), .val (.ref xc0), .unset, .unset, .unset, .unset, .unset, .unset, .unset, .unset]) rfl) ?_
        show own_Fin p e below _ (T404.setTop (mkF m 56 #[.val (.int p1), .val (.int p2), .val (.int p3), .val (.int c0), .val (.int c1), .val (.int c2), .val (.ref xc0), .unset, .unset, .unset, .unset, .unset, .unset, .unset, .unset] []))
        refine own_on (fun tq => XS.iload X404.here hx rfl (hb hby at_56) rfl) ?_
        show own_Fin p e below _ (T404.setTop (mkF m 58 #[.val (.int p1), .val (.int p2), .val (.int p3), .val (.int c0), .val (.int c1), .val (.int c2), .val (.ref xc0), .unset, .unset, .unset, .unset, .unset, .unset, .unset, .unset] [(.int c1)]))
        obtain ⟨_, _, ⟨T408, L408, k408, n408⟩, -, X408, ⟨Lc408, hQ408, l408, y408, z408⟩, st408⟩ := Jvm.LawKit.callS X404 hx (y := (⟨"java/lang/String", "valueOf", "(C)Ljava/lang/String;"⟩ : MethodName)) hown (mvT hZ (hw _ (List.mem_of_getElem? (i := 0) rfl))) (mvT hZ (hw _ (List.mem_of_getElem? (i := 1) rfl))) (mvT hZ (hw _ (List.mem_of_getElem? (i := 2) rfl))) (mvT hZ (hw _ (List.mem_of_getElem? (i := 3) rfl))) (by decide) (backOf (W := 0) (rm1 l Z a0 hw [] c1 z T404.heap n0 (by exact y406) rc1.2 hz y405 SC) hZ (hw _ (List.mem_of_getElem? (i := 3) rfl)) (hw _ (List.mem_of_getElem? (i := 2) rfl)) (by decide) (by decide)) (g := (mkF m 58 #[.val (.int p1), .val (.int p2), .val (.int p3), .val (.int c0), .val (.int c1), .val (.int c2), .val (.ref xc0), .unset, .unset, .unset, .unset, .unset, .unset, .unset, .unset] [(.int c1)])) rfl (by rw [hml]; rfl) (argsL := [(.int c1)]) (rest := []) (lenOf pd_15 rfl) rfl (by show 2 * 0 + _ ≤ _; exact Nat.le_of_eq rfl) (hb hby at_58) (fun _ _ => ⟨rfl, rfl, (by decide : 2 + 2 ≤ _), (by decide : 5 + 5 ≤ _)⟩)
        dsimp only [Pt.U, Pt.locs, Pt.cells, Pt.slots] at X408 l408 y408 z408 st408 hQ408
        subst l408 y408 z408
        obtain ⟨xc1, t408, kt408, rfl, N408q, K408, Eq408, Cq408, Vq408, Aq408⟩ := hQ408
        have N408 := Fr.app N404 N408q
        have y409 := (y405.keep K408 all0)
        have y410 := (Nat.le_trans y406 K408.1)
        have y411 := (Eq404.keep K408)
        have y412 := (Cq404.keep K408 nin0)
        have y413 := (Vq404.keep K408 nin0)
        have y414 := (Aq404.keep K408 nin0)
        have rg415 : ∀ q_ ∈ [c1], ¬ q_ < 0 ∧ ¬ (255 : Int32) < q_ := List.forall_mem_cons.mpr ⟨rc1, fun _ q => nomatch q⟩
        refine own_on st408 ?_
        show own_Fin p e below _ (T408.setTop (mkF m 61 #[.val (.int p1), .val (.int p2), .val (.int p3), .val (.int c0), .val (.int c1), .val (.int c2), .val (.ref xc0), .unset, .unset, .unset, .unset, .unset, .unset, .unset, .unset] [(.ref xc1)]))
        refine own_on (fun tq => XS.astore X408.here hx rfl (hb hby at_61) rfl rfl (l' := #[.val (.int p1), .val (.int p2), .val (.int p3), .val (.int c0), .val (.int c1), .val (.int c2), .val (.ref xc0), .val (.ref xc1), .unset, .unset, .unset, .unset, .unset, .unset, .unset]) rfl) ?_
        show own_Fin p e below _ (T408.setTop (mkF m 63 #[.val (.int p1), .val (.int p2), .val (.int p3), .val (.int c0), .val (.int c1), .val (.int c2), .val (.ref xc0), .val (.ref xc1), .unset, .unset, .unset, .unset, .unset, .unset, .unset] []))
        refine own_on (fun tq => XS.iload X408.here hx rfl (hb hby at_63) rfl) ?_
        show own_Fin p e below _ (T408.setTop (mkF m 65 #[.val (.int p1), .val (.int p2), .val (.int p3), .val (.int c0), .val (.int c1), .val (.int c2), .val (.ref xc0), .val (.ref xc1), .unset, .unset, .unset, .unset, .unset, .unset, .unset] [(.int c2)]))
        obtain ⟨_, _, ⟨T416, L416, k416, n416⟩, -, X416, ⟨Lc416, hQ416, l416, y416, z416⟩, st416⟩ := Jvm.LawKit.callS X408 hx (y := (⟨"java/lang/String", "valueOf", "(C)Ljava/lang/String;"⟩ : MethodName)) hown (mvT hZ (hw _ (List.mem_of_getElem? (i := 0) rfl))) (mvT hZ (hw _ (List.mem_of_getElem? (i := 1) rfl))) (mvT hZ (hw _ (List.mem_of_getElem? (i := 2) rfl))) (mvT hZ (hw _ (List.mem_of_getElem? (i := 3) rfl))) (by decide) (backOf (W := 0) (rm1 l Z a0 hw [] c2 z T408.heap n0 (by exact y410) rc2.2 hz y409 SC) hZ (hw _ (List.mem_of_getElem? (i := 3) rfl)) (hw _ (List.mem_of_getElem? (i := 2) rfl)) (by decide) (by decide)) (g := (mkF m 65 #[.val (.int p1), .val (.int p2), .val (.int p3), .val (.int c0), .val (.int c1), .val (.int c2), .val (.ref xc0), .val (.ref xc1), .unset, .unset, .unset, .unset, .unset, .unset, .unset] [(.int c2)])) rfl (by rw [hml]; rfl) (argsL := [(.int c2)]) (rest := []) (lenOf pd_15 rfl) rfl (by show 2 * 0 + _ ≤ _; exact Nat.le_of_eq rfl) (hb hby at_65) (fun _ _ => ⟨rfl, rfl, (by decide : 4 + 2 ≤ _), (by decide : 10 + 5 ≤ _)⟩)
        dsimp only [Pt.U, Pt.locs, Pt.cells, Pt.slots] at X416 l416 y416 z416 st416 hQ416
        subst l416 y416 z416
        obtain ⟨xc2, t416, kt416, rfl, N416q, K416, Eq416, Cq416, Vq416, Aq416⟩ := hQ416
        have N416 := Fr.app N408 N416q
        have y417 := (y409.keep K416 all0)
        have y418 := (Nat.le_trans y410 K416.1)
        have y419 := (y411.keep K416)
        have y420 := (y412.keep K416 nin0)
        have y421 := (y413.keep K416 nin0)
        have y422 := (y414.keep K416 nin0)
        have y423 := (Eq408.keep K416)
        have y424 := (Cq408.keep K416 nin0)
        have y425 := (Vq408.keep K416 nin0)
        have y426 := (Aq408.keep K416 nin0)
        have rg427 : ∀ q_ ∈ [c2], ¬ q_ < 0 ∧ ¬ (255 : Int32) < q_ := List.forall_mem_cons.mpr ⟨rc2, fun _ q => nomatch q⟩
        refine own_on st416 ?_
        show own_Fin p e below _ (T416.setTop (mkF m 68 #[.val (.int p1), .val (.int p2), .val (.int p3), .val (.int c0), .val (.int c1), .val (.int c2), .val (.ref xc0), .val (.ref xc1), .unset, .unset, .unset, .unset, .unset, .unset, .unset] [(.ref xc2)]))
        refine own_on (fun tq => XS.astore X416.here hx rfl (hb hby at_68) rfl rfl (l' := #[.val (.int p1), .val (.int p2), .val (.int p3), .val (.int c0), .val (.int c1), .val (.int c2), .val (.ref xc0), .val (.ref xc1), .val (.ref xc2), .unset, .unset, .unset, .unset, .unset, .unset]) rfl) ?_
        show own_Fin p e below _ (T416.setTop (mkF m 70 #[.val (.int p1), .val (.int p2), .val (.int p3), .val (.int c0), .val (.int c1), .val (.int c2), .val (.ref xc0), .val (.ref xc1), .val (.ref xc2), .unset, .unset, .unset, .unset, .unset, .unset] []))
        refine own_on (fun tq => XS.iloadN X416.here hx rfl (hb hby at_70) rfl) ?_
        show own_Fin p e below _ (T416.setTop (mkF m 71 #[.val (.int p1), .val (.int p2), .val (.int p3), .val (.int c0), .val (.int c1), .val (.int c2), .val (.ref xc0), .val (.ref xc1), .val (.ref xc2), .unset, .unset, .unset, .unset, .unset, .unset] [(.int p2)]))
        refine own_on (fun tq => XS.sipush X416.here hx rfl (hb hby at_71)) ?_
        show own_Fin p e below _ (T416.setTop (mkF m 74 #[.val (.int p1), .val (.int p2), .val (.int p3), .val (.int c0), .val (.int c1), .val (.int c2), .val (.ref xc0), .val (.ref xc1), .val (.ref xc2), .unset, .unset, .unset, .unset, .unset, .unset] [(.int (255 : Int32)), (.int p2)]))
        refine own_on (fun tq => XS.iand X416.here hx rfl (hb hby at_74) rfl) ?_
        show own_Fin p e below _ (T416.setTop (mkF m 75 #[.val (.int p1), .val (.int p2), .val (.int p3), .val (.int c0), .val (.int c1), .val (.int c2), .val (.ref xc0), .val (.ref xc1), .val (.ref xc2), .unset, .unset, .unset, .unset, .unset, .unset] [(.int (p2 &&& (255 : Int32)))]))
        refine own_on (fun tq => XS.i2c X416.here hx rfl (hb hby at_75) rfl) ?_
        show own_Fin p e below _ (T416.setTop (mkF m 76 #[.val (.int p1), .val (.int p2), .val (.int p3), .val (.int c0), .val (.int c1), .val (.int c2), .val (.ref xc0), .val (.ref xc1), .val (.ref xc2), .unset, .unset, .unset, .unset, .unset, .unset] [(.int ((p2 &&& (255 : Int32)).toUInt32.toUInt16.toUInt32.toInt32))]))
        obtain ⟨d0, hd0⟩ : ∃ q : Int32, q = ((p2 &&& (255 : Int32)).toUInt32.toUInt16.toUInt32.toInt32) := ⟨_, rfl⟩
        have rd0 : ¬ d0 < 0 ∧ ¬ (255 : Int32) < d0 := hd0 ▸ own_c255 _
        rw [← hd0]
        show own_Fin p e below _ (T416.setTop (mkF m 76 #[.val (.int p1), .val (.int p2), .val (.int p3), .val (.int c0), .val (.int c1), .val (.int c2), .val (.ref xc0), .val (.ref xc1), .val (.ref xc2), .unset, .unset, .unset, .unset, .unset, .unset] [(.int d0)]))
        obtain ⟨_, _, ⟨T428, L428, k428, n428⟩, -, X428, ⟨Lc428, hQ428, l428, y428, z428⟩, st428⟩ := Jvm.LawKit.callS X416 hx (y := (⟨"java/lang/String", "valueOf", "(C)Ljava/lang/String;"⟩ : MethodName)) hown (mvT hZ (hw _ (List.mem_of_getElem? (i := 0) rfl))) (mvT hZ (hw _ (List.mem_of_getElem? (i := 1) rfl))) (mvT hZ (hw _ (List.mem_of_getElem? (i := 2) rfl))) (mvT hZ (hw _ (List.mem_of_getElem? (i := 3) rfl))) (by decide) (backOf (W := 0) (rm1 l Z a0 hw [] d0 z T416.heap n0 (by exact y418) rd0.2 hz y417 SC) hZ (hw _ (List.mem_of_getElem? (i := 3) rfl)) (hw _ (List.mem_of_getElem? (i := 2) rfl)) (by decide) (by decide)) (g := (mkF m 76 #[.val (.int p1), .val (.int p2), .val (.int p3), .val (.int c0), .val (.int c1), .val (.int c2), .val (.ref xc0), .val (.ref xc1), .val (.ref xc2), .unset, .unset, .unset, .unset, .unset, .unset] [(.int d0)])) rfl (by rw [hml]; rfl) (argsL := [(.int d0)]) (rest := []) (lenOf pd_15 rfl) rfl (by show 2 * 0 + _ ≤ _; exact Nat.le_of_eq rfl) (hb hby at_76) (fun _ _ => ⟨rfl, rfl, (by decide : 6 + 2 ≤ _), (by decide : 15 + 5 ≤ _)⟩)
        dsimp only [Pt.U, Pt.locs, Pt.cells, Pt.slots] at X428 l428 y428 z428 st428 hQ428
        subst l428 y428 z428
        obtain ⟨xd0, t428, kt428, rfl, N428q, K428, Eq428, Cq428, Vq428, Aq428⟩ := hQ428
        have N428 := Fr.app N416 N428q
        have y429 := (y417.keep K428 all0)
        have y430 := (Nat.le_trans y418 K428.1)
        have y431 := (y419.keep K428)
        have y432 := (y420.keep K428 nin0)
        have y433 := (y421.keep K428 nin0)
        have y434 := (y422.keep K428 nin0)
        have y435 := (y423.keep K428)
        have y436 := (y424.keep K428 nin0)
        have y437 := (y425.keep K428 nin0)
        have y438 := (y426.keep K428 nin0)
        have y439 := (Eq416.keep K428)
        have y440 := (Cq416.keep K428 nin0)
        have y441 := (Vq416.keep K428 nin0)
        have y442 := (Aq416.keep K428 nin0)
        have rg443 : ∀ q_ ∈ [d0], ¬ q_ < 0 ∧ ¬ (255 : Int32) < q_ := List.forall_mem_cons.mpr ⟨rd0, fun _ q => nomatch q⟩
        refine own_on st428 ?_
        show own_Fin p e below _ (T428.setTop (mkF m 79 #[.val (.int p1), .val (.int p2), .val (.int p3), .val (.int c0), .val (.int c1), .val (.int c2), .val (.ref xc0), .val (.ref xc1), .val (.ref xc2), .unset, .unset, .unset, .unset, .unset, .unset] [(.ref xd0)]))
        refine own_on (fun tq => XS.astore X428.here hx rfl (hb hby at_79) rfl rfl (l' := #[.val (.int p1), .val (.int p2), .val (.int p3), .val (.int c0), .val (.int c1), .val (.int c2), .val (.ref xc0), .val (.ref xc1), .val (.ref xc2), .val (.ref xd0), .unset, .unset, .unset, .unset, .unset]) rfl) ?_
        show own_Fin p e below _ (T428.setTop (mkF m 81 #[.val (.int p1), .val (.int p2), .val (.int p3), .val (.int c0), .val (.int c1), .val (.int c2), .val (.ref xc0), .val (.ref xc1), .val (.ref xc2), .val (.ref xd0), .unset, .unset, .unset, .unset, .unset] []))
        refine own_on (fun tq => XS.iloadN X428.here hx rfl (hb hby at_81) rfl) ?_
        show own_Fin p e below _ (T428.setTop (mkF m 82 #[.val (.int p1), .val (.int p2), .val (.int p3), .val (.int c0), .val (.int c1), .val (.int c2), .val (.ref xc0), .val (.ref xc1), .val (.ref xc2), .val (.ref xd0), .unset, .unset, .unset, .unset, .unset] [(.int p2)]))
        refine own_on (fun tq => XS.bipush X428.here hx rfl (hb hby at_82)) ?_
        show own_Fin p e below _ (T428.setTop (mkF m 84 #[.val (.int p1), .val (.int p2), .val (.int p3), .val (.int c0), .val (.int c1), .val (.int c2), .val (.ref xc0), .val (.ref xc1), .val (.ref xc2), .val (.ref xd0), .unset, .unset, .unset, .unset, .unset] [(.int (8 : Int32)), (.int p2)]))
        refine own_on (fun tq => XS.iushr X428.here hx rfl (hb hby at_84) rfl) ?_
        show own_Fin p e below _ (T428.setTop (mkF m 85 #[.val (.int p1), .val (.int p2), .val (.int p3), .val (.int c0), .val (.int c1), .val (.int c2), .val (.ref xc0), .val (.ref xc1), .val (.ref xc2), .val (.ref xd0), .unset, .unset, .unset, .unset, .unset] [(.int ((p2.toUInt32 >>> ((8 : Int32) &&& 31).toUInt32).toInt32))]))
        refine own_on (fun tq => XS.sipush X428.here hx rfl (hb hby at_85)) ?_
        show own_Fin p e below _ (T428.setTop (mkF m 88 #[.val (.int p1), .val (.int p2), .val (.int p3), .val (.int c0), .val (.int c1), .val (.int c2), .val (.ref xc0), .val (.ref xc1), .val (.ref xc2), .val (.ref xd0), .unset, .unset, .unset, .unset, .unset] [(.int (255 : Int32)), (.int ((p2.toUInt32 >>> ((8 : Int32) &&& 31).toUInt32).toInt32))]))
        refine own_on (fun tq => XS.iand X428.here hx rfl (hb hby at_88) rfl) ?_
        show own_Fin p e below _ (T428.setTop (mkF m 89 #[.val (.int p1), .val (.int p2), .val (.int p3), .val (.int c0), .val (.int c1), .val (.int c2), .val (.ref xc0), .val (.ref xc1), .val (.ref xc2), .val (.ref xd0), .unset, .unset, .unset, .unset, .unset] [(.int (((p2.toUInt32 >>> ((8 : Int32) &&& 31).toUInt32).toInt32) &&& (255 : Int32)))]))
        refine own_on (fun tq => XS.i2c X428.here hx rfl (hb hby at_89) rfl) ?_
        show own_Fin p e below _ (T428.setTop (mkF m 90 #[.val (.int p1), .val (.int p2), .val (.int p3), .val (.int c0), .val (.int c1), .val (.int c2), .val (.ref xc0), .val (.ref xc1), .val (.ref xc2), .val (.ref xd0), .unset, .unset, .unset, .unset, .unset] [(.int ((((p2.toUInt32 >>> ((8 : Int32) &&& 31).toUInt32).toInt32) &&& (255 : Int32)).toUInt32.toUInt16.toUInt32.toInt32))]))
        obtain ⟨d1, hd1⟩ : ∃ q : Int32, q = ((((p2.toUInt32 >>> ((8 : Int32) &&& 31).toUInt32).toInt32) &&& (255 : Int32)).toUInt32.toUInt16.toUInt32.toInt32) := ⟨_, rfl⟩
        have rd1 : ¬ d1 < 0 ∧ ¬ (255 : Int32) < d1 := hd1 ▸ own_c255 _
        rw [← hd1]
        show own_Fin p e below _ (T428.setTop (mkF m 90 #[.val (.int p1), .val (.int p2), .val (.int p3), .val (.int c0), .val (.int c1), .val (.int c2), .val (.ref xc0), .val (.ref xc1), .val (.ref xc2), .val (.ref xd0), .unset, .unset, .unset, .unset, .unset] [(.int d1)]))
        obtain ⟨_, _, ⟨T444, L444, k444, n444⟩, -, X444, ⟨Lc444, hQ444, l444, y444, z444⟩, st444⟩ := Jvm.LawKit.callS X428 hx (y := (⟨"java/lang/String", "valueOf", "(C)Ljava/lang/String;"⟩ : MethodName)) hown (mvT hZ (hw _ (List.mem_of_getElem? (i := 0) rfl))) (mvT hZ (hw _ (List.mem_of_getElem? (i := 1) rfl))) (mvT hZ (hw _ (List.mem_of_getElem? (i := 2) rfl))) (mvT hZ (hw _ (List.mem_of_getElem? (i := 3) rfl))) (by decide) (backOf (W := 0) (rm1 l Z a0 hw [] d1 z T428.heap n0 (by exact y430) rd1.2 hz y429 SC) hZ (hw _ (List.mem_of_getElem? (i := 3) rfl)) (hw _ (List.mem_of_getElem? (i := 2) rfl)) (by decide) (by decide)) (g := (mkF m 90 #[.val (.int p1), .val (.int p2), .val (.int p3), .val (.int c0), .val (.int c1), .val (.int c2), .val (.ref xc0), .val (.ref xc1), .val (.ref xc2), .val (.ref xd0), .unset, .unset, .unset, .unset, .unset] [(.int d1)])) rfl (by rw [hml]; rfl) (argsL := [(.int d1)]) (rest := []) (lenOf pd_15 rfl) rfl (by show 2 * 0 + _ ≤ _; exact Nat.le_of_eq rfl) (hb hby at_90) (fun _ _ => ⟨rfl, rfl, (by decide : 8 + 2 ≤ _), (by decide : 20 + 5 ≤ _)⟩)
        dsimp only [Pt.U, Pt.locs, Pt.cells, Pt.slots] at X444 l444 y444 z444 st444 hQ444
        subst l444 y444 z444
        obtain ⟨xd1, t444, kt444, rfl, N444q, K444, Eq444, Cq444, Vq444, Aq444⟩ := hQ444
        have N444 := Fr.app N428 N444q
        have y445 := (y429.keep K444 all0)
        have y446 := (Nat.le_trans y430 K444.1)
        have y447 := (y431.keep K444)
        have y448 := (y432.keep K444 nin0)
        have y449 := (y433.keep K444 nin0)
        have y450 := (y434.keep K444 nin0)
        have y451 := (y435.keep K444)
        have y452 := (y436.keep K444 nin0)
        have y453 := (y437.keep K444 nin0)
        have y454 := (y438.keep K444 nin0)
        have y455 := (y439.keep K444)
        have y456 := (y440.keep K444 nin0)
        have y457 := (y441.keep K444 nin0)
        have y458 := (y442.keep K444 nin0)
        have y459 := (Eq428.keep K444)
        have y460 := (Cq428.keep K444 nin0)
        have y461 := (Vq428.keep K444 nin0)
        have y462 := (Aq428.keep K444 nin0)
        have rg463 : ∀ q_ ∈ [d1], ¬ q_ < 0 ∧ ¬ (255 : Int32) < q_ := List.forall_mem_cons.mpr ⟨rd1, fun _ q => nomatch q⟩
        refine own_on st444 ?_
        show own_Fin p e below _ (T444.setTop (mkF m 93 #[.val (.int p1), .val (.int p2), .val (.int p3), .val (.int c0), .val (.int c1), .val (.int c2), .val (.ref xc0), .val (.ref xc1), .val (.ref xc2), .val (.ref xd0), .unset, .unset, .unset, .unset, .unset] [(.ref xd1)]))
        refine own_on (fun tq => XS.astore X444.here hx rfl (hb hby at_93) rfl rfl (l' := #[.val (.int p1), .val (.int p2), .val (.int p3), .val (.int c0), .val (.int c1), .val (.int c2), .val (.ref xc0), .val (.ref xc1), .val (.ref xc2), .val (.ref xd0), .val (.ref xd1), .unset, .unset, .unset, .unset]) rfl) ?_
        show own_Fin p e below _ (T444.setTop (mkF m 95 #[.val (.int p1), .val (.int p2), .val (.int p3), .val (.int c0), .val (.int c1), .val (.int c2), .val (.ref xc0), .val (.ref xc1), .val (.ref xc2), .val (.ref xd0), .val (.ref xd1), .unset, .unset, .unset, .unset] []))
        refine own_on (fun tq => XS.iloadN X444.here hx rfl (hb hby at_95) rfl) ?_
        show own_Fin p e below _ (T444.setTop (mkF m 96 #[.val (.int p1), .val (.int p2), .val (.int p3), .val (.int c0), .val (.int c1), .val (.int c2), .val (.ref xc0), .val (.ref xc1), .val (.ref xc2), .val (.ref xd0), .val (.ref xd1), .unset, .unset, .unset, .unset] [(.int p2)]))
        refine own_on (fun tq => XS.bipush X444.here hx rfl (hb hby at_96)) ?_
        show own_Fin p e below _ (T444.setTop (mkF m 98 #[.val (.int p1), .val (.int p2), .val (.int p3), .val (.int c0), .val (.int c1), .val (.int c2), .val (.ref xc0), .val (.ref xc1), .val (.ref xc2), .val (.ref xd0), .val (.ref xd1), .unset, .unset, .unset, .unset] [(.int (16 : Int32)), (.int p2)]))
        refine own_on (fun tq => XS.iushr X444.here hx rfl (hb hby at_98) rfl) ?_
        show own_Fin p e below _ (T444.setTop (mkF m 99 #[.val (.int p1), .val (.int p2), .val (.int p3), .val (.int c0), .val (.int c1), .val (.int c2), .val (.ref xc0), .val (.ref xc1), .val (.ref xc2), .val (.ref xd0), .val (.ref xd1), .unset, .unset, .unset, .unset] [(.int ((p2.toUInt32 >>> ((16 : Int32) &&& 31).toUInt32).toInt32))]))
        refine own_on (fun tq => XS.sipush X444.here hx rfl (hb hby at_99)) ?_
        show own_Fin p e below _ (T444.setTop (mkF m 102 #[.val (.int p1), .val (.int p2), .val (.int p3), .val (.int c0), .val (.int c1), .val (.int c2), .val (.ref xc0), .val (.ref xc1), .val (.ref xc2), .val (.ref xd0), .val (.ref xd1), .unset, .unset, .unset, .unset] [(.int (255 : Int32)), (.int ((p2.toUInt32 >>> ((16 : Int32) &&& 31).toUInt32).toInt32))]))
        refine own_on (fun tq => XS.iand X444.here hx rfl (hb hby at_102) rfl) ?_
        show own_Fin p e below _ (T444.setTop (mkF m 103 #[.val (.int p1), .val (.int p2), .val (.int p3), .val (.int c0), .val (.int c1), .val (.int c2), .val (.ref xc0), .val (.ref xc1), .val (.ref xc2), .val (.ref xd0), .val (.ref xd1), .unset, .unset, .unset, .unset] [(.int (((p2.toUInt32 >>> ((16 : Int32) &&& 31).toUInt32).toInt32) &&& (255 : Int32)))]))
        refine own_on (fun tq => XS.i2c X444.here hx rfl (hb hby at_103) rfl) ?_
        show own_Fin p e below _ (T444.setTop (mkF m 104 #[.val (.int p1), .val (.int p2), .val (.int p3), .val (.int c0), .val (.int c1), .val (.int c2), .val (.ref xc0), .val (.ref xc1), .val (.ref xc2), .val (.ref xd0), .val (.ref xd1), .unset, .unset, .unset, .unset] [(.int ((((p2.toUInt32 >>> ((16 : Int32) &&& 31).toUInt32).toInt32) &&& (255 : Int32)).toUInt32.toUInt16.toUInt32.toInt32))]))
        obtain ⟨d2, hd2⟩ : ∃ q : Int32, q = ((((p2.toUInt32 >>> ((16 : Int32) &&& 31).toUInt32).toInt32) &&& (255 : Int32)).toUInt32.toUInt16.toUInt32.toInt32) := ⟨_, rfl⟩
        have rd2 : ¬ d2 < 0 ∧ ¬ (255 : Int32) < d2 := hd2 ▸ own_c255 _
        rw [← hd2]
        show own_Fin p e below _ (T444.setTop (mkF m 104 #[.val (.int p1), .val (.int p2), .val (.int p3), .val (.int c0), .val (.int c1), .val (.int c2), .val (.ref xc0), .val (.ref xc1), .val (.ref xc2), .val (.ref xd0), .val (.ref xd1), .unset, .unset, .unset, .unset] [(.int d2)]))
        obtain ⟨_, _, ⟨T464, L464, k464, n464⟩, -, X464, ⟨Lc464, hQ464, l464, y464, z464⟩, st464⟩ := Jvm.LawKit.callS X444 hx (y := (⟨"java/lang/String", "valueOf", "(C)Ljava/lang/String;"⟩ : MethodName)) hown (mvT hZ (hw _ (List.mem_of_getElem? (i := 0) rfl))) (mvT hZ (hw _ (List.mem_of_getElem? (i := 1) rfl))) (mvT hZ (hw _ (List.mem_of_getElem? (i := 2) rfl))) (mvT hZ (hw _ (List.mem_of_getElem? (i := 3) rfl))) (by decide) (backOf (W := 0) (rm1 l Z a0 hw [] d2 z T444.heap n0 (by exact y446) rd2.2 hz y445 SC) hZ (hw _ (List.mem_of_getElem? (i := 3) rfl)) (hw _ (List.mem_of_getElem? (i := 2) rfl)) (by decide) (by decide)) (g := (mkF m 104 #[.val (.int p1), .val (.int p2), .val (.int p3), .val (.int c0), .val (.int c1), .val (.int c2), .val (.ref xc0), .val (.ref xc1), .val (.ref xc2), .val (.ref xd0), .val (.ref xd1), .unset, .unset, .unset, .unset] [(.int d2)])) rfl (by rw [hml]; rfl) (argsL := [(.int d2)]) (rest := []) (lenOf pd_15 rfl) rfl (by show 2 * 0 + _ ≤ _; exact Nat.le_of_eq rfl) (hb hby at_104) (fun _ _ => ⟨rfl, rfl, (by decide : 10 + 2 ≤ _), (by decide : 25 + 5 ≤ _)⟩)
        dsimp only [Pt.U, Pt.locs, Pt.cells, Pt.slots] at X464 l464 y464 z464 st464 hQ464
        subst l464 y464 z464
        obtain ⟨xd2, t464, kt464, rfl, N464q, K464, Eq464, Cq464, Vq464, Aq464⟩ := hQ464
        have N464 := Fr.app N444 N464q
        have y465 := (y445.keep K464 all0)
        have y466 := (Nat.le_trans y446 K464.1)
        have y467 := (y447.keep K464)
        have y468 := (y448.keep K464 nin0)
        have y469 := (y449.keep K464 nin0)
        have y470 := (y450.keep K464 nin0)
        have y471 := (y451.keep K464)
        have y472 := (y452.keep K464 nin0)
        have y473 := (y453.keep K464 nin0)
        have y474 := (y454.keep K464 nin0)
        have y475 := (y455.keep K464)
        have y476 := (y456.keep K464 nin0)
        have y477 := (y457.keep K464 nin0)
        have y478 := (y458.keep K464 nin0)
        have y479 := (y459.keep K464)
        have y480 := (y460.keep K464 nin0)
        have y481 := (y461.keep K464 nin0)
        have y482 := (y462.keep K464 nin0)
        have y483 := (Eq444.keep K464)
        have y484 := (Cq444.keep K464 nin0)
        have y485 := (Vq444.keep K464 nin0)
        have y486 := (Aq444.keep K464 nin0)
        have rg487 : ∀ q_ ∈ [d2], ¬ q_ < 0 ∧ ¬ (255 : Int32) < q_ := List.forall_mem_cons.mpr ⟨rd2, fun _ q => nomatch q⟩
        refine own_on st464 ?_
        show own_Fin p e below _ (T464.setTop (mkF m 107 #[.val (.int p1), .val (.int p2), .val (.int p3), .val (.int c0), .val (.int c1), .val (.int c2), .val (.ref xc0), .val (.ref xc1), .val (.ref xc2), .val (.ref xd0), .val (.ref xd1), .unset, .unset, .unset, .unset] [(.ref xd2)]))
        refine own_on (fun tq => XS.astore X464.here hx rfl (hb hby at_107) rfl rfl (l' := #[.val (.int p1), .val (.int p2), .val (.int p3), .val (.int c0), .val (.int c1), .val (.int c2), .val (.ref xc0), .val (.ref xc1), .val (.ref xc2), .val (.ref xd0), .val (.ref xd1), .val (.ref xd2), .unset, .unset, .unset]) rfl) ?_
        show own_Fin p e below _ (T464.setTop (mkF m 109 #[.val (.int p1), .val (.int p2), .val (.int p3), .val (.int c0), .val (.int c1), .val (.int c2), .val (.ref xc0), .val (.ref xc1), .val (.ref xc2), .val (.ref xd0), .val (.ref xd1), .val (.ref xd2), .unset, .unset, .unset] []))
        refine own_on (fun tq => XS.iloadN X464.here hx rfl (hb hby at_109) rfl) ?_
        show own_Fin p e below _ (T464.setTop (mkF m 110 #[.val (.int p1), .val (.int p2), .val (.int p3), .val (.int c0), .val (.int c1), .val (.int c2), .val (.ref xc0), .val (.ref xc1), .val (.ref xc2), .val (.ref xd0), .val (.ref xd1), .val (.ref xd2), .unset, .unset, .unset] [(.int p3)]))
        refine own_on (fun tq => XS.iconst X464.here hx rfl (hb hby at_110)) ?_
        show own_Fin p e below _ (T464.setTop (mkF m 111 #[.val (.int p1), .val (.int p2), .val (.int p3), .val (.int c0), .val (.int c1), .val (.int c2), .val (.ref xc0), .val (.ref xc1), .val (.ref xc2), .val (.ref xd0), .val (.ref xd1), .val (.ref xd2), .unset, .unset, .unset] [(.int (3 : Int32)), (.int p3)]))
        refine own_on (fun tq => XS.iand X464.here hx rfl (hb hby at_111) rfl) ?_
        show own_Fin p e below _ (T464.setTop (mkF m 112 #[.val (.int p1), .val (.int p2), .val (.int p3), .val (.int c0), .val (.int c1), .val (.int c2), .val (.ref xc0), .val (.ref xc1), .val (.ref xc2), .val (.ref xd0), .val (.ref xd1), .val (.ref xd2), .unset, .unset, .unset] [(.int (p3 &&& (3 : Int32)))]))
        have y488 := (Keep.refl T464.heap [])
        rcases own_and3 p3 with hn | hn | hn | hn
        · rw [hn]
          show own_Fin p e below _ (T464.setTop (mkF m 112 #[.val (.int p1), .val (.int p2), .val (.int p3), .val (.int c0), .val (.int c1), .val (.int c2), .val (.ref xc0), .val (.ref xc1), .val (.ref xc2), .val (.ref xd0), .val (.ref xd1), .val (.ref xd2), .unset, .unset, .unset] [(.int (0 : Int32))]))
          refine own_on (fun tq => XS.istore X464.here hx rfl (hb hby at_112) rfl (l' := #[.val (.int p1), .val (.int p2), .val (.int p3), .val (.int c0), .val (.int c1), .val (.int c2), .val (.ref xc0), .val (.ref xc1), .val (.ref xc2), .val (.ref xd0), .val (.ref xd1), .val (.ref xd2), .val (.int (0 : Int32)), .unset, .unset]) rfl) ?_
          show own_Fin p e below _ (T464.setTop (mkF m 114 #[.val (.int p1), .val (.int p2), .val (.int p3), .val (.int c0), .val (.int c1), .val (.int c2), .val (.ref xc0), .val (.ref xc1), .val (.ref xc2), .val (.ref xd0), .val (.ref xd1), .val (.ref xd2), .val (.int (0 : Int32)), .unset, .unset] []))
          refine own_on (fun tq => XS.bipush X464.here hx rfl (hb hby at_114)) ?_
          show own_Fin p e below _ (T464.setTop (mkF m 116 #[.val (.int p1), .val (.int p2), .val (.int p3), .val (.int c0), .val (.int c1), .val (.int c2), .val (.ref xc0), .val (.ref xc1), .val (.ref xc2), .val (.ref xd0), .val (.ref xd1), .val (.ref xd2), .val (.int (0 : Int32)), .unset, .unset] [(.int (6 : Int32))]))
          obtain ⟨T489, h489, k489, X489, e489, E489, A489, D489, O489, st489⟩ := newRE X464 hx hZ hown (hw _ (List.mem_of_getElem? (i := 26) rfl)) (hw _ (List.mem_of_getElem? (i := 27) rfl)) rfl (g := (mkF m 116 #[.val (.int p1), .val (.int p2), .val (.int p3), .val (.int c0), .val (.int c1), .val (.int c2), .val (.ref xc0), .val (.ref xc1), .val (.ref xc2), .val (.ref xd0), .val (.ref xd1), .val (.ref xd2), .val (.int (0 : Int32)), .unset, .unset] [(.int (6 : Int32))])) rfl (hb hby at_116) rfl (by decide) (cap := 6) (by decide) (by decide) (by decide) (by decide) (ad := "[Ljava/lang/String;") (by decide)
          obtain ⟨b489, g489⟩ : ∃ z, z = T464.heap.size := ⟨_, rfl⟩
          rw [← g489] at A489 D489 st489
          have y490 := (y465.ext E489)
          have y491 := (Nat.le_trans y466 E489.1)
          have y492 := (y488.ext E489)
          have gn489 : n0 ≤ b489 := Nat.le_trans y466 (Nat.le_of_eq g489.symm)
          have gk489 : T464.heap.size ≤ b489 := Nat.le_trans y488.1 (Nat.le_of_eq g489.symm)
          have V489 : Arv Z h489 b489 k489 (.object "java/lang/String") (6 : Int32) [.null, .null, .null, .null, .null, .null] .null := (Arv.new A489 (by decide)).pad (pad_rep [] .null 6)
          refine own_on st489 ?_
          show own_Fin p e below _ (T489.setTop (mkF m 119 #[.val (.int p1), .val (.int p2), .val (.int p3), .val (.int c0), .val (.int c1), .val (.int c2), .val (.ref xc0), .val (.ref xc1), .val (.ref xc2), .val (.ref xd0), .val (.ref xd1), .val (.ref xd2), .val (.int (0 : Int32)), .unset, .unset] [(.ref b489)]))
          refine own_on (fun tq => XS.dup X489.here hx rfl (hb hby at_119) rfl rfl) ?_
          show own_Fin p e below _ (T489.setTop (mkF m 120 #[.val (.int p1), .val (.int p2), .val (.int p3), .val (.int c0), .val (.int c1), .val (.int c2), .val (.ref xc0), .val (.ref xc1), .val (.ref xc2), .val (.ref xd0), .val (.ref xd1), .val (.ref xd2), .val (.int (0 : Int32)), .unset, .unset] [(.ref b489), (.ref b489)]))
          refine own_on (fun tq => XS.iconst X489.here hx rfl (hb hby at_120)) ?_
          show own_Fin p e below _ (T489.setTop (mkF m 121 #[.val (.int p1), .val (.int p2), .val (.int p3), .val (.int c0), .val (.int c1), .val (.int c2), .val (.ref xc0), .val (.ref xc1), .val (.ref xc2), .val (.ref xd0), .val (.ref xd1), .val (.ref xd2), .val (.int (0 : Int32)), .unset, .unset] [(.int (0 : Int32)), (.ref b489), (.ref b489)]))
          refine own_on (fun tq => XS.aload X489.here hx rfl (hb hby at_121) rfl rfl) ?_
          show own_Fin p e below _ (T489.setTop (mkF m 123 #[.val (.int p1), .val (.int p2), .val (.int p3), .val (.int c0), .val (.int c1), .val (.int c2), .val (.ref xc0), .val (.ref xc1), .val (.ref xc2), .val (.ref xd0), .val (.ref xd1), .val (.ref xd2), .val (.int (0 : Int32)), .unset, .unset] [(.ref xc0), (.int (0 : Int32)), (.ref b489), (.ref b489)]))
          have cp493 := V489
          obtain ⟨cl493, Ar493, q493, S493, G493, H493, F493⟩ := cp493
          have hin493 : ¬ ((0 : Int32) < 0 ∨ cl493.slots.size ≤ ((0 : Int32)).toNatClampNeg) := inb_of S493 ⟨by decide, by decide⟩
          obtain ⟨T493, h493, X493, e493, W493, st493⟩ := stR X489 hx hZ e489 Ar493 (j := (0 : Int32)) hin493 rfl (Sto.ofV Ar493 q493 O489 (Ins.self (y467.keep y492))) (g := (mkF m 123 #[.val (.int p1), .val (.int p2), .val (.int p3), .val (.int c0), .val (.int c1), .val (.int c2), .val (.ref xc0), .val (.ref xc1), .val (.ref xc2), .val (.ref xd0), .val (.ref xd1), .val (.ref xd2), .val (.int (0 : Int32)), .unset, .unset] [(.ref xc0), (.int (0 : Int32)), (.ref b489), (.ref b489)])) rfl rfl (hb hby at_123)
          have V493 : Arv Z h493 b489 k489 (.object "java/lang/String") (6 : Int32) [(.ref xc0), .null, .null, .null, .null, .null] .null := Arv.set Ar493 q493 S493 G493 H493 F493 rfl W493 0 rfl (Nat.le_of_ble_eq_true rfl)
          have N493 := Fr.snoc X493 N464 gn489
          have y494 := (y490.wr W493 gn489)
          have y495 := (Nat.le_trans y491 (Keep.of_wr W493).1)
          have y496 := (y492.wr W493 (Or.inr gk489))
          have y497 := (D489.wr W493)
          refine own_on st493 ?_
          show own_Fin p e below _ (T493.setTop (mkF m 124 #[.val (.int p1), .val (.int p2), .val (.int p3), .val (.int c0), .val (.int c1), .val (.int c2), .val (.ref xc0), .val (.ref xc1), .val (.ref xc2), .val (.ref xd0), .val (.ref xd1), .val (.ref xd2), .val (.int (0 : Int32)), .unset, .unset] [(.ref b489)]))
          refine own_on (fun tq => XS.dup X493.here hx rfl (hb hby at_124) rfl rfl) ?_
          show own_Fin p e below _ (T493.setTop (mkF m 125 #[.val (.int p1), .val (.int p2), .val (.int p3), .val (.int c0), .val (.int c1), .val (.int c2), .val (.ref xc0), .val (.ref xc1), .val (.ref xc2), .val (.ref xd0), .val (.ref xd1), .val (.ref xd2), .val (.int (0 : Int32)), .unset, .unset] [(.ref b489), (.ref b489)]))
          refine own_on (fun tq => XS.iconst X493.here hx rfl (hb hby at_125)) ?_
          show own_Fin p e below _ (T493.setTop (mkF m 126 #[.val (.int p1), .val (.int p2), .val (.int p3), .val (.int c0), .val (.int c1), .val (.int c2), .val (.ref xc0), .val (.ref xc1), .val (.ref xc2), .val (.ref xd0), .val (.ref xd1), .val (.ref xd2), .val (.int (0 : Int32)), .unset, .unset] [(.int (1 : Int32)), (.ref b489), (.ref b489)]))
          refine own_on (fun tq => XS.aload X493.here hx rfl (hb hby at_126) rfl rfl) ?_
          show own_Fin p e below _ (T493.setTop (mkF m 128 #[.val (.int p1), .val (.int p2), .val (.int p3), .val (.int c0), .val (.int c1), .val (.int c2), .val (.ref xc0), .val (.ref xc1), .val (.ref xc2), .val (.ref xd0), .val (.ref xd1), .val (.ref xd2), .val (.int (0 : Int32)), .unset, .unset] [(.ref xd0), (.int (1 : Int32)), (.ref b489), (.ref b489)]))
          have cp498 := V493
          obtain ⟨cl498, Ar498, q498, S498, G498, H498, F498⟩ := cp498
          have hin498 : ¬ ((1 : Int32) < 0 ∨ cl498.slots.size ≤ ((1 : Int32)).toNatClampNeg) := inb_of S498 ⟨by decide, by decide⟩
          obtain ⟨T498, h498, X498, e498, W498, st498⟩ := stR X493 hx hZ e493 Ar498 (j := (1 : Int32)) hin498 rfl (Sto.ofV Ar498 q498 O489 (Ins.self (y479.keep y496))) (g := (mkF m 128 #[.val (.int p1), .val (.int p2), .val (.int p3), .val (.int c0), .val (.int c1), .val (.int c2), .val (.ref xc0), .val (.ref xc1), .val (.ref xc2), .val (.ref xd0), .val (.ref xd1), .val (.ref xd2), .val (.int (0 : Int32)), .unset, .unset] [(.ref xd0), (.int (1 : Int32)), (.ref b489), (.ref b489)])) rfl rfl (hb hby at_128)
          have V498 : Arv Z h498 b489 k489 (.object "java/lang/String") (6 : Int32) [(.ref xc0), (.ref xd0), .null, .null, .null, .null] .null := Arv.set Ar498 q498 S498 G498 H498 F498 rfl W498 1 rfl (Nat.le_of_ble_eq_true rfl)
          have N498 := Fr.snoc X498 N493 gn489
          have y499 := (y494.wr W498 gn489)
          have y500 := (Nat.le_trans y495 (Keep.of_wr W498).1)
          have y501 := (y496.wr W498 (Or.inr gk489))
          have y502 := (y497.wr W498)
          refine own_on st498 ?_
          show own_Fin p e below _ (T498.setTop (mkF m 129 #[.val (.int p1), .val (.int p2), .val (.int p3), .val (.int c0), .val (.int c1), .val (.int c2), .val (.ref xc0), .val (.ref xc1), .val (.ref xc2), .val (.ref xd0), .val (.ref xd1), .val (.ref xd2), .val (.int (0 : Int32)), .unset, .unset] [(.ref b489)]))
          refine own_on (fun tq => XS.dup X498.here hx rfl (hb hby at_129) rfl rfl) ?_
          show own_Fin p e below _ (T498.setTop (mkF m 130 #[.val (.int p1), .val (.int p2), .val (.int p3), .val (.int c0), .val (.int c1), .val (.int c2), .val (.ref xc0), .val (.ref xc1), .val (.ref xc2), .val (.ref xd0), .val (.ref xd1), .val (.ref xd2), .val (.int (0 : Int32)), .unset, .unset] [(.ref b489), (.ref b489)]))
          refine own_on (fun tq => XS.iconst X498.here hx rfl (hb hby at_130)) ?_
          show own_Fin p e below _ (T498.setTop (mkF m 131 #[.val (.int p1), .val (.int p2), .val (.int p3), .val (.int c0), .val (.int c1), .val (.int c2), .val (.ref xc0), .val (.ref xc1), .val (.ref xc2), .val (.ref xd0), .val (.ref xd1), .val (.ref xd2), .val (.int (0 : Int32)), .unset, .unset] [(.int (2 : Int32)), (.ref b489), (.ref b489)]))
          refine own_on (fun tq => XS.aload X498.here hx rfl (hb hby at_131) rfl rfl) ?_
          show own_Fin p e below _ (T498.setTop (mkF m 133 #[.val (.int p1), .val (.int p2), .val (.int p3), .val (.int c0), .val (.int c1), .val (.int c2), .val (.ref xc0), .val (.ref xc1), .val (.ref xc2), .val (.ref xd0), .val (.ref xd1), .val (.ref xd2), .val (.int (0 : Int32)), .unset, .unset] [(.ref xc1), (.int (2 : Int32)), (.ref b489), (.ref b489)]))
          have cp503 := V498
          obtain ⟨cl503, Ar503, q503, S503, G503, H503, F503⟩ := cp503
          have hin503 : ¬ ((2 : Int32) < 0 ∨ cl503.slots.size ≤ ((2 : Int32)).toNatClampNeg) := inb_of S503 ⟨by decide, by decide⟩
          obtain ⟨T503, h503, X503, e503, W503, st503⟩ := stR X498 hx hZ e498 Ar503 (j := (2 : Int32)) hin503 rfl (Sto.ofV Ar503 q503 O489 (Ins.self (y471.keep y501))) (g := (mkF m 133 #[.val (.int p1), .val (.int p2), .val (.int p3), .val (.int c0), .val (.int c1), .val (.int c2), .val (.ref xc0), .val (.ref xc1), .val (.ref xc2), .val (.ref xd0), .val (.ref xd1), .val (.ref xd2), .val (.int (0 : Int32)), .unset, .unset] [(.ref xc1), (.int (2 : Int32)), (.ref b489), (.ref b489)])) rfl rfl (hb hby at_133)
          have V503 : Arv Z h503 b489 k489 (.object "java/lang/String") (6 : Int32) [(.ref xc0), (.ref xd0), (.ref xc1), .null, .null, .null] .null := Arv.set Ar503 q503 S503 G503 H503 F503 rfl W503 2 rfl (Nat.le_of_ble_eq_true rfl)
          have N503 := Fr.snoc X503 N498 gn489
          have y504 := (y499.wr W503 gn489)
          have y505 := (Nat.le_trans y500 (Keep.of_wr W503).1)
          have y506 := (y501.wr W503 (Or.inr gk489))
          have y507 := (y502.wr W503)
          refine own_on st503 ?_
          show own_Fin p e below _ (T503.setTop (mkF m 134 #[.val (.int p1), .val (.int p2), .val (.int p3), .val (.int c0), .val (.int c1), .val (.int c2), .val (.ref xc0), .val (.ref xc1), .val (.ref xc2), .val (.ref xd0), .val (.ref xd1), .val (.ref xd2), .val (.int (0 : Int32)), .unset, .unset] [(.ref b489)]))
          refine own_on (fun tq => XS.dup X503.here hx rfl (hb hby at_134) rfl rfl) ?_
          show own_Fin p e below _ (T503.setTop (mkF m 135 #[.val (.int p1), .val (.int p2), .val (.int p3), .val (.int c0), .val (.int c1), .val (.int c2), .val (.ref xc0), .val (.ref xc1), .val (.ref xc2), .val (.ref xd0), .val (.ref xd1), .val (.ref xd2), .val (.int (0 : Int32)), .unset, .unset] [(.ref b489), (.ref b489)]))
          refine own_on (fun tq => XS.iconst X503.here hx rfl (hb hby at_135)) ?_
          show own_Fin p e below _ (T503.setTop (mkF m 136 #[.val (.int p1), .val (.int p2), .val (.int p3), .val (.int c0), .val (.int c1), .val (.int c2), .val (.ref xc0), .val (.ref xc1), .val (.ref xc2), .val (.ref xd0), .val (.ref xd1), .val (.ref xd2), .val (.int (0 : Int32)), .unset, .unset] [(.int (3 : Int32)), (.ref b489), (.ref b489)]))
          refine own_on (fun tq => XS.aload X503.here hx rfl (hb hby at_136) rfl rfl) ?_
          show own_Fin p e below _ (T503.setTop (mkF m 138 #[.val (.int p1), .val (.int p2), .val (.int p3), .val (.int c0), .val (.int c1), .val (.int c2), .val (.ref xc0), .val (.ref xc1), .val (.ref xc2), .val (.ref xd0), .val (.ref xd1), .val (.ref xd2), .val (.int (0 : Int32)), .unset, .unset] [(.ref xd1), (.int (3 : Int32)), (.ref b489), (.ref b489)]))
          have cp508 := V503
          obtain ⟨cl508, Ar508, q508, S508, G508, H508, F508⟩ := cp508
          have hin508 : ¬ ((3 : Int32) < 0 ∨ cl508.slots.size ≤ ((3 : Int32)).toNatClampNeg) := inb_of S508 ⟨by decide, by decide⟩
          obtain ⟨T508, h508, X508, e508, W508, st508⟩ := stR X503 hx hZ e503 Ar508 (j := (3 : Int32)) hin508 rfl (Sto.ofV Ar508 q508 O489 (Ins.self (y483.keep y506))) (g := (mkF m 138 #[.val (.int p1), .val (.int p2), .val (.int p3), .val (.int c0), .val (.int c1), .val (.int c2), .val (.ref xc0), .val (.ref xc1), .val (.ref xc2), .val (.ref xd0), .val (.ref xd1), .val (.ref xd2), .val (.int (0 : Int32)), .unset, .unset] [(.ref xd1), (.int (3 : Int32)), (.ref b489), (.ref b489)])) rfl rfl (hb hby at_138)
          have V508 : Arv Z h508 b489 k489 (.object "java/lang/String") (6 : Int32) [(.ref xc0), (.ref xd0), (.ref xc1), (.ref xd1), .null, .null] .null := Arv.set Ar508 q508 S508 G508 H508 F508 rfl W508 3 rfl (Nat.le_of_ble_eq_true rfl)
          have N508 := Fr.snoc X508 N503 gn489
          have y509 := (y504.wr W508 gn489)
          have y510 := (Nat.le_trans y505 (Keep.of_wr W508).1)
          have y511 := (y506.wr W508 (Or.inr gk489))
          have y512 := (y507.wr W508)
          refine own_on st508 ?_
          show own_Fin p e below _ (T508.setTop (mkF m 139 #[.val (.int p1), .val (.int p2), .val (.int p3), .val (.int c0), .val (.int c1), .val (.int c2), .val (.ref xc0), .val (.ref xc1), .val (.ref xc2), .val (.ref xd0), .val (.ref xd1), .val (.ref xd2), .val (.int (0 : Int32)), .unset, .unset] [(.ref b489)]))
          refine own_on (fun tq => XS.dup X508.here hx rfl (hb hby at_139) rfl rfl) ?_
          show own_Fin p e below _ (T508.setTop (mkF m 140 #[.val (.int p1), .val (.int p2), .val (.int p3), .val (.int c0), .val (.int c1), .val (.int c2), .val (.ref xc0), .val (.ref xc1), .val (.ref xc2), .val (.ref xd0), .val (.ref xd1), .val (.ref xd2), .val (.int (0 : Int32)), .unset, .unset] [(.ref b489), (.ref b489)]))
          refine own_on (fun tq => XS.iconst X508.here hx rfl (hb hby at_140)) ?_
          show own_Fin p e below _ (T508.setTop (mkF m 141 #[.val (.int p1), .val (.int p2), .val (.int p3), .val (.int c0), .val (.int c1), .val (.int c2), .val (.ref xc0), .val (.ref xc1), .val (.ref xc2), .val (.ref xd0), .val (.ref xd1), .val (.ref xd2), .val (.int (0 : Int32)), .unset, .unset] [(.int (4 : Int32)), (.ref b489), (.ref b489)]))
          refine own_on (fun tq => XS.aload X508.here hx rfl (hb hby at_141) rfl rfl) ?_
          show own_Fin p e below _ (T508.setTop (mkF m 143 #[.val (.int p1), .val (.int p2), .val (.int p3), .val (.int c0), .val (.int c1), .val (.int c2), .val (.ref xc0), .val (.ref xc1), .val (.ref xc2), .val (.ref xd0), .val (.ref xd1), .val (.ref xd2), .val (.int (0 : Int32)), .unset, .unset] [(.ref xc2), (.int (4 : Int32)), (.ref b489), (.ref b489)]))
          have cp513 := V508
          obtain ⟨cl513, Ar513, q513, S513, G513, H513, F513⟩ := cp513
          have hin513 : ¬ ((4 : Int32) < 0 ∨ cl513.slots.size ≤ ((4 : Int32)).toNatClampNeg) := inb_of S513 ⟨by decide, by decide⟩
          obtain ⟨T513, h513, X513, e513, W513, st513⟩ := stR X508 hx hZ e508 Ar513 (j := (4 : Int32)) hin513 rfl (Sto.ofV Ar513 q513 O489 (Ins.self (y475.keep y511))) (g := (mkF m 143 #[.val (.int p1), .val (.int p2), .val (.int p3), .val (.int c0), .val (.int c1), .val (.int c2), .val (.ref xc0), .val (.ref xc1), .val (.ref xc2), .val (.ref xd0), .val (.ref xd1), .val (.ref xd2), .val (.int (0 : Int32)), .unset, .unset] [(.ref xc2), (.int (4 : Int32)), (.ref b489), (.ref b489)])) rfl rfl (hb hby at_143)
          have V513 : Arv Z h513 b489 k489 (.object "java/lang/String") (6 : Int32) [(.ref xc0), (.ref xd0), (.ref xc1), (.ref xd1), (.ref xc2), .null] .null := Arv.set Ar513 q513 S513 G513 H513 F513 rfl W513 4 rfl (Nat.le_of_ble_eq_true rfl)
          have N513 := Fr.snoc X513 N508 gn489
          have y514 := (y509.wr W513 gn489)
          have y515 := (Nat.le_trans y510 (Keep.of_wr W513).1)
          have y516 := (y511.wr W513 (Or.inr gk489))
          have y517 := (y512.wr W513)
          refine own_on st513 ?_
          show own_Fin p e below _ (T513.setTop (mkF m 144 #[.val (.int p1), .val (.int p2), .val (.int p3), .val (.int c0), .val (.int c1), .val (.int c2), .val (.ref xc0), .val (.ref xc1), .val (.ref xc2), .val (.ref xd0), .val (.ref xd1), .val (.ref xd2), .val (.int (0 : Int32)), .unset, .unset] [(.ref b489)]))
          refine own_on (fun tq => XS.dup X513.here hx rfl (hb hby at_144) rfl rfl) ?_
          show own_Fin p e below _ (T513.setTop (mkF m 145 #[.val (.int p1), .val (.int p2), .val (.int p3), .val (.int c0), .val (.int c1), .val (.int c2), .val (.ref xc0), .val (.ref xc1), .val (.ref xc2), .val (.ref xd0), .val (.ref xd1), .val (.ref xd2), .val (.int (0 : Int32)), .unset, .unset] [(.ref b489), (.ref b489)]))
          refine own_on (fun tq => XS.iconst X513.here hx rfl (hb hby at_145)) ?_
          show own_Fin p e below _ (T513.setTop (mkF m 146 #[.val (.int p1), .val (.int p2), .val (.int p3), .val (.int c0), .val (.int c1), .val (.int c2), .val (.ref xc0), .val (.ref xc1), .val (.ref xc2), .val (.ref xd0), .val (.ref xd1), .val (.ref xd2), .val (.int (0 : Int32)), .unset, .unset] [(.int (5 : Int32)), (.ref b489), (.ref b489)]))
          refine own_on (fun tq => XS.aload X513.here hx rfl (hb hby at_146) rfl rfl) ?_
          show own_Fin p e below _ (T513.setTop (mkF m 148 #[.val (.int p1), .val (.int p2), .val (.int p3), .val (.int c0), .val (.int c1), .val (.int c2), .val (.ref xc0), .val (.ref xc1), .val (.ref xc2), .val (.ref xd0), .val (.ref xd1), .val (.ref xd2), .val (.int (0 : Int32)), .unset, .unset] [(.ref xd2), (.int (5 : Int32)), (.ref b489), (.ref b489)]))
          have cp518 := V513
          obtain ⟨cl518, Ar518, q518, S518, G518, H518, F518⟩ := cp518
          have hin518 : ¬ ((5 : Int32) < 0 ∨ cl518.slots.size ≤ ((5 : Int32)).toNatClampNeg) := inb_of S518 ⟨by decide, by decide⟩
          obtain ⟨T518, h518, X518, e518, W518, st518⟩ := stR X513 hx hZ e513 Ar518 (j := (5 : Int32)) hin518 rfl (Sto.ofV Ar518 q518 O489 (Ins.self (Eq464.keep y516))) (g := (mkF m 148 #[.val (.int p1), .val (.int p2), .val (.int p3), .val (.int c0), .val (.int c1), .val (.int c2), .val (.ref xc0), .val (.ref xc1), .val (.ref xc2), .val (.ref xd0), .val (.ref xd1), .val (.ref xd2), .val (.int (0 : Int32)), .unset, .unset] [(.ref xd2), (.int (5 : Int32)), (.ref b489), (.ref b489)])) rfl rfl (hb hby at_148)
          have V518 : Arv Z h518 b489 k489 (.object "java/lang/String") (6 : Int32) [(.ref xc0), (.ref xd0), (.ref xc1), (.ref xd1), (.ref xc2), (.ref xd2)] .null := Arv.set Ar518 q518 S518 G518 H518 F518 rfl W518 5 rfl (Nat.le_of_ble_eq_true rfl)
          have N518 := Fr.snoc X518 N513 gn489
          have y519 := (y514.wr W518 gn489)
          have y520 := (Nat.le_trans y515 (Keep.of_wr W518).1)
          have y521 := (y516.wr W518 (Or.inr gk489))
          have y522 := (y517.wr W518)
          refine own_on st518 ?_
          show own_Fin p e below _ (T518.setTop (mkF m 149 #[.val (.int p1), .val (.int p2), .val (.int p3), .val (.int c0), .val (.int c1), .val (.int c2), .val (.ref xc0), .val (.ref xc1), .val (.ref xc2), .val (.ref xd0), .val (.ref xd1), .val (.ref xd2), .val (.int (0 : Int32)), .unset, .unset] [(.ref b489)]))
          refine own_on (fun tq => XS.astore X518.here hx rfl (hb hby at_149) rfl rfl (l' := #[.val (.int p1), .val (.int p2), .val (.int p3), .val (.int c0), .val (.int c1), .val (.int c2), .val (.ref xc0), .val (.ref xc1), .val (.ref xc2), .val (.ref xd0), .val (.ref xd1), .val (.ref xd2), .val (.int (0 : Int32)), .val (.ref b489), .unset]) rfl) ?_
          show own_Fin p e below _ (T518.setTop (mkF m 151 #[.val (.int p1), .val (.int p2), .val (.int p3), .val (.int c0), .val (.int c1), .val (.int c2), .val (.ref xc0), .val (.ref xc1), .val (.ref xc2), .val (.ref xd0), .val (.ref xd1), .val (.ref xd2), .val (.int (0 : Int32)), .val (.ref b489), .unset] []))
          refine own_on (fun tq => XS.iload X518.here hx rfl (hb hby at_151) rfl) ?_
          show own_Fin p e below _ (T518.setTop (mkF m 153 #[.val (.int p1), .val (.int p2), .val (.int p3), .val (.int c0), .val (.int c1), .val (.int c2), .val (.ref xc0), .val (.ref xc1), .val (.ref xc2), .val (.ref xd0), .val (.ref xd1), .val (.ref xd2), .val (.int (0 : Int32)), .val (.ref b489), .unset] [(.int (0 : Int32))]))
          refine own_on (fun tq => XS.ifNo X518.here hx rfl (hb hby at_153) rfl ((if0 _ _).trans (teq (by decide : (0 : Int32) = (0 : Int32))).2)) ?_
          show own_Fin p e below _ (T518.setTop (mkF m 156 #[.val (.int p1), .val (.int p2), .val (.int p3), .val (.int c0), .val (.int c1), .val (.int c2), .val (.ref xc0), .val (.ref xc1), .val (.ref xc2), .val (.ref xd0), .val (.ref xd1), .val (.ref xd2), .val (.int (0 : Int32)), .val (.ref b489), .unset] []))
          refine own_on (fun tq => XS.iconst X518.here hx rfl (hb hby at_156)) ?_
          show own_Fin p e below _ (T518.setTop (mkF m 157 #[.val (.int p1), .val (.int p2), .val (.int p3), .val (.int c0), .val (.int c1), .val (.int c2), .val (.ref xc0), .val (.ref xc1), .val (.ref xc2), .val (.ref xd0), .val (.ref xd1), .val (.ref xd2), .val (.int (0 : Int32)), .val (.ref b489), .unset] [(.int (0 : Int32))]))
          obtain ⟨T523, h523, k523, X523, e523, E523, A523, D523, O523, st523⟩ := newRE X518 hx hZ hown (hw _ (List.mem_of_getElem? (i := 26) rfl)) (hw _ (List.mem_of_getElem? (i := 27) rfl)) e518 (g := (mkF m 157 #[.val (.int p1), .val (.int p2), .val (.int p3), .val (.int c0), .val (.int c1), .val (.int c2), .val (.ref xc0), .val (.ref xc1), .val (.ref xc2), .val (.ref xd0), .val (.ref xd1), .val (.ref xd2), .val (.int (0 : Int32)), .val (.ref b489), .unset] [(.int (0 : Int32))])) rfl (hb hby at_157) rfl (by decide) (cap := 0) (by decide) (by decide) (by decide) (by decide) (ad := "[Ljava/lang/String;") (by decide)
          obtain ⟨b523, g523⟩ : ∃ z, z = h518.size := ⟨_, rfl⟩
          rw [← g523] at A523 D523 st523
          have ne523_b489 : b489 ≠ b523 := own_ne_of (Z := Z) V518.lt g523
          have y524 := (y519.ext E523)
          have y525 := (Nat.le_trans y520 E523.1)
          have y526 := (y521.ext E523)
          have y527 := (V518.ext E523)
          have y528 := (y522.ext E523)
          have gn523 : n0 ≤ b523 := Nat.le_trans y520 (Nat.le_of_eq g523.symm)
          have gk523 : T464.heap.size ≤ b523 := Nat.le_trans y521.1 (Nat.le_of_eq g523.symm)
          have V523 : Arv Z h523 b523 k523 (.object "java/lang/String") (0 : Int32) [] .null := Arv.new A523 (by decide)
          refine own_on st523 ?_
          show own_Fin p e below _ (T523.setTop (mkF m 160 #[.val (.int p1), .val (.int p2), .val (.int p3), .val (.int c0), .val (.int c1), .val (.int c2), .val (.ref xc0), .val (.ref xc1), .val (.ref xc2), .val (.ref xd0), .val (.ref xd1), .val (.ref xd2), .val (.int (0 : Int32)), .val (.ref b489), .unset] [(.ref b523)]))
          obtain ⟨_, _, ⟨T529, L529, k529, n529⟩, -, X529, ⟨Lc529, hQ529, l529, y529, z529⟩, st529⟩ := Jvm.LawKit.callS X523 hx (y := (⟨"com/example/settlewatt/settlewatt/model/TraceRecord", "inputsOf", "([Ljava/lang/String;)Ljava/util/Map;"⟩ : MethodName)) hown (mvT hZ (hw _ (List.mem_of_getElem? (i := 28) rfl))) (mvT hZ (hw _ (List.mem_of_getElem? (i := 29) rfl))) (mvT hZ (hw _ (List.mem_of_getElem? (i := 30) rfl))) (mvT hZ (hw _ (List.mem_of_getElem? (i := 31) rfl))) (by decide) (backOf (W := 0) (rmO0 l Z a0 hw [] b523 z k523 h523 n0 (by exact y525) hz y524 SC V523 D523) hZ (hw _ (List.mem_of_getElem? (i := 31) rfl)) (hw _ (List.mem_of_getElem? (i := 30) rfl)) (by decide) (by decide)) (g := (mkF m 160 #[.val (.int p1), .val (.int p2), .val (.int p3), .val (.int c0), .val (.int c1), .val (.int c2), .val (.ref xc0), .val (.ref xc1), .val (.ref xc2), .val (.ref xd0), .val (.ref xd1), .val (.ref xd2), .val (.int (0 : Int32)), .val (.ref b489), .unset] [(.ref b523)])) rfl (by rw [hml]; rfl) (argsL := [(.ref b523)]) (rest := []) (lenOf pd_16 rfl) rfl (by show 2 * 0 + _ ≤ _; exact Nat.le_of_eq rfl) (hb hby at_160) (fun _ _ => ⟨rfl, e523, (by decide : 14 + 2 ≤ _), (by decide : 36 + 3 ≤ _)⟩)
          dsimp only [Pt.U, Pt.locs, Pt.cells, Pt.slots] at X529 l529 y529 z529 st529 hQ529
          subst l529 y529 z529
          obtain ⟨m529, a529, rfl, N529q, K529, gm529, gb529, Eq529, Fq529, Aq529⟩ := hQ529
          have lm529 : m529 ≠ b523 := Nat.ne_of_gt (Nat.lt_of_lt_of_le D523.lt gm529)
          have la529 : a529 ≠ b523 := Nat.ne_of_gt (Nat.lt_of_lt_of_le D523.lt gb529)
          have N529 := Fr.app N518 N529q
          have y530 := (y524.keep K529 all0)
          have y531 := (Nat.le_trans y525 K529.1)
          have y532 := (y526.trans K529 all0)
          have y533 := (y527.keep K529 nin0)
          have y534 := (y528.keep K529)
          have y535 := (V523.keep K529 nin0)
          have y536 := (D523.keep K529)
          refine own_on st529 ?_
          show own_Fin p e below _ (T529.setTop (mkF m 163 #[.val (.int p1), .val (.int p2), .val (.int p3), .val (.int c0), .val (.int c1), .val (.int c2), .val (.ref xc0), .val (.ref xc1), .val (.ref xc2), .val (.ref xd0), .val (.ref xd1), .val (.ref xd2), .val (.int (0 : Int32)), .val (.ref b489), .unset] [(.ref m529)]))
          refine own_on (fun tq => XS.astore X529.here hx rfl (hb hby at_163) rfl rfl (l' := #[.val (.int p1), .val (.int p2), .val (.int p3), .val (.int c0), .val (.int c1), .val (.int c2), .val (.ref xc0), .val (.ref xc1), .val (.ref xc2), .val (.ref xd0), .val (.ref xd1), .val (.ref xd2), .val (.int (0 : Int32)), .val (.ref b489), .val (.ref m529)]) rfl) ?_
          show own_Fin p e below _ (T529.setTop (mkF m 165 #[.val (.int p1), .val (.int p2), .val (.int p3), .val (.int c0), .val (.int c1), .val (.int c2), .val (.ref xc0), .val (.ref xc1), .val (.ref xc2), .val (.ref xd0), .val (.ref xd1), .val (.ref xd2), .val (.int (0 : Int32)), .val (.ref b489), .val (.ref m529)] []))
          refine own_on (fun tq => XS.goto X529.here hx rfl (pc0 := 165) (pc' := 261) rfl (hb hby at_165) (by decide) (by decide)) ?_
          show own_Fin p e below _ (T529.setTop (mkF m 261 #[.val (.int p1), .val (.int p2), .val (.int p3), .val (.int c0), .val (.int c1), .val (.int c2), .val (.ref xc0), .val (.ref xc1), .val (.ref xc2), .val (.ref xd0), .val (.ref xd1), .val (.ref xd2), .val (.int (0 : Int32)), .val (.ref b489), .val (.ref m529)] []))
          refine own_on (fun tq => XS.aload X529.here hx rfl (hb hby at_261) rfl rfl) ?_
          show own_Fin p e below _ (T529.setTop (mkF m 263 #[.val (.int p1), .val (.int p2), .val (.int p3), .val (.int c0), .val (.int c1), .val (.int c2), .val (.ref xc0), .val (.ref xc1), .val (.ref xc2), .val (.ref xd0), .val (.ref xd1), .val (.ref xd2), .val (.int (0 : Int32)), .val (.ref b489), .val (.ref m529)] [(.ref m529)]))
          obtain ⟨cq537, kq537, q537a, q537b, q537c⟩ := isOf hZ rfl Eq529
          obtain ⟨_, _, ⟨T537, L537, k537, n537⟩, -, X537, ⟨Lc537, hQ537, l537, y537, z537⟩, st537⟩ := X529.interfaceBack hx (xi := (⟨"java/util/Map", "size", "()I"⟩ : MethodName)) (y := (⟨"java/util/AbstractMap", "size", "()I"⟩ : MethodName)) hown (mvT hZ (hw _ (List.mem_of_getElem? (i := 55) rfl))) (mvT hZ (hw _ (List.mem_of_getElem? (i := 56) rfl))) (mvT hZ (hw _ (List.mem_of_getElem? (i := 57) rfl))) (mvT hZ (hw _ (List.mem_of_getElem? (i := 58) rfl))) (mvT hZ (hw _ (List.mem_of_getElem? (i := 59) rfl))) (mvT hZ (hw _ (List.mem_of_getElem? (i := 60) rfl))) (mvT hZ (hw _ (List.mem_of_getElem? (i := 61) rfl))) (mvT hZ (hw _ (List.mem_of_getElem? (i := 62) rfl))) (by decide) (backOf (W := 0) (rm9 l Z a0 hw [] m529 a529 k523 (0 : Int32) _ T529.heap n0 (by exact y531) Eq529 Fq529 Aq529) hZ (hw _ (List.mem_of_getElem? (i := 63) rfl)) (hw _ (List.mem_of_getElem? (i := 50) rfl)) (by decide) (by decide)) q537a q537b q537c (g := (mkF m 263 #[.val (.int p1), .val (.int p2), .val (.int p3), .val (.int c0), .val (.int c1), .val (.int c2), .val (.ref xc0), .val (.ref xc1), .val (.ref xc2), .val (.ref xd0), .val (.ref xd1), .val (.ref xd2), .val (.int (0 : Int32)), .val (.ref b489), .val (.ref m529)] [(.ref m529)])) rfl (by rw [hml]; rfl) (Steps.refl _) (argsL := []) (rest := []) (lenOf pd_8 rfl) rfl (by show 2 * 0 + _ ≤ _; exact Nat.le_of_eq rfl) (hb hby at_263) (fun _ _ => ⟨rfl, rfl, (by decide : 16 + 1 ≤ _), (by decide : 39 + 1 ≤ _)⟩)
          dsimp only [Pt.U, Pt.locs, Pt.cells, Pt.slots] at X537 l537 y537 z537 st537 hQ537
          subst l537 y537 z537
          obtain ⟨rfl, N537q, K537⟩ := hQ537
          have N537 := Fr.app N529 N537q
          have y538 := (y530.keep K537 all0)
          have y539 := (Nat.le_trans y531 K537.1)
          have y540 := (y532.trans K537 all0)
          have y541 := (y533.keep K537 nin0)
          have y542 := (y534.keep K537)
          have y543 := (y535.keep K537 nin0)
          have y544 := (y536.keep K537)
          have y545 := (Eq529.keep K537)
          have y546 := (Fq529.keep K537 nin0)
          have y547 := (Aq529.keep K537 nin0)
          refine own_via st537 ?_
          show own_Fin p e below _ (T537.setTop (mkF m 268 #[.val (.int p1), .val (.int p2), .val (.int p3), .val (.int c0), .val (.int c1), .val (.int c2), .val (.ref xc0), .val (.ref xc1), .val (.ref xc2), .val (.ref xd0), .val (.ref xd1), .val (.ref xd2), .val (.int (0 : Int32)), .val (.ref b489), .val (.ref m529)] [(.int (0 : Int32))]))
          refine own_on (fun tq => XS.iload X537.here hx rfl (hb hby at_268) rfl) ?_
          show own_Fin p e below _ (T537.setTop (mkF m 270 #[.val (.int p1), .val (.int p2), .val (.int p3), .val (.int c0), .val (.int c1), .val (.int c2), .val (.ref xc0), .val (.ref xc1), .val (.ref xc2), .val (.ref xd0), .val (.ref xd1), .val (.ref xd2), .val (.int (0 : Int32)), .val (.ref b489), .val (.ref m529)] [(.int (0 : Int32)), (.int (0 : Int32))]))
          refine own_on (fun tq => XS.icmpYes X537.here hx rfl (pc0 := 270) (pc' := 275) rfl (hb hby at_270) rfl (teq (by decide : (0 : Int32) = (0 : Int32))).1 (by decide) (by decide)) ?_
          show own_Fin p e below _ (T537.setTop (mkF m 275 #[.val (.int p1), .val (.int p2), .val (.int p3), .val (.int c0), .val (.int c1), .val (.int c2), .val (.ref xc0), .val (.ref xc1), .val (.ref xc2), .val (.ref xd0), .val (.ref xd1), .val (.ref xd2), .val (.int (0 : Int32)), .val (.ref b489), .val (.ref m529)] []))
          refine own_on (fun tq => XS.aload X537.here hx rfl (hb hby at_275) rfl rfl) ?_
          show own_Fin p e below _ (T537.setTop (mkF m 277 #[.val (.int p1), .val (.int p2), .val (.int p3), .val (.int c0), .val (.int c1), .val (.int c2), .val (.ref xc0), .val (.ref xc1), .val (.ref xc2), .val (.ref xd0), .val (.ref xd1), .val (.ref xd2), .val (.int (0 : Int32)), .val (.ref b489), .val (.ref m529)] [(.ref m529)]))
          refine own_on (fun tq => XS.aload X537.here hx rfl (hb hby at_277) rfl rfl) ?_
          show own_Fin p e below _ (T537.setTop (mkF m 279 #[.val (.int p1), .val (.int p2), .val (.int p3), .val (.int c0), .val (.int c1), .val (.int c2), .val (.ref xc0), .val (.ref xc1), .val (.ref xc2), .val (.ref xd0), .val (.ref xd1), .val (.ref xd2), .val (.int (0 : Int32)), .val (.ref b489), .val (.ref m529)] [(.ref xc0), (.ref m529)]))
          refine own_on (fun tq => XS.aload X537.here hx rfl (hb hby at_279) rfl rfl) ?_
          show own_Fin p e below _ (T537.setTop (mkF m 281 #[.val (.int p1), .val (.int p2), .val (.int p3), .val (.int c0), .val (.int c1), .val (.int c2), .val (.ref xc0), .val (.ref xc1), .val (.ref xc2), .val (.ref xd0), .val (.ref xd1), .val (.ref xd2), .val (.int (0 : Int32)), .val (.ref b489), .val (.ref m529)] [(.ref xd0), (.ref xc0), (.ref m529)]))
          refine own_on (fun tq => XS.iload X537.here hx rfl (hb hby at_281) rfl) ?_
          show own_Fin p e below _ (T537.setTop (mkF m 283 #[.val (.int p1), .val (.int p2), .val (.int p3), .val (.int c0), .val (.int c1), .val (.int c2), .val (.ref xc0), .val (.ref xc1), .val (.ref xc2), .val (.ref xd0), .val (.ref xd1), .val (.ref xd2), .val (.int (0 : Int32)), .val (.ref b489), .val (.ref m529)] [(.int (0 : Int32)), (.ref xd0), (.ref xc0), (.ref m529)]))
          refine own_on (fun tq => XS.iconst X537.here hx rfl (hb hby at_283)) ?_
          show own_Fin p e below _ (T537.setTop (mkF m 284 #[.val (.int p1), .val (.int p2), .val (.int p3), .val (.int c0), .val (.int c1), .val (.int c2), .val (.ref xc0), .val (.ref xc1), .val (.ref xc2), .val (.ref xd0), .val (.ref xd1), .val (.ref xd2), .val (.int (0 : Int32)), .val (.ref b489), .val (.ref m529)] [(.int (1 : Int32)), (.int (0 : Int32)), (.ref xd0), (.ref xc0), (.ref m529)]))
          refine own_on (fun tq => XS.icmpYes X537.here hx rfl (pc0 := 284) (pc' := 291) rfl (hb hby at_284) rfl (tlt (by decide : (0 : Int32) < (1 : Int32))).1 (by decide) (by decide)) ?_
          show own_Fin p e below _ (T537.setTop (mkF m 291 #[.val (.int p1), .val (.int p2), .val (.int p3), .val (.int c0), .val (.int c1), .val (.int c2), .val (.ref xc0), .val (.ref xc1), .val (.ref xc2), .val (.ref xd0), .val (.ref xd1), .val (.ref xd2), .val (.int (0 : Int32)), .val (.ref b489), .val (.ref m529)] [(.ref xd0), (.ref xc0), (.ref m529)]))
          refine own_on (fun tq => XS.iconst X537.here hx rfl (hb hby at_291)) ?_
          show own_Fin p e below _ (T537.setTop (mkF m 292 #[.val (.int p1), .val (.int p2), .val (.int p3), .val (.int c0), .val (.int c1), .val (.int c2), .val (.ref xc0), .val (.ref xc1), .val (.ref xc2), .val (.ref xd0), .val (.ref xd1), .val (.ref xd2), .val (.int (0 : Int32)), .val (.ref b489), .val (.ref m529)] [(.int (0 : Int32)), (.ref xd0), (.ref xc0), (.ref m529)]))
          obtain ⟨_, _, ⟨T548, L548, k548, n548⟩, -, X548, ⟨Lc548, hQ548, l548, y548, z548⟩, st548⟩ := Jvm.LawKit.callS X537 hx (y := (⟨"com/example/settlewatt/settlewatt/model/TraceRecordInputsOfPinLaw", "has", "(Ljava/util/Map;Ljava/lang/String;Ljava/lang/String;Z)Z"⟩ : MethodName)) hown (mvT hZ (hw _ (List.mem_of_getElem? (i := 99) rfl))) (mvT hZ (hw _ (List.mem_of_getElem? (i := 100) rfl))) (mvT hZ (hw _ (List.mem_of_getElem? (i := 101) rfl))) (mvT hZ (hw _ (List.mem_of_getElem? (i := 102) rfl))) (by decide) (backOf (W := 0) (rmH00 l Z a0 hw [] m529 xc0 xd0 z a529 k523 t404 kt404 c0 T537.heap n0 (by exact y539) hz y538 SC y545 y546 y547 (y467.keep y540) (y468.keep y540 nin0) (y469.keep y540 nin0) (y470.keep y540 nin0) rg407 (by first | rfl | (unfold own_get0; rw []))) hZ (hw _ (List.mem_of_getElem? (i := 102) rfl)) (hw _ (List.mem_of_getElem? (i := 101) rfl)) (by decide) (by decide)) (g := (mkF m 292 #[.val (.int p1), .val (.int p2), .val (.int p3), .val (.int c0), .val (.int c1), .val (.int c2), .val (.ref xc0), .val (.ref xc1), .val (.ref xc2), .val (.ref xd0), .val (.ref xd1), .val (.ref xd2), .val (.int (0 : Int32)), .val (.ref b489), .val (.ref m529)] [(.int (0 : Int32)), (.ref xd0), (.ref xc0), (.ref m529)])) rfl (by rw [hml]; rfl) (argsL := [(.ref m529), (.ref xc0), (.ref xd0), (.int (0 : Int32))]) (rest := []) (lenOf pd_17 rfl) rfl (by show 2 * 0 + _ ≤ _; exact Nat.le_of_eq rfl) (hb hby at_292) (fun _ _ => ⟨rfl, rfl, (by decide : 17 + 2 ≤ _), (by decide : 40 + 3 ≤ _)⟩)
          dsimp only [Pt.U, Pt.locs, Pt.cells, Pt.slots] at X548 l548 y548 z548 st548 hQ548
          subst l548 y548 z548
          obtain ⟨rfl, N548q, K548⟩ := hQ548
          have N548 := Fr.app N537 N548q
          have y549 := (y538.keep K548 all0)
          have y550 := (Nat.le_trans y539 K548.1)
          have y551 := (y540.trans K548 all0)
          have y552 := (y541.keep K548 nin0)
          have y553 := (y542.keep K548)
          have y554 := (y543.keep K548 nin0)
          have y555 := (y544.keep K548)
          have y556 := (y545.keep K548)
          have y557 := (y546.keep K548 nin0)
          have y558 := (y547.keep K548 nin0)
          refine own_on st548 ?_
          show own_Fin p e below _ (T548.setTop (mkF m 295 #[.val (.int p1), .val (.int p2), .val (.int p3), .val (.int c0), .val (.int c1), .val (.int c2), .val (.ref xc0), .val (.ref xc1), .val (.ref xc2), .val (.ref xd0), .val (.ref xd1), .val (.ref xd2), .val (.int (0 : Int32)), .val (.ref b489), .val (.ref m529)] [(.int (1 : Int32))]))
          refine own_on (fun tq => XS.ifNo X548.here hx rfl (hb hby at_295) rfl ((if0 _ _).trans (feq (by decide : ¬ ((1 : Int32) = (0 : Int32)))).1)) ?_
          show own_Fin p e below _ (T548.setTop (mkF m 298 #[.val (.int p1), .val (.int p2), .val (.int p3), .val (.int c0), .val (.int c1), .val (.int c2), .val (.ref xc0), .val (.ref xc1), .val (.ref xc2), .val (.ref xd0), .val (.ref xd1), .val (.ref xd2), .val (.int (0 : Int32)), .val (.ref b489), .val (.ref m529)] []))
          refine own_on (fun tq => XS.aload X548.here hx rfl (hb hby at_298) rfl rfl) ?_
          show own_Fin p e below _ (T548.setTop (mkF m 300 #[.val (.int p1), .val (.int p2), .val (.int p3), .val (.int c0), .val (.int c1), .val (.int c2), .val (.ref xc0), .val (.ref xc1), .val (.ref xc2), .val (.ref xd0), .val (.ref xd1), .val (.ref xd2), .val (.int (0 : Int32)), .val (.ref b489), .val (.ref m529)] [(.ref m529)]))
          refine own_on (fun tq => XS.aload X548.here hx rfl (hb hby at_300) rfl rfl) ?_
          show own_Fin p e below _ (T548.setTop (mkF m 302 #[.val (.int p1), .val (.int p2), .val (.int p3), .val (.int c0), .val (.int c1), .val (.int c2), .val (.ref xc0), .val (.ref xc1), .val (.ref xc2), .val (.ref xd0), .val (.ref xd1), .val (.ref xd2), .val (.int (0 : Int32)), .val (.ref b489), .val (.ref m529)] [(.ref xc1), (.ref m529)]))
          refine own_on (fun tq => XS.aload X548.here hx rfl (hb hby at_302) rfl rfl) ?_
          show own_Fin p e below _ (T548.setTop (mkF m 304 #[.val (.int p1), .val (.int p2), .val (.int p3), .val (.int c0), .val (.int c1), .val (.int c2), .val (.ref xc0), .val (.ref xc1), .val (.ref xc2), .val (.ref xd0), .val (.ref xd1), .val (.ref xd2), .val (.int (0 : Int32)), .val (.ref b489), .val (.ref m529)] [(.ref xd1), (.ref xc1), (.ref m529)]))
          refine own_on (fun tq => XS.iload X548.here hx rfl (hb hby at_304) rfl) ?_
          show own_Fin p e below _ (T548.setTop (mkF m 306 #[.val (.int p1), .val (.int p2), .val (.int p3), .val (.int c0), .val (.int c1), .val (.int c2), .val (.ref xc0), .val (.ref xc1), .val (.ref xc2), .val (.ref xd0), .val (.ref xd1), .val (.ref xd2), .val (.int (0 : Int32)), .val (.ref b489), .val (.ref m529)] [(.int (0 : Int32)), (.ref xd1), (.ref xc1), (.ref m529)]))
          refine own_on (fun tq => XS.iconst X548.here hx rfl (hb hby at_306)) ?_
          show own_Fin p e below _ (T548.setTop (mkF m 307 #[.val (.int p1), .val (.int p2), .val (.int p3), .val (.int c0), .val (.int c1), .val (.int c2), .val (.ref xc0), .val (.ref xc1), .val (.ref xc2), .val (.ref xd0), .val (.ref xd1), .val (.ref xd2), .val (.int (0 : Int32)), .val (.ref b489), .val (.ref m529)] [(.int (2 : Int32)), (.int (0 : Int32)), (.ref xd1), (.ref xc1), (.ref m529)]))
          refine own_on (fun tq => XS.icmpYes X548.here hx rfl (pc0 := 307) (pc' := 314) rfl (hb hby at_307) rfl (tlt (by decide : (0 : Int32) < (2 : Int32))).1 (by decide) (by decide)) ?_
          show own_Fin p e below _ (T548.setTop (mkF m 314 #[.val (.int p1), .val (.int p2), .val (.int p3), .val (.int c0), .val (.int c1), .val (.int c2), .val (.ref xc0), .val (.ref xc1), .val (.ref xc2), .val (.ref xd0), .val (.ref xd1), .val (.ref xd2), .val (.int (0 : Int32)), .val (.ref b489), .val (.ref m529)] [(.ref xd1), (.ref xc1), (.ref m529)]))
          refine own_on (fun tq => XS.iconst X548.here hx rfl (hb hby at_314)) ?_
          show own_Fin p e below _ (T548.setTop (mkF m 315 #[.val (.int p1), .val (.int p2), .val (.int p3), .val (.int c0), .val (.int c1), .val (.int c2), .val (.ref xc0), .val (.ref xc1), .val (.ref xc2), .val (.ref xd0), .val (.ref xd1), .val (.ref xd2), .val (.int (0 : Int32)), .val (.ref b489), .val (.ref m529)] [(.int (0 : Int32)), (.ref xd1), (.ref xc1), (.ref m529)]))
          obtain ⟨_, _, ⟨T559, L559, k559, n559⟩, -, X559, ⟨Lc559, hQ559, l559, y559, z559⟩, st559⟩ := Jvm.LawKit.callS X548 hx (y := (⟨"com/example/settlewatt/settlewatt/model/TraceRecordInputsOfPinLaw", "has", "(Ljava/util/Map;Ljava/lang/String;Ljava/lang/String;Z)Z"⟩ : MethodName)) hown (mvT hZ (hw _ (List.mem_of_getElem? (i := 99) rfl))) (mvT hZ (hw _ (List.mem_of_getElem? (i := 100) rfl))) (mvT hZ (hw _ (List.mem_of_getElem? (i := 101) rfl))) (mvT hZ (hw _ (List.mem_of_getElem? (i := 102) rfl))) (by decide) (backOf (W := 0) (rmH00 l Z a0 hw [] m529 xc1 xd1 z a529 k523 t408 kt408 c1 T548.heap n0 (by exact y550) hz y549 SC y556 y557 y558 (y471.keep y551) (y472.keep y551 nin0) (y473.keep y551 nin0) (y474.keep y551 nin0) rg415 (by first | rfl | (unfold own_get0; rw []))) hZ (hw _ (List.mem_of_getElem? (i := 102) rfl)) (hw _ (List.mem_of_getElem? (i := 101) rfl)) (by decide) (by decide)) (g := (mkF m 315 #[.val (.int p1), .val (.int p2), .val (.int p3), .val (.int c0), .val (.int c1), .val (.int c2), .val (.ref xc0), .val (.ref xc1), .val (.ref xc2), .val (.ref xd0), .val (.ref xd1), .val (.ref xd2), .val (.int (0 : Int32)), .val (.ref b489), .val (.ref m529)] [(.int (0 : Int32)), (.ref xd1), (.ref xc1), (.ref m529)])) rfl (by rw [hml]; rfl) (argsL := [(.ref m529), (.ref xc1), (.ref xd1), (.int (0 : Int32))]) (rest := []) (lenOf pd_17 rfl) rfl (by show 2 * 0 + _ ≤ _; exact Nat.le_of_eq rfl) (hb hby at_315) (fun _ _ => ⟨rfl, rfl, (by decide : 19 + 2 ≤ _), (by decide : 43 + 3 ≤ _)⟩)
          dsimp only [Pt.U, Pt.locs, Pt.cells, Pt.slots] at X559 l559 y559 z559 st559 hQ559
          subst l559 y559 z559
          obtain ⟨rfl, N559q, K559⟩ := hQ559
          have N559 := Fr.app N548 N559q
          have y560 := (y549.keep K559 all0)
          have y561 := (Nat.le_trans y550 K559.1)
          have y562 := (y551.trans K559 all0)
          have y563 := (y552.keep K559 nin0)
          have y564 := (y553.keep K559)
          have y565 := (y554.keep K559 nin0)
          have y566 := (y555.keep K559)
          have y567 := (y556.keep K559)
          have y568 := (y557.keep K559 nin0)
          have y569 := (y558.keep K559 nin0)
          refine own_on st559 ?_
          show own_Fin p e below _ (T559.setTop (mkF m 318 #[.val (.int p1), .val (.int p2), .val (.int p3), .val (.int c0), .val (.int c1), .val (.int c2), .val (.ref xc0), .val (.ref xc1), .val (.ref xc2), .val (.ref xd0), .val (.ref xd1), .val (.ref xd2), .val (.int (0 : Int32)), .val (.ref b489), .val (.ref m529)] [(.int (1 : Int32))]))
          refine own_on (fun tq => XS.ifNo X559.here hx rfl (hb hby at_318) rfl ((if0 _ _).trans (feq (by decide : ¬ ((1 : Int32) = (0 : Int32)))).1)) ?_
          show own_Fin p e below _ (T559.setTop (mkF m 321 #[.val (.int p1), .val (.int p2), .val (.int p3), .val (.int c0), .val (.int c1), .val (.int c2), .val (.ref xc0), .val (.ref xc1), .val (.ref xc2), .val (.ref xd0), .val (.ref xd1), .val (.ref xd2), .val (.int (0 : Int32)), .val (.ref b489), .val (.ref m529)] []))
          refine own_on (fun tq => XS.aload X559.here hx rfl (hb hby at_321) rfl rfl) ?_
          show own_Fin p e below _ (T559.setTop (mkF m 323 #[.val (.int p1), .val (.int p2), .val (.int p3), .val (.int c0), .val (.int c1), .val (.int c2), .val (.ref xc0), .val (.ref xc1), .val (.ref xc2), .val (.ref xd0), .val (.ref xd1), .val (.ref xd2), .val (.int (0 : Int32)), .val (.ref b489), .val (.ref m529)] [(.ref m529)]))
          refine own_on (fun tq => XS.aload X559.here hx rfl (hb hby at_323) rfl rfl) ?_
          show own_Fin p e below _ (T559.setTop (mkF m 325 #[.val (.int p1), .val (.int p2), .val (.int p3), .val (.int c0), .val (.int c1), .val (.int c2), .val (.ref xc0), .val (.ref xc1), .val (.ref xc2), .val (.ref xd0), .val (.ref xd1), .val (.ref xd2), .val (.int (0 : Int32)), .val (.ref b489), .val (.ref m529)] [(.ref xc2), (.ref m529)]))
          refine own_on (fun tq => XS.aload X559.here hx rfl (hb hby at_325) rfl rfl) ?_
          show own_Fin p e below _ (T559.setTop (mkF m 327 #[.val (.int p1), .val (.int p2), .val (.int p3), .val (.int c0), .val (.int c1), .val (.int c2), .val (.ref xc0), .val (.ref xc1), .val (.ref xc2), .val (.ref xd0), .val (.ref xd1), .val (.ref xd2), .val (.int (0 : Int32)), .val (.ref b489), .val (.ref m529)] [(.ref xd2), (.ref xc2), (.ref m529)]))
          refine own_on (fun tq => XS.iload X559.here hx rfl (hb hby at_327) rfl) ?_
          show own_Fin p e below _ (T559.setTop (mkF m 329 #[.val (.int p1), .val (.int p2), .val (.int p3), .val (.int c0), .val (.int c1), .val (.int c2), .val (.ref xc0), .val (.ref xc1), .val (.ref xc2), .val (.ref xd0), .val (.ref xd1), .val (.ref xd2), .val (.int (0 : Int32)), .val (.ref b489), .val (.ref m529)] [(.int (0 : Int32)), (.ref xd2), (.ref xc2), (.ref m529)]))
          refine own_on (fun tq => XS.iconst X559.here hx rfl (hb hby at_329)) ?_
          show own_Fin p e below _ (T559.setTop (mkF m 330 #[.val (.int p1), .val (.int p2), .val (.int p3), .val (.int c0), .val (.int c1), .val (.int c2), .val (.ref xc0), .val (.ref xc1), .val (.ref xc2), .val (.ref xd0), .val (.ref xd1), .val (.ref xd2), .val (.int (0 : Int32)), .val (.ref b489), .val (.ref m529)] [(.int (3 : Int32)), (.int (0 : Int32)), (.ref xd2), (.ref xc2), (.ref m529)]))
          refine own_on (fun tq => XS.icmpYes X559.here hx rfl (pc0 := 330) (pc' := 337) rfl (hb hby at_330) rfl (tlt (by decide : (0 : Int32) < (3 : Int32))).1 (by decide) (by decide)) ?_
          show own_Fin p e below _ (T559.setTop (mkF m 337 #[.val (.int p1), .val (.int p2), .val (.int p3), .val (.int c0), .val (.int c1), .val (.int c2), .val (.ref xc0), .val (.ref xc1), .val (.ref xc2), .val (.ref xd0), .val (.ref xd1), .val (.ref xd2), .val (.int (0 : Int32)), .val (.ref b489), .val (.ref m529)] [(.ref xd2), (.ref xc2), (.ref m529)]))
          refine own_on (fun tq => XS.iconst X559.here hx rfl (hb hby at_337)) ?_
          show own_Fin p e below _ (T559.setTop (mkF m 338 #[.val (.int p1), .val (.int p2), .val (.int p3), .val (.int c0), .val (.int c1), .val (.int c2), .val (.ref xc0), .val (.ref xc1), .val (.ref xc2), .val (.ref xd0), .val (.ref xd1), .val (.ref xd2), .val (.int (0 : Int32)), .val (.ref b489), .val (.ref m529)] [(.int (0 : Int32)), (.ref xd2), (.ref xc2), (.ref m529)]))
          obtain ⟨_, _, ⟨T570, L570, k570, n570⟩, -, X570, ⟨Lc570, hQ570, l570, y570, z570⟩, st570⟩ := Jvm.LawKit.callS X559 hx (y := (⟨"com/example/settlewatt/settlewatt/model/TraceRecordInputsOfPinLaw", "has", "(Ljava/util/Map;Ljava/lang/String;Ljava/lang/String;Z)Z"⟩ : MethodName)) hown (mvT hZ (hw _ (List.mem_of_getElem? (i := 99) rfl))) (mvT hZ (hw _ (List.mem_of_getElem? (i := 100) rfl))) (mvT hZ (hw _ (List.mem_of_getElem? (i := 101) rfl))) (mvT hZ (hw _ (List.mem_of_getElem? (i := 102) rfl))) (by decide) (backOf (W := 0) (rmH00 l Z a0 hw [] m529 xc2 xd2 z a529 k523 t416 kt416 c2 T559.heap n0 (by exact y561) hz y560 SC y567 y568 y569 (y475.keep y562) (y476.keep y562 nin0) (y477.keep y562 nin0) (y478.keep y562 nin0) rg427 (by first | rfl | (unfold own_get0; rw []))) hZ (hw _ (List.mem_of_getElem? (i := 102) rfl)) (hw _ (List.mem_of_getElem? (i := 101) rfl)) (by decide) (by decide)) (g := (mkF m 338 #[.val (.int p1), .val (.int p2), .val (.int p3), .val (.int c0), .val (.int c1), .val (.int c2), .val (.ref xc0), .val (.ref xc1), .val (.ref xc2), .val (.ref xd0), .val (.ref xd1), .val (.ref xd2), .val (.int (0 : Int32)), .val (.ref b489), .val (.ref m529)] [(.int (0 : Int32)), (.ref xd2), (.ref xc2), (.ref m529)])) rfl (by rw [hml]; rfl) (argsL := [(.ref m529), (.ref xc2), (.ref xd2), (.int (0 : Int32))]) (rest := []) (lenOf pd_17 rfl) rfl (by show 2 * 0 + _ ≤ _; exact Nat.le_of_eq rfl) (hb hby at_338) (fun _ _ => ⟨rfl, rfl, (by decide : 21 + 2 ≤ _), (by decide : 46 + 3 ≤ _)⟩)
          dsimp only [Pt.U, Pt.locs, Pt.cells, Pt.slots] at X570 l570 y570 z570 st570 hQ570
          subst l570 y570 z570
          obtain ⟨rfl, N570q, K570⟩ := hQ570
          have N570 := Fr.app N559 N570q
          have y571 := (y560.keep K570 all0)
          have y572 := (Nat.le_trans y561 K570.1)
          have y573 := (y562.trans K570 all0)
          have y574 := (y563.keep K570 nin0)
          have y575 := (y564.keep K570)
          have y576 := (y565.keep K570 nin0)
          have y577 := (y566.keep K570)
          have y578 := (y567.keep K570)
          have y579 := (y568.keep K570 nin0)
          have y580 := (y569.keep K570 nin0)
          refine own_on st570 ?_
          show own_Fin p e below _ (T570.setTop (mkF m 341 #[.val (.int p1), .val (.int p2), .val (.int p3), .val (.int c0), .val (.int c1), .val (.int c2), .val (.ref xc0), .val (.ref xc1), .val (.ref xc2), .val (.ref xd0), .val (.ref xd1), .val (.ref xd2), .val (.int (0 : Int32)), .val (.ref b489), .val (.ref m529)] [(.int (1 : Int32))]))
          refine own_on (fun tq => XS.ifNo X570.here hx rfl (hb hby at_341) rfl ((if0 _ _).trans (feq (by decide : ¬ ((1 : Int32) = (0 : Int32)))).1)) ?_
          show own_Fin p e below _ (T570.setTop (mkF m 344 #[.val (.int p1), .val (.int p2), .val (.int p3), .val (.int c0), .val (.int c1), .val (.int c2), .val (.ref xc0), .val (.ref xc1), .val (.ref xc2), .val (.ref xd0), .val (.ref xd1), .val (.ref xd2), .val (.int (0 : Int32)), .val (.ref b489), .val (.ref m529)] []))
          refine own_on (fun tq => XS.iconst X570.here hx rfl (hb hby at_344)) ?_
          show own_Fin p e below _ (T570.setTop (mkF m 345 #[.val (.int p1), .val (.int p2), .val (.int p3), .val (.int c0), .val (.int c1), .val (.int c2), .val (.ref xc0), .val (.ref xc1), .val (.ref xc2), .val (.ref xd0), .val (.ref xd1), .val (.ref xd2), .val (.int (0 : Int32)), .val (.ref b489), .val (.ref m529)] [(.int (1 : Int32))]))
          refine own_on (fun tq => XS.goto X570.here hx rfl (pc0 := 345) (pc' := 349) rfl (hb hby at_345) (by decide) (by decide)) ?_
          show own_Fin p e below _ (T570.setTop (mkF m 349 #[.val (.int p1), .val (.int p2), .val (.int p3), .val (.int c0), .val (.int c1), .val (.int c2), .val (.ref xc0), .val (.ref xc1), .val (.ref xc2), .val (.ref xd0), .val (.ref xd1), .val (.ref xd2), .val (.int (0 : Int32)), .val (.ref b489), .val (.ref m529)] [(.int (1 : Int32))]))
          exact own_ret (t := .boolean) X570 hx hlk hret rfl (Or.inl ⟨rfl, (by simp), _, rfl⟩) (hb hby at_349) (⟨rfl, N570⟩) (by decide) (by decide)
        · rw [hn]
          show own_Fin p e below _ (T464.setTop (mkF m 112 #[.val (.int p1), .val (.int p2), .val (.int p3), .val (.int c0), .val (.int c1), .val (.int c2), .val (.ref xc0), .val (.ref xc1), .val (.ref xc2), .val (.ref xd0), .val (.ref xd1), .val (.ref xd2), .unset, .unset, .unset] [(.int (1 : Int32))]))
          refine own_on (fun tq => XS.istore X464.here hx rfl (hb hby at_112) rfl (l' := #[.val (.int p1), .val (.int p2), .val (.int p3), .val (.int c0), .val (.int c1), .val (.int c2), .val (.ref xc0), .val (.ref xc1), .val (.ref xc2), .val (.ref xd0), .val (.ref xd1), .val (.ref xd2), .val (.int (1 : Int32)), .unset, .unset]) rfl) ?_
          show own_Fin p e below _ (T464.setTop (mkF m 114 #[.val (.int p1), .val (.int p2), .val (.int p3), .val (.int c0), .val (.int c1), .val (.int c2), .val (.ref xc0), .val (.ref xc1), .val (.ref xc2), .val (.ref xd0), .val (.ref xd1), .val (.ref xd2), .val (.int (1 : Int32)), .unset, .unset] []))
          refine own_on (fun tq => XS.bipush X464.here hx rfl (hb hby at_114)) ?_
          show own_Fin p e below _ (T464.setTop (mkF m 116 #[.val (.int p1), .val (.int p2), .val (.int p3), .val (.int c0), .val (.int c1), .val (.int c2), .val (.ref xc0), .val (.ref xc1), .val (.ref xc2), .val (.ref xd0), .val (.ref xd1), .val (.ref xd2), .val (.int (1 : Int32)), .unset, .unset] [(.int (6 : Int32))]))
          obtain ⟨T581, h581, k581, X581, e581, E581, A581, D581, O581, st581⟩ := newRE X464 hx hZ hown (hw _ (List.mem_of_getElem? (i := 26) rfl)) (hw _ (List.mem_of_getElem? (i := 27) rfl)) rfl (g := (mkF m 116 #[.val (.int p1), .val (.int p2), .val (.int p3), .val (.int c0), .val (.int c1), .val (.int c2), .val (.ref xc0), .val (.ref xc1), .val (.ref xc2), .val (.ref xd0), .val (.ref xd1), .val (.ref xd2), .val (.int (1 : Int32)), .unset, .unset] [(.int (6 : Int32))])) rfl (hb hby at_116) rfl (by decide) (cap := 6) (by decide) (by decide) (by decide) (by decide) (ad := "[Ljava/lang/String;") (by decide)
          obtain ⟨b581, g581⟩ : ∃ z, z = T464.heap.size := ⟨_, rfl⟩
          rw [← g581] at A581 D581 st581
          have y582 := (y465.ext E581)
          have y583 := (Nat.le_trans y466 E581.1)
          have y584 := (y488.ext E581)
          have gn581 : n0 ≤ b581 := Nat.le_trans y466 (Nat.le_of_eq g581.symm)
          have gk581 : T464.heap.size ≤ b581 := Nat.le_trans y488.1 (Nat.le_of_eq g581.symm)
          have V581 : Arv Z h581 b581 k581 (.object "java/lang/String") (6 : Int32) [.null, .null, .null, .null, .null, .null] .null := (Arv.new A581 (by decide)).pad (pad_rep [] .null 6)
          refine own_on st581 ?_
          show own_Fin p e below _ (T581.setTop (mkF m 119 #[.val (.int p1), .val (.int p2), .val (.int p3), .val (.int c0), .val (.int c1), .val (.int c2), .val (.ref xc0), .val (.ref xc1), .val (.ref xc2), .val (.ref xd0), .val (.ref xd1), .val (.ref xd2), .val (.int (1 : Int32)), .unset, .unset] [(.ref b581)]))
          refine own_on (fun tq => XS.dup X581.here hx rfl (hb hby at_119) rfl rfl) ?_
          show own_Fin p e below _ (T581.setTop (mkF m 120 #[.val (.int p1), .val (.int p2), .val (.int p3), .val (.int c0), .val (.int c1), .val (.int c2), .val (.ref xc0), .val (.ref xc1), .val (.ref xc2), .val (.ref xd0), .val (.ref xd1), .val (.ref xd2), .val (.int (1 : Int32)), .unset, .unset] [(.ref b581), (.ref b581)]))
          refine own_on (fun tq => XS.iconst X581.here hx rfl (hb hby at_120)) ?_
          show own_Fin p e below _ (T581.setTop (mkF m 121 #[.val (.int p1), .val (.int p2), .val (.int p3), .val (.int c0), .val (.int c1), .val (.int c2), .val (.ref xc0), .val (.ref xc1), .val (.ref xc2), .val (.ref xd0), .val (.ref xd1), .val (.ref xd2), .val (.int (1 : Int32)), .unset, .unset] [(.int (0 : Int32)), (.ref b581), (.ref b581)]))
          refine own_on (fun tq => XS.aload X581.here hx rfl (hb hby at_121) rfl rfl) ?_
          show own_Fin p e below _ (T581.setTop (mkF m 123 #[.val (.int p1), .val (.int p2), .val (.int p3), .val (.int c0), .val (.int c1), .val (.int c2), .val (.ref xc0), .val (.ref xc1), .val (.ref xc2), .val (.ref xd0), .val (.ref xd1), .val (.ref xd2), .val (.int (1 : Int32)), .unset, .unset] [(.ref xc0), (.int (0 : Int32)), (.ref b581), (.ref b581)]))
          have cp585 := V581
          obtain ⟨cl585, Ar585, q585, S585, G585, H585, F585⟩ := cp585
          have hin585 : ¬ ((0 : Int32) < 0 ∨ cl585.slots.size ≤ ((0 : Int32)).toNatClampNeg) := inb_of S585 ⟨by decide, by decide⟩
          obtain ⟨T585, h585, X585, e585, W585, st585⟩ := stR X581 hx hZ e581 Ar585 (j := (0 : Int32)) hin585 rfl (Sto.ofV Ar585 q585 O581 (Ins.self (y467.keep y584))) (g := (mkF m 123 #[.val (.int p1), .val (.int p2), .val (.int p3), .val (.int c0), .val (.int c1), .val (.int c2), .val (.ref xc0), .val (.ref xc1), .val (.ref xc2), .val (.ref xd0), .val (.ref xd1), .val (.ref xd2), .val (.int (1 : Int32)), .unset, .unset] [(.ref xc0), (.int (0 : Int32)), (.ref b581), (.ref b581)])) rfl rfl (hb hby at_123)
          have V585 : Arv Z h585 b581 k581 (.object "java/lang/String") (6 : Int32) [(.ref xc0), .null, .null, .null, .null, .null] .null := Arv.set Ar585 q585 S585 G585 H585 F585 rfl W585 0 rfl (Nat.le_of_ble_eq_true rfl)
          have N585 := Fr.snoc X585 N464 gn581
          have y586 := (y582.wr W585 gn581)
          have y587 := (Nat.le_trans y583 (Keep.of_wr W585).1)
          have y588 := (y584.wr W585 (Or.inr gk581))
          have y589 := (D581.wr W585)
          refine own_on st585 ?_
          show own_Fin p e below _ (T585.setTop (mkF m 124 #[.val (.int p1), .val (.int p2), .val (.int p3), .val (.int c0), .val (.int c1), .val (.int c2), .val (.ref xc0), .val (.ref xc1), .val (.ref xc2), .val (.ref xd0), .val (.ref xd1), .val (.ref xd2), .val (.int (1 : Int32)), .unset, .unset] [(.ref b581)]))
          refine own_on (fun tq => XS.dup X585.here hx rfl (hb hby at_124) rfl rfl) ?_
          show own_Fin p e below _ (T585.setTop (mkF m 125 #[.val (.int p1), .val (.int p2), .val (.int p3), .val (.int c0), .val (.int c1), .val (.int c2), .val (.ref xc0), .val (.ref xc1), .val (.ref xc2), .val (.ref xd0), .val (.ref xd1), .val (.ref xd2), .val (.int (1 : Int32)), .unset, .unset] [(.ref b581), (.ref b581)]))
          refine own_on (fun tq => XS.iconst X585.here hx rfl (hb hby at_125)) ?_
          show own_Fin p e below _ (T585.setTop (mkF m 126 #[.val (.int p1), .val (.int p2), .val (.int p3), .val (.int c0), .val (.int c1), .val (.int c2), .val (.ref xc0), .val (.ref xc1), .val (.ref xc2), .val (.ref xd0), .val (.ref xd1), .val (.ref xd2), .val (.int (1 : Int32)), .unset, .unset] [(.int (1 : Int32)), (.ref b581), (.ref b581)]))
          refine own_on (fun tq => XS.aload X585.here hx rfl (hb hby at_126) rfl rfl) ?_
          show own_Fin p e below _ (T585.setTop (mkF m 128 #[.val (.int p1), .val (.int p2), .val (.int p3), .val (.int c0), .val (.int c1), .val (.int c2), .val (.ref xc0), .val (.ref xc1), .val (.ref xc2), .val (.ref xd0), .val (.ref xd1), .val (.ref xd2), .val (.int (1 : Int32)), .unset, .unset] [(.ref xd0), (.int (1 : Int32)), (.ref b581), (.ref b581)]))
          have cp590 := V585
          obtain ⟨cl590, Ar590, q590, S590, G590, H590, F590⟩ := cp590
          have hin590 : ¬ ((1 : Int32) < 0 ∨ cl590.slots.size ≤ ((1 : Int32)).toNatClampNeg) := inb_of S590 ⟨by decide, by decide⟩
          obtain ⟨T590, h590, X590, e590, W590, st590⟩ := stR X585 hx hZ e585 Ar590 (j := (1 : Int32)) hin590 rfl (Sto.ofV Ar590 q590 O581 (Ins.self (y479.keep y588))) (g := (mkF m 128 #[.val (.int p1), .val (.int p2), .val (.int p3), .val (.int c0), .val (.int c1), .val (.int c2), .val (.ref xc0), .val (.ref xc1), .val (.ref xc2), .val (.ref xd0), .val (.ref xd1), .val (.ref xd2), .val (.int (1 : Int32)), .unset, .unset] [(.ref xd0), (.int (1 : Int32)), (.ref b581), (.ref b581)])) rfl rfl (hb hby at_128)
          have V590 : Arv Z h590 b581 k581 (.object "java/lang/String") (6 : Int32) [(.ref xc0), (.ref xd0), .null, .null, .null, .null] .null := Arv.set Ar590 q590 S590 G590 H590 F590 rfl W590 1 rfl (Nat.le_of_ble_eq_true rfl)
          have N590 := Fr.snoc X590 N585 gn581
          have y591 := (y586.wr W590 gn581)
          have y592 := (Nat.le_trans y587 (Keep.of_wr W590).1)
          have y593 := (y588.wr W590 (Or.inr gk581))
          have y594 := (y589.wr W590)
          refine own_on st590 ?_
          show own_Fin p e below _ (T590.setTop (mkF m 129 #[.val (.int p1), .val (.int p2), .val (.int p3), .val (.int c0), .val (.int c1), .val (.int c2), .val (.ref xc0), .val (.ref xc1), .val (.ref xc2), .val (.ref xd0), .val (.ref xd1), .val (.ref xd2), .val (.int (1 : Int32)), .unset, .unset] [(.ref b581)]))
          refine own_on (fun tq => XS.dup X590.here hx rfl (hb hby at_129) rfl rfl) ?_
          show own_Fin p e below _ (T590.setTop (mkF m 130 #[.val (.int p1), .val (.int p2), .val (.int p3), .val (.int c0), .val (.int c1), .val (.int c2), .val (.ref xc0), .val (.ref xc1), .val (.ref xc2), .val (.ref xd0), .val (.ref xd1), .val (.ref xd2), .val (.int (1 : Int32)), .unset, .unset] [(.ref b581), (.ref b581)]))
          refine own_on (fun tq => XS.iconst X590.here hx rfl (hb hby at_130)) ?_
          show own_Fin p e below _ (T590.setTop (mkF m 131 #[.val (.int p1), .val (.int p2), .val (.int p3), .val (.int c0), .val (.int c1), .val (.int c2), .val (.ref xc0), .val (.ref xc1), .val (.ref xc2), .val (.ref xd0), .val (.ref xd1), .val (.ref xd2), .val (.int (1 : Int32)), .unset, .unset] [(.int (2 : Int32)), (.ref b581), (.ref b581)]))
          refine own_on (fun tq => XS.aload X590.here hx rfl (hb hby at_131) rfl rfl) ?_
          show own_Fin p e below _ (T590.setTop (mkF m 133 #[.val (.int p1), .val (.int p2), .val (.int p3), .val (.int c0), .val (.int c1), .val (.int c2), .val (.ref xc0), .val (.ref xc1), .val (.ref xc2), .val (.ref xd0), .val (.ref xd1), .val (.ref xd2), .val (.int (1 : Int32)), .unset, .unset] [(.ref xc1), (.int (2 : Int32)), (.ref b581), (.ref b581)]))
          have cp595 := V590
          obtain ⟨cl595, Ar595, q595, S595, G595, H595, F595⟩ := cp595
          have hin595 : ¬ ((2 : Int32) < 0 ∨ cl595.slots.size ≤ ((2 : Int32)).toNatClampNeg) := inb_of S595 ⟨by decide, by decide⟩
          obtain ⟨T595, h595, X595, e595, W595, st595⟩ := stR X590 hx hZ e590 Ar595 (j := (2 : Int32)) hin595 rfl (Sto.ofV Ar595 q595 O581 (Ins.self (y471.keep y593))) (g := (mkF m 133 #[.val (.int p1), .val (.int p2), .val (.int p3), .val (.int c0), .val (.int c1), .val (.int c2), .val (.ref xc0), .val (.ref xc1), .val (.ref xc2), .val (.ref xd0), .val (.ref xd1), .val (.ref xd2), .val (.int (1 : Int32)), .unset, .unset] [(.ref xc1), (.int (2 : Int32)), (.ref b581), (.ref b581)])) rfl rfl (hb hby at_133)
          have V595 : Arv Z h595 b581 k581 (.object "java/lang/String") (6 : Int32) [(.ref xc0), (.ref xd0), (.ref xc1), .null, .null, .null] .null := Arv.set Ar595 q595 S595 G595 H595 F595 rfl W595 2 rfl (Nat.le_of_ble_eq_true rfl)
          have N595 := Fr.snoc X595 N590 gn581
          have y596 := (y591.wr W595 gn581)
          have y597 := (Nat.le_trans y592 (Keep.of_wr W595).1)
          have y598 := (y593.wr W595 (Or.inr gk581))
          have y599 := (y594.wr W595)
          refine own_on st595 ?_
          show own_Fin p e below _ (T595.setTop (mkF m 134 #[.val (.int p1), .val (.int p2), .val (.int p3), .val (.int c0), .val (.int c1), .val (.int c2), .val (.ref xc0), .val (.ref xc1), .val (.ref xc2), .val (.ref xd0), .val (.ref xd1), .val (.ref xd2), .val (.int (1 : Int32)), .unset, .unset] [(.ref b581)]))
          refine own_on (fun tq => XS.dup X595.here hx rfl (hb hby at_134) rfl rfl) ?_
          show own_Fin p e below _ (T595.setTop (mkF m 135 #[.val (.int p1), .val (.int p2), .val (.int p3), .val (.int c0), .val (.int c1), .val (.int c2), .val (.ref xc0), .val (.ref xc1), .val (.ref xc2), .val (.ref xd0), .val (.ref xd1), .val (.ref xd2), .val (.int (1 : Int32)), .unset, .unset] [(.ref b581), (.ref b581)]))
          refine own_on (fun tq => XS.iconst X595.here hx rfl (hb hby at_135)) ?_
          show own_Fin p e below _ (T595.setTop (mkF m 136 #[.val (.int p1), .val (.int p2), .val (.int p3), .val (.int c0), .val (.int c1), .val (.int c2), .val (.ref xc0), .val (.ref xc1), .val (.ref xc2), .val (.ref xd0), .val (.ref xd1), .val (.ref xd2), .val (.int (1 : Int32)), .unset, .unset] [(.int (3 : Int32)), (.ref b581), (.ref b581)]))
          refine own_on (fun tq => XS.aload X595.here hx rfl (hb hby at_136) rfl rfl) ?_
          show own_Fin p e below _ (T595.setTop (mkF m 138 #[.val (.int p1), .val (.int p2), .val (.int p3), .val (.int c0), .val (.int c1), .val (.int c2), .val (.ref xc0), .val (.ref xc1), .val (.ref xc2), .val (.ref xd0), .val (.ref xd1), .val (.ref xd2), .val (.int (1 : Int32)), .unset, .unset] [(.ref xd1), (.int (3 : Int32)), (.ref b581), (.ref b581)]))
          have cp600 := V595
          obtain ⟨cl600, Ar600, q600, S600, G600, H600, F600⟩ := cp600
          have hin600 : ¬ ((3 : Int32) < 0 ∨ cl600.slots.size ≤ ((3 : Int32)).toNatClampNeg) := inb_of S600 ⟨by decide, by decide⟩
          obtain ⟨T600, h600, X600, e600, W600, st600⟩ := stR X595 hx hZ e595 Ar600 (j := (3 : Int32)) hin600 rfl (Sto.ofV Ar600 q600 O581 (Ins.self (y483.keep y598))) (g := (mkF m 138 #[.val (.int p1), .val (.int p2), .val (.int p3), .val (.int c0), .val (.int c1), .val (.int c2), .val (.ref xc0), .val (.ref xc1), .val (.ref xc2), .val (.ref xd0), .val (.ref xd1), .val (.ref xd2), .val (.int (1 : Int32)), .unset, .unset] [(.ref xd1), (.int (3 : Int32)), (.ref b581), (.ref b581)])) rfl rfl (hb hby at_138)
          have V600 : Arv Z h600 b581 k581 (.object "java/lang/String") (6 : Int32) [(.ref xc0), (.ref xd0), (.ref xc1), (.ref xd1), .null, .null] .null := Arv.set Ar600 q600 S600 G600 H600 F600 rfl W600 3 rfl (Nat.le_of_ble_eq_true rfl)
          have N600 := Fr.snoc X600 N595 gn581
          have y601 := (y596.wr W600 gn581)
          have y602 := (Nat.le_trans y597 (Keep.of_wr W600).1)
          have y603 := (y598.wr W600 (Or.inr gk581))
          have y604 := (y599.wr W600)
          refine own_on st600 ?_
          show own_Fin p e below _ (T600.setTop (mkF m 139 #[.val (.int p1), .val (.int p2), .val (.int p3), .val (.int c0), .val (.int c1), .val (.int c2), .val (.ref xc0), .val (.ref xc1), .val (.ref xc2), .val (.ref xd0), .val (.ref xd1), .val (.ref xd2), .val (.int (1 : Int32)), .unset, .unset] [(.ref b581)]))
          refine own_on (fun tq => XS.dup X600.here hx rfl (hb hby at_139) rfl rfl) ?_
          show own_Fin p e below _ (T600.setTop (mkF m 140 #[.val (.int p1), .val (.int p2), .val (.int p3), .val (.int c0), .val (.int c1), .val (.int c2), .val (.ref xc0), .val (.ref xc1), .val (.ref xc2), .val (.ref xd0), .val (.ref xd1), .val (.ref xd2), .val (.int (1 : Int32)), .unset, .unset] [(.ref b581), (.ref b581)]))
          refine own_on (fun tq => XS.iconst X600.here hx rfl (hb hby at_140)) ?_
          show own_Fin p e below _ (T600.setTop (mkF m 141 #[.val (.int p1), .val (.int p2), .val (.int p3), .val (.int c0), .val (.int c1), .val (.int c2), .val (.ref xc0), .val (.ref xc1), .val (.ref xc2), .val (.ref xd0), .val (.ref xd1), .val (.ref xd2), .val (.int (1 : Int32)), .unset, .unset] [(.int (4 : Int32)), (.ref b581), (.ref b581)]))
          refine own_on (fun tq => XS.aload X600.here hx rfl (hb hby at_141) rfl rfl) ?_
          show own_Fin p e below _ (T600.setTop (mkF m 143 #[.val (.int p1), .val (.int p2), .val (.int p3), .val (.int c0), .val (.int c1), .val (.int c2), .val (.ref xc0), .val (.ref xc1), .val (.ref xc2), .val (.ref xd0), .val (.ref xd1), .val (.ref xd2), .val (.int (1 : Int32)), .unset, .unset] [(.ref xc2), (.int (4 : Int32)), (.ref b581), (.ref b581)]))
          have cp605 := V600
          obtain ⟨cl605, Ar605, q605, S605, G605, H605, F605⟩ := cp605
          have hin605 : ¬ ((4 : Int32) < 0 ∨ cl605.slots.size ≤ ((4 : Int32)).toNatClampNeg) := inb_of S605 ⟨by decide, by decide⟩
          obtain ⟨T605, h605, X605, e605, W605, st605⟩ := stR X600 hx hZ e600 Ar605 (j := (4 : Int32)) hin605 rfl (Sto.ofV Ar605 q605 O581 (Ins.self (y475.keep y603))) (g := (mkF m 143 #[.val (.int p1), .val (.int p2), .val (.int p3), .val (.int c0), .val (.int c1), .val (.int c2), .val (.ref xc0), .val (.ref xc1), .val (.ref xc2), .val (.ref xd0), .val (.ref xd1), .val (.ref xd2), .val (.int (1 : Int32)), .unset, .unset] [(.ref xc2), (.int (4 : Int32)), (.ref b581), (.ref b581)])) rfl rfl (hb hby at_143)
          have V605 : Arv Z h605 b581 k581 (.object "java/lang/String") (6 : Int32) [(.ref xc0), (.ref xd0), (.ref xc1), (.ref xd1), (.ref xc2), .null] .null := Arv.set Ar605 q605 S605 G605 H605 F605 rfl W605 4 rfl (Nat.le_of_ble_eq_true rfl)
          have N605 := Fr.snoc X605 N600 gn581
          have y606 := (y601.wr W605 gn581)
          have y607 := (Nat.le_trans y602 (Keep.of_wr W605).1)
          have y608 := (y603.wr W605 (Or.inr gk581))
          have y609 := (y604.wr W605)
          refine own_on st605 ?_
          show own_Fin p e below _ (T605.setTop (mkF m 144 #[.val (.int p1), .val (.int p2), .val (.int p3), .val (.int c0), .val (.int c1), .val (.int c2), .val (.ref xc0), .val (.ref xc1), .val (.ref xc2), .val (.ref xd0), .val (.ref xd1), .val (.ref xd2), .val (.int (1 : Int32)), .unset, .unset] [(.ref b581)]))
          refine own_on (fun tq => XS.dup X605.here hx rfl (hb hby at_144) rfl rfl) ?_
          show own_Fin p e below _ (T605.setTop (mkF m 145 #[.val (.int p1), .val (.int p2), .val (.int p3), .val (.int c0), .val (.int c1), .val (.int c2), .val (.ref xc0), .val (.ref xc1), .val (.ref xc2), .val (.ref xd0), .val (.ref xd1), .val (.ref xd2), .val (.int (1 : Int32)), .unset, .unset] [(.ref b581), (.ref b581)]))
          refine own_on (fun tq => XS.iconst X605.here hx rfl (hb hby at_145)) ?_
          show own_Fin p e below _ (T605.setTop (mkF m 146 #[.val (.int p1), .val (.int p2), .val (.int p3), .val (.int c0), .val (.int c1), .val (.int c2), .val (.ref xc0), .val (.ref xc1), .val (.ref xc2), .val (.ref xd0), .val (.ref xd1), .val (.ref xd2), .val (.int (1 : Int32)), .unset, .unset] [(.int (5 : Int32)), (.ref b581), (.ref b581)]))
          refine own_on (fun tq => XS.aload X605.here hx rfl (hb hby at_146) rfl rfl) ?_
          show own_Fin p e below _ (T605.setTop (mkF m 148 #[.val (.int p1), .val (.int p2), .val (.int p3), .val (.int c0), .val (.int c1), .val (.int c2), .val (.ref xc0), .val (.ref xc1), .val (.ref xc2), .val (.ref xd0), .val (.ref xd1), .val (.ref xd2), .val (.int (1 : Int32)), .unset, .unset] [(.ref xd2), (.int (5 : Int32)), (.ref b581), (.ref b581)]))
          have cp610 := V605
          obtain ⟨cl610, Ar610, q610, S610, G610, H610, F610⟩ := cp610
          have hin610 : ¬ ((5 : Int32) < 0 ∨ cl610.slots.size ≤ ((5 : Int32)).toNatClampNeg) := inb_of S610 ⟨by decide, by decide⟩
          obtain ⟨T610, h610, X610, e610, W610, st610⟩ := stR X605 hx hZ e605 Ar610 (j := (5 : Int32)) hin610 rfl (Sto.ofV Ar610 q610 O581 (Ins.self (Eq464.keep y608))) (g := (mkF m 148 #[.val (.int p1), .val (.int p2), .val (.int p3), .val (.int c0), .val (.int c1), .val (.int c2), .val (.ref xc0), .val (.ref xc1), .val (.ref xc2), .val (.ref xd0), .val (.ref xd1), .val (.ref xd2), .val (.int (1 : Int32)), .unset, .unset] [(.ref xd2), (.int (5 : Int32)), (.ref b581), (.ref b581)])) rfl rfl (hb hby at_148)
          have V610 : Arv Z h610 b581 k581 (.object "java/lang/String") (6 : Int32) [(.ref xc0), (.ref xd0), (.ref xc1), (.ref xd1), (.ref xc2), (.ref xd2)] .null := Arv.set Ar610 q610 S610 G610 H610 F610 rfl W610 5 rfl (Nat.le_of_ble_eq_true rfl)
          have N610 := Fr.snoc X610 N605 gn581
          have y611 := (y606.wr W610 gn581)
          have y612 := (Nat.le_trans y607 (Keep.of_wr W610).1)
          have y613 := (y608.wr W610 (Or.inr gk581))
          have y614 := (y609.wr W610)
          refine own_on st610 ?_
          show own_Fin p e below _ (T610.setTop (mkF m 149 #[.val (.int p1), .val (.int p2), .val (.int p3), .val (.int c0), .val (.int c1), .val (.int c2), .val (.ref xc0), .val (.ref xc1), .val (.ref xc2), .val (.ref xd0), .val (.ref xd1), .val (.ref xd2), .val (.int (1 : Int32)), .unset, .unset] [(.ref b581)]))
          refine own_on (fun tq => XS.astore X610.here hx rfl (hb hby at_149) rfl rfl (l' := #[.val (.int p1), .val (.int p2), .val (.int p3), .val (.int c0), .val (.int c1), .val (.int c2), .val (.ref xc0), .val (.ref xc1), .val (.ref xc2), .val (.ref xd0), .val (.ref xd1), .val (.ref xd2), .val (.int (1 : Int32)), .val (.ref b581), .unset]) rfl) ?_
          show own_Fin p e below _ (T610.setTop (mkF m 151 #[.val (.int p1), .val (.int p2), .val (.int p3), .val (.int c0), .val (.int c1), .val (.int c2), .val (.ref xc0), .val (.ref xc1), .val (.ref xc2), .val (.ref xd0), .val (.ref xd1), .val (.ref xd2), .val (.int (1 : Int32)), .val (.ref b581), .unset] []))
          refine own_on (fun tq => XS.iload X610.here hx rfl (hb hby at_151) rfl) ?_
          show own_Fin p e below _ (T610.setTop (mkF m 153 #[.val (.int p1), .val (.int p2), .val (.int p3), .val (.int c0), .val (.int c1), .val (.int c2), .val (.ref xc0), .val (.ref xc1), .val (.ref xc2), .val (.ref xd0), .val (.ref xd1), .val (.ref xd2), .val (.int (1 : Int32)), .val (.ref b581), .unset] [(.int (1 : Int32))]))
          refine own_on (fun tq => XS.ifYes X610.here hx rfl (pc0 := 153) (pc' := 168) rfl (hb hby at_153) rfl ((if0 _ _).trans (feq (by decide : ¬ ((1 : Int32) = (0 : Int32)))).2) (by decide) (by decide)) ?_
          show own_Fin p e below _ (T610.setTop (mkF m 168 #[.val (.int p1), .val (.int p2), .val (.int p3), .val (.int c0), .val (.int c1), .val (.int c2), .val (.ref xc0), .val (.ref xc1), .val (.ref xc2), .val (.ref xd0), .val (.ref xd1), .val (.ref xd2), .val (.int (1 : Int32)), .val (.ref b581), .unset] []))
          refine own_on (fun tq => XS.iload X610.here hx rfl (hb hby at_168) rfl) ?_
          show own_Fin p e below _ (T610.setTop (mkF m 170 #[.val (.int p1), .val (.int p2), .val (.int p3), .val (.int c0), .val (.int c1), .val (.int c2), .val (.ref xc0), .val (.ref xc1), .val (.ref xc2), .val (.ref xd0), .val (.ref xd1), .val (.ref xd2), .val (.int (1 : Int32)), .val (.ref b581), .unset] [(.int (1 : Int32))]))
          refine own_on (fun tq => XS.iconst X610.here hx rfl (hb hby at_170)) ?_
          show own_Fin p e below _ (T610.setTop (mkF m 171 #[.val (.int p1), .val (.int p2), .val (.int p3), .val (.int c0), .val (.int c1), .val (.int c2), .val (.ref xc0), .val (.ref xc1), .val (.ref xc2), .val (.ref xd0), .val (.ref xd1), .val (.ref xd2), .val (.int (1 : Int32)), .val (.ref b581), .unset] [(.int (1 : Int32)), (.int (1 : Int32))]))
          refine own_on (fun tq => XS.icmpNo X610.here hx rfl (hb hby at_171) rfl (teq (by decide : (1 : Int32) = (1 : Int32))).2) ?_
          show own_Fin p e below _ (T610.setTop (mkF m 174 #[.val (.int p1), .val (.int p2), .val (.int p3), .val (.int c0), .val (.int c1), .val (.int c2), .val (.ref xc0), .val (.ref xc1), .val (.ref xc2), .val (.ref xd0), .val (.ref xd1), .val (.ref xd2), .val (.int (1 : Int32)), .val (.ref b581), .unset] []))
          refine own_on (fun tq => XS.iconst X610.here hx rfl (hb hby at_174)) ?_
          show own_Fin p e below _ (T610.setTop (mkF m 175 #[.val (.int p1), .val (.int p2), .val (.int p3), .val (.int c0), .val (.int c1), .val (.int c2), .val (.ref xc0), .val (.ref xc1), .val (.ref xc2), .val (.ref xd0), .val (.ref xd1), .val (.ref xd2), .val (.int (1 : Int32)), .val (.ref b581), .unset] [(.int (2 : Int32))]))
          obtain ⟨T615, h615, k615, X615, e615, E615, A615, D615, O615, st615⟩ := newRE X610 hx hZ hown (hw _ (List.mem_of_getElem? (i := 26) rfl)) (hw _ (List.mem_of_getElem? (i := 27) rfl)) e610 (g := (mkF m 175 #[.val (.int p1), .val (.int p2), .val (.int p3), .val (.int c0), .val (.int c1), .val (.int c2), .val (.ref xc0), .val (.ref xc1), .val (.ref xc2), .val (.ref xd0), .val (.ref xd1), .val (.ref xd2), .val (.int (1 : Int32)), .val (.ref b581), .unset] [(.int (2 : Int32))])) rfl (hb hby at_175) rfl (by decide) (cap := 2) (by decide) (by decide) (by decide) (by decide) (ad := "[Ljava/lang/String;") (by decide)
          obtain ⟨b615, g615⟩ : ∃ z, z = h610.size := ⟨_, rfl⟩
          rw [← g615] at A615 D615 st615
          have ne615_b581 : b581 ≠ b615 := own_ne_of (Z := Z) V610.lt g615
          have y616 := (y611.ext E615)
          have y617 := (Nat.le_trans y612 E615.1)
          have y618 := (y613.ext E615)
          have y619 := (V610.ext E615)
          have y620 := (y614.ext E615)
          have gn615 : n0 ≤ b615 := Nat.le_trans y612 (Nat.le_of_eq g615.symm)
          have gk615 : T464.heap.size ≤ b615 := Nat.le_trans y613.1 (Nat.le_of_eq g615.symm)
          have V615 : Arv Z h615 b615 k615 (.object "java/lang/String") (2 : Int32) [.null, .null] .null := (Arv.new A615 (by decide)).pad (pad_rep [] .null 2)
          refine own_on st615 ?_
          show own_Fin p e below _ (T615.setTop (mkF m 178 #[.val (.int p1), .val (.int p2), .val (.int p3), .val (.int c0), .val (.int c1), .val (.int c2), .val (.ref xc0), .val (.ref xc1), .val (.ref xc2), .val (.ref xd0), .val (.ref xd1), .val (.ref xd2), .val (.int (1 : Int32)), .val (.ref b581), .unset] [(.ref b615)]))
          refine own_on (fun tq => XS.dup X615.here hx rfl (hb hby at_178) rfl rfl) ?_
          show own_Fin p e below _ (T615.setTop (mkF m 179 #[.val (.int p1), .val (.int p2), .val (.int p3), .val (.int c0), .val (.int c1), .val (.int c2), .val (.ref xc0), .val (.ref xc1), .val (.ref xc2), .val (.ref xd0), .val (.ref xd1), .val (.ref xd2), .val (.int (1 : Int32)), .val (.ref b581), .unset] [(.ref b615), (.ref b615)]))
          refine own_on (fun tq => XS.iconst X615.here hx rfl (hb hby at_179)) ?_
          show own_Fin p e below _ (T615.setTop (mkF m 180 #[.val (.int p1), .val (.int p2), .val (.int p3), .val (.int c0), .val (.int c1), .val (.int c2), .val (.ref xc0), .val (.ref xc1), .val (.ref xc2), .val (.ref xd0), .val (.ref xd1), .val (.ref xd2), .val (.int (1 : Int32)), .val (.ref b581), .unset] [(.int (0 : Int32)), (.ref b615), (.ref b615)]))
          refine own_on (fun tq => XS.aload X615.here hx rfl (hb hby at_180) rfl rfl) ?_
          show own_Fin p e below _ (T615.setTop (mkF m 182 #[.val (.int p1), .val (.int p2), .val (.int p3), .val (.int c0), .val (.int c1), .val (.int c2), .val (.ref xc0), .val (.ref xc1), .val (.ref xc2), .val (.ref xd0), .val (.ref xd1), .val (.ref xd2), .val (.int (1 : Int32)), .val (.ref b581), .unset] [(.ref xc0), (.int (0 : Int32)), (.ref b615), (.ref b615)]))
          have cp621 := V615
          obtain ⟨cl621, Ar621, q621, S621, G621, H621, F621⟩ := cp621
          have hin621 : ¬ ((0 : Int32) < 0 ∨ cl621.slots.size ≤ ((0 : Int32)).toNatClampNeg) := inb_of S621 ⟨by decide, by decide⟩
          obtain ⟨T621, h621, X621, e621, W621, st621⟩ := stR X615 hx hZ e615 Ar621 (j := (0 : Int32)) hin621 rfl (Sto.ofV Ar621 q621 O615 (Ins.self (y467.keep y618))) (g := (mkF m 182 #[.val (.int p1), .val (.int p2), .val (.int p3), .val (.int c0), .val (.int c1), .val (.int c2), .val (.ref xc0), .val (.ref xc1), .val (.ref xc2), .val (.ref xd0), .val (.ref xd1), .val (.ref xd2), .val (.int (1 : Int32)), .val (.ref b581), .unset] [(.ref xc0), (.int (0 : Int32)), (.ref b615), (.ref b615)])) rfl rfl (hb hby at_182)
          have V621 : Arv Z h621 b615 k615 (.object "java/lang/String") (2 : Int32) [(.ref xc0), .null] .null := Arv.set Ar621 q621 S621 G621 H621 F621 rfl W621 0 rfl (Nat.le_of_ble_eq_true rfl)
          have N621 := Fr.snoc X621 N610 gn615
          have y622 := (y616.wr W621 gn615)
          have y623 := (Nat.le_trans y617 (Keep.of_wr W621).1)
          have y624 := (y618.wr W621 (Or.inr gk615))
          have y625 := (y619.other W621 ne615_b581)
          have y626 := (y620.wr W621)
          have y627 := (D615.wr W621)
          refine own_on st621 ?_
          show own_Fin p e below _ (T621.setTop (mkF m 183 #[.val (.int p1), .val (.int p2), .val (.int p3), .val (.int c0), .val (.int c1), .val (.int c2), .val (.ref xc0), .val (.ref xc1), .val (.ref xc2), .val (.ref xd0), .val (.ref xd1), .val (.ref xd2), .val (.int (1 : Int32)), .val (.ref b581), .unset] [(.ref b615)]))
          refine own_on (fun tq => XS.dup X621.here hx rfl (hb hby at_183) rfl rfl) ?_
          show own_Fin p e below _ (T621.setTop (mkF m 184 #[.val (.int p1), .val (.int p2), .val (.int p3), .val (.int c0), .val (.int c1), .val (.int c2), .val (.ref xc0), .val (.ref xc1), .val (.ref xc2), .val (.ref xd0), .val (.ref xd1), .val (.ref xd2), .val (.int (1 : Int32)), .val (.ref b581), .unset] [(.ref b615), (.ref b615)]))
          refine own_on (fun tq => XS.iconst X621.here hx rfl (hb hby at_184)) ?_
          show own_Fin p e below _ (T621.setTop (mkF m 185 #[.val (.int p1), .val (.int p2), .val (.int p3), .val (.int c0), .val (.int c1), .val (.int c2), .val (.ref xc0), .val (.ref xc1), .val (.ref xc2), .val (.ref xd0), .val (.ref xd1), .val (.ref xd2), .val (.int (1 : Int32)), .val (.ref b581), .unset] [(.int (1 : Int32)), (.ref b615), (.ref b615)]))
          refine own_on (fun tq => XS.aload X621.here hx rfl (hb hby at_185) rfl rfl) ?_
          show own_Fin p e below _ (T621.setTop (mkF m 187 #[.val (.int p1), .val (.int p2), .val (.int p3), .val (.int c0), .val (.int c1), .val (.int c2), .val (.ref xc0), .val (.ref xc1), .val (.ref xc2), .val (.ref xd0), .val (.ref xd1), .val (.ref xd2), .val (.int (1 : Int32)), .val (.ref b581), .unset] [(.ref xd0), (.int (1 : Int32)), (.ref b615), (.ref b615)]))
          have cp628 := V621
          obtain ⟨cl628, Ar628, q628, S628, G628, H628, F628⟩ := cp628
          have hin628 : ¬ ((1 : Int32) < 0 ∨ cl628.slots.size ≤ ((1 : Int32)).toNatClampNeg) := inb_of S628 ⟨by decide, by decide⟩
          obtain ⟨T628, h628, X628, e628, W628, st628⟩ := stR X621 hx hZ e621 Ar628 (j := (1 : Int32)) hin628 rfl (Sto.ofV Ar628 q628 O615 (Ins.self (y479.keep y624))) (g := (mkF m 187 #[.val (.int p1), .val (.int p2), .val (.int p3), .val (.int c0), .val (.int c1), .val (.int c2), .val (.ref xc0), .val (.ref xc1), .val (.ref xc2), .val (.ref xd0), .val (.ref xd1), .val (.ref xd2), .val (.int (1 : Int32)), .val (.ref b581), .unset] [(.ref xd0), (.int (1 : Int32)), (.ref b615), (.ref b615)])) rfl rfl (hb hby at_187)
          have V628 : Arv Z h628 b615 k615 (.object "java/lang/String") (2 : Int32) [(.ref xc0), (.ref xd0)] .null := Arv.set Ar628 q628 S628 G628 H628 F628 rfl W628 1 rfl (Nat.le_of_ble_eq_true rfl)
          have N628 := Fr.snoc X628 N621 gn615
          have y629 := (y622.wr W628 gn615)
          have y630 := (Nat.le_trans y623 (Keep.of_wr W628).1)
          have y631 := (y624.wr W628 (Or.inr gk615))
          have y632 := (y625.other W628 ne615_b581)
          have y633 := (y626.wr W628)
          have y634 := (y627.wr W628)
          refine own_on st628 ?_
          show own_Fin p e below _ (T628.setTop (mkF m 188 #[.val (.int p1), .val (.int p2), .val (.int p3), .val (.int c0), .val (.int c1), .val (.int c2), .val (.ref xc0), .val (.ref xc1), .val (.ref xc2), .val (.ref xd0), .val (.ref xd1), .val (.ref xd2), .val (.int (1 : Int32)), .val (.ref b581), .unset] [(.ref b615)]))
          obtain ⟨_, _, ⟨T635, L635, k635, n635⟩, -, X635, ⟨Lc635, hQ635, l635, y635, z635⟩, st635⟩ := Jvm.LawKit.callS X628 hx (y := (⟨"com/example/settlewatt/settlewatt/model/TraceRecord", "inputsOf", "([Ljava/lang/String;)Ljava/util/Map;"⟩ : MethodName)) hown (mvT hZ (hw _ (List.mem_of_getElem? (i := 28) rfl))) (mvT hZ (hw _ (List.mem_of_getElem? (i := 29) rfl))) (mvT hZ (hw _ (List.mem_of_getElem? (i := 30) rfl))) (mvT hZ (hw _ (List.mem_of_getElem? (i := 31) rfl))) (by decide) (backOf (W := 0) (rmO1 l Z a0 hw [] b615 z k615 xc0 xd0 c0 t404 kt404 h628 n0 (by exact y630) hz y629 SC V628 y634 (y467.keep y631) (y468.keep y631 nin0) (y469.keep y631 nin0) (y470.keep y631 nin0) rg407) hZ (hw _ (List.mem_of_getElem? (i := 31) rfl)) (hw _ (List.mem_of_getElem? (i := 30) rfl)) (by decide) (by decide)) (g := (mkF m 188 #[.val (.int p1), .val (.int p2), .val (.int p3), .val (.int c0), .val (.int c1), .val (.int c2), .val (.ref xc0), .val (.ref xc1), .val (.ref xc2), .val (.ref xd0), .val (.ref xd1), .val (.ref xd2), .val (.int (1 : Int32)), .val (.ref b581), .unset] [(.ref b615)])) rfl (by rw [hml]; rfl) (argsL := [(.ref b615)]) (rest := []) (lenOf pd_16 rfl) rfl (by show 2 * 0 + _ ≤ _; exact Nat.le_of_eq rfl) (hb hby at_188) (fun _ _ => ⟨rfl, e628, (by decide : 14 + 2 ≤ _), (by decide : 38 + 5 ≤ _)⟩)
          dsimp only [Pt.U, Pt.locs, Pt.cells, Pt.slots] at X635 l635 y635 z635 st635 hQ635
          subst l635 y635 z635
          obtain ⟨m635, a635, rfl, N635q, K635, gm635, gb635, Eq635, Fq635, Aq635⟩ := hQ635
          have lm635 : m635 ≠ b615 := Nat.ne_of_gt (Nat.lt_of_lt_of_le y634.lt gm635)
          have la635 : a635 ≠ b615 := Nat.ne_of_gt (Nat.lt_of_lt_of_le y634.lt gb635)
          have N635 := Fr.app N628 N635q
          have y636 := (y629.keep K635 all0)
          have y637 := (Nat.le_trans y630 K635.1)
          have y638 := (y631.trans K635 all0)
          have y639 := (y632.keep K635 nin0)
          have y640 := (y633.keep K635)
          have y641 := (V628.keep K635 nin0)
          have y642 := (y634.keep K635)
          refine own_on st635 ?_
          show own_Fin p e below _ (T635.setTop (mkF m 191 #[.val (.int p1), .val (.int p2), .val (.int p3), .val (.int c0), .val (.int c1), .val (.int c2), .val (.ref xc0), .val (.ref xc1), .val (.ref xc2), .val (.ref xd0), .val (.ref xd1), .val (.ref xd2), .val (.int (1 : Int32)), .val (.ref b581), .unset] [(.ref m635)]))
          refine own_on (fun tq => XS.astore X635.here hx rfl (hb hby at_191) rfl rfl (l' := #[.val (.int p1), .val (.int p2), .val (.int p3), .val (.int c0), .val (.int c1), .val (.int c2), .val (.ref xc0), .val (.ref xc1), .val (.ref xc2), .val (.ref xd0), .val (.ref xd1), .val (.ref xd2), .val (.int (1 : Int32)), .val (.ref b581), .val (.ref m635)]) rfl) ?_
          show own_Fin p e below _ (T635.setTop (mkF m 193 #[.val (.int p1), .val (.int p2), .val (.int p3), .val (.int c0), .val (.int c1), .val (.int c2), .val (.ref xc0), .val (.ref xc1), .val (.ref xc2), .val (.ref xd0), .val (.ref xd1), .val (.ref xd2), .val (.int (1 : Int32)), .val (.ref b581), .val (.ref m635)] []))
          refine own_on (fun tq => XS.goto X635.here hx rfl (pc0 := 193) (pc' := 261) rfl (hb hby at_193) (by decide) (by decide)) ?_
          show own_Fin p e below _ (T635.setTop (mkF m 261 #[.val (.int p1), .val (.int p2), .val (.int p3), .val (.int c0), .val (.int c1), .val (.int c2), .val (.ref xc0), .val (.ref xc1), .val (.ref xc2), .val (.ref xd0), .val (.ref xd1), .val (.ref xd2), .val (.int (1 : Int32)), .val (.ref b581), .val (.ref m635)] []))
          refine own_on (fun tq => XS.aload X635.here hx rfl (hb hby at_261) rfl rfl) ?_
          show own_Fin p e below _ (T635.setTop (mkF m 263 #[.val (.int p1), .val (.int p2), .val (.int p3), .val (.int c0), .val (.int c1), .val (.int c2), .val (.ref xc0), .val (.ref xc1), .val (.ref xc2), .val (.ref xd0), .val (.ref xd1), .val (.ref xd2), .val (.int (1 : Int32)), .val (.ref b581), .val (.ref m635)] [(.ref m635)]))
          obtain ⟨cq643, kq643, q643a, q643b, q643c⟩ := isOf hZ rfl Eq635
          obtain ⟨_, _, ⟨T643, L643, k643, n643⟩, -, X643, ⟨Lc643, hQ643, l643, y643, z643⟩, st643⟩ := X635.interfaceBack hx (xi := (⟨"java/util/Map", "size", "()I"⟩ : MethodName)) (y := (⟨"java/util/AbstractMap", "size", "()I"⟩ : MethodName)) hown (mvT hZ (hw _ (List.mem_of_getElem? (i := 55) rfl))) (mvT hZ (hw _ (List.mem_of_getElem? (i := 56) rfl))) (mvT hZ (hw _ (List.mem_of_getElem? (i := 57) rfl))) (mvT hZ (hw _ (List.mem_of_getElem? (i := 58) rfl))) (mvT hZ (hw _ (List.mem_of_getElem? (i := 59) rfl))) (mvT hZ (hw _ (List.mem_of_getElem? (i := 60) rfl))) (mvT hZ (hw _ (List.mem_of_getElem? (i := 61) rfl))) (mvT hZ (hw _ (List.mem_of_getElem? (i := 62) rfl))) (by decide) (backOf (W := 0) (rm9 l Z a0 hw [] m635 a635 k615 (2 : Int32) _ T635.heap n0 (by exact y637) Eq635 Fq635 Aq635) hZ (hw _ (List.mem_of_getElem? (i := 63) rfl)) (hw _ (List.mem_of_getElem? (i := 50) rfl)) (by decide) (by decide)) q643a q643b q643c (g := (mkF m 263 #[.val (.int p1), .val (.int p2), .val (.int p3), .val (.int c0), .val (.int c1), .val (.int c2), .val (.ref xc0), .val (.ref xc1), .val (.ref xc2), .val (.ref xd0), .val (.ref xd1), .val (.ref xd2), .val (.int (1 : Int32)), .val (.ref b581), .val (.ref m635)] [(.ref m635)])) rfl (by rw [hml]; rfl) (Steps.refl _) (argsL := []) (rest := []) (lenOf pd_8 rfl) rfl (by show 2 * 0 + _ ≤ _; exact Nat.le_of_eq rfl) (hb hby at_263) (fun _ _ => ⟨rfl, rfl, (by decide : 16 + 1 ≤ _), (by decide : 43 + 1 ≤ _)⟩)
          dsimp only [Pt.U, Pt.locs, Pt.cells, Pt.slots] at X643 l643 y643 z643 st643 hQ643
          subst l643 y643 z643
          obtain ⟨rfl, N643q, K643⟩ := hQ643
          have N643 := Fr.app N635 N643q
          have y644 := (y636.keep K643 all0)
          have y645 := (Nat.le_trans y637 K643.1)
          have y646 := (y638.trans K643 all0)
          have y647 := (y639.keep K643 nin0)
          have y648 := (y640.keep K643)
          have y649 := (y641.keep K643 nin0)
          have y650 := (y642.keep K643)
          have y651 := (Eq635.keep K643)
          have y652 := (Fq635.keep K643 nin0)
          have y653 := (Aq635.keep K643 nin0)
          refine own_via st643 ?_
          show own_Fin p e below _ (T643.setTop (mkF m 268 #[.val (.int p1), .val (.int p2), .val (.int p3), .val (.int c0), .val (.int c1), .val (.int c2), .val (.ref xc0), .val (.ref xc1), .val (.ref xc2), .val (.ref xd0), .val (.ref xd1), .val (.ref xd2), .val (.int (1 : Int32)), .val (.ref b581), .val (.ref m635)] [(.int (1 : Int32))]))
          refine own_on (fun tq => XS.iload X643.here hx rfl (hb hby at_268) rfl) ?_
          show own_Fin p e below _ (T643.setTop (mkF m 270 #[.val (.int p1), .val (.int p2), .val (.int p3), .val (.int c0), .val (.int c1), .val (.int c2), .val (.ref xc0), .val (.ref xc1), .val (.ref xc2), .val (.ref xd0), .val (.ref xd1), .val (.ref xd2), .val (.int (1 : Int32)), .val (.ref b581), .val (.ref m635)] [(.int (1 : Int32)), (.int (1 : Int32))]))
          refine own_on (fun tq => XS.icmpYes X643.here hx rfl (pc0 := 270) (pc' := 275) rfl (hb hby at_270) rfl (teq (by decide : (1 : Int32) = (1 : Int32))).1 (by decide) (by decide)) ?_
          show own_Fin p e below _ (T643.setTop (mkF m 275 #[.val (.int p1), .val (.int p2), .val (.int p3), .val (.int c0), .val (.int c1), .val (.int c2), .val (.ref xc0), .val (.ref xc1), .val (.ref xc2), .val (.ref xd0), .val (.ref xd1), .val (.ref xd2), .val (.int (1 : Int32)), .val (.ref b581), .val (.ref m635)] []))
          refine own_on (fun tq => XS.aload X643.here hx rfl (hb hby at_275) rfl rfl) ?_
          show own_Fin p e below _ (T643.setTop (mkF m 277 #[.val (.int p1), .val (.int p2), .val (.int p3), .val (.int c0), .val (.int c1), .val (.int c2), .val (.ref xc0), .val (.ref xc1), .val (.ref xc2), .val (.ref xd0), .val (.ref xd1), .val (.ref xd2), .val (.int (1 : Int32)), .val (.ref b581), .val (.ref m635)] [(.ref m635)]))
          refine own_on (fun tq => XS.aload X643.here hx rfl (hb hby at_277) rfl rfl) ?_
          show own_Fin p e below _ (T643.setTop (mkF m 279 #[.val (.int p1), .val (.int p2), .val (.int p3), .val (.int c0), .val (.int c1), .val (.int c2), .val (.ref xc0), .val (.ref xc1), .val (.ref xc2), .val (.ref xd0), .val (.ref xd1), .val (.ref xd2), .val (.int (1 : Int32)), .val (.ref b581), .val (.ref m635)] [(.ref xc0), (.ref m635)]))
          refine own_on (fun tq => XS.aload X643.here hx rfl (hb hby at_279) rfl rfl) ?_
          show own_Fin p e below _ (T643.setTop (mkF m 281 #[.val (.int p1), .val (.int p2), .val (.int p3), .val (.int c0), .val (.int c1), .val (.int c2), .val (.ref xc0), .val (.ref xc1), .val (.ref xc2), .val (.ref xd0), .val (.ref xd1), .val (.ref xd2), .val (.int (1 : Int32)), .val (.ref b581), .val (.ref m635)] [(.ref xd0), (.ref xc0), (.ref m635)]))
          refine own_on (fun tq => XS.iload X643.here hx rfl (hb hby at_281) rfl) ?_
          show own_Fin p e below _ (T643.setTop (mkF m 283 #[.val (.int p1), .val (.int p2), .val (.int p3), .val (.int c0), .val (.int c1), .val (.int c2), .val (.ref xc0), .val (.ref xc1), .val (.ref xc2), .val (.ref xd0), .val (.ref xd1), .val (.ref xd2), .val (.int (1 : Int32)), .val (.ref b581), .val (.ref m635)] [(.int (1 : Int32)), (.ref xd0), (.ref xc0), (.ref m635)]))
          refine own_on (fun tq => XS.iconst X643.here hx rfl (hb hby at_283)) ?_
          show own_Fin p e below _ (T643.setTop (mkF m 284 #[.val (.int p1), .val (.int p2), .val (.int p3), .val (.int c0), .val (.int c1), .val (.int c2), .val (.ref xc0), .val (.ref xc1), .val (.ref xc2), .val (.ref xd0), .val (.ref xd1), .val (.ref xd2), .val (.int (1 : Int32)), .val (.ref b581), .val (.ref m635)] [(.int (1 : Int32)), (.int (1 : Int32)), (.ref xd0), (.ref xc0), (.ref m635)]))
          refine own_on (fun tq => XS.icmpNo X643.here hx rfl (hb hby at_284) rfl (flt (by decide : ¬ ((1 : Int32) < (1 : Int32)))).1) ?_
          show own_Fin p e below _ (T643.setTop (mkF m 287 #[.val (.int p1), .val (.int p2), .val (.int p3), .val (.int c0), .val (.int c1), .val (.int c2), .val (.ref xc0), .val (.ref xc1), .val (.ref xc2), .val (.ref xd0), .val (.ref xd1), .val (.ref xd2), .val (.int (1 : Int32)), .val (.ref b581), .val (.ref m635)] [(.ref xd0), (.ref xc0), (.ref m635)]))
          refine own_on (fun tq => XS.iconst X643.here hx rfl (hb hby at_287)) ?_
          show own_Fin p e below _ (T643.setTop (mkF m 288 #[.val (.int p1), .val (.int p2), .val (.int p3), .val (.int c0), .val (.int c1), .val (.int c2), .val (.ref xc0), .val (.ref xc1), .val (.ref xc2), .val (.ref xd0), .val (.ref xd1), .val (.ref xd2), .val (.int (1 : Int32)), .val (.ref b581), .val (.ref m635)] [(.int (1 : Int32)), (.ref xd0), (.ref xc0), (.ref m635)]))
          refine own_on (fun tq => XS.goto X643.here hx rfl (pc0 := 288) (pc' := 292) rfl (hb hby at_288) (by decide) (by decide)) ?_
          show own_Fin p e below _ (T643.setTop (mkF m 292 #[.val (.int p1), .val (.int p2), .val (.int p3), .val (.int c0), .val (.int c1), .val (.int c2), .val (.ref xc0), .val (.ref xc1), .val (.ref xc2), .val (.ref xd0), .val (.ref xd1), .val (.ref xd2), .val (.int (1 : Int32)), .val (.ref b581), .val (.ref m635)] [(.int (1 : Int32)), (.ref xd0), (.ref xc0), (.ref m635)]))
          obtain ⟨_, _, ⟨T654, L654, k654, n654⟩, -, X654, ⟨Lc654, hQ654, l654, y654, z654⟩, st654⟩ := Jvm.LawKit.callS X643 hx (y := (⟨"com/example/settlewatt/settlewatt/model/TraceRecordInputsOfPinLaw", "has", "(Ljava/util/Map;Ljava/lang/String;Ljava/lang/String;Z)Z"⟩ : MethodName)) hown (mvT hZ (hw _ (List.mem_of_getElem? (i := 99) rfl))) (mvT hZ (hw _ (List.mem_of_getElem? (i := 100) rfl))) (mvT hZ (hw _ (List.mem_of_getElem? (i := 101) rfl))) (mvT hZ (hw _ (List.mem_of_getElem? (i := 102) rfl))) (by decide) (backOf (W := 0) (rmH11 l Z a0 hw [] m635 xc0 xd0 z a635 k615 xc0 xd0 c0 t404 kt404 t404 kt404 c0 t428 kt428 d0 T643.heap n0 (by exact y645) hz y644 SC y651 y652 y653 (y467.keep y646) (y468.keep y646 nin0) (y469.keep y646 nin0) (y470.keep y646 nin0) rg407 (y467.keep y646) (y468.keep y646 nin0) (y469.keep y646 nin0) (y470.keep y646 nin0) rg407 (y479.keep y646) (y480.keep y646 nin0) (y481.keep y646 nin0) (y482.keep y646 nin0) rg443 (by first | rfl | (unfold own_get1; rw [if_pos rfl]))) hZ (hw _ (List.mem_of_getElem? (i := 102) rfl)) (hw _ (List.mem_of_getElem? (i := 101) rfl)) (by decide) (by decide)) (g := (mkF m 292 #[.val (.int p1), .val (.int p2), .val (.int p3), .val (.int c0), .val (.int c1), .val (.int c2), .val (.ref xc0), .val (.ref xc1), .val (.ref xc2), .val (.ref xd0), .val (.ref xd1), .val (.ref xd2), .val (.int (1 : Int32)), .val (.ref b581), .val (.ref m635)] [(.int (1 : Int32)), (.ref xd0), (.ref xc0), (.ref m635)])) rfl (by rw [hml]; rfl) (argsL := [(.ref m635), (.ref xc0), (.ref xd0), (.int (1 : Int32))]) (rest := []) (lenOf pd_17 rfl) rfl (by show 2 * 0 + _ ≤ _; exact Nat.le_of_eq rfl) (hb hby at_292) (fun _ _ => ⟨rfl, rfl, (by decide : 17 + 3 ≤ _), (by decide : 44 + 5 ≤ _)⟩)
          dsimp only [Pt.U, Pt.locs, Pt.cells, Pt.slots] at X654 l654 y654 z654 st654 hQ654
          subst l654 y654 z654
          obtain ⟨rfl, N654q, K654⟩ := hQ654
          have N654 := Fr.app N643 N654q
          have y655 := (y644.keep K654 all0)
          have y656 := (Nat.le_trans y645 K654.1)
          have y657 := (y646.trans K654 all0)
          have y658 := (y647.keep K654 nin0)
          have y659 := (y648.keep K654)
          have y660 := (y649.keep K654 nin0)
          have y661 := (y650.keep K654)
          have y662 := (y651.keep K654)
          have y663 := (y652.keep K654 nin0)
          have y664 := (y653.keep K654 nin0)
          refine own_on st654 ?_
          show own_Fin p e below _ (T654.setTop (mkF m 295 #[.val (.int p1), .val (.int p2), .val (.int p3), .val (.int c0), .val (.int c1), .val (.int c2), .val (.ref xc0), .val (.ref xc1), .val (.ref xc2), .val (.ref xd0), .val (.ref xd1), .val (.ref xd2), .val (.int (1 : Int32)), .val (.ref b581), .val (.ref m635)] [(.int (1 : Int32))]))
          refine own_on (fun tq => XS.ifNo X654.here hx rfl (hb hby at_295) rfl ((if0 _ _).trans (feq (by decide : ¬ ((1 : Int32) = (0 : Int32)))).1)) ?_
          show own_Fin p e below _ (T654.setTop (mkF m 298 #[.val (.int p1), .val (.int p2), .val (.int p3), .val (.int c0), .val (.int c1), .val (.int c2), .val (.ref xc0), .val (.ref xc1), .val (.ref xc2), .val (.ref xd0), .val (.ref xd1), .val (.ref xd2), .val (.int (1 : Int32)), .val (.ref b581), .val (.ref m635)] []))
          refine own_on (fun tq => XS.aload X654.here hx rfl (hb hby at_298) rfl rfl) ?_
          show own_Fin p e below _ (T654.setTop (mkF m 300 #[.val (.int p1), .val (.int p2), .val (.int p3), .val (.int c0), .val (.int c1), .val (.int c2), .val (.ref xc0), .val (.ref xc1), .val (.ref xc2), .val (.ref xd0), .val (.ref xd1), .val (.ref xd2), .val (.int (1 : Int32)), .val (.ref b581), .val (.ref m635)] [(.ref m635)]))
          refine own_on (fun tq => XS.aload X654.here hx rfl (hb hby at_300) rfl rfl) ?_
          show own_Fin p e below _ (T654.setTop (mkF m 302 #[.val (.int p1), .val (.int p2), .val (.int p3), .val (.int c0), .val (.int c1), .val (.int c2), .val (.ref xc0), .val (.ref xc1), .val (.ref xc2), .val (.ref xd0), .val (.ref xd1), .val (.ref xd2), .val (.int (1 : Int32)), .val (.ref b581), .val (.ref m635)] [(.ref xc1), (.ref m635)]))
          refine own_on (fun tq => XS.aload X654.here hx rfl (hb hby at_302) rfl rfl) ?_
          show own_Fin p e below _ (T654.setTop (mkF m 304 #[.val (.int p1), .val (.int p2), .val (.int p3), .val (.int c0), .val (.int c1), .val (.int c2), .val (.ref xc0), .val (.ref xc1), .val (.ref xc2), .val (.ref xd0), .val (.ref xd1), .val (.ref xd2), .val (.int (1 : Int32)), .val (.ref b581), .val (.ref m635)] [(.ref xd1), (.ref xc1), (.ref m635)]))
          refine own_on (fun tq => XS.iload X654.here hx rfl (hb hby at_304) rfl) ?_
          show own_Fin p e below _ (T654.setTop (mkF m 306 #[.val (.int p1), .val (.int p2), .val (.int p3), .val (.int c0), .val (.int c1), .val (.int c2), .val (.ref xc0), .val (.ref xc1), .val (.ref xc2), .val (.ref xd0), .val (.ref xd1), .val (.ref xd2), .val (.int (1 : Int32)), .val (.ref b581), .val (.ref m635)] [(.int (1 : Int32)), (.ref xd1), (.ref xc1), (.ref m635)]))
          refine own_on (fun tq => XS.iconst X654.here hx rfl (hb hby at_306)) ?_
          show own_Fin p e below _ (T654.setTop (mkF m 307 #[.val (.int p1), .val (.int p2), .val (.int p3), .val (.int c0), .val (.int c1), .val (.int c2), .val (.ref xc0), .val (.ref xc1), .val (.ref xc2), .val (.ref xd0), .val (.ref xd1), .val (.ref xd2), .val (.int (1 : Int32)), .val (.ref b581), .val (.ref m635)] [(.int (2 : Int32)), (.int (1 : Int32)), (.ref xd1), (.ref xc1), (.ref m635)]))
          refine own_on (fun tq => XS.icmpYes X654.here hx rfl (pc0 := 307) (pc' := 314) rfl (hb hby at_307) rfl (tlt (by decide : (1 : Int32) < (2 : Int32))).1 (by decide) (by decide)) ?_
          show own_Fin p e below _ (T654.setTop (mkF m 314 #[.val (.int p1), .val (.int p2), .val (.int p3), .val (.int c0), .val (.int c1), .val (.int c2), .val (.ref xc0), .val (.ref xc1), .val (.ref xc2), .val (.ref xd0), .val (.ref xd1), .val (.ref xd2), .val (.int (1 : Int32)), .val (.ref b581), .val (.ref m635)] [(.ref xd1), (.ref xc1), (.ref m635)]))
          refine own_on (fun tq => XS.iconst X654.here hx rfl (hb hby at_314)) ?_
          show own_Fin p e below _ (T654.setTop (mkF m 315 #[.val (.int p1), .val (.int p2), .val (.int p3), .val (.int c0), .val (.int c1), .val (.int c2), .val (.ref xc0), .val (.ref xc1), .val (.ref xc2), .val (.ref xd0), .val (.ref xd1), .val (.ref xd2), .val (.int (1 : Int32)), .val (.ref b581), .val (.ref m635)] [(.int (0 : Int32)), (.ref xd1), (.ref xc1), (.ref m635)]))
          obtain ⟨_, _, ⟨T665, L665, k665, n665⟩, -, X665, ⟨Lc665, hQ665, l665, y665, z665⟩, st665⟩ := Jvm.LawKit.callS X654 hx (y := (⟨"com/example/settlewatt/settlewatt/model/TraceRecordInputsOfPinLaw", "has", "(Ljava/util/Map;Ljava/lang/String;Ljava/lang/String;Z)Z"⟩ : MethodName)) hown (mvT hZ (hw _ (List.mem_of_getElem? (i := 99) rfl))) (mvT hZ (hw _ (List.mem_of_getElem? (i := 100) rfl))) (mvT hZ (hw _ (List.mem_of_getElem? (i := 101) rfl))) (mvT hZ (hw _ (List.mem_of_getElem? (i := 102) rfl))) (by decide) (backOf (W := 0) (rmH10 l Z a0 hw [] m635 xc1 xd1 z a635 k615 xc0 xd0 c0 t404 kt404 t408 kt408 c1 T654.heap n0 (by exact y656) hz y655 SC y662 y663 y664 (y467.keep y657) (y468.keep y657 nin0) (y469.keep y657 nin0) (y470.keep y657 nin0) rg407 (y471.keep y657) (y472.keep y657 nin0) (y473.keep y657 nin0) (y474.keep y657 nin0) rg415 (by first | rfl | (unfold own_get1; rw [if_neg (fun q => hc401 q.symm)]))) hZ (hw _ (List.mem_of_getElem? (i := 102) rfl)) (hw _ (List.mem_of_getElem? (i := 101) rfl)) (by decide) (by decide)) (g := (mkF m 315 #[.val (.int p1), .val (.int p2), .val (.int p3), .val (.int c0), .val (.int c1), .val (.int c2), .val (.ref xc0), .val (.ref xc1), .val (.ref xc2), .val (.ref xd0), .val (.ref xd1), .val (.ref xd2), .val (.int (1 : Int32)), .val (.ref b581), .val (.ref m635)] [(.int (0 : Int32)), (.ref xd1), (.ref xc1), (.ref m635)])) rfl (by rw [hml]; rfl) (argsL := [(.ref m635), (.ref xc1), (.ref xd1), (.int (0 : Int32))]) (rest := []) (lenOf pd_17 rfl) rfl (by show 2 * 0 + _ ≤ _; exact Nat.le_of_eq rfl) (hb hby at_315) (fun _ _ => ⟨rfl, rfl, (by decide : 20 + 3 ≤ _), (by decide : 49 + 5 ≤ _)⟩)
          dsimp only [Pt.U, Pt.locs, Pt.cells, Pt.slots] at X665 l665 y665 z665 st665 hQ665
          subst l665 y665 z665
          obtain ⟨rfl, N665q, K665⟩ := hQ665
          have N665 := Fr.app N654 N665q
          have y666 := (y655.keep K665 all0)
          have y667 := (Nat.le_trans y656 K665.1)
          have y668 := (y657.trans K665 all0)
          have y669 := (y658.keep K665 nin0)
          have y670 := (y659.keep K665)
          have y671 := (y660.keep K665 nin0)
          have y672 := (y661.keep K665)
          have y673 := (y662.keep K665)
          have y674 := (y663.keep K665 nin0)
          have y675 := (y664.keep K665 nin0)
          refine own_on st665 ?_
          show own_Fin p e below _ (T665.setTop (mkF m 318 #[.val (.int p1), .val (.int p2), .val (.int p3), .val (.int c0), .val (.int c1), .val (.int c2), .val (.ref xc0), .val (.ref xc1), .val (.ref xc2), .val (.ref xd0), .val (.ref xd1), .val (.ref xd2), .val (.int (1 : Int32)), .val (.ref b581), .val (.ref m635)] [(.int (1 : Int32))]))
          refine own_on (fun tq => XS.ifNo X665.here hx rfl (hb hby at_318) rfl ((if0 _ _).trans (feq (by decide : ¬ ((1 : Int32) = (0 : Int32)))).1)) ?_
          show own_Fin p e below _ (T665.setTop (mkF m 321 #[.val (.int p1), .val (.int p2), .val (.int p3), .val (.int c0), .val (.int c1), .val (.int c2), .val (.ref xc0), .val (.ref xc1), .val (.ref xc2), .val (.ref xd0), .val (.ref xd1), .val (.ref xd2), .val (.int (1 : Int32)), .val (.ref b581), .val (.ref m635)] []))
          refine own_on (fun tq => XS.aload X665.here hx rfl (hb hby at_321) rfl rfl) ?_
          show own_Fin p e below _ (T665.setTop (mkF m 323 #[.val (.int p1), .val (.int p2), .val (.int p3), .val (.int c0), .val (.int c1), .val (.int c2), .val (.ref xc0), .val (.ref xc1), .val (.ref xc2), .val (.ref xd0), .val (.ref xd1), .val (.ref xd2), .val (.int (1 : Int32)), .val (.ref b581), .val (.ref m635)] [(.ref m635)]))
          refine own_on (fun tq => XS.aload X665.here hx rfl (hb hby at_323) rfl rfl) ?_
          show own_Fin p e below _ (T665.setTop (mkF m 325 #[.val (.int p1), .val (.int p2), .val (.int p3), .val (.int c0), .val (.int c1), .val (.int c2), .val (.ref xc0), .val (.ref xc1), .val (.ref xc2), .val (.ref xd0), .val (.ref xd1), .val (.ref xd2), .val (.int (1 : Int32)), .val (.ref b581), .val (.ref m635)] [(.ref xc2), (.ref m635)]))
          refine own_on (fun tq => XS.aload X665.here hx rfl (hb hby at_325) rfl rfl) ?_
          show own_Fin p e below _ (T665.setTop (mkF m 327 #[.val (.int p1), .val (.int p2), .val (.int p3), .val (.int c0), .val (.int c1), .val (.int c2), .val (.ref xc0), .val (.ref xc1), .val (.ref xc2), .val (.ref xd0), .val (.ref xd1), .val (.ref xd2), .val (.int (1 : Int32)), .val (.ref b581), .val (.ref m635)] [(.ref xd2), (.ref xc2), (.ref m635)]))
          refine own_on (fun tq => XS.iload X665.here hx rfl (hb hby at_327) rfl) ?_
          show own_Fin p e below _ (T665.setTop (mkF m 329 #[.val (.int p1), .val (.int p2), .val (.int p3), .val (.int c0), .val (.int c1), .val (.int c2), .val (.ref xc0), .val (.ref xc1), .val (.ref xc2), .val (.ref xd0), .val (.ref xd1), .val (.ref xd2), .val (.int (1 : Int32)), .val (.ref b581), .val (.ref m635)] [(.int (1 : Int32)), (.ref xd2), (.ref xc2), (.ref m635)]))
          refine own_on (fun tq => XS.iconst X665.here hx rfl (hb hby at_329)) ?_
          show own_Fin p e below _ (T665.setTop (mkF m 330 #[.val (.int p1), .val (.int p2), .val (.int p3), .val (.int c0), .val (.int c1), .val (.int c2), .val (.ref xc0), .val (.ref xc1), .val (.ref xc2), .val (.ref xd0), .val (.ref xd1), .val (.ref xd2), .val (.int (1 : Int32)), .val (.ref b581), .val (.ref m635)] [(.int (3 : Int32)), (.int (1 : Int32)), (.ref xd2), (.ref xc2), (.ref m635)]))
          refine own_on (fun tq => XS.icmpYes X665.here hx rfl (pc0 := 330) (pc' := 337) rfl (hb hby at_330) rfl (tlt (by decide : (1 : Int32) < (3 : Int32))).1 (by decide) (by decide)) ?_
          show own_Fin p e below _ (T665.setTop (mkF m 337 #[.val (.int p1), .val (.int p2), .val (.int p3), .val (.int c0), .val (.int c1), .val (.int c2), .val (.ref xc0), .val (.ref xc1), .val (.ref xc2), .val (.ref xd0), .val (.ref xd1), .val (.ref xd2), .val (.int (1 : Int32)), .val (.ref b581), .val (.ref m635)] [(.ref xd2), (.ref xc2), (.ref m635)]))
          refine own_on (fun tq => XS.iconst X665.here hx rfl (hb hby at_337)) ?_
          show own_Fin p e below _ (T665.setTop (mkF m 338 #[.val (.int p1), .val (.int p2), .val (.int p3), .val (.int c0), .val (.int c1), .val (.int c2), .val (.ref xc0), .val (.ref xc1), .val (.ref xc2), .val (.ref xd0), .val (.ref xd1), .val (.ref xd2), .val (.int (1 : Int32)), .val (.ref b581), .val (.ref m635)] [(.int (0 : Int32)), (.ref xd2), (.ref xc2), (.ref m635)]))
          obtain ⟨_, _, ⟨T676, L676, k676, n676⟩, -, X676, ⟨Lc676, hQ676, l676, y676, z676⟩, st676⟩ := Jvm.LawKit.callS X665 hx (y := (⟨"com/example/settlewatt/settlewatt/model/TraceRecordInputsOfPinLaw", "has", "(Ljava/util/Map;Ljava/lang/String;Ljava/lang/String;Z)Z"⟩ : MethodName)) hown (mvT hZ (hw _ (List.mem_of_getElem? (i := 99) rfl))) (mvT hZ (hw _ (List.mem_of_getElem? (i := 100) rfl))) (mvT hZ (hw _ (List.mem_of_getElem? (i := 101) rfl))) (mvT hZ (hw _ (List.mem_of_getElem? (i := 102) rfl))) (by decide) (backOf (W := 0) (rmH10 l Z a0 hw [] m635 xc2 xd2 z a635 k615 xc0 xd0 c0 t404 kt404 t416 kt416 c2 T665.heap n0 (by exact y667) hz y666 SC y673 y674 y675 (y467.keep y668) (y468.keep y668 nin0) (y469.keep y668 nin0) (y470.keep y668 nin0) rg407 (y475.keep y668) (y476.keep y668 nin0) (y477.keep y668 nin0) (y478.keep y668 nin0) rg427 (by first | rfl | (unfold own_get1; rw [if_neg (fun q => hc402 q.symm)]))) hZ (hw _ (List.mem_of_getElem? (i := 102) rfl)) (hw _ (List.mem_of_getElem? (i := 101) rfl)) (by decide) (by decide)) (g := (mkF m 338 #[.val (.int p1), .val (.int p2), .val (.int p3), .val (.int c0), .val (.int c1), .val (.int c2), .val (.ref xc0), .val (.ref xc1), .val (.ref xc2), .val (.ref xd0), .val (.ref xd1), .val (.ref xd2), .val (.int (1 : Int32)), .val (.ref b581), .val (.ref m635)] [(.int (0 : Int32)), (.ref xd2), (.ref xc2), (.ref m635)])) rfl (by rw [hml]; rfl) (argsL := [(.ref m635), (.ref xc2), (.ref xd2), (.int (0 : Int32))]) (rest := []) (lenOf pd_17 rfl) rfl (by show 2 * 0 + _ ≤ _; exact Nat.le_of_eq rfl) (hb hby at_338) (fun _ _ => ⟨rfl, rfl, (by decide : 23 + 3 ≤ _), (by decide : 54 + 5 ≤ _)⟩)
          dsimp only [Pt.U, Pt.locs, Pt.cells, Pt.slots] at X676 l676 y676 z676 st676 hQ676
          subst l676 y676 z676
          obtain ⟨rfl, N676q, K676⟩ := hQ676
          have N676 := Fr.app N665 N676q
          have y677 := (y666.keep K676 all0)
          have y678 := (Nat.le_trans y667 K676.1)
          have y679 := (y668.trans K676 all0)
          have y680 := (y669.keep K676 nin0)
          have y681 := (y670.keep K676)
          have y682 := (y671.keep K676 nin0)
          have y683 := (y672.keep K676)
          have y684 := (y673.keep K676)
          have y685 := (y674.keep K676 nin0)
          have y686 := (y675.keep K676 nin0)
          refine own_on st676 ?_
          show own_Fin p e below _ (T676.setTop (mkF m 341 #[.val (.int p1), .val (.int p2), .val (.int p3), .val (.int c0), .val (.int c1), .val (.int c2), .val (.ref xc0), .val (.ref xc1), .val (.ref xc2), .val (.ref xd0), .val (.ref xd1), .val (.ref xd2), .val (.int (1 : Int32)), .val (.ref b581), .val (.ref m635)] [(.int (1 : Int32))]))
          refine own_on (fun tq => XS.ifNo X676.here hx rfl (hb hby at_341) rfl ((if0 _ _).trans (feq (by decide : ¬ ((1 : Int32) = (0 : Int32)))).1)) ?_
          show own_Fin p e below _ (T676.setTop (mkF m 344 #[.val (.int p1), .val (.int p2), .val (.int p3), .val (.int c0), .val (.int c1), .val (.int c2), .val (.ref xc0), .val (.ref xc1), .val (.ref xc2), .val (.ref xd0), .val (.ref xd1), .val (.ref xd2), .val (.int (1 : Int32)), .val (.ref b581), .val (.ref m635)] []))
          refine own_on (fun tq => XS.iconst X676.here hx rfl (hb hby at_344)) ?_
          show own_Fin p e below _ (T676.setTop (mkF m 345 #[.val (.int p1), .val (.int p2), .val (.int p3), .val (.int c0), .val (.int c1), .val (.int c2), .val (.ref xc0), .val (.ref xc1), .val (.ref xc2), .val (.ref xd0), .val (.ref xd1), .val (.ref xd2), .val (.int (1 : Int32)), .val (.ref b581), .val (.ref m635)] [(.int (1 : Int32))]))
          refine own_on (fun tq => XS.goto X676.here hx rfl (pc0 := 345) (pc' := 349) rfl (hb hby at_345) (by decide) (by decide)) ?_
          show own_Fin p e below _ (T676.setTop (mkF m 349 #[.val (.int p1), .val (.int p2), .val (.int p3), .val (.int c0), .val (.int c1), .val (.int c2), .val (.ref xc0), .val (.ref xc1), .val (.ref xc2), .val (.ref xd0), .val (.ref xd1), .val (.ref xd2), .val (.int (1 : Int32)), .val (.ref b581), .val (.ref m635)] [(.int (1 : Int32))]))
          exact own_ret (t := .boolean) X676 hx hlk hret rfl (Or.inl ⟨rfl, (by simp), _, rfl⟩) (hb hby at_349) (⟨rfl, N676⟩) (by decide) (by decide)
        · rw [hn]
          show own_Fin p e below _ (T464.setTop (mkF m 112 #[.val (.int p1), .val (.int p2), .val (.int p3), .val (.int c0), .val (.int c1), .val (.int c2), .val (.ref xc0), .val (.ref xc1), .val (.ref xc2), .val (.ref xd0), .val (.ref xd1), .val (.ref xd2), .unset, .unset, .unset] [(.int (2 : Int32))]))
          refine own_on (fun tq => XS.istore X464.here hx rfl (hb hby at_112) rfl (l' := #[.val (.int p1), .val (.int p2), .val (.int p3), .val (.int c0), .val (.int c1), .val (.int c2), .val (.ref xc0), .val (.ref xc1), .val (.ref xc2), .val (.ref xd0), .val (.ref xd1), .val (.ref xd2), .val (.int (2 : Int32)), .unset, .unset]) rfl) ?_
          show own_Fin p e below _ (T464.setTop (mkF m 114 #[.val (.int p1), .val (.int p2), .val (.int p3), .val (.int c0), .val (.int c1), .val (.int c2), .val (.ref xc0), .val (.ref xc1), .val (.ref xc2), .val (.ref xd0), .val (.ref xd1), .val (.ref xd2), .val (.int (2 : Int32)), .unset, .unset] []))
          refine own_on (fun tq => XS.bipush X464.here hx rfl (hb hby at_114)) ?_
          show own_Fin p e below _ (T464.setTop (mkF m 116 #[.val (.int p1), .val (.int p2), .val (.int p3), .val (.int c0), .val (.int c1), .val (.int c2), .val (.ref xc0), .val (.ref xc1), .val (.ref xc2), .val (.ref xd0), .val (.ref xd1), .val (.ref xd2), .val (.int (2 : Int32)), .unset, .unset] [(.int (6 : Int32))]))
          obtain ⟨T687, h687, k687, X687, e687, E687, A687, D687, O687, st687⟩ := newRE X464 hx hZ hown (hw _ (List.mem_of_getElem? (i := 26) rfl)) (hw _ (List.mem_of_getElem? (i := 27) rfl)) rfl (g := (mkF m 116 #[.val (.int p1), .val (.int p2), .val (.int p3), .val (.int c0), .val (.int c1), .val (.int c2), .val (.ref xc0), .val (.ref xc1), .val (.ref xc2), .val (.ref xd0), .val (.ref xd1), .val (.ref xd2), .val (.int (2 : Int32)), .unset, .unset] [(.int (6 : Int32))])) rfl (hb hby at_116) rfl (by decide) (cap := 6) (by decide) (by decide) (by decide) (by decide) (ad := "[Ljava/lang/String;") (by decide)
          obtain ⟨b687, g687⟩ : ∃ z, z = T464.heap.size := ⟨_, rfl⟩
          rw [← g687] at A687 D687 st687
          have y688 := (y465.ext E687)
          have y689 := (Nat.le_trans y466 E687.1)
          have y690 := (y488.ext E687)
          have gn687 : n0 ≤ b687 := Nat.le_trans y466 (Nat.le_of_eq g687.symm)
          have gk687 : T464.heap.size ≤ b687 := Nat.le_trans y488.1 (Nat.le_of_eq g687.symm)
          have V687 : Arv Z h687 b687 k687 (.object "java/lang/String") (6 : Int32) [.null, .null, .null, .null, .null, .null] .null := (Arv.new A687 (by decide)).pad (pad_rep [] .null 6)
          refine own_on st687 ?_
          show own_Fin p e below _ (T687.setTop (mkF m 119 #[.val (.int p1), .val (.int p2), .val (.int p3), .val (.int c0), .val (.int c1), .val (.int c2), .val (.ref xc0), .val (.ref xc1), .val (.ref xc2), .val (.ref xd0), .val (.ref xd1), .val (.ref xd2), .val (.int (2 : Int32)), .unset, .unset] [(.ref b687)]))
          refine own_on (fun tq => XS.dup X687.here hx rfl (hb hby at_119) rfl rfl) ?_
          show own_Fin p e below _ (T687.setTop (mkF m 120 #[.val (.int p1), .val (.int p2), .val (.int p3), .val (.int c0), .val (.int c1), .val (.int c2), .val (.ref xc0), .val (.ref xc1), .val (.ref xc2), .val (.ref xd0), .val (.ref xd1), .val (.ref xd2), .val (.int (2 : Int32)), .unset, .unset] [(.ref b687), (.ref b687)]))
          refine own_on (fun tq => XS.iconst X687.here hx rfl (hb hby at_120)) ?_
          show own_Fin p e below _ (T687.setTop (mkF m 121 #[.val (.int p1), .val (.int p2), .val (.int p3), .val (.int c0), .val (.int c1), .val (.int c2), .val (.ref xc0), .val (.ref xc1), .val (.ref xc2), .val (.ref xd0), .val (.ref xd1), .val (.ref xd2), .val (.int (2 : Int32)), .unset, .unset] [(.int (0 : Int32)), (.ref b687), (.ref b687)]))
          refine own_on (fun tq => XS.aload X687.here hx rfl (hb hby at_121) rfl rfl) ?_
          show own_Fin p e below _ (T687.setTop (mkF m 123 #[.val (.int p1), .val (.int p2), .val (.int p3), .val (.int c0), .val (.int c1), .val (.int c2), .val (.ref xc0), .val (.ref xc1), .val (.ref xc2), .val (.ref xd0), .val (.ref xd1), .val (.ref xd2), .val (.int (2 : Int32)), .unset, .unset] [(.ref xc0), (.int (0 : Int32)), (.ref b687), (.ref b687)]))
          have cp691 := V687
          obtain ⟨cl691, Ar691, q691, S691, G691, H691, F691⟩ := cp691
          have hin691 : ¬ ((0 : Int32) < 0 ∨ cl691.slots.size ≤ ((0 : Int32)).toNatClampNeg) := inb_of S691 ⟨by decide, by decide⟩
          obtain ⟨T691, h691, X691, e691, W691, st691⟩ := stR X687 hx hZ e687 Ar691 (j := (0 : Int32)) hin691 rfl (Sto.ofV Ar691 q691 O687 (Ins.self (y467.keep y690))) (g := (mkF m 123 #[.val (.int p1), .val (.int p2), .val (.int p3), .val (.int c0), .val (.int c1), .val (.int c2), .val (.ref xc0), .val (.ref xc1), .val (.ref xc2), .val (.ref xd0), .val (.ref xd1), .val (.ref xd2), .val (.int (2 : Int32)), .unset, .unset] [(.ref xc0), (.int (0 : Int32)), (.ref b687), (.ref b687)])) rfl rfl (hb hby at_123)
          have V691 : Arv Z h691 b687 k687 (.object "java/lang/String") (6 : Int32) [(.ref xc0), .null, .null, .null, .null, .null] .null := Arv.set Ar691 q691 S691 G691 H691 F691 rfl W691 0 rfl (Nat.le_of_ble_eq_true rfl)
          have N691 := Fr.snoc X691 N464 gn687
          have y692 := (y688.wr W691 gn687)
          have y693 := (Nat.le_trans y689 (Keep.of_wr W691).1)
          have y694 := (y690.wr W691 (Or.inr gk687))
          have y695 := (D687.wr W691)
          refine own_on st691 ?_
          show own_Fin p e below _ (T691.setTop (mkF m 124 #[.val (.int p1), .val (.int p2), .val (.int p3), .val (.int c0), .val (.int c1), .val (.int c2), .val (.ref xc0), .val (.ref xc1), .val (.ref xc2), .val (.ref xd0), .val (.ref xd1), .val (.ref xd2), .val (.int (2 : Int32)), .unset, .unset] [(.ref b687)]))
          refine own_on (fun tq => XS.dup X691.here hx rfl (hb hby at_124) rfl rfl) ?_
          show own_Fin p e below _ (T691.setTop (mkF m 125 #[.val (.int p1), .val (.int p2), .val (.int p3), .val (.int c0), .val (.int c1), .val (.int c2), .val (.ref xc0), .val (.ref xc1), .val (.ref xc2), .val (.ref xd0), .val (.ref xd1), .val (.ref xd2), .val (.int (2 : Int32)), .unset, .unset] [(.ref b687), (.ref b687)]))
          refine own_on (fun tq => XS.iconst X691.here hx rfl (hb hby at_125)) ?_
          show own_Fin p e below _ (T691.setTop (mkF m 126 #[.val (.int p1), .val (.int p2), .val (.int p3), .val (.int c0), .val (.int c1), .val (.int c2), .val (.ref xc0), .val (.ref xc1), .val (.ref xc2), .val (.ref xd0), .val (.ref xd1), .val (.ref xd2), .val (.int (2 : Int32)), .unset, .unset] [(.int (1 : Int32)), (.ref b687), (.ref b687)]))
          refine own_on (fun tq => XS.aload X691.here hx rfl (hb hby at_126) rfl rfl) ?_
          show own_Fin p e below _ (T691.setTop (mkF m 128 #[.val (.int p1), .val (.int p2), .val (.int p3), .val (.int c0), .val (.int c1), .val (.int c2), .val (.ref xc0), .val (.ref xc1), .val (.ref xc2), .val (.ref xd0), .val (.ref xd1), .val (.ref xd2), .val (.int (2 : Int32)), .unset, .unset] [(.ref xd0), (.int (1 : Int32)), (.ref b687), (.ref b687)]))
          have cp696 := V691
          obtain ⟨cl696, Ar696, q696, S696, G696, H696, F696⟩ := cp696
          have hin696 : ¬ ((1 : Int32) < 0 ∨ cl696.slots.size ≤ ((1 : Int32)).toNatClampNeg) := inb_of S696 ⟨by decide, by decide⟩
          obtain ⟨T696, h696, X696, e696, W696, st696⟩ := stR X691 hx hZ e691 Ar696 (j := (1 : Int32)) hin696 rfl (Sto.ofV Ar696 q696 O687 (Ins.self (y479.keep y694))) (g := (mkF m 128 #[.val (.int p1), .val (.int p2), .val (.int p3), .val (.int c0), .val (.int c1), .val (.int c2), .val (.ref xc0), .val (.ref xc1), .val (.ref xc2), .val (.ref xd0), .val (.ref xd1), .val (.ref xd2), .val (.int (2 : Int32)), .unset, .unset] [(.ref xd0), (.int (1 : Int32)), (.ref b687), (.ref b687)])) rfl rfl (hb hby at_128)
          have V696 : Arv Z h696 b687 k687 (.object "java/lang/String") (6 : Int32) [(.ref xc0), (.ref xd0), .null, .null, .null, .null] .null := Arv.set Ar696 q696 S696 G696 H696 F696 rfl W696 1 rfl (Nat.le_of_ble_eq_true rfl)
          have N696 := Fr.snoc X696 N691 gn687
          have y697 := (y692.wr W696 gn687)
          have y698 := (Nat.le_trans y693 (Keep.of_wr W696).1)
          have y699 := (y694.wr W696 (Or.inr gk687))
          have y700 := (y695.wr W696)
          refine own_on st696 ?_
          show own_Fin p e below _ (T696.setTop (mkF m 129 #[.val (.int p1), .val (.int p2), .val (.int p3), .val (.int c0), .val (.int c1), .val (.int c2), .val (.ref xc0), .val (.ref xc1), .val (.ref xc2), .val (.ref xd0), .val (.ref xd1), .val (.ref xd2), .val (.int (2 : Int32)), .unset, .unset] [(.ref b687)]))
          refine own_on (fun tq => XS.dup X696.here hx rfl (hb hby at_129) rfl rfl) ?_
          show own_Fin p e below _ (T696.setTop (mkF m 130 #[.val (.int p1), .val (.int p2), .val (.int p3), .val (.int c0), .val (.int c1), .val (.int c2), .val (.ref xc0), .val (.ref xc1), .val (.ref xc2), .val (.ref xd0), .val (.ref xd1), .val (.ref xd2), .val (.int (2 : Int32)), .unset, .unset] [(.ref b687), (.ref b687)]))
          refine own_on (fun tq => XS.iconst X696.here hx rfl (hb hby at_130)) ?_
          show own_Fin p e below _ (T696.setTop (mkF m 131 #[.val (.int p1), .val (.int p2), .val (.int p3), .val (.int c0), .val (.int c1), .val (.int c2), .val (.ref xc0), .val (.ref xc1), .val (.ref xc2), .val (.ref xd0), .val (.ref xd1), .val (.ref xd2), .val (.int (2 : Int32)), .unset, .unset] [(.int (2 : Int32)), (.ref b687), (.ref b687)]))
          refine own_on (fun tq => XS.aload X696.here hx rfl (hb hby at_131) rfl rfl) ?_
          show own_Fin p e below _ (T696.setTop (mkF m 133 #[.val (.int p1), .val (.int p2), .val (.int p3), .val (.int c0), .val (.int c1), .val (.int c2), .val (.ref xc0), .val (.ref xc1), .val (.ref xc2), .val (.ref xd0), .val (.ref xd1), .val (.ref xd2), .val (.int (2 : Int32)), .unset, .unset] [(.ref xc1), (.int (2 : Int32)), (.ref b687), (.ref b687)]))
          have cp701 := V696
          obtain ⟨cl701, Ar701, q701, S701, G701, H701, F701⟩ := cp701
          have hin701 : ¬ ((2 : Int32) < 0 ∨ cl701.slots.size ≤ ((2 : Int32)).toNatClampNeg) := inb_of S701 ⟨by decide, by decide⟩
          obtain ⟨T701, h701, X701, e701, W701, st701⟩ := stR X696 hx hZ e696 Ar701 (j := (2 : Int32)) hin701 rfl (Sto.ofV Ar701 q701 O687 (Ins.self (y471.keep y699))) (g := (mkF m 133 #[.val (.int p1), .val (.int p2), .val (.int p3), .val (.int c0), .val (.int c1), .val (.int c2), .val (.ref xc0), .val (.ref xc1), .val (.ref xc2), .val (.ref xd0), .val (.ref xd1), .val (.ref xd2), .val (.int (2 : Int32)), .unset, .unset] [(.ref xc1), (.int (2 : Int32)), (.ref b687), (.ref b687)])) rfl rfl (hb hby at_133)
          have V701 : Arv Z h701 b687 k687 (.object "java/lang/String") (6 : Int32) [(.ref xc0), (.ref xd0), (.ref xc1), .null, .null, .null] .null := Arv.set Ar701 q701 S701 G701 H701 F701 rfl W701 2 rfl (Nat.le_of_ble_eq_true rfl)
          have N701 := Fr.snoc X701 N696 gn687
          have y702 := (y697.wr W701 gn687)
          have y703 := (Nat.le_trans y698 (Keep.of_wr W701).1)
          have y704 := (y699.wr W701 (Or.inr gk687))
          have y705 := (y700.wr W701)
          refine own_on st701 ?_
          show own_Fin p e below _ (T701.setTop (mkF m 134 #[.val (.int p1), .val (.int p2), .val (.int p3), .val (.int c0), .val (.int c1), .val (.int c2), .val (.ref xc0), .val (.ref xc1), .val (.ref xc2), .val (.ref xd0), .val (.ref xd1), .val (.ref xd2), .val (.int (2 : Int32)), .unset, .unset] [(.ref b687)]))
          refine own_on (fun tq => XS.dup X701.here hx rfl (hb hby at_134) rfl rfl) ?_
          show own_Fin p e below _ (T701.setTop (mkF m 135 #[.val (.int p1), .val (.int p2), .val (.int p3), .val (.int c0), .val (.int c1), .val (.int c2), .val (.ref xc0), .val (.ref xc1), .val (.ref xc2), .val (.ref xd0), .val (.ref xd1), .val (.ref xd2), .val (.int (2 : Int32)), .unset, .unset] [(.ref b687), (.ref b687)]))
          refine own_on (fun tq => XS.iconst X701.here hx rfl (hb hby at_135)) ?_
          show own_Fin p e below _ (T701.setTop (mkF m 136 #[.val (.int p1), .val (.int p2), .val (.int p3), .val (.int c0), .val (.int c1), .val (.int c2), .val (.ref xc0), .val (.ref xc1), .val (.ref xc2), .val (.ref xd0), .val (.ref xd1), .val (.ref xd2), .val (.int (2 : Int32)), .unset, .unset] [(.int (3 : Int32)), (.ref b687), (.ref b687)]))
          refine own_on (fun tq => XS.aload X701.here hx rfl (hb hby at_136) rfl rfl) ?_
          show own_Fin p e below _ (T701.setTop (mkF m 138 #[.val (.int p1), .val (.int p2), .val (.int p3), .val (.int c0), .val (.int c1), .val (.int c2), .val (.ref xc0), .val (.ref xc1), .val (.ref xc2), .val (.ref xd0), .val (.ref xd1), .val (.ref xd2), .val (.int (2 : Int32)), .unset, .unset] [(.ref xd1), (.int (3 : Int32)), (.ref b687), (.ref b687)]))
          have cp706 := V701
          obtain ⟨cl706, Ar706, q706, S706, G706, H706, F706⟩ := cp706
          have hin706 : ¬ ((3 : Int32) < 0 ∨ cl706.slots.size ≤ ((3 : Int32)).toNatClampNeg) := inb_of S706 ⟨by decide, by decide⟩
          obtain ⟨T706, h706, X706, e706, W706, st706⟩ := stR X701 hx hZ e701 Ar706 (j := (3 : Int32)) hin706 rfl (Sto.ofV Ar706 q706 O687 (Ins.self (y483.keep y704))) (g := (mkF m 138 #[.val (.int p1), .val (.int p2), .val (.int p3), .val (.int c0), .val (.int c1), .val (.int c2), .val (.ref xc0), .val (.ref xc1), .val (.ref xc2), .val (.ref xd0), .val (.ref xd1), .val (.ref xd2), .val (.int (2 : Int32)), .unset, .unset] [(.ref xd1), (.int (3 : Int32)), (.ref b687), (.ref b687)])) rfl rfl (hb hby at_138)
          have V706 : Arv Z h706 b687 k687 (.object "java/lang/String") (6 : Int32) [(.ref xc0), (.ref xd0), (.ref xc1), (.ref xd1), .null, .null] .null := Arv.set Ar706 q706 S706 G706 H706 F706 rfl W706 3 rfl (Nat.le_of_ble_eq_true rfl)
          have N706 := Fr.snoc X706 N701 gn687
          have y707 := (y702.wr W706 gn687)
          have y708 := (Nat.le_trans y703 (Keep.of_wr W706).1)
          have y709 := (y704.wr W706 (Or.inr gk687))
          have y710 := (y705.wr W706)
          refine own_on st706 ?_
          show own_Fin p e below _ (T706.setTop (mkF m 139 #[.val (.int p1), .val (.int p2), .val (.int p3), .val (.int c0), .val (.int c1), .val (.int c2), .val (.ref xc0), .val (.ref xc1), .val (.ref xc2), .val (.ref xd0), .val (.ref xd1), .val (.ref xd2), .val (.int (2 : Int32)), .unset, .unset] [(.ref b687)]))
          refine own_on (fun tq => XS.dup X706.here hx rfl (hb hby at_139) rfl rfl) ?_
          show own_Fin p e below _ (T706.setTop (mkF m 140 #[.val (.int p1), .val (.int p2), .val (.int p3), .val (.int c0), .val (.int c1), .val (.int c2), .val (.ref xc0), .val (.ref xc1), .val (.ref xc2), .val (.ref xd0), .val (.ref xd1), .val (.ref xd2), .val (.int (2 : Int32)), .unset, .unset] [(.ref b687), (.ref b687)]))
          refine own_on (fun tq => XS.iconst X706.here hx rfl (hb hby at_140)) ?_
          show own_Fin p e below _ (T706.setTop (mkF m 141 #[.val (.int p1), .val (.int p2), .val (.int p3), .val (.int c0), .val (.int c1), .val (.int c2), .val (.ref xc0), .val (.ref xc1), .val (.ref xc2), .val (.ref xd0), .val (.ref xd1), .val (.ref xd2), .val (.int (2 : Int32)), .unset, .unset] [(.int (4 : Int32)), (.ref b687), (.ref b687)]))
          refine own_on (fun tq => XS.aload X706.here hx rfl (hb hby at_141) rfl rfl) ?_
          show own_Fin p e below _ (T706.setTop (mkF m 143 #[.val (.int p1), .val (.int p2), .val (.int p3), .val (.int c0), .val (.int c1), .val (.int c2), .val (.ref xc0), .val (.ref xc1), .val (.ref xc2), .val (.ref xd0), .val (.ref xd1), .val (.ref xd2), .val (.int (2 : Int32)), .unset, .unset] [(.ref xc2), (.int (4 : Int32)), (.ref b687), (.ref b687)]))
          have cp711 := V706
          obtain ⟨cl711, Ar711, q711, S711, G711, H711, F711⟩ := cp711
          have hin711 : ¬ ((4 : Int32) < 0 ∨ cl711.slots.size ≤ ((4 : Int32)).toNatClampNeg) := inb_of S711 ⟨by decide, by decide⟩
          obtain ⟨T711, h711, X711, e711, W711, st711⟩ := stR X706 hx hZ e706 Ar711 (j := (4 : Int32)) hin711 rfl (Sto.ofV Ar711 q711 O687 (Ins.self (y475.keep y709))) (g := (mkF m 143 #[.val (.int p1), .val (.int p2), .val (.int p3), .val (.int c0), .val (.int c1), .val (.int c2), .val (.ref xc0), .val (.ref xc1), .val (.ref xc2), .val (.ref xd0), .val (.ref xd1), .val (.ref xd2), .val (.int (2 : Int32)), .unset, .unset] [(.ref xc2), (.int (4 : Int32)), (.ref b687), (.ref b687)])) rfl rfl (hb hby at_143)
          have V711 : Arv Z h711 b687 k687 (.object "java/lang/String") (6 : Int32) [(.ref xc0), (.ref xd0), (.ref xc1), (.ref xd1), (.ref xc2), .null] .null := Arv.set Ar711 q711 S711 G711 H711 F711 rfl W711 4 rfl (Nat.le_of_ble_eq_true rfl)
          have N711 := Fr.snoc X711 N706 gn687
          have y712 := (y707.wr W711 gn687)
          have y713 := (Nat.le_trans y708 (Keep.of_wr W711).1)
          have y714 := (y709.wr W711 (Or.inr gk687))
          have y715 := (y710.wr W711)
          refine own_on st711 ?_
          show own_Fin p e below _ (T711.setTop (mkF m 144 #[.val (.int p1), .val (.int p2), .val (.int p3), .val (.int c0), .val (.int c1), .val (.int c2), .val (.ref xc0), .val (.ref xc1), .val (.ref xc2), .val (.ref xd0), .val (.ref xd1), .val (.ref xd2), .val (.int (2 : Int32)), .unset, .unset] [(.ref b687)]))
          refine own_on (fun tq => XS.dup X711.here hx rfl (hb hby at_144) rfl rfl) ?_
          show own_Fin p e below _ (T711.setTop (mkF m 145 #[.val (.int p1), .val (.int p2), .val (.int p3), .val (.int c0), .val (.int c1), .val (.int c2), .val (.ref xc0), .val (.ref xc1), .val (.ref xc2), .val (.ref xd0), .val (.ref xd1), .val (.ref xd2), .val (.int (2 : Int32)), .unset, .unset] [(.ref b687), (.ref b687)]))
          refine own_on (fun tq => XS.iconst X711.here hx rfl (hb hby at_145)) ?_
          show own_Fin p e below _ (T711.setTop (mkF m 146 #[.val (.int p1), .val (.int p2), .val (.int p3), .val (.int c0), .val (.int c1), .val (.int c2), .val (.ref xc0), .val (.ref xc1), .val (.ref xc2), .val (.ref xd0), .val (.ref xd1), .val (.ref xd2), .val (.int (2 : Int32)), .unset, .unset] [(.int (5 : Int32)), (.ref b687), (.ref b687)]))
          refine own_on (fun tq => XS.aload X711.here hx rfl (hb hby at_146) rfl rfl) ?_
          show own_Fin p e below _ (T711.setTop (mkF m 148 #[.val (.int p1), .val (.int p2), .val (.int p3), .val (.int c0), .val (.int c1), .val (.int c2), .val (.ref xc0), .val (.ref xc1), .val (.ref xc2), .val (.ref xd0), .val (.ref xd1), .val (.ref xd2), .val (.int (2 : Int32)), .unset, .unset] [(.ref xd2), (.int (5 : Int32)), (.ref b687), (.ref b687)]))
          have cp716 := V711
          obtain ⟨cl716, Ar716, q716, S716, G716, H716, F716⟩ := cp716
          have hin716 : ¬ ((5 : Int32) < 0 ∨ cl716.slots.size ≤ ((5 : Int32)).toNatClampNeg) := inb_of S716 ⟨by decide, by decide⟩
          obtain ⟨T716, h716, X716, e716, W716, st716⟩ := stR X711 hx hZ e711 Ar716 (j := (5 : Int32)) hin716 rfl (Sto.ofV Ar716 q716 O687 (Ins.self (Eq464.keep y714))) (g := (mkF m 148 #[.val (.int p1), .val (.int p2), .val (.int p3), .val (.int c0), .val (.int c1), .val (.int c2), .val (.ref xc0), .val (.ref xc1), .val (.ref xc2), .val (.ref xd0), .val (.ref xd1), .val (.ref xd2), .val (.int (2 : Int32)), .unset, .unset] [(.ref xd2), (.int (5 : Int32)), (.ref b687), (.ref b687)])) rfl rfl (hb hby at_148)
          have V716 : Arv Z h716 b687 k687 (.object "java/lang/String") (6 : Int32) [(.ref xc0), (.ref xd0), (.ref xc1), (.ref xd1), (.ref xc2), (.ref xd2)] .null := Arv.set Ar716 q716 S716 G716 H716 F716 rfl W716 5 rfl (Nat.le_of_ble_eq_true rfl)
          have N716 := Fr.snoc X716 N711 gn687
          have y717 := (y712.wr W716 gn687)
          have y718 := (Nat.le_trans y713 (Keep.of_wr W716).1)
          have y719 := (y714.wr W716 (Or.inr gk687))
          have y720 := (y715.wr W716)
          refine own_on st716 ?_
          show own_Fin p e below _ (T716.setTop (mkF m 149 #[.val (.int p1), .val (.int p2), .val (.int p3), .val (.int c0), .val (.int c1), .val (.int c2), .val (.ref xc0), .val (.ref xc1), .val (.ref xc2), .val (.ref xd0), .val (.ref xd1), .val (.ref xd2), .val (.int (2 : Int32)), .unset, .unset] [(.ref b687)]))
          refine own_on (fun tq => XS.astore X716.here hx rfl (hb hby at_149) rfl rfl (l' := #[.val (.int p1), .val (.int p2), .val (.int p3), .val (.int c0), .val (.int c1), .val (.int c2), .val (.ref xc0), .val (.ref xc1), .val (.ref xc2), .val (.ref xd0), .val (.ref xd1), .val (.ref xd2), .val (.int (2 : Int32)), .val (.ref b687), .unset]) rfl) ?_
          show own_Fin p e below _ (T716.setTop (mkF m 151 #[.val (.int p1), .val (.int p2), .val (.int p3), .val (.int c0), .val (.int c1), .val (.int c2), .val (.ref xc0), .val (.ref xc1), .val (.ref xc2), .val (.ref xd0), .val (.ref xd1), .val (.ref xd2), .val (.int (2 : Int32)), .val (.ref b687), .unset] []))
          refine own_on (fun tq => XS.iload X716.here hx rfl (hb hby at_151) rfl) ?_
          show own_Fin p e below _ (T716.setTop (mkF m 153 #[.val (.int p1), .val (.int p2), .val (.int p3), .val (.int c0), .val (.int c1), .val (.int c2), .val (.ref xc0), .val (.ref xc1), .val (.ref xc2), .val (.ref xd0), .val (.ref xd1), .val (.ref xd2), .val (.int (2 : Int32)), .val (.ref b687), .unset] [(.int (2 : Int32))]))
          refine own_on (fun tq => XS.ifYes X716.here hx rfl (pc0 := 153) (pc' := 168) rfl (hb hby at_153) rfl ((if0 _ _).trans (feq (by decide : ¬ ((2 : Int32) = (0 : Int32)))).2) (by decide) (by decide)) ?_
          show own_Fin p e below _ (T716.setTop (mkF m 168 #[.val (.int p1), .val (.int p2), .val (.int p3), .val (.int c0), .val (.int c1), .val (.int c2), .val (.ref xc0), .val (.ref xc1), .val (.ref xc2), .val (.ref xd0), .val (.ref xd1), .val (.ref xd2), .val (.int (2 : Int32)), .val (.ref b687), .unset] []))
          refine own_on (fun tq => XS.iload X716.here hx rfl (hb hby at_168) rfl) ?_
          show own_Fin p e below _ (T716.setTop (mkF m 170 #[.val (.int p1), .val (.int p2), .val (.int p3), .val (.int c0), .val (.int c1), .val (.int c2), .val (.ref xc0), .val (.ref xc1), .val (.ref xc2), .val (.ref xd0), .val (.ref xd1), .val (.ref xd2), .val (.int (2 : Int32)), .val (.ref b687), .unset] [(.int (2 : Int32))]))
          refine own_on (fun tq => XS.iconst X716.here hx rfl (hb hby at_170)) ?_
          show own_Fin p e below _ (T716.setTop (mkF m 171 #[.val (.int p1), .val (.int p2), .val (.int p3), .val (.int c0), .val (.int c1), .val (.int c2), .val (.ref xc0), .val (.ref xc1), .val (.ref xc2), .val (.ref xd0), .val (.ref xd1), .val (.ref xd2), .val (.int (2 : Int32)), .val (.ref b687), .unset] [(.int (1 : Int32)), (.int (2 : Int32))]))
          refine own_on (fun tq => XS.icmpYes X716.here hx rfl (pc0 := 171) (pc' := 196) rfl (hb hby at_171) rfl (feq (by decide : ¬ ((2 : Int32) = (1 : Int32)))).2 (by decide) (by decide)) ?_
          show own_Fin p e below _ (T716.setTop (mkF m 196 #[.val (.int p1), .val (.int p2), .val (.int p3), .val (.int c0), .val (.int c1), .val (.int c2), .val (.ref xc0), .val (.ref xc1), .val (.ref xc2), .val (.ref xd0), .val (.ref xd1), .val (.ref xd2), .val (.int (2 : Int32)), .val (.ref b687), .unset] []))
          refine own_on (fun tq => XS.iload X716.here hx rfl (hb hby at_196) rfl) ?_
          show own_Fin p e below _ (T716.setTop (mkF m 198 #[.val (.int p1), .val (.int p2), .val (.int p3), .val (.int c0), .val (.int c1), .val (.int c2), .val (.ref xc0), .val (.ref xc1), .val (.ref xc2), .val (.ref xd0), .val (.ref xd1), .val (.ref xd2), .val (.int (2 : Int32)), .val (.ref b687), .unset] [(.int (2 : Int32))]))
          refine own_on (fun tq => XS.iconst X716.here hx rfl (hb hby at_198)) ?_
          show own_Fin p e below _ (T716.setTop (mkF m 199 #[.val (.int p1), .val (.int p2), .val (.int p3), .val (.int c0), .val (.int c1), .val (.int c2), .val (.ref xc0), .val (.ref xc1), .val (.ref xc2), .val (.ref xd0), .val (.ref xd1), .val (.ref xd2), .val (.int (2 : Int32)), .val (.ref b687), .unset] [(.int (2 : Int32)), (.int (2 : Int32))]))
          refine own_on (fun tq => XS.icmpNo X716.here hx rfl (hb hby at_199) rfl (teq (by decide : (2 : Int32) = (2 : Int32))).2) ?_
          show own_Fin p e below _ (T716.setTop (mkF m 202 #[.val (.int p1), .val (.int p2), .val (.int p3), .val (.int c0), .val (.int c1), .val (.int c2), .val (.ref xc0), .val (.ref xc1), .val (.ref xc2), .val (.ref xd0), .val (.ref xd1), .val (.ref xd2), .val (.int (2 : Int32)), .val (.ref b687), .unset] []))
          refine own_on (fun tq => XS.iconst X716.here hx rfl (hb hby at_202)) ?_
          show own_Fin p e below _ (T716.setTop (mkF m 203 #[.val (.int p1), .val (.int p2), .val (.int p3), .val (.int c0), .val (.int c1), .val (.int c2), .val (.ref xc0), .val (.ref xc1), .val (.ref xc2), .val (.ref xd0), .val (.ref xd1), .val (.ref xd2), .val (.int (2 : Int32)), .val (.ref b687), .unset] [(.int (4 : Int32))]))
          obtain ⟨T721, h721, k721, X721, e721, E721, A721, D721, O721, st721⟩ := newRE X716 hx hZ hown (hw _ (List.mem_of_getElem? (i := 26) rfl)) (hw _ (List.mem_of_getElem? (i := 27) rfl)) e716 (g := (mkF m 203 #[.val (.int p1), .val (.int p2), .val (.int p3), .val (.int c0), .val (.int c1), .val (.int c2), .val (.ref xc0), .val (.ref xc1), .val (.ref xc2), .val (.ref xd0), .val (.ref xd1), .val (.ref xd2), .val (.int (2 : Int32)), .val (.ref b687), .unset] [(.int (4 : Int32))])) rfl (hb hby at_203) rfl (by decide) (cap := 4) (by decide) (by decide) (by decide) (by decide) (ad := "[Ljava/lang/String;") (by decide)
          obtain ⟨b721, g721⟩ : ∃ z, z = h716.size := ⟨_, rfl⟩
          rw [← g721] at A721 D721 st721
          have ne721_b687 : b687 ≠ b721 := own_ne_of (Z := Z) V716.lt g721
          have y722 := (y717.ext E721)
          have y723 := (Nat.le_trans y718 E721.1)
          have y724 := (y719.ext E721)
          have y725 := (V716.ext E721)
          have y726 := (y720.ext E721)
          have gn721 : n0 ≤ b721 := Nat.le_trans y718 (Nat.le_of_eq g721.symm)
          have gk721 : T464.heap.size ≤ b721 := Nat.le_trans y719.1 (Nat.le_of_eq g721.symm)
          have V721 : Arv Z h721 b721 k721 (.object "java/lang/String") (4 : Int32) [.null, .null, .null, .null] .null := (Arv.new A721 (by decide)).pad (pad_rep [] .null 4)
          refine own_on st721 ?_
          show own_Fin p e below _ (T721.setTop (mkF m 206 #[.val (.int p1), .val (.int p2), .val (.int p3), .val (.int c0), .val (.int c1), .val (.int c2), .val (.ref xc0), .val (.ref xc1), .val (.ref xc2), .val (.ref xd0), .val (.ref xd1), .val (.ref xd2), .val (.int (2 : Int32)), .val (.ref b687), .unset] [(.ref b721)]))
          refine own_on (fun tq => XS.dup X721.here hx rfl (hb hby at_206) rfl rfl) ?_
          show own_Fin p e below _ (T721.setTop (mkF m 207 #[.val (.int p1), .val (.int p2), .val (.int p3), .val (.int c0), .val (.int c1), .val (.int c2), .val (.ref xc0), .val (.ref xc1), .val (.ref xc2), .val (.ref xd0), .val (.ref xd1), .val (.ref xd2), .val (.int (2 : Int32)), .val (.ref b687), .unset] [(.ref b721), (.ref b721)]))
          refine own_on (fun tq => XS.iconst X721.here hx rfl (hb hby at_207)) ?_
          show own_Fin p e below _ (T721.setTop (mkF m 208 #[.val (.int p1), .val (.int p2), .val (.int p3), .val (.int c0), .val (.int c1), .val (.int c2), .val (.ref xc0), .val (.ref xc1), .val (.ref xc2), .val (.ref xd0), .val (.ref xd1), .val (.ref xd2), .val (.int (2 : Int32)), .val (.ref b687), .unset] [(.int (0 : Int32)), (.ref b721), (.ref b721)]))
          refine own_on (fun tq => XS.aload X721.here hx rfl (hb hby at_208) rfl rfl) ?_
          show own_Fin p e below _ (T721.setTop (mkF m 210 #[.val (.int p1), .val (.int p2), .val (.int p3), .val (.int c0), .val (.int c1), .val (.int c2), .val (.ref xc0), .val (.ref xc1), .val (.ref xc2), .val (.ref xd0), .val (.ref xd1), .val (.ref xd2), .val (.int (2 : Int32)), .val (.ref b687), .unset] [(.ref xc0), (.int (0 : Int32)), (.ref b721), (.ref b721)]))
          have cp727 := V721
          obtain ⟨cl727, Ar727, q727, S727, G727, H727, F727⟩ := cp727
          have hin727 : ¬ ((0 : Int32) < 0 ∨ cl727.slots.size ≤ ((0 : Int32)).toNatClampNeg) := inb_of S727 ⟨by decide, by decide⟩
          obtain ⟨T727, h727, X727, e727, W727, st727⟩ := stR X721 hx hZ e721 Ar727 (j := (0 : Int32)) hin727 rfl (Sto.ofV Ar727 q727 O721 (Ins.self (y467.keep y724))) (g := (mkF m 210 #[.val (.int p1), .val (.int p2), .val (.int p3), .val (.int c0), .val (.int c1), .val (.int c2), .val (.ref xc0), .val (.ref xc1), .val (.ref xc2), .val (.ref xd0), .val (.ref xd1), .val (.ref xd2), .val (.int (2 : Int32)), .val (.ref b687), .unset] [(.ref xc0), (.int (0 : Int32)), (.ref b721), (.ref b721)])) rfl rfl (hb hby at_210)
          have V727 : Arv Z h727 b721 k721 (.object "java/lang/String") (4 : Int32) [(.ref xc0), .null, .null, .null] .null := Arv.set Ar727 q727 S727 G727 H727 F727 rfl W727 0 rfl (Nat.le_of_ble_eq_true rfl)
          have N727 := Fr.snoc X727 N716 gn721
          have y728 := (y722.wr W727 gn721)
          have y729 := (Nat.le_trans y723 (Keep.of_wr W727).1)
          have y730 := (y724.wr W727 (Or.inr gk721))
          have y731 := (y725.other W727 ne721_b687)
          have y732 := (y726.wr W727)
          have y733 := (D721.wr W727)
          refine own_on st727 ?_
          show own_Fin p e below _ (T727.setTop (mkF m 211 #[.val (.int p1), .val (.int p2), .val (.int p3), .val (.int c0), .val (.int c1), .val (.int c2), .val (.ref xc0), .val (.ref xc1), .val (.ref xc2), .val (.ref xd0), .val (.ref xd1), .val (.ref xd2), .val (.int (2 : Int32)), .val (.ref b687), .unset] [(.ref b721)]))
          refine own_on (fun tq => XS.dup X727.here hx rfl (hb hby at_211) rfl rfl) ?_
          show own_Fin p e below _ (T727.setTop (mkF m 212 #[.val (.int p1), .val (.int p2), .val (.int p3), .val (.int c0), .val (.int c1), .val (.int c2), .val (.ref xc0), .val (.ref xc1), .val (.ref xc2), .val (.ref xd0), .val (.ref xd1), .val (.ref xd2), .val (.int (2 : Int32)), .val (.ref b687), .unset] [(.ref b721), (.ref b721)]))
          refine own_on (fun tq => XS.iconst X727.here hx rfl (hb hby at_212)) ?_
          show own_Fin p e below _ (T727.setTop (mkF m 213 #[.val (.int p1), .val (.int p2), .val (.int p3), .val (.int c0), .val (.int c1), .val (.int c2), .val (.ref xc0), .val (.ref xc1), .val (.ref xc2), .val (.ref xd0), .val (.ref xd1), .val (.ref xd2), .val (.int (2 : Int32)), .val (.ref b687), .unset] [(.int (1 : Int32)), (.ref b721), (.ref b721)]))
          refine own_on (fun tq => XS.aload X727.here hx rfl (hb hby at_213) rfl rfl) ?_
          show own_Fin p e below _ (T727.setTop (mkF m 215 #[.val (.int p1), .val (.int p2), .val (.int p3), .val (.int c0), .val (.int c1), .val (.int c2), .val (.ref xc0), .val (.ref xc1), .val (.ref xc2), .val (.ref xd0), .val (.ref xd1), .val (.ref xd2), .val (.int (2 : Int32)), .val (.ref b687), .unset] [(.ref xd0), (.int (1 : Int32)), (.ref b721), (.ref b721)]))
          have cp734 := V727
          obtain ⟨cl734, Ar734, q734, S734, G734, H734, F734⟩ := cp734
          have hin734 : ¬ ((1 : Int32) < 0 ∨ cl734.slots.size ≤ ((1 : Int32)).toNatClampNeg) := inb_of S734 ⟨by decide, by decide⟩
          obtain ⟨T734, h734, X734, e734, W734, st734⟩ := stR X727 hx hZ e727 Ar734 (j := (1 : Int32)) hin734 rfl (Sto.ofV Ar734 q734 O721 (Ins.self (y479.keep y730))) (g := (mkF m 215 #[.val (.int p1), .val (.int p2), .val (.int p3), .val (.int c0), .val (.int c1), .val (.int c2), .val (.ref xc0), .val (.ref xc1), .val (.ref xc2), .val (.ref xd0), .val (.ref xd1), .val (.ref xd2), .val (.int (2 : Int32)), .val (.ref b687), .unset] [(.ref xd0), (.int (1 : Int32)), (.ref b721), (.ref b721)])) rfl rfl (hb hby at_215)
          have V734 : Arv Z h734 b721 k721 (.object "java/lang/String") (4 : Int32) [(.ref xc0), (.ref xd0), .null, .null] .null := Arv.set Ar734 q734 S734 G734 H734 F734 rfl W734 1 rfl (Nat.le_of_ble_eq_true rfl)
          have N734 := Fr.snoc X734 N727 gn721
          have y735 := (y728.wr W734 gn721)
          have y736 := (Nat.le_trans y729 (Keep.of_wr W734).1)
          have y737 := (y730.wr W734 (Or.inr gk721))
          have y738 := (y731.other W734 ne721_b687)
          have y739 := (y732.wr W734)
          have y740 := (y733.wr W734)
          refine own_on st734 ?_
          show own_Fin p e below _ (T734.setTop (mkF m 216 #[.val (.int p1), .val (.int p2), .val (.int p3), .val (.int c0), .val (.int c1), .val (.int c2), .val (.ref xc0), .val (.ref xc1), .val (.ref xc2), .val (.ref xd0), .val (.ref xd1), .val (.ref xd2), .val (.int (2 : Int32)), .val (.ref b687), .unset] [(.ref b721)]))
          refine own_on (fun tq => XS.dup X734.here hx rfl (hb hby at_216) rfl rfl) ?_
          show own_Fin p e below _ (T734.setTop (mkF m 217 #[.val (.int p1), .val (.int p2), .val (.int p3), .val (.int c0), .val (.int c1), .val (.int c2), .val (.ref xc0), .val (.ref xc1), .val (.ref xc2), .val (.ref xd0), .val (.ref xd1), .val (.ref xd2), .val (.int (2 : Int32)), .val (.ref b687), .unset] [(.ref b721), (.ref b721)]))
          refine own_on (fun tq => XS.iconst X734.here hx rfl (hb hby at_217)) ?_
          show own_Fin p e below _ (T734.setTop (mkF m 218 #[.val (.int p1), .val (.int p2), .val (.int p3), .val (.int c0), .val (.int c1), .val (.int c2), .val (.ref xc0), .val (.ref xc1), .val (.ref xc2), .val (.ref xd0), .val (.ref xd1), .val (.ref xd2), .val (.int (2 : Int32)), .val (.ref b687), .unset] [(.int (2 : Int32)), (.ref b721), (.ref b721)]))
          refine own_on (fun tq => XS.aload X734.here hx rfl (hb hby at_218) rfl rfl) ?_
          show own_Fin p e below _ (T734.setTop (mkF m 220 #[.val (.int p1), .val (.int p2), .val (.int p3), .val (.int c0), .val (.int c1), .val (.int c2), .val (.ref xc0), .val (.ref xc1), .val (.ref xc2), .val (.ref xd0), .val (.ref xd1), .val (.ref xd2), .val (.int (2 : Int32)), .val (.ref b687), .unset] [(.ref xc1), (.int (2 : Int32)), (.ref b721), (.ref b721)]))
          have cp741 := V734
          obtain ⟨cl741, Ar741, q741, S741, G741, H741, F741⟩ := cp741
          have hin741 : ¬ ((2 : Int32) < 0 ∨ cl741.slots.size ≤ ((2 : Int32)).toNatClampNeg) := inb_of S741 ⟨by decide, by decide⟩
          obtain ⟨T741, h741, X741, e741, W741, st741⟩ := stR X734 hx hZ e734 Ar741 (j := (2 : Int32)) hin741 rfl (Sto.ofV Ar741 q741 O721 (Ins.self (y471.keep y737))) (g := (mkF m 220 #[.val (.int p1), .val (.int p2), .val (.int p3), .val (.int c0), .val (.int c1), .val (.int c2), .val (.ref xc0), .val (.ref xc1), .val (.ref xc2), .val (.ref xd0), .val (.ref xd1), .val (.ref xd2), .val (.int (2 : Int32)), .val (.ref b687), .unset] [(.ref xc1), (.int (2 : Int32)), (.ref b721), (.ref b721)])) rfl rfl (hb hby at_220)
          have V741 : Arv Z h741 b721 k721 (.object "java/lang/String") (4 : Int32) [(.ref xc0), (.ref xd0), (.ref xc1), .null] .null := Arv.set Ar741 q741 S741 G741 H741 F741 rfl W741 2 rfl (Nat.le_of_ble_eq_true rfl)
          have N741 := Fr.snoc X741 N734 gn721
          have y742 := (y735.wr W741 gn721)
          have y743 := (Nat.le_trans y736 (Keep.of_wr W741).1)
          have y744 := (y737.wr W741 (Or.inr gk721))
          have y745 := (y738.other W741 ne721_b687)
          have y746 := (y739.wr W741)
          have y747 := (y740.wr W741)
          refine own_on st741 ?_
          show own_Fin p e below _ (T741.setTop (mkF m 221 #[.val (.int p1), .val (.int p2), .val (.int p3), .val (.int c0), .val (.int c1), .val (.int c2), .val (.ref xc0), .val (.ref xc1), .val (.ref xc2), .val (.ref xd0), .val (.ref xd1), .val (.ref xd2), .val (.int (2 : Int32)), .val (.ref b687), .unset] [(.ref b721)]))
          refine own_on (fun tq => XS.dup X741.here hx rfl (hb hby at_221) rfl rfl) ?_
          show own_Fin p e below _ (T741.setTop (mkF m 222 #[.val (.int p1), .val (.int p2), .val (.int p3), .val (.int c0), .val (.int c1), .val (.int c2), .val (.ref xc0), .val (.ref xc1), .val (.ref xc2), .val (.ref xd0), .val (.ref xd1), .val (.ref xd2), .val (.int (2 : Int32)), .val (.ref b687), .unset] [(.ref b721), (.ref b721)]))
          refine own_on (fun tq => XS.iconst X741.here hx rfl (hb hby at_222)) ?_
          show own_Fin p e below _ (T741.setTop (mkF m 223 #[.val (.int p1), .val (.int p2), .val (.int p3), .val (.int c0), .val (.int c1), .val (.int c2), .val (.ref xc0), .val (.ref xc1), .val (.ref xc2), .val (.ref xd0), .val (.ref xd1), .val (.ref xd2), .val (.int (2 : Int32)), .val (.ref b687), .unset] [(.int (3 : Int32)), (.ref b721), (.ref b721)]))
          refine own_on (fun tq => XS.aload X741.here hx rfl (hb hby at_223) rfl rfl) ?_
          show own_Fin p e below _ (T741.setTop (mkF m 225 #[.val (.int p1), .val (.int p2), .val (.int p3), .val (.int c0), .val (.int c1), .val (.int c2), .val (.ref xc0), .val (.ref xc1), .val (.ref xc2), .val (.ref xd0), .val (.ref xd1), .val (.ref xd2), .val (.int (2 : Int32)), .val (.ref b687), .unset] [(.ref xd1), (.int (3 : Int32)), (.ref b721), (.ref b721)]))
          have cp748 := V741
          obtain ⟨cl748, Ar748, q748, S748, G748, H748, F748⟩ := cp748
          have hin748 : ¬ ((3 : Int32) < 0 ∨ cl748.slots.size ≤ ((3 : Int32)).toNatClampNeg) := inb_of S748 ⟨by decide, by decide⟩
          obtain ⟨T748, h748, X748, e748, W748, st748⟩ := stR X741 hx hZ e741 Ar748 (j := (3 : Int32)) hin748 rfl (Sto.ofV Ar748 q748 O721 (Ins.self (y483.keep y744))) (g := (mkF m 225 #[.val (.int p1), .val (.int p2), .val (.int p3), .val (.int c0), .val (.int c1), .val (.int c2), .val (.ref xc0), .val (.ref xc1), .val (.ref xc2), .val (.ref xd0), .val (.ref xd1), .val (.ref xd2), .val (.int (2 : Int32)), .val (.ref b687), .unset] [(.ref xd1), (.int (3 : Int32)), (.ref b721), (.ref b721)])) rfl rfl (hb hby at_225)
          have V748 : Arv Z h748 b721 k721 (.object "java/lang/String") (4 : Int32) [(.ref xc0), (.ref xd0), (.ref xc1), (.ref xd1)] .null := Arv.set Ar748 q748 S748 G748 H748 F748 rfl W748 3 rfl (Nat.le_of_ble_eq_true rfl)
          have N748 := Fr.snoc X748 N741 gn721
          have y749 := (y742.wr W748 gn721)
          have y750 := (Nat.le_trans y743 (Keep.of_wr W748).1)
          have y751 := (y744.wr W748 (Or.inr gk721))
          have y752 := (y745.other W748 ne721_b687)
          have y753 := (y746.wr W748)
          have y754 := (y747.wr W748)
          refine own_on st748 ?_
          show own_Fin p e below _ (T748.setTop (mkF m 226 #[.val (.int p1), .val (.int p2), .val (.int p3), .val (.int c0), .val (.int c1), .val (.int c2), .val (.ref xc0), .val (.ref xc1), .val (.ref xc2), .val (.ref xd0), .val (.ref xd1), .val (.ref xd2), .val (.int (2 : Int32)), .val (.ref b687), .unset] [(.ref b721)]))
          obtain ⟨_, _, ⟨T755, L755, k755, n755⟩, -, X755, ⟨Lc755, hQ755, l755, y755, z755⟩, st755⟩ := Jvm.LawKit.callS X748 hx (y := (⟨"com/example/settlewatt/settlewatt/model/TraceRecord", "inputsOf", "([Ljava/lang/String;)Ljava/util/Map;"⟩ : MethodName)) hown (mvT hZ (hw _ (List.mem_of_getElem? (i := 28) rfl))) (mvT hZ (hw _ (List.mem_of_getElem? (i := 29) rfl))) (mvT hZ (hw _ (List.mem_of_getElem? (i := 30) rfl))) (mvT hZ (hw _ (List.mem_of_getElem? (i := 31) rfl))) (by decide) (backOf (W := 0) (rmO2 l Z a0 hw [] b721 z k721 xc0 xc1 xd0 xd1 c0 c1 t404 kt404 t408 kt408 h748 n0 (by exact y750) hz y749 SC V748 y754 (y467.keep y751) (y468.keep y751 nin0) (y469.keep y751 nin0) (y470.keep y751 nin0) rg407 (y471.keep y751) (y472.keep y751 nin0) (y473.keep y751 nin0) (y474.keep y751 nin0) rg415 hc401) hZ (hw _ (List.mem_of_getElem? (i := 31) rfl)) (hw _ (List.mem_of_getElem? (i := 30) rfl)) (by decide) (by decide)) (g := (mkF m 226 #[.val (.int p1), .val (.int p2), .val (.int p3), .val (.int c0), .val (.int c1), .val (.int c2), .val (.ref xc0), .val (.ref xc1), .val (.ref xc2), .val (.ref xd0), .val (.ref xd1), .val (.ref xd2), .val (.int (2 : Int32)), .val (.ref b687), .unset] [(.ref b721)])) rfl (by rw [hml]; rfl) (argsL := [(.ref b721)]) (rest := []) (lenOf pd_16 rfl) rfl (by show 2 * 0 + _ ≤ _; exact Nat.le_of_eq rfl) (hb hby at_226) (fun _ _ => ⟨rfl, e748, (by decide : 14 + 2 ≤ _), (by decide : 40 + 7 ≤ _)⟩)
          dsimp only [Pt.U, Pt.locs, Pt.cells, Pt.slots] at X755 l755 y755 z755 st755 hQ755
          subst l755 y755 z755
          obtain ⟨m755, a755, rfl, N755q, K755, gm755, gb755, Eq755, Fq755, Aq755⟩ := hQ755
          have lm755 : m755 ≠ b721 := Nat.ne_of_gt (Nat.lt_of_lt_of_le y754.lt gm755)
          have la755 : a755 ≠ b721 := Nat.ne_of_gt (Nat.lt_of_lt_of_le y754.lt gb755)
          have N755 := Fr.app N748 N755q
          have y756 := (y749.keep K755 all0)
          have y757 := (Nat.le_trans y750 K755.1)
          have y758 := (y751.trans K755 all0)
          have y759 := (y752.keep K755 nin0)
          have y760 := (y753.keep K755)
          have y761 := (V748.keep K755 nin0)
          have y762 := (y754.keep K755)
          refine own_on st755 ?_
          show own_Fin p e below _ (T755.setTop (mkF m 229 #[.val (.int p1), .val (.int p2), .val (.int p3), .val (.int c0), .val (.int c1), .val (.int c2), .val (.ref xc0), .val (.ref xc1), .val (.ref xc2), .val (.ref xd0), .val (.ref xd1), .val (.ref xd2), .val (.int (2 : Int32)), .val (.ref b687), .unset] [(.ref m755)]))
          refine own_on (fun tq => XS.astore X755.here hx rfl (hb hby at_229) rfl rfl (l' := #[.val (.int p1), .val (.int p2), .val (.int p3), .val (.int c0), .val (.int c1), .val (.int c2), .val (.ref xc0), .val (.ref xc1), .val (.ref xc2), .val (.ref xd0), .val (.ref xd1), .val (.ref xd2), .val (.int (2 : Int32)), .val (.ref b687), .val (.ref m755)]) rfl) ?_
          show own_Fin p e below _ (T755.setTop (mkF m 231 #[.val (.int p1), .val (.int p2), .val (.int p3), .val (.int c0), .val (.int c1), .val (.int c2), .val (.ref xc0), .val (.ref xc1), .val (.ref xc2), .val (.ref xd0), .val (.ref xd1), .val (.ref xd2), .val (.int (2 : Int32)), .val (.ref b687), .val (.ref m755)] []))
          refine own_on (fun tq => XS.goto X755.here hx rfl (pc0 := 231) (pc' := 261) rfl (hb hby at_231) (by decide) (by decide)) ?_
          show own_Fin p e below _ (T755.setTop (mkF m 261 #[.val (.int p1), .val (.int p2), .val (.int p3), .val (.int c0), .val (.int c1), .val (.int c2), .val (.ref xc0), .val (.ref xc1), .val (.ref xc2), .val (.ref xd0), .val (.ref xd1), .val (.ref xd2), .val (.int (2 : Int32)), .val (.ref b687), .val (.ref m755)] []))
          refine own_on (fun tq => XS.aload X755.here hx rfl (hb hby at_261) rfl rfl) ?_
          show own_Fin p e below _ (T755.setTop (mkF m 263 #[.val (.int p1), .val (.int p2), .val (.int p3), .val (.int c0), .val (.int c1), .val (.int c2), .val (.ref xc0), .val (.ref xc1), .val (.ref xc2), .val (.ref xd0), .val (.ref xd1), .val (.ref xd2), .val (.int (2 : Int32)), .val (.ref b687), .val (.ref m755)] [(.ref m755)]))
          obtain ⟨cq763, kq763, q763a, q763b, q763c⟩ := isOf hZ rfl Eq755
          obtain ⟨_, _, ⟨T763, L763, k763, n763⟩, -, X763, ⟨Lc763, hQ763, l763, y763, z763⟩, st763⟩ := X755.interfaceBack hx (xi := (⟨"java/util/Map", "size", "()I"⟩ : MethodName)) (y := (⟨"java/util/AbstractMap", "size", "()I"⟩ : MethodName)) hown (mvT hZ (hw _ (List.mem_of_getElem? (i := 55) rfl))) (mvT hZ (hw _ (List.mem_of_getElem? (i := 56) rfl))) (mvT hZ (hw _ (List.mem_of_getElem? (i := 57) rfl))) (mvT hZ (hw _ (List.mem_of_getElem? (i := 58) rfl))) (mvT hZ (hw _ (List.mem_of_getElem? (i := 59) rfl))) (mvT hZ (hw _ (List.mem_of_getElem? (i := 60) rfl))) (mvT hZ (hw _ (List.mem_of_getElem? (i := 61) rfl))) (mvT hZ (hw _ (List.mem_of_getElem? (i := 62) rfl))) (by decide) (backOf (W := 0) (rm9 l Z a0 hw [] m755 a755 k721 (4 : Int32) _ T755.heap n0 (by exact y757) Eq755 Fq755 Aq755) hZ (hw _ (List.mem_of_getElem? (i := 63) rfl)) (hw _ (List.mem_of_getElem? (i := 50) rfl)) (by decide) (by decide)) q763a q763b q763c (g := (mkF m 263 #[.val (.int p1), .val (.int p2), .val (.int p3), .val (.int c0), .val (.int c1), .val (.int c2), .val (.ref xc0), .val (.ref xc1), .val (.ref xc2), .val (.ref xd0), .val (.ref xd1), .val (.ref xd2), .val (.int (2 : Int32)), .val (.ref b687), .val (.ref m755)] [(.ref m755)])) rfl (by rw [hml]; rfl) (Steps.refl _) (argsL := []) (rest := []) (lenOf pd_8 rfl) rfl (by show 2 * 0 + _ ≤ _; exact Nat.le_of_eq rfl) (hb hby at_263) (fun _ _ => ⟨rfl, rfl, (by decide : 16 + 1 ≤ _), (by decide : 47 + 1 ≤ _)⟩)
          dsimp only [Pt.U, Pt.locs, Pt.cells, Pt.slots] at X763 l763 y763 z763 st763 hQ763
          subst l763 y763 z763
          obtain ⟨rfl, N763q, K763⟩ := hQ763
          have N763 := Fr.app N755 N763q
          have y764 := (y756.keep K763 all0)
          have y765 := (Nat.le_trans y757 K763.1)
          have y766 := (y758.trans K763 all0)
          have y767 := (y759.keep K763 nin0)
          have y768 := (y760.keep K763)
          have y769 := (y761.keep K763 nin0)
          have y770 := (y762.keep K763)
          have y771 := (Eq755.keep K763)
          have y772 := (Fq755.keep K763 nin0)
          have y773 := (Aq755.keep K763 nin0)
          refine own_via st763 ?_
          show own_Fin p e below _ (T763.setTop (mkF m 268 #[.val (.int p1), .val (.int p2), .val (.int p3), .val (.int c0), .val (.int c1), .val (.int c2), .val (.ref xc0), .val (.ref xc1), .val (.ref xc2), .val (.ref xd0), .val (.ref xd1), .val (.ref xd2), .val (.int (2 : Int32)), .val (.ref b687), .val (.ref m755)] [(.int (2 : Int32))]))
          refine own_on (fun tq => XS.iload X763.here hx rfl (hb hby at_268) rfl) ?_
          show own_Fin p e below _ (T763.setTop (mkF m 270 #[.val (.int p1), .val (.int p2), .val (.int p3), .val (.int c0), .val (.int c1), .val (.int c2), .val (.ref xc0), .val (.ref xc1), .val (.ref xc2), .val (.ref xd0), .val (.ref xd1), .val (.ref xd2), .val (.int (2 : Int32)), .val (.ref b687), .val (.ref m755)] [(.int (2 : Int32)), (.int (2 : Int32))]))
          refine own_on (fun tq => XS.icmpYes X763.here hx rfl (pc0 := 270) (pc' := 275) rfl (hb hby at_270) rfl (teq (by decide : (2 : Int32) = (2 : Int32))).1 (by decide) (by decide)) ?_
          show own_Fin p e below _ (T763.setTop (mkF m 275 #[.val (.int p1), .val (.int p2), .val (.int p3), .val (.int c0), .val (.int c1), .val (.int c2), .val (.ref xc0), .val (.ref xc1), .val (.ref xc2), .val (.ref xd0), .val (.ref xd1), .val (.ref xd2), .val (.int (2 : Int32)), .val (.ref b687), .val (.ref m755)] []))
          refine own_on (fun tq => XS.aload X763.here hx rfl (hb hby at_275) rfl rfl) ?_
          show own_Fin p e below _ (T763.setTop (mkF m 277 #[.val (.int p1), .val (.int p2), .val (.int p3), .val (.int c0), .val (.int c1), .val (.int c2), .val (.ref xc0), .val (.ref xc1), .val (.ref xc2), .val (.ref xd0), .val (.ref xd1), .val (.ref xd2), .val (.int (2 : Int32)), .val (.ref b687), .val (.ref m755)] [(.ref m755)]))
          refine own_on (fun tq => XS.aload X763.here hx rfl (hb hby at_277) rfl rfl) ?_
          show own_Fin p e below _ (T763.setTop (mkF m 279 #[.val (.int p1), .val (.int p2), .val (.int p3), .val (.int c0), .val (.int c1), .val (.int c2), .val (.ref xc0), .val (.ref xc1), .val (.ref xc2), .val (.ref xd0), .val (.ref xd1), .val (.ref xd2), .val (.int (2 : Int32)), .val (.ref b687), .val (.ref m755)] [(.ref xc0), (.ref m755)]))
          refine own_on (fun tq => XS.aload X763.here hx rfl (hb hby at_279) rfl rfl) ?_
          show own_Fin p e below _ (T763.setTop (mkF m 281 #[.val (.int p1), .val (.int p2), .val (.int p3), .val (.int c0), .val (.int c1), .val (.int c2), .val (.ref xc0), .val (.ref xc1), .val (.ref xc2), .val (.ref xd0), .val (.ref xd1), .val (.ref xd2), .val (.int (2 : Int32)), .val (.ref b687), .val (.ref m755)] [(.ref xd0), (.ref xc0), (.ref m755)]))
          refine own_on (fun tq => XS.iload X763.here hx rfl (hb hby at_281) rfl) ?_
          show own_Fin p e below _ (T763.setTop (mkF m 283 #[.val (.int p1), .val (.int p2), .val (.int p3), .val (.int c0), .val (.int c1), .val (.int c2), .val (.ref xc0), .val (.ref xc1), .val (.ref xc2), .val (.ref xd0), .val (.ref xd1), .val (.ref xd2), .val (.int (2 : Int32)), .val (.ref b687), .val (.ref m755)] [(.int (2 : Int32)), (.ref xd0), (.ref xc0), (.ref m755)]))
          refine own_on (fun tq => XS.iconst X763.here hx rfl (hb hby at_283)) ?_
          show own_Fin p e below _ (T763.setTop (mkF m 284 #[.val (.int p1), .val (.int p2), .val (.int p3), .val (.int c0), .val (.int c1), .val (.int c2), .val (.ref xc0), .val (.ref xc1), .val (.ref xc2), .val (.ref xd0), .val (.ref xd1), .val (.ref xd2), .val (.int (2 : Int32)), .val (.ref b687), .val (.ref m755)] [(.int (1 : Int32)), (.int (2 : Int32)), (.ref xd0), (.ref xc0), (.ref m755)]))
          refine own_on (fun tq => XS.icmpNo X763.here hx rfl (hb hby at_284) rfl (flt (by decide : ¬ ((2 : Int32) < (1 : Int32)))).1) ?_
          show own_Fin p e below _ (T763.setTop (mkF m 287 #[.val (.int p1), .val (.int p2), .val (.int p3), .val (.int c0), .val (.int c1), .val (.int c2), .val (.ref xc0), .val (.ref xc1), .val (.ref xc2), .val (.ref xd0), .val (.ref xd1), .val (.ref xd2), .val (.int (2 : Int32)), .val (.ref b687), .val (.ref m755)] [(.ref xd0), (.ref xc0), (.ref m755)]))
          refine own_on (fun tq => XS.iconst X763.here hx rfl (hb hby at_287)) ?_
          show own_Fin p e below _ (T763.setTop (mkF m 288 #[.val (.int p1), .val (.int p2), .val (.int p3), .val (.int c0), .val (.int c1), .val (.int c2), .val (.ref xc0), .val (.ref xc1), .val (.ref xc2), .val (.ref xd0), .val (.ref xd1), .val (.ref xd2), .val (.int (2 : Int32)), .val (.ref b687), .val (.ref m755)] [(.int (1 : Int32)), (.ref xd0), (.ref xc0), (.ref m755)]))
          refine own_on (fun tq => XS.goto X763.here hx rfl (pc0 := 288) (pc' := 292) rfl (hb hby at_288) (by decide) (by decide)) ?_
          show own_Fin p e below _ (T763.setTop (mkF m 292 #[.val (.int p1), .val (.int p2), .val (.int p3), .val (.int c0), .val (.int c1), .val (.int c2), .val (.ref xc0), .val (.ref xc1), .val (.ref xc2), .val (.ref xd0), .val (.ref xd1), .val (.ref xd2), .val (.int (2 : Int32)), .val (.ref b687), .val (.ref m755)] [(.int (1 : Int32)), (.ref xd0), (.ref xc0), (.ref m755)]))
          obtain ⟨_, _, ⟨T774, L774, k774, n774⟩, -, X774, ⟨Lc774, hQ774, l774, y774, z774⟩, st774⟩ := Jvm.LawKit.callS X763 hx (y := (⟨"com/example/settlewatt/settlewatt/model/TraceRecordInputsOfPinLaw", "has", "(Ljava/util/Map;Ljava/lang/String;Ljava/lang/String;Z)Z"⟩ : MethodName)) hown (mvT hZ (hw _ (List.mem_of_getElem? (i := 99) rfl))) (mvT hZ (hw _ (List.mem_of_getElem? (i := 100) rfl))) (mvT hZ (hw _ (List.mem_of_getElem? (i := 101) rfl))) (mvT hZ (hw _ (List.mem_of_getElem? (i := 102) rfl))) (by decide) (backOf (W := 0) (rmH21 l Z a0 hw [] m755 xc0 xd0 z a755 k721 xc0 xc1 xd0 xd1 c0 c1 t404 kt404 t408 kt408 t404 kt404 c0 t428 kt428 d0 T763.heap n0 (by exact y765) hz y764 SC y771 y772 y773 (y467.keep y766) (y468.keep y766 nin0) (y469.keep y766 nin0) (y470.keep y766 nin0) rg407 (y471.keep y766) (y472.keep y766 nin0) (y473.keep y766 nin0) (y474.keep y766 nin0) rg415 (y467.keep y766) (y468.keep y766 nin0) (y469.keep y766 nin0) (y470.keep y766 nin0) rg407 (y479.keep y766) (y480.keep y766 nin0) (y481.keep y766 nin0) (y482.keep y766 nin0) rg443 (by first | rfl | (unfold own_get2; rw [if_pos rfl]))) hZ (hw _ (List.mem_of_getElem? (i := 102) rfl)) (hw _ (List.mem_of_getElem? (i := 101) rfl)) (by decide) (by decide)) (g := (mkF m 292 #[.val (.int p1), .val (.int p2), .val (.int p3), .val (.int c0), .val (.int c1), .val (.int c2), .val (.ref xc0), .val (.ref xc1), .val (.ref xc2), .val (.ref xd0), .val (.ref xd1), .val (.ref xd2), .val (.int (2 : Int32)), .val (.ref b687), .val (.ref m755)] [(.int (1 : Int32)), (.ref xd0), (.ref xc0), (.ref m755)])) rfl (by rw [hml]; rfl) (argsL := [(.ref m755), (.ref xc0), (.ref xd0), (.int (1 : Int32))]) (rest := []) (lenOf pd_17 rfl) rfl (by show 2 * 0 + _ ≤ _; exact Nat.le_of_eq rfl) (hb hby at_292) (fun _ _ => ⟨rfl, rfl, (by decide : 17 + 4 ≤ _), (by decide : 48 + 7 ≤ _)⟩)
          dsimp only [Pt.U, Pt.locs, Pt.cells, Pt.slots] at X774 l774 y774 z774 st774 hQ774
          subst l774 y774 z774
          obtain ⟨rfl, N774q, K774⟩ := hQ774
          have N774 := Fr.app N763 N774q
          have y775 := (y764.keep K774 all0)
          have y776 := (Nat.le_trans y765 K774.1)
          have y777 := (y766.trans K774 all0)
          have y778 := (y767.keep K774 nin0)
          have y779 := (y768.keep K774)
          have y780 := (y769.keep K774 nin0)
          have y781 := (y770.keep K774)
          have y782 := (y771.keep K774)
          have y783 := (y772.keep K774 nin0)
          have y784 := (y773.keep K774 nin0)
          refine own_on st774 ?_
          show own_Fin p e below _ (T774.setTop (mkF m 295 #[.val (.int p1), .val (.int p2), .val (.int p3), .val (.int c0), .val (.int c1), .val (.int c2), .val (.ref xc0), .val (.ref xc1), .val (.ref xc2), .val (.ref xd0), .val (.ref xd1), .val (.ref xd2), .val (.int (2 : Int32)), .val (.ref b687), .val (.ref m755)] [(.int (1 : Int32))]))
          refine own_on (fun tq => XS.ifNo X774.here hx rfl (hb hby at_295) rfl ((if0 _ _).trans (feq (by decide : ¬ ((1 : Int32) = (0 : Int32)))).1)) ?_
          show own_Fin p e below _ (T774.setTop (mkF m 298 #[.val (.int p1), .val (.int p2), .val (.int p3), .val (.int c0), .val (.int c1), .val (.int c2), .val (.ref xc0), .val (.ref xc1), .val (.ref xc2), .val (.ref xd0), .val (.ref xd1), .val (.ref xd2), .val (.int (2 : Int32)), .val (.ref b687), .val (.ref m755)] []))
          refine own_on (fun tq => XS.aload X774.here hx rfl (hb hby at_298) rfl rfl) ?_
          show own_Fin p e below _ (T774.setTop (mkF m 300 #[.val (.int p1), .val (.int p2), .val (.int p3), .val (.int c0), .val (.int c1), .val (.int c2), .val (.ref xc0), .val (.ref xc1), .val (.ref xc2), .val (.ref xd0), .val (.ref xd1), .val (.ref xd2), .val (.int (2 : Int32)), .val (.ref b687), .val (.ref m755)] [(.ref m755)]))
          refine own_on (fun tq => XS.aload X774.here hx rfl (hb hby at_300) rfl rfl) ?_
          show own_Fin p e below _ (T774.setTop (mkF m 302 #[.val (.int p1), .val (.int p2), .val (.int p3), .val (.int c0), .val (.int c1), .val (.int c2), .val (.ref xc0), .val (.ref xc1), .val (.ref xc2), .val (.ref xd0), .val (.ref xd1), .val (.ref xd2), .val (.int (2 : Int32)), .val (.ref b687), .val (.ref m755)] [(.ref xc1), (.ref m755)]))
          refine own_on (fun tq => XS.aload X774.here hx rfl (hb hby at_302) rfl rfl) ?_
          show own_Fin p e below _ (T774.setTop (mkF m 304 #[.val (.int p1), .val (.int p2), .val (.int p3), .val (.int c0), .val (.int c1), .val (.int c2), .val (.ref xc0), .val (.ref xc1), .val (.ref xc2), .val (.ref xd0), .val (.ref xd1), .val (.ref xd2), .val (.int (2 : Int32)), .val (.ref b687), .val (.ref m755)] [(.ref xd1), (.ref xc1), (.ref m755)]))
          refine own_on (fun tq => XS.iload X774.here hx rfl (hb hby at_304) rfl) ?_
          show own_Fin p e below _ (T774.setTop (mkF m 306 #[.val (.int p1), .val (.int p2), .val (.int p3), .val (.int c0), .val (.int c1), .val (.int c2), .val (.ref xc0), .val (.ref xc1), .val (.ref xc2), .val (.ref xd0), .val (.ref xd1), .val (.ref xd2), .val (.int (2 : Int32)), .val (.ref b687), .val (.ref m755)] [(.int (2 : Int32)), (.ref xd1), (.ref xc1), (.ref m755)]))
          refine own_on (fun tq => XS.iconst X774.here hx rfl (hb hby at_306)) ?_
          show own_Fin p e below _ (T774.setTop (mkF m 307 #[.val (.int p1), .val (.int p2), .val (.int p3), .val (.int c0), .val (.int c1), .val (.int c2), .val (.ref xc0), .val (.ref xc1), .val (.ref xc2), .val (.ref xd0), .val (.ref xd1), .val (.ref xd2), .val (.int (2 : Int32)), .val (.ref b687), .val (.ref m755)] [(.int (2 : Int32)), (.int (2 : Int32)), (.ref xd1), (.ref xc1), (.ref m755)]))
          refine own_on (fun tq => XS.icmpNo X774.here hx rfl (hb hby at_307) rfl (flt (by decide : ¬ ((2 : Int32) < (2 : Int32)))).1) ?_
          show own_Fin p e below _ (T774.setTop (mkF m 310 #[.val (.int p1), .val (.int p2), .val (.int p3), .val (.int c0), .val (.int c1), .val (.int c2), .val (.ref xc0), .val (.ref xc1), .val (.ref xc2), .val (.ref xd0), .val (.ref xd1), .val (.ref xd2), .val (.int (2 : Int32)), .val (.ref b687), .val (.ref m755)] [(.ref xd1), (.ref xc1), (.ref m755)]))
          refine own_on (fun tq => XS.iconst X774.here hx rfl (hb hby at_310)) ?_
          show own_Fin p e below _ (T774.setTop (mkF m 311 #[.val (.int p1), .val (.int p2), .val (.int p3), .val (.int c0), .val (.int c1), .val (.int c2), .val (.ref xc0), .val (.ref xc1), .val (.ref xc2), .val (.ref xd0), .val (.ref xd1), .val (.ref xd2), .val (.int (2 : Int32)), .val (.ref b687), .val (.ref m755)] [(.int (1 : Int32)), (.ref xd1), (.ref xc1), (.ref m755)]))
          refine own_on (fun tq => XS.goto X774.here hx rfl (pc0 := 311) (pc' := 315) rfl (hb hby at_311) (by decide) (by decide)) ?_
          show own_Fin p e below _ (T774.setTop (mkF m 315 #[.val (.int p1), .val (.int p2), .val (.int p3), .val (.int c0), .val (.int c1), .val (.int c2), .val (.ref xc0), .val (.ref xc1), .val (.ref xc2), .val (.ref xd0), .val (.ref xd1), .val (.ref xd2), .val (.int (2 : Int32)), .val (.ref b687), .val (.ref m755)] [(.int (1 : Int32)), (.ref xd1), (.ref xc1), (.ref m755)]))
          obtain ⟨_, _, ⟨T785, L785, k785, n785⟩, -, X785, ⟨Lc785, hQ785, l785, y785, z785⟩, st785⟩ := Jvm.LawKit.callS X774 hx (y := (⟨"com/example/settlewatt/settlewatt/model/TraceRecordInputsOfPinLaw", "has", "(Ljava/util/Map;Ljava/lang/String;Ljava/lang/String;Z)Z"⟩ : MethodName)) hown (mvT hZ (hw _ (List.mem_of_getElem? (i := 99) rfl))) (mvT hZ (hw _ (List.mem_of_getElem? (i := 100) rfl))) (mvT hZ (hw _ (List.mem_of_getElem? (i := 101) rfl))) (mvT hZ (hw _ (List.mem_of_getElem? (i := 102) rfl))) (by decide) (backOf (W := 0) (rmH21 l Z a0 hw [] m755 xc1 xd1 z a755 k721 xc0 xc1 xd0 xd1 c0 c1 t404 kt404 t408 kt408 t408 kt408 c1 t444 kt444 d1 T774.heap n0 (by exact y776) hz y775 SC y782 y783 y784 (y467.keep y777) (y468.keep y777 nin0) (y469.keep y777 nin0) (y470.keep y777 nin0) rg407 (y471.keep y777) (y472.keep y777 nin0) (y473.keep y777 nin0) (y474.keep y777 nin0) rg415 (y471.keep y777) (y472.keep y777 nin0) (y473.keep y777 nin0) (y474.keep y777 nin0) rg415 (y483.keep y777) (y484.keep y777 nin0) (y485.keep y777 nin0) (y486.keep y777 nin0) rg463 (by first | rfl | (unfold own_get2; rw [if_neg (fun q => hc401 q.symm), if_pos rfl]))) hZ (hw _ (List.mem_of_getElem? (i := 102) rfl)) (hw _ (List.mem_of_getElem? (i := 101) rfl)) (by decide) (by decide)) (g := (mkF m 315 #[.val (.int p1), .val (.int p2), .val (.int p3), .val (.int c0), .val (.int c1), .val (.int c2), .val (.ref xc0), .val (.ref xc1), .val (.ref xc2), .val (.ref xd0), .val (.ref xd1), .val (.ref xd2), .val (.int (2 : Int32)), .val (.ref b687), .val (.ref m755)] [(.int (1 : Int32)), (.ref xd1), (.ref xc1), (.ref m755)])) rfl (by rw [hml]; rfl) (argsL := [(.ref m755), (.ref xc1), (.ref xd1), (.int (1 : Int32))]) (rest := []) (lenOf pd_17 rfl) rfl (by show 2 * 0 + _ ≤ _; exact Nat.le_of_eq rfl) (hb hby at_315) (fun _ _ => ⟨rfl, rfl, (by decide : 21 + 4 ≤ _), (by decide : 55 + 7 ≤ _)⟩)
          dsimp only [Pt.U, Pt.locs, Pt.cells, Pt.slots] at X785 l785 y785 z785 st785 hQ785
          subst l785 y785 z785
          obtain ⟨rfl, N785q, K785⟩ := hQ785
          have N785 := Fr.app N774 N785q
          have y786 := (y775.keep K785 all0)
          have y787 := (Nat.le_trans y776 K785.1)
          have y788 := (y777.trans K785 all0)
          have y789 := (y778.keep K785 nin0)
          have y790 := (y779.keep K785)
          have y791 := (y780.keep K785 nin0)
          have y792 := (y781.keep K785)
          have y793 := (y782.keep K785)
          have y794 := (y783.keep K785 nin0)
          have y795 := (y784.keep K785 nin0)
          refine own_on st785 ?_
          show own_Fin p e below _ (T785.setTop (mkF m 318 #[.val (.int p1), .val (.int p2), .val (.int p3), .val (.int c0), .val (.int c1), .val (.int c2), .val (.ref xc0), .val (.ref xc1), .val (.ref xc2), .val (.ref xd0), .val (.ref xd1), .val (.ref xd2), .val (.int (2 : Int32)), .val (.ref b687), .val (.ref m755)] [(.int (1 : Int32))]))
          refine own_on (fun tq => XS.ifNo X785.here hx rfl (hb hby at_318) rfl ((if0 _ _).trans (feq (by decide : ¬ ((1 : Int32) = (0 : Int32)))).1)) ?_
          show own_Fin p e below _ (T785.setTop (mkF m 321 #[.val (.int p1), .val (.int p2), .val (.int p3), .val (.int c0), .val (.int c1), .val (.int c2), .val (.ref xc0), .val (.ref xc1), .val (.ref xc2), .val (.ref xd0), .val (.ref xd1), .val (.ref xd2), .val (.int (2 : Int32)), .val (.ref b687), .val (.ref m755)] []))
          refine own_on (fun tq => XS.aload X785.here hx rfl (hb hby at_321) rfl rfl) ?_
          show own_Fin p e below _ (T785.setTop (mkF m 323 #[.val (.int p1), .val (.int p2), .val (.int p3), .val (.int c0), .val (.int c1), .val (.int c2), .val (.ref xc0), .val (.ref xc1), .val (.ref xc2), .val (.ref xd0), .val (.ref xd1), .val (.ref xd2), .val (.int (2 : Int32)), .val (.ref b687), .val (.ref m755)] [(.ref m755)]))
          refine own_on (fun tq => XS.aload X785.here hx rfl (hb hby at_323) rfl rfl) ?_
          show own_Fin p e below _ (T785.setTop (mkF m 325 #[.val (.int p1), .val (.int p2), .val (.int p3), .val (.int c0), .val (.int c1), .val (.int c2), .val (.ref xc0), .val (.ref xc1), .val (.ref xc2), .val (.ref xd0), .val (.ref xd1), .val (.ref xd2), .val (.int (2 : Int32)), .val (.ref b687), .val (.ref m755)] [(.ref xc2), (.ref m755)]))
          refine own_on (fun tq => XS.aload X785.here hx rfl (hb hby at_325) rfl rfl) ?_
          show own_Fin p e below _ (T785.setTop (mkF m 327 #[.val (.int p1), .val (.int p2), .val (.int p3), .val (.int c0), .val (.int c1), .val (.int c2), .val (.ref xc0), .val (.ref xc1), .val (.ref xc2), .val (.ref xd0), .val (.ref xd1), .val (.ref xd2), .val (.int (2 : Int32)), .val (.ref b687), .val (.ref m755)] [(.ref xd2), (.ref xc2), (.ref m755)]))
          refine own_on (fun tq => XS.iload X785.here hx rfl (hb hby at_327) rfl) ?_
          show own_Fin p e below _ (T785.setTop (mkF m 329 #[.val (.int p1), .val (.int p2), .val (.int p3), .val (.int c0), .val (.int c1), .val (.int c2), .val (.ref xc0), .val (.ref xc1), .val (.ref xc2), .val (.ref xd0), .val (.ref xd1), .val (.ref xd2), .val (.int (2 : Int32)), .val (.ref b687), .val (.ref m755)] [(.int (2 : Int32)), (.ref xd2), (.ref xc2), (.ref m755)]))
          refine own_on (fun tq => XS.iconst X785.here hx rfl (hb hby at_329)) ?_
          show own_Fin p e below _ (T785.setTop (mkF m 330 #[.val (.int p1), .val (.int p2), .val (.int p3), .val (.int c0), .val (.int c1), .val (.int c2), .val (.ref xc0), .val (.ref xc1), .val (.ref xc2), .val (.ref xd0), .val (.ref xd1), .val (.ref xd2), .val (.int (2 : Int32)), .val (.ref b687), .val (.ref m755)] [(.int (3 : Int32)), (.int (2 : Int32)), (.ref xd2), (.ref xc2), (.ref m755)]))
          refine own_on (fun tq => XS.icmpYes X785.here hx rfl (pc0 := 330) (pc' := 337) rfl (hb hby at_330) rfl (tlt (by decide : (2 : Int32) < (3 : Int32))).1 (by decide) (by decide)) ?_
          show own_Fin p e below _ (T785.setTop (mkF m 337 #[.val (.int p1), .val (.int p2), .val (.int p3), .val (.int c0), .val (.int c1), .val (.int c2), .val (.ref xc0), .val (.ref xc1), .val (.ref xc2), .val (.ref xd0), .val (.ref xd1), .val (.ref xd2), .val (.int (2 : Int32)), .val (.ref b687), .val (.ref m755)] [(.ref xd2), (.ref xc2), (.ref m755)]))
          refine own_on (fun tq => XS.iconst X785.here hx rfl (hb hby at_337)) ?_
          show own_Fin p e below _ (T785.setTop (mkF m 338 #[.val (.int p1), .val (.int p2), .val (.int p3), .val (.int c0), .val (.int c1), .val (.int c2), .val (.ref xc0), .val (.ref xc1), .val (.ref xc2), .val (.ref xd0), .val (.ref xd1), .val (.ref xd2), .val (.int (2 : Int32)), .val (.ref b687), .val (.ref m755)] [(.int (0 : Int32)), (.ref xd2), (.ref xc2), (.ref m755)]))
          obtain ⟨_, _, ⟨T796, L796, k796, n796⟩, -, X796, ⟨Lc796, hQ796, l796, y796, z796⟩, st796⟩ := Jvm.LawKit.callS X785 hx (y := (⟨"com/example/settlewatt/settlewatt/model/TraceRecordInputsOfPinLaw", "has", "(Ljava/util/Map;Ljava/lang/String;Ljava/lang/String;Z)Z"⟩ : MethodName)) hown (mvT hZ (hw _ (List.mem_of_getElem? (i := 99) rfl))) (mvT hZ (hw _ (List.mem_of_getElem? (i := 100) rfl))) (mvT hZ (hw _ (List.mem_of_getElem? (i := 101) rfl))) (mvT hZ (hw _ (List.mem_of_getElem? (i := 102) rfl))) (by decide) (backOf (W := 0) (rmH20 l Z a0 hw [] m755 xc2 xd2 z a755 k721 xc0 xc1 xd0 xd1 c0 c1 t404 kt404 t408 kt408 t416 kt416 c2 T785.heap n0 (by exact y787) hz y786 SC y793 y794 y795 (y467.keep y788) (y468.keep y788 nin0) (y469.keep y788 nin0) (y470.keep y788 nin0) rg407 (y471.keep y788) (y472.keep y788 nin0) (y473.keep y788 nin0) (y474.keep y788 nin0) rg415 (y475.keep y788) (y476.keep y788 nin0) (y477.keep y788 nin0) (y478.keep y788 nin0) rg427 (by first | rfl | (unfold own_get2; rw [if_neg (fun q => hc402 q.symm), if_neg (fun q => hc403 q.symm)]))) hZ (hw _ (List.mem_of_getElem? (i := 102) rfl)) (hw _ (List.mem_of_getElem? (i := 101) rfl)) (by decide) (by decide)) (g := (mkF m 338 #[.val (.int p1), .val (.int p2), .val (.int p3), .val (.int c0), .val (.int c1), .val (.int c2), .val (.ref xc0), .val (.ref xc1), .val (.ref xc2), .val (.ref xd0), .val (.ref xd1), .val (.ref xd2), .val (.int (2 : Int32)), .val (.ref b687), .val (.ref m755)] [(.int (0 : Int32)), (.ref xd2), (.ref xc2), (.ref m755)])) rfl (by rw [hml]; rfl) (argsL := [(.ref m755), (.ref xc2), (.ref xd2), (.int (0 : Int32))]) (rest := []) (lenOf pd_17 rfl) rfl (by show 2 * 0 + _ ≤ _; exact Nat.le_of_eq rfl) (hb hby at_338) (fun _ _ => ⟨rfl, rfl, (by decide : 25 + 4 ≤ _), (by decide : 62 + 7 ≤ _)⟩)
          dsimp only [Pt.U, Pt.locs, Pt.cells, Pt.slots] at X796 l796 y796 z796 st796 hQ796
          subst l796 y796 z796
          obtain ⟨rfl, N796q, K796⟩ := hQ796
          have N796 := Fr.app N785 N796q
          have y797 := (y786.keep K796 all0)
          have y798 := (Nat.le_trans y787 K796.1)
          have y799 := (y788.trans K796 all0)
          have y800 := (y789.keep K796 nin0)
          have y801 := (y790.keep K796)
          have y802 := (y791.keep K796 nin0)
          have y803 := (y792.keep K796)
          have y804 := (y793.keep K796)
          have y805 := (y794.keep K796 nin0)
          have y806 := (y795.keep K796 nin0)
          refine own_on st796 ?_
          show own_Fin p e below _ (T796.setTop (mkF m 341 #[.val (.int p1), .val (.int p2), .val (.int p3), .val (.int c0), .val (.int c1), .val (.int c2), .val (.ref xc0), .val (.ref xc1), .val (.ref xc2), .val (.ref xd0), .val (.ref xd1), .val (.ref xd2), .val (.int (2 : Int32)), .val (.ref b687), .val (.ref m755)] [(.int (1 : Int32))]))
          refine own_on (fun tq => XS.ifNo X796.here hx rfl (hb hby at_341) rfl ((if0 _ _).trans (feq (by decide : ¬ ((1 : Int32) = (0 : Int32)))).1)) ?_
          show own_Fin p e below _ (T796.setTop (mkF m 344 #[.val (.int p1), .val (.int p2), .val (.int p3), .val (.int c0), .val (.int c1), .val (.int c2), .val (.ref xc0), .val (.ref xc1), .val (.ref xc2), .val (.ref xd0), .val (.ref xd1), .val (.ref xd2), .val (.int (2 : Int32)), .val (.ref b687), .val (.ref m755)] []))
          refine own_on (fun tq => XS.iconst X796.here hx rfl (hb hby at_344)) ?_
          show own_Fin p e below _ (T796.setTop (mkF m 345 #[.val (.int p1), .val (.int p2), .val (.int p3), .val (.int c0), .val (.int c1), .val (.int c2), .val (.ref xc0), .val (.ref xc1), .val (.ref xc2), .val (.ref xd0), .val (.ref xd1), .val (.ref xd2), .val (.int (2 : Int32)), .val (.ref b687), .val (.ref m755)] [(.int (1 : Int32))]))
          refine own_on (fun tq => XS.goto X796.here hx rfl (pc0 := 345) (pc' := 349) rfl (hb hby at_345) (by decide) (by decide)) ?_
          show own_Fin p e below _ (T796.setTop (mkF m 349 #[.val (.int p1), .val (.int p2), .val (.int p3), .val (.int c0), .val (.int c1), .val (.int c2), .val (.ref xc0), .val (.ref xc1), .val (.ref xc2), .val (.ref xd0), .val (.ref xd1), .val (.ref xd2), .val (.int (2 : Int32)), .val (.ref b687), .val (.ref m755)] [(.int (1 : Int32))]))
          exact own_ret (t := .boolean) X796 hx hlk hret rfl (Or.inl ⟨rfl, (by simp), _, rfl⟩) (hb hby at_349) (⟨rfl, N796⟩) (by decide) (by decide)
        · rw [hn]
          show own_Fin p e below _ (T464.setTop (mkF m 112 #[.val (.int p1), .val (.int p2), .val (.int p3), .val (.int c0), .val (.int c1), .val (.int c2), .val (.ref xc0), .val (.ref xc1), .val (.ref xc2), .val (.ref xd0), .val (.ref xd1), .val (.ref xd2), .unset, .unset, .unset] [(.int (3 : Int32))]))
          refine own_on (fun tq => XS.istore X464.here hx rfl (hb hby at_112) rfl (l' := #[.val (.int p1), .val (.int p2), .val (.int p3), .val (.int c0), .val (.int c1), .val (.int c2), .val (.ref xc0), .val (.ref xc1), .val (.ref xc2), .val (.ref xd0), .val (.ref xd1), .val (.ref xd2), .val (.int (3 : Int32)), .unset, .unset]) rfl) ?_
          show own_Fin p e below _ (T464.setTop (mkF m 114 #[.val (.int p1), .val (.int p2), .val (.int p3), .val (.int c0), .val (.int c1), .val (.int c2), .val (.ref xc0), .val (.ref xc1), .val (.ref xc2), .val (.ref xd0), .val (.ref xd1), .val (.ref xd2), .val (.int (3 : Int32)), .unset, .unset] []))
          refine own_on (fun tq => XS.bipush X464.here hx rfl (hb hby at_114)) ?_
          show own_Fin p e below _ (T464.setTop (mkF m 116 #[.val (.int p1), .val (.int p2), .val (.int p3), .val (.int c0), .val (.int c1), .val (.int c2), .val (.ref xc0), .val (.ref xc1), .val (.ref xc2), .val (.ref xd0), .val (.ref xd1), .val (.ref xd2), .val (.int (3 : Int32)), .unset, .unset] [(.int (6 : Int32))]))
          obtain ⟨T807, h807, k807, X807, e807, E807, A807, D807, O807, st807⟩ := newRE X464 hx hZ hown (hw _ (List.mem_of_getElem? (i := 26) rfl)) (hw _ (List.mem_of_getElem? (i := 27) rfl)) rfl (g := (mkF m 116 #[.val (.int p1), .val (.int p2), .val (.int p3), .val (.int c0), .val (.int c1), .val (.int c2), .val (.ref xc0), .val (.ref xc1), .val (.ref xc2), .val (.ref xd0), .val (.ref xd1), .val (.ref xd2), .val (.int (3 : Int32)), .unset, .unset] [(.int (6 : Int32))])) rfl (hb hby at_116) rfl (by decide) (cap := 6) (by decide) (by decide) (by decide) (by decide) (ad := "[Ljava/lang/String;") (by decide)
          obtain ⟨b807, g807⟩ : ∃ z, z = T464.heap.size := ⟨_, rfl⟩
          rw [← g807] at A807 D807 st807
          have y808 := (y465.ext E807)
          have y809 := (Nat.le_trans y466 E807.1)
          have y810 := (y488.ext E807)
          have gn807 : n0 ≤ b807 := Nat.le_trans y466 (Nat.le_of_eq g807.symm)
          have gk807 : T464.heap.size ≤ b807 := Nat.le_trans y488.1 (Nat.le_of_eq g807.symm)
          have V807 : Arv Z h807 b807 k807 (.object "java/lang/String") (6 : Int32) [.null, .null, .null, .null, .null, .null] .null := (Arv.new A807 (by decide)).pad (pad_rep [] .null 6)
          refine own_on st807 ?_
          show own_Fin p e below _ (T807.setTop (mkF m 119 #[.val (.int p1), .val (.int p2), .val (.int p3), .val (.int c0), .val (.int c1), .val (.int c2), .val (.ref xc0), .val (.ref xc1), .val (.ref xc2), .val (.ref xd0), .val (.ref xd1), .val (.ref xd2), .val (.int (3 : Int32)), .unset, .unset] [(.ref b807)]))
          refine own_on (fun tq => XS.dup X807.here hx rfl (hb hby at_119) rfl rfl) ?_
          show own_Fin p e below _ (T807.setTop (mkF m 120 #[.val (.int p1), .val (.int p2), .val (.int p3), .val (.int c0), .val (.int c1), .val (.int c2), .val (.ref xc0), .val (.ref xc1), .val (.ref xc2), .val (.ref xd0), .val (.ref xd1), .val (.ref xd2), .val (.int (3 : Int32)), .unset, .unset] [(.ref b807), (.ref b807)]))
          refine own_on (fun tq => XS.iconst X807.here hx rfl (hb hby at_120)) ?_
          show own_Fin p e below _ (T807.setTop (mkF m 121 #[.val (.int p1), .val (.int p2), .val (.int p3), .val (.int c0), .val (.int c1), .val (.int c2), .val (.ref xc0), .val (.ref xc1), .val (.ref xc2), .val (.ref xd0), .val (.ref xd1), .val (.ref xd2), .val (.int (3 : Int32)), .unset, .unset] [(.int (0 : Int32)), (.ref b807), (.ref b807)]))
          refine own_on (fun tq => XS.aload X807.here hx rfl (hb hby at_121) rfl rfl) ?_
          show own_Fin p e below _ (T807.setTop (mkF m 123 #[.val (.int p1), .val (.int p2), .val (.int p3), .val (.int c0), .val (.int c1), .val (.int c2), .val (.ref xc0), .val (.ref xc1), .val (.ref xc2), .val (.ref xd0), .val (.ref xd1), .val (.ref xd2), .val (.int (3 : Int32)), .unset, .unset] [(.ref xc0), (.int (0 : Int32)), (.ref b807), (.ref b807)]))
          have cp811 := V807
          obtain ⟨cl811, Ar811, q811, S811, G811, H811, F811⟩ := cp811
          have hin811 : ¬ ((0 : Int32) < 0 ∨ cl811.slots.size ≤ ((0 : Int32)).toNatClampNeg) := inb_of S811 ⟨by decide, by decide⟩
          obtain ⟨T811, h811, X811, e811, W811, st811⟩ := stR X807 hx hZ e807 Ar811 (j := (0 : Int32)) hin811 rfl (Sto.ofV Ar811 q811 O807 (Ins.self (y467.keep y810))) (g := (mkF m 123 #[.val (.int p1), .val (.int p2), .val (.int p3), .val (.int c0), .val (.int c1), .val (.int c2), .val (.ref xc0), .val (.ref xc1), .val (.ref xc2), .val (.ref xd0), .val (.ref xd1), .val (.ref xd2), .val (.int (3 : Int32)), .unset, .unset] [(.ref xc0), (.int (0 : Int32)), (.ref b807), (.ref b807)])) rfl rfl (hb hby at_123)
          have V811 : Arv Z h811 b807 k807 (.object "java/lang/String") (6 : Int32) [(.ref xc0), .null, .null, .null, .null, .null] .null := Arv.set Ar811 q811 S811 G811 H811 F811 rfl W811 0 rfl (Nat.le_of_ble_eq_true rfl)
          have N811 := Fr.snoc X811 N464 gn807
          have y812 := (y808.wr W811 gn807)
          have y813 := (Nat.le_trans y809 (Keep.of_wr W811).1)
          have y814 := (y810.wr W811 (Or.inr gk807))
          have y815 := (D807.wr W811)
          refine own_on st811 ?_
          show own_Fin p e below _ (T811.setTop (mkF m 124 #[.val (.int p1), .val (.int p2), .val (.int p3), .val (.int c0), .val (.int c1), .val (.int c2), .val (.ref xc0), .val (.ref xc1), .val (.ref xc2), .val (.ref xd0), .val (.ref xd1), .val (.ref xd2), .val (.int (3 : Int32)), .unset, .unset] [(.ref b807)]))
          refine own_on (fun tq => XS.dup X811.here hx rfl (hb hby at_124) rfl rfl) ?_
          show own_Fin p e below _ (T811.setTop (mkF m 125 #[.val (.int p1), .val (.int p2), .val (.int p3), .val (.int c0), .val (.int c1), .val (.int c2), .val (.ref xc0), .val (.ref xc1), .val (.ref xc2), .val (.ref xd0), .val (.ref xd1), .val (.ref xd2), .val (.int (3 : Int32)), .unset, .unset] [(.ref b807), (.ref b807)]))
          refine own_on (fun tq => XS.iconst X811.here hx rfl (hb hby at_125)) ?_
          show own_Fin p e below _ (T811.setTop (mkF m 126 #[.val (.int p1), .val (.int p2), .val (.int p3), .val (.int c0), .val (.int c1), .val (.int c2), .val (.ref xc0), .val (.ref xc1), .val (.ref xc2), .val (.ref xd0), .val (.ref xd1), .val (.ref xd2), .val (.int (3 : Int32)), .unset, .unset] [(.int (1 : Int32)), (.ref b807), (.ref b807)]))
          refine own_on (fun tq => XS.aload X811.here hx rfl (hb hby at_126) rfl rfl) ?_
          show own_Fin p e below _ (T811.setTop (mkF m 128 #[.val (.int p1), .val (.int p2), .val (.int p3), .val (.int c0), .val (.int c1), .val (.int c2), .val (.ref xc0), .val (.ref xc1), .val (.ref xc2), .val (.ref xd0), .val (.ref xd1), .val (.ref xd2), .val (.int (3 : Int32)), .unset, .unset] [(.ref xd0), (.int (1 : Int32)), (.ref b807), (.ref b807)]))
          have cp816 := V811
          obtain ⟨cl816, Ar816, q816, S816, G816, H816, F816⟩ := cp816
          have hin816 : ¬ ((1 : Int32) < 0 ∨ cl816.slots.size ≤ ((1 : Int32)).toNatClampNeg) := inb_of S816 ⟨by decide, by decide⟩
          obtain ⟨T816, h816, X816, e816, W816, st816⟩ := stR X811 hx hZ e811 Ar816 (j := (1 : Int32)) hin816 rfl (Sto.ofV Ar816 q816 O807 (Ins.self (y479.keep y814))) (g := (mkF m 128 #[.val (.int p1), .val (.int p2), .val (.int p3), .val (.int c0), .val (.int c1), .val (.int c2), .val (.ref xc0), .val (.ref xc1), .val (.ref xc2), .val (.ref xd0), .val (.ref xd1), .val (.ref xd2), .val (.int (3 : Int32)), .unset, .unset] [(.ref xd0), (.int (1 : Int32)), (.ref b807), (.ref b807)])) rfl rfl (hb hby at_128)
          have V816 : Arv Z h816 b807 k807 (.object "java/lang/String") (6 : Int32) [(.ref xc0), (.ref xd0), .null, .null, .null, .null] .null := Arv.set Ar816 q816 S816 G816 H816 F816 rfl W816 1 rfl (Nat.le_of_ble_eq_true rfl)
          have N816 := Fr.snoc X816 N811 gn807
          have y817 := (y812.wr W816 gn807)
          have y818 := (Nat.le_trans y813 (Keep.of_wr W816).1)
          have y819 := (y814.wr W816 (Or.inr gk807))
          have y820 := (y815.wr W816)
          refine own_on st816 ?_
          show own_Fin p e below _ (T816.setTop (mkF m 129 #[.val (.int p1), .val (.int p2), .val (.int p3), .val (.int c0), .val (.int c1), .val (.int c2), .val (.ref xc0), .val (.ref xc1), .val (.ref xc2), .val (.ref xd0), .val (.ref xd1), .val (.ref xd2), .val (.int (3 : Int32)), .unset, .unset] [(.ref b807)]))
          refine own_on (fun tq => XS.dup X816.here hx rfl (hb hby at_129) rfl rfl) ?_
          show own_Fin p e below _ (T816.setTop (mkF m 130 #[.val (.int p1), .val (.int p2), .val (.int p3), .val (.int c0), .val (.int c1), .val (.int c2), .val (.ref xc0), .val (.ref xc1), .val (.ref xc2), .val (.ref xd0), .val (.ref xd1), .val (.ref xd2), .val (.int (3 : Int32)), .unset, .unset] [(.ref b807), (.ref b807)]))
          refine own_on (fun tq => XS.iconst X816.here hx rfl (hb hby at_130)) ?_
          show own_Fin p e below _ (T816.setTop (mkF m 131 #[.val (.int p1), .val (.int p2), .val (.int p3), .val (.int c0), .val (.int c1), .val (.int c2), .val (.ref xc0), .val (.ref xc1), .val (.ref xc2), .val (.ref xd0), .val (.ref xd1), .val (.ref xd2), .val (.int (3 : Int32)), .unset, .unset] [(.int (2 : Int32)), (.ref b807), (.ref b807)]))
          refine own_on (fun tq => XS.aload X816.here hx rfl (hb hby at_131) rfl rfl) ?_
          show own_Fin p e below _ (T816.setTop (mkF m 133 #[.val (.int p1), .val (.int p2), .val (.int p3), .val (.int c0), .val (.int c1), .val (.int c2), .val (.ref xc0), .val (.ref xc1), .val (.ref xc2), .val (.ref xd0), .val (.ref xd1), .val (.ref xd2), .val (.int (3 : Int32)), .unset, .unset] [(.ref xc1), (.int (2 : Int32)), (.ref b807), (.ref b807)]))
          have cp821 := V816
          obtain ⟨cl821, Ar821, q821, S821, G821, H821, F821⟩ := cp821
          have hin821 : ¬ ((2 : Int32) < 0 ∨ cl821.slots.size ≤ ((2 : Int32)).toNatClampNeg) := inb_of S821 ⟨by decide, by decide⟩
          obtain ⟨T821, h821, X821, e821, W821, st821⟩ := stR X816 hx hZ e816 Ar821 (j := (2 : Int32)) hin821 rfl (Sto.ofV Ar821 q821 O807 (Ins.self (y471.keep y819))) (g := (mkF m 133 #[.val (.int p1), .val (.int p2), .val (.int p3), .val (.int c0), .val (.int c1), .val (.int c2), .val (.ref xc0), .val (.ref xc1), .val (.ref xc2), .val (.ref xd0), .val (.ref xd1), .val (.ref xd2), .val (.int (3 : Int32)), .unset, .unset] [(.ref xc1), (.int (2 : Int32)), (.ref b807), (.ref b807)])) rfl rfl (hb hby at_133)
          have V821 : Arv Z h821 b807 k807 (.object "java/lang/String") (6 : Int32) [(.ref xc0), (.ref xd0), (.ref xc1), .null, .null, .null] .null := Arv.set Ar821 q821 S821 G821 H821 F821 rfl W821 2 rfl (Nat.le_of_ble_eq_true rfl)
          have N821 := Fr.snoc X821 N816 gn807
          have y822 := (y817.wr W821 gn807)
          have y823 := (Nat.le_trans y818 (Keep.of_wr W821).1)
          have y824 := (y819.wr W821 (Or.inr gk807))
          have y825 := (y820.wr W821)
          refine own_on st821 ?_
          show own_Fin p e below _ (T821.setTop (mkF m 134 #[.val (.int p1), .val (.int p2), .val (.int p3), .val (.int c0), .val (.int c1), .val (.int c2), .val (.ref xc0), .val (.ref xc1), .val (.ref xc2), .val (.ref xd0), .val (.ref xd1), .val (.ref xd2), .val (.int (3 : Int32)), .unset, .unset] [(.ref b807)]))
          refine own_on (fun tq => XS.dup X821.here hx rfl (hb hby at_134) rfl rfl) ?_
          show own_Fin p e below _ (T821.setTop (mkF m 135 #[.val (.int p1), .val (.int p2), .val (.int p3), .val (.int c0), .val (.int c1), .val (.int c2), .val (.ref xc0), .val (.ref xc1), .val (.ref xc2), .val (.ref xd0), .val (.ref xd1), .val (.ref xd2), .val (.int (3 : Int32)), .unset, .unset] [(.ref b807), (.ref b807)]))
          refine own_on (fun tq => XS.iconst X821.here hx rfl (hb hby at_135)) ?_
          show own_Fin p e below _ (T821.setTop (mkF m 136 #[.val (.int p1), .val (.int p2), .val (.int p3), .val (.int c0), .val (.int c1), .val (.int c2), .val (.ref xc0), .val (.ref xc1), .val (.ref xc2), .val (.ref xd0), .val (.ref xd1), .val (.ref xd2), .val (.int (3 : Int32)), .unset, .unset] [(.int (3 : Int32)), (.ref b807), (.ref b807)]))
          refine own_on (fun tq => XS.aload X821.here hx rfl (hb hby at_136) rfl rfl) ?_
          show own_Fin p e below _ (T821.setTop (mkF m 138 #[.val (.int p1), .val (.int p2), .val (.int p3), .val (.int c0), .val (.int c1), .val (.int c2), .val (.ref xc0), .val (.ref xc1), .val (.ref xc2), .val (.ref xd0), .val (.ref xd1), .val (.ref xd2), .val (.int (3 : Int32)), .unset, .unset] [(.ref xd1), (.int (3 : Int32)), (.ref b807), (.ref b807)]))
          have cp826 := V821
          obtain ⟨cl826, Ar826, q826, S826, G826, H826, F826⟩ := cp826
          have hin826 : ¬ ((3 : Int32) < 0 ∨ cl826.slots.size ≤ ((3 : Int32)).toNatClampNeg) := inb_of S826 ⟨by decide, by decide⟩
          obtain ⟨T826, h826, X826, e826, W826, st826⟩ := stR X821 hx hZ e821 Ar826 (j := (3 : Int32)) hin826 rfl (Sto.ofV Ar826 q826 O807 (Ins.self (y483.keep y824))) (g := (mkF m 138 #[.val (.int p1), .val (.int p2), .val (.int p3), .val (.int c0), .val (.int c1), .val (.int c2), .val (.ref xc0), .val (.ref xc1), .val (.ref xc2), .val (.ref xd0), .val (.ref xd1), .val (.ref xd2), .val (.int (3 : Int32)), .unset, .unset] [(.ref xd1), (.int (3 : Int32)), (.ref b807), (.ref b807)])) rfl rfl (hb hby at_138)
          have V826 : Arv Z h826 b807 k807 (.object "java/lang/String") (6 : Int32) [(.ref xc0), (.ref xd0), (.ref xc1), (.ref xd1), .null, .null] .null := Arv.set Ar826 q826 S826 G826 H826 F826 rfl W826 3 rfl (Nat.le_of_ble_eq_true rfl)
          have N826 := Fr.snoc X826 N821 gn807
          have y827 := (y822.wr W826 gn807)
          have y828 := (Nat.le_trans y823 (Keep.of_wr W826).1)
          have y829 := (y824.wr W826 (Or.inr gk807))
          have y830 := (y825.wr W826)
          refine own_on st826 ?_
          show own_Fin p e below _ (T826.setTop (mkF m 139 #[.val (.int p1), .val (.int p2), .val (.int p3), .val (.int c0), .val (.int c1), .val (.int c2), .val (.ref xc0), .val (.ref xc1), .val (.ref xc2), .val (.ref xd0), .val (.ref xd1), .val (.ref xd2), .val (.int (3 : Int32)), .unset, .unset] [(.ref b807)]))
          refine own_on (fun tq => XS.dup X826.here hx rfl (hb hby at_139) rfl rfl) ?_
          show own_Fin p e below _ (T826.setTop (mkF m 140 #[.val (.int p1), .val (.int p2), .val (.int p3), .val (.int c0), .val (.int c1), .val (.int c2), .val (.ref xc0), .val (.ref xc1), .val (.ref xc2), .val (.ref xd0), .val (.ref xd1), .val (.ref xd2), .val (.int (3 : Int32)), .unset, .unset] [(.ref b807), (.ref b807)]))
          refine own_on (fun tq => XS.iconst X826.here hx rfl (hb hby at_140)) ?_
          show own_Fin p e below _ (T826.setTop (mkF m 141 #[.val (.int p1), .val (.int p2), .val (.int p3), .val (.int c0), .val (.int c1), .val (.int c2), .val (.ref xc0), .val (.ref xc1), .val (.ref xc2), .val (.ref xd0), .val (.ref xd1), .val (.ref xd2), .val (.int (3 : Int32)), .unset, .unset] [(.int (4 : Int32)), (.ref b807), (.ref b807)]))
          refine own_on (fun tq => XS.aload X826.here hx rfl (hb hby at_141) rfl rfl) ?_
          show own_Fin p e below _ (T826.setTop (mkF m 143 #[.val (.int p1), .val (.int p2), .val (.int p3), .val (.int c0), .val (.int c1), .val (.int c2), .val (.ref xc0), .val (.ref xc1), .val (.ref xc2), .val (.ref xd0), .val (.ref xd1), .val (.ref xd2), .val (.int (3 : Int32)), .unset, .unset] [(.ref xc2), (.int (4 : Int32)), (.ref b807), (.ref b807)]))
          have cp831 := V826
          obtain ⟨cl831, Ar831, q831, S831, G831, H831, F831⟩ := cp831
          have hin831 : ¬ ((4 : Int32) < 0 ∨ cl831.slots.size ≤ ((4 : Int32)).toNatClampNeg) := inb_of S831 ⟨by decide, by decide⟩
          obtain ⟨T831, h831, X831, e831, W831, st831⟩ := stR X826 hx hZ e826 Ar831 (j := (4 : Int32)) hin831 rfl (Sto.ofV Ar831 q831 O807 (Ins.self (y475.keep y829))) (g := (mkF m 143 #[.val (.int p1), .val (.int p2), .val (.int p3), .val (.int c0), .val (.int c1), .val (.int c2), .val (.ref xc0), .val (.ref xc1), .val (.ref xc2), .val (.ref xd0), .val (.ref xd1), .val (.ref xd2), .val (.int (3 : Int32)), .unset, .unset] [(.ref xc2), (.int (4 : Int32)), (.ref b807), (.ref b807)])) rfl rfl (hb hby at_143)
          have V831 : Arv Z h831 b807 k807 (.object "java/lang/String") (6 : Int32) [(.ref xc0), (.ref xd0), (.ref xc1), (.ref xd1), (.ref xc2), .null] .null := Arv.set Ar831 q831 S831 G831 H831 F831 rfl W831 4 rfl (Nat.le_of_ble_eq_true rfl)
          have N831 := Fr.snoc X831 N826 gn807
          have y832 := (y827.wr W831 gn807)
          have y833 := (Nat.le_trans y828 (Keep.of_wr W831).1)
          have y834 := (y829.wr W831 (Or.inr gk807))
          have y835 := (y830.wr W831)
          refine own_on st831 ?_
          show own_Fin p e below _ (T831.setTop (mkF m 144 #[.val (.int p1), .val (.int p2), .val (.int p3), .val (.int c0), .val (.int c1), .val (.int c2), .val (.ref xc0), .val (.ref xc1), .val (.ref xc2), .val (.ref xd0), .val (.ref xd1), .val (.ref xd2), .val (.int (3 : Int32)), .unset, .unset] [(.ref b807)]))
          refine own_on (fun tq => XS.dup X831.here hx rfl (hb hby at_144) rfl rfl) ?_
          show own_Fin p e below _ (T831.setTop (mkF m 145 #[.val (.int p1), .val (.int p2), .val (.int p3), .val (.int c0), .val (.int c1), .val (.int c2), .val (.ref xc0), .val (.ref xc1), .val (.ref xc2), .val (.ref xd0), .val (.ref xd1), .val (.ref xd2), .val (.int (3 : Int32)), .unset, .unset] [(.ref b807), (.ref b807)]))
          refine own_on (fun tq => XS.iconst X831.here hx rfl (hb hby at_145)) ?_
          show own_Fin p e below _ (T831.setTop (mkF m 146 #[.val (.int p1), .val (.int p2), .val (.int p3), .val (.int c0), .val (.int c1), .val (.int c2), .val (.ref xc0), .val (.ref xc1), .val (.ref xc2), .val (.ref xd0), .val (.ref xd1), .val (.ref xd2), .val (.int (3 : Int32)), .unset, .unset] [(.int (5 : Int32)), (.ref b807), (.ref b807)]))
          refine own_on (fun tq => XS.aload X831.here hx rfl (hb hby at_146) rfl rfl) ?_
          show own_Fin p e below _ (T831.setTop (mkF m 148 #[.val (.int p1), .val (.int p2), .val (.int p3), .val (.int c0), .val (.int c1), .val (.int c2), .val (.ref xc0), .val (.ref xc1), .val (.ref xc2), .val (.ref xd0), .val (.ref xd1), .val (.ref xd2), .val (.int (3 : Int32)), .unset, .unset] [(.ref xd2), (.int (5 : Int32)), (.ref b807), (.ref b807)]))
          have cp836 := V831
          obtain ⟨cl836, Ar836, q836, S836, G836, H836, F836⟩ := cp836
          have hin836 : ¬ ((5 : Int32) < 0 ∨ cl836.slots.size ≤ ((5 : Int32)).toNatClampNeg) := inb_of S836 ⟨by decide, by decide⟩
          obtain ⟨T836, h836, X836, e836, W836, st836⟩ := stR X831 hx hZ e831 Ar836 (j := (5 : Int32)) hin836 rfl (Sto.ofV Ar836 q836 O807 (Ins.self (Eq464.keep y834))) (g := (mkF m 148 #[.val (.int p1), .val (.int p2), .val (.int p3), .val (.int c0), .val (.int c1), .val (.int c2), .val (.ref xc0), .val (.ref xc1), .val (.ref xc2), .val (.ref xd0), .val (.ref xd1), .val (.ref xd2), .val (.int (3 : Int32)), .unset, .unset] [(.ref xd2), (.int (5 : Int32)), (.ref b807), (.ref b807)])) rfl rfl (hb hby at_148)
          have V836 : Arv Z h836 b807 k807 (.object "java/lang/String") (6 : Int32) [(.ref xc0), (.ref xd0), (.ref xc1), (.ref xd1), (.ref xc2), (.ref xd2)] .null := Arv.set Ar836 q836 S836 G836 H836 F836 rfl W836 5 rfl (Nat.le_of_ble_eq_true rfl)
          have N836 := Fr.snoc X836 N831 gn807
          have y837 := (y832.wr W836 gn807)
          have y838 := (Nat.le_trans y833 (Keep.of_wr W836).1)
          have y839 := (y834.wr W836 (Or.inr gk807))
          have y840 := (y835.wr W836)
          refine own_on st836 ?_
          show own_Fin p e below _ (T836.setTop (mkF m 149 #[.val (.int p1), .val (.int p2), .val (.int p3), .val (.int c0), .val (.int c1), .val (.int c2), .val (.ref xc0), .val (.ref xc1), .val (.ref xc2), .val (.ref xd0), .val (.ref xd1), .val (.ref xd2), .val (.int (3 : Int32)), .unset, .unset] [(.ref b807)]))
          refine own_on (fun tq => XS.astore X836.here hx rfl (hb hby at_149) rfl rfl (l' := #[.val (.int p1), .val (.int p2), .val (.int p3), .val (.int c0), .val (.int c1), .val (.int c2), .val (.ref xc0), .val (.ref xc1), .val (.ref xc2), .val (.ref xd0), .val (.ref xd1), .val (.ref xd2), .val (.int (3 : Int32)), .val (.ref b807), .unset]) rfl) ?_
          show own_Fin p e below _ (T836.setTop (mkF m 151 #[.val (.int p1), .val (.int p2), .val (.int p3), .val (.int c0), .val (.int c1), .val (.int c2), .val (.ref xc0), .val (.ref xc1), .val (.ref xc2), .val (.ref xd0), .val (.ref xd1), .val (.ref xd2), .val (.int (3 : Int32)), .val (.ref b807), .unset] []))
          refine own_on (fun tq => XS.iload X836.here hx rfl (hb hby at_151) rfl) ?_
          show own_Fin p e below _ (T836.setTop (mkF m 153 #[.val (.int p1), .val (.int p2), .val (.int p3), .val (.int c0), .val (.int c1), .val (.int c2), .val (.ref xc0), .val (.ref xc1), .val (.ref xc2), .val (.ref xd0), .val (.ref xd1), .val (.ref xd2), .val (.int (3 : Int32)), .val (.ref b807), .unset] [(.int (3 : Int32))]))
          refine own_on (fun tq => XS.ifYes X836.here hx rfl (pc0 := 153) (pc' := 168) rfl (hb hby at_153) rfl ((if0 _ _).trans (feq (by decide : ¬ ((3 : Int32) = (0 : Int32)))).2) (by decide) (by decide)) ?_
          show own_Fin p e below _ (T836.setTop (mkF m 168 #[.val (.int p1), .val (.int p2), .val (.int p3), .val (.int c0), .val (.int c1), .val (.int c2), .val (.ref xc0), .val (.ref xc1), .val (.ref xc2), .val (.ref xd0), .val (.ref xd1), .val (.ref xd2), .val (.int (3 : Int32)), .val (.ref b807), .unset] []))
          refine own_on (fun tq => XS.iload X836.here hx rfl (hb hby at_168) rfl) ?_
          show own_Fin p e below _ (T836.setTop (mkF m 170 #[.val (.int p1), .val (.int p2), .val (.int p3), .val (.int c0), .val (.int c1), .val (.int c2), .val (.ref xc0), .val (.ref xc1), .val (.ref xc2), .val (.ref xd0), .val (.ref xd1), .val (.ref xd2), .val (.int (3 : Int32)), .val (.ref b807), .unset] [(.int (3 : Int32))]))
          refine own_on (fun tq => XS.iconst X836.here hx rfl (hb hby at_170)) ?_
          show own_Fin p e below _ (T836.setTop (mkF m 171 #[.val (.int p1), .val (.int p2), .val (.int p3), .val (.int c0), .val (.int c1), .val (.int c2), .val (.ref xc0), .val (.ref xc1), .val (.ref xc2), .val (.ref xd0), .val (.ref xd1), .val (.ref xd2), .val (.int (3 : Int32)), .val (.ref b807), .unset] [(.int (1 : Int32)), (.int (3 : Int32))]))
          refine own_on (fun tq => XS.icmpYes X836.here hx rfl (pc0 := 171) (pc' := 196) rfl (hb hby at_171) rfl (feq (by decide : ¬ ((3 : Int32) = (1 : Int32)))).2 (by decide) (by decide)) ?_
          show own_Fin p e below _ (T836.setTop (mkF m 196 #[.val (.int p1), .val (.int p2), .val (.int p3), .val (.int c0), .val (.int c1), .val (.int c2), .val (.ref xc0), .val (.ref xc1), .val (.ref xc2), .val (.ref xd0), .val (.ref xd1), .val (.ref xd2), .val (.int (3 : Int32)), .val (.ref b807), .unset] []))
          refine own_on (fun tq => XS.iload X836.here hx rfl (hb hby at_196) rfl) ?_
          show own_Fin p e below _ (T836.setTop (mkF m 198 #[.val (.int p1), .val (.int p2), .val (.int p3), .val (.int c0), .val (.int c1), .val (.int c2), .val (.ref xc0), .val (.ref xc1), .val (.ref xc2), .val (.ref xd0), .val (.ref xd1), .val (.ref xd2), .val (.int (3 : Int32)), .val (.ref b807), .unset] [(.int (3 : Int32))]))
          refine own_on (fun tq => XS.iconst X836.here hx rfl (hb hby at_198)) ?_
          show own_Fin p e below _ (T836.setTop (mkF m 199 #[.val (.int p1), .val (.int p2), .val (.int p3), .val (.int c0), .val (.int c1), .val (.int c2), .val (.ref xc0), .val (.ref xc1), .val (.ref xc2), .val (.ref xd0), .val (.ref xd1), .val (.ref xd2), .val (.int (3 : Int32)), .val (.ref b807), .unset] [(.int (2 : Int32)), (.int (3 : Int32))]))
          refine own_on (fun tq => XS.icmpYes X836.here hx rfl (pc0 := 199) (pc' := 234) rfl (hb hby at_199) rfl (feq (by decide : ¬ ((3 : Int32) = (2 : Int32)))).2 (by decide) (by decide)) ?_
          show own_Fin p e below _ (T836.setTop (mkF m 234 #[.val (.int p1), .val (.int p2), .val (.int p3), .val (.int c0), .val (.int c1), .val (.int c2), .val (.ref xc0), .val (.ref xc1), .val (.ref xc2), .val (.ref xd0), .val (.ref xd1), .val (.ref xd2), .val (.int (3 : Int32)), .val (.ref b807), .unset] []))
          refine own_on (fun tq => XS.aload X836.here hx rfl (hb hby at_234) rfl rfl) ?_
          show own_Fin p e below _ (T836.setTop (mkF m 236 #[.val (.int p1), .val (.int p2), .val (.int p3), .val (.int c0), .val (.int c1), .val (.int c2), .val (.ref xc0), .val (.ref xc1), .val (.ref xc2), .val (.ref xd0), .val (.ref xd1), .val (.ref xd2), .val (.int (3 : Int32)), .val (.ref b807), .unset] [(.ref b807)]))
          obtain ⟨_, _, ⟨T841, L841, k841, n841⟩, -, X841, ⟨Lc841, hQ841, l841, y841, z841⟩, st841⟩ := Jvm.LawKit.callS X836 hx (y := (⟨"com/example/settlewatt/settlewatt/model/TraceRecord", "inputsOf", "([Ljava/lang/String;)Ljava/util/Map;"⟩ : MethodName)) hown (mvT hZ (hw _ (List.mem_of_getElem? (i := 28) rfl))) (mvT hZ (hw _ (List.mem_of_getElem? (i := 29) rfl))) (mvT hZ (hw _ (List.mem_of_getElem? (i := 30) rfl))) (mvT hZ (hw _ (List.mem_of_getElem? (i := 31) rfl))) (by decide) (backOf (W := 0) (rmO3 l Z a0 hw [] b807 z k807 xc0 xc1 xc2 xd0 xd1 xd2 c0 c1 c2 t404 kt404 t408 kt408 t416 kt416 h836 n0 (by exact y838) hz y837 SC V836 y840 (y467.keep y839) (y468.keep y839 nin0) (y469.keep y839 nin0) (y470.keep y839 nin0) rg407 (y471.keep y839) (y472.keep y839 nin0) (y473.keep y839 nin0) (y474.keep y839 nin0) rg415 (y475.keep y839) (y476.keep y839 nin0) (y477.keep y839 nin0) (y478.keep y839 nin0) rg427 hc401 hc402 hc403) hZ (hw _ (List.mem_of_getElem? (i := 31) rfl)) (hw _ (List.mem_of_getElem? (i := 30) rfl)) (by decide) (by decide)) (g := (mkF m 236 #[.val (.int p1), .val (.int p2), .val (.int p3), .val (.int c0), .val (.int c1), .val (.int c2), .val (.ref xc0), .val (.ref xc1), .val (.ref xc2), .val (.ref xd0), .val (.ref xd1), .val (.ref xd2), .val (.int (3 : Int32)), .val (.ref b807), .unset] [(.ref b807)])) rfl (by rw [hml]; rfl) (argsL := [(.ref b807)]) (rest := []) (lenOf pd_16 rfl) rfl (by show 2 * 0 + _ ≤ _; exact Nat.le_of_eq rfl) (hb hby at_236) (fun _ _ => ⟨rfl, e836, (by decide : 13 + 2 ≤ _), (by decide : 36 + 9 ≤ _)⟩)
          dsimp only [Pt.U, Pt.locs, Pt.cells, Pt.slots] at X841 l841 y841 z841 st841 hQ841
          subst l841 y841 z841
          obtain ⟨m841, a841, rfl, N841q, K841, gm841, gb841, Eq841, Fq841, Aq841⟩ := hQ841
          have lm841 : m841 ≠ b807 := Nat.ne_of_gt (Nat.lt_of_lt_of_le y840.lt gm841)
          have la841 : a841 ≠ b807 := Nat.ne_of_gt (Nat.lt_of_lt_of_le y840.lt gb841)
          have N841 := Fr.app N836 N841q
          have y842 := (y837.keep K841 all0)
          have y843 := (Nat.le_trans y838 K841.1)
          have y844 := (y839.trans K841 all0)
          have y845 := (V836.keep K841 nin0)
          have y846 := (y840.keep K841)
          refine own_on st841 ?_
          show own_Fin p e below _ (T841.setTop (mkF m 239 #[.val (.int p1), .val (.int p2), .val (.int p3), .val (.int c0), .val (.int c1), .val (.int c2), .val (.ref xc0), .val (.ref xc1), .val (.ref xc2), .val (.ref xd0), .val (.ref xd1), .val (.ref xd2), .val (.int (3 : Int32)), .val (.ref b807), .unset] [(.ref m841)]))
          refine own_on (fun tq => XS.astore X841.here hx rfl (hb hby at_239) rfl rfl (l' := #[.val (.int p1), .val (.int p2), .val (.int p3), .val (.int c0), .val (.int c1), .val (.int c2), .val (.ref xc0), .val (.ref xc1), .val (.ref xc2), .val (.ref xd0), .val (.ref xd1), .val (.ref xd2), .val (.int (3 : Int32)), .val (.ref b807), .val (.ref m841)]) rfl) ?_
          show own_Fin p e below _ (T841.setTop (mkF m 241 #[.val (.int p1), .val (.int p2), .val (.int p3), .val (.int c0), .val (.int c1), .val (.int c2), .val (.ref xc0), .val (.ref xc1), .val (.ref xc2), .val (.ref xd0), .val (.ref xd1), .val (.ref xd2), .val (.int (3 : Int32)), .val (.ref b807), .val (.ref m841)] []))
          refine own_on (fun tq => XS.aload X841.here hx rfl (hb hby at_241) rfl rfl) ?_
          show own_Fin p e below _ (T841.setTop (mkF m 243 #[.val (.int p1), .val (.int p2), .val (.int p3), .val (.int c0), .val (.int c1), .val (.int c2), .val (.ref xc0), .val (.ref xc1), .val (.ref xc2), .val (.ref xd0), .val (.ref xd1), .val (.ref xd2), .val (.int (3 : Int32)), .val (.ref b807), .val (.ref m841)] [(.ref b807)]))
          refine own_on (fun tq => XS.iconst X841.here hx rfl (hb hby at_243)) ?_
          show own_Fin p e below _ (T841.setTop (mkF m 244 #[.val (.int p1), .val (.int p2), .val (.int p3), .val (.int c0), .val (.int c1), .val (.int c2), .val (.ref xc0), .val (.ref xc1), .val (.ref xc2), .val (.ref xd0), .val (.ref xd1), .val (.ref xd2), .val (.int (3 : Int32)), .val (.ref b807), .val (.ref m841)] [(.int (0 : Int32)), (.ref b807)]))
          refine own_on (fun tq => XS.aconstNull X841.here hx rfl (hb hby at_244)) ?_
          show own_Fin p e below _ (T841.setTop (mkF m 245 #[.val (.int p1), .val (.int p2), .val (.int p3), .val (.int c0), .val (.int c1), .val (.int c2), .val (.ref xc0), .val (.ref xc1), .val (.ref xc2), .val (.ref xd0), .val (.ref xd1), .val (.ref xd2), .val (.int (3 : Int32)), .val (.ref b807), .val (.ref m841)] [.null, (.int (0 : Int32)), (.ref b807)]))
          have cp847 := y845
          obtain ⟨cl847, Ar847, q847, S847, G847, H847, F847⟩ := cp847
          have hin847 : ¬ ((0 : Int32) < 0 ∨ cl847.slots.size ≤ ((0 : Int32)).toNatClampNeg) := inb_of S847 ⟨by decide, by decide⟩
          obtain ⟨T847, h847, X847, e847, W847, st847⟩ := stR X841 hx hZ rfl Ar847 (j := (0 : Int32)) hin847 rfl (Or.inl rfl) (g := (mkF m 245 #[.val (.int p1), .val (.int p2), .val (.int p3), .val (.int c0), .val (.int c1), .val (.int c2), .val (.ref xc0), .val (.ref xc1), .val (.ref xc2), .val (.ref xd0), .val (.ref xd1), .val (.ref xd2), .val (.int (3 : Int32)), .val (.ref b807), .val (.ref m841)] [.null, (.int (0 : Int32)), (.ref b807)])) rfl rfl (hb hby at_245)
          have V847 : Arv Z h847 b807 k807 (.object "java/lang/String") (6 : Int32) [.null, (.ref xd0), (.ref xc1), (.ref xd1), (.ref xc2), (.ref xd2)] .null := Arv.set Ar847 q847 S847 G847 H847 F847 rfl W847 0 rfl (Nat.le_of_ble_eq_true rfl)
          have N847 := Fr.snoc X847 N841 gn807
          have y848 := (y842.wr W847 gn807)
          have y849 := (Nat.le_trans y843 (Keep.of_wr W847).1)
          have y850 := (y844.wr W847 (Or.inr gk807))
          have y851 := (y846.wr W847)
          have y852 := (Eq841.wr W847)
          have y853 := (Fq841.other W847 (Or.inl lm841))
          have y854 := (Aq841.other W847 la841)
          refine own_on st847 ?_
          show own_Fin p e below _ (T847.setTop (mkF m 246 #[.val (.int p1), .val (.int p2), .val (.int p3), .val (.int c0), .val (.int c1), .val (.int c2), .val (.ref xc0), .val (.ref xc1), .val (.ref xc2), .val (.ref xd0), .val (.ref xd1), .val (.ref xd2), .val (.int (3 : Int32)), .val (.ref b807), .val (.ref m841)] []))
          refine own_on (fun tq => XS.aload X847.here hx rfl (hb hby at_246) rfl rfl) ?_
          show own_Fin p e below _ (T847.setTop (mkF m 248 #[.val (.int p1), .val (.int p2), .val (.int p3), .val (.int c0), .val (.int c1), .val (.int c2), .val (.ref xc0), .val (.ref xc1), .val (.ref xc2), .val (.ref xd0), .val (.ref xd1), .val (.ref xd2), .val (.int (3 : Int32)), .val (.ref b807), .val (.ref m841)] [(.ref b807)]))
          refine own_on (fun tq => XS.iconst X847.here hx rfl (hb hby at_248)) ?_
          show own_Fin p e below _ (T847.setTop (mkF m 249 #[.val (.int p1), .val (.int p2), .val (.int p3), .val (.int c0), .val (.int c1), .val (.int c2), .val (.ref xc0), .val (.ref xc1), .val (.ref xc2), .val (.ref xd0), .val (.ref xd1), .val (.ref xd2), .val (.int (3 : Int32)), .val (.ref b807), .val (.ref m841)] [(.int (1 : Int32)), (.ref b807)]))
          refine own_on (fun tq => XS.aconstNull X847.here hx rfl (hb hby at_249)) ?_
          show own_Fin p e below _ (T847.setTop (mkF m 250 #[.val (.int p1), .val (.int p2), .val (.int p3), .val (.int c0), .val (.int c1), .val (.int c2), .val (.ref xc0), .val (.ref xc1), .val (.ref xc2), .val (.ref xd0), .val (.ref xd1), .val (.ref xd2), .val (.int (3 : Int32)), .val (.ref b807), .val (.ref m841)] [.null, (.int (1 : Int32)), (.ref b807)]))
          have cp855 := V847
          obtain ⟨cl855, Ar855, q855, S855, G855, H855, F855⟩ := cp855
          have hin855 : ¬ ((1 : Int32) < 0 ∨ cl855.slots.size ≤ ((1 : Int32)).toNatClampNeg) := inb_of S855 ⟨by decide, by decide⟩
          obtain ⟨T855, h855, X855, e855, W855, st855⟩ := stR X847 hx hZ e847 Ar855 (j := (1 : Int32)) hin855 rfl (Or.inl rfl) (g := (mkF m 250 #[.val (.int p1), .val (.int p2), .val (.int p3), .val (.int c0), .val (.int c1), .val (.int c2), .val (.ref xc0), .val (.ref xc1), .val (.ref xc2), .val (.ref xd0), .val (.ref xd1), .val (.ref xd2), .val (.int (3 : Int32)), .val (.ref b807), .val (.ref m841)] [.null, (.int (1 : Int32)), (.ref b807)])) rfl rfl (hb hby at_250)
          have V855 : Arv Z h855 b807 k807 (.object "java/lang/String") (6 : Int32) [.null, .null, (.ref xc1), (.ref xd1), (.ref xc2), (.ref xd2)] .null := Arv.set Ar855 q855 S855 G855 H855 F855 rfl W855 1 rfl (Nat.le_of_ble_eq_true rfl)
          have N855 := Fr.snoc X855 N847 gn807
          have y856 := (y848.wr W855 gn807)
          have y857 := (Nat.le_trans y849 (Keep.of_wr W855).1)
          have y858 := (y850.wr W855 (Or.inr gk807))
          have y859 := (y851.wr W855)
          have y860 := (y852.wr W855)
          have y861 := (y853.other W855 (Or.inl lm841))
          have y862 := (y854.other W855 la841)
          refine own_on st855 ?_
          show own_Fin p e below _ (T855.setTop (mkF m 251 #[.val (.int p1), .val (.int p2), .val (.int p3), .val (.int c0), .val (.int c1), .val (.int c2), .val (.ref xc0), .val (.ref xc1), .val (.ref xc2), .val (.ref xd0), .val (.ref xd1), .val (.ref xd2), .val (.int (3 : Int32)), .val (.ref b807), .val (.ref m841)] []))
          refine own_on (fun tq => XS.aload X855.here hx rfl (hb hby at_251) rfl rfl) ?_
          show own_Fin p e below _ (T855.setTop (mkF m 253 #[.val (.int p1), .val (.int p2), .val (.int p3), .val (.int c0), .val (.int c1), .val (.int c2), .val (.ref xc0), .val (.ref xc1), .val (.ref xc2), .val (.ref xd0), .val (.ref xd1), .val (.ref xd2), .val (.int (3 : Int32)), .val (.ref b807), .val (.ref m841)] [(.ref b807)]))
          refine own_on (fun tq => XS.iconst X855.here hx rfl (hb hby at_253)) ?_
          show own_Fin p e below _ (T855.setTop (mkF m 254 #[.val (.int p1), .val (.int p2), .val (.int p3), .val (.int c0), .val (.int c1), .val (.int c2), .val (.ref xc0), .val (.ref xc1), .val (.ref xc2), .val (.ref xd0), .val (.ref xd1), .val (.ref xd2), .val (.int (3 : Int32)), .val (.ref b807), .val (.ref m841)] [(.int (2 : Int32)), (.ref b807)]))
          refine own_on (fun tq => XS.aconstNull X855.here hx rfl (hb hby at_254)) ?_
          show own_Fin p e below _ (T855.setTop (mkF m 255 #[.val (.int p1), .val (.int p2), .val (.int p3), .val (.int c0), .val (.int c1), .val (.int c2), .val (.ref xc0), .val (.ref xc1), .val (.ref xc2), .val (.ref xd0), .val (.ref xd1), .val (.ref xd2), .val (.int (3 : Int32)), .val (.ref b807), .val (.ref m841)] [.null, (.int (2 : Int32)), (.ref b807)]))
          have cp863 := V855
          obtain ⟨cl863, Ar863, q863, S863, G863, H863, F863⟩ := cp863
          have hin863 : ¬ ((2 : Int32) < 0 ∨ cl863.slots.size ≤ ((2 : Int32)).toNatClampNeg) := inb_of S863 ⟨by decide, by decide⟩
          obtain ⟨T863, h863, X863, e863, W863, st863⟩ := stR X855 hx hZ e855 Ar863 (j := (2 : Int32)) hin863 rfl (Or.inl rfl) (g := (mkF m 255 #[.val (.int p1), .val (.int p2), .val (.int p3), .val (.int c0), .val (.int c1), .val (.int c2), .val (.ref xc0), .val (.ref xc1), .val (.ref xc2), .val (.ref xd0), .val (.ref xd1), .val (.ref xd2), .val (.int (3 : Int32)), .val (.ref b807), .val (.ref m841)] [.null, (.int (2 : Int32)), (.ref b807)])) rfl rfl (hb hby at_255)
          have V863 : Arv Z h863 b807 k807 (.object "java/lang/String") (6 : Int32) [.null, .null, .null, (.ref xd1), (.ref xc2), (.ref xd2)] .null := Arv.set Ar863 q863 S863 G863 H863 F863 rfl W863 2 rfl (Nat.le_of_ble_eq_true rfl)
          have N863 := Fr.snoc X863 N855 gn807
          have y864 := (y856.wr W863 gn807)
          have y865 := (Nat.le_trans y857 (Keep.of_wr W863).1)
          have y866 := (y858.wr W863 (Or.inr gk807))
          have y867 := (y859.wr W863)
          have y868 := (y860.wr W863)
          have y869 := (y861.other W863 (Or.inl lm841))
          have y870 := (y862.other W863 la841)
          refine own_on st863 ?_
          show own_Fin p e below _ (T863.setTop (mkF m 256 #[.val (.int p1), .val (.int p2), .val (.int p3), .val (.int c0), .val (.int c1), .val (.int c2), .val (.ref xc0), .val (.ref xc1), .val (.ref xc2), .val (.ref xd0), .val (.ref xd1), .val (.ref xd2), .val (.int (3 : Int32)), .val (.ref b807), .val (.ref m841)] []))
          refine own_on (fun tq => XS.aload X863.here hx rfl (hb hby at_256) rfl rfl) ?_
          show own_Fin p e below _ (T863.setTop (mkF m 258 #[.val (.int p1), .val (.int p2), .val (.int p3), .val (.int c0), .val (.int c1), .val (.int c2), .val (.ref xc0), .val (.ref xc1), .val (.ref xc2), .val (.ref xd0), .val (.ref xd1), .val (.ref xd2), .val (.int (3 : Int32)), .val (.ref b807), .val (.ref m841)] [(.ref b807)]))
          refine own_on (fun tq => XS.iconst X863.here hx rfl (hb hby at_258)) ?_
          show own_Fin p e below _ (T863.setTop (mkF m 259 #[.val (.int p1), .val (.int p2), .val (.int p3), .val (.int c0), .val (.int c1), .val (.int c2), .val (.ref xc0), .val (.ref xc1), .val (.ref xc2), .val (.ref xd0), .val (.ref xd1), .val (.ref xd2), .val (.int (3 : Int32)), .val (.ref b807), .val (.ref m841)] [(.int (3 : Int32)), (.ref b807)]))
          refine own_on (fun tq => XS.aconstNull X863.here hx rfl (hb hby at_259)) ?_
          show own_Fin p e below _ (T863.setTop (mkF m 260 #[.val (.int p1), .val (.int p2), .val (.int p3), .val (.int c0), .val (.int c1), .val (.int c2), .val (.ref xc0), .val (.ref xc1), .val (.ref xc2), .val (.ref xd0), .val (.ref xd1), .val (.ref xd2), .val (.int (3 : Int32)), .val (.ref b807), .val (.ref m841)] [.null, (.int (3 : Int32)), (.ref b807)]))
          have cp871 := V863
          obtain ⟨cl871, Ar871, q871, S871, G871, H871, F871⟩ := cp871
          have hin871 : ¬ ((3 : Int32) < 0 ∨ cl871.slots.size ≤ ((3 : Int32)).toNatClampNeg) := inb_of S871 ⟨by decide, by decide⟩
          obtain ⟨T871, h871, X871, e871, W871, st871⟩ := stR X863 hx hZ e863 Ar871 (j := (3 : Int32)) hin871 rfl (Or.inl rfl) (g := (mkF m 260 #[.val (.int p1), .val (.int p2), .val (.int p3), .val (.int c0), .val (.int c1), .val (.int c2), .val (.ref xc0), .val (.ref xc1), .val (.ref xc2), .val (.ref xd0), .val (.ref xd1), .val (.ref xd2), .val (.int (3 : Int32)), .val (.ref b807), .val (.ref m841)] [.null, (.int (3 : Int32)), (.ref b807)])) rfl rfl (hb hby at_260)
          have V871 : Arv Z h871 b807 k807 (.object "java/lang/String") (6 : Int32) [.null, .null, .null, .null, (.ref xc2), (.ref xd2)] .null := Arv.set Ar871 q871 S871 G871 H871 F871 rfl W871 3 rfl (Nat.le_of_ble_eq_true rfl)
          have N871 := Fr.snoc X871 N863 gn807
          have y872 := (y864.wr W871 gn807)
          have y873 := (Nat.le_trans y865 (Keep.of_wr W871).1)
          have y874 := (y866.wr W871 (Or.inr gk807))
          have y875 := (y867.wr W871)
          have y876 := (y868.wr W871)
          have y877 := (y869.other W871 (Or.inl lm841))
          have y878 := (y870.other W871 la841)
          refine own_on st871 ?_
          show own_Fin p e below _ (T871.setTop (mkF m 261 #[.val (.int p1), .val (.int p2), .val (.int p3), .val (.int c0), .val (.int c1), .val (.int c2), .val (.ref xc0), .val (.ref xc1), .val (.ref xc2), .val (.ref xd0), .val (.ref xd1), .val (.ref xd2), .val (.int (3 : Int32)), .val (.ref b807), .val (.ref m841)] []))
          refine own_on (fun tq => XS.aload X871.here hx rfl (hb hby at_261) rfl rfl) ?_
          show own_Fin p e below _ (T871.setTop (mkF m 263 #[.val (.int p1), .val (.int p2), .val (.int p3), .val (.int c0), .val (.int c1), .val (.int c2), .val (.ref xc0), .val (.ref xc1), .val (.ref xc2), .val (.ref xd0), .val (.ref xd1), .val (.ref xd2), .val (.int (3 : Int32)), .val (.ref b807), .val (.ref m841)] [(.ref m841)]))
          obtain ⟨cq879, kq879, q879a, q879b, q879c⟩ := isOf hZ e871 y876
          obtain ⟨_, _, ⟨T879, L879, k879, n879⟩, -, X879, ⟨Lc879, hQ879, l879, y879, z879⟩, st879⟩ := X871.interfaceBack hx (xi := (⟨"java/util/Map", "size", "()I"⟩ : MethodName)) (y := (⟨"java/util/AbstractMap", "size", "()I"⟩ : MethodName)) hown (mvT hZ (hw _ (List.mem_of_getElem? (i := 55) rfl))) (mvT hZ (hw _ (List.mem_of_getElem? (i := 56) rfl))) (mvT hZ (hw _ (List.mem_of_getElem? (i := 57) rfl))) (mvT hZ (hw _ (List.mem_of_getElem? (i := 58) rfl))) (mvT hZ (hw _ (List.mem_of_getElem? (i := 59) rfl))) (mvT hZ (hw _ (List.mem_of_getElem? (i := 60) rfl))) (mvT hZ (hw _ (List.mem_of_getElem? (i := 61) rfl))) (mvT hZ (hw _ (List.mem_of_getElem? (i := 62) rfl))) (by decide) (backOf (W := 0) (rm9 l Z a0 hw [] m841 a841 k807 (6 : Int32) _ h871 n0 (by exact y873) y876 y877 y878) hZ (hw _ (List.mem_of_getElem? (i := 63) rfl)) (hw _ (List.mem_of_getElem? (i := 50) rfl)) (by decide) (by decide)) q879a q879b q879c (g := (mkF m 263 #[.val (.int p1), .val (.int p2), .val (.int p3), .val (.int c0), .val (.int c1), .val (.int c2), .val (.ref xc0), .val (.ref xc1), .val (.ref xc2), .val (.ref xd0), .val (.ref xd1), .val (.ref xd2), .val (.int (3 : Int32)), .val (.ref b807), .val (.ref m841)] [(.ref m841)])) rfl (by rw [hml]; rfl) (Steps.refl _) (argsL := []) (rest := []) (lenOf pd_8 rfl) rfl (by show 2 * 0 + _ ≤ _; exact Nat.le_of_eq rfl) (hb hby at_263) (fun _ _ => ⟨rfl, e871, (by decide : 15 + 1 ≤ _), (by decide : 45 + 1 ≤ _)⟩)
          dsimp only [Pt.U, Pt.locs, Pt.cells, Pt.slots] at X879 l879 y879 z879 st879 hQ879
          subst l879 y879 z879
          obtain ⟨rfl, N879q, K879⟩ := hQ879
          have N879 := Fr.app N871 N879q
          have y880 := (y872.keep K879 all0)
          have y881 := (Nat.le_trans y873 K879.1)
          have y882 := (y874.trans K879 all0)
          have y883 := (V871.keep K879 nin0)
          have y884 := (y875.keep K879)
          have y885 := (y876.keep K879)
          have y886 := (y877.keep K879 nin0)
          have y887 := (y878.keep K879 nin0)
          refine own_via st879 ?_
          show own_Fin p e below _ (T879.setTop (mkF m 268 #[.val (.int p1), .val (.int p2), .val (.int p3), .val (.int c0), .val (.int c1), .val (.int c2), .val (.ref xc0), .val (.ref xc1), .val (.ref xc2), .val (.ref xd0), .val (.ref xd1), .val (.ref xd2), .val (.int (3 : Int32)), .val (.ref b807), .val (.ref m841)] [(.int (3 : Int32))]))
          refine own_on (fun tq => XS.iload X879.here hx rfl (hb hby at_268) rfl) ?_
          show own_Fin p e below _ (T879.setTop (mkF m 270 #[.val (.int p1), .val (.int p2), .val (.int p3), .val (.int c0), .val (.int c1), .val (.int c2), .val (.ref xc0), .val (.ref xc1), .val (.ref xc2), .val (.ref xd0), .val (.ref xd1), .val (.ref xd2), .val (.int (3 : Int32)), .val (.ref b807), .val (.ref m841)] [(.int (3 : Int32)), (.int (3 : Int32))]))
          refine own_on (fun tq => XS.icmpYes X879.here hx rfl (pc0 := 270) (pc' := 275) rfl (hb hby at_270) rfl (teq (by decide : (3 : Int32) = (3 : Int32))).1 (by decide) (by decide)) ?_
          show own_Fin p e below _ (T879.setTop (mkF m 275 #[.val (.int p1), .val (.int p2), .val (.int p3), .val (.int c0), .val (.int c1), .val (.int c2), .val (.ref xc0), .val (.ref xc1), .val (.ref xc2), .val (.ref xd0), .val (.ref xd1), .val (.ref xd2), .val (.int (3 : Int32)), .val (.ref b807), .val (.ref m841)] []))
          refine own_on (fun tq => XS.aload X879.here hx rfl (hb hby at_275) rfl rfl) ?_
          show own_Fin p e below _ (T879.setTop (mkF m 277 #[.val (.int p1), .val (.int p2), .val (.int p3), .val (.int c0), .val (.int c1), .val (.int c2), .val (.ref xc0), .val (.ref xc1), .val (.ref xc2), .val (.ref xd0), .val (.ref xd1), .val (.ref xd2), .val (.int (3 : Int32)), .val (.ref b807), .val (.ref m841)] [(.ref m841)]))
          refine own_on (fun tq => XS.aload X879.here hx rfl (hb hby at_277) rfl rfl) ?_
          show own_Fin p e below _ (T879.setTop (mkF m 279 #[.val (.int p1), .val (.int p2), .val (.int p3), .val (.int c0), .val (.int c1), .val (.int c2), .val (.ref xc0), .val (.ref xc1), .val (.ref xc2), .val (.ref xd0), .val (.ref xd1), .val (.ref xd2), .val (.int (3 : Int32)), .val (.ref b807), .val (.ref m841)] [(.ref xc0), (.ref m841)]))
          refine own_on (fun tq => XS.aload X879.here hx rfl (hb hby at_279) rfl rfl) ?_
          show own_Fin p e below _ (T879.setTop (mkF m 281 #[.val (.int p1), .val (.int p2), .val (.int p3), .val (.int c0), .val (.int c1), .val (.int c2), .val (.ref xc0), .val (.ref xc1), .val (.ref xc2), .val (.ref xd0), .val (.ref xd1), .val (.ref xd2), .val (.int (3 : Int32)), .val (.ref b807), .val (.ref m841)] [(.ref xd0), (.ref xc0), (.ref m841)]))
          refine own_on (fun tq => XS.iload X879.here hx rfl (hb hby at_281) rfl) ?_
          show own_Fin p e below _ (T879.setTop (mkF m 283 #[.val (.int p1), .val (.int p2), .val (.int p3), .val (.int c0), .val (.int c1), .val (.int c2), .val (.ref xc0), .val (.ref xc1), .val (.ref xc2), .val (.ref xd0), .val (.ref xd1), .val (.ref xd2), .val (.int (3 : Int32)), .val (.ref b807), .val (.ref m841)] [(.int (3 : Int32)), (.ref xd0), (.ref xc0), (.ref m841)]))
          refine own_on (fun tq => XS.iconst X879.here hx rfl (hb hby at_283)) ?_
          show own_Fin p e below _ (T879.setTop (mkF m 284 #[.val (.int p1), .val (.int p2), .val (.int p3), .val (.int c0), .val (.int c1), .val (.int c2), .val (.ref xc0), .val (.ref xc1), .val (.ref xc2), .val (.ref xd0), .val (.ref xd1), .val (.ref xd2), .val (.int (3 : Int32)), .val (.ref b807), .val (.ref m841)] [(.int (1 : Int32)), (.int (3 : Int32)), (.ref xd0), (.ref xc0), (.ref m841)]))
          refine own_on (fun tq => XS.icmpNo X879.here hx rfl (hb hby at_284) rfl (flt (by decide : ¬ ((3 : Int32) < (1 : Int32)))).1) ?_
          show own_Fin p e below _ (T879.setTop (mkF m 287 #[.val (.int p1), .val (.int p2), .val (.int p3), .val (.int c0), .val (.int c1), .val (.int c2), .val (.ref xc0), .val (.ref xc1), .val (.ref xc2), .val (.ref xd0), .val (.ref xd1), .val (.ref xd2), .val (.int (3 : Int32)), .val (.ref b807), .val (.ref m841)] [(.ref xd0), (.ref xc0), (.ref m841)]))
          refine own_on (fun tq => XS.iconst X879.here hx rfl (hb hby at_287)) ?_
          show own_Fin p e below _ (T879.setTop (mkF m 288 #[.val (.int p1), .val (.int p2), .val (.int p3), .val (.int c0), .val (.int c1), .val (.int c2), .val (.ref xc0), .val (.ref xc1), .val (.ref xc2), .val (.ref xd0), .val (.ref xd1), .val (.ref xd2), .val (.int (3 : Int32)), .val (.ref b807), .val (.ref m841)] [(.int (1 : Int32)), (.ref xd0), (.ref xc0), (.ref m841)]))
          refine own_on (fun tq => XS.goto X879.here hx rfl (pc0 := 288) (pc' := 292) rfl (hb hby at_288) (by decide) (by decide)) ?_
          show own_Fin p e below _ (T879.setTop (mkF m 292 #[.val (.int p1), .val (.int p2), .val (.int p3), .val (.int c0), .val (.int c1), .val (.int c2), .val (.ref xc0), .val (.ref xc1), .val (.ref xc2), .val (.ref xd0), .val (.ref xd1), .val (.ref xd2), .val (.int (3 : Int32)), .val (.ref b807), .val (.ref m841)] [(.int (1 : Int32)), (.ref xd0), (.ref xc0), (.ref m841)]))
          obtain ⟨_, _, ⟨T888, L888, k888, n888⟩, -, X888, ⟨Lc888, hQ888, l888, y888, z888⟩, st888⟩ := Jvm.LawKit.callS X879 hx (y := (⟨"com/example/settlewatt/settlewatt/model/TraceRecordInputsOfPinLaw", "has", "(Ljava/util/Map;Ljava/lang/String;Ljava/lang/String;Z)Z"⟩ : MethodName)) hown (mvT hZ (hw _ (List.mem_of_getElem? (i := 99) rfl))) (mvT hZ (hw _ (List.mem_of_getElem? (i := 100) rfl))) (mvT hZ (hw _ (List.mem_of_getElem? (i := 101) rfl))) (mvT hZ (hw _ (List.mem_of_getElem? (i := 102) rfl))) (by decide) (backOf (W := 0) (rmH31 l Z a0 hw [] m841 xc0 xd0 z a841 k807 xc0 xc1 xc2 xd0 xd1 xd2 c0 c1 c2 t404 kt404 t408 kt408 t416 kt416 t404 kt404 c0 t428 kt428 d0 T879.heap n0 (by exact y881) hz y880 SC y885 y886 y887 (y467.keep y882) (y468.keep y882 nin0) (y469.keep y882 nin0) (y470.keep y882 nin0) rg407 (y471.keep y882) (y472.keep y882 nin0) (y473.keep y882 nin0) (y474.keep y882 nin0) rg415 (y475.keep y882) (y476.keep y882 nin0) (y477.keep y882 nin0) (y478.keep y882 nin0) rg427 (y467.keep y882) (y468.keep y882 nin0) (y469.keep y882 nin0) (y470.keep y882 nin0) rg407 (y479.keep y882) (y480.keep y882 nin0) (y481.keep y882 nin0) (y482.keep y882 nin0) rg443 (by first | rfl | (unfold own_get3; rw [if_pos rfl]))) hZ (hw _ (List.mem_of_getElem? (i := 102) rfl)) (hw _ (List.mem_of_getElem? (i := 101) rfl)) (by decide) (by decide)) (g := (mkF m 292 #[.val (.int p1), .val (.int p2), .val (.int p3), .val (.int c0), .val (.int c1), .val (.int c2), .val (.ref xc0), .val (.ref xc1), .val (.ref xc2), .val (.ref xd0), .val (.ref xd1), .val (.ref xd2), .val (.int (3 : Int32)), .val (.ref b807), .val (.ref m841)] [(.int (1 : Int32)), (.ref xd0), (.ref xc0), (.ref m841)])) rfl (by rw [hml]; rfl) (argsL := [(.ref m841), (.ref xc0), (.ref xd0), (.int (1 : Int32))]) (rest := []) (lenOf pd_17 rfl) rfl (by show 2 * 0 + _ ≤ _; exact Nat.le_of_eq rfl) (hb hby at_292) (fun _ _ => ⟨rfl, rfl, (by decide : 16 + 5 ≤ _), (by decide : 46 + 9 ≤ _)⟩)
          dsimp only [Pt.U, Pt.locs, Pt.cells, Pt.slots] at X888 l888 y888 z888 st888 hQ888
          subst l888 y888 z888
          obtain ⟨rfl, N888q, K888⟩ := hQ888
          have N888 := Fr.app N879 N888q
          have y889 := (y880.keep K888 all0)
          have y890 := (Nat.le_trans y881 K888.1)
          have y891 := (y882.trans K888 all0)
          have y892 := (y883.keep K888 nin0)
          have y893 := (y884.keep K888)
          have y894 := (y885.keep K888)
          have y895 := (y886.keep K888 nin0)
          have y896 := (y887.keep K888 nin0)
          refine own_on st888 ?_
          show own_Fin p e below _ (T888.setTop (mkF m 295 #[.val (.int p1), .val (.int p2), .val (.int p3), .val (.int c0), .val (.int c1), .val (.int c2), .val (.ref xc0), .val (.ref xc1), .val (.ref xc2), .val (.ref xd0), .val (.ref xd1), .val (.ref xd2), .val (.int (3 : Int32)), .val (.ref b807), .val (.ref m841)] [(.int (1 : Int32))]))
          refine own_on (fun tq => XS.ifNo X888.here hx rfl (hb hby at_295) rfl ((if0 _ _).trans (feq (by decide : ¬ ((1 : Int32) = (0 : Int32)))).1)) ?_
          show own_Fin p e below _ (T888.setTop (mkF m 298 #[.val (.int p1), .val (.int p2), .val (.int p3), .val (.int c0), .val (.int c1), .val (.int c2), .val (.ref xc0), .val (.ref xc1), .val (.ref xc2), .val (.ref xd0), .val (.ref xd1), .val (.ref xd2), .val (.int (3 : Int32)), .val (.ref b807), .val (.ref m841)] []))
          refine own_on (fun tq => XS.aload X888.here hx rfl (hb hby at_298) rfl rfl) ?_
          show own_Fin p e below _ (T888.setTop (mkF m 300 #[.val (.int p1), .val (.int p2), .val (.int p3), .val (.int c0), .val (.int c1), .val (.int c2), .val (.ref xc0), .val (.ref xc1), .val (.ref xc2), .val (.ref xd0), .val (.ref xd1), .val (.ref xd2), .val (.int (3 : Int32)), .val (.ref b807), .val (.ref m841)] [(.ref m841)]))
          refine own_on (fun tq => XS.aload X888.here hx rfl (hb hby at_300) rfl rfl) ?_
          show own_Fin p e below _ (T888.setTop (mkF m 302 #[.val (.int p1), .val (.int p2), .val (.int p3), .val (.int c0), .val (.int c1), .val (.int c2), .val (.ref xc0), .val (.ref xc1), .val (.ref xc2), .val (.ref xd0), .val (.ref xd1), .val (.ref xd2), .val (.int (3 : Int32)), .val (.ref b807), .val (.ref m841)] [(.ref xc1), (.ref m841)]))
          refine own_on (fun tq => XS.aload X888.here hx rfl (hb hby at_302) rfl rfl) ?_
          show own_Fin p e below _ (T888.setTop (mkF m 304 #[.val (.int p1), .val (.int p2), .val (.int p3), .val (.int c0), .val (.int c1), .val (.int c2), .val (.ref xc0), .val (.ref xc1), .val (.ref xc2), .val (.ref xd0), .val (.ref xd1), .val (.ref xd2), .val (.int (3 : Int32)), .val (.ref b807), .val (.ref m841)] [(.ref xd1), (.ref xc1), (.ref m841)]))
          refine own_on (fun tq => XS.iload X888.here hx rfl (hb hby at_304) rfl) ?_
          show own_Fin p e below _ (T888.setTop (mkF m 306 #[.val (.int p1), .val (.int p2), .val (.int p3), .val (.int c0), .val (.int c1), .val (.int c2), .val (.ref xc0), .val (.ref xc1), .val (.ref xc2), .val (.ref xd0), .val (.ref xd1), .val (.ref xd2), .val (.int (3 : Int32)), .val (.ref b807), .val (.ref m841)] [(.int (3 : Int32)), (.ref xd1), (.ref xc1), (.ref m841)]))
          refine own_on (fun tq => XS.iconst X888.here hx rfl (hb hby at_306)) ?_
          show own_Fin p e below _ (T888.setTop (mkF m 307 #[.val (.int p1), .val (.int p2), .val (.int p3), .val (.int c0), .val (.int c1), .val (.int c2), .val (.ref xc0), .val (.ref xc1), .val (.ref xc2), .val (.ref xd0), .val (.ref xd1), .val (.ref xd2), .val (.int (3 : Int32)), .val (.ref b807), .val (.ref m841)] [(.int (2 : Int32)), (.int (3 : Int32)), (.ref xd1), (.ref xc1), (.ref m841)]))
          refine own_on (fun tq => XS.icmpNo X888.here hx rfl (hb hby at_307) rfl (flt (by decide : ¬ ((3 : Int32) < (2 : Int32)))).1) ?_
          show own_Fin p e below _ (T888.setTop (mkF m 310 #[.val (.int p1), .val (.int p2), .val (.int p3), .val (.int c0), .val (.int c1), .val (.int c2), .val (.ref xc0), .val (.ref xc1), .val (.ref xc2), .val (.ref xd0), .val (.ref xd1), .val (.ref xd2), .val (.int (3 : Int32)), .val (.ref b807), .val (.ref m841)] [(.ref xd1), (.ref xc1), (.ref m841)]))
          refine own_on (fun tq => XS.iconst X888.here hx rfl (hb hby at_310)) ?_
          show own_Fin p e below _ (T888.setTop (mkF m 311 #[.val (.int p1), .val (.int p2), .val (.int p3), .val (.int c0), .val (.int c1), .val (.int c2), .val (.ref xc0), .val (.ref xc1), .val (.ref xc2), .val (.ref xd0), .val (.ref xd1), .val (.ref xd2), .val (.int (3 : Int32)), .val (.ref b807), .val (.ref m841)] [(.int (1 : Int32)), (.ref xd1), (.ref xc1), (.ref m841)]))
          refine own_on (fun tq => XS.goto X888.here hx rfl (pc0 := 311) (pc' := 315) rfl (hb hby at_311) (by decide) (by decide)) ?_
          show own_Fin p e below _ (T888.setTop (mkF m 315 #[.val (.int p1), .val (.int p2), .val (.int p3), .val (.int c0), .val (.int c1), .val (.int c2), .val (.ref xc0), .val (.ref xc1), .val (.ref xc2), .val (.ref xd0), .val (.ref xd1), .val (.ref xd2), .val (.int (3 : Int32)), .val (.ref b807), .val (.ref m841)] [(.int (1 : Int32)), (.ref xd1), (.ref xc1), (.ref m841)]))
          obtain ⟨_, _, ⟨T897, L897, k897, n897⟩, -, X897, ⟨Lc897, hQ897, l897, y897, z897⟩, st897⟩ := Jvm.LawKit.callS X888 hx (y := (⟨"com/example/settlewatt/settlewatt/model/TraceRecordInputsOfPinLaw", "has", "(Ljava/util/Map;Ljava/lang/String;Ljava/lang/String;Z)Z"⟩ : MethodName)) hown (mvT hZ (hw _ (List.mem_of_getElem? (i := 99) rfl))) (mvT hZ (hw _ (List.mem_of_getElem? (i := 100) rfl))) (mvT hZ (hw _ (List.mem_of_getElem? (i := 101) rfl))) (mvT hZ (hw _ (List.mem_of_getElem? (i := 102) rfl))) (by decide) (backOf (W := 0) (rmH31 l Z a0 hw [] m841 xc1 xd1 z a841 k807 xc0 xc1 xc2 xd0 xd1 xd2 c0 c1 c2 t404 kt404 t408 kt408 t416 kt416 t408 kt408 c1 t444 kt444 d1 T888.heap n0 (by exact y890) hz y889 SC y894 y895 y896 (y467.keep y891) (y468.keep y891 nin0) (y469.keep y891 nin0) (y470.keep y891 nin0) rg407 (y471.keep y891) (y472.keep y891 nin0) (y473.keep y891 nin0) (y474.keep y891 nin0) rg415 (y475.keep y891) (y476.keep y891 nin0) (y477.keep y891 nin0) (y478.keep y891 nin0) rg427 (y471.keep y891) (y472.keep y891 nin0) (y473.keep y891 nin0) (y474.keep y891 nin0) rg415 (y483.keep y891) (y484.keep y891 nin0) (y485.keep y891 nin0) (y486.keep y891 nin0) rg463 (by first | rfl | (unfold own_get3; rw [if_neg (fun q => hc401 q.symm), if_pos rfl]))) hZ (hw _ (List.mem_of_getElem? (i := 102) rfl)) (hw _ (List.mem_of_getElem? (i := 101) rfl)) (by decide) (by decide)) (g := (mkF m 315 #[.val (.int p1), .val (.int p2), .val (.int p3), .val (.int c0), .val (.int c1), .val (.int c2), .val (.ref xc0), .val (.ref xc1), .val (.ref xc2), .val (.ref xd0), .val (.ref xd1), .val (.ref xd2), .val (.int (3 : Int32)), .val (.ref b807), .val (.ref m841)] [(.int (1 : Int32)), (.ref xd1), (.ref xc1), (.ref m841)])) rfl (by rw [hml]; rfl) (argsL := [(.ref m841), (.ref xc1), (.ref xd1), (.int (1 : Int32))]) (rest := []) (lenOf pd_17 rfl) rfl (by show 2 * 0 + _ ≤ _; exact Nat.le_of_eq rfl) (hb hby at_315) (fun _ _ => ⟨rfl, rfl, (by decide : 21 + 5 ≤ _), (by decide : 55 + 9 ≤ _)⟩)
          dsimp only [Pt.U, Pt.locs, Pt.cells, Pt.slots] at X897 l897 y897 z897 st897 hQ897
          subst l897 y897 z897
          obtain ⟨rfl, N897q, K897⟩ := hQ897
          have N897 := Fr.app N888 N897q
          have y898 := (y889.keep K897 all0)
          have y899 := (Nat.le_trans y890 K897.1)
          have y900 := (y891.trans K897 all0)
          have y901 := (y892.keep K897 nin0)
          have y902 := (y893.keep K897)
          have y903 := (y894.keep K897)
          have y904 := (y895.keep K897 nin0)
          have y905 := (y896.keep K897 nin0)
          refine own_on st897 ?_
          show own_Fin p e below _ (T897.setTop (mkF m 318 #[.val (.int p1), .val (.int p2), .val (.int p3), .val (.int c0), .val (.int c1), .val (.int c2), .val (.ref xc0), .val (.ref xc1), .val (.ref xc2), .val (.ref xd0), .val (.ref xd1), .val (.ref xd2), .val (.int (3 : Int32)), .val (.ref b807), .val (.ref m841)] [(.int (1 : Int32))]))
          refine own_on (fun tq => XS.ifNo X897.here hx rfl (hb hby at_318) rfl ((if0 _ _).trans (feq (by decide : ¬ ((1 : Int32) = (0 : Int32)))).1)) ?_
          show own_Fin p e below _ (T897.setTop (mkF m 321 #[.val (.int p1), .val (.int p2), .val (.int p3), .val (.int c0), .val (.int c1), .val (.int c2), .val (.ref xc0), .val (.ref xc1), .val (.ref xc2), .val (.ref xd0), .val (.ref xd1), .val (.ref xd2), .val (.int (3 : Int32)), .val (.ref b807), .val (.ref m841)] []))
          refine own_on (fun tq => XS.aload X897.here hx rfl (hb hby at_321) rfl rfl) ?_
          show own_Fin p e below _ (T897.setTop (mkF m 323 #[.val (.int p1), .val (.int p2), .val (.int p3), .val (.int c0), .val (.int c1), .val (.int c2), .val (.ref xc0), .val (.ref xc1), .val (.ref xc2), .val (.ref xd0), .val (.ref xd1), .val (.ref xd2), .val (.int (3 : Int32)), .val (.ref b807), .val (.ref m841)] [(.ref m841)]))
          refine own_on (fun tq => XS.aload X897.here hx rfl (hb hby at_323) rfl rfl) ?_
          show own_Fin p e below _ (T897.setTop (mkF m 325 #[.val (.int p1), .val (.int p2), .val (.int p3), .val (.int c0), .val (.int c1), .val (.int c2), .val (.ref xc0), .val (.ref xc1), .val (.ref xc2), .val (.ref xd0), .val (.ref xd1), .val (.ref xd2), .val (.int (3 : Int32)), .val (.ref b807), .val (.ref m841)] [(.ref xc2), (.ref m841)]))
          refine own_on (fun tq => XS.aload X897.here hx rfl (hb hby at_325) rfl rfl) ?_
          show own_Fin p e below _ (T897.setTop (mkF m 327 #[.val (.int p1), .val (.int p2), .val (.int p3), .val (.int c0), .val (.int c1), .val (.int c2), .val (.ref xc0), .val (.ref xc1), .val (.ref xc2), .val (.ref xd0), .val (.ref xd1), .val (.ref xd2), .val (.int (3 : Int32)), .val (.ref b807), .val (.ref m841)] [(.ref xd2), (.ref xc2), (.ref m841)]))
          refine own_on (fun tq => XS.iload X897.here hx rfl (hb hby at_327) rfl) ?_
          show own_Fin p e below _ (T897.setTop (mkF m 329 #[.val (.int p1), .val (.int p2), .val (.int p3), .val (.int c0), .val (.int c1), .val (.int c2), .val (.ref xc0), .val (.ref xc1), .val (.ref xc2), .val (.ref xd0), .val (.ref xd1), .val (.ref xd2), .val (.int (3 : Int32)), .val (.ref b807), .val (.ref m841)] [(.int (3 : Int32)), (.ref xd2), (.ref xc2), (.ref m841)]))
          refine own_on (fun tq => XS.iconst X897.here hx rfl (hb hby at_329)) ?_
          show own_Fin p e below _ (T897.setTop (mkF m 330 #[.val (.int p1), .val (.int p2), .val (.int p3), .val (.int c0), .val (.int c1), .val (.int c2), .val (.ref xc0), .val (.ref xc1), .val (.ref xc2), .val (.ref xd0), .val (.ref xd1), .val (.ref xd2), .val (.int (3 : Int32)), .val (.ref b807), .val (.ref m841)] [(.int (3 : Int32)), (.int (3 : Int32)), (.ref xd2), (.ref xc2), (.ref m841)]))
          refine own_on (fun tq => XS.icmpNo X897.here hx rfl (hb hby at_330) rfl (flt (by decide : ¬ ((3 : Int32) < (3 : Int32)))).1) ?_
          show own_Fin p e below _ (T897.setTop (mkF m 333 #[.val (.int p1), .val (.int p2), .val (.int p3), .val (.int c0), .val (.int c1), .val (.int c2), .val (.ref xc0), .val (.ref xc1), .val (.ref xc2), .val (.ref xd0), .val (.ref xd1), .val (.ref xd2), .val (.int (3 : Int32)), .val (.ref b807), .val (.ref m841)] [(.ref xd2), (.ref xc2), (.ref m841)]))
          refine own_on (fun tq => XS.iconst X897.here hx rfl (hb hby at_333)) ?_
          show own_Fin p e below _ (T897.setTop (mkF m 334 #[.val (.int p1), .val (.int p2), .val (.int p3), .val (.int c0), .val (.int c1), .val (.int c2), .val (.ref xc0), .val (.ref xc1), .val (.ref xc2), .val (.ref xd0), .val (.ref xd1), .val (.ref xd2), .val (.int (3 : Int32)), .val (.ref b807), .val (.ref m841)] [(.int (1 : Int32)), (.ref xd2), (.ref xc2), (.ref m841)]))
          refine own_on (fun tq => XS.goto X897.here hx rfl (pc0 := 334) (pc' := 338) rfl (hb hby at_334) (by decide) (by decide)) ?_
          show own_Fin p e below _ (T897.setTop (mkF m 338 #[.val (.int p1), .val (.int p2), .val (.int p3), .val (.int c0), .val (.int c1), .val (.int c2), .val (.ref xc0), .val (.ref xc1), .val (.ref xc2), .val (.ref xd0), .val (.ref xd1), .val (.ref xd2), .val (.int (3 : Int32)), .val (.ref b807), .val (.ref m841)] [(.int (1 : Int32)), (.ref xd2), (.ref xc2), (.ref m841)]))
          obtain ⟨_, _, ⟨T906, L906, k906, n906⟩, -, X906, ⟨Lc906, hQ906, l906, y906, z906⟩, st906⟩ := Jvm.LawKit.callS X897 hx (y := (⟨"com/example/settlewatt/settlewatt/model/TraceRecordInputsOfPinLaw", "has", "(Ljava/util/Map;Ljava/lang/String;Ljava/lang/String;Z)Z"⟩ : MethodName)) hown (mvT hZ (hw _ (List.mem_of_getElem? (i := 99) rfl))) (mvT hZ (hw _ (List.mem_of_getElem? (i := 100) rfl))) (mvT hZ (hw _ (List.mem_of_getElem? (i := 101) rfl))) (mvT hZ (hw _ (List.mem_of_getElem? (i := 102) rfl))) (by decide) (backOf (W := 0) (rmH31 l Z a0 hw [] m841 xc2 xd2 z a841 k807 xc0 xc1 xc2 xd0 xd1 xd2 c0 c1 c2 t404 kt404 t408 kt408 t416 kt416 t416 kt416 c2 t464 kt464 d2 T897.heap n0 (by exact y899) hz y898 SC y903 y904 y905 (y467.keep y900) (y468.keep y900 nin0) (y469.keep y900 nin0) (y470.keep y900 nin0) rg407 (y471.keep y900) (y472.keep y900 nin0) (y473.keep y900 nin0) (y474.keep y900 nin0) rg415 (y475.keep y900) (y476.keep y900 nin0) (y477.keep y900 nin0) (y478.keep y900 nin0) rg427 (y475.keep y900) (y476.keep y900 nin0) (y477.keep y900 nin0) (y478.keep y900 nin0) rg427 (Eq464.keep y900) (Cq464.keep y900 nin0) (Vq464.keep y900 nin0) (Aq464.keep y900 nin0) rg487 (by first | rfl | (unfold own_get3; rw [if_neg (fun q => hc402 q.symm), if_neg (fun q => hc403 q.symm), if_pos rfl]))) hZ (hw _ (List.mem_of_getElem? (i := 102) rfl)) (hw _ (List.mem_of_getElem? (i := 101) rfl)) (by decide) (by decide)) (g := (mkF m 338 #[.val (.int p1), .val (.int p2), .val (.int p3), .val (.int c0), .val (.int c1), .val (.int c2), .val (.ref xc0), .val (.ref xc1), .val (.ref xc2), .val (.ref xd0), .val (.ref xd1), .val (.ref xd2), .val (.int (3 : Int32)), .val (.ref b807), .val (.ref m841)] [(.int (1 : Int32)), (.ref xd2), (.ref xc2), (.ref m841)])) rfl (by rw [hml]; rfl) (argsL := [(.ref m841), (.ref xc2), (.ref xd2), (.int (1 : Int32))]) (rest := []) (lenOf pd_17 rfl) rfl (by show 2 * 0 + _ ≤ _; exact Nat.le_of_eq rfl) (hb hby at_338) (fun _ _ => ⟨rfl, rfl, (by decide : 26 + 5 ≤ _), (by decide : 64 + 9 ≤ _)⟩)
          dsimp only [Pt.U, Pt.locs, Pt.cells, Pt.slots] at X906 l906 y906 z906 st906 hQ906
          subst l906 y906 z906
          obtain ⟨rfl, N906q, K906⟩ := hQ906
          have N906 := Fr.app N897 N906q
          have y907 := (y898.keep K906 all0)
          have y908 := (Nat.le_trans y899 K906.1)
          have y909 := (y900.trans K906 all0)
          have y910 := (y901.keep K906 nin0)
          have y911 := (y902.keep K906)
          have y912 := (y903.keep K906)
          have y913 := (y904.keep K906 nin0)
          have y914 := (y905.keep K906 nin0)
          refine own_on st906 ?_
          show own_Fin p e below _ (T906.setTop (mkF m 341 #[.val (.int p1), .val (.int p2), .val (.int p3), .val (.int c0), .val (.int c1), .val (.int c2), .val (.ref xc0), .val (.ref xc1), .val (.ref xc2), .val (.ref xd0), .val (.ref xd1), .val (.ref xd2), .val (.int (3 : Int32)), .val (.ref b807), .val (.ref m841)] [(.int (1 : Int32))]))
          refine own_on (fun tq => XS.ifNo X906.here hx rfl (hb hby at_341) rfl ((if0 _ _).trans (feq (by decide : ¬ ((1 : Int32) = (0 : Int32)))).1)) ?_
          show own_Fin p e below _ (T906.setTop (mkF m 344 #[.val (.int p1), .val (.int p2), .val (.int p3), .val (.int c0), .val (.int c1), .val (.int c2), .val (.ref xc0), .val (.ref xc1), .val (.ref xc2), .val (.ref xd0), .val (.ref xd1), .val (.ref xd2), .val (.int (3 : Int32)), .val (.ref b807), .val (.ref m841)] []))
          refine own_on (fun tq => XS.iconst X906.here hx rfl (hb hby at_344)) ?_
          show own_Fin p e below _ (T906.setTop (mkF m 345 #[.val (.int p1), .val (.int p2), .val (.int p3), .val (.int c0), .val (.int c1), .val (.int c2), .val (.ref xc0), .val (.ref xc1), .val (.ref xc2), .val (.ref xd0), .val (.ref xd1), .val (.ref xd2), .val (.int (3 : Int32)), .val (.ref b807), .val (.ref m841)] [(.int (1 : Int32))]))
          refine own_on (fun tq => XS.goto X906.here hx rfl (pc0 := 345) (pc' := 349) rfl (hb hby at_345) (by decide) (by decide)) ?_
          show own_Fin p e below _ (T906.setTop (mkF m 349 #[.val (.int p1), .val (.int p2), .val (.int p3), .val (.int c0), .val (.int c1), .val (.int c2), .val (.ref xc0), .val (.ref xc1), .val (.ref xc2), .val (.ref xd0), .val (.ref xd1), .val (.ref xd2), .val (.int (3 : Int32)), .val (.ref b807), .val (.ref m841)] [(.int (1 : Int32))]))
          exact own_ret (t := .boolean) X906 hx hlk hret rfl (Or.inl ⟨rfl, (by simp), _, rfl⟩) (hb hby at_349) (⟨rfl, N906⟩) (by decide) (by decide)
set_option maxRecDepth 65536 in
set_option maxHeartbeats 40000000 in
theorem comes_1 {Post : Tables → Env → Array Value → State → Outcome → State → Prop} (hpost : ∀ tb e args s v u, (limb_1_1.after args s (.returned v) u = true ∧ limb_1_2.after args s (.returned v) u = true ∧ True) → FrameEnd s (.returned v) u (Jvm.fieldLocs frame_1_writes args s ++ Jvm.arrayLocs frame_1_arrays args s ++ Jvm.staticLocs frame_1_statics s) 64 256 → Post tb e args s (.returned v) u) :
    ArmFor flags0 classFile x code maxLocals ret World_1 tables_1 room_1 Calls_1 rest_1 Pre_1 Post := by
  intro l hfl _ _ p e ha hc hk s m args below hf hA hF happ hP
  obtain ⟨hcalls, hrest, hpre⟩ := hP
  obtain ⟨-, -, -, hnamed, -, -, -, hat⟩ := (Spec.applies_iff hf).mp happ
  obtain ⟨hg, hn⟩ := and_e (Cond.before_iff.mp (show (Jvm.Cond.and given_1 narrow_1).before args s = true from hpre))
  obtain ⟨ga0l, ga0r⟩ := and_e hg
  obtain ⟨ga1l, ga1r⟩ := and_e ga0r
  obtain ⟨ga2l, ga2r⟩ := and_e ga1r
  obtain ⟨w0, w1, w2, rfl⟩ : ∃ w0 w1 w2 : Value, args = #[w0, w1, w2] := by
    have hs : args.size = 3 := by simpa [Cond.value, given_1] using ga0l
    obtain ⟨L⟩ := args
    match L, hs with
    | [w0, w1, w2], _ => exact ⟨w0, w1, w2, rfl⟩
  have hw := fun d (hd : d ∈ tables_1) => atoms_spec (ws := Jvm.Cond.code x code maxLocals ret :: tables_1) hat d (List.mem_cons_of_mem _ hd)
  have hfit : Fit s := fun {y c} hc i hi => by
    obtain ⟨ha, rfl⟩ := Array.getElem?_eq_some_iff.mp hc
    have q := List.all_eq_true.mp ((Array.all_eq_true_iff_forall_mem.mp hF) _ (Array.getElem_mem ha)) i (List.mem_range.mpr hi)
    simpa [Array.getElem?_eq_getElem hi] using q
  obtain ⟨hsets, hown0⟩ := atoms_of _ (rest_1_c_eq ▸ (show rest_1_c.before _ s = true from hrest))
  have hr0 := Cond.before_iff.mp hown0
  obtain ⟨i0, ei0⟩ := is_v ga1l
  obtain rfl : w0 = (.int i0) := Option.some.inj ei0
  obtain ⟨i1, ei1⟩ := is_v ga2l
  obtain rfl : w1 = (.int i1) := Option.some.inj ei1
  obtain ⟨i2, ei2⟩ := is_v ga2r
  obtain rfl : w2 = (.int i2) := Option.some.inj ei2
  obtain ⟨z, ez⟩ := is_v (Cond.before_iff.mp (hsets _ (List.mem_of_getElem? (i := 1) rfl)))
  have SC := Sta.start ez (Or.inl (hsets _ (List.mem_of_getElem? (i := 0) rfl)))
  have hz : ¬ z = (0 : Int32) := gotF (Cond.eq_ints ez (Term.int_eval (0))) (not_v (Cond.before_iff.mp (hsets _ (List.mem_of_getElem? (i := 2) rfl))))
  have hcw : Jvm.Lit.compactW.before #[.int i0, .int i1, .int i2] s = true := (hsets _ (List.mem_of_getElem? (i := 2) rfl))
  obtain ⟨fm, ef, hfm⟩ := isR_v (Cond.before_iff.mp (hsets _ (List.mem_of_getElem? (i := 8) rfl)))
  have SF := Sta.start ef (Or.inl (hsets _ (List.mem_of_getElem? (i := 7) rfl)))
  obtain ⟨n, o, h1, h2, h3, _, L, rfl, ⟨rfl, N⟩, hq⟩ := rm0 l s _ hw tables_1 i0 i1 i2 z s.heap s.heap.size (Nat.le_refl _) hz (Old.start s) SC p e ha hc hk s m _ below hf ((Spec.applies_iff_loose hf).mp happ).1 ⟨rfl, State.Warmed39.refl s, rfl⟩ trivial
  refine ⟨n, _, h1, h2, h3, hpost _ _ _ _ _ _ ⟨Cond.after_iff.mpr rfl, Cond.after_iff.mpr (eq_i res_at (Term.int_eval (1)) rfl), trivial⟩ ⟨hq.1, hq.2.1, (hq.2.2.sift fun y hy => Or.inr (N y hy)).mono (by decide) (by decide)⟩⟩
theorem main_1_1 : Claimed_1_1 := comes_1 fun _ _ _ _ _ _ h hF => ⟨h.1, hF⟩
theorem main_1_2 : Claimed_1_2 := comes_1 fun _ _ _ _ _ _ h hF => ⟨h.2.1, hF⟩
end Jvm.Pilot.@@N@@
namespace Jvm.Pilot.@@N@@
open Jvm Jvm.ClassFile Sem Op Lib Jvm.Free Jvm.Stand Jvm.Pilot.@@N@@.Jvm.D
/-! MADE BY PROGRAM (witnessworld.py) out of the Statement's table words and the real class files: 32 classes; the members and pool entries that the words name. The judged class is class 1, her method 2. -/
namespace start1
open Jvm.ClassFile
def u (s : String) : CpInfo := .utf8 (stringToUtf16 s)
/-- a pool by its gaps: so many unusable entries, then the entry; so many at the end -/
def gap : Nat → List CpInfo → List CpInfo
  | 0, r => r
  | n + 1, r => .unusable :: gap n r
def poolList (es : List (Nat × CpInfo)) (last : Nat) : List CpInfo := es.foldr (fun e r => gap e.1 (e.2 :: r)) (gap last [])
def pool (es : List (Nat × CpInfo)) (last : Nat) : Array CpInfo := ⟨poolList es last⟩
def fileOf (pool : Array CpInfo) (this : Nat) (attrs : Array Attribute := #[]) (ms : Array MethodInfo := #[]) (fl : Nat := 33) (sup : Nat := 0) (ifs : Array Nat := #[]) (fds : Array FieldInfo := #[]) : ClassFile where
  minorVersion := 0
  majorVersion := 65
  constantPool := pool
  accessFlags := fl
  thisClass := this
  superClass := sup
  interfaces := ifs
  fields := fds
  methods := ms
  attributes := attrs
def plain (name : String) (sup : Option ClassId) : Class where
  name := name
  kind := .ordinary
  loader := none
  accessFlags := 33
  super := sup
  interfaces := #[]
  cf := none
  fields := #[]
  methods := #[]
  instanceTypes := #[]
  staticTypes := #[]
  resolved := #[]
  callSites := []
  init := .initialized
  statics := none
  mirror := none

def pool0 : Array CpInfo := pool [(5, u "<init>"), (0, u "()V"), (1, .class_ 10), (1, u "java/lang/Object"), (81, u "equals"), (0, u "(Ljava/lang/Object;)Z"), (2, u "clone"), (0, u "()Ljava/lang/Object;")] 26

def k0c0 : Code := { maxStack := 0, maxLocals := 1, code := object_method_1_code, exceptionTable := #[], attributes := #[] }
def k0m0 : Method := { name := "<init>", desc := "()V", sig := { parameters := [], returnType := none }, accessFlags := 1, code := some k0c0 }
def k0c1 : Code := { maxStack := 2, maxLocals := 2, code := ⟨#[0x2a, 0x2b, 0xa6, 0x00, 0x07, 0x04, 0xa7, 0x00, 0x04, 0x03, 0xac]⟩, exceptionTable := #[], attributes := #[] }
def k0m1 : Method := { name := "equals", desc := "(Ljava/lang/Object;)Z", sig := { parameters := [(.object "java/lang/Object")], returnType := some .boolean }, accessFlags := 1, code := some k0c1 }
def k0m2 : Method := { name := "clone", desc := "()Ljava/lang/Object;", sig := { parameters := [], returnType := some (.object "java/lang/Object") }, accessFlags := 260, code := none }
/-- java/lang/Object -/
def k0 : Class := { plain "java/lang/Object" none with
  accessFlags := 33
  interfaces := #[]
  cf := some (fileOf pool0 8 #[] #[{ accessFlags := 1, nameIndex := 5, descriptorIndex := 6, attributes := #[] }, { accessFlags := 1, nameIndex := 92, descriptorIndex := 93, attributes := #[] }, { accessFlags := 260, nameIndex := 96, descriptorIndex := 97, attributes := #[] }] 33 0 #[] #[])
  fields := #[]
  methods := #[k0m0, k0m1, k0m2]
  instanceTypes := #[]
  staticTypes := #[]
  resolved := Array.replicate 124 none
  statics := none }

def pool1 : Array CpInfo := pool [(2, .class_ 4), (1, u "java/lang/Object"), (0, u "<init>"), (0, u "()V"), (0, .interfaceMethodref 8 9), (0, .class_ 10), (0, .nameAndType 11 12), (0, u "java/util/Map"), (0, u "get"), (0, u "(Ljava/lang/Object;)Ljava/lang/Object;"), (0, .class_ 14), (0, u "java/lang/String"), (0, .methodref 13 16), (0, .nameAndType 17 18), (0, u "equals"), (0, u "(Ljava/lang/Object;)Z"), (0, .methodref 13 20), (0, .nameAndType 21 22), (0, u "valueOf"), (0, u "(C)Ljava/lang/String;"), (0, .methodref 24 25), (0, .class_ 26), (0, .nameAndType 27 28), (0, u "com/example/settlewatt/settlewatt/model/TraceRecord"), (0, u "inputsOf"), (0, u "([Ljava/lang/String;)Ljava/util/Map;"), (0, .interfaceMethodref 8 30), (0, .nameAndType 31 32), (0, u "size"), (0, u "()I"), (0, .methodref 34 35), (0, .class_ 36), (0, .nameAndType 37 38), (0, u "com/example/settlewatt/settlewatt/model/TraceRecordInputsOfPinLaw"), (0, u "has"), (0, u "(Ljava/util/Map;Ljava/lang/String;Ljava/lang/String;Z)Z"), (5, u "law"), (0, u "(III)Z")] 4

def k1m0 : Method := { name := "<init>", desc := "()V", sig := { parameters := [], returnType := none }, accessFlags := 1, code := none }
def k1c1 : Code := { maxStack := 2, maxLocals := 5, code := method_2_code, exceptionTable := #[], attributes := #[] }
def k1m1 : Method := { name := "has", desc := "(Ljava/util/Map;Ljava/lang/String;Ljava/lang/String;Z)Z", sig := { parameters := [(.object "java/util/Map"), (.object "java/lang/String"), (.object "java/lang/String"), .boolean], returnType := some .boolean }, accessFlags := 10, code := some k1c1 }
def k1c2 : Code := { maxStack := 5, maxLocals := 15, code := code, exceptionTable := #[], attributes := #[] }
def k1m2 : Method := { name := "law", desc := "(III)Z", sig := { parameters := [.int, .int, .int], returnType := some .boolean }, accessFlags := 9, code := some k1c2 }
/-- com/example/settlewatt/settlewatt/model/TraceRecordInputsOfPinLaw -/
def k1 : Class := { plain "com/example/settlewatt/settlewatt/model/TraceRecordInputsOfPinLaw" (some 0) with
  accessFlags := 49
  interfaces := #[]
  cf := some (fileOf pool1 34 #[] #[{ accessFlags := 1, nameIndex := 5, descriptorIndex := 6, attributes := #[] }, { accessFlags := 10, nameIndex := 37, descriptorIndex := 38, attributes := #[] }, { accessFlags := 9, nameIndex := 44, descriptorIndex := 45, attributes := #[] }] 49 2 #[] #[])
  fields := #[]
  methods := #[k1m0, k1m1, k1m2]
  instanceTypes := #[]
  staticTypes := #[]
  resolved := Array.replicate 50 none
  statics := none }

def pool2 : Array CpInfo := pool [(1, .class_ 2), (0, u "java/io/Serializable"), (0, .class_ 4), (0, u "java/lang/Object")] 2

/-- java/io/Serializable -/
def k2 : Class := { plain "java/io/Serializable" (some 0) with
  accessFlags := 1537
  interfaces := #[]
  cf := some (fileOf pool2 1 #[] #[] 1537 3 #[] #[])
  fields := #[]
  methods := #[]
  instanceTypes := #[]
  staticTypes := #[]
  resolved := Array.replicate 7 none
  statics := none }

def pool3 : Array CpInfo := pool [(1, .class_ 2), (0, u "java/lang/Comparable"), (0, .class_ 4), (0, u "java/lang/Object")] 7

/-- java/lang/Comparable -/
def k3 : Class := { plain "java/lang/Comparable" (some 0) with
  accessFlags := 1537
  interfaces := #[]
  cf := some (fileOf pool3 1 #[] #[] 1537 3 #[] #[])
  fields := #[]
  methods := #[]
  instanceTypes := #[]
  staticTypes := #[]
  resolved := Array.replicate 12 none
  statics := none }

def pool4 : Array CpInfo := pool [(2, .class_ 4), (1, u "java/lang/CharSequence"), (42, .class_ 48), (0, u "java/lang/CharSequence$1CodePointIterator"), (10, .class_ 60), (0, u "java/lang/CharSequence$1CharIterator"), (5, .class_ 67), (0, u "java/lang/Object")] 63

/-- java/lang/CharSequence -/
def k4 : Class := { plain "java/lang/CharSequence" (some 0) with
  accessFlags := 1537
  interfaces := #[]
  cf := some (fileOf pool4 2 #[.nestMembers #[47, 59]] #[] 1537 66 #[] #[])
  fields := #[]
  methods := #[]
  instanceTypes := #[]
  staticTypes := #[]
  resolved := Array.replicate 131 none
  statics := none }

def pool5 : Array CpInfo := pool [(1, .class_ 2), (0, u "java/lang/constant/Constable"), (0, .class_ 4), (0, u "java/lang/Object")] 6

/-- java/lang/constant/Constable -/
def k5 : Class := { plain "java/lang/constant/Constable" (some 0) with
  accessFlags := 1537
  interfaces := #[]
  cf := some (fileOf pool5 1 #[] #[] 1537 3 #[] #[])
  fields := #[]
  methods := #[]
  instanceTypes := #[]
  staticTypes := #[]
  resolved := Array.replicate 11 none
  statics := none }

def pool6 : Array CpInfo := pool [(1, .class_ 2), (0, u "java/lang/constant/ConstantDesc"), (0, .class_ 4), (0, u "java/lang/Object")] 32

/-- java/lang/constant/ConstantDesc -/
def k6 : Class := { plain "java/lang/constant/ConstantDesc" (some 0) with
  accessFlags := 1537
  interfaces := #[]
  cf := some (fileOf pool6 1 #[] #[] 1537 3 #[] #[])
  fields := #[]
  methods := #[]
  instanceTypes := #[]
  staticTypes := #[]
  resolved := Array.replicate 37 none
  statics := none }

def pool7 : Array CpInfo := pool [(1, .methodref 2 3), (0, .class_ 4), (0, .nameAndType 5 6), (0, u "java/lang/Object"), (0, u "<init>"), (0, u "()V"), (2, .fieldref 10 11), (0, .class_ 12), (0, .nameAndType 13 14), (0, u "java/lang/String"), (0, u "value"), (0, u "[B"), (0, .fieldref 10 16), (0, .nameAndType 17 18), (0, u "coder"), (0, u "B"), (2, u "hash"), (0, u "I"), (2, u "hashIsZero"), (0, u "Z"), (11, .fieldref 10 39), (0, .nameAndType 40 26), (0, u "COMPACT_STRINGS"), (12, u "toBytes"), (53, .class_ 109), (1, u "java/lang/StringLatin1"), (99, .methodref 10 210), (0, .nameAndType 5 211), (0, u "([BB)V"), (157, u "(C)Z"), (171, .methodref 107 542), (0, .nameAndType 543 544), (0, u "equals"), (0, u "([B[B)Z"), (28, u "(Ljava/lang/Object;)Z"), (1, .class_ 576), (0, u "java/lang/CharSequence"), (22, u "CASE_INSENSITIVE_ORDER"), (0, u "Ljava/util/Comparator;"), (181, u "valueOf"), (0, u "(C)Ljava/lang/String;"), (231, .methodref 107 1016), (0, .nameAndType 1017 369), (0, u "canEncode"), (0, .methodref 107 1019), (0, .nameAndType 53 1020), (0, u "(C)[B"), (80, u "serialPersistentFields"), (0, u "[Ljava/io/ObjectStreamField;"), (0, .class_ 1104), (0, u "java/lang/String$CaseInsensitiveComparator"), (1, .class_ 1107), (0, u "java/io/Serializable"), (0, .class_ 1109), (0, u "java/lang/Comparable"), (0, .class_ 1111), (0, u "java/lang/constant/Constable"), (0, .class_ 1113), (0, u "java/lang/constant/ConstantDesc"), (2, u "serialVersionUID"), (0, u "J"), (3, u "REPL"), (0, u "C"), (2, u "LATIN1"), (1, u "UTF16")] 323

def k7m0 : Method := { name := "<init>", desc := "()V", sig := { parameters := [], returnType := none }, accessFlags := 1, code := none }
def k7c1 : Code := { maxStack := 2, maxLocals := 3, code := jdk_42_method_66_code, exceptionTable := #[], attributes := #[] }
def k7m1 : Method := { name := "equals", desc := "(Ljava/lang/Object;)Z", sig := { parameters := [(.object "java/lang/Object")], returnType := some .boolean }, accessFlags := 1, code := some k7c1 }
def k7c2 : Code := { maxStack := 4, maxLocals := 1, code := jdk_42_method_139_code, exceptionTable := #[], attributes := #[] }
def k7m2 : Method := { name := "valueOf", desc := "(C)Ljava/lang/String;", sig := { parameters := [.char], returnType := some (.object "java/lang/String") }, accessFlags := 9, code := some k7c2 }
def k7c3 : Code := { maxStack := 2, maxLocals := 3, code := jdk_42_method_151_code, exceptionTable := #[], attributes := #[] }
def k7m3 : Method := { name := "<init>", desc := "([BB)V", sig := { parameters := [(.array .byte), .byte], returnType := none }, accessFlags := 0, code := some k7c3 }
/-- java/lang/String -/
def k7 : Class := { plain "java/lang/String" (some 0) with
  accessFlags := 49
  interfaces := #[2, 3, 4, 5, 6]
  cf := some (fileOf pool7 10 #[.nestMembers #[1103]] #[{ accessFlags := 1, nameIndex := 5, descriptorIndex := 6, attributes := #[] }, { accessFlags := 1, nameIndex := 543, descriptorIndex := 573, attributes := #[] }, { accessFlags := 9, nameIndex := 782, descriptorIndex := 783, attributes := #[] }, { accessFlags := 0, nameIndex := 5, descriptorIndex := 211, attributes := #[] }] 49 2 #[1106, 1108, 575, 1110, 1112] #[{ accessFlags := 18, nameIndex := 13, descriptorIndex := 14, attributes := #[] }, { accessFlags := 18, nameIndex := 17, descriptorIndex := 18, attributes := #[] }, { accessFlags := 2, nameIndex := 21, descriptorIndex := 22, attributes := #[] }, { accessFlags := 2, nameIndex := 25, descriptorIndex := 26, attributes := #[] }, { accessFlags := 26, nameIndex := 1116, descriptorIndex := 1117, attributes := #[] }, { accessFlags := 24, nameIndex := 40, descriptorIndex := 26, attributes := #[] }, { accessFlags := 26, nameIndex := 1101, descriptorIndex := 1102, attributes := #[] }, { accessFlags := 26, nameIndex := 1121, descriptorIndex := 1122, attributes := #[] }, { accessFlags := 25, nameIndex := 599, descriptorIndex := 600, attributes := #[] }, { accessFlags := 24, nameIndex := 1125, descriptorIndex := 18, attributes := #[] }, { accessFlags := 24, nameIndex := 1127, descriptorIndex := 18, attributes := #[] }])
  fields := #[{ name := "value", type := (.array .byte), accessFlags := 18, slot := 0, constantValue := 0 }, { name := "coder", type := .byte, accessFlags := 18, slot := 1, constantValue := 0 }, { name := "hash", type := .int, accessFlags := 2, slot := 2, constantValue := 0 }, { name := "hashIsZero", type := .boolean, accessFlags := 2, slot := 3, constantValue := 0 }, { name := "serialVersionUID", type := .long, accessFlags := 26, slot := 0, constantValue := 0 }, { name := "COMPACT_STRINGS", type := .boolean, accessFlags := 24, slot := 1, constantValue := 0 }, { name := "serialPersistentFields", type := (.array (.object "java/io/ObjectStreamField")), accessFlags := 26, slot := 2, constantValue := 0 }, { name := "REPL", type := .char, accessFlags := 26, slot := 3, constantValue := 0 }, { name := "CASE_INSENSITIVE_ORDER", type := (.object "java/util/Comparator"), accessFlags := 25, slot := 4, constantValue := 0 }, { name := "LATIN1", type := .byte, accessFlags := 24, slot := 5, constantValue := 0 }, { name := "UTF16", type := .byte, accessFlags := 24, slot := 6, constantValue := 0 }]
  methods := #[k7m0, k7m1, k7m2, k7m3]
  instanceTypes := #[(.array .byte), .byte, .int, .boolean]
  staticTypes := #[.long, .boolean, (.array (.object "java/io/ObjectStreamField")), .char, (.object "java/util/Comparator"), .byte, .byte]
  resolved := Array.replicate 1451 none
  statics := some 0 }

def pool8 : Array CpInfo := pool [(4, .class_ 6), (1, u "java/lang/Object"), (0, u "<init>"), (0, u "()V"), (5, .class_ 16), (1, u "java/lang/StringLatin1"), (73, u "canEncode"), (14, u "(C)Z"), (15, u "$assertionsDisabled"), (0, u "Z"), (98, .class_ 223), (1, u "java/lang/StringLatin1$LinesSpliterator"), (57, u "equals"), (0, u "([B[B)Z"), (97, u "toBytes"), (1, u "(C)[B"), (7, .class_ 391), (0, u "java/lang/StringLatin1$CharsSpliterator")] 3

def k8m0 : Method := { name := "<init>", desc := "()V", sig := { parameters := [], returnType := none }, accessFlags := 0, code := none }
def k8c1 : Code := { maxStack := 2, maxLocals := 1, code := jdk_43_method_3_code, exceptionTable := #[], attributes := #[] }
def k8m1 : Method := { name := "canEncode", desc := "(C)Z", sig := { parameters := [.char], returnType := some .boolean }, accessFlags := 9, code := some k8c1 }
def k8c2 : Code := { maxStack := 3, maxLocals := 3, code := jdk_43_method_13_code, exceptionTable := #[], attributes := #[] }
def k8m2 : Method := { name := "equals", desc := "([B[B)Z", sig := { parameters := [(.array .byte), (.array .byte)], returnType := some .boolean }, accessFlags := 9, code := some k8c2 }
def k8c3 : Code := { maxStack := 4, maxLocals := 1, code := jdk_43_method_46_code, exceptionTable := #[], attributes := #[] }
def k8m3 : Method := { name := "toBytes", desc := "(C)[B", sig := { parameters := [.char], returnType := some (.array .byte) }, accessFlags := 9, code := some k8c3 }
/-- java/lang/StringLatin1 -/
def k8 : Class := { plain "java/lang/StringLatin1" (some 0) with
  accessFlags := 48
  interfaces := #[]
  cf := some (fileOf pool8 14 #[.nestMembers #[390, 221]] #[{ accessFlags := 0, nameIndex := 7, descriptorIndex := 8, attributes := #[] }, { accessFlags := 9, nameIndex := 90, descriptorIndex := 105, attributes := #[] }, { accessFlags := 9, nameIndex := 281, descriptorIndex := 282, attributes := #[] }, { accessFlags := 9, nameIndex := 380, descriptorIndex := 382, attributes := #[] }] 48 4 #[] #[{ accessFlags := 4120, nameIndex := 121, descriptorIndex := 122, attributes := #[] }])
  fields := #[{ name := "$assertionsDisabled", type := .boolean, accessFlags := 4120, slot := 0, constantValue := 0 }]
  methods := #[k8m0, k8m1, k8m2, k8m3]
  instanceTypes := #[]
  staticTypes := #[.boolean]
  resolved := Array.replicate 395 none
  statics := none }

def pool9 : Array CpInfo := pool [(2, .class_ 4), (1, u "java/lang/Object"), (0, u "<init>"), (0, u "()V"), (0, .class_ 8), (0, u "java/lang/Record")] 13

def k9m0 : Method := { name := "<init>", desc := "()V", sig := { parameters := [], returnType := none }, accessFlags := 4, code := none }
/-- java/lang/Record -/
def k9 : Class := { plain "java/lang/Record" (some 0) with
  accessFlags := 1057
  interfaces := #[]
  cf := some (fileOf pool9 7 #[] #[{ accessFlags := 4, nameIndex := 5, descriptorIndex := 6, attributes := #[] }] 1057 2 #[] #[])
  fields := #[]
  methods := #[k9m0]
  instanceTypes := #[]
  staticTypes := #[]
  resolved := Array.replicate 22 none
  statics := none }

def pool10 : Array CpInfo := pool [(2, .class_ 4), (1, u "java/lang/Record"), (0, u "<init>"), (2, .class_ 10), (1, u "com/example/settlewatt/settlewatt/model/TraceRecord"), (0, u "figure"), (0, u "Lcom/example/settlewatt/settlewatt/model/Figure;"), (2, u "resource"), (0, u "Ljava/lang/String;"), (2, u "component"), (0, u "Ljava/lang/Integer;"), (2, u "interval"), (0, u "Ljava/time/Instant;"), (2, u "value"), (2, u "inputs"), (0, u "Ljava/util/Map;"), (3, .class_ 36), (0, u "com/example/settlewatt/settlewatt/model/TraceRecord$Inputs"), (0, .methodref 38 39), (0, .class_ 40), (0, .nameAndType 41 42), (0, u "[Ljava/lang/String;"), (0, u "clone"), (0, u "()Ljava/lang/Object;"), (0, .methodref 35 44), (0, .nameAndType 5 45), (0, u "([Ljava/lang/String;)V"), (30, u "inputsOf"), (0, u "([Ljava/lang/String;)Ljava/util/Map;"), (13, .class_ 92), (0, u "com/example/settlewatt/settlewatt/model/TraceRecord$Inputs$Entries"), (0, .class_ 94), (0, u "com/example/settlewatt/settlewatt/model/TraceRecord$Inputs$1")] 33

def k10c0 : Code := { maxStack := 3, maxLocals := 1, code := prog_37_method_3_code, exceptionTable := #[], attributes := #[] }
def k10m0 : Method := { name := "inputsOf", desc := "([Ljava/lang/String;)Ljava/util/Map;", sig := { parameters := [(.array (.object "java/lang/String"))], returnType := some (.object "java/util/Map") }, accessFlags := 137, code := some k10c0 }
/-- com/example/settlewatt/settlewatt/model/TraceRecord -/
def k10 : Class := { plain "com/example/settlewatt/settlewatt/model/TraceRecord" (some 9) with
  accessFlags := 49
  interfaces := #[]
  cf := some (fileOf pool10 8 #[.nestMembers #[35, 91, 93]] #[{ accessFlags := 137, nameIndex := 76, descriptorIndex := 77, attributes := #[] }] 49 2 #[] #[{ accessFlags := 18, nameIndex := 11, descriptorIndex := 12, attributes := #[] }, { accessFlags := 18, nameIndex := 15, descriptorIndex := 16, attributes := #[] }, { accessFlags := 18, nameIndex := 19, descriptorIndex := 20, attributes := #[] }, { accessFlags := 18, nameIndex := 23, descriptorIndex := 24, attributes := #[] }, { accessFlags := 18, nameIndex := 27, descriptorIndex := 16, attributes := #[] }, { accessFlags := 18, nameIndex := 30, descriptorIndex := 31, attributes := #[] }])
  fields := #[{ name := "figure", type := (.object "com/example/settlewatt/settlewatt/model/Figure"), accessFlags := 18, slot := 0, constantValue := 0 }, { name := "resource", type := (.object "java/lang/String"), accessFlags := 18, slot := 1, constantValue := 0 }, { name := "component", type := (.object "java/lang/Integer"), accessFlags := 18, slot := 2, constantValue := 0 }, { name := "interval", type := (.object "java/time/Instant"), accessFlags := 18, slot := 3, constantValue := 0 }, { name := "value", type := (.object "java/lang/String"), accessFlags := 18, slot := 4, constantValue := 0 }, { name := "inputs", type := (.object "java/util/Map"), accessFlags := 18, slot := 5, constantValue := 0 }]
  methods := #[k10m0]
  instanceTypes := #[(.object "com/example/settlewatt/settlewatt/model/Figure"), (.object "java/lang/String"), (.object "java/lang/Integer"), (.object "java/time/Instant"), (.object "java/lang/String"), (.object "java/util/Map")]
  staticTypes := #[]
  resolved := Array.replicate 128 none
  statics := none }

def pool11 : Array CpInfo := pool [(2, .class_ 4), (1, u "java/util/Map"), (0, u "get"), (0, u "(Ljava/lang/Object;)Ljava/lang/Object;"), (29, .class_ 37), (0, u "java/util/Map$Entry"), (55, .class_ 94), (0, u "java/lang/Object"), (25, u "size"), (0, u "()I")] 141

def k11m0 : Method := { name := "size", desc := "()I", sig := { parameters := [], returnType := some .int }, accessFlags := 1025, code := none }
def k11m1 : Method := { name := "get", desc := "(Ljava/lang/Object;)Ljava/lang/Object;", sig := { parameters := [(.object "java/lang/Object")], returnType := some (.object "java/lang/Object") }, accessFlags := 1025, code := none }
/-- java/util/Map -/
def k11 : Class := { plain "java/util/Map" (some 0) with
  accessFlags := 1537
  interfaces := #[]
  cf := some (fileOf pool11 2 #[.nestMembers #[36]] #[{ accessFlags := 1025, nameIndex := 120, descriptorIndex := 121, attributes := #[] }, { accessFlags := 1025, nameIndex := 5, descriptorIndex := 6, attributes := #[] }] 1537 93 #[] #[])
  fields := #[]
  methods := #[k11m0, k11m1]
  instanceTypes := #[]
  staticTypes := #[]
  resolved := Array.replicate 263 none
  statics := none }

def pool12 : Array CpInfo := pool [(1, .methodref 2 3), (0, .class_ 4), (0, .nameAndType 5 6), (0, u "java/lang/Object"), (0, u "<init>"), (0, u "()V"), (0, .methodref 8 9), (0, .class_ 10), (0, .nameAndType 11 12), (0, u "java/util/AbstractMap"), (0, u "entrySet"), (0, u "()Ljava/util/Set;"), (0, .interfaceMethodref 14 15), (0, .class_ 16), (0, .nameAndType 17 18), (0, u "java/util/Set"), (0, u "size"), (0, u "()I"), (1, .interfaceMethodref 14 21), (0, .nameAndType 22 23), (0, u "iterator"), (0, u "()Ljava/util/Iterator;"), (0, .interfaceMethodref 25 26), (0, .class_ 27), (0, .nameAndType 28 29), (0, u "java/util/Iterator"), (0, u "hasNext"), (0, u "()Z"), (0, .interfaceMethodref 25 31), (0, .nameAndType 32 33), (0, u "next"), (0, u "()Ljava/lang/Object;"), (0, .class_ 35), (0, u "java/util/Map$Entry"), (0, .interfaceMethodref 34 37), (0, .nameAndType 38 33), (0, u "getValue"), (0, .methodref 2 40), (0, .nameAndType 41 42), (0, u "equals"), (0, u "(Ljava/lang/Object;)Z"), (0, .interfaceMethodref 34 44), (0, .nameAndType 45 33), (0, u "getKey"), (7, .class_ 54), (0, u "java/util/Map"), (9, u "keySet"), (0, u "Ljava/util/Set;"), (0, .class_ 67), (0, u "java/util/AbstractMap$1"), (5, u "values"), (0, u "Ljava/util/Collection;"), (0, .class_ 76), (0, u "java/util/AbstractMap$2"), (4, u "get"), (0, u "(Ljava/lang/Object;)Ljava/lang/Object;"), (98, .class_ 182), (0, u "java/util/AbstractMap$ViewCollection"), (0, .class_ 184), (0, u "java/util/AbstractMap$SimpleImmutableEntry"), (0, .class_ 186), (0, u "java/util/AbstractMap$SimpleEntry"), (0, .class_ 188), (0, u "java/util/AbstractMap$2$1"), (0, .class_ 190), (0, u "java/util/AbstractMap$1$1")] 5

def k12c0 : Code := { maxStack := 1, maxLocals := 1, code := jdk_71_method_1_code, exceptionTable := #[], attributes := #[] }
def k12m0 : Method := { name := "<init>", desc := "()V", sig := { parameters := [], returnType := none }, accessFlags := 4, code := some k12c0 }
def k12c1 : Code := { maxStack := 1, maxLocals := 1, code := jdk_71_method_2_code, exceptionTable := #[], attributes := #[] }
def k12m1 : Method := { name := "size", desc := "()I", sig := { parameters := [], returnType := some .int }, accessFlags := 1, code := some k12c1 }
def k12c2 : Code := { maxStack := 2, maxLocals := 4, code := jdk_71_method_6_code, exceptionTable := #[], attributes := #[] }
def k12m2 : Method := { name := "get", desc := "(Ljava/lang/Object;)Ljava/lang/Object;", sig := { parameters := [(.object "java/lang/Object")], returnType := some (.object "java/lang/Object") }, accessFlags := 1, code := some k12c2 }
def k12m3 : Method := { name := "entrySet", desc := "()Ljava/util/Set;", sig := { parameters := [], returnType := some (.object "java/util/Set") }, accessFlags := 1025, code := none }
/-- java/util/AbstractMap -/
def k12 : Class := { plain "java/util/AbstractMap" (some 0) with
  accessFlags := 1057
  interfaces := #[11]
  cf := some (fileOf pool12 8 #[.nestMembers #[181, 183, 185, 75, 187, 66, 189]] #[{ accessFlags := 4, nameIndex := 5, descriptorIndex := 6, attributes := #[] }, { accessFlags := 1, nameIndex := 17, descriptorIndex := 18, attributes := #[] }, { accessFlags := 1, nameIndex := 81, descriptorIndex := 82, attributes := #[] }, { accessFlags := 1025, nameIndex := 11, descriptorIndex := 12, attributes := #[] }] 1057 2 #[53] #[{ accessFlags := 128, nameIndex := 64, descriptorIndex := 65, attributes := #[] }, { accessFlags := 128, nameIndex := 73, descriptorIndex := 74, attributes := #[] }])
  fields := #[{ name := "keySet", type := (.object "java/util/Set"), accessFlags := 128, slot := 0, constantValue := 0 }, { name := "values", type := (.object "java/util/Collection"), accessFlags := 128, slot := 1, constantValue := 0 }]
  methods := #[k12m0, k12m1, k12m2, k12m3]
  instanceTypes := #[(.object "java/util/Set"), (.object "java/util/Collection")]
  staticTypes := #[]
  resolved := Array.replicate 196 none
  statics := none }

def pool13 : Array CpInfo := pool [(1, .methodref 2 3), (0, .class_ 4), (0, .nameAndType 5 6), (0, u "java/util/AbstractMap"), (0, u "<init>"), (0, u "()V"), (9, .methodref 17 18), (0, .class_ 19), (0, .nameAndType 20 21), (0, u "java/lang/String"), (0, u "equals"), (0, u "(Ljava/lang/Object;)Z"), (1, .fieldref 24 25), (0, .class_ 26), (0, .nameAndType 27 28), (0, u "com/example/settlewatt/settlewatt/model/TraceRecord$Inputs"), (0, u "namesAndValues"), (0, u "[Ljava/lang/String;"), (0, .class_ 30), (0, u "com/example/settlewatt/settlewatt/model/TraceRecord$Inputs$1"), (0, .methodref 29 32), (0, .nameAndType 5 33), (0, u "(Lcom/example/settlewatt/settlewatt/model/TraceRecord$Inputs;)V"), (0, u "([Ljava/lang/String;)V"), (4, u "entrySet"), (0, u "()Ljava/util/Set;"), (6, .class_ 48), (0, u "com/example/settlewatt/settlewatt/model/TraceRecord")] 26

def k13c0 : Code := { maxStack := 5, maxLocals := 5, code := prog_38_method_1_code, exceptionTable := #[], attributes := #[] }
def k13m0 : Method := { name := "<init>", desc := "([Ljava/lang/String;)V", sig := { parameters := [(.array (.object "java/lang/String"))], returnType := none }, accessFlags := 0, code := some k13c0 }
def k13c1 : Code := { maxStack := 3, maxLocals := 1, code := prog_38_method_2_code, exceptionTable := #[], attributes := #[] }
def k13m1 : Method := { name := "entrySet", desc := "()Ljava/util/Set;", sig := { parameters := [], returnType := some (.object "java/util/Set") }, accessFlags := 1, code := some k13c1 }
/-- com/example/settlewatt/settlewatt/model/TraceRecord$Inputs -/
def k13 : Class := { plain "com/example/settlewatt/settlewatt/model/TraceRecord$Inputs" (some 12) with
  accessFlags := 48
  interfaces := #[]
  cf := some (fileOf pool13 24 #[.nestHost 47] #[{ accessFlags := 0, nameIndex := 5, descriptorIndex := 34, attributes := #[] }, { accessFlags := 1, nameIndex := 39, descriptorIndex := 40, attributes := #[] }] 48 2 #[] #[{ accessFlags := 18, nameIndex := 27, descriptorIndex := 28, attributes := #[] }])
  fields := #[{ name := "namesAndValues", type := (.array (.object "java/lang/String")), accessFlags := 18, slot := 2, constantValue := 0 }]
  methods := #[k13m0, k13m1]
  instanceTypes := #[(.object "java/util/Set"), (.object "java/util/Collection"), (.array (.object "java/lang/String"))]
  staticTypes := #[]
  resolved := Array.replicate 75 none
  statics := none }

def pool14 : Array CpInfo := pool [(1, .class_ 2), (0, u "java/lang/Cloneable"), (0, .class_ 4), (0, u "java/lang/Object")] 2

/-- java/lang/Cloneable -/
def k14 : Class := { plain "java/lang/Cloneable" (some 0) with
  accessFlags := 1537
  interfaces := #[]
  cf := some (fileOf pool14 1 #[] #[] 1537 3 #[] #[])
  fields := #[]
  methods := #[]
  instanceTypes := #[]
  staticTypes := #[]
  resolved := Array.replicate 7 none
  statics := none }

def pool15 : Array CpInfo := pool [(8, .class_ 10), (1, u "java/lang/Iterable"), (24, .class_ 36), (0, u "java/lang/Object")] 25

/-- java/lang/Iterable -/
def k15 : Class := { plain "java/lang/Iterable" (some 0) with
  accessFlags := 1537
  interfaces := #[]
  cf := some (fileOf pool15 8 #[] #[] 1537 35 #[] #[])
  fields := #[]
  methods := #[]
  instanceTypes := #[]
  staticTypes := #[]
  resolved := Array.replicate 62 none
  statics := none }

def pool16 : Array CpInfo := pool [(10, .class_ 12), (1, u "java/util/Collection"), (47, .class_ 61), (0, u "java/lang/Object"), (0, .class_ 63), (0, u "java/lang/Iterable")] 51

/-- java/util/Collection -/
def k16 : Class := { plain "java/util/Collection" (some 0) with
  accessFlags := 1537
  interfaces := #[15]
  cf := some (fileOf pool16 10 #[] #[] 1537 60 #[62] #[])
  fields := #[]
  methods := #[]
  instanceTypes := #[]
  staticTypes := #[]
  resolved := Array.replicate 115 none
  statics := none }

def pool17 : Array CpInfo := pool [(1, .methodref 2 3), (0, .class_ 4), (0, .nameAndType 5 6), (0, u "java/lang/Object"), (0, u "<init>"), (0, u "()V"), (1, .class_ 10), (1, u "java/util/AbstractCollection"), (66, .class_ 78), (0, u "java/util/Collection")] 81

def k17c0 : Code := { maxStack := 1, maxLocals := 1, code := jdk_22_method_1_code, exceptionTable := #[], attributes := #[] }
def k17m0 : Method := { name := "<init>", desc := "()V", sig := { parameters := [], returnType := none }, accessFlags := 4, code := some k17c0 }
/-- java/util/AbstractCollection -/
def k17 : Class := { plain "java/util/AbstractCollection" (some 0) with
  accessFlags := 1057
  interfaces := #[16]
  cf := some (fileOf pool17 8 #[] #[{ accessFlags := 4, nameIndex := 5, descriptorIndex := 6, attributes := #[] }] 1057 2 #[77] #[])
  fields := #[]
  methods := #[k17m0]
  instanceTypes := #[]
  staticTypes := #[]
  resolved := Array.replicate 160 none
  statics := none }

def pool18 : Array CpInfo := pool [(26, .class_ 27), (0, u "java/lang/Object"), (5, .class_ 34), (0, u "java/util/Set"), (1, .class_ 38), (1, u "java/util/Collection"), (18, u "size"), (0, u "()I"), (2, u "iterator"), (0, u "()Ljava/util/Iterator;")] 81

def k18m0 : Method := { name := "size", desc := "()I", sig := { parameters := [], returnType := some .int }, accessFlags := 1025, code := none }
def k18m1 : Method := { name := "iterator", desc := "()Ljava/util/Iterator;", sig := { parameters := [], returnType := some (.object "java/util/Iterator") }, accessFlags := 1025, code := none }
/-- java/util/Set -/
def k18 : Class := { plain "java/util/Set" (some 0) with
  accessFlags := 1537
  interfaces := #[16]
  cf := some (fileOf pool18 33 #[] #[{ accessFlags := 1025, nameIndex := 57, descriptorIndex := 58, attributes := #[] }, { accessFlags := 1025, nameIndex := 61, descriptorIndex := 62, attributes := #[] }] 1537 26 #[36] #[])
  fields := #[]
  methods := #[k18m0, k18m1]
  instanceTypes := #[]
  staticTypes := #[]
  resolved := Array.replicate 144 none
  statics := none }

def pool19 : Array CpInfo := pool [(1, .methodref 2 3), (0, .class_ 4), (0, .nameAndType 5 6), (0, u "java/util/AbstractCollection"), (0, u "<init>"), (0, u "()V"), (0, .class_ 8), (0, u "java/util/Set"), (7, .class_ 17), (0, u "java/util/AbstractSet")] 78

def k19c0 : Code := { maxStack := 1, maxLocals := 1, code := jdk_91_method_1_code, exceptionTable := #[], attributes := #[] }
def k19m0 : Method := { name := "<init>", desc := "()V", sig := { parameters := [], returnType := none }, accessFlags := 4, code := some k19c0 }
/-- java/util/AbstractSet -/
def k19 : Class := { plain "java/util/AbstractSet" (some 17) with
  accessFlags := 1057
  interfaces := #[18]
  cf := some (fileOf pool19 16 #[] #[{ accessFlags := 4, nameIndex := 5, descriptorIndex := 6, attributes := #[] }] 1057 2 #[7] #[])
  fields := #[]
  methods := #[k19m0]
  instanceTypes := #[]
  staticTypes := #[]
  resolved := Array.replicate 96 none
  statics := none }

def pool20 : Array CpInfo := pool [(1, .fieldref 2 3), (0, .class_ 4), (0, .nameAndType 5 6), (0, u "com/example/settlewatt/settlewatt/model/TraceRecord$Inputs$1"), (0, u "this$0"), (0, u "Lcom/example/settlewatt/settlewatt/model/TraceRecord$Inputs;"), (0, .methodref 8 9), (0, .class_ 10), (0, .nameAndType 11 12), (0, u "java/util/AbstractSet"), (0, u "<init>"), (0, u "()V"), (0, .fieldref 14 15), (0, .class_ 16), (0, .nameAndType 17 18), (0, u "com/example/settlewatt/settlewatt/model/TraceRecord$Inputs"), (0, u "namesAndValues"), (0, u "[Ljava/lang/String;"), (0, .class_ 20), (0, u "com/example/settlewatt/settlewatt/model/TraceRecord$Inputs$Entries"), (0, .methodref 19 22), (0, .nameAndType 11 23), (0, u "(Lcom/example/settlewatt/settlewatt/model/TraceRecord$Inputs;)V"), (3, u "size"), (0, u "()I"), (0, u "iterator"), (0, u "()Ljava/util/Iterator;"), (10, .class_ 42), (0, u "com/example/settlewatt/settlewatt/model/TraceRecord")] 8

def k20c0 : Code := { maxStack := 2, maxLocals := 2, code := prog_39_method_1_code, exceptionTable := #[], attributes := #[] }
def k20m0 : Method := { name := "<init>", desc := "(Lcom/example/settlewatt/settlewatt/model/TraceRecord$Inputs;)V", sig := { parameters := [(.object "com/example/settlewatt/settlewatt/model/TraceRecord$Inputs")], returnType := none }, accessFlags := 0, code := some k20c0 }
def k20c1 : Code := { maxStack := 2, maxLocals := 1, code := prog_39_method_2_code, exceptionTable := #[], attributes := #[] }
def k20m1 : Method := { name := "size", desc := "()I", sig := { parameters := [], returnType := some .int }, accessFlags := 1, code := some k20c1 }
def k20c2 : Code := { maxStack := 3, maxLocals := 1, code := prog_39_method_3_code, exceptionTable := #[], attributes := #[] }
def k20m2 : Method := { name := "iterator", desc := "()Ljava/util/Iterator;", sig := { parameters := [], returnType := some (.object "java/util/Iterator") }, accessFlags := 1, code := some k20c2 }
/-- com/example/settlewatt/settlewatt/model/TraceRecord$Inputs$1 -/
def k20 : Class := { plain "com/example/settlewatt/settlewatt/model/TraceRecord$Inputs$1" (some 19) with
  accessFlags := 32
  interfaces := #[]
  cf := some (fileOf pool20 2 #[.nestHost 41] #[{ accessFlags := 0, nameIndex := 11, descriptorIndex := 23, attributes := #[] }, { accessFlags := 1, nameIndex := 27, descriptorIndex := 28, attributes := #[] }, { accessFlags := 1, nameIndex := 29, descriptorIndex := 30, attributes := #[] }] 32 8 #[] #[{ accessFlags := 4112, nameIndex := 5, descriptorIndex := 6, attributes := #[] }])
  fields := #[{ name := "this$0", type := (.object "com/example/settlewatt/settlewatt/model/TraceRecord$Inputs"), accessFlags := 4112, slot := 0, constantValue := 0 }]
  methods := #[k20m0, k20m1, k20m2]
  instanceTypes := #[(.object "com/example/settlewatt/settlewatt/model/TraceRecord$Inputs")]
  staticTypes := #[]
  resolved := Array.replicate 51 none
  statics := none }

def pool21 : Array CpInfo := pool [(16, .class_ 18), (1, u "java/util/Iterator"), (0, u "hasNext"), (0, u "()Z"), (2, u "next"), (0, u "()Ljava/lang/Object;"), (6, .class_ 32), (0, u "java/lang/Object")] 20

def k21m0 : Method := { name := "hasNext", desc := "()Z", sig := { parameters := [], returnType := some .boolean }, accessFlags := 1025, code := none }
def k21m1 : Method := { name := "next", desc := "()Ljava/lang/Object;", sig := { parameters := [], returnType := some (.object "java/lang/Object") }, accessFlags := 1025, code := none }
/-- java/util/Iterator -/
def k21 : Class := { plain "java/util/Iterator" (some 0) with
  accessFlags := 1537
  interfaces := #[]
  cf := some (fileOf pool21 16 #[] #[{ accessFlags := 1025, nameIndex := 19, descriptorIndex := 20, attributes := #[] }, { accessFlags := 1025, nameIndex := 23, descriptorIndex := 24, attributes := #[] }] 1537 31 #[] #[])
  fields := #[]
  methods := #[k21m0, k21m1]
  instanceTypes := #[]
  staticTypes := #[]
  resolved := Array.replicate 53 none
  statics := none }

def pool22 : Array CpInfo := pool [(1, .fieldref 2 3), (0, .class_ 4), (0, .nameAndType 5 6), (0, u "com/example/settlewatt/settlewatt/model/TraceRecord$Inputs$Entries"), (0, u "this$0"), (0, u "Lcom/example/settlewatt/settlewatt/model/TraceRecord$Inputs;"), (0, .methodref 8 9), (0, .class_ 10), (0, .nameAndType 11 12), (0, u "java/lang/Object"), (0, u "<init>"), (0, u "()V"), (0, .fieldref 2 14), (0, .nameAndType 15 16), (0, u "next"), (0, u "I"), (0, .fieldref 18 19), (0, .class_ 20), (0, .nameAndType 21 22), (0, u "com/example/settlewatt/settlewatt/model/TraceRecord$Inputs"), (0, u "namesAndValues"), (0, u "[Ljava/lang/String;"), (0, .methodref 2 24), (0, .nameAndType 25 26), (0, u "hasNext"), (0, u "()Z"), (3, .class_ 31), (0, u "java/util/AbstractMap$SimpleImmutableEntry"), (0, .methodref 30 33), (0, .nameAndType 11 34), (0, u "(Ljava/lang/Object;Ljava/lang/Object;)V"), (0, .methodref 2 36), (0, .nameAndType 15 37), (0, u "()Ljava/util/Map$Entry;"), (0, .class_ 39), (0, u "java/util/Iterator"), (0, u "(Lcom/example/settlewatt/settlewatt/model/TraceRecord$Inputs;)V"), (6, u "()Ljava/lang/Object;"), (4, .class_ 53), (0, u "com/example/settlewatt/settlewatt/model/TraceRecord")] 11

def k22c0 : Code := { maxStack := 2, maxLocals := 2, code := prog_40_method_1_code, exceptionTable := #[], attributes := #[] }
def k22m0 : Method := { name := "<init>", desc := "(Lcom/example/settlewatt/settlewatt/model/TraceRecord$Inputs;)V", sig := { parameters := [(.object "com/example/settlewatt/settlewatt/model/TraceRecord$Inputs")], returnType := none }, accessFlags := 2, code := some k22c0 }
def k22c1 : Code := { maxStack := 2, maxLocals := 1, code := prog_40_method_2_code, exceptionTable := #[], attributes := #[] }
def k22m1 : Method := { name := "hasNext", desc := "()Z", sig := { parameters := [], returnType := some .boolean }, accessFlags := 1, code := some k22c1 }
def k22c2 : Code := { maxStack := 6, maxLocals := 2, code := prog_40_method_3_code, exceptionTable := #[], attributes := #[] }
def k22m2 : Method := { name := "next", desc := "()Ljava/util/Map$Entry;", sig := { parameters := [], returnType := some (.object "java/util/Map$Entry") }, accessFlags := 1, code := some k22c2 }
def k22c3 : Code := { maxStack := 1, maxLocals := 1, code := prog_40_method_4_code, exceptionTable := #[], attributes := #[] }
def k22m3 : Method := { name := "next", desc := "()Ljava/lang/Object;", sig := { parameters := [], returnType := some (.object "java/lang/Object") }, accessFlags := 4161, code := some k22c3 }
/-- com/example/settlewatt/settlewatt/model/TraceRecord$Inputs$Entries -/
def k22 : Class := { plain "com/example/settlewatt/settlewatt/model/TraceRecord$Inputs$Entries" (some 0) with
  accessFlags := 48
  interfaces := #[21]
  cf := some (fileOf pool22 2 #[.nestHost 52] #[{ accessFlags := 2, nameIndex := 11, descriptorIndex := 40, attributes := #[] }, { accessFlags := 1, nameIndex := 25, descriptorIndex := 26, attributes := #[] }, { accessFlags := 1, nameIndex := 15, descriptorIndex := 37, attributes := #[] }, { accessFlags := 4161, nameIndex := 15, descriptorIndex := 47, attributes := #[] }] 48 8 #[38] #[{ accessFlags := 2, nameIndex := 15, descriptorIndex := 16, attributes := #[] }, { accessFlags := 4112, nameIndex := 5, descriptorIndex := 6, attributes := #[] }])
  fields := #[{ name := "next", type := .int, accessFlags := 2, slot := 0, constantValue := 0 }, { name := "this$0", type := (.object "com/example/settlewatt/settlewatt/model/TraceRecord$Inputs"), accessFlags := 4112, slot := 1, constantValue := 0 }]
  methods := #[k22m0, k22m1, k22m2, k22m3]
  instanceTypes := #[.int, (.object "com/example/settlewatt/settlewatt/model/TraceRecord$Inputs")]
  staticTypes := #[]
  resolved := Array.replicate 65 none
  statics := none }

def pool23 : Array CpInfo := pool [(23, .class_ 25), (1, u "java/util/Map$Entry"), (0, u "getKey"), (0, u "()Ljava/lang/Object;"), (2, u "getValue"), (1, .class_ 34), (1, u "java/util/Map"), (34, .class_ 70), (0, u "java/lang/Object")] 107

def k23m0 : Method := { name := "getKey", desc := "()Ljava/lang/Object;", sig := { parameters := [], returnType := some (.object "java/lang/Object") }, accessFlags := 1025, code := none }
def k23m1 : Method := { name := "getValue", desc := "()Ljava/lang/Object;", sig := { parameters := [], returnType := some (.object "java/lang/Object") }, accessFlags := 1025, code := none }
/-- java/util/Map$Entry -/
def k23 : Class := { plain "java/util/Map$Entry" (some 0) with
  accessFlags := 1537
  interfaces := #[]
  cf := some (fileOf pool23 23 #[.nestHost 32] #[{ accessFlags := 1025, nameIndex := 26, descriptorIndex := 27, attributes := #[] }, { accessFlags := 1025, nameIndex := 30, descriptorIndex := 27, attributes := #[] }] 1537 69 #[] #[])
  fields := #[]
  methods := #[k23m0, k23m1]
  instanceTypes := #[]
  staticTypes := #[]
  resolved := Array.replicate 178 none
  statics := none }

def pool24 : Array CpInfo := pool [(1, .methodref 2 3), (0, .class_ 4), (0, .nameAndType 5 6), (0, u "java/lang/Object"), (0, u "<init>"), (0, u "()V"), (0, .fieldref 8 9), (0, .class_ 10), (0, .nameAndType 11 12), (0, u "java/util/AbstractMap$SimpleImmutableEntry"), (0, u "key"), (0, u "Ljava/lang/Object;"), (0, .fieldref 8 14), (0, .nameAndType 15 12), (0, u "value"), (1, .class_ 19), (1, u "java/util/Map$Entry"), (0, u "getKey"), (0, u "()Ljava/lang/Object;"), (2, u "getValue"), (4, .class_ 31), (1, u "java/util/AbstractMap"), (22, .class_ 55), (0, u "java/io/Serializable"), (0, u "serialVersionUID"), (0, u "J"), (6, u "(Ljava/lang/Object;Ljava/lang/Object;)V")] 33

def k24c0 : Code := { maxStack := 2, maxLocals := 3, code := jdk_140_method_1_code, exceptionTable := #[], attributes := #[] }
def k24m0 : Method := { name := "<init>", desc := "(Ljava/lang/Object;Ljava/lang/Object;)V", sig := { parameters := [(.object "java/lang/Object"), (.object "java/lang/Object")], returnType := none }, accessFlags := 1, code := some k24c0 }
def k24c1 : Code := { maxStack := 1, maxLocals := 1, code := jdk_140_method_3_code, exceptionTable := #[], attributes := #[] }
def k24m1 : Method := { name := "getKey", desc := "()Ljava/lang/Object;", sig := { parameters := [], returnType := some (.object "java/lang/Object") }, accessFlags := 1, code := some k24c1 }
def k24c2 : Code := { maxStack := 1, maxLocals := 1, code := jdk_140_method_4_code, exceptionTable := #[], attributes := #[] }
def k24m2 : Method := { name := "getValue", desc := "()Ljava/lang/Object;", sig := { parameters := [], returnType := some (.object "java/lang/Object") }, accessFlags := 1, code := some k24c2 }
/-- java/util/AbstractMap$SimpleImmutableEntry -/
def k24 : Class := { plain "java/util/AbstractMap$SimpleImmutableEntry" (some 0) with
  accessFlags := 33
  interfaces := #[23, 2]
  cf := some (fileOf pool24 8 #[.nestHost 29] #[{ accessFlags := 1, nameIndex := 5, descriptorIndex := 64, attributes := #[] }, { accessFlags := 1, nameIndex := 20, descriptorIndex := 21, attributes := #[] }, { accessFlags := 1, nameIndex := 24, descriptorIndex := 21, attributes := #[] }] 33 2 #[17, 54] #[{ accessFlags := 26, nameIndex := 56, descriptorIndex := 57, attributes := #[] }, { accessFlags := 18, nameIndex := 11, descriptorIndex := 12, attributes := #[] }, { accessFlags := 18, nameIndex := 15, descriptorIndex := 12, attributes := #[] }])
  fields := #[{ name := "serialVersionUID", type := .long, accessFlags := 26, slot := 0, constantValue := 0 }, { name := "key", type := (.object "java/lang/Object"), accessFlags := 18, slot := 0, constantValue := 0 }, { name := "value", type := (.object "java/lang/Object"), accessFlags := 18, slot := 1, constantValue := 0 }]
  methods := #[k24m0, k24m1, k24m2]
  instanceTypes := #[(.object "java/lang/Object"), (.object "java/lang/Object")]
  staticTypes := #[.long]
  resolved := Array.replicate 98 none
  statics := none }

def pool25 : Array CpInfo := pool [(2, .class_ 4), (1, u "java/lang/Object"), (0, u "<init>"), (0, u "()V"), (17, .class_ 26), (1, u "jdk/internal/util/Preconditions"), (28, .class_ 56), (0, u "jdk/internal/util/Preconditions$4"), (57, .class_ 115), (0, u "jdk/internal/util/Preconditions$1"), (7, u "SIOOBE_FORMATTER"), (0, u "Ljava/util/function/BiFunction;"), (0, .class_ 126), (0, u "jdk/internal/util/Preconditions$2"), (3, u "AIOOBE_FORMATTER"), (0, .class_ 132), (0, u "jdk/internal/util/Preconditions$3"), (3, u "IOOBE_FORMATTER")] 57

def k25m0 : Method := { name := "<init>", desc := "()V", sig := { parameters := [], returnType := none }, accessFlags := 1, code := none }
/-- jdk/internal/util/Preconditions -/
def k25 : Class := { plain "jdk/internal/util/Preconditions" (some 0) with
  accessFlags := 33
  interfaces := #[]
  cf := some (fileOf pool25 24 #[.nestMembers #[55, 131, 125, 114]] #[{ accessFlags := 1, nameIndex := 5, descriptorIndex := 6, attributes := #[] }] 33 2 #[] #[{ accessFlags := 25, nameIndex := 123, descriptorIndex := 124, attributes := #[] }, { accessFlags := 25, nameIndex := 130, descriptorIndex := 124, attributes := #[] }, { accessFlags := 25, nameIndex := 136, descriptorIndex := 124, attributes := #[] }])
  fields := #[{ name := "SIOOBE_FORMATTER", type := (.object "java/util/function/BiFunction"), accessFlags := 25, slot := 0, constantValue := 0 }, { name := "AIOOBE_FORMATTER", type := (.object "java/util/function/BiFunction"), accessFlags := 25, slot := 1, constantValue := 0 }, { name := "IOOBE_FORMATTER", type := (.object "java/util/function/BiFunction"), accessFlags := 25, slot := 2, constantValue := 0 }]
  methods := #[k25m0]
  instanceTypes := #[]
  staticTypes := #[(.object "java/util/function/BiFunction"), (.object "java/util/function/BiFunction"), (.object "java/util/function/BiFunction")]
  resolved := Array.replicate 194 none
  statics := some 1 }

def pool26 : Array CpInfo := pool [(9, u "<init>"), (6, .class_ 18), (1, u "java/lang/Object"), (0, u "()V"), (1, .class_ 23), (1, u "jdk/internal/util/ArraysSupport"), (0, u "LOG2_ARRAY_LONG_INDEX_SCALE"), (0, u "I"), (2, u "U"), (0, u "Ljdk/internal/misc/Unsafe;"), (8, u "BIG_ENDIAN"), (0, u "Z"), (8, u "LOG2_BYTE_BIT_SIZE"), (4, u "LOG2_ARRAY_INT_INDEX_SCALE"), (54, u "JLA"), (0, u "Ljdk/internal/access/JavaLangAccess;"), (11, u "LOG2_ARRAY_BOOLEAN_INDEX_SCALE"), (9, u "LOG2_ARRAY_BYTE_INDEX_SCALE"), (5, u "LOG2_ARRAY_CHAR_INDEX_SCALE"), (5, u "LOG2_ARRAY_SHORT_INDEX_SCALE"), (18, u "LOG2_ARRAY_FLOAT_INDEX_SCALE"), (24, u "LOG2_ARRAY_DOUBLE_INDEX_SCALE"), (89, u "T_BOOLEAN"), (2, u "T_CHAR"), (1, u "T_FLOAT"), (1, u "T_DOUBLE"), (1, u "T_BYTE"), (1, u "T_SHORT"), (1, u "T_INT"), (1, u "T_LONG"), (1, u "SOFT_MAX_ARRAY_LENGTH")] 83

def k26m0 : Method := { name := "<init>", desc := "()V", sig := { parameters := [], returnType := none }, accessFlags := 2, code := none }
/-- jdk/internal/util/ArraysSupport -/
def k26 : Class := { plain "jdk/internal/util/ArraysSupport" (some 0) with
  accessFlags := 33
  interfaces := #[]
  cf := some (fileOf pool26 21 #[] #[{ accessFlags := 2, nameIndex := 9, descriptorIndex := 19, attributes := #[] }] 33 16 #[] #[{ accessFlags := 24, nameIndex := 28, descriptorIndex := 29, attributes := #[] }, { accessFlags := 26, nameIndex := 38, descriptorIndex := 39, attributes := #[] }, { accessFlags := 25, nameIndex := 121, descriptorIndex := 25, attributes := #[] }, { accessFlags := 25, nameIndex := 131, descriptorIndex := 25, attributes := #[] }, { accessFlags := 25, nameIndex := 137, descriptorIndex := 25, attributes := #[] }, { accessFlags := 25, nameIndex := 143, descriptorIndex := 25, attributes := #[] }, { accessFlags := 25, nameIndex := 53, descriptorIndex := 25, attributes := #[] }, { accessFlags := 25, nameIndex := 24, descriptorIndex := 25, attributes := #[] }, { accessFlags := 25, nameIndex := 162, descriptorIndex := 25, attributes := #[] }, { accessFlags := 25, nameIndex := 187, descriptorIndex := 25, attributes := #[] }, { accessFlags := 26, nameIndex := 48, descriptorIndex := 25, attributes := #[] }, { accessFlags := 25, nameIndex := 277, descriptorIndex := 25, attributes := #[] }, { accessFlags := 25, nameIndex := 280, descriptorIndex := 25, attributes := #[] }, { accessFlags := 25, nameIndex := 282, descriptorIndex := 25, attributes := #[] }, { accessFlags := 25, nameIndex := 284, descriptorIndex := 25, attributes := #[] }, { accessFlags := 25, nameIndex := 286, descriptorIndex := 25, attributes := #[] }, { accessFlags := 25, nameIndex := 288, descriptorIndex := 25, attributes := #[] }, { accessFlags := 25, nameIndex := 290, descriptorIndex := 25, attributes := #[] }, { accessFlags := 25, nameIndex := 292, descriptorIndex := 25, attributes := #[] }, { accessFlags := 26, nameIndex := 108, descriptorIndex := 109, attributes := #[] }, { accessFlags := 25, nameIndex := 294, descriptorIndex := 25, attributes := #[] }])
  fields := #[{ name := "U", type := (.object "jdk/internal/misc/Unsafe"), accessFlags := 24, slot := 0, constantValue := 0 }, { name := "BIG_ENDIAN", type := .boolean, accessFlags := 26, slot := 1, constantValue := 0 }, { name := "LOG2_ARRAY_BOOLEAN_INDEX_SCALE", type := .int, accessFlags := 25, slot := 2, constantValue := 0 }, { name := "LOG2_ARRAY_BYTE_INDEX_SCALE", type := .int, accessFlags := 25, slot := 3, constantValue := 0 }, { name := "LOG2_ARRAY_CHAR_INDEX_SCALE", type := .int, accessFlags := 25, slot := 4, constantValue := 0 }, { name := "LOG2_ARRAY_SHORT_INDEX_SCALE", type := .int, accessFlags := 25, slot := 5, constantValue := 0 }, { name := "LOG2_ARRAY_INT_INDEX_SCALE", type := .int, accessFlags := 25, slot := 6, constantValue := 0 }, { name := "LOG2_ARRAY_LONG_INDEX_SCALE", type := .int, accessFlags := 25, slot := 7, constantValue := 0 }, { name := "LOG2_ARRAY_FLOAT_INDEX_SCALE", type := .int, accessFlags := 25, slot := 8, constantValue := 0 }, { name := "LOG2_ARRAY_DOUBLE_INDEX_SCALE", type := .int, accessFlags := 25, slot := 9, constantValue := 0 }, { name := "LOG2_BYTE_BIT_SIZE", type := .int, accessFlags := 26, slot := 10, constantValue := 0 }, { name := "T_BOOLEAN", type := .int, accessFlags := 25, slot := 11, constantValue := 0 }, { name := "T_CHAR", type := .int, accessFlags := 25, slot := 12, constantValue := 0 }, { name := "T_FLOAT", type := .int, accessFlags := 25, slot := 13, constantValue := 0 }, { name := "T_DOUBLE", type := .int, accessFlags := 25, slot := 14, constantValue := 0 }, { name := "T_BYTE", type := .int, accessFlags := 25, slot := 15, constantValue := 0 }, { name := "T_SHORT", type := .int, accessFlags := 25, slot := 16, constantValue := 0 }, { name := "T_INT", type := .int, accessFlags := 25, slot := 17, constantValue := 0 }, { name := "T_LONG", type := .int, accessFlags := 25, slot := 18, constantValue := 0 }, { name := "JLA", type := (.object "jdk/internal/access/JavaLangAccess"), accessFlags := 26, slot := 19, constantValue := 0 }, { name := "SOFT_MAX_ARRAY_LENGTH", type := .int, accessFlags := 25, slot := 20, constantValue := 0 }]
  methods := #[k26m0]
  instanceTypes := #[]
  staticTypes := #[(.object "jdk/internal/misc/Unsafe"), .boolean, .int, .int, .int, .int, .int, .int, .int, .int, .int, .int, .int, .int, .int, .int, .int, .int, .int, (.object "jdk/internal/access/JavaLangAccess"), .int]
  resolved := Array.replicate 378 none
  statics := none }

/-- the primitive byte -/
def k27 : Class := { plain "byte" none with kind := .primitive 'B', accessFlags := 0x411 }
/-- [B -/
def k28 : Class := { plain "[B" (some 0) with kind := .array 27 .byte, interfaces := #[14, 2], accessFlags := 1041 }

/-- the primitive int -/
def k29 : Class := { plain "int" none with kind := .primitive 'I', accessFlags := 0x411 }
/-- [I -/
def k30 : Class := { plain "[I" (some 0) with kind := .array 29 .int, interfaces := #[14, 2], accessFlags := 1041 }

/-- [Ljava/lang/String; -/
def k31 : Class := { plain "[Ljava/lang/String;" (some 0) with kind := .array 7 (.object "java/lang/String"), interfaces := #[14, 2], accessFlags := 1041 }

def heap : Heap := #[{ cls := 7, slots := #[.long 0, .int 1, .null, .int 0, .null, .int 0, .int 0], vm := .statics 7 },
  { cls := 25, slots := #[.null, .null, .null], vm := .statics 25 }]
def classes : Array Class := #[k0, k1, k2, k3, k4, k5, k6, k7, k8, k9, k10, k11, k12, k13, k14, k15, k16, k17, k18, k19, k20, k21, k22, k23, k24, k25, k26, k27, k28, k29, k30, k31]
def interned : List (Array UInt16 × Addr) := []
def slotsUsed : Nat := 10
def theMethod : MethodId := ⟨1, 2⟩
def args0 : Array Value := #[.int 5, .int 5, .int 5]
def aboutOver (below : List Frame) : State where
  vm := { classes := classes, interned := interned.toArray }
  heap := heap
  slotsUsed := slotsUsed
  threads := #[{ frames := .invoking theMethod args0 :: below }]
def below0 : List Frame := [.native { method := ⟨0, 0⟩, args := #[] }]
def about1 : State := aboutOver below0
def p0 : Program := .bare "" "" ""
def e0 : Env := launch0.env 0 0 0
theorem w_frames : about1.frames = Frame.invoking theMethod args0 :: below0 := rfl
set_option maxRecDepth 65536 in
theorem w_args : argsFit about1.vm theMethod args0 = true := by decide +kernel
set_option maxRecDepth 65536 in
theorem w_heap : heapFits about1 = true := by decide +kernel
set_option maxRecDepth 65536 in
theorem w_runnable : about1.curStatus? = some .runnable := by decide +kernel
set_option maxRecDepth 65536 in
theorem w_alone : about1.alone = true := by decide +kernel
set_option maxRecDepth 65536 in
theorem w_named : about1.methodNamed? x = some theMethod := by decide +kernel
set_option maxRecDepth 65536 in
theorem w_hears : about1.hears theMethod below0 = true := by decide +kernel
set_option maxRecDepth 65536 in
theorem w_ripe : about1.ripe theMethod args0 below0 = true := by decide +kernel
theorem w_running : about1.status = .running := rfl
set_option maxRecDepth 65536 in
theorem w_room : about1.hasRoom e0.platform room_1 = true :=
  launch0.hasRoom_least _ room_1 (by decide +kernel) (by decide +kernel) (by decide +kernel) (by decide +kernel) (by decide +kernel) (by decide +kernel)
theorem allAtoms_all (ts : List Jvm.Cond) (a : Array Jvm.Value) (st : Jvm.State) : (allAtoms ts).before a st = ts.all (fun c => c.before a st) := by
  induction ts with
  | nil => rfl
  | cons c t ih =>
    show (Jvm.Cond.and c (allAtoms t)).before a st = _
    rw [Jvm.Cond.before_and, ih, List.all_cons]
def words1 : List Jvm.Cond := Jvm.Cond.code x code maxLocals ret :: tables_1
/-- a 'code' word, met by the world's own term for the bytes: nothing is compared byte by byte -/
theorem code_word {y : MethodName} {bytes : ByteArray} {mx : Nat} {rt : Option FieldType} {a : Array Value} {s : State} {m : MethodId} {meth : Method} {c : Code} (h1 : s.methodNamed? y = some m) (h2 : s.vm.method? m = some meth) (h3 : meth.code = some c) (h4 : c.code = bytes)
    (h5 : (c.maxLocals == mx && c.exceptionTable.isEmpty && decide (c.maxStack ≤ mostOperands) && decide (meth.sig.returnType = rt) && !meth.locks && decide (parseMethodDescriptor y.desc = some meth.sig)) = true) : (Jvm.Cond.code y bytes mx rt).before a s = true := by
  simp only [Bool.and_eq_true, beq_iff_eq, Bool.not_eq_true', decide_eq_true_eq] at h5
  obtain ⟨⟨⟨⟨⟨g1, g2⟩, g3⟩, g4⟩, g5⟩, g6⟩ := h5
  simp [Cond.before, Cond.holds, Cond.value, h1, h2, h3, h4, g1, g2, g3, g4, g5, g6]
def isCode : Jvm.Cond → Bool
  | .code _ _ _ _ => true
  | _ => false
theorem all_split {L : List Jvm.Cond} {P : Jvm.Cond → Bool} (h1 : L.all (fun c => isCode c || P c) = true) (h2 : ∀ c ∈ L.filter isCode, P c = true) : L.all P = true := by
  refine List.all_eq_true.mpr fun c hc => ?_
  have h := List.all_eq_true.mp h1 c hc
  rcases Bool.eq_false_or_eq_true (isCode c) with hi | hi
  · exact h2 c (List.mem_filter.mpr ⟨hc, hi⟩)
  · simpa [hi] using h
set_option maxRecDepth 65536 in
theorem w_c0 : (Jvm.Cond.code x code maxLocals ret).before args0 about1 = true := code_word (m := ⟨1, 2⟩) (meth := k1m2) (c := k1c2) (by decide +kernel) rfl rfl rfl (by decide +kernel)
set_option maxRecDepth 65536 in
theorem w_c1 : (Jvm.Cond.code ({ cls := "java/lang/String", name := "valueOf", desc := "(C)Ljava/lang/String;" } : Jvm.MethodName) jdk_42_method_139_code (1 : Nat) (Option.some (Jvm.ClassFile.FieldType.object "java/lang/String"))).before args0 about1 = true := code_word (m := ⟨7, 2⟩) (meth := k7m2) (c := k7c2) (by decide +kernel) rfl rfl rfl (by decide +kernel)
set_option maxRecDepth 65536 in
theorem w_c2 : (Jvm.Cond.code ({ cls := "java/lang/StringLatin1", name := "canEncode", desc := "(C)Z" } : Jvm.MethodName) jdk_43_method_3_code (1 : Nat) (Option.some Jvm.ClassFile.FieldType.boolean)).before args0 about1 = true := code_word (m := ⟨8, 1⟩) (meth := k8m1) (c := k8c1) (by decide +kernel) rfl rfl rfl (by decide +kernel)
set_option maxRecDepth 65536 in
theorem w_c3 : (Jvm.Cond.code ({ cls := "java/lang/StringLatin1", name := "toBytes", desc := "(C)[B" } : Jvm.MethodName) jdk_43_method_46_code (1 : Nat) (Option.some (Jvm.ClassFile.FieldType.array Jvm.ClassFile.FieldType.byte))).before args0 about1 = true := code_word (m := ⟨8, 3⟩) (meth := k8m3) (c := k8c3) (by decide +kernel) rfl rfl rfl (by decide +kernel)
set_option maxRecDepth 65536 in
theorem w_c4 : (Jvm.Cond.code ({ cls := "java/lang/String", name := "<init>", desc := "([BB)V" } : Jvm.MethodName) jdk_42_method_151_code (3 : Nat) (Option.none : Option Jvm.ClassFile.FieldType)).before args0 about1 = true := code_word (m := ⟨7, 3⟩) (meth := k7m3) (c := k7c3) (by decide +kernel) rfl rfl rfl (by decide +kernel)
set_option maxRecDepth 65536 in
theorem w_c5 : (Jvm.Cond.code ({ cls := "java/lang/Object", name := "<init>", desc := "()V" } : Jvm.MethodName) object_method_1_code (1 : Nat) (Option.none : Option Jvm.ClassFile.FieldType)).before args0 about1 = true := code_word (m := ⟨0, 0⟩) (meth := k0m0) (c := k0c0) (by decide +kernel) rfl rfl rfl (by decide +kernel)
set_option maxRecDepth 65536 in
theorem w_c6 : (Jvm.Cond.code ({ cls := "com/example/settlewatt/settlewatt/model/TraceRecord", name := "inputsOf", desc := "([Ljava/lang/String;)Ljava/util/Map;" } : Jvm.MethodName) prog_37_method_3_code (1 : Nat) (Option.some (Jvm.ClassFile.FieldType.object "java/util/Map"))).before args0 about1 = true := code_word (m := ⟨10, 0⟩) (meth := k10m0) (c := k10c0) (by decide +kernel) rfl rfl rfl (by decide +kernel)
set_option maxRecDepth 65536 in
theorem w_c7 : (Jvm.Cond.code ({ cls := "com/example/settlewatt/settlewatt/model/TraceRecord$Inputs", name := "<init>", desc := "([Ljava/lang/String;)V" } : Jvm.MethodName) prog_38_method_1_code (5 : Nat) (Option.none : Option Jvm.ClassFile.FieldType)).before args0 about1 = true := code_word (m := ⟨13, 0⟩) (meth := k13m0) (c := k13c0) (by decide +kernel) rfl rfl rfl (by decide +kernel)
set_option maxRecDepth 65536 in
theorem w_c8 : (Jvm.Cond.code ({ cls := "java/util/AbstractMap", name := "<init>", desc := "()V" } : Jvm.MethodName) jdk_71_method_1_code (1 : Nat) (Option.none : Option Jvm.ClassFile.FieldType)).before args0 about1 = true := code_word (m := ⟨12, 0⟩) (meth := k12m0) (c := k12c0) (by decide +kernel) rfl rfl rfl (by decide +kernel)
set_option maxRecDepth 65536 in
theorem w_c9 : (Jvm.Cond.code ({ cls := "java/util/AbstractMap", name := "size", desc := "()I" } : Jvm.MethodName) jdk_71_method_2_code (1 : Nat) (Option.some Jvm.ClassFile.FieldType.int)).before args0 about1 = true := code_word (m := ⟨12, 1⟩) (meth := k12m1) (c := k12c1) (by decide +kernel) rfl rfl rfl (by decide +kernel)
set_option maxRecDepth 65536 in
theorem w_c10 : (Jvm.Cond.code ({ cls := "com/example/settlewatt/settlewatt/model/TraceRecord$Inputs", name := "entrySet", desc := "()Ljava/util/Set;" } : Jvm.MethodName) prog_38_method_2_code (1 : Nat) (Option.some (Jvm.ClassFile.FieldType.object "java/util/Set"))).before args0 about1 = true := code_word (m := ⟨13, 1⟩) (meth := k13m1) (c := k13c1) (by decide +kernel) rfl rfl rfl (by decide +kernel)
set_option maxRecDepth 65536 in
theorem w_c11 : (Jvm.Cond.code ({ cls := "com/example/settlewatt/settlewatt/model/TraceRecord$Inputs$1", name := "<init>", desc := "(Lcom/example/settlewatt/settlewatt/model/TraceRecord$Inputs;)V" } : Jvm.MethodName) prog_39_method_1_code (2 : Nat) (Option.none : Option Jvm.ClassFile.FieldType)).before args0 about1 = true := code_word (m := ⟨20, 0⟩) (meth := k20m0) (c := k20c0) (by decide +kernel) rfl rfl rfl (by decide +kernel)
set_option maxRecDepth 65536 in
theorem w_c12 : (Jvm.Cond.code ({ cls := "java/util/AbstractSet", name := "<init>", desc := "()V" } : Jvm.MethodName) jdk_91_method_1_code (1 : Nat) (Option.none : Option Jvm.ClassFile.FieldType)).before args0 about1 = true := code_word (m := ⟨19, 0⟩) (meth := k19m0) (c := k19c0) (by decide +kernel) rfl rfl rfl (by decide +kernel)
set_option maxRecDepth 65536 in
theorem w_c13 : (Jvm.Cond.code ({ cls := "java/util/AbstractCollection", name := "<init>", desc := "()V" } : Jvm.MethodName) jdk_22_method_1_code (1 : Nat) (Option.none : Option Jvm.ClassFile.FieldType)).before args0 about1 = true := code_word (m := ⟨17, 0⟩) (meth := k17m0) (c := k17c0) (by decide +kernel) rfl rfl rfl (by decide +kernel)
set_option maxRecDepth 65536 in
theorem w_c14 : (Jvm.Cond.code ({ cls := "com/example/settlewatt/settlewatt/model/TraceRecord$Inputs$1", name := "size", desc := "()I" } : Jvm.MethodName) prog_39_method_2_code (1 : Nat) (Option.some Jvm.ClassFile.FieldType.int)).before args0 about1 = true := code_word (m := ⟨20, 1⟩) (meth := k20m1) (c := k20c1) (by decide +kernel) rfl rfl rfl (by decide +kernel)
set_option maxRecDepth 65536 in
theorem w_c15 : (Jvm.Cond.code ({ cls := "com/example/settlewatt/settlewatt/model/TraceRecordInputsOfPinLaw", name := "has", desc := "(Ljava/util/Map;Ljava/lang/String;Ljava/lang/String;Z)Z" } : Jvm.MethodName) method_2_code (5 : Nat) (Option.some Jvm.ClassFile.FieldType.boolean)).before args0 about1 = true := code_word (m := ⟨1, 1⟩) (meth := k1m1) (c := k1c1) (by decide +kernel) rfl rfl rfl (by decide +kernel)
set_option maxRecDepth 65536 in
theorem w_c16 : (Jvm.Cond.code ({ cls := "java/util/AbstractMap", name := "get", desc := "(Ljava/lang/Object;)Ljava/lang/Object;" } : Jvm.MethodName) jdk_71_method_6_code (4 : Nat) (Option.some (Jvm.ClassFile.FieldType.object "java/lang/Object"))).before args0 about1 = true := code_word (m := ⟨12, 2⟩) (meth := k12m2) (c := k12c2) (by decide +kernel) rfl rfl rfl (by decide +kernel)
set_option maxRecDepth 65536 in
theorem w_c17 : (Jvm.Cond.code ({ cls := "com/example/settlewatt/settlewatt/model/TraceRecord$Inputs$1", name := "iterator", desc := "()Ljava/util/Iterator;" } : Jvm.MethodName) prog_39_method_3_code (1 : Nat) (Option.some (Jvm.ClassFile.FieldType.object "java/util/Iterator"))).before args0 about1 = true := code_word (m := ⟨20, 2⟩) (meth := k20m2) (c := k20c2) (by decide +kernel) rfl rfl rfl (by decide +kernel)
set_option maxRecDepth 65536 in
theorem w_c18 : (Jvm.Cond.code ({ cls := "com/example/settlewatt/settlewatt/model/TraceRecord$Inputs$Entries", name := "<init>", desc := "(Lcom/example/settlewatt/settlewatt/model/TraceRecord$Inputs;)V" } : Jvm.MethodName) prog_40_method_1_code (2 : Nat) (Option.none : Option Jvm.ClassFile.FieldType)).before args0 about1 = true := code_word (m := ⟨22, 0⟩) (meth := k22m0) (c := k22c0) (by decide +kernel) rfl rfl rfl (by decide +kernel)
set_option maxRecDepth 65536 in
theorem w_c19 : (Jvm.Cond.code ({ cls := "com/example/settlewatt/settlewatt/model/TraceRecord$Inputs$Entries", name := "hasNext", desc := "()Z" } : Jvm.MethodName) prog_40_method_2_code (1 : Nat) (Option.some Jvm.ClassFile.FieldType.boolean)).before args0 about1 = true := code_word (m := ⟨22, 1⟩) (meth := k22m1) (c := k22c1) (by decide +kernel) rfl rfl rfl (by decide +kernel)
set_option maxRecDepth 65536 in
theorem w_c20 : (Jvm.Cond.code ({ cls := "com/example/settlewatt/settlewatt/model/TraceRecord$Inputs$Entries", name := "next", desc := "()Ljava/lang/Object;" } : Jvm.MethodName) prog_40_method_4_code (1 : Nat) (Option.some (Jvm.ClassFile.FieldType.object "java/lang/Object"))).before args0 about1 = true := code_word (m := ⟨22, 3⟩) (meth := k22m3) (c := k22c3) (by decide +kernel) rfl rfl rfl (by decide +kernel)
set_option maxRecDepth 65536 in
theorem w_c21 : (Jvm.Cond.code ({ cls := "com/example/settlewatt/settlewatt/model/TraceRecord$Inputs$Entries", name := "next", desc := "()Ljava/util/Map$Entry;" } : Jvm.MethodName) prog_40_method_3_code (2 : Nat) (Option.some (Jvm.ClassFile.FieldType.object "java/util/Map$Entry"))).before args0 about1 = true := code_word (m := ⟨22, 2⟩) (meth := k22m2) (c := k22c2) (by decide +kernel) rfl rfl rfl (by decide +kernel)
set_option maxRecDepth 65536 in
theorem w_c22 : (Jvm.Cond.code ({ cls := "java/util/AbstractMap$SimpleImmutableEntry", name := "<init>", desc := "(Ljava/lang/Object;Ljava/lang/Object;)V" } : Jvm.MethodName) jdk_140_method_1_code (3 : Nat) (Option.none : Option Jvm.ClassFile.FieldType)).before args0 about1 = true := code_word (m := ⟨24, 0⟩) (meth := k24m0) (c := k24c0) (by decide +kernel) rfl rfl rfl (by decide +kernel)
set_option maxRecDepth 65536 in
theorem w_c23 : (Jvm.Cond.code ({ cls := "java/util/AbstractMap$SimpleImmutableEntry", name := "getKey", desc := "()Ljava/lang/Object;" } : Jvm.MethodName) jdk_140_method_3_code (1 : Nat) (Option.some (Jvm.ClassFile.FieldType.object "java/lang/Object"))).before args0 about1 = true := code_word (m := ⟨24, 1⟩) (meth := k24m1) (c := k24c1) (by decide +kernel) rfl rfl rfl (by decide +kernel)
set_option maxRecDepth 65536 in
theorem w_c24 : (Jvm.Cond.code ({ cls := "java/lang/String", name := "equals", desc := "(Ljava/lang/Object;)Z" } : Jvm.MethodName) jdk_42_method_66_code (3 : Nat) (Option.some Jvm.ClassFile.FieldType.boolean)).before args0 about1 = true := code_word (m := ⟨7, 1⟩) (meth := k7m1) (c := k7c1) (by decide +kernel) rfl rfl rfl (by decide +kernel)
set_option maxRecDepth 65536 in
theorem w_c25 : (Jvm.Cond.code ({ cls := "java/util/AbstractMap$SimpleImmutableEntry", name := "getValue", desc := "()Ljava/lang/Object;" } : Jvm.MethodName) jdk_140_method_4_code (1 : Nat) (Option.some (Jvm.ClassFile.FieldType.object "java/lang/Object"))).before args0 about1 = true := code_word (m := ⟨24, 2⟩) (meth := k24m2) (c := k24c2) (by decide +kernel) rfl rfl rfl (by decide +kernel)
set_option maxRecDepth 65536 in
theorem w_c26 : (Jvm.Cond.code ({ cls := "java/lang/StringLatin1", name := "equals", desc := "([B[B)Z" } : Jvm.MethodName) jdk_43_method_13_code (3 : Nat) (Option.some Jvm.ClassFile.FieldType.boolean)).before args0 about1 = true := code_word (m := ⟨8, 2⟩) (meth := k8m2) (c := k8c2) (by decide +kernel) rfl rfl rfl (by decide +kernel)
def codes1 : List Jvm.Cond := [Jvm.Cond.code x code maxLocals ret, Jvm.Cond.code ({ cls := "java/lang/String", name := "valueOf", desc := "(C)Ljava/lang/String;" } : Jvm.MethodName) jdk_42_method_139_code (1 : Nat) (Option.some (Jvm.ClassFile.FieldType.object "java/lang/String")), Jvm.Cond.code ({ cls := "java/lang/StringLatin1", name := "canEncode", desc := "(C)Z" } : Jvm.MethodName) jdk_43_method_3_code (1 : Nat) (Option.some Jvm.ClassFile.FieldType.boolean), Jvm.Cond.code ({ cls := "java/lang/StringLatin1", name := "toBytes", desc := "(C)[B" } : Jvm.MethodName) jdk_43_method_46_code (1 : Nat) (Option.some (Jvm.ClassFile.FieldType.array Jvm.ClassFile.FieldType.byte)), Jvm.Cond.code ({ cls := "java/lang/String", name := "<init>", desc := "([BB)V" } : Jvm.MethodName) jdk_42_method_151_code (3 : Nat) (Option.none : Option Jvm.ClassFile.FieldType), Jvm.Cond.code ({ cls := "java/lang/Object", name := "<init>", desc := "()V" } : Jvm.MethodName) object_method_1_code (1 : Nat) (Option.none : Option Jvm.ClassFile.FieldType), Jvm.Cond.code ({ cls := "com/example/settlewatt/settlewatt/model/TraceRecord", name := "inputsOf", desc := "([Ljava/lang/String;)Ljava/util/Map;" } : Jvm.MethodName) prog_37_method_3_code (1 : Nat) (Option.some (Jvm.ClassFile.FieldType.object "java/util/Map")), Jvm.Cond.code ({ cls := "com/example/settlewatt/settlewatt/model/TraceRecord$Inputs", name := "<init>", desc := "([Ljava/lang/String;)V" } : Jvm.MethodName) prog_38_method_1_code (5 : Nat) (Option.none : Option Jvm.ClassFile.FieldType), Jvm.Cond.code ({ cls := "java/util/AbstractMap", name := "<init>", desc := "()V" } : Jvm.MethodName) jdk_71_method_1_code (1 : Nat) (Option.none : Option Jvm.ClassFile.FieldType), Jvm.Cond.code ({ cls := "java/util/AbstractMap", name := "size", desc := "()I" } : Jvm.MethodName) jdk_71_method_2_code (1 : Nat) (Option.some Jvm.ClassFile.FieldType.int), Jvm.Cond.code ({ cls := "com/example/settlewatt/settlewatt/model/TraceRecord$Inputs", name := "entrySet", desc := "()Ljava/util/Set;" } : Jvm.MethodName) prog_38_method_2_code (1 : Nat) (Option.some (Jvm.ClassFile.FieldType.object "java/util/Set")), Jvm.Cond.code ({ cls := "com/example/settlewatt/settlewatt/model/TraceRecord$Inputs$1", name := "<init>", desc := "(Lcom/example/settlewatt/settlewatt/model/TraceRecord$Inputs;)V" } : Jvm.MethodName) prog_39_method_1_code (2 : Nat) (Option.none : Option Jvm.ClassFile.FieldType), Jvm.Cond.code ({ cls := "java/util/AbstractSet", name := "<init>", desc := "()V" } : Jvm.MethodName) jdk_91_method_1_code (1 : Nat) (Option.none : Option Jvm.ClassFile.FieldType), Jvm.Cond.code ({ cls := "java/util/AbstractCollection", name := "<init>", desc := "()V" } : Jvm.MethodName) jdk_22_method_1_code (1 : Nat) (Option.none : Option Jvm.ClassFile.FieldType), Jvm.Cond.code ({ cls := "com/example/settlewatt/settlewatt/model/TraceRecord$Inputs$1", name := "size", desc := "()I" } : Jvm.MethodName) prog_39_method_2_code (1 : Nat) (Option.some Jvm.ClassFile.FieldType.int), Jvm.Cond.code ({ cls := "com/example/settlewatt/settlewatt/model/TraceRecordInputsOfPinLaw", name := "has", desc := "(Ljava/util/Map;Ljava/lang/String;Ljava/lang/String;Z)Z" } : Jvm.MethodName) method_2_code (5 : Nat) (Option.some Jvm.ClassFile.FieldType.boolean), Jvm.Cond.code ({ cls := "java/util/AbstractMap", name := "get", desc := "(Ljava/lang/Object;)Ljava/lang/Object;" } : Jvm.MethodName) jdk_71_method_6_code (4 : Nat) (Option.some (Jvm.ClassFile.FieldType.object "java/lang/Object")), Jvm.Cond.code ({ cls := "com/example/settlewatt/settlewatt/model/TraceRecord$Inputs$1", name := "iterator", desc := "()Ljava/util/Iterator;" } : Jvm.MethodName) prog_39_method_3_code (1 : Nat) (Option.some (Jvm.ClassFile.FieldType.object "java/util/Iterator")), Jvm.Cond.code ({ cls := "com/example/settlewatt/settlewatt/model/TraceRecord$Inputs$Entries", name := "<init>", desc := "(Lcom/example/settlewatt/settlewatt/model/TraceRecord$Inputs;)V" } : Jvm.MethodName) prog_40_method_1_code (2 : Nat) (Option.none : Option Jvm.ClassFile.FieldType), Jvm.Cond.code ({ cls := "com/example/settlewatt/settlewatt/model/TraceRecord$Inputs$Entries", name := "hasNext", desc := "()Z" } : Jvm.MethodName) prog_40_method_2_code (1 : Nat) (Option.some Jvm.ClassFile.FieldType.boolean), Jvm.Cond.code ({ cls := "com/example/settlewatt/settlewatt/model/TraceRecord$Inputs$Entries", name := "next", desc := "()Ljava/lang/Object;" } : Jvm.MethodName) prog_40_method_4_code (1 : Nat) (Option.some (Jvm.ClassFile.FieldType.object "java/lang/Object")), Jvm.Cond.code ({ cls := "com/example/settlewatt/settlewatt/model/TraceRecord$Inputs$Entries", name := "next", desc := "()Ljava/util/Map$Entry;" } : Jvm.MethodName) prog_40_method_3_code (2 : Nat) (Option.some (Jvm.ClassFile.FieldType.object "java/util/Map$Entry")), Jvm.Cond.code ({ cls := "java/util/AbstractMap$SimpleImmutableEntry", name := "<init>", desc := "(Ljava/lang/Object;Ljava/lang/Object;)V" } : Jvm.MethodName) jdk_140_method_1_code (3 : Nat) (Option.none : Option Jvm.ClassFile.FieldType), Jvm.Cond.code ({ cls := "java/util/AbstractMap$SimpleImmutableEntry", name := "getKey", desc := "()Ljava/lang/Object;" } : Jvm.MethodName) jdk_140_method_3_code (1 : Nat) (Option.some (Jvm.ClassFile.FieldType.object "java/lang/Object")), Jvm.Cond.code ({ cls := "java/lang/String", name := "equals", desc := "(Ljava/lang/Object;)Z" } : Jvm.MethodName) jdk_42_method_66_code (3 : Nat) (Option.some Jvm.ClassFile.FieldType.boolean), Jvm.Cond.code ({ cls := "java/util/AbstractMap$SimpleImmutableEntry", name := "getValue", desc := "()Ljava/lang/Object;" } : Jvm.MethodName) jdk_140_method_4_code (1 : Nat) (Option.some (Jvm.ClassFile.FieldType.object "java/lang/Object")), Jvm.Cond.code ({ cls := "java/lang/StringLatin1", name := "equals", desc := "([B[B)Z" } : Jvm.MethodName) jdk_43_method_13_code (3 : Nat) (Option.some Jvm.ClassFile.FieldType.boolean)]
set_option maxRecDepth 65536 in
theorem codes_eq : words1.filter isCode = codes1 := rfl
theorem w_codes : ∀ c ∈ words1.filter isCode, c.before args0 about1 = true := by
  rw [codes_eq]
  intro c hc
  simp only [codes1, List.mem_cons, List.not_mem_nil, or_false] at hc
  rcases hc with rfl | rfl | rfl | rfl | rfl | rfl | rfl | rfl | rfl | rfl | rfl | rfl | rfl | rfl | rfl | rfl | rfl | rfl | rfl | rfl | rfl | rfl | rfl | rfl | rfl | rfl | rfl
  · exact w_c0
  · exact w_c1
  · exact w_c2
  · exact w_c3
  · exact w_c4
  · exact w_c5
  · exact w_c6
  · exact w_c7
  · exact w_c8
  · exact w_c9
  · exact w_c10
  · exact w_c11
  · exact w_c12
  · exact w_c13
  · exact w_c14
  · exact w_c15
  · exact w_c16
  · exact w_c17
  · exact w_c18
  · exact w_c19
  · exact w_c20
  · exact w_c21
  · exact w_c22
  · exact w_c23
  · exact w_c24
  · exact w_c25
  · exact w_c26
set_option maxRecDepth 65536 in
theorem w_t1 : (words1.take 24).all (fun c => isCode c || c.before args0 about1) = true := by decide +kernel
set_option maxRecDepth 65536 in
theorem w_t2 : ((words1.drop 24).take 24).all (fun c => isCode c || c.before args0 about1) = true := by decide +kernel
set_option maxRecDepth 65536 in
theorem w_t3 : (((words1.drop 24).drop 24).take 24).all (fun c => isCode c || c.before args0 about1) = true := by decide +kernel
set_option maxRecDepth 65536 in
theorem w_t4 : ((((words1.drop 24).drop 24).drop 24).take 24).all (fun c => isCode c || c.before args0 about1) = true := by decide +kernel
set_option maxRecDepth 65536 in
theorem w_t5 : (((((words1.drop 24).drop 24).drop 24).drop 24).take 24).all (fun c => isCode c || c.before args0 about1) = true := by decide +kernel
set_option maxRecDepth 65536 in
theorem w_t6 : ((((((words1.drop 24).drop 24).drop 24).drop 24).drop 24).take 24).all (fun c => isCode c || c.before args0 about1) = true := by decide +kernel
set_option maxRecDepth 65536 in
theorem w_t7 : (((((((words1.drop 24).drop 24).drop 24).drop 24).drop 24).drop 24).take 24).all (fun c => isCode c || c.before args0 about1) = true := by decide +kernel
set_option maxRecDepth 65536 in
theorem w_t8 : ((((((((words1.drop 24).drop 24).drop 24).drop 24).drop 24).drop 24).drop 24).take 24).all (fun c => isCode c || c.before args0 about1) = true := by decide +kernel
set_option maxRecDepth 65536 in
theorem w_t9 : ((((((((words1.drop 24).drop 24).drop 24).drop 24).drop 24).drop 24).drop 24).drop 24).all (fun c => isCode c || c.before args0 about1) = true := by decide +kernel
theorem w_tables : (allAtoms (Jvm.Cond.code x code maxLocals ret :: tables_1)).before args0 about1 = true := by
  rw [allAtoms_all]
  show words1.all (fun c => c.before args0 about1) = true
  refine all_split ?_ w_codes
  rw [← List.take_append_drop 24 words1, List.all_append, w_t1, ← List.take_append_drop 24 (words1.drop 24), List.all_append, w_t2, ← List.take_append_drop 24 ((words1.drop 24).drop 24), List.all_append, w_t3, ← List.take_append_drop 24 (((words1.drop 24).drop 24).drop 24), List.all_append, w_t4, ← List.take_append_drop 24 ((((words1.drop 24).drop 24).drop 24).drop 24), List.all_append, w_t5, ← List.take_append_drop 24 (((((words1.drop 24).drop 24).drop 24).drop 24).drop 24), List.all_append, w_t6, ← List.take_append_drop 24 ((((((words1.drop 24).drop 24).drop 24).drop 24).drop 24).drop 24), List.all_append, w_t7, ← List.take_append_drop 24 (((((((words1.drop 24).drop 24).drop 24).drop 24).drop 24).drop 24).drop 24), List.all_append, w_t8, w_t9]
  rfl
set_option maxRecDepth 65536 in
theorem w_rest : rest_1_c.before args0 about1 = true := by decide +kernel
set_option maxRecDepth 65536 in
theorem w_case : (Jvm.Cond.and given_1 narrow_1).before args0 about1 = true := by decide +kernel
theorem w_applies : (headSpec (Jvm.Cond.code x code maxLocals ret :: tables_1) room_1).applies x e0.platform about1 = true :=
  (Spec.applies_iff w_frames).mpr ⟨w_running, w_runnable, w_alone, w_named, w_hears, w_ripe, w_room, w_tables⟩
theorem atStart : AtStart classFile x code maxLocals ret World_1 tables_1 room_1 Calls_1 rest_1 Pre_1 launch0 p0 e0 about1 theMethod args0 below0 :=
  ⟨lists_1, trivial, launch0.admits_env _ _ _, launch0.least_env, fairChoices_fair.cas, fairChoices_fair.clock, w_frames, w_args, w_heap, w_applies, trivial, w_rest, w_case⟩
end start1
theorem witness_1 : WitnessClaimed_1 := ⟨start1.p0, start1.e0, start1.about1, start1.theMethod, start1.args0, start1.below0, start1.atStart⟩
end Jvm.Pilot.@@N@@
