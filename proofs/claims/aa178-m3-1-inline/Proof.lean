import JvmDerived
import JvmDerived.Pilot.@@N@@Statement
import JvmDerived.Pilot.@@N@@Code
set_option linter.unusedVariables false
set_option linter.unusedSimpArgs false
/- laws to paste: Road.lenW, Road.chN, Road.codOf (cut by pick.py; bodies as the Statement names them) -/
namespace Jvm.Pilot.@@N@@
namespace StrChars
open Jvm Sem ClassFile Op Lib Jvm.Stand Jvm.Free.XT Jvm.Free.ALB Jvm.Free.JM Jvm.Free
open Jvm.Lib.Cold (StaticIs)
def lo8 (x : Int32) : Int32 := x.toInt8.toInt32
theorem lo8_mask {x : Int32} (h0 : ¬ x < 0) (h1 : ¬ 255 < x) : lo8 x &&& 255 = x := by
  have t : ∀ k : Fin 256, lo8 (Int32.ofNat k.val) &&& 255 = Int32.ofNat k.val := by decide +kernel
  rw [Int32.lt_iff_toInt_lt] at h0 h1
  have e0 : (0 : Int32).toInt = 0 := rfl
  have e1 : (255 : Int32).toInt = 255 := rfl
  obtain ⟨k, hk⟩ : ∃ k : Nat, x.toInt = k := ⟨x.toInt.toNat, by omega⟩
  have hx : x = Int32.ofNat k := Int32.toInt_inj.mp (by rw [hk, Int32.toInt_ofNat_small (by omega)])
  rw [hx]
  exact t ⟨k, by omega⟩
end StrChars
namespace StrChars.Road
open Jvm Sem ClassFile Op Lib Jvm.Stand Jvm.Free Jvm.Free.XT
open Jvm.Lib.Cold (StaticIs)
abbrev ST : String := "java/lang/String"
end StrChars.Road
namespace StrChars
open Jvm Sem ClassFile Op Lib Jvm.Stand Jvm.Free.XT Jvm.Free.ALB Jvm.Free.JM Jvm.Free
open Jvm.Lib.Cold (StaticIs)
def hi8 (x : Int32) : Int32 := lo8 (x >>> ((8 : Int32) &&& 31))
def pairCh (u v : Int32) : Int32 := (((u &&& 255) <<< ((0 : Int32) &&& 31)) ||| ((v &&& 255) <<< ((8 : Int32) &&& 31))).toUInt32.toUInt16.toUInt32.toInt32
theorem shr0 (c : Int32) : c >>> ((0 : Int32) &&& 31) = c := by
  have e : ((0 : Int32) &&& 31) = 0 := by decide
  rw [e]
  apply Int32.toBitVec_inj.mp
  rw [Int32.toBitVec_shiftRight]
  have e1 : ((0 : Int32).toBitVec.smod 32) = 0#32 := by decide
  rw [e1, BitVec.sshiftRight_eq']
  exact BitVec.sshiftRight_zero
theorem lo8_and (x : Int32) : (lo8 x &&& 255).toBitVec.toNat = x.toBitVec.toNat % 256 := by
  have h : (lo8 x).toBitVec = (x.toBitVec.signExtend 8).signExtend 32 := by rw [lo8, Int8.toBitVec_toInt32, Int32.toBitVec_toInt8]
  rw [Int32.toBitVec_and, BitVec.toNat_and, h]
  have e : ((x.toBitVec.signExtend 8).signExtend 32).toNat % 256 = x.toBitVec.toNat % 256 := by
    rw [BitVec.toNat_signExtend]
    have hlt := x.toBitVec.isLt
    simp only [BitVec.toNat_setWidth, BitVec.toNat_signExtend]
    split <;> split <;> omega
  rw [← e]
  exact Nat.and_two_pow_sub_one_eq_mod _ 8
theorem pair_says {c : Int32} (h0 : ¬ c < 0) (h1 : ¬ 65535 < c) : pairCh (lo8 c) (hi8 c) = c := by
  rw [Int32.lt_iff_toInt_lt] at h0 h1
  have e0 : (0 : Int32).toInt = 0 := rfl
  have e1 : (65535 : Int32).toInt = 65535 := rfl
  have hc : c.toInt = c.toBitVec.toNat := by
    have := c.toBitVec.isLt
    have e : c.toInt = c.toBitVec.toInt := rfl
    rw [e] at h0 h1
    rw [e]
    rw [BitVec.toInt_eq_toNat_cond] at h0 h1 ⊢
    split at h0 <;> split <;> omega
  have hn : c.toBitVec.toNat < 65536 := by omega
  have a1 := lo8_and c
  have a2 : (hi8 c &&& 255).toBitVec.toNat = c.toBitVec.toNat / 256 := by
    rw [hi8, lo8_and]
    have e : ((8 : Int32) &&& 31) = 8 := by decide
    rw [e, Int32.toBitVec_shiftRight]
    have e2 : ((8 : Int32).toBitVec.smod 32) = 8#32 := by decide
    rw [e2, BitVec.sshiftRight_eq', BitVec.toNat_sshiftRight_of_msb_false (by rw [BitVec.msb_eq_false_iff_two_mul_lt]; omega)]
    show c.toBitVec.toNat >>> 8 % 256 = _
    rw [Nat.shiftRight_eq_div_pow]
    omega
  unfold pairCh
  apply Int32.toBitVec_inj.mp
  apply BitVec.eq_of_toNat_eq
  have f0 : ((0 : Int32) &&& 31) = 0 := by decide
  have f8 : ((8 : Int32) &&& 31) = 8 := by decide
  rw [f0, f8]
  have g : (((lo8 c &&& 255) <<< (0 : Int32)) ||| ((hi8 c &&& 255) <<< (8 : Int32))).toBitVec.toNat = c.toBitVec.toNat := by
    rw [Int32.toBitVec_or, Int32.toBitVec_shiftLeft, Int32.toBitVec_shiftLeft]
    have s0 : ((0 : Int32).toBitVec.smod 32) = 0#32 := by decide
    have s8 : ((8 : Int32).toBitVec.smod 32) = 8#32 := by decide
    rw [s0, s8, BitVec.toNat_or]
    simp only [BitVec.shiftLeft_eq', BitVec.toNat_shiftLeft, a1, a2]
    show (c.toBitVec.toNat % 256) <<< 0 % 2 ^ 32 ||| (c.toBitVec.toNat / 256) <<< 8 % 2 ^ 32 = _
    rw [Nat.shiftLeft_zero, Nat.mod_eq_of_lt (show c.toBitVec.toNat % 256 < 2 ^ 32 by omega), Nat.mod_eq_of_lt (show (c.toBitVec.toNat / 256) <<< 8 < 2 ^ 32 by rw [Nat.shiftLeft_eq]; omega), Nat.or_comm, ← Nat.shiftLeft_add_eq_or_of_lt (by omega), Nat.shiftLeft_eq]
    omega
  show BitVec.toNat (((((lo8 c &&& 255) <<< (0 : Int32)) ||| ((hi8 c &&& 255) <<< (8 : Int32))).toBitVec.setWidth 16).setWidth 32) = _
  rw [BitVec.toNat_setWidth, BitVec.toNat_setWidth, g]
  omega
end StrChars
namespace StrChars
open Jvm Sem ClassFile Op Lib Jvm.Stand Jvm.Free.XT Jvm.Free.ALB Jvm.Free.JM Jvm.Free
open Jvm.Lib.Cold (StaticIs)
theorem shr1 {n : Nat} (h : 2 * n < 2 ^ 31) : Int32.ofNat (2 * n) >>> ((1 : Int32) &&& 31) = Int32.ofNat n := by
  have e : ((1 : Int32) &&& 31) = 1 := by decide
  rw [e]
  apply Int32.toBitVec_inj.mp
  rw [Int32.toBitVec_shiftRight]
  have e1 : ((1 : Int32).toBitVec.smod 32) = 1#32 := by decide
  have hm : (BitVec.ofNat 32 (2 * n)).toNat = 2 * n := by rw [BitVec.toNat_ofNat, Nat.mod_eq_of_lt (by omega)]
  rw [e1, BitVec.sshiftRight_eq']
  apply BitVec.eq_of_toNat_eq
  show ((BitVec.ofNat 32 (2 * n)).sshiftRight 1).toNat = (BitVec.ofNat 32 n).toNat
  rw [BitVec.toNat_sshiftRight_of_msb_false (by rw [BitVec.msb_eq_false_iff_two_mul_lt, hm]; omega), hm, BitVec.toNat_ofNat, Nat.shiftRight_eq_div_pow]
  omega
def chr8 (u : Int32) : Int32 := (u &&& 255).toUInt32.toUInt16.toUInt32.toInt32
theorem chr8_lo8 {c : Int32} (h0 : ¬ c < 0) (h1 : ¬ 255 < c) : chr8 (lo8 c) = c := by
  have t : ∀ k : Fin 256, (Int32.ofNat k.val).toUInt32.toUInt16.toUInt32.toInt32 = Int32.ofNat k.val := by decide +kernel
  unfold chr8
  rw [lo8_mask h0 h1]
  rw [Int32.lt_iff_toInt_lt] at h0 h1
  have e0 : (0 : Int32).toInt = 0 := rfl
  have e1 : (255 : Int32).toInt = 255 := rfl
  obtain ⟨k, hk⟩ : ∃ k : Nat, c.toInt = k := ⟨c.toInt.toNat, by omega⟩
  have hx : c = Int32.ofNat k := Int32.toInt_inj.mp (by rw [hk, Int32.toInt_ofNat_small (by omega)])
  rw [hx]
  exact t ⟨k, by omega⟩
theorem narrow_ch {c : Int32} (h0 : ¬ c < 0) (h1 : ¬ 65535 < c) : narrow .char (.int c) = .int c := by
  have q : narrow .char (.int (pairCh (lo8 c) (hi8 c))) = .int (pairCh (lo8 c) (hi8 c)) := narrow_c _
  rwa [pair_says h0 h1] at q
def Cod (cd : Int32) (n : Nat) (f : Nat → Int32) (V : Cell) : Prop := (cd = 0 ∧ V.slots.size = n ∧ ∀ j, j < n → V.slots[j]? = some (.int (lo8 (f j))) ∧ ¬ 255 < f j) ∨ (cd = 1 ∧ V.slots.size = 2 * n ∧ (∀ j, j < n → V.slots[2 * j]? = some (.int (lo8 (f j))) ∧ V.slots[2 * j + 1]? = some (.int (hi8 (f j)))) ∧ ∃ j, j < n ∧ 255 < f j)
theorem Cod.cd {cd : Int32} {n : Nat} {f : Nat → Int32} {V : Cell} (h : Cod cd n f V) : cd = 0 ∨ cd = 1 := h.imp (fun q => q.1) fun q => q.1
theorem Cod.len {cd : Int32} {n : Nat} {f : Nat → Int32} {V : Cell} (h : Cod cd n f V) (hs : V.slots.size < 2 ^ 31) : Int32.ofNat V.slots.size >>> (cd &&& 31) = Int32.ofNat n := by
  rcases h with ⟨rfl, h, -⟩ | ⟨rfl, h, -⟩
  · rw [shr0, h]
  · rw [h, shr1 (by omega)]
def Txt (x t : Addr) (V : Cell) (cd : Int32) (n : Nat) (f : Nat → Int32) (U : State) : Prop := Exact "java/lang/String" x U ∧ Has x "java/lang/String" "value" "[B" (.ref t) U ∧ Has x "java/lang/String" "coder" "B" (.int cd) U ∧ XT.Arr .byte t V U ∧ Cod cd n f V ∧ ∀ j, j < n → ¬ f j < 0 ∧ ¬ 65535 < f j
theorem Txt.mv {x t : Addr} {V : Cell} {cd : Int32} {n : Nat} {f : Nat → Int32} {U U' : State} (h : Txt x t V cd n f U) (hal : U.vm.Alike U'.vm) (hh : U'.heap = U.heap) : Txt x t V cd n f U' := ⟨h.1.mv hal hh, h.2.1.mv hal hh, h.2.2.1.mv hal hh, h.2.2.2.1.mv hal hh, h.2.2.2.2⟩
namespace Cdr
def yN : MethodName := ⟨"java/lang/String", "coder", "()B"⟩
abbrev yB : ByteArray := jdk_42_method_152_code
theorem d0 : decode yB 0 = .ok (.getstatic 38, 3) := by decide +kernel
theorem d3 : decode yB 3 = .ok (.ifCond (.eq) 10, 3) := by decide +kernel
theorem d6 : decode yB 6 = .ok (.aload_n 0, 1) := by decide +kernel
theorem d7 : decode yB 7 = .ok (.getfield 15, 3) := by decide +kernel
theorem d10 : decode yB 10 = .ok (.goto 4, 3) := by decide +kernel
theorem d14 : decode yB 14 = .ok (.ireturn, 1) := by decide +kernel
def site : List Cond := [.fieldLink "java/lang/String" 38 "java/lang/String" "COMPACT_STRINGS" "Z", .fieldLink "java/lang/String" 15 "java/lang/String" "coder" "B"]
def tab : Cond := tabOf yN yB 1 (some .byte) site
def P (x : Addr) (cd z : Int32) (args : Array Value) (s : State) : Prop := args = #[.ref x] ∧ Has x "java/lang/String" "coder" "B" (.int cd) s ∧ (cd = 0 ∨ cd = 1) ∧ StaticIs s "java/lang/String" "COMPACT_STRINGS" "Z" (.int z) ∧ ¬ z = 0
def E (cd : Int32) (r : Option Value) (s u : State) : Prop := XT.PureE (some (.int cd)) r s u
theorem law (l : Launch) (x : Addr) (cd z : Int32) : Law l yN 1 0 0 0 yB 1 (some .byte) site (P x cd z) (E cd) [] 0 0 := by
  refine Law.of_walk (plainFor_of_name (by decide +kernel)) (by decide +kernel) (by decide +kernel) (by decide) (fun _ _ h => by rw [h.1]; rfl) (fun _ U U' hal hh h => ⟨h.1, h.2.1.mv hal hh, h.2.2.1, h.2.2.2.1.there hal hh, h.2.2.2.2⟩) (fun r U U' V V' h1 hal h2 h => XT.PureE.mv r U U' V V' h1 hal h2 h) ?_
  intro p e s m args below meth c s₁ X0 hexec hbytes hml hret hlk hnm hown hh0 W hP
  obtain ⟨rfl, hx, hc, s1, hz⟩ := hP
  have c1 : Steps p.tables e below (s₁.setTop (entryFrame m #[.ref x] 1)) (s₁.setTop (mkF m 0 #[.val (.ref x)] [])) := entry rfl
  obtain ⟨T2, X2, q2, st2⟩ := X0.sget hexec hown (wk W (.fieldLink "java/lang/String" 38 "java/lang/String" "COMPACT_STRINGS" "Z")) s1 (fun _ _ h => by rw [hh0]; exact h) (g := (mkF m 0 #[.val (.ref x)] [])) rfl (hb hbytes d0)
  have hh2 := q2.trans hh0
  have c3 : Steps p.tables e below (s₁.setTop (entryFrame m #[.ref x] 1)) (T2.setTop (mkF m 7 #[.val (.ref x)] [.ref x])) := (c1.trans (st2 _ (Steps.refl _))).trans (by
    refine XS.ifNo X2.here hexec rfl (hb hbytes d3) rfl (i0_eq_f hz) ?_
    refine XS.aloadN X2.here hexec rfl (hb hbytes d6) rfl rfl ?_
    exact Steps.refl _)
  obtain ⟨T4, X4, q4, st4⟩ := X2.hget hexec hown (wk W (.fieldLink "java/lang/String" 15 "java/lang/String" "coder" "B")) (hx.mv X2.warmed.alike hh2) (g := (mkF m 7 #[.val (.ref x)] [.ref x])) rfl (rest := []) rfl (hb hbytes d7)
  have c5 : Steps p.tables e below (s₁.setTop (entryFrame m #[.ref x] 1)) (T4.setTop (mkF m 14 #[.val (.ref x)] [.int cd])) := (c3.trans (st4 _ (Steps.refl _))).trans (by
    refine XS.goto X4.here hexec rfl (pc0 := 10) rfl (hb hbytes d10) (by decide) rfl ?_
    exact Steps.refl _)
  exact ⟨T4, some (.int cd), _, _, _, X4, rfl, rfl, rfl, (fun h => by cases h), ⟨rfl, q4.trans hh2⟩, fun fs hl => c5.trans (X4.ireturnOut hexec hret (by rcases hc with rfl | rfl <;> rfl) (Or.inr (Or.inr (Or.inl rfl))) (hb hbytes d14) hl)⟩
end Cdr
namespace Len
def yN : MethodName := ⟨"java/lang/String", "length", "()I"⟩
abbrev yB : ByteArray := jdk_42_method_54_code
theorem d0 : decode yB 0 = .ok (.aload_n 0, 1) := by decide +kernel
theorem d1 : decode yB 1 = .ok (.getfield 9, 3) := by decide +kernel
theorem d4 : decode yB 4 = .ok (.arraylength, 1) := by decide +kernel
theorem d5 : decode yB 5 = .ok (.aload_n 0, 1) := by decide +kernel
theorem d6 : decode yB 6 = .ok (.invokevirtual 335, 3) := by decide +kernel
theorem d9 : decode yB 9 = .ok (.ishr, 1) := by decide +kernel
theorem d10 : decode yB 10 = .ok (.ireturn, 1) := by decide +kernel
def site : List Cond := [.fieldLink "java/lang/String" 9 "java/lang/String" "value" "[B", Cdr.tab] ++ virtW "java/lang/String" 335 "java/lang/String" Cdr.yN Cdr.yN
def tab : Cond := tabOf yN yB 1 (some .int) site
def P (x t : Addr) (V : Cell) (cd : Int32) (n : Nat) (f : Nat → Int32) (z : Int32) (args : Array Value) (s : State) : Prop := args = #[.ref x] ∧ Txt x t V cd n f s ∧ StaticIs s "java/lang/String" "COMPACT_STRINGS" "Z" (.int z) ∧ ¬ z = 0
def E (n : Nat) (r : Option Value) (s u : State) : Prop := XT.PureE (some (.int (Int32.ofNat n))) r s u
theorem law (l : Launch) (x t : Addr) (V : Cell) (cd : Int32) (n : Nat) (f : Nat → Int32) (z : Int32) : Law l yN 1 0 1 13 yB 1 (some .int) site (P x t V cd n f z) (E n) [] 0 0 := by
  refine Law.of_walk (plainFor_of_name (by decide +kernel)) (by decide +kernel) (by decide +kernel) (by decide) (fun _ _ h => by rw [h.1]; rfl) (fun _ U U' hal hh h => ⟨h.1, h.2.1.mv hal hh, h.2.2.1.there hal hh, h.2.2.2⟩) (fun r U U' V V' h1 hal h2 h => XT.PureE.mv r U U' V V' h1 hal h2 h) ?_
  intro p e s m args below meth c s₁ X0 hexec hbytes hml hret hlk hnm hown hh0 W hP
  obtain ⟨rfl, hx, s1, hz⟩ := hP
  have v31 := hx.2.2.2.1.2.2.2
  have c1 : Steps p.tables e below (s₁.setTop (entryFrame m #[.ref x] 1)) (s₁.setTop (mkF m 1 #[.val (.ref x)] [.ref x])) := Steps.trans (entry rfl) (by
    show Steps p.tables e below (s₁.setTop (mkF m 0 #[.val (.ref x)] [])) _
    refine XS.aloadN X0.here hexec rfl (hb hbytes d0) rfl rfl ?_
    exact Steps.refl _)
  obtain ⟨T2, X2, q2, st2⟩ := X0.hget hexec hown (wk W (.fieldLink "java/lang/String" 9 "java/lang/String" "value" "[B")) (hx.mv X0.warmed.alike hh0).2.1 (g := (mkF m 1 #[.val (.ref x)] [.ref x])) rfl (rest := []) rfl (hb hbytes d1)
  have hh2 := q2.trans hh0
  have hx2 := hx.mv X2.warmed.alike hh2
  have c3 : Steps p.tables e below (s₁.setTop (entryFrame m #[.ref x] 1)) (T2.setTop (mkF m 6 #[.val (.ref x)] [.ref x, .int (Int32.ofNat V.slots.size)])) := (c1.trans (st2 _ (Steps.refl _))).trans (by
    refine X2.alen hexec hx2.2.2.2.1 rfl rfl (hb hbytes d4) ?_
    refine XS.aloadN X2.here hexec rfl (hb hbytes d5) rfl rfl ?_
    exact Steps.refl _)
  obtain ⟨v4, T4, X4, E4, g4⟩ := X2.callV hexec (Cdr.law l x cd z) hown (wks W (virtW "java/lang/String" 335 "java/lang/String" Cdr.yN Cdr.yN)) rfl (by decide) (wk W Cdr.tab) (W := 1) (Nat.le_of_ble_eq_true rfl) (Nat.le_of_ble_eq_true rfl) (Nat.le_refl _) (Nat.le_refl _) (hx2.1.fc X2.warmed.alike) hx2.1.is (g := (mkF m 6 #[.val (.ref x)] [.ref x, .int (Int32.ofNat V.slots.size)])) rfl (by rw [hml]; rfl) c3 (argsL := []) (rest := [.int (Int32.ofNat V.slots.size)]) rfl rfl (by show 2 * 0 + (1 + 0) ≤ _; decide) (hb hbytes d6) (⟨rfl, hx2.2.2.1, hx.2.2.2.2.1.cd, s1.there X2.warmed.alike hh2, hz⟩)
  obtain ⟨rfl, q4⟩ := E4
  have c5 : Steps p.tables e below (s₁.setTop (entryFrame m #[.ref x] 1)) (T4.setTop (mkF m 10 #[.val (.ref x)] [.int (Int32.ofNat V.slots.size >>> (cd &&& 31))])) := Steps.trans g4 (by
    refine ishr X4.here hexec rfl (hb hbytes d9) rfl ?_
    exact Steps.refl _)
  rw [hx.2.2.2.2.1.len v31] at c5
  exact ⟨T4, some (.int (Int32.ofNat n)), _, _, _, X4, rfl, rfl, rfl, (fun h => by cases h), ⟨rfl, q4.trans hh2⟩, fun fs hl => c5.trans (X4.ireturnOut hexec hret rfl (Or.inl rfl) (hb hbytes d10) hl)⟩
theorem pays {l : Launch} {R : Room} {p : Program} {e : Env} {below : List Frame} {s : State} {sargs : Array Value} {len W : Nat} (x t : Addr) (V : Cell) (cd : Int32) (n : Nat) (f : Nat → Int32) (z : Int32) (htab : tab.before sargs s = true) (hfr : 2 ≤ R.frames) (hlo : W + 25 ≤ R.locals) :
    Back l R p e below s sargs yN len W (fun A₁ a₁ => A₁.cells + 0 ≤ R.cells ∧ A₁.slots + 0 ≤ R.slots ∧ P x t V cd n f z a₁ A₁.U) (fun A₁ _ v₁ B₁ => E n v₁ A₁.U B₁.U ∧ B₁.locs = A₁.locs ++ [] ∧ B₁.cells = A₁.cells + 0 ∧ B₁.slots = A₁.slots + 0) :=
  (law l x t V cd n f z).pays htab hfr (by omega)
end Len
namespace IsL
def yN : MethodName := ⟨"java/lang/String", "isLatin1", "()Z"⟩
abbrev yB : ByteArray := jdk_42_method_154_code
theorem d0 : decode yB 0 = .ok (.getstatic 38, 3) := by decide +kernel
theorem d3 : decode yB 3 = .ok (.ifCond (.eq) 14, 3) := by decide +kernel
theorem d6 : decode yB 6 = .ok (.aload_n 0, 1) := by decide +kernel
theorem d7 : decode yB 7 = .ok (.getfield 15, 3) := by decide +kernel
theorem d10 : decode yB 10 = .ok (.ifCond (.ne) 7, 3) := by decide +kernel
theorem d13 : decode yB 13 = .ok (.iconst 1, 1) := by decide +kernel
theorem d14 : decode yB 14 = .ok (.goto 4, 3) := by decide +kernel
theorem d17 : decode yB 17 = .ok (.iconst 0, 1) := by decide +kernel
theorem d18 : decode yB 18 = .ok (.ireturn, 1) := by decide +kernel
def site : List Cond := [.fieldLink "java/lang/String" 38 "java/lang/String" "COMPACT_STRINGS" "Z", .fieldLink "java/lang/String" 15 "java/lang/String" "coder" "B"]
def tab : Cond := tabOf yN yB 1 (some .boolean) site
def P (x : Addr) (cd z : Int32) (args : Array Value) (s : State) : Prop := args = #[.ref x] ∧ Has x "java/lang/String" "coder" "B" (.int cd) s ∧ (cd = 0 ∨ cd = 1) ∧ StaticIs s "java/lang/String" "COMPACT_STRINGS" "Z" (.int z) ∧ ¬ z = 0
def E (cd : Int32) (r : Option Value) (s u : State) : Prop := XT.PureE (some (.int (1 - cd))) r s u
theorem law (l : Launch) (x : Addr) (cd z : Int32) : Law l yN 1 0 0 0 yB 1 (some .boolean) site (P x cd z) (E cd) [] 0 0 := by
  refine Law.of_walk (plainFor_of_name (by decide +kernel)) (by decide +kernel) (by decide +kernel) (by decide) (fun _ _ h => by rw [h.1]; rfl) (fun _ U U' hal hh h => ⟨h.1, h.2.1.mv hal hh, h.2.2.1, h.2.2.2.1.there hal hh, h.2.2.2.2⟩) (fun r U U' V V' h1 hal h2 h => XT.PureE.mv r U U' V V' h1 hal h2 h) ?_
  intro p e s m args below meth c s₁ X0 hexec hbytes hml hret hlk hnm hown hh0 W hP
  obtain ⟨rfl, hx, hc, s1, hz⟩ := hP
  have c1 : Steps p.tables e below (s₁.setTop (entryFrame m #[.ref x] 1)) (s₁.setTop (mkF m 0 #[.val (.ref x)] [])) := entry rfl
  obtain ⟨T2, X2, q2, st2⟩ := X0.sget hexec hown (wk W (.fieldLink "java/lang/String" 38 "java/lang/String" "COMPACT_STRINGS" "Z")) s1 (fun _ _ h => by rw [hh0]; exact h) (g := (mkF m 0 #[.val (.ref x)] [])) rfl (hb hbytes d0)
  have hh2 := q2.trans hh0
  have c3 : Steps p.tables e below (s₁.setTop (entryFrame m #[.ref x] 1)) (T2.setTop (mkF m 7 #[.val (.ref x)] [.ref x])) := (c1.trans (st2 _ (Steps.refl _))).trans (by
    refine XS.ifNo X2.here hexec rfl (hb hbytes d3) rfl (i0_eq_f hz) ?_
    refine XS.aloadN X2.here hexec rfl (hb hbytes d6) rfl rfl ?_
    exact Steps.refl _)
  obtain ⟨T4, X4, q4, st4⟩ := X2.hget hexec hown (wk W (.fieldLink "java/lang/String" 15 "java/lang/String" "coder" "B")) (hx.mv X2.warmed.alike hh2) (g := (mkF m 7 #[.val (.ref x)] [.ref x])) rfl (rest := []) rfl (hb hbytes d7)
  have c5 : Steps p.tables e below (s₁.setTop (entryFrame m #[.ref x] 1)) (T4.setTop (mkF m 10 #[.val (.ref x)] [.int cd])) := c3.trans (st4 _ (Steps.refl _))
  have c6 : Steps p.tables e below (s₁.setTop (entryFrame m #[.ref x] 1)) (T4.setTop (mkF m 18 #[.val (.ref x)] [.int (1 - cd)])) := by
    rcases hc with rfl | rfl
    · exact c5.trans (by
        refine XS.ifNo X4.here hexec rfl (hb hbytes d10) rfl (i0_ne_f rfl) ?_
        refine iconstV X4.here hexec rfl 1 (hb hbytes d13) (by decide) ?_
        refine XS.goto X4.here hexec rfl (pc0 := 14) rfl (hb hbytes d14) (by decide) rfl ?_
        exact Steps.refl _)
    · exact c5.trans (by
        refine XS.ifYes X4.here hexec rfl (pc0 := 10) rfl (hb hbytes d10) rfl (i0_ne_t (by decide)) (by decide) rfl ?_
        refine iconstV X4.here hexec rfl 0 (hb hbytes d17) (by decide) ?_
        exact Steps.refl _)
  exact ⟨T4, some (.int (1 - cd)), _, _, _, X4, rfl, rfl, rfl, (fun h => by cases h), ⟨rfl, q4.trans hh2⟩, fun fs hl => c6.trans (X4.ireturnOut hexec hret (by rcases hc with rfl | rfl <;> rfl) (Or.inr (Or.inl rfl)) (hb hbytes d18) hl)⟩
end IsL
namespace LChA
def yN : MethodName := ⟨"java/lang/StringLatin1", "charAt", "([BI)C"⟩
abbrev yB : ByteArray := jdk_43_method_2_code
theorem d0 : decode yB 0 = .ok (.iload_n 1, 1) := by decide +kernel
theorem d1 : decode yB 1 = .ok (.aload_n 0, 1) := by decide +kernel
theorem d2 : decode yB 2 = .ok (.arraylength, 1) := by decide +kernel
theorem d3 : decode yB 3 = .ok (.invokestatic 9, 3) := by decide +kernel
theorem d6 : decode yB 6 = .ok (.aload_n 0, 1) := by decide +kernel
theorem d7 : decode yB 7 = .ok (.iload_n 1, 1) := by decide +kernel
theorem d8 : decode yB 8 = .ok (.baload, 1) := by decide +kernel
theorem d9 : decode yB 9 = .ok (.sipush 255, 3) := by decide +kernel
theorem d12 : decode yB 12 = .ok (.iand, 1) := by decide +kernel
theorem d13 : decode yB 13 = .ok (.i2c, 1) := by decide +kernel
theorem d14 : decode yB 14 = .ok (.ireturn, 1) := by decide +kernel
def site : List Cond := [JO.Str_checkIndex.tab] ++ staticW "java/lang/StringLatin1" 9 JO.Str_checkIndex.yN
def tab : Cond := tabOf yN yB 2 (some .char) site
def P (t : Addr) (V : Cell) (i : Nat) (u : Int32) (fm : Value) (args : Array Value) (s : State) : Prop := args = #[.ref t, .int (Int32.ofNat i)] ∧ XT.Arr .byte t V s ∧ V.slots[i]? = some (.int u) ∧ (StaticIs s "jdk/internal/util/Preconditions" "SIOOBE_FORMATTER" "Ljava/util/function/BiFunction;" fm ∧ fm.isRef = true)
def E (u : Int32) (r : Option Value) (s w : State) : Prop := XT.PureE (some (.int (chr8 u))) r s w
theorem law (l : Launch) (t : Addr) (V : Cell) (i : Nat) (u : Int32) (fm : Value) : Law l yN 2 2 2 27 yB 2 (some .char) site (P t V i u fm) (E u) [] 0 0 := by
  refine Law.of_walk (plainFor_of_name (by decide +kernel)) (by decide +kernel) (by decide +kernel) (by decide) (fun _ _ h => by rw [h.1]; rfl) (fun _ U U' hal hh h => ⟨h.1, h.2.1.mv hal hh, h.2.2.1, h.2.2.2.1.there hal hh, h.2.2.2.2⟩) (fun r U U' V V' h1 hal h2 h => XT.PureE.mv r U U' V V' h1 hal h2 h) ?_
  intro p e s m args below meth c s₁ X0 hexec hbytes hml hret hlk hnm hown hh0 W hP
  obtain ⟨rfl, hV, hu, s1, rf⟩ := hP
  have v31 := hV.2.2.2
  have hi : i < V.slots.size := (Array.getElem?_eq_some_iff.mp hu).1
  have c1 : Steps p.tables e below (s₁.setTop (entryFrame m #[.ref t, .int (Int32.ofNat i)] 2)) (s₁.setTop (mkF m 0 #[.val (.ref t), .val (.int (Int32.ofNat i))] [])) := entry rfl
  have c2 : Steps p.tables e below (s₁.setTop (entryFrame m #[.ref t, .int (Int32.ofNat i)] 2)) (s₁.setTop (mkF m 3 #[.val (.ref t), .val (.int (Int32.ofNat i))] [.int (Int32.ofNat V.slots.size), .int (Int32.ofNat i)])) := c1.trans (by
    refine XS.iloadN X0.here hexec rfl (hb hbytes d0) rfl ?_
    refine XS.aloadN X0.here hexec rfl (hb hbytes d1) rfl rfl ?_
    refine X0.alen hexec (hV.mv X0.warmed.alike hh0) rfl rfl (hb hbytes d2) ?_
    exact Steps.refl _)
  obtain ⟨v3, T3, X3, E3, g3⟩ := X0.callS hexec (JO.Str_checkIndex.law l (Int32.ofNat i) (Int32.ofNat V.slots.size) fm) hown (wks W (staticW "java/lang/StringLatin1" 9 JO.Str_checkIndex.yN)) (wk W JO.Str_checkIndex.tab) (W := 0) (Nat.le_of_ble_eq_true rfl) (Nat.le_of_ble_eq_true rfl) (Nat.le_refl _) (Nat.le_refl _) (g := (mkF m 3 #[.val (.ref t), .val (.int (Int32.ofNat i))] [.int (Int32.ofNat V.slots.size), .int (Int32.ofNat i)])) rfl (by rw [hml]; rfl) c2 (argsL := [.int (Int32.ofNat i), .int (Int32.ofNat V.slots.size)]) (rest := []) rfl rfl (by show 2 * 0 + 0 ≤ _; decide) (hb hbytes d3) (⟨rfl, rf, s1.there X0.warmed.alike hh0, Int32.ofNat_not_neg (by omega), lt32 v31 hi⟩)
  obtain ⟨rfl, q3⟩ := E3
  have hh3 := q3.trans hh0
  have c4 : Steps p.tables e below (s₁.setTop (entryFrame m #[.ref t, .int (Int32.ofNat i)] 2)) (T3.setTop (mkF m 14 #[.val (.ref t), .val (.int (Int32.ofNat i))] [.int (chr8 u)])) := Steps.trans g3 (by
    refine XS.aloadN X3.here hexec rfl (hb hbytes d6) rfl rfl ?_
    refine XS.iloadN X3.here hexec rfl (hb hbytes d7) rfl ?_
    refine X3.aget hexec (hV.mv X3.warmed.alike hh3) rfl hu rfl rfl (hb hbytes d8) ?_
    refine sipushV X3.here hexec rfl 255 (hb hbytes d9) (by decide) ?_
    refine XS.iand X3.here hexec rfl (hb hbytes d12) rfl ?_
    refine i2c X3.here hexec rfl (hb hbytes d13) rfl ?_
    exact Steps.refl _)
  exact ⟨T3, some (.int (chr8 u)), _, _, _, X3, rfl, rfl, rfl, (fun h => by cases h), ⟨rfl, hh3⟩, fun fs hl => c4.trans (X3.ireturnOut hexec hret (narrow_c _) (Or.inr (Or.inr (Or.inr (Or.inl rfl)))) (hb hbytes d14) hl)⟩
end LChA
end StrChars
namespace StrChars.Road
open Jvm Sem ClassFile Op Lib Jvm.Stand Jvm.Free Jvm.Free.XT
open Jvm.Lib.Cold (StaticIs)
theorem consq {a : Array Value} {s : State} {c : Jvm.Cond} {L : List Jvm.Cond} (h0 : c.before a s = true) (h : ∀ w ∈ L, w.before a s = true) : ∀ w ∈ c :: L, w.before a s = true := fun w hw => (List.mem_cons.mp hw).elim (fun e => e ▸ h0) (h w)
abbrev wordsLen : List Jvm.Cond := [.code Len.yN Len.yB 1 (some .int), .initialized ST, .fieldLink ST 9 ST "value" "[B", .fieldLink ST 38 ST "COMPACT_STRINGS" "Z", .fieldLink ST 15 ST "coder" "B", .code Cdr.yN Cdr.yB 1 (some .byte), .methodLink ST 335 Cdr.yN, .declares Cdr.yN, .selects ST Cdr.yN Cdr.yN, .instanceMethod Cdr.yN]
theorem tabLen_of {a : Array Value} {s : State} (h : ∀ w ∈ wordsLen, w.before a s = true) : Len.tab.before a s = true := by
  have hc : Cdr.tab.before a s = true := unparts (wk h (.code Cdr.yN Cdr.yB 1 (some .byte))) (wks h (.initialized Cdr.yN.cls :: Cdr.site))
  have q := consq hc h
  exact unparts (wk q (.code Len.yN Len.yB 1 (some .int))) (wks q (.initialized Len.yN.cls :: Len.site))
theorem movedLen {Z s : State} {a0 args : Array Value} (hZ : Z.Warmed39 s.vm) (hw : ∀ d ∈ wordsLen, d.before a0 Z = true) : ∀ d ∈ wordsLen, d.before args s = true := fun d hd => by
  have q := hw d hd
  have t : ∀ d ∈ wordsLen, d = .arrayClass .byte ∨ (d.onTables && d.keepsFace) = true := by decide +kernel
  rcases t d hd with rfl | t
  · exact RoadKit.mvA hZ q
  · exact RoadKit.mv hZ q t
def wideBytes : List Int32 → List Value
  | [] => []
  | c :: cs => .int (lo8 c) :: .int (hi8 c) :: wideBytes cs
theorem wide_lo (d : Value) : ∀ (cs : List Int32) (j : Nat), j < cs.length → (wideBytes cs).getD (2 * j) d = .int (lo8 (cs.getD j 0))
  | [], j, h => absurd h (Nat.not_lt_zero j)
  | c :: cs, 0, _ => rfl
  | c :: cs, j + 1, h => by
    have q := wide_lo d cs j (by simpa using h)
    rw [show 2 * (j + 1) = 2 * j + 1 + 1 from by omega]
    simpa [wideBytes] using q
theorem wide_hi (d : Value) : ∀ (cs : List Int32) (j : Nat), j < cs.length → (wideBytes cs).getD (2 * j + 1) d = .int (hi8 (cs.getD j 0))
  | [], j, h => absurd h (Nat.not_lt_zero j)
  | c :: cs, 0, _ => rfl
  | c :: cs, j + 1, h => by
    have q := wide_hi d cs j (by simpa using h)
    rw [show 2 * (j + 1) + 1 = 2 * j + 1 + 1 + 1 from by omega]
    simpa [wideBytes] using q
theorem low_at (d : Value) (cs : List Int32) (j : Nat) (h : j < cs.length) : (cs.map fun c => Value.int (lo8 c)).getD j d = .int (lo8 (cs.getD j 0)) := by
  simp [List.getD_eq_getElem?_getD, h]
def CodA (cs : List Int32) (cd N2 : Int32) (vs : List Value) : Prop := (cd = 0 ∧ N2 = Int32.ofNat cs.length ∧ vs = (cs.map fun c => Value.int (lo8 c)) ∧ ∀ c ∈ cs, ¬ 255 < c) ∨ (cd = 1 ∧ N2 = Int32.ofNat (2 * cs.length) ∧ vs = wideBytes cs ∧ ∃ c ∈ cs, 255 < c)
theorem CodA.cod {cs : List Int32} {cd N2 : Int32} {vs : List Value} {V : Cell} (h : CodA cs cd N2 vs) (hn : 2 * cs.length < 2 ^ 31) (hs : V.slots.size = N2.toNatClampNeg) (hv : RoadKit.Has V vs (.int 0)) : Cod cd cs.length (fun j => cs.getD j 0) V := by
  rcases h with ⟨rfl, rfl, rfl, h⟩ | ⟨rfl, rfl, rfl, c, hc, hw⟩
  · rw [n32 (by omega)] at hs
    exact Or.inl ⟨rfl, hs, fun j hj => ⟨by rw [hv j (by omega), low_at _ _ _ hj], by
      have e : cs.getD j 0 = cs[j] := by simp [List.getD_eq_getElem?_getD, hj]
      show ¬ 255 < cs.getD j 0
      rw [e]; exact h _ (List.getElem_mem _)⟩⟩
  · rw [n32 (by omega)] at hs
    obtain ⟨j, hj, rfl⟩ := List.getElem_of_mem hc
    exact Or.inr ⟨rfl, hs, fun j hj => ⟨by rw [hv _ (by omega), wide_lo _ _ _ hj], by rw [hv _ (by omega), wide_hi _ _ _ hj]⟩, j, hj, by
      have e : cs.getD j 0 = cs[j] := by simp [List.getD_eq_getElem?_getD, hj]
      show 255 < cs.getD j 0
      rw [e]; exact hw⟩
theorem strObj {Z U : State} {a0 : Array Value} {kI : Nat} (wi : (Jvm.Cond.instantiable ST kI).before a0 Z = true) (al : Z.vm.Alike U.vm) {x : Addr} {v0 c0 : Value} (E : RoadKit.Exa Z U.heap x ST) (V : RoadKit.Fld Z U.heap x ST "value" "[B" v0) (C : RoadKit.Fld Z U.heap x ST "coder" "B" c0) :
    ∃ (D : Cell) (fV fC : Field), Blank ST x D U ∧ Found ST "value" "[B" fV U ∧ Found ST "coder" "B" fC U ∧ D.slots[fV.slot]? = some v0 ∧ D.slots[fC.slot]? = some c0 ∧ RoadKit.slotOf Z ST "value" "[B" = fV.slot ∧ RoadKit.slotOf Z ST "coder" "B" = fC.slot := by
  obtain ⟨D, cfV, kV, iV, fV, hD, gV, stV, knV, obV, asV, slV⟩ := V
  obtain ⟨D', cfC, kC, iC, fC, hD', gC, stC, -, -, asC, slC⟩ := C
  cases hD.symm.trans hD'
  obtain ⟨D2, kD, e1, e2, e3, e4, e5⟩ := E
  cases hD.symm.trans e1
  obtain ⟨c2, k2, i1, i2, i3, -⟩ := Cond.instantiable_spec wi
  cases e2.symm.trans i1
  cases e3.symm.trans i2
  obtain ⟨kU, u1, u2⟩ := al.2.2 _ _ e3
  exact ⟨D, fV, fC, ⟨hD, ⟨knV, fun q hq => by rw [hq] at obV; cases obV⟩, by rw [al.findClass]; exact e2, kU, u1, by rw [u2]; exact i3, by rw [u2]; exact e5 i3⟩, ⟨SBG.found_only al ⟨cfV, kV, iV, gV⟩, stV⟩, ⟨SBG.found_only al ⟨cfC, kC, iC, gC⟩, stC⟩, slV, slC, by simp [RoadKit.slotOf, gV], by simp [RoadKit.slotOf, gC]⟩
theorem sta_is {Z U : State} (al : Z.vm.Alike U.vm) {C n d : String} {v : Value} (S : RoadKit.Sta Z U.heap C n d v) : StaticIs U C n d v := by
  obtain ⟨cfS, iS, kS, fS, st, cS, t1, t2, t3, t4, t5, t6, t7⟩ := S
  exact StaticIs.there (s := { Z with heap := U.heap }) ⟨cfS, iS, kS, fS, st, cS, t1, t2, t3, t4, t5, (fun q => by rw [q] at t6; cases t6), t7⟩ al rfl
theorem lenW {p : Program} {l : Launch} {e : Env} {R : Room} {s : State} {args : Array Value} {below : List Frame} {len W : Nat} {Z : State} {a0 : Array Value} {h : Heap} (hZ : Z.Warmed39 s.vm) (hw : ∀ d ∈ wordsLen, d.before a0 Z = true) {kI : Nat} (wi : (Jvm.Cond.instantiable ST kI).before a0 Z = true)
    {x t : Addr} {kb : ClassId} {cs : List Int32} {cd N2 z : Int32} {vs : List Value} (E : RoadKit.Exa Z h x ST) (V : RoadKit.Fld Z h x ST "value" "[B" (.ref t)) (C : RoadKit.Fld Z h x ST "coder" "B" (.int cd)) (K : RoadKit.Arv Z h t kb .byte N2 vs (.int 0)) (hc : CodA cs cd N2 vs) (hb : ∀ c ∈ cs, ¬ c < 0 ∧ ¬ (65535 : Int32) < c)
    (S : RoadKit.Sta Z h ST "COMPACT_STRINGS" "Z" (.int z)) (hz : ¬ z = 0) (l2 : cs.length ≤ 4000) (hfr : 2 ≤ R.frames) (hlo : W + 25 ≤ R.locals) :
    Back l R p e below s args (⟨"java/lang/String", "length", "()I"⟩ : MethodName) len W (fun P a => a = #[.ref x] ∧ P.U.heap = h ∧ P.cells + 0 ≤ R.cells ∧ P.slots + 0 ≤ R.slots)
      (fun P _ v B => ∃ L, (v = some (.int (Int32.ofNat cs.length)) ∧ L = [] ∧ B.U.heap = h) ∧ B.locs = P.locs ++ L ∧ B.cells = P.cells + 0 ∧ B.slots = P.slots + 0) := by
  obtain ⟨A, K1, K2, K3, K4, K5, K6⟩ := K
  have hcod := hc.cod (by omega) K3 K5
  intro m meth c P g ig mk a X hg hsize hdg hW hn hp'
  obtain ⟨rfl, rfl, r1, r2⟩ := hp'
  have al : Z.vm.Alike P.U.vm := hZ.alike.trans X.warmed.alike
  obtain ⟨D, fV, fC, hB, F1, F2, g1, g2, -, -⟩ := strObj wi al E V C
  have hx : Txt x t A cd cs.length (fun j => cs.getD j 0) P.U := ⟨⟨_, hB.2.2.1, D, hB.1, rfl, by cases q : D.vm <;> first | rfl | exact absurd q (hB.2.1.2 _)⟩, Has.of hB F1 g1, Has.of hB F2 g2, ⟨K1.1, State.isArrayOf_alike al K1.2.1, K1.2.2, by rcases hcod with ⟨-, q, -⟩ | ⟨-, q, -⟩ <;> omega⟩, hcod, fun j hj => by
    have e : cs.getD j 0 = cs[j] := by simp [List.getD_eq_getElem?_getD, hj]
    show ¬ cs.getD j 0 < 0 ∧ ¬ 65535 < cs.getD j 0
    rw [e]; exact hb _ (List.getElem_mem _)⟩
  obtain ⟨v, B, X', ⟨⟨hv, hh⟩, hl, hk, hs⟩, st⟩ := Len.pays x t A cd cs.length (fun j => cs.getD j 0) z (tabLen_of (movedLen hZ hw)) hfr hlo m meth c P g ig mk _ X hg hsize hdg hW hn ⟨r1, r2, rfl, hx, sta_is al S, hz⟩
  exact ⟨v, B, X', ⟨[], ⟨hv, rfl, hh⟩, hl, hk, hs⟩, st⟩
end StrChars.Road
namespace StrChars.Road
open Jvm Sem ClassFile Op Lib Jvm.Stand Jvm.Free Jvm.Free.XT
open Jvm.Lib.Cold (StaticIs)
theorem txt_of {Z U : State} {a0 : Array Value} {kI : Nat} (wi : (Jvm.Cond.instantiable ST kI).before a0 Z = true) (al : Z.vm.Alike U.vm) {x t : Addr} {kb : ClassId} {cs : List Int32} {cd N2 : Int32} {vs : List Value} (E : RoadKit.Exa Z U.heap x ST) (V : RoadKit.Fld Z U.heap x ST "value" "[B" (.ref t)) (C : RoadKit.Fld Z U.heap x ST "coder" "B" (.int cd)) (K : RoadKit.Arv Z U.heap t kb .byte N2 vs (.int 0)) (hc : CodA cs cd N2 vs) (hb : ∀ c ∈ cs, ¬ c < 0 ∧ ¬ (65535 : Int32) < c) (l2 : cs.length ≤ 4000) :
    ∃ A, Txt x t A cd cs.length (fun j => cs.getD j 0) U := by
  obtain ⟨A, K1, K2, K3, K4, K5, K6⟩ := K
  have hcod := hc.cod (by omega) K3 K5
  obtain ⟨D, fV, fC, hB, F1, F2, g1, g2, -, -⟩ := strObj wi al E V C
  exact ⟨A, ⟨_, hB.2.2.1, D, hB.1, rfl, by cases q : D.vm <;> first | rfl | exact absurd q (hB.2.1.2 _)⟩, Has.of hB F1 g1, Has.of hB F2 g2, ⟨K1.1, State.isArrayOf_alike al K1.2.1, K1.2.2, by rcases hcod with ⟨-, q, -⟩ | ⟨-, q, -⟩ <;> omega⟩, hcod, fun j hj => by
    have e : cs.getD j 0 = cs[j] := by simp [List.getD_eq_getElem?_getD, hj]
    show ¬ cs.getD j 0 < 0 ∧ ¬ 65535 < cs.getD j 0
    rw [e]; exact hb _ (List.getElem_mem _)⟩
end StrChars.Road
namespace StrChars
open Jvm Sem ClassFile Op Lib Jvm.Stand Jvm.Free.XT Jvm.Free.ALB Jvm.Free.JM Jvm.Free
open Jvm.Lib.Cold (StaticIs)
namespace ChN
def yN : MethodName := ⟨"java/lang/String", "charAt", "(I)C"⟩
abbrev yB : ByteArray := jdk_42_method_56_code
theorem d0 : decode yB 0 = .ok (.aload_n 0, 1) := by decide +kernel
theorem d1 : decode yB 1 = .ok (.invokevirtual 492, 3) := by decide +kernel
theorem d4 : decode yB 4 = .ok (.ifCond (.eq) 12, 3) := by decide +kernel
theorem d7 : decode yB 7 = .ok (.aload_n 0, 1) := by decide +kernel
theorem d8 : decode yB 8 = .ok (.getfield 9, 3) := by decide +kernel
theorem d11 : decode yB 11 = .ok (.iload_n 1, 1) := by decide +kernel
theorem d12 : decode yB 12 = .ok (.invokestatic 495, 3) := by decide +kernel
theorem d15 : decode yB 15 = .ok (.ireturn, 1) := by decide +kernel
def site : List Cond := [.fieldLink "java/lang/String" 9 "java/lang/String" "value" "[B", IsL.tab, LChA.tab] ++ virtW "java/lang/String" 492 "java/lang/String" IsL.yN IsL.yN ++ staticW "java/lang/String" 495 LChA.yN
def tab : Cond := tabOf yN yB 2 (some .char) site
def P (x t : Addr) (V : Cell) (n : Nat) (f : Nat → Int32) (z : Int32) (fm : Value) (i : Nat) (args : Array Value) (s : State) : Prop := args = #[.ref x, .int (Int32.ofNat i)] ∧ Txt x t V 0 n f s ∧ i < n ∧ StaticIs s "java/lang/String" "COMPACT_STRINGS" "Z" (.int z) ∧ ¬ z = 0 ∧ StaticIs s "jdk/internal/util/Preconditions" "SIOOBE_FORMATTER" "Ljava/util/function/BiFunction;" fm ∧ fm.isRef = true
def E (f : Nat → Int32) (i : Nat) (r : Option Value) (s u : State) : Prop := XT.PureE (some (.int (f i))) r s u
theorem law (l : Launch) (x t : Addr) (V : Cell) (n : Nat) (f : Nat → Int32) (z : Int32) (fm : Value) (i : Nat) : Law l yN 2 1 3 40 yB 2 (some .char) site (P x t V n f z fm i) (E f i) [] 0 0 := by
  refine Law.of_walk (plainFor_of_name (by decide +kernel)) (by decide +kernel) (by decide +kernel) (by decide) (fun _ _ h => by rw [h.1]; rfl) (fun _ U U' hal hh h => ⟨h.1, h.2.1.mv hal hh, h.2.2.1, h.2.2.2.1.there hal hh, h.2.2.2.2.1, h.2.2.2.2.2.1.there hal hh, h.2.2.2.2.2.2⟩) (fun r U U' V V' h1 hal h2 h => XT.PureE.mv r U U' V V' h1 hal h2 h) ?_
  intro p e s m args below meth c s₁ X0 hexec hbytes hml hret hlk hnm hown hh0 W hP
  obtain ⟨rfl, hx, hi, s1, hz, s3, rf⟩ := hP
  have v31 := hx.2.2.2.1.2.2.2
  have hr := hx.2.2.2.2.2 i hi
  have hx0 := hx.mv X0.warmed.alike hh0
  have c1 : Steps p.tables e below (s₁.setTop (entryFrame m #[.ref x, .int (Int32.ofNat i)] 2)) (s₁.setTop (mkF m 1 #[.val (.ref x), .val (.int (Int32.ofNat i))] [.ref x])) := Steps.trans (entry rfl) (by
    show Steps p.tables e below (s₁.setTop (mkF m 0 #[.val (.ref x), .val (.int (Int32.ofNat i))] [])) _
    refine XS.aloadN X0.here hexec rfl (hb hbytes d0) rfl rfl ?_
    exact Steps.refl _)
  obtain ⟨v2, T2, X2, E2, g2⟩ := X0.callV hexec (IsL.law l x 0 z) hown (wks W (virtW "java/lang/String" 492 "java/lang/String" IsL.yN IsL.yN)) rfl (by decide) (wk W IsL.tab) (W := 0) (Nat.le_of_ble_eq_true rfl) (Nat.le_of_ble_eq_true rfl) (Nat.le_refl _) (Nat.le_refl _) (hx0.1.fc X0.warmed.alike) hx0.1.is (g := (mkF m 1 #[.val (.ref x), .val (.int (Int32.ofNat i))] [.ref x])) rfl (by rw [hml]; rfl) c1 (argsL := []) (rest := []) rfl rfl (by show 2 * 0 + 0 ≤ _; decide) (hb hbytes d1) (⟨rfl, hx0.2.2.1, hx.2.2.2.2.1.cd, s1.there X0.warmed.alike hh0, hz⟩)
  obtain ⟨rfl, q2⟩ := E2
  have hh2 := q2.trans hh0
  have hx2 := hx.mv X2.warmed.alike hh2
  obtain ⟨-, k1, k2⟩ | ⟨k0, -⟩ := hx.2.2.2.2.1
  · have c3 : Steps p.tables e below (s₁.setTop (entryFrame m #[.ref x, .int (Int32.ofNat i)] 2)) (T2.setTop (mkF m 8 #[.val (.ref x), .val (.int (Int32.ofNat i))] [.ref x])) := Steps.trans g2 (by
      refine XS.ifNo X2.here hexec rfl (hb hbytes d4) rfl (i0_eq_f (by decide)) ?_
      refine XS.aloadN X2.here hexec rfl (hb hbytes d7) rfl rfl ?_
      exact Steps.refl _)
    obtain ⟨T4, X4, q4, st4⟩ := X2.hget hexec hown (wk W (.fieldLink "java/lang/String" 9 "java/lang/String" "value" "[B")) hx2.2.1 (g := (mkF m 8 #[.val (.ref x), .val (.int (Int32.ofNat i))] [.ref x])) rfl (rest := []) rfl (hb hbytes d8)
    have hh4 := q4.trans hh2
    have c5 : Steps p.tables e below (s₁.setTop (entryFrame m #[.ref x, .int (Int32.ofNat i)] 2)) (T4.setTop (mkF m 12 #[.val (.ref x), .val (.int (Int32.ofNat i))] [.int (Int32.ofNat i), .ref t])) := (c3.trans (st4 _ (Steps.refl _))).trans (by
      refine XS.iloadN X4.here hexec rfl (hb hbytes d11) rfl ?_
      exact Steps.refl _)
    obtain ⟨v6, T6, X6, E6, g6⟩ := X4.callS hexec (LChA.law l t V i (lo8 (f i)) fm) hown (wks W (staticW "java/lang/String" 495 LChA.yN)) (wk W LChA.tab) (W := 0) (Nat.le_of_ble_eq_true rfl) (Nat.le_of_ble_eq_true rfl) (Nat.le_refl _) (Nat.le_refl _) (g := (mkF m 12 #[.val (.ref x), .val (.int (Int32.ofNat i))] [.int (Int32.ofNat i), .ref t])) rfl (by rw [hml]; rfl) c5 (argsL := [.ref t, .int (Int32.ofNat i)]) (rest := []) rfl rfl (by show 2 * 0 + 0 ≤ _; decide) (hb hbytes d12) (⟨rfl, hx.2.2.2.1.mv X4.warmed.alike hh4, (k2 i hi).1, s3.there X4.warmed.alike hh4, rf⟩)
    obtain ⟨rfl, q6⟩ := E6
    rw [chr8_lo8 hr.1 (k2 i hi).2] at g6
    exact ⟨T6, some (.int (f i)), _, _, _, X6, rfl, rfl, rfl, (fun h => by cases h), ⟨rfl, q6.trans hh4⟩, fun fs hl => Steps.trans g6 (X6.ireturnOut hexec hret (narrow_ch hr.1 hr.2) (Or.inr (Or.inr (Or.inr (Or.inl rfl)))) (hb hbytes d15) hl)⟩
  · exact absurd k0 (by decide)
theorem pays {l : Launch} {R : Room} {p : Program} {e : Env} {below : List Frame} {s : State} {sargs : Array Value} {len W : Nat} (x t : Addr) (V : Cell) (n : Nat) (f : Nat → Int32) (z : Int32) (fm : Value) (i : Nat) (htab : tab.before sargs s = true) (hfr : 4 ≤ R.frames) (hlo : W + 53 ≤ R.locals) :
    Back l R p e below s sargs yN len W (fun A₁ a₁ => A₁.cells + 0 ≤ R.cells ∧ A₁.slots + 0 ≤ R.slots ∧ P x t V n f z fm i a₁ A₁.U) (fun A₁ _ v₁ B₁ => E f i v₁ A₁.U B₁.U ∧ B₁.locs = A₁.locs ++ [] ∧ B₁.cells = A₁.cells + 0 ∧ B₁.slots = A₁.slots + 0) :=
  (law l x t V n f z fm i).pays htab hfr (by omega)
end ChN
end StrChars
namespace StrChars.Road
open Jvm Sem ClassFile Op Lib Jvm.Stand Jvm.Free Jvm.Free.XT
open Jvm.Lib.Cold (StaticIs)
abbrev wordsChN : List Jvm.Cond := [.code ChN.yN ChN.yB 2 (some .char), .initialized ST, .fieldLink ST 9 ST "value" "[B", .fieldLink ST 38 ST "COMPACT_STRINGS" "Z", .fieldLink ST 15 ST "coder" "B", .code IsL.yN IsL.yB 1 (some .boolean), .methodLink ST 492 IsL.yN, .declares IsL.yN, .selects ST IsL.yN IsL.yN, .instanceMethod IsL.yN,
  .methodLink ST 495 LChA.yN, .static LChA.yN, .code LChA.yN LChA.yB 2 (some .char), .initialized "java/lang/StringLatin1", .methodLink "java/lang/StringLatin1" 9 JO.Str_checkIndex.yN, .static JO.Str_checkIndex.yN, .code JO.Str_checkIndex.yN JO.Str_checkIndex.yB 2 none,
  .fieldLink ST 1053 "jdk/internal/util/Preconditions" "SIOOBE_FORMATTER" "Ljava/util/function/BiFunction;", .methodLink ST 1059 JC.PreCheck.yN, .static JC.PreCheck.yN, .code JC.PreCheck.yN JC.PreCheck.yB 3 (some .int), .initialized "jdk/internal/util/Preconditions"]
theorem tabChN_of {a : Array Value} {s : State} (h : ∀ w ∈ wordsChN, w.before a s = true) : ChN.tab.before a s = true := by
  have hp : JC.PreCheck.tab.before a s = true := unparts (wk h (.code JC.PreCheck.yN JC.PreCheck.yB 3 (some .int))) (wks h (.initialized JC.PreCheck.yN.cls :: JC.PreCheck.site))
  have qk := consq hp h
  have hk : JO.Str_checkIndex.tab.before a s = true := unparts (wk qk (.code JO.Str_checkIndex.yN JO.Str_checkIndex.yB 2 none)) (wks qk (.initialized JO.Str_checkIndex.yN.cls :: JO.Str_checkIndex.site))
  have ql := consq hk h
  have hl : LChA.tab.before a s = true := unparts (wk ql (.code LChA.yN LChA.yB 2 (some .char))) (wks ql (.initialized LChA.yN.cls :: LChA.site))
  have hi : IsL.tab.before a s = true := unparts (wk h (.code IsL.yN IsL.yB 1 (some .boolean))) (wks h (.initialized IsL.yN.cls :: IsL.site))
  have q := consq hi (consq hl h)
  exact unparts (wk q (.code ChN.yN ChN.yB 2 (some .char))) (wks q (.initialized ChN.yN.cls :: ChN.site))
theorem movedChN {Z s : State} {a0 args : Array Value} (hZ : Z.Warmed39 s.vm) (hw : ∀ d ∈ wordsChN, d.before a0 Z = true) : ∀ d ∈ wordsChN, d.before args s = true := fun d hd => by
  have t : ∀ d ∈ wordsChN, (d.onTables && d.keepsFace) = true := by decide +kernel
  exact RoadKit.mv hZ (hw d hd) (t d hd)
theorem chN {p : Program} {l : Launch} {e : Env} {R : Room} {s : State} {args : Array Value} {below : List Frame} {len W : Nat} {Z : State} {a0 : Array Value} {h : Heap} (hZ : Z.Warmed39 s.vm) (hw : ∀ d ∈ wordsChN, d.before a0 Z = true) {kI : Nat} (wi : (Jvm.Cond.instantiable ST kI).before a0 Z = true)
    {x t : Addr} {kb : ClassId} {cs : List Int32} {N2 z : Int32} {vs : List Value} {fm : Value} {i : Nat} {j : Int32} (E : RoadKit.Exa Z h x ST) (V : RoadKit.Fld Z h x ST "value" "[B" (.ref t)) (C : RoadKit.Fld Z h x ST "coder" "B" (.int 0)) (K : RoadKit.Arv Z h t kb .byte N2 vs (.int 0)) (hc : CodA cs 0 N2 vs) (hb : ∀ c ∈ cs, ¬ c < 0 ∧ ¬ (65535 : Int32) < c)
    (S : RoadKit.Sta Z h ST "COMPACT_STRINGS" "Z" (.int z)) (hz : ¬ z = 0) (F : RoadKit.Sta Z h "jdk/internal/util/Preconditions" "SIOOBE_FORMATTER" "Ljava/util/function/BiFunction;" fm) (rf : fm.isRef = true) (l2 : cs.length ≤ 4000) (hi : i < cs.length) (hj : j = Int32.ofNat i) (hfr : 4 ≤ R.frames) (hlo : W + 53 ≤ R.locals) :
    Back l R p e below s args (⟨"java/lang/String", "charAt", "(I)C"⟩ : MethodName) len W (fun P a => a = #[.ref x, .int j] ∧ P.U.heap = h ∧ P.cells + 0 ≤ R.cells ∧ P.slots + 0 ≤ R.slots)
      (fun P _ v B => ∃ L, (v = some (.int (cs.getD i 0)) ∧ L = [] ∧ B.U.heap = h) ∧ B.locs = P.locs ++ L ∧ B.cells = P.cells + 0 ∧ B.slots = P.slots + 0) := by
  subst hj
  intro m meth c P g ig mk a X hg hsize hdg hW hn hp'
  obtain ⟨rfl, rfl, r1, r2⟩ := hp'
  have al : Z.vm.Alike P.U.vm := hZ.alike.trans X.warmed.alike
  obtain ⟨A, hx⟩ := txt_of wi al E V C K hc hb l2
  obtain ⟨v, B, X', ⟨⟨hv, hh⟩, hl, hk, hs⟩, st⟩ := ChN.pays x t A cs.length (fun j => cs.getD j 0) z fm i (tabChN_of (movedChN hZ hw)) hfr hlo m meth c P g ig mk _ X hg hsize hdg hW hn ⟨r1, r2, rfl, hx, hi, sta_is al S, hz, sta_is al F, rf⟩
  exact ⟨v, B, X', ⟨[], ⟨hv, rfl, hh⟩, hl, hk, hs⟩, st⟩
theorem codOf {cs : List Int32} {n : Nat} (hn : cs.length = n) (hb : ∀ c ∈ cs, ¬ 255 < c) : CodA cs 0 (Int32.ofNat n) ((cs.map lo8).map Value.int) := Or.inl ⟨rfl, by rw [hn], by simp [List.map_map, Function.comp_def], hb⟩
end StrChars.Road
end Jvm.Pilot.@@N@@

namespace Jvm.Pilot.@@N@@
open Jvm Jvm.ClassFile Sem Op Lib Jvm.Free Jvm.Stand Jvm.LawKit Jvm.RoadKit Bundle Jvm.Pilot.@@N@@.Jvm.D
section Own
variable {p : Program} {l : Launch} {e : Env} {R : Room} {s : State} {m : MethodId} {args : Array Value} {below : List Frame} {meth : Method} {c : Code} {T : State} {locs : List Loc} {cells slots : Nat} {P : Outcome → State → Prop}
/-- from S the run comes to an end that answers -/
def own_Fin (p : Program) (e : Env) (below : List Frame) (P : Outcome → State → Prop) (S : State) : Prop := ∃ s₂ o, Steps p.tables e below S s₂ ∧ s₂.status = .running ∧ Ended s₂ below o ∧ P o s₂
def own_Ans (s : State) (Q : Option Value → Heap → List Loc → Prop) (k n : Nat) (o : Outcome) (t : State) : Prop := ∃ v L, o = .returned v ∧ Q v t.heap L ∧ FrameEnd s o t L k n
theorem own_on {A B : State} (k : ∀ t, Steps p.tables e below B t → Steps p.tables e below A t) (h : own_Fin p e below P B) : own_Fin p e below P A := by
  obtain ⟨s₂, o, h1, h2⟩ := h
  exact ⟨s₂, o, k _ h1, h2⟩
theorem own_via {A B : State} (k : Steps p.tables e below A B) (h : own_Fin p e below P B) : own_Fin p e below P A := own_on (fun _ r => k.trans r) h
theorem own_cast {g g' : JFrame} (q : g = g') (h : own_Fin p e below P (T.setTop g')) : own_Fin p e below P (T.setTop g) := q ▸ h
theorem own_ret {Q : Option Value → Heap → List Loc → Prop} {k n : Nat} (X : Stand p l e R s m args below meth c T locs cells slots) (hx : p.tables.exec = Jvm.exec) (hlk : meth.locks = false) {pc : Nat} {Ls : Array Slot} {w : Value} {t : FieldType} {i : Instr} {rest : List Value} (hret : meth.sig.returnType = some t) (hn : narrow t w = w)
    (hi : (i = .ireturn ∧ (t = .int ∨ t = .boolean ∨ t = .byte ∨ t = .char ∨ t = .short) ∧ ∃ z, w = .int z) ∨ (i = .lreturn ∧ t = .long ∧ ∃ z, w = .long z) ∨ (i = .dreturn ∧ t = .double ∧ ∃ z, w = .double z) ∨ (i = .freturn ∧ t = .float ∧ ∃ z, w = .float z) ∨ (i = .areturn ∧ t.isReference = true ∧ w.isRef = true))
    (hd : decode c.code pc = .ok (i, 1)) (hQ : Q (some w) T.heap locs) (hk : cells ≤ k) (hs : slots ≤ n) : own_Fin p e below (own_Ans s Q k n) (T.setTop (mkF m pc Ls (w :: rest))) := by
  obtain ⟨fs, hr, hrun, hended, hW, hsame⟩ := X.leave (v := some w) (fun h => by rw [hret] at h; cases h) hlk
  exact ⟨_, _, retOut X hx hret hn hi hd hr, hrun, hended, _, _, rfl, hQ, ⟨_, rfl⟩, hW, hsame.mono hk hs⟩
theorem own_retV {Q : Option Value → Heap → List Loc → Prop} {k n : Nat} (X : Stand p l e R s m args below meth c T locs cells slots) (hx : p.tables.exec = Jvm.exec) (hlk : meth.locks = false) {pc : Nat} {Ls : Array Slot} (hret : meth.sig.returnType = none)
    (hd : decode c.code pc = .ok (.return_, 1)) (hQ : Q none T.heap locs) (hk : cells ≤ k) (hs : slots ≤ n) : own_Fin p e below (own_Ans s Q k n) (T.setTop (mkF m pc Ls [])) := by
  obtain ⟨fs, hr, hrun, hended, hW, hsame⟩ := X.leave (v := none) (fun _ => rfl) hlk
  exact ⟨_, _, X.returnOut hx hret hd hr, hrun, hended, _, _, rfl, hQ, ⟨_, rfl⟩, hW, hsame.mono hk hs⟩
theorem own_b1 {P : Prop} [Decidable P] (h : P) : ¬ ((if P then (1 : Int32) else 0) = 0) := by simp [h]
theorem own_b0 {P : Prop} [Decidable P] (h : ¬ P) : (if P then (1 : Int32) else 0) = 0 := by simp [h]
theorem own_nb {P : Prop} [Decidable P] : narrow .boolean (.int (if P then (1 : Int32) else 0)) = .int (if P then (1 : Int32) else 0) := by split <;> rfl
theorem own_iI {t : FieldType} (h : t = .int ∨ t = .boolean ∨ t = .byte ∨ t = .char ∨ t = .short) {w : Value} {z : Int32} (hw : w = .int z) : ((Instr.ireturn = .ireturn ∧ (t = .int ∨ t = .boolean ∨ t = .byte ∨ t = .char ∨ t = .short) ∧ ∃ z, w = .int z) ∨ (Instr.ireturn = .lreturn ∧ t = .long ∧ ∃ z, w = .long z) ∨ (Instr.ireturn = .dreturn ∧ t = .double ∧ ∃ z, w = .double z) ∨ (Instr.ireturn = .freturn ∧ t = .float ∧ ∃ z, w = .float z) ∨ (Instr.ireturn = .areturn ∧ t.isReference = true ∧ w.isRef = true)) := Or.inl ⟨rfl, h, z, hw⟩
theorem own_ne_of {Z : State} {h : Heap} {x : Addr} (q : x < h.size) {b : Addr} (g : b = h.size) : x ≠ b := Nat.ne_of_lt (Nat.lt_of_lt_of_le q (Nat.le_of_eq g.symm))
theorem own_eqf {a0 : Array Value} {C n d : String} {t : Term} {a : Addr} {k : Int32} (ev : t.eval a0 s none [] s = some (.ref a)) (h : (Jvm.Cond.eq (.field t C n d) (.int k)).value a0 s none s [] = some true) : Fld s s.heap a C n d (.int k) := by
  obtain ⟨x, y, h1, h2, h3, -⟩ := cmp_v (Or.inl h)
  have hy : y = .int k := (Option.some.inj ((show (Term.int k).eval a0 s none [] s = some (.int k) from rfl).symm.trans h2)).symm
  subst hy
  cases x <;> simp [Kin, Value.isRef] at h3
  rename_i z
  have hz : z = k := by
    have q := h
    simp only [Cond.value, h1, show (Term.int k).eval a0 s none [] s = some (.int k) from rfl] at q
    simpa using q
  subst hz
  exact Fld.start ((fld_at ev).symm.trans h1)
theorem own_nf {a0 : Array Value} {C : String} {y z y' : MethodName} (hsel : (Jvm.Cond.selects C y z).before a0 s = true) (hc : y'.cls = z.cls) : NotFace s y' := fun r0 h0 => by
  obtain ⟨c2, r2, m2, q1, q2, q3, q4, kP, hkP, hkPi⟩ := Cond.selects_spec hsel
  have e1 := findClass_of_methodNamed h0
  have e2 := findClass_of_methodNamed q3
  rw [hc] at e1
  have e3 : r0.cls = m2.cls := Option.some.inj (e1.symm.trans e2)
  exact ⟨kP, by rw [e3]; exact hkP, hkPi⟩
theorem own_len {a0 : Array Value} {t : Term} {a : Addr} {cl : Cell} {z : Int32} (ht : t.eval a0 s none [] s = some (.ref a)) (ha : s.arrayAt? a = some cl) (h : (Term.length t).eval a0 s none [] s = some (.int z)) : cl.slots.size < 2 ^ 31 ∧ cl.slots.size.toInt32 = z := by
  by_cases hl : cl.slots.size < 2 ^ 31
  · rw [len_f ht ha hl] at h
    exact ⟨hl, by simpa using h⟩
  · have hl' : ¬ cl.slots.size < 2147483648 := hl
    simp [Term.eval, ht, ha, hl'] at h
theorem own_sub {a0 : Array Value} {t u : Term} {idx : List Nat} {x y : Int32} (h1 : t.eval a0 s none idx s = some (.int x)) (h2 : u.eval a0 s none idx s = some (.int y)) : (Term.sub t u).eval a0 s none idx s = some (.int (x - y)) := by simp [Term.eval, h1, h2]
theorem own_eqx {a0 : Array Value} {t u : Term} {b : Addr} (eu : u.eval a0 s none [] s = some (.ref b)) (h : (Jvm.Cond.eq t u).value a0 s none s [] = some true) : t.eval a0 s none [] s = some (.ref b) := by
  obtain ⟨x, y, h1, h2, h3, -⟩ := cmp_v (Or.inl h)
  cases eu.symm.trans h2
  have hr : x.isRef = true := by cases x <;> simp [Kin, Value.isRef] at h3 ⊢
  have q := gotT (eq_R h1 eu hr rfl) h
  subst q
  exact h1
theorem own_eqr {a0 : Array Value} {C n d : String} {t u : Term} {a b : Addr} (ev : t.eval a0 s none [] s = some (.ref a)) (eu : u.eval a0 s none [] s = some (.ref b)) (h : (Jvm.Cond.eq (.field t C n d) u).value a0 s none s [] = some true) : Fld s s.heap a C n d (.ref b) := by
  obtain ⟨x, y, h1, h2, h3, -⟩ := cmp_v (Or.inl h)
  cases eu.symm.trans h2
  have hr : x.isRef = true := by cases x <;> simp [Kin, Value.isRef] at h3 ⊢
  have q := gotT (eq_R h1 eu hr rfl) h
  subst q
  exact Fld.start ((fld_at ev).symm.trans h1)
end Own
abbrev own_M (l : Launch) (y : MethodName) (code : ByteArray) (ml : Nat) (ret : Option FieldType) (ws : List Jvm.Cond) (rm : Room) (a1 : Array Value) (Z : State) (h0 : Heap) (Q : Option Value → Heap → List Loc → Prop) : Prop := MetFree l y (head1 (Jvm.Cond.code y code ml ret :: ws) rm) (fun as_ U => as_ = a1 ∧ Z.Warmed39 U.vm ∧ U.heap = h0) (fun _ _ _ _ _ => True) (fun _ U out_ U' => ∃ v L, out_ = .returned v ∧ Q v U'.heap L ∧ FrameEnd U out_ U' L rm.cells rm.slots)
def oL (c : ByteArray) (l : List (Nat × Instr × Nat)) : Prop := ∀ x ∈ l, decode c x.1 = .ok (x.2.1, x.2.2)
theorem od {c : ByteArray} {l : List (Nat × Instr × Nat)} (h : oL c l) (i : Nat) {pc n : Nat} {q : Instr} (e : l[i]? = some (pc, q, n)) : decode c pc = .ok (q, n) := h (pc, q, n) (List.mem_of_getElem? e)
theorem own_start {p : Program} {l : Launch} {x : MethodName} {S : Spec} {code : ByteArray} {maxL : Nat} {ret : Option FieldType} {e : Env} {s : State} {m : MethodId} {args : Array Value} {below : List Frame} {meth : Method} {c : Code} {s₁ : State} {h0 : Heap} {R : Room} (Bd : BodyLoose p l x S code maxL ret e s m args below meth c s₁) (hh : s.heap = h0) (hR : S.room = R) : Stand p l e R s m args below meth c s₁ [] 0 0 ∧ s₁.heap = h0 ∧ (p.tables.exec = Jvm.exec ∧ c.code = code) ∧ meth.locks = false ∧ s.vm.findClass x.cls = some m.cls ∧ meth.sig.returnType = ret := ⟨hR ▸ Stand.of_body Bd, by rw [← hh, Bd.state]; rfl, ⟨Bd.exec, Bd.bytes⟩, BodyLoose.notSynchronized Bd, findClass_of_methodNamed Bd.named, Bd.returns⟩
section OwnX
variable {p : Program} {l : Launch} {e : Env} {R : Room} {s : State} {m : MethodId} {args : Array Value} {below : List Frame} {meth : Method} {c : Code} {T : State} {locs : List Loc} {cells slots : Nat} {P : Outcome → State → Prop} {code : ByteArray} {pc : Nat} {L : Array Slot} {S : List Value}
theorem o_ildN (X : Stand p l e R s m args below meth c T locs cells slots) (H : p.tables.exec = Jvm.exec ∧ c.code = code) {k : Fin 4} {v : Int32} (d : decode code pc = .ok (.iload_n k, 1)) (hl : L[k.val]? = some (.val (.int v))) (h : own_Fin p e below P (T.setTop (mkF m (pc + 1) L (.int v :: S)))) : own_Fin p e below P (T.setTop (mkF m pc L (S))) := own_on (fun _ q => XS.iloadN X.here H.1 rfl (hb H.2 d) hl q) h
theorem o_ild (X : Stand p l e R s m args below meth c T locs cells slots) (H : p.tables.exec = Jvm.exec ∧ c.code = code) {k : Nat} {v : Int32} (d : decode code pc = .ok (.iload k, 2)) (hl : L[k]? = some (.val (.int v))) (h : own_Fin p e below P (T.setTop (mkF m (pc + 2) L (.int v :: S)))) : own_Fin p e below P (T.setTop (mkF m pc L (S))) := own_on (fun _ q => XS.iload X.here H.1 rfl (hb H.2 d) hl q) h
theorem o_istN (X : Stand p l e R s m args below meth c T locs cells slots) (H : p.tables.exec = Jvm.exec ∧ c.code = code) {k : Fin 4} {v : Int32} {L' : Array Slot} (d : decode code pc = .ok (.istore_n k, 1)) (hl : storeLocals L k.val (.int v) = some L') (h : own_Fin p e below P (T.setTop (mkF m (pc + 1) L' (S)))) : own_Fin p e below P (T.setTop (mkF m pc L (.int v :: S))) := own_on (fun _ q => XS.istoreN X.here H.1 rfl (hb H.2 d) rfl hl q) h
theorem o_ist (X : Stand p l e R s m args below meth c T locs cells slots) (H : p.tables.exec = Jvm.exec ∧ c.code = code) {k : Nat} {v : Int32} {L' : Array Slot} (d : decode code pc = .ok (.istore k, 2)) (hl : storeLocals L k (.int v) = some L') (h : own_Fin p e below P (T.setTop (mkF m (pc + 2) L' (S)))) : own_Fin p e below P (T.setTop (mkF m pc L (.int v :: S))) := own_on (fun _ q => XS.istore X.here H.1 rfl (hb H.2 d) rfl hl q) h
theorem o_lldN (X : Stand p l e R s m args below meth c T locs cells slots) (H : p.tables.exec = Jvm.exec ∧ c.code = code) {k : Fin 4} {v : Int64} (d : decode code pc = .ok (.lload_n k, 1)) (hl : L[k.val]? = some (.val (.long v))) (h : own_Fin p e below P (T.setTop (mkF m (pc + 1) L (.long v :: S)))) : own_Fin p e below P (T.setTop (mkF m pc L (S))) := own_on (fun _ q => XS.lloadN X.here H.1 rfl (hb H.2 d) hl q) h
theorem o_lld (X : Stand p l e R s m args below meth c T locs cells slots) (H : p.tables.exec = Jvm.exec ∧ c.code = code) {k : Nat} {v : Int64} (d : decode code pc = .ok (.lload k, 2)) (hl : L[k]? = some (.val (.long v))) (h : own_Fin p e below P (T.setTop (mkF m (pc + 2) L (.long v :: S)))) : own_Fin p e below P (T.setTop (mkF m pc L (S))) := own_on (fun _ q => XS.lload X.here H.1 rfl (hb H.2 d) hl q) h
theorem o_lstN (X : Stand p l e R s m args below meth c T locs cells slots) (H : p.tables.exec = Jvm.exec ∧ c.code = code) {k : Fin 4} {v : Int64} {L' : Array Slot} (d : decode code pc = .ok (.lstore_n k, 1)) (hl : storeLocals L k.val (.long v) = some L') (h : own_Fin p e below P (T.setTop (mkF m (pc + 1) L' (S)))) : own_Fin p e below P (T.setTop (mkF m pc L (.long v :: S))) := own_on (fun _ q => XS.lstoreN X.here H.1 rfl (hb H.2 d) rfl hl q) h
theorem o_lst (X : Stand p l e R s m args below meth c T locs cells slots) (H : p.tables.exec = Jvm.exec ∧ c.code = code) {k : Nat} {v : Int64} {L' : Array Slot} (d : decode code pc = .ok (.lstore k, 2)) (hl : storeLocals L k (.long v) = some L') (h : own_Fin p e below P (T.setTop (mkF m (pc + 2) L' (S)))) : own_Fin p e below P (T.setTop (mkF m pc L (.long v :: S))) := own_on (fun _ q => XS.lstore X.here H.1 rfl (hb H.2 d) rfl hl q) h
theorem o_aldN (X : Stand p l e R s m args below meth c T locs cells slots) (H : p.tables.exec = Jvm.exec ∧ c.code = code) {k : Fin 4} {v : Value} (d : decode code pc = .ok (.aload_n k, 1)) (hl : L[k.val]? = some (.val v)) (hv : v.isRef = true) (h : own_Fin p e below P (T.setTop (mkF m (pc + 1) L (v :: S)))) : own_Fin p e below P (T.setTop (mkF m pc L (S))) := own_on (fun _ q => XS.aloadN X.here H.1 rfl (hb H.2 d) hl hv q) h
theorem o_ald (X : Stand p l e R s m args below meth c T locs cells slots) (H : p.tables.exec = Jvm.exec ∧ c.code = code) {k : Nat} {v : Value} (d : decode code pc = .ok (.aload k, 2)) (hl : L[k]? = some (.val v)) (hv : v.isRef = true) (h : own_Fin p e below P (T.setTop (mkF m (pc + 2) L (v :: S)))) : own_Fin p e below P (T.setTop (mkF m pc L (S))) := own_on (fun _ q => XS.aload X.here H.1 rfl (hb H.2 d) hl hv q) h
theorem o_astN (X : Stand p l e R s m args below meth c T locs cells slots) (H : p.tables.exec = Jvm.exec ∧ c.code = code) {k : Fin 4} {v : Value} {L' : Array Slot} (d : decode code pc = .ok (.astore_n k, 1)) (hv : v.isRef = true) (hl : storeLocals L k.val v = some L') (h : own_Fin p e below P (T.setTop (mkF m (pc + 1) L' (S)))) : own_Fin p e below P (T.setTop (mkF m pc L (v :: S))) := own_on (fun _ q => XS.astoreN X.here H.1 rfl (hb H.2 d) rfl hv hl q) h
theorem o_ast (X : Stand p l e R s m args below meth c T locs cells slots) (H : p.tables.exec = Jvm.exec ∧ c.code = code) {k : Nat} {v : Value} {L' : Array Slot} (d : decode code pc = .ok (.astore k, 2)) (hv : v.isRef = true) (hl : storeLocals L k v = some L') (h : own_Fin p e below P (T.setTop (mkF m (pc + 2) L' (S)))) : own_Fin p e below P (T.setTop (mkF m pc L (v :: S))) := own_on (fun _ q => XS.astore X.here H.1 rfl (hb H.2 d) rfl hv hl q) h
theorem o_ic (X : Stand p l e R s m args below meth c T locs cells slots) (H : p.tables.exec = Jvm.exec ∧ c.code = code) {i : Int} {v : Int32} (d : decode code pc = .ok (.iconst i, 1)) (hv : Int32.ofInt i = v) (h : own_Fin p e below P (T.setTop (mkF m (pc + 1) L (.int v :: S)))) : own_Fin p e below P (T.setTop (mkF m pc L S)) := by subst hv; exact own_on (fun _ q => XS.iconst X.here H.1 rfl (hb H.2 d) q) h
theorem o_bi (X : Stand p l e R s m args below meth c T locs cells slots) (H : p.tables.exec = Jvm.exec ∧ c.code = code) {i : Int} {v : Int32} (d : decode code pc = .ok (.bipush i, 2)) (hv : (Int8.ofInt i).toInt32 = v) (h : own_Fin p e below P (T.setTop (mkF m (pc + 2) L (.int v :: S)))) : own_Fin p e below P (T.setTop (mkF m pc L S)) := by subst hv; exact own_on (fun _ q => XS.bipush X.here H.1 rfl (hb H.2 d) q) h
theorem o_si (X : Stand p l e R s m args below meth c T locs cells slots) (H : p.tables.exec = Jvm.exec ∧ c.code = code) {i : Int} {v : Int32} (d : decode code pc = .ok (.sipush i, 3)) (hv : (Int16.ofInt i).toInt32 = v) (h : own_Fin p e below P (T.setTop (mkF m (pc + 3) L (.int v :: S)))) : own_Fin p e below P (T.setTop (mkF m pc L S)) := by subst hv; exact own_on (fun _ q => XS.sipush X.here H.1 rfl (hb H.2 d) q) h
theorem o_nul (X : Stand p l e R s m args below meth c T locs cells slots) (H : p.tables.exec = Jvm.exec ∧ c.code = code)  (d : decode code pc = .ok (.aconst_null, 1))  (h : own_Fin p e below P (T.setTop (mkF m (pc + 1) L (.null :: S)))) : own_Fin p e below P (T.setTop (mkF m pc L (S))) := own_on (fun _ q => XS.aconstNull X.here H.1 rfl (hb H.2 d) q) h
theorem o_iadd (X : Stand p l e R s m args below meth c T locs cells slots) (H : p.tables.exec = Jvm.exec ∧ c.code = code) {x y : Int32} (d : decode code pc = .ok (.iadd, 1))  (h : own_Fin p e below P (T.setTop (mkF m (pc + 1) L (.int (x + y) :: S)))) : own_Fin p e below P (T.setTop (mkF m pc L (.int y :: .int x :: S))) := own_on (fun _ q => XS.iadd X.here H.1 rfl (hb H.2 d) rfl q) h
theorem o_isub (X : Stand p l e R s m args below meth c T locs cells slots) (H : p.tables.exec = Jvm.exec ∧ c.code = code) {x y : Int32} (d : decode code pc = .ok (.isub, 1))  (h : own_Fin p e below P (T.setTop (mkF m (pc + 1) L (.int (x - y) :: S)))) : own_Fin p e below P (T.setTop (mkF m pc L (.int y :: .int x :: S))) := own_on (fun _ q => XS.isub X.here H.1 rfl (hb H.2 d) rfl q) h
theorem o_iand (X : Stand p l e R s m args below meth c T locs cells slots) (H : p.tables.exec = Jvm.exec ∧ c.code = code) {x y : Int32} (d : decode code pc = .ok (.iand, 1))  (h : own_Fin p e below P (T.setTop (mkF m (pc + 1) L (.int (x &&& y) :: S)))) : own_Fin p e below P (T.setTop (mkF m pc L (.int y :: .int x :: S))) := own_on (fun _ q => XS.iand X.here H.1 rfl (hb H.2 d) rfl q) h
theorem o_dup (X : Stand p l e R s m args below meth c T locs cells slots) (H : p.tables.exec = Jvm.exec ∧ c.code = code) {x : Value} (d : decode code pc = .ok (.dup, 1)) (hc : x.category = 1) (h : own_Fin p e below P (T.setTop (mkF m (pc + 1) L (x :: x :: S)))) : own_Fin p e below P (T.setTop (mkF m pc L (x :: S))) := own_on (fun _ q => XS.dup X.here H.1 rfl (hb H.2 d) rfl hc q) h
theorem o_pop (X : Stand p l e R s m args below meth c T locs cells slots) (H : p.tables.exec = Jvm.exec ∧ c.code = code) {x : Value} (d : decode code pc = .ok (.pop, 1)) (hc : x.category = 1) (h : own_Fin p e below P (T.setTop (mkF m (pc + 1) L (S)))) : own_Fin p e below P (T.setTop (mkF m pc L (x :: S))) := own_on (fun _ q => XS.pop X.here H.1 rfl (hb H.2 d) rfl hc q) h
theorem o_go (X : Stand p l e R s m args below meth c T locs cells slots) (H : p.tables.exec = Jvm.exec ∧ c.code = code)  {o : Int} {pc' : Nat} (d : decode code pc = .ok (.goto o, 3))  (ho : 0 ≤ (pc : Int) + o) (hp : ((pc : Int) + o).toNat = pc') (h : own_Fin p e below P (T.setTop (mkF m pc' L S))) : own_Fin p e below P (T.setTop (mkF m pc L (S))) := own_on (fun _ q => XS.goto X.here H.1 rfl rfl (hb H.2 d) ho hp q) h
theorem o_ifY (X : Stand p l e R s m args below meth c T locs cells slots) (H : p.tables.exec = Jvm.exec ∧ c.code = code) {cc : ClassFile.Cond} {x : Int32} {o : Int} {pc' : Nat} (d : decode code pc = .ok (.ifCond cc o, 3)) (hc : ifCond.holds cc x = true) (ho : 0 ≤ (pc : Int) + o) (hp : ((pc : Int) + o).toNat = pc') (h : own_Fin p e below P (T.setTop (mkF m pc' L S))) : own_Fin p e below P (T.setTop (mkF m pc L (.int x :: S))) := own_on (fun _ q => XS.ifYes X.here H.1 rfl rfl (hb H.2 d) rfl hc ho hp q) h
theorem o_icY (X : Stand p l e R s m args below meth c T locs cells slots) (H : p.tables.exec = Jvm.exec ∧ c.code = code) {cc : ClassFile.Cond} {x y : Int32} {o : Int} {pc' : Nat} (d : decode code pc = .ok (.if_icmp cc o, 3)) (hc : if_icmp.holds cc x y = true) (ho : 0 ≤ (pc : Int) + o) (hp : ((pc : Int) + o).toNat = pc') (h : own_Fin p e below P (T.setTop (mkF m pc' L S))) : own_Fin p e below P (T.setTop (mkF m pc L (.int y :: .int x :: S))) := own_on (fun _ q => XS.icmpYes X.here H.1 rfl rfl (hb H.2 d) rfl hc ho hp q) h
theorem o_ifN (X : Stand p l e R s m args below meth c T locs cells slots) (H : p.tables.exec = Jvm.exec ∧ c.code = code) {cc : ClassFile.Cond} {o : Int} {x : Int32} (d : decode code pc = .ok (.ifCond cc o, 3)) (hc : ifCond.holds cc x = false) (h : own_Fin p e below P (T.setTop (mkF m (pc + 3) L (S)))) : own_Fin p e below P (T.setTop (mkF m pc L (.int x :: S))) := own_on (fun _ q => XS.ifNo X.here H.1 rfl (hb H.2 d) rfl hc q) h
theorem o_icN (X : Stand p l e R s m args below meth c T locs cells slots) (H : p.tables.exec = Jvm.exec ∧ c.code = code) {cc : ClassFile.Cond} {o : Int} {x y : Int32} (d : decode code pc = .ok (.if_icmp cc o, 3)) (hc : if_icmp.holds cc x y = false) (h : own_Fin p e below P (T.setTop (mkF m (pc + 3) L (S)))) : own_Fin p e below P (T.setTop (mkF m pc L (.int y :: .int x :: S))) := own_on (fun _ q => XS.icmpNo X.here H.1 rfl (hb H.2 d) rfl hc q) h
theorem o_gf (X : Stand p l e R s m args below meth c T locs cells slots) (H : p.tables.exec = Jvm.exec ∧ c.code = code) {Z : State} {a0 : Array Value} {hp : Heap} (hZ : Z.Warmed39 s.vm) {own R0 O n d0 : String} {index : Nat} (hown : s.vm.findClass own = some m.cls) (w : (Cond.fieldLink own index R0 n d0).before a0 Z = true) (via : Via Z R0 O n d0) (eT : T.heap = hp) {a : Addr} {v : Value} (F : Fld Z hp a O n d0 v) (d : decode code pc = .ok (.getfield index, 3)) (h : ∀ T' : State, Stand p l e R s m args below meth c T' locs cells slots → T'.heap = hp → own_Fin p e below P (T'.setTop (mkF m (pc + 3) L (v :: S)))) : own_Fin p e below P (T.setTop (mkF m pc L (.ref a :: S))) := by
  obtain ⟨T', X', e', st⟩ := getF X H.1 hZ hown (host := "") (Or.inl w) via eT F (g := mkF m pc L (.ref a :: S)) rfl rfl (hb H.2 d)
  exact own_on st (h T' X' e')
theorem o_gs (X : Stand p l e R s m args below meth c T locs cells slots) (H : p.tables.exec = Jvm.exec ∧ c.code = code) {Z : State} {a0 : Array Value} {hp : Heap} (hZ : Z.Warmed39 s.vm) {own R0 O n d0 : String} {index : Nat} (hown : s.vm.findClass own = some m.cls) (w : (Cond.fieldLink own index R0 n d0).before a0 Z = true) (via : Via Z R0 O n d0) (eT : T.heap = hp) {v : Value} (F : Sta Z hp O n d0 v) (d : decode code pc = .ok (.getstatic index, 3)) (h : ∀ T' : State, Stand p l e R s m args below meth c T' locs cells slots → T'.heap = hp → own_Fin p e below P (T'.setTop (mkF m (pc + 3) L (v :: S)))) : own_Fin p e below P (T.setTop (mkF m pc L S)) := by
  obtain ⟨T', X', e', st⟩ := getS2 X H.1 hZ hown (host := "") (Or.inl w) via eT F (g := mkF m pc L S) rfl (hb H.2 d)
  exact own_on st (h T' X' e')
theorem o_bk {Q : Option Value → Heap → List Loc → Prop} {k j : Nat} {stk rest : List Value} {Sw : Vm → Prop} (R1 : ∃ (v : Option Value) (vm₁ : Vm) (B : Pt), Sw vm₁ ∧ Stand p l e R s m args below meth c B.U B.locs B.cells B.slots ∧ (∃ Lc, Q v B.U.heap Lc ∧ B.locs = locs ++ Lc ∧ B.cells = cells + k ∧ B.slots = slots + j) ∧ Steps p.tables e below (T.setTop (mkF m pc L stk)) (B.U.setTop { (mkF m pc L stk) with pc := (mkF m pc L stk).pc + 3, stack := v.toList ++ rest }))
    (h : ∀ (v : Option Value) (T' : State) (Lc : List Loc), Stand p l e R s m args below meth c T' (locs ++ Lc) (cells + k) (slots + j) → Q v T'.heap Lc → own_Fin p e below P (T'.setTop (mkF m (pc + 3) L (v.toList ++ rest)))) : own_Fin p e below P (T.setTop (mkF m pc L stk)) := by
  obtain ⟨v, vm₁, ⟨T', L', k', j'⟩, -, X', ⟨Lc, hQ, l1, y1, z1⟩, st⟩ := R1
  dsimp only [Pt.U, Pt.locs, Pt.cells, Pt.slots] at X' l1 y1 z1 st hQ
  subst l1 y1 z1
  exact own_via st (h v T' Lc X' hQ)
theorem o_bs {Q : Option Value → Heap → List Loc → Prop} {k j : Nat} {stk rest : List Value} {Sw : Vm → Prop} (R1 : ∃ (v : Option Value) (vm₁ : Vm) (B : Pt), Sw vm₁ ∧ Stand p l e R s m args below meth c B.U B.locs B.cells B.slots ∧ (∃ Lc, Q v B.U.heap Lc ∧ B.locs = locs ++ Lc ∧ B.cells = cells + k ∧ B.slots = slots + j) ∧ ∀ target, Steps p.tables e below (B.U.setTop { (mkF m pc L stk) with pc := (mkF m pc L stk).pc + 3, stack := v.toList ++ rest }) target → Steps p.tables e below (T.setTop (mkF m pc L stk)) target)
    (h : ∀ (v : Option Value) (T' : State) (Lc : List Loc), Stand p l e R s m args below meth c T' (locs ++ Lc) (cells + k) (slots + j) → Q v T'.heap Lc → own_Fin p e below P (T'.setTop (mkF m (pc + 3) L (v.toList ++ rest)))) : own_Fin p e below P (T.setTop (mkF m pc L stk)) := by
  obtain ⟨v, vm₁, ⟨T', L', k', j'⟩, hs, X', q, st⟩ := R1
  exact o_bk ⟨v, vm₁, ⟨T', L', k', j'⟩, hs, X', q, st _ (Steps.refl _)⟩ h
theorem o_mr {m0 : MethodId} {rest : List Value} {W : Nat} (h : (rest.map fun v => v.category).sum = W) : 2 * (mkF m0 pc L S).monitorRoom + (rest.map fun v => v.category).sum ≤ W := by
  show 2 * 0 + _ ≤ _; rw [h, Nat.mul_zero, Nat.zero_add]; exact Nat.le_refl _
end OwnX
section OwnY
variable {p : Program} {l : Launch} {e : Env} {R : Room} {s : State} {m : MethodId} {args : Array Value} {below : List Frame} {meth : Method} {c : Code} {T : State} {locs : List Loc} {cells slots : Nat} {P : Outcome → State → Prop} {code : ByteArray} {pc n : Nat} {L : Array Slot} {stk : List Value} {Z : State} {a0 : Array Value} {hp : Heap} {own : String} {index : Nat} {y z : MethodName} {as' : Array Value} {W k j : Nat} {Q : Option Value → Heap → List Loc → Prop} {argsL rest : List Value} {sig : MethodDescriptor}
theorem o_vc {C : String} {b : Addr} (X : Stand p l e R s m args below meth c T locs cells slots) (H : p.tables.exec = Jvm.exec ∧ c.code = code) (hml : c.maxLocals = n) (hZ : Z.Warmed39 s.vm) (hown : s.vm.findClass own = some m.cls) (w1 : (Cond.methodLink own index y).before a0 Z = true) (w2 : (Cond.declares y).before a0 Z = true) (nf : NotFace s y) (w3 : (Cond.selects C y z).before a0 Z = true) (w4 : (Cond.instanceMethod z).before a0 Z = true)
    (back : Back l R p e below s args z 3 W (fun A a => a = as' ∧ A.U.heap = hp ∧ A.cells + k ≤ R.cells ∧ A.slots + j ≤ R.slots) (fun A _ v B => ∃ Lc, Q v B.U.heap Lc ∧ B.locs = A.locs ++ Lc ∧ B.cells = A.cells + k ∧ B.slots = A.slots + j)) (hy : y.cls ≠ "java/lang/invoke/MethodHandle" ∧ y.cls ≠ "java/lang/invoke/VarHandle")
    (E : Exa Z hp b C) (eT : T.heap = hp) (hpd : parseMethodDescriptor y.desc = some sig) (d : decode code pc = .ok (.invokevirtual index, 3)) (hlen : argsL.length = sig.parameters.length) (hs : stk = argsL.reverse ++ .ref b :: rest) (ha : (.ref b :: argsL).toArray = as') (hL : L.size = n) (hW : (rest.map fun v => v.category).sum = W) (hc : cells + k ≤ R.cells) (hsl : slots + j ≤ R.slots)
    (h : ∀ (v : Option Value) (T' : State) (Lc : List Loc), Stand p l e R s m args below meth c T' (locs ++ Lc) (cells + k) (slots + j) → Q v T'.heap Lc → own_Fin p e below P (T'.setTop (mkF m (pc + 3) L (v.toList ++ rest)))) : own_Fin p e below P (T.setTop (mkF m pc L stk)) := by
  obtain ⟨cq, kq, qa, qb, qc⟩ := isOf hZ eT E
  refine o_bk (X.virtualBack H.1 hown (mvT hZ w1) (mvT hZ w2) nf (mvT hZ w3) (mvT hZ w4) hy back qa qc (g := mkF m pc L stk) rfl (hL.trans hml.symm) (Steps.refl _) (argsL := argsL) (rest := rest) (lenOf hpd hlen) hs (o_mr hW) (hb H.2 d) (fun _ _ => ⟨ha, eT, hc, hsl⟩)) h
theorem o_vs {C : String} {b : Addr} (X : Stand p l e R s m args below meth c T locs cells slots) (H : p.tables.exec = Jvm.exec ∧ c.code = code) (hml : c.maxLocals = n) (hZ : Z.Warmed39 s.vm) (hown : s.vm.findClass own = some m.cls) (w1 : (Cond.methodLink own index y).before a0 Z = true) (w2 : (Cond.declares y).before a0 Z = true) (w3 : (Cond.selects C y y).before a0 Z = true) (w4 : (Cond.instanceMethod y).before a0 Z = true)
    (back : Back l R p e below s args y 3 W (fun A a => a = as' ∧ A.U.heap = hp ∧ A.cells + k ≤ R.cells ∧ A.slots + j ≤ R.slots) (fun A _ v B => ∃ Lc, Q v B.U.heap Lc ∧ B.locs = A.locs ++ Lc ∧ B.cells = A.cells + k ∧ B.slots = A.slots + j)) (hy : y.cls ≠ "java/lang/invoke/MethodHandle" ∧ y.cls ≠ "java/lang/invoke/VarHandle")
    (E : Exa Z hp b C) (eT : T.heap = hp) (hpd : parseMethodDescriptor y.desc = some sig) (d : decode code pc = .ok (.invokevirtual index, 3)) (hlen : argsL.length = sig.parameters.length) (hs : stk = argsL.reverse ++ .ref b :: rest) (ha : (.ref b :: argsL).toArray = as') (hL : L.size = n) (hW : (rest.map fun v => v.category).sum = W) (hc : cells + k ≤ R.cells) (hsl : slots + j ≤ R.slots)
    (h : ∀ (v : Option Value) (T' : State) (Lc : List Loc), Stand p l e R s m args below meth c T' (locs ++ Lc) (cells + k) (slots + j) → Q v T'.heap Lc → own_Fin p e below P (T'.setTop (mkF m (pc + 3) L (v.toList ++ rest)))) : own_Fin p e below P (T.setTop (mkF m pc L stk)) := o_vc X H hml hZ hown w1 w2 (notFace_of_selects (args := #[]) (mvT hZ w3)) w3 w4 back hy E eT hpd d hlen hs ha hL hW hc hsl h
theorem o_pc {bytes : ByteArray} {maxL : Nat} {ret : Option FieldType} {C : String} {b : Addr} (X : Stand p l e R s m args below meth c T locs cells slots) (H : p.tables.exec = Jvm.exec ∧ c.code = code) (hml : c.maxLocals = n) (hZ : Z.Warmed39 s.vm) (hown : s.vm.findClass own = some m.cls) (w1 : (Cond.methodLink own index y).before a0 Z = true) (w2 : (Cond.instanceMethod y).before a0 Z = true) (w3 : (Cond.selects y.cls y y).before args s = true) (w4 : (Cond.privateMethod y).before a0 Z = true) (w5 : (Cond.code y bytes maxL ret).before a0 Z = true)
    (back : Back l R p e below s args y 3 W (fun A a => a = as' ∧ A.U.heap = hp ∧ A.cells + k ≤ R.cells ∧ A.slots + j ≤ R.slots) (fun A _ v B => ∃ Lc, Q v B.U.heap Lc ∧ B.locs = A.locs ++ Lc ∧ B.cells = A.cells + k ∧ B.slots = A.slots + j)) (hy : y.cls ≠ "java/lang/invoke/MethodHandle" ∧ y.cls ≠ "java/lang/invoke/VarHandle")
    (E : Exa Z hp b C) (eT : T.heap = hp) (hpd : parseMethodDescriptor y.desc = some sig) (d : decode code pc = .ok (.invokevirtual index, 3)) (hlen : argsL.length = sig.parameters.length) (hs : stk = argsL.reverse ++ .ref b :: rest) (ha : (.ref b :: argsL).toArray = as') (hL : L.size = n) (hW : (rest.map fun v => v.category).sum = W) (hc : cells + k ≤ R.cells) (hsl : slots + j ≤ R.slots)
    (h : ∀ (v : Option Value) (T' : State) (Lc : List Loc), Stand p l e R s m args below meth c T' (locs ++ Lc) (cells + k) (slots + j) → Q v T'.heap Lc → own_Fin p e below P (T'.setTop (mkF m (pc + 3) L (v.toList ++ rest)))) : own_Fin p e below P (T.setTop (mkF m pc L stk)) := by
  obtain ⟨cq, q, q'⟩ := E.cell
  refine o_bk (X.privateBack H.1 hown (mvT hZ w1) (mvT hZ w2) w3 (Cond.privateMethod_at (mvP hZ w4 (args := #[]))) (mvT hZ w5) hy back (g := mkF m pc L stk) rfl (hL.trans hml.symm) (Steps.refl _) (a := b) (by rw [eT]; exact q) q' (argsL := argsL) (rest := rest) (lenOf hpd hlen) hs (o_mr hW) (hb H.2 d) (fun _ _ => ⟨ha, eT, hc, hsl⟩)) h
theorem o_sc {bytes : ByteArray} {maxL : Nat} {b : Addr} (X : Stand p l e R s m args below meth c T locs cells slots) (H : p.tables.exec = Jvm.exec ∧ c.code = code) (hml : c.maxLocals = n) (hZ : Z.Warmed39 s.vm) (hown : s.vm.findClass own = some m.cls) (w1 : (Cond.methodLink own index y).before a0 Z = true) (w2 : (Cond.instanceMethod y).before a0 Z = true) (w5 : (Cond.code y bytes maxL none).before a0 Z = true)
    (back : Back l R p e below s args y 3 W (fun A a => a = as' ∧ A.U.heap = hp ∧ A.cells + k ≤ R.cells ∧ A.slots + j ≤ R.slots) (fun A _ v B => ∃ Lc, Q v B.U.heap Lc ∧ B.locs = A.locs ++ Lc ∧ B.cells = A.cells + k ∧ B.slots = A.slots + j)) (hy0 : y.name = "<init>") (hy : y.cls ≠ "java/lang/invoke/MethodHandle" ∧ y.cls ≠ "java/lang/invoke/VarHandle")
    (eT : T.heap = hp) (hpd : parseMethodDescriptor y.desc = some sig) (d : decode code pc = .ok (.invokespecial index, 3)) (hlen : argsL.length = sig.parameters.length) (hs : stk = argsL.reverse ++ .ref b :: rest) (ha : (.ref b :: argsL).toArray = as') (hL : L.size = n) (hW : (rest.map fun v => v.category).sum = W) (hc : cells + k ≤ R.cells) (hsl : slots + j ≤ R.slots)
    (h : ∀ (v : Option Value) (T' : State) (Lc : List Loc), Stand p l e R s m args below meth c T' (locs ++ Lc) (cells + k) (slots + j) → Q v T'.heap Lc → own_Fin p e below P (T'.setTop (mkF m (pc + 3) L (v.toList ++ rest)))) : own_Fin p e below P (T.setTop (mkF m pc L stk)) := by
  refine o_bk (X.specialBack H.1 hy0 hown (mvT hZ w1) (mvT hZ w2) (mvT hZ w5) hy back (g := mkF m pc L stk) rfl (hL.trans hml.symm) (Steps.refl _) (a := b) (argsL := argsL) (rest := rest) (lenOf hpd hlen) hs (o_mr hW) (hb H.2 d) (fun _ _ => ⟨ha, eT, hc, hsl⟩)) h
theorem o_tc {bytes : ByteArray} {maxL : Nat} {ret : Option FieldType} (X : Stand p l e R s m args below meth c T locs cells slots) (H : p.tables.exec = Jvm.exec ∧ c.code = code) (hml : c.maxLocals = n) (hZ : Z.Warmed39 s.vm) (hown : s.vm.findClass own = some m.cls) (w1 : (Cond.methodLink own index y).before a0 Z = true) (w2 : (Cond.static y).before a0 Z = true) (w3 : (Cond.initialized y.cls).before a0 Z = true) (w5 : (Cond.code y bytes maxL ret).before a0 Z = true)
    (back : Back l R p e below s args y 3 W (fun A a => a = as' ∧ A.U.heap = hp ∧ A.cells + k ≤ R.cells ∧ A.slots + j ≤ R.slots) (fun A _ v B => ∃ Lc, Q v B.U.heap Lc ∧ B.locs = A.locs ++ Lc ∧ B.cells = A.cells + k ∧ B.slots = A.slots + j)) (hy : y.cls ≠ "java/lang/invoke/MethodHandle" ∧ y.cls ≠ "java/lang/invoke/VarHandle")
    (eT : T.heap = hp) (hpd : parseMethodDescriptor y.desc = some sig) (d : decode code pc = .ok (.invokestatic index, 3)) (hlen : argsL.length = sig.parameters.length) (hs : stk = argsL.reverse ++ rest) (ha : argsL.toArray = as') (hL : L.size = n) (hW : (rest.map fun v => v.category).sum = W) (hc : cells + k ≤ R.cells) (hsl : slots + j ≤ R.slots)
    (h : ∀ (v : Option Value) (T' : State) (Lc : List Loc), Stand p l e R s m args below meth c T' (locs ++ Lc) (cells + k) (slots + j) → Q v T'.heap Lc → own_Fin p e below P (T'.setTop (mkF m (pc + 3) L (v.toList ++ rest)))) : own_Fin p e below P (T.setTop (mkF m pc L stk)) := by
  refine o_bs (Jvm.LawKit.callS X H.1 hown (mvT hZ w1) (mvT hZ w2) (mvT hZ w3) (mvT hZ w5) hy back (g := mkF m pc L stk) rfl (hL.trans hml.symm) (argsL := argsL) (rest := rest) (lenOf hpd hlen) hs (o_mr hW) (hb H.2 d) (fun _ _ => ⟨ha, eT, hc, hsl⟩)) h
theorem o_pk {n0 : Nat} {w : Value} (hq : ∀ v h L, Q v h L → v = some w ∧ Fr n0 L ∧ h = hp) (N : Fr n0 locs) (h : ∀ (T' : State) (Lc : List Loc), Stand p l e R s m args below meth c T' (locs ++ Lc) (cells + k) (slots + j) → Fr n0 (locs ++ Lc) → T'.heap = hp → own_Fin p e below P (T'.setTop (mkF m (pc + 3) L (w :: rest)))) : ∀ (v : Option Value) (T' : State) (Lc : List Loc), Stand p l e R s m args below meth c T' (locs ++ Lc) (cells + k) (slots + j) → Q v T'.heap Lc → own_Fin p e below P (T'.setTop (mkF m (pc + 3) L (v.toList ++ rest))) := fun v T' Lc X' q => by
  obtain ⟨rfl, N', e'⟩ := hq _ _ _ q
  exact h T' Lc X' (Fr.app N N') e'
theorem o_pv {n0 : Nat} (hq : ∀ v h L, Q v h L → v = none ∧ Fr n0 L ∧ h = hp) (N : Fr n0 locs) (h : ∀ (T' : State) (Lc : List Loc), Stand p l e R s m args below meth c T' (locs ++ Lc) (cells + k) (slots + j) → Fr n0 (locs ++ Lc) → T'.heap = hp → own_Fin p e below P (T'.setTop (mkF m (pc + 3) L rest))) : ∀ (v : Option Value) (T' : State) (Lc : List Loc), Stand p l e R s m args below meth c T' (locs ++ Lc) (cells + k) (slots + j) → Q v T'.heap Lc → own_Fin p e below P (T'.setTop (mkF m (pc + 3) L (v.toList ++ rest))) := fun v T' Lc X' q => by
  obtain ⟨rfl, N', e'⟩ := hq _ _ _ q
  exact h T' Lc X' (Fr.app N N') e'
end OwnY
theorem ow {Z : State} {a0 : Array Value} (hw : ∀ d ∈ tables_1, d.before a0 Z = true) (i : Nat) {d : Jvm.Cond} (h : tables_1[i]? = some d) : d.before a0 Z = true := hw _ (List.mem_of_getElem? h)
section OwnW
variable {p : Program} {l : Launch} {e : Env} {R : Room} {s : State} {m : MethodId} {args : Array Value} {below : List Frame} {meth : Method} {c : Code} {T : State} {locs : List Loc} {cells slots : Nat} {P : Outcome → State → Prop} {Z : State} {EL : List (String × Nat)} {a0 : Array Value} {vm0 : Vm}
def own_AnsW (s Z : State) (EL : List (String × Nat)) (Q : Option Value → Heap → List Loc → Prop) (k n : Nat) (o : Outcome) (t : State) : Prop := ∃ v L, o = .returned v ∧ Q v t.heap L ∧ CHr Z EL s.vm s.heap t.vm t.heap ∧ ReturnedEndW s o t L k n
theorem own_monoW {o : Outcome} {t : State} {L : List Loc} {k n k' n' : Nat} (h : ReturnedEndW s o t L k n) (hk : k ≤ k') (hn : n ≤ n') : ReturnedEndW s o t L k' n' := ⟨h.1, h.2.1, h.2.2.1, h.2.2.2.mono hk hn⟩
theorem own_retW {Q : Option Value → Heap → List Loc → Prop} {k n k0 : Nat} (X : Stand p l e R (s.setVm vm0) m args below meth c T locs cells slots) (hx : p.tables.exec = Jvm.exec) (hlk : meth.locks = false) {pc : Nat} {Ls : Array Slot} {w : Value} {t : FieldType} {i : Instr} {rest : List Value} (hret : meth.sig.returnType = some t) (hn : narrow t w = w)
    (hi : (i = .ireturn ∧ (t = .int ∨ t = .boolean ∨ t = .byte ∨ t = .char ∨ t = .short) ∧ ∃ z, w = .int z) ∨ (i = .lreturn ∧ t = .long ∧ ∃ z, w = .long z) ∨ (i = .dreturn ∧ t = .double ∧ ∃ z, w = .double z) ∨ (i = .freturn ∧ t = .float ∧ ∃ z, w = .float z) ∨ (i = .areturn ∧ t.isReference = true ∧ w.isRef = true))
    (hd : decode c.code pc = .ok (i, 1)) (hS : s.Since vm0 k0) (hk0 : k0 ≤ T.heap.size) (hZ : Z.Warmed39 vm0) (hEL : EW Z a0 EL) (hC : CHr Z EL s.vm s.heap vm0 T.heap) (hQ : Q (some w) T.heap locs) (hk : cells ≤ k) (hs : slots ≤ n) : own_Fin p e below (own_AnsW s Z EL Q k n) (T.setTop (mkF m pc Ls (w :: rest))) := by
  obtain ⟨fs, hr, hrun, hended, hE⟩ := X.leaveW hS hk0 (v := some w) (fun h => by rw [hret] at h; cases h) hlk
  exact ⟨_, _, retOut X hx hret hn hi hd hr, hrun, hended, _, _, rfl, hQ, (show CHr Z EL s.vm s.heap T.vm T.heap from hC.trans (CHv.at X hZ hEL hC.1)), own_monoW hE hk hs⟩
theorem own_retVW {Q : Option Value → Heap → List Loc → Prop} {k n k0 : Nat} (X : Stand p l e R (s.setVm vm0) m args below meth c T locs cells slots) (hx : p.tables.exec = Jvm.exec) (hlk : meth.locks = false) {pc : Nat} {Ls : Array Slot} (hret : meth.sig.returnType = none)
    (hd : decode c.code pc = .ok (.return_, 1)) (hS : s.Since vm0 k0) (hk0 : k0 ≤ T.heap.size) (hZ : Z.Warmed39 vm0) (hEL : EW Z a0 EL) (hC : CHr Z EL s.vm s.heap vm0 T.heap) (hQ : Q none T.heap locs) (hk : cells ≤ k) (hs : slots ≤ n) : own_Fin p e below (own_AnsW s Z EL Q k n) (T.setTop (mkF m pc Ls [])) := by
  obtain ⟨fs, hr, hrun, hended, hE⟩ := X.leaveW hS hk0 (v := none) (fun _ => rfl) hlk
  exact ⟨_, _, X.returnOut hx hret hd hr, hrun, hended, _, _, rfl, hQ, (show CHr Z EL s.vm s.heap T.vm T.heap from hC.trans (CHv.at X hZ hEL hC.1)), own_monoW hE hk hs⟩
theorem own_backX {y : MethodName} {bytes : ByteArray} {maxL : Nat} {ret : Option FieldType} {rm : Room} {len W : Nat} {as' : Array Value} {h : Heap} {Q : Option Value → Heap → List Loc → Prop} (Ex : Vm → Prop)
    (hM : MetFree l y (head1 [Jvm.Cond.code y bytes maxL ret] rm) (fun a U => a = as' ∧ Z.Warmed39 U.vm ∧ U.heap = h ∧ CHv Z EL U.vm h ∧ Ex U.vm) (fun _ _ _ _ _ => True) (fun _ U o U' => ∃ v L, o = .returned v ∧ Q v U'.heap L ∧ CHr Z EL U.vm U.heap U'.vm U'.heap ∧ ReturnedEndW U o U' L rm.cells rm.slots))
    (hZ : Z.Warmed39 vm0) (wc : (Jvm.Cond.code y bytes maxL ret).before a0 Z = true) (wz : (Jvm.Cond.initialized y.cls).before a0 Z = true) (hf : rm.frames + 1 ≤ R.frames) (hl : W + (maxL + 11) + rm.locals ≤ R.locals) (hEL : EW Z a0 EL) (H : CHv Z EL vm0 h) (hEx : ∀ vm1, CHr Z EL vm0 h vm1 h → Ex vm1) :
    BackS l R p e below (s.setVm vm0) args y len W (fun A a => a = as' ∧ A.U.heap = h ∧ A.cells + rm.cells ≤ R.cells ∧ A.slots + rm.slots ≤ R.slots)
      (fun A _ v B => ∃ L, Q v B.U.heap L ∧ B.locs = A.locs ++ L ∧ B.cells = A.cells + rm.cells ∧ B.slots = A.slots + rm.slots ∧ CHr Z EL vm0 h B.U.vm B.U.heap) := by
  refine BackS.of_freeW (bytes := bytes) (maxL := maxL) (ret := ret) (E := fun _ first o t L k n => (∃ v, o = .returned v ∧ Q v t.heap L) ∧ k = rm.cells ∧ n = rm.slots ∧ CHr Z EL first.vm first.heap t.vm t.heap) hM hf hl ?_ ?_ (fun _ _ _ _ _ _ _ _ _ => trivial) ?_ ?_
  · intro m meth c A a Y hp
    have hU : Z.Warmed39 A.U.vm := wtrans (s := s.setVm vm0) hZ Y.warmed
    exact ⟨by show (Jvm.Cond.and _ .tt).before a A.U = true; rw [Cond.before_and, mv hU wc]; rfl, mv hU wc, mv hU wz, hp.2.2.1, hp.2.2.2⟩
  · intro m meth c A a g mk Y hp
    have hA := CHv.at Y hZ hEL H
    exact ⟨hp.1, wtrans (s := s.setVm vm0) hZ Y.warmed, hp.2.1, hA.1, hEx _ hA⟩
  · intro a first o t hq
    obtain ⟨v, L, h1, h2, h3, h4⟩ := hq
    exact ⟨L, _, _, h4, ⟨v, h1, h2⟩, rfl, rfl, h3⟩
  · intro m meth c A a g mk v t L k n Y hp _ _ hE
    obtain ⟨⟨v', e3, e4⟩, e1, e2, e5⟩ := hE
    cases e3
    subst e1 e2
    refine ⟨L, e4, rfl, rfl, rfl, (CHv.at Y hZ hEL H).trans ?_⟩
    rw [← hp.2.1]
    exact e5
end OwnW
theorem own_narc {x : Int32} (h : ¬ x < 0 ∧ ¬ (255 : Int32) < x) : nar .char x = x := by
  have b := c_i2c x
  have z0 : (0 : Int32).toInt = 0 := by decide
  have z1 : (255 : Int32).toInt = 255 := by decide
  rw [Int32.lt_iff_toInt_lt, Int32.lt_iff_toInt_lt] at h
  rw [← Int32.toInt_inj]
  show x.toUInt32.toUInt16.toUInt32.toInt32.toInt = _
  omega
theorem own_c255 (x : Int32) : ¬ (x &&& (255 : Int32)).toUInt32.toUInt16.toUInt32.toInt32 < 0 ∧ ¬ (255 : Int32) < (x &&& (255 : Int32)).toUInt32.toUInt16.toUInt32.toInt32 := by
  have a := c_i2c (x &&& (255 : Int32))
  have m := c_mask x 255 8 (by decide) (by decide)
  have z0 : (0 : Int32).toInt = 0 := by decide
  have z1 : (255 : Int32).toInt = 255 := by decide
  rw [Int32.lt_iff_toInt_lt, Int32.lt_iff_toInt_lt]
  omega
theorem own_r16 {cs : List Int32} (h : ∀ c ∈ cs, ¬ c < 0 ∧ ¬ (255 : Int32) < c) : ∀ c ∈ cs, ¬ c < 0 ∧ ¬ (65535 : Int32) < c := fun c q => ⟨(h c q).1, fun z => (h c q).2 (by
  have z1 : (255 : Int32).toInt = 255 := by decide
  have z2 : (65535 : Int32).toInt = 65535 := by decide
  rw [Int32.lt_iff_toInt_lt] at z ⊢
  omega)⟩
theorem own_and3 (x : Int32) : x &&& 3 = 0 ∨ x &&& 3 = 1 ∨ x &&& 3 = 2 ∨ x &&& 3 = 3 := by
  have m := c_mask x 3 2 (by decide) (by decide)
  have z0 : (0 : Int32).toInt = 0 := by decide
  have z1 : (1 : Int32).toInt = 1 := by decide
  have z2 : (2 : Int32).toInt = 2 := by decide
  have z3 : (3 : Int32).toInt = 3 := by decide
  rw [← Int32.toInt_inj, ← Int32.toInt_inj, ← Int32.toInt_inj, ← Int32.toInt_inj]
  omega
theorem own_cod {cs : List Int32} {n : Nat} (hn : cs.length = n) (hb : ∀ c ∈ cs, ¬ (255 : Int32) < c) : StrChars.Road.CodA cs 0 (Int32.ofNat n) ((cs.map StrChars.lo8).map Value.int) := by
  subst hn
  exact Or.inl ⟨rfl, rfl, by rw [List.map_map]; rfl, hb⟩
theorem own_selfsel {s : State} {args : Array Value} {K : String} {y : MethodName} (hs : (Cond.selects K y y).before args s = true) (hp : s.PrivateAt y) (hi : (Cond.instanceMethod y).before args s = true) (hy : y.cls ≠ "java/lang/invoke/MethodHandle" ∧ y.cls ≠ "java/lang/invoke/VarHandle") : (Cond.selects y.cls y y).before args s = true := by
  obtain ⟨c, r, m, h1, h2, h3, h4, k, hk, hni⟩ := Cond.selects_spec hs
  exact Jvm.Stand.selects_self_of_private (findClass_of_methodNamed h3) hk hni hp hi hy
theorem own_same {a0 : Array Value} {Z : State} {y x z : MethodName} {K : String} (hd : (Cond.declares y).before a0 Z = true) (hs : (Cond.selects K x z).before a0 Z = true) (hz : z.cls = y.cls) (hy : y.cls ≠ "java/lang/invoke/MethodHandle" ∧ y.cls ≠ "java/lang/invoke/VarHandle") : (Cond.sameMethod y.cls y.cls y.name y.desc).before a0 Z = true := by
  obtain ⟨m, meth, h1, h2, h3, h4⟩ := Cond.declares_spec hd
  obtain ⟨c, r, m', g1, g2, g3, g4, k, hk, hni⟩ := Cond.selects_spec hs
  have h5 : Z.methodFound? y.cls y.name y.desc = some m := State.methodFound?_of_named h1 hy
  have h6 : Z.methodNamed? ⟨y.cls, y.name, y.desc⟩ = some m := h1
  have h7 : Z.vm.findClass y.cls = some m'.cls := by rw [← hz]; exact findClass_of_methodNamed g3
  simp only [Cond.before, Cond.holds, Cond.value, h5, h6, h7, hk]
  simp [hni]
theorem own_narb (x : Int32) : nar .byte x.toInt8.toInt32 = StrChars.lo8 x := by
  show x.toInt8.toInt32.toInt8.toInt32 = x.toInt8.toInt32
  simp
theorem own_toN {n : Nat} (h : n < 2147483648) : (Int32.ofNat n).toInt = n := by
  rw [Int32.toInt_ofNat_of_lt (by simpa using h)]
theorem own_clampN {n : Nat} (h : n < 2147483648) : (Int32.ofNat n).toNatClampNeg = n := by
  simp only [Int32.toNatClampNeg, own_toN h]; rfl
theorem own_nneg {n : Nat} (h : n < 2147483648) : ¬ Int32.ofNat n < 0 := by
  rw [Int32.lt_iff_toInt_lt, own_toN h]
  show ¬ (n : Int) < 0
  omega
theorem own_olt {a b : Nat} (h : a < b) (hb : b < 2147483648) : Int32.ofNat a < Int32.ofNat b := by
  rw [Int32.lt_iff_toInt_lt, own_toN (by omega), own_toN (by omega)]; omega
theorem own_onlt {a b : Nat} (h : b ≤ a) (hb : a < 2147483648) : ¬ Int32.ofNat a < Int32.ofNat b := by
  rw [Int32.lt_iff_toInt_lt, own_toN (by omega), own_toN (by omega)]; omega
theorem own_one {a b : Nat} (h : a ≠ b) (ha : a < 2147483648) (hb : b < 2147483648) : ¬ Int32.ofNat a = Int32.ofNat b := fun e => by
  have := congrArg Int32.toInt e
  rw [own_toN (by omega), own_toN (by omega)] at this; omega
theorem own_add (a b : Nat) : Int32.ofNat a + Int32.ofNat b = Int32.ofNat (a + b) := (Int32.ofNat_add a b).symm
theorem own_subn {a b : Nat} (h : b ≤ a) (ha : a < 2147483648) : Int32.ofNat a - Int32.ofNat b = Int32.ofNat (a - b) := by
  apply Int32.toInt_inj.mp
  rw [Int32.toInt_sub, own_toN ha, own_toN (by omega), own_toN (by omega), Int.bmod_eq_of_le (by omega) (by omega)]
  omega
theorem own_shr0 (x : Int32) : x >>> ((0 : Int32) &&& 31) = x := by
  rw [show ((0 : Int32) &&& 31) = 0 by decide]; simp
theorem own_shl0 (x : Int32) : x <<< ((0 : Int32) &&& 31) = x := by
  rw [show ((0 : Int32) &&& 31) = 0 by decide]; simp
theorem own_ns {a b : Nat} (h : a ≤ b) (hb : b < 2147483648) : ¬ (0 : Int32) < Int32.ofNat a - Int32.ofNat b := by
  rw [Int32.lt_iff_toInt_lt, Int32.toInt_sub, own_toN (by omega), own_toN (by omega), Int.bmod_eq_of_le (by omega) (by omega)]
  show ¬ (0 : Int) < _
  omega
theorem own_vl (cs : List Int32) : ((cs.map StrChars.lo8).map Value.int).length = cs.length := by simp
theorem own_la {cs ds : List Int32} {k n : Nat} (h1 : cs.length = k) (h2 : ds.length = n) : (cs ++ ds).length = k + n := by rw [List.length_append, h1, h2]
theorem own_us {cs : List Int32} {n : Nat} {d : Value} (h : cs.length = n) : ((cs.map StrChars.lo8).map Value.int) = (List.range n).map fun i => ((cs.map StrChars.lo8).map Value.int).getD (0 + i) d := by
  apply List.ext_getElem
  · simp [h]
  · intro i h1 h2
    simp at h1
    simp [h1]
theorem own_cpB {cs as : List Int32} {k n m : Nat} {d : Value} (hk : cs.length = k) (hn : as.length = n) : ∀ i, (((cs ++ as).map StrChars.lo8).map Value.int).getD i d = ((((cs.map StrChars.lo8).map Value.int) ++ List.replicate m d).take k ++ ((as.map StrChars.lo8).map Value.int) ++ (((cs.map StrChars.lo8).map Value.int) ++ List.replicate m d).drop (k + n)).getD i d := by
  intro i
  have e1 : (((cs.map StrChars.lo8).map Value.int) ++ List.replicate m d).take k = ((cs.map StrChars.lo8).map Value.int) := List.take_left' (by simp [hk])
  have e2 : (((cs.map StrChars.lo8).map Value.int) ++ List.replicate m d).drop (k + n) = List.replicate (m - n) d := by
    rw [← List.drop_drop, List.drop_left' (by simp [hk]), List.drop_replicate]
  rw [e1, e2, pad_rep]
  simp
theorem own_cpC {vs : List Value} {q c : Nat} {d : Value} (h : vs.length ≤ q) : ∀ i, vs.getD i d = ((List.replicate c d).take 0 ++ ((List.range q).map fun i => vs.getD (0 + i) d) ++ (List.replicate c d).drop (0 + q)).getD i d := by
  intro i
  rw [List.take_zero, List.nil_append, List.drop_replicate, pad_rep]
  simp only [List.getD_eq_getElem?_getD, List.getElem?_map, Nat.zero_add]
  by_cases hi : i < q
  · rw [List.getElem?_range hi]; rfl
  · rw [List.getElem?_eq_none (by omega), List.getElem?_eq_none (by simp; omega)]; rfl
section OwnCp
variable {p : Program} {l : Launch} {e : Env} {R : Room} {s : State} {m : MethodId} {args : Array Value} {below : List Frame} {meth : Method} {c : Code} {T : State} {locs : List Loc} {cells slots : Nat} {Z : State} {h : Heap} {a b : Addr}
theorem own_cpPut (X : Stand p l e R s m args below meth c T locs cells slots) (hx : p.tables.exec = Jvm.exec) (hZ : Z.Warmed39 s.vm) {a0 : Array Value} {own : String} {index : Nat} (hown : s.vm.findClass own = some m.cls)
    (w1 : (Cond.methodLink own index Jvm.Stand.acN).before a0 Z = true) (w2 : (Cond.native Jvm.Stand.acN).before a0 Z = true) (w3 : (Cond.static Jvm.Stand.acN).before a0 Z = true) (w4 : (Cond.initialized "java/lang/System").before a0 Z = true) (eT : T.heap = h)
    {ka kb : ClassId} {cs ds : List Int32} {k n q : Nat} (A : Arv Z h a ka .byte (Int32.ofNat n) ((ds.map StrChars.lo8).map Value.int) (.int 0)) (B : Arv Z h b kb .byte (Int32.ofNat q) ((cs.map StrChars.lo8).map Value.int) (.int 0)) (hk : cs.length = k) (hn : ds.length = n) (hq : k + n ≤ q) (hq' : q < 2147483648)
    {n0 : Nat} (N : Fr n0 locs) (ge : n0 ≤ b) {g : JFrame} (hg : g.method = m) (hsize : g.locals.size = c.maxLocals) {rest : List Value} (hs : g.stack = .int (Int32.ofNat n) :: .int (Int32.ofNat k) :: .ref b :: .int (Int32.ofNat 0) :: .ref a :: rest) (hd : decode c.code g.pc = .ok (.invokestatic index, 3))
    (hf : 1 ≤ R.frames) {W : Nat} (hW : 2 * g.monitorRoom + (rest.map fun v => v.category).sum ≤ W) (hlo : W + (nativeFrameWords "java/lang/System" "arraycopy" 5 + 11) ≤ R.locals) :
    ∃ T' h' L, Stand p l e R s m args below meth c T' L cells slots ∧ T'.heap = h' ∧ Fr n0 L ∧ Keep h h' [b] ∧ Arv Z h' b kb .byte (Int32.ofNat q) (((cs ++ ds).map StrChars.lo8).map Value.int) (.int 0) ∧
      ∀ target, Steps p.tables e below (T'.setTop { g with pc := g.pc + 3, stack := rest }) target → Steps p.tables e below (T.setTop g) target := by
  have c0 : (Int32.ofNat 0).toNatClampNeg = 0 := rfl
  have ck : (Int32.ofNat k).toNatClampNeg = k := own_clampN (by omega)
  have cn : (Int32.ofNat n).toNatClampNeg = n := own_clampN (by omega)
  have cq : (Int32.ofNat q).toNatClampNeg = q := own_clampN (by omega)
  obtain ⟨T', h', L, X', e', N', K', A', st⟩ := cpA X hx hZ hown w1 w2 w3 w4 eT A (B.pad (pad_rep _ _ (q - k))) (Or.inl ⟨rfl, rfl⟩) (sp := Int32.ofNat 0) (dp := Int32.ofNat k) (nn := Int32.ofNat n) (own_nneg (by omega)) (own_nneg (by omega)) (own_nneg (by omega))
    (by rw [c0, cn]; omega) (by rw [ck, cn, cq]; exact hq) (us := ((ds.map StrChars.lo8).map Value.int)) (by rw [c0, cn]; exact own_us hn) (by rw [ck, cn, List.length_append, own_vl, List.length_replicate]; omega) N ge hg hsize hs hd hf hW hlo
  refine ⟨T', h', L, X', e', N', K', ?_, st⟩
  rw [ck, cn] at A'
  exact A'.pad (own_cpB hk hn)
theorem own_cpNew (X : Stand p l e R s m args below meth c T locs cells slots) (hx : p.tables.exec = Jvm.exec) (hZ : Z.Warmed39 s.vm) {a0 : Array Value} {own : String} {index : Nat} (hown : s.vm.findClass own = some m.cls)
    (w1 : (Cond.methodLink own index Jvm.Stand.acN).before a0 Z = true) (w2 : (Cond.native Jvm.Stand.acN).before a0 Z = true) (w3 : (Cond.static Jvm.Stand.acN).before a0 Z = true) (w4 : (Cond.initialized "java/lang/System").before a0 Z = true) (eT : T.heap = h)
    {ka kb : ClassId} {vs : List Value} {q c1 c2 : Nat} (A : Arv Z h a ka .byte (Int32.ofNat c1) vs (.int 0)) (B : Arv Z h b kb .byte (Int32.ofNat c2) [] (.int 0)) (hv : vs.length ≤ q) (h1 : q ≤ c1) (h2 : q ≤ c2) (h1' : c1 < 2147483648) (h2' : c2 < 2147483648)
    {n0 : Nat} (N : Fr n0 locs) (ge : n0 ≤ b) {g : JFrame} (hg : g.method = m) (hsize : g.locals.size = c.maxLocals) {rest : List Value} (hs : g.stack = .int (Int32.ofNat q) :: .int (Int32.ofNat 0) :: .ref b :: .int (Int32.ofNat 0) :: .ref a :: rest) (hd : decode c.code g.pc = .ok (.invokestatic index, 3))
    (hf : 1 ≤ R.frames) {W : Nat} (hW : 2 * g.monitorRoom + (rest.map fun v => v.category).sum ≤ W) (hlo : W + (nativeFrameWords "java/lang/System" "arraycopy" 5 + 11) ≤ R.locals) :
    ∃ T' h' L, Stand p l e R s m args below meth c T' L cells slots ∧ T'.heap = h' ∧ Fr n0 L ∧ Keep h h' [b] ∧ Arv Z h' b kb .byte (Int32.ofNat c2) vs (.int 0) ∧
      ∀ target, Steps p.tables e below (T'.setTop { g with pc := g.pc + 3, stack := rest }) target → Steps p.tables e below (T.setTop g) target := by
  have c0 : (Int32.ofNat 0).toNatClampNeg = 0 := rfl
  have cq : (Int32.ofNat q).toNatClampNeg = q := own_clampN (by omega)
  have d1 : (Int32.ofNat c1).toNatClampNeg = c1 := own_clampN h1'
  have d2 : (Int32.ofNat c2).toNatClampNeg = c2 := own_clampN h2'
  obtain ⟨T', h', L, X', e', N', K', A', st⟩ := cpA X hx hZ hown w1 w2 w3 w4 eT A (B.pad (pad_rep [] _ c2)) (Or.inl ⟨rfl, rfl⟩) (sp := Int32.ofNat 0) (dp := Int32.ofNat 0) (nn := Int32.ofNat q) (own_nneg (by omega)) (own_nneg (by omega)) (own_nneg (by omega))
    (by rw [c0, cq, d1]; omega) (by rw [c0, cq, d2]; omega) (us := (List.range q).map fun i => vs.getD (0 + i) (.int 0)) (by rw [c0, cq]) (by rw [c0, cq, List.nil_append, List.length_replicate]; omega) N ge hg hsize hs hd hf hW hlo
  refine ⟨T', h', L, X', e', N', K', ?_, st⟩
  rw [c0, cq] at A'
  exact A'.pad (own_cpC hv)
end OwnCp
def own_dg (x : Int32) (n : Nat) : List Int32 := (if x < 0 then [45] else []) ++ (List.range (Jvm.Free.SBG.digits n)).map fun j => Int32.ofNat (48 + n / 10 ^ (Jvm.Free.SBG.digits n - 1 - j) % 10)
theorem own_dgl (x : Int32) (n : Nat) : (own_dg x n).length = Jvm.Free.SBG.digits n + Jvm.Free.SBG.GetChars.sgn x := by
  unfold own_dg Jvm.Free.SBG.GetChars.sgn
  split <;> simp [Nat.add_comm]
theorem own_dgAt (x : Int32) {n i : Nat} (hi : i < Jvm.Free.SBG.digits n) : (own_dg x n).getD (Jvm.Free.SBG.GetChars.sgn x + Jvm.Free.SBG.digits n - 1 - i) 0 = Int32.ofNat (48 + n / 10 ^ i % 10) := by
  unfold own_dg Jvm.Free.SBG.GetChars.sgn
  by_cases hx : x < 0
  · rw [if_pos hx, if_pos hx, show 1 + Jvm.Free.SBG.digits n - 1 - i = (Jvm.Free.SBG.digits n - 1 - i) + 1 by omega]
    simp only [List.getD_eq_getElem?_getD, List.singleton_append, List.getElem?_cons_succ, List.getElem?_map]
    rw [List.getElem?_range (by omega)]
    simp only [Option.map_some, Option.getD_some]
    rw [show Jvm.Free.SBG.digits n - 1 - (Jvm.Free.SBG.digits n - 1 - i) = i by omega]
  · rw [if_neg hx, if_neg hx, List.nil_append, show 0 + Jvm.Free.SBG.digits n - 1 - i = Jvm.Free.SBG.digits n - 1 - i by omega]
    simp only [List.getD_eq_getElem?_getD, List.getElem?_map]
    rw [List.getElem?_range (by omega)]
    simp only [Option.map_some, Option.getD_some]
    rw [show Jvm.Free.SBG.digits n - 1 - (Jvm.Free.SBG.digits n - 1 - i) = i by omega]
theorem own_dg45 {x : Int32} (n : Nat) (hx : x < 0) : (own_dg x n).getD 0 0 = 45 := by
  unfold own_dg; rw [if_pos hx]; rfl
theorem own_dgr (x : Int32) (n : Nat) : ∀ c ∈ own_dg x n, ¬ c < 0 ∧ ¬ (255 : Int32) < c := by
  intro c hc
  have z0 : (0 : Int32).toInt = 0 := by decide
  have z1 : (255 : Int32).toInt = 255 := by decide
  unfold own_dg at hc
  rcases List.mem_append.mp hc with h | h
  · split at h
    · rw [List.mem_singleton.mp h]; decide
    · exact nomatch h
  · obtain ⟨j, -, rfl⟩ := List.mem_map.mp h
    rw [Int32.lt_iff_toInt_lt, Int32.lt_iff_toInt_lt, own_toN (by omega)]
    omega
theorem own_gA {cs ds : List Int32} {k j : Nat} {d : Value} (hk : cs.length = k) (h : j < k) : (((cs ++ ds).map StrChars.lo8).map Value.int).getD j d = ((cs.map StrChars.lo8).map Value.int).getD j d := by
  simp only [List.map_append, List.getD_eq_getElem?_getD]
  rw [List.getElem?_append_left (by simp; omega)]
theorem own_gB {cs ds : List Int32} {k j : Nat} {d : Value} (hk : cs.length = k) (h : k ≤ j) : (((cs ++ ds).map StrChars.lo8).map Value.int).getD j d = ((ds.map StrChars.lo8).map Value.int).getD (j - k) d := by
  simp only [List.map_append, List.getD_eq_getElem?_getD]
  rw [List.getElem?_append_right (by simp; omega)]
  simp [hk]
theorem own_gV {ds : List Int32} {j : Nat} {d : Value} (h : j < ds.length) : ((ds.map StrChars.lo8).map Value.int).getD j d = .int (StrChars.lo8 (ds.getD j 0)) := by
  simp [List.getD_eq_getElem?_getD, h]
theorem own_out {S S' : Array Value} {cs : List Int32} {k n : Nat} {x : Int32} (hk : cs.length = k) (hs : S'.size = S.size) (H : ∀ j, j < S.size → S[j]? = some (((cs.map StrChars.lo8).map Value.int).getD j (.int 0))) (hidx : k + (Jvm.Free.SBG.digits n + Jvm.Free.SBG.GetChars.sgn x) ≤ S.size)
    (h1 : ∀ i, i < Jvm.Free.SBG.digits n → S'[k + (Jvm.Free.SBG.digits n + Jvm.Free.SBG.GetChars.sgn x) - 1 - i]? = some (.int (Int32.ofNat (48 + n / 10 ^ i % 10)))) (h2 : x < 0 → S'[k + (Jvm.Free.SBG.digits n + Jvm.Free.SBG.GetChars.sgn x) - Jvm.Free.SBG.digits n - 1]? = some (.int 45))
    (h3 : ∀ j, j < k + (Jvm.Free.SBG.digits n + Jvm.Free.SBG.GetChars.sgn x) - (Jvm.Free.SBG.digits n + Jvm.Free.SBG.GetChars.sgn x) ∨ k + (Jvm.Free.SBG.digits n + Jvm.Free.SBG.GetChars.sgn x) ≤ j → S'[j]? = S[j]?) : ∀ j, j < S'.size → S'[j]? = some ((((cs ++ own_dg x n).map StrChars.lo8).map Value.int).getD j (.int 0)) := by
  intro j hj
  have hp := Jvm.Free.SBG.digits_pos n
  have hl := own_dgl x n
  by_cases c1 : j < k
  · rw [h3 j (by omega), H j (by omega), own_gA hk c1]
  by_cases c2 : k + (Jvm.Free.SBG.digits n + Jvm.Free.SBG.GetChars.sgn x) ≤ j
  · rw [h3 j (Or.inr c2), H j (by omega), own_gB hk (by omega)]
    simp only [List.getD_eq_getElem?_getD]
    rw [List.getElem?_eq_none (by simp; omega), List.getElem?_eq_none (by simp; omega)]
  rw [own_gB hk (by omega), own_gV (by omega)]
  by_cases c3 : j < k + Jvm.Free.SBG.GetChars.sgn x
  · have hx : x < 0 := by
      unfold Jvm.Free.SBG.GetChars.sgn at c3
      by_cases hx : x < 0
      · exact hx
      · rw [if_neg hx] at c3; omega
    have e1 : Jvm.Free.SBG.GetChars.sgn x = 1 := by unfold Jvm.Free.SBG.GetChars.sgn; rw [if_pos hx]
    have := h2 hx
    rw [show k + (Jvm.Free.SBG.digits n + Jvm.Free.SBG.GetChars.sgn x) - Jvm.Free.SBG.digits n - 1 = j by omega] at this
    rw [this, show j - k = 0 by omega, own_dg45 n hx]
    rfl
  · have := h1 (k + (Jvm.Free.SBG.digits n + Jvm.Free.SBG.GetChars.sgn x) - 1 - j) (by omega)
    rw [show k + (Jvm.Free.SBG.digits n + Jvm.Free.SBG.GetChars.sgn x) - 1 - (k + (Jvm.Free.SBG.digits n + Jvm.Free.SBG.GetChars.sgn x) - 1 - j) = j by omega] at this
    have e := own_dgAt x (n := n) (i := k + (Jvm.Free.SBG.digits n + Jvm.Free.SBG.GetChars.sgn x) - 1 - j) (by omega)
    rw [show Jvm.Free.SBG.GetChars.sgn x + Jvm.Free.SBG.digits n - 1 - (k + (Jvm.Free.SBG.digits n + Jvm.Free.SBG.GetChars.sgn x) - 1 - j) = j - k by omega] at e
    rw [this, e]
    show _ = some (Value.int (Int32.ofNat (48 + _)).toInt8.toInt32)
    rw [Jvm.Free.SBG.dgNarrow _ (by omega)]
theorem own_toL {n : Nat} (h : n < 9223372036854775808) : (Int64.ofNat n).toInt = n := by
  rw [Int64.toInt_ofNat_of_lt (by simpa using h)]
theorem own_lcw (a b : Int64) : lcmpW a b < 0 ↔ a < b := by
  unfold lcmpW
  by_cases h : a > b
  · rw [if_pos h]; exact ⟨fun q => absurd q (by decide), fun q => absurd q (by rw [Int64.lt_iff_toInt_lt] at *; have : b.toInt < a.toInt := Int64.lt_iff_toInt_lt.mp h; omega)⟩
  · rw [if_neg h]
    by_cases g : a = b
    · rw [if_pos g]; exact ⟨fun q => absurd q (by decide), fun q => by subst g; exact absurd q (by rw [Int64.lt_iff_toInt_lt]; omega)⟩
    · rw [if_neg g]; refine ⟨fun _ => ?_, fun _ => by decide⟩
      rw [Int64.lt_iff_toInt_lt]
      have h1 : ¬ b.toInt < a.toInt := fun q => h (Int64.lt_iff_toInt_lt.mpr q)
      have h2 : a.toInt ≠ b.toInt := fun q => g (Int64.toInt_inj.mp q)
      omega
theorem own_lcl {n k : Nat} (hn : n < 9223372036854775808) (hk : k < 9223372036854775808) : lcmpW (Int64.ofNat n) (Int64.ofNat k) < 0 ↔ n < k := by
  rw [own_lcw, Int64.lt_iff_toInt_lt, own_toL hn, own_toL hk]; omega
theorem own_ldiv {n k : Nat} (hn : n < 9223372036854775808) (hk : k < 9223372036854775808) (h0 : 0 < k) : Int64.ofNat n / Int64.ofNat k = Int64.ofNat (n / k) := by
  apply Int64.toInt_inj.mp
  have := Nat.div_le_self n k
  rw [Int64.toInt_div_of_ne_left _ _ (by intro e; have := congrArg Int64.toInt e; rw [own_toL hn] at this; have z : Int64.minValue.toInt = -9223372036854775808 := by decide
                                         omega), own_toL hn, own_toL hk, own_toL (by omega)]
  rw [Int.tdiv_eq_ediv_of_nonneg (by omega)]
  rfl
theorem own_lmod {n : Nat} (hn : n < 9223372036854775808) : Int64.ofNat n - (Int64.ofNat n / (10 : Int64)) * (10 : Int64) = Int64.ofNat (n % 10) := by
  rw [show (10 : Int64) = Int64.ofNat 10 from rfl, own_ldiv hn (by omega) (by omega)]
  apply Int64.toInt_inj.mp
  rw [Int64.toInt_sub, Int64.toInt_mul, own_toL hn, own_toL (by omega), own_toL (by omega), own_toL (by omega)]
  rw [Int.bmod_eq_of_le (n := (↑(n / 10) * (10 : Nat) : Int)) (by omega) (by omega), Int.bmod_eq_of_le (by omega) (by omega)]
  omega
theorem own_c48 : ∀ k, k < 10 → ((48 : Int32) + (Int64.ofNat k).toInt32).toUInt32.toUInt16.toUInt32.toInt32 = Int32.ofNat (48 + k) := by decide +kernel
theorem own_digc {n k : Nat} (hn : n ≤ 2147483648) (hk : k < 9223372036854775808) (h0 : 0 < k) : ((48 : Int32) + (((Int64.ofNat n / Int64.ofNat k) - ((Int64.ofNat n / Int64.ofNat k) / (10 : Int64)) * (10 : Int64)).toInt32)).toUInt32.toUInt16.toUInt32.toInt32 = Int32.ofNat (48 + n / k % 10) := by
  have := Nat.div_le_self n k
  rw [own_ldiv (by omega) hk h0, own_lmod (by omega), own_c48 _ (by omega)]
theorem own_kne {k : Nat} (hk : k < 9223372036854775808) (h0 : 0 < k) : Int64.ofNat k ≠ 0 := fun e => by
  have := congrArg Int64.toInt e
  rw [own_toL hk] at this
  have z : (0 : Int64).toInt = 0 := by decide
  omega
theorem own_abs1 {x : Int32} {n : Nat} (hn : n ≤ 2 ^ 31) (h : (if x < 0 then x else -x) = Jvm.Free.SBG.negI n) (hx : x < 0) : -(x.toInt64) = Int64.ofNat n := by
  rw [if_pos hx] at h
  apply Int64.toInt_inj.mp
  rw [Int64.toInt_neg, Int32.toInt_toInt64, h, Jvm.Free.SBG.negI_toInt hn, own_toL (by omega), Int.bmod_eq_of_le (by omega) (by omega)]
  omega
theorem own_abs0 {x : Int32} {n : Nat} (hn : n ≤ 2 ^ 31) (h : (if x < 0 then x else -x) = Jvm.Free.SBG.negI n) (hx : ¬ x < 0) : x.toInt64 = Int64.ofNat n := by
  rw [if_neg hx] at h
  have z0 : (0 : Int32).toInt = 0 := by decide
  have hx' : 0 ≤ x.toInt := by rw [Int32.lt_iff_toInt_lt, z0] at hx; omega
  have := Int32.toInt_lt x
  have e := congrArg Int32.toInt h
  rw [Int32.toInt_neg, Jvm.Free.SBG.negI_toInt hn, Int.bmod_eq_of_le (by omega) (by omega)] at e
  apply Int64.toInt_inj.mp
  rw [Int32.toInt_toInt64, own_toL (by omega)]
  omega
theorem own_lneg (x : Int32) : lcmpW x.toInt64 (0 : Int64) < 0 ↔ x < 0 := by
  rw [own_lcw, Int64.lt_iff_toInt_lt, Int32.lt_iff_toInt_lt, Int32.toInt_toInt64]
  have z : (0 : Int64).toInt = 0 := by decide
  have z0 : (0 : Int32).toInt = 0 := by decide
  omega
section OwnGc
open Jvm.Free.SBG
variable {p : Program} {l : Launch} {e : Env} {R : Room} {s : State} {args : Array Value} {below : List Frame} {Z : State} {a0 : Array Value} {W : Nat} {h : Heap} {n0 : Nat}
theorem own_backSS {x : Int32} (hZ : Z.Warmed39 s.vm) (wc : (Cond.code StrSize.ssN StrSize.ssB 4 (some .int)).before a0 Z = true) (wi : (Cond.initialized INT).before a0 Z = true) (hf : 2 ≤ R.frames) (hl : W + 55 ≤ R.locals) :
    Back l R p e below s args StrSize.ssN 3 W (fun A a => a = #[.int x] ∧ A.U.heap = h ∧ A.cells + 0 ≤ R.cells ∧ A.slots + 0 ≤ R.slots) (fun A _ v B => ∃ L, (v = some (.int (strSizeOf x)) ∧ Fr n0 L ∧ B.U.heap = h) ∧ B.locs = A.locs ++ L ∧ B.cells = A.cells + 0 ∧ B.slots = A.slots + 0) := by
  refine (StrSize.pays hf hl (mvT hZ wc) (mvT hZ wi)).mono ?_ ?_
  · rintro A a ⟨rfl, hh, h1, h2⟩
    exact ⟨h1, h2, x, rfl⟩
  · rintro A a v B ⟨rfl, hh, h1, h2⟩ ⟨⟨q1, q2, q3, q4⟩, q5⟩
    exact ⟨[], ⟨q5 x rfl, Fr.nil _, q1.trans hh⟩, by rw [List.append_nil]; exact q2, q3, q4⟩
theorem own_backGC {x : Int32} {n c k : Nat} {cs : List Int32} {tb : Addr} {kt : ClassId} {st d1 d2 : Addr} {D1 D2 : Cell} (hZ : Z.Warmed39 s.vm) (wc : (Cond.code GetChars.gcN GetChars.gcB 7 (some .int)).before a0 Z = true) (w1 : (Cond.fieldLink INT 83 INT "DigitOnes" "[B").before a0 Z = true) (w2 : (Cond.fieldLink INT 87 INT "DigitTens" "[B").before a0 Z = true) (wi : (Cond.initialized INT).before a0 Z = true)
    (O : Old Z n0 h) (gt : n0 ≤ tb) (At : Arv Z h tb kt .byte (Int32.ofNat c) ((cs.map StrChars.lo8).map Value.int) (.int 0)) (hk : cs.length = k) (hc : k + (Jvm.Free.SBG.digits n + GetChars.sgn x) ≤ c) (hc' : c < 2147483648) (hn : n ≤ 2 ^ 31) (hx : (if x < 0 then x else -x) = negI n)
    (T1 : Tbl Z "DigitOnes" st d1 D1) (O1 : Ones D1) (T2 : Tbl Z "DigitTens" st d2 D2) (O2 : Tens D2) (hf : 2 ≤ R.frames) (hl : W + 78 ≤ R.locals) :
    Back l R p e below s args GetChars.gcN 3 W (fun A a => a = #[.int x, .int (Int32.ofNat (k + (Jvm.Free.SBG.digits n + GetChars.sgn x))), .ref tb] ∧ A.U.heap = h ∧ A.cells + 0 ≤ R.cells ∧ A.slots + 0 ≤ R.slots)
      (fun A _ v B => ∃ L, (v = some (.int (Int32.ofNat k)) ∧ Fr n0 L ∧ Keep h B.U.heap [tb] ∧ Arv Z B.U.heap tb kt .byte (Int32.ofNat c) (((cs ++ own_dg x n).map StrChars.lo8).map Value.int) (.int 0)) ∧ B.locs = A.locs ++ L ∧ B.cells = A.cells + 0 ∧ B.slots = A.slots + 0) := by
  obtain ⟨cl, Ar, q1, S, G, H, F⟩ := At
  have S' : cl.slots.size = c := by rw [S, own_clampN hc']
  intro m meth cc A g ig mk a X hg hsz hd hW hnm hp
  obtain ⟨rfl, hh, h1, h2⟩ := hp
  have hal : Z.vm.Alike A.U.vm := (wtrans hZ X.warmed).alike
  have e1 : Z.heap[st]? = some T1.choose_spec.choose_spec.choose_spec.choose_spec.choose ∧ Z.heap[d1]? = some D1 := ⟨T1.choose_spec.choose_spec.choose_spec.choose_spec.choose_spec.2.2.2.2.1, T1.choose_spec.choose_spec.choose_spec.choose_spec.choose_spec.2.2.2.2.2.2.2.1⟩
  have e2 : Z.heap[d2]? = some D2 := T2.choose_spec.choose_spec.choose_spec.choose_spec.choose_spec.2.2.2.2.2.2.2.1
  have up : ∀ (y : Addr) (cy : Cell), Z.heap[y]? = some cy → A.U.heap[y]? = some cy := fun y cy q => by rw [hh]; exact O.2.2 y cy q
  have ne : ∀ (y : Addr) (cy : Cell), Z.heap[y]? = some cy → tb ≠ y := fun y cy q z => by
    have := (Array.getElem?_eq_some_iff.mp q).1
    have o := O.1
    rw [← z] at this
    omega
  have hsl : ∀ i, i < cl.slots.size → cl.slots.getD i .null = ((cs.map StrChars.lo8).map Value.int).getD i (.int 0) := fun i hi => by
    have := H i hi
    rw [Array.getD_eq_getD_getElem?, this]; rfl
  have hP : GetChars.P ⟨x, n, k + (Jvm.Free.SBG.digits n + GetChars.sgn x), tb, cl, st, d1, D1, d2, D2⟩ #[.int x, .int (Int32.ofNat (k + (Jvm.Free.SBG.digits n + GetChars.sgn x))), .ref tb] A.U :=
    ⟨rfl, by rw [hh]; exact Ar.1, State.isArrayOf_alike hal Ar.2.1, Ar.2.2, by show cl.slots.size < 2 ^ 31; omega, by show k + (Jvm.Free.SBG.digits n + GetChars.sgn x) ≤ cl.slots.size; omega, by show Jvm.Free.SBG.digits n + GetChars.sgn x ≤ k + (Jvm.Free.SBG.digits n + GetChars.sgn x); omega, hn, hx, Tbl.move hal (fun c q => up _ c q) (up _ _ e1.2) T1, Tbl.move hal (fun c q => up _ c q) (up _ _ e2) T2, ne _ _ e1.1, ne _ _ e1.2, ne _ _ e2⟩
  obtain ⟨v, B, X', hpost, hs⟩ := (GetChars.pays (l := l) (R := R) (p := p) (e := e) (below := below) (s := s) (sargs := args) ⟨x, n, k + (Jvm.Free.SBG.digits n + GetChars.sgn x), tb, cl, st, d1, D1, d2, D2⟩ W
    (by show (Cond.and _ (Cond.and _ _)).before _ _ = true; rw [Cond.before_and, Cond.before_and, mvT hZ wc, mvT hZ w1, mvT hZ w2]; rfl) (mvT hZ wi) hf hl) m meth cc A g ig mk _ X hg hsz hd hW hnm ⟨rfl, h1, h2, hP⟩
  obtain ⟨rfl, p2, p3, p4, p5, p6, L, p7, p8⟩ := hpost
  obtain ⟨o1, o2, o3, o4, -⟩ := GetChars.outCell_facts ⟨x, n, k + (Jvm.Free.SBG.digits n + GetChars.sgn x), tb, cl, st, d1, D1, d2, D2⟩ hn (by show Jvm.Free.SBG.digits n + GetChars.sgn x ≤ k + (Jvm.Free.SBG.digits n + GetChars.sgn x); omega) (fun i hi => by rw [show (⟨x, n, k + (Jvm.Free.SBG.digits n + GetChars.sgn x), tb, cl, st, d1, D1, d2, D2⟩ : GetChars.G).A = cl from rfl, hsl i hi]; exact F i hi)
  obtain ⟨r1, r2, r3⟩ := outCell_at ⟨x, n, k + (Jvm.Free.SBG.digits n + GetChars.sgn x), tb, cl, st, d1, D1, d2, D2⟩ O1 O2 hn (by show Jvm.Free.SBG.digits n + GetChars.sgn x ≤ k + (Jvm.Free.SBG.digits n + GetChars.sgn x); omega) (by show k + (Jvm.Free.SBG.digits n + GetChars.sgn x) ≤ cl.slots.size; omega)
  have HO := own_out (S := cl.slots) (S' := (GetChars.outCell ⟨x, n, k + (Jvm.Free.SBG.digits n + GetChars.sgn x), tb, cl, st, d1, D1, d2, D2⟩).slots) (cs := cs) (k := k) (n := n) (x := x) hk o3 H (by omega) r1 r2 r3
  refine ⟨_, B, X', ⟨L, ⟨by show some (Value.int (Int32.ofNat (k + (Jvm.Free.SBG.digits n + GetChars.sgn x) - (Jvm.Free.SBG.digits n + GetChars.sgn x)))) = _; rw [Nat.add_sub_cancel], fun y hy => by rw [p8 y hy]; exact gt, ?_, ?_⟩, p7, p3, p4⟩, hs⟩
  · rw [← hh]
    refine ⟨Nat.le_of_eq p5.symm, fun y cy hy hn' => p6 y cy (fun z => hn' (by rw [z]; exact List.mem_singleton.mpr rfl)) hy, fun y cy hy => ?_⟩
    by_cases hy' : y = tb
    · subst hy'
      rw [hh] at hy
      cases Ar.1.symm.trans hy
      exact ⟨_, p2, o1, o2, o3⟩
    · exact ⟨cy, p6 y cy hy' hy, rfl, rfl, rfl⟩
  · obtain ⟨a1, kA, a2, comp, a3⟩ := Ar.2.1
    refine ⟨_, ⟨p2, ⟨by rw [o2]; exact a1, kA, by rw [o1]; exact a2, comp, a3⟩, by rw [o2]; exact Ar.2.2⟩, o1.trans q1, by rw [o3]; exact S, G, HO, fun i hi => ?_⟩
    have q := o4 i hi
    rw [Array.getD_eq_getD_getElem?, HO i hi] at q
    exact q
end OwnGc
def own_pk : List Int32 := [99, 111, 109, 46, 101, 120, 97, 109, 112, 108, 101, 46, 116, 105, 100, 121, 95, 105, 110, 106, 101, 99, 116, 111, 114, 46, 116, 105, 100, 121, 105, 110, 106, 101, 99, 116, 111, 114, 46, 98, 101, 110, 99, 104, 46, 103, 114, 97, 112, 104]
theorem own_kpk : ((own_pk.map StrChars.lo8).map Value.int) = [(.int (99 : Int32)), (.int (111 : Int32)), (.int (109 : Int32)), (.int (46 : Int32)), (.int (101 : Int32)), (.int (120 : Int32)), (.int (97 : Int32)), (.int (109 : Int32)), (.int (112 : Int32)), (.int (108 : Int32)), (.int (101 : Int32)), (.int (46 : Int32)), (.int (116 : Int32)), (.int (105 : Int32)), (.int (100 : Int32)), (.int (121 : Int32)), (.int (95 : Int32)), (.int (105 : Int32)), (.int (110 : Int32)), (.int (106 : Int32)), (.int (101 : Int32)), (.int (99 : Int32)), (.int (116 : Int32)), (.int (111 : Int32)), (.int (114 : Int32)), (.int (46 : Int32)), (.int (116 : Int32)), (.int (105 : Int32)), (.int (100 : Int32)), (.int (121 : Int32)), (.int (105 : Int32)), (.int (110 : Int32)), (.int (106 : Int32)), (.int (101 : Int32)), (.int (99 : Int32)), (.int (116 : Int32)), (.int (111 : Int32)), (.int (114 : Int32)), (.int (46 : Int32)), (.int (98 : Int32)), (.int (101 : Int32)), (.int (110 : Int32)), (.int (99 : Int32)), (.int (104 : Int32)), (.int (46 : Int32)), (.int (103 : Int32)), (.int (114 : Int32)), (.int (97 : Int32)), (.int (112 : Int32)), (.int (104 : Int32))] := by
  show [Value.int (StrChars.lo8 (99 : Int32)), Value.int (StrChars.lo8 (111 : Int32)), Value.int (StrChars.lo8 (109 : Int32)), Value.int (StrChars.lo8 (46 : Int32)), Value.int (StrChars.lo8 (101 : Int32)), Value.int (StrChars.lo8 (120 : Int32)), Value.int (StrChars.lo8 (97 : Int32)), Value.int (StrChars.lo8 (109 : Int32)), Value.int (StrChars.lo8 (112 : Int32)), Value.int (StrChars.lo8 (108 : Int32)), Value.int (StrChars.lo8 (101 : Int32)), Value.int (StrChars.lo8 (46 : Int32)), Value.int (StrChars.lo8 (116 : Int32)), Value.int (StrChars.lo8 (105 : Int32)), Value.int (StrChars.lo8 (100 : Int32)), Value.int (StrChars.lo8 (121 : Int32)), Value.int (StrChars.lo8 (95 : Int32)), Value.int (StrChars.lo8 (105 : Int32)), Value.int (StrChars.lo8 (110 : Int32)), Value.int (StrChars.lo8 (106 : Int32)), Value.int (StrChars.lo8 (101 : Int32)), Value.int (StrChars.lo8 (99 : Int32)), Value.int (StrChars.lo8 (116 : Int32)), Value.int (StrChars.lo8 (111 : Int32)), Value.int (StrChars.lo8 (114 : Int32)), Value.int (StrChars.lo8 (46 : Int32)), Value.int (StrChars.lo8 (116 : Int32)), Value.int (StrChars.lo8 (105 : Int32)), Value.int (StrChars.lo8 (100 : Int32)), Value.int (StrChars.lo8 (121 : Int32)), Value.int (StrChars.lo8 (105 : Int32)), Value.int (StrChars.lo8 (110 : Int32)), Value.int (StrChars.lo8 (106 : Int32)), Value.int (StrChars.lo8 (101 : Int32)), Value.int (StrChars.lo8 (99 : Int32)), Value.int (StrChars.lo8 (116 : Int32)), Value.int (StrChars.lo8 (111 : Int32)), Value.int (StrChars.lo8 (114 : Int32)), Value.int (StrChars.lo8 (46 : Int32)), Value.int (StrChars.lo8 (98 : Int32)), Value.int (StrChars.lo8 (101 : Int32)), Value.int (StrChars.lo8 (110 : Int32)), Value.int (StrChars.lo8 (99 : Int32)), Value.int (StrChars.lo8 (104 : Int32)), Value.int (StrChars.lo8 (46 : Int32)), Value.int (StrChars.lo8 (103 : Int32)), Value.int (StrChars.lo8 (114 : Int32)), Value.int (StrChars.lo8 (97 : Int32)), Value.int (StrChars.lo8 (112 : Int32)), Value.int (StrChars.lo8 (104 : Int32))] = _
  rw [show StrChars.lo8 (46 : Int32) = 46 from by decide, show StrChars.lo8 (95 : Int32) = 95 from by decide, show StrChars.lo8 (97 : Int32) = 97 from by decide, show StrChars.lo8 (98 : Int32) = 98 from by decide, show StrChars.lo8 (99 : Int32) = 99 from by decide, show StrChars.lo8 (100 : Int32) = 100 from by decide, show StrChars.lo8 (101 : Int32) = 101 from by decide, show StrChars.lo8 (103 : Int32) = 103 from by decide, show StrChars.lo8 (104 : Int32) = 104 from by decide, show StrChars.lo8 (105 : Int32) = 105 from by decide, show StrChars.lo8 (106 : Int32) = 106 from by decide, show StrChars.lo8 (108 : Int32) = 108 from by decide, show StrChars.lo8 (109 : Int32) = 109 from by decide, show StrChars.lo8 (110 : Int32) = 110 from by decide, show StrChars.lo8 (111 : Int32) = 111 from by decide, show StrChars.lo8 (112 : Int32) = 112 from by decide, show StrChars.lo8 (114 : Int32) = 114 from by decide, show StrChars.lo8 (116 : Int32) = 116 from by decide, show StrChars.lo8 (120 : Int32) = 120 from by decide, show StrChars.lo8 (121 : Int32) = 121 from by decide]
def own_p52 : List Int32 := [99, 111, 109, 46, 101, 120, 97, 109, 112, 108, 101, 46, 116, 105, 100, 121, 95, 105, 110, 106, 101, 99, 116, 111, 114, 46, 116, 105, 100, 121, 105, 110, 106, 101, 99, 116, 111, 114, 46, 98, 101, 110, 99, 104, 46, 103, 114, 97, 112, 104, 46, 67]
def own_nm (x : Int32) (n : Nat) : List Int32 := ((own_pk ++ [46]) ++ ([67] ++ own_dg x n))
theorem own_nml (x : Int32) (n : Nat) : (own_nm x n).length = 52 + (Jvm.Free.SBG.digits n + Jvm.Free.SBG.GetChars.sgn x) := by
  simp only [own_nm, List.length_append, own_dgl, own_pk, List.length_cons, List.length_nil]; omega
theorem own_nme (x : Int32) (n : Nat) : own_nm x n = own_p52 ++ own_dg x n := rfl
theorem own_nmr (x : Int32) (n : Nat) : ∀ c ∈ own_nm x n, ¬ c < 0 ∧ ¬ (255 : Int32) < c := by
  intro c hc
  rw [own_nme] at hc
  rcases List.mem_append.mp hc with h | h
  · exact (by decide : ∀ c ∈ own_p52, ¬ c < 0 ∧ ¬ (255 : Int32) < c) c h
  · exact own_dgr x n c h
theorem own_nmp (x : Int32) (n : Nat) {j : Nat} (h : j < 52) : (own_nm x n).getD j 0 = own_p52.getD j 0 := by
  rw [own_nme]
  simp only [List.getD_eq_getElem?_getD]
  rw [List.getElem?_append_left (by show j < own_p52.length; exact h)]
theorem own_nmd (x : Int32) (n : Nat) (j : Nat) : (own_nm x n).getD (52 + j) 0 = (own_dg x n).getD j 0 := by
  rw [own_nme]
  simp only [List.getD_eq_getElem?_getD]
  rw [List.getElem?_append_right (by show own_p52.length ≤ 52 + j; exact Nat.le_add_right 52 j), show 52 + j - own_p52.length = j from Nat.add_sub_cancel_left 52 j]
theorem own_sg (x : Int32) : (x < 0 → Jvm.Free.SBG.GetChars.sgn x = 1) ∧ (¬ x < 0 → Jvm.Free.SBG.GetChars.sgn x = 0) ∧ Jvm.Free.SBG.GetChars.sgn x ≤ 1 := by
  unfold Jvm.Free.SBG.GetChars.sgn
  by_cases h : x < 0
  · rw [if_pos h]; exact ⟨fun _ => rfl, fun q => absurd h q, Nat.le_refl _⟩
  · rw [if_neg h]; exact ⟨fun q => absurd q h, fun _ => rfl, by decide⟩
theorem own_wL {Z : State} {a0 : Array Value} (hw : ∀ d ∈ tables_1, d.before a0 Z = true) : ∀ d ∈ StrChars.Road.wordsLen, d.before a0 Z = true := by
  intro d hd
  simp only [StrChars.Road.wordsLen, List.mem_cons, List.not_mem_nil, or_false] at hd
  rcases hd with rfl | rfl | rfl | rfl | rfl | rfl | rfl | rfl | rfl | rfl
  · exact (ow hw 42 rfl)
  · exact (ow hw 20 rfl)
  · exact (ow hw 43 rfl)
  · exact (ow hw 50 rfl)
  · exact (ow hw 51 rfl)
  · exact (ow hw 49 rfl)
  · exact (ow hw 45 rfl)
  · exact (ow hw 46 rfl)
  · exact (ow hw 48 rfl)
  · exact (ow hw 47 rfl)
theorem own_wC {Z : State} {a0 : Array Value} (hw : ∀ d ∈ tables_1, d.before a0 Z = true) : ∀ d ∈ StrChars.Road.wordsChN, d.before a0 Z = true := by
  intro d hd
  simp only [StrChars.Road.wordsChN, List.mem_cons, List.not_mem_nil, or_false] at hd
  rcases hd with rfl | rfl | rfl | rfl | rfl | rfl | rfl | rfl | rfl | rfl | rfl | rfl | rfl | rfl | rfl | rfl | rfl | rfl | rfl | rfl | rfl | rfl
  · exact (ow hw 187 rfl)
  · exact (ow hw 20 rfl)
  · exact (ow hw 43 rfl)
  · exact (ow hw 50 rfl)
  · exact (ow hw 51 rfl)
  · exact (ow hw 192 rfl)
  · exact (ow hw 188 rfl)
  · exact (ow hw 189 rfl)
  · exact (ow hw 191 rfl)
  · exact (ow hw 190 rfl)
  · exact (ow hw 193 rfl)
  · exact (ow hw 194 rfl)
  · exact (ow hw 196 rfl)
  · exact (ow hw 195 rfl)
  · exact (ow hw 197 rfl)
  · exact (ow hw 198 rfl)
  · exact (ow hw 199 rfl)
  · exact (ow hw 200 rfl)
  · exact (ow hw 202 rfl)
  · exact (ow hw 203 rfl)
  · exact (ow hw 204 rfl)
  · exact (ow hw 201 rfl)
def own_EL : List (String × Nat) := [("com/example/tidy_injector/tidyinjector/bench/StartupGraphClassNamePinLaw", 13), ("com/example/tidy_injector/tidyinjector/bench/StartupGraph", 10), ("com/example/tidy_injector/tidyinjector/bench/StartupGraph", 29)]
theorem own_wS {Z : State} {a0 : Array Value} (hw : ∀ d ∈ tables_1, d.before a0 Z = true) : ∀ a ∈ Bundle.stringAtoms, a.before a0 Z = true := by
  intro a ha
  simp only [Bundle.stringAtoms, List.mem_cons, List.not_mem_nil, or_false] at ha
  rcases ha with rfl | rfl | rfl | rfl | rfl | rfl | rfl
  · exact (ow hw 20 rfl)
  · exact (ow hw 104 rfl)
  · exact (ow hw 21 rfl)
  · exact (ow hw 44 rfl)
  · exact (ow hw 52 rfl)
  · exact (ow hw 105 rfl)
  · exact (ow hw 106 rfl)
theorem pn_0 : plainName "java/lang/AbstractStringBuilder" = true := by first | (simp [plainName, overriddenIn]; done) | decide +kernel
theorem dB3 : oL jdk_68_method_2_code [(0, .aload_n 0, 1), (1, .invokespecial 3, 3), (4, .getstatic 18, 3), (7, .ifCond .eq 18, 3), (10, .aload_n 0, 1), (11, .iload_n 1, 1), (12, .newarray .byte, 2), (14, .putfield 15, 3), (17, .aload_n 0, 1), (18, .iconst 0, 1), (19, .putfield 22, 3), (22, .goto 16, 3), (25, .aload_n 0, 1), (26, .iload_n 1, 1), (27, .invokestatic 26, 3), (30, .putfield 15, 3), (33, .aload_n 0, 1), (34, .iconst 1, 1), (35, .putfield 22, 3), (38, .return_, 1)] := by unfold oL; decide +kernel
theorem ef_rm3 (m : MethodId) (x0 : Addr) (x1 : Int32) : entryFrame m #[(.ref x0), (.int x1)] 2 = mkF m 0 #[.val (.ref x0), .val (.int x1)] [] := by first | (simp [entryFrame, mkF, argsToLocals, Value.category]; done) | rfl
def Q3 (Z : State) (b : Addr) (z : Int32) (h0 : Heap) (n0 : Nat) (v : Option Value) (h : Heap) (L : List Loc) : Prop := ∃ (tb : Addr) (kt : ClassId), v = none ∧ Fr n0 L ∧ Keep h0 h [b] ∧ n0 ≤ tb ∧ h0.size ≤ tb ∧ Exa Z h b "java/lang/StringBuilder" ∧ Fld Z h b "java/lang/AbstractStringBuilder" "value" "[B" (.ref tb) ∧ Fld Z h b "java/lang/AbstractStringBuilder" "count" "I" (.int (0 : Int32)) ∧ Fld Z h b "java/lang/AbstractStringBuilder" "coder" "B" (.int (0 : Int32)) ∧ Arv Z h tb kt .byte (16 : Int32) [(.int (0 : Int32)), (.int (0 : Int32)), (.int (0 : Int32)), (.int (0 : Int32)), (.int (0 : Int32)), (.int (0 : Int32)), (.int (0 : Int32)), (.int (0 : Int32)), (.int (0 : Int32)), (.int (0 : Int32)), (.int (0 : Int32)), (.int (0 : Int32)), (.int (0 : Int32)), (.int (0 : Int32)), (.int (0 : Int32)), (.int (0 : Int32))] (.int 0)
set_option maxRecDepth 65536 in
set_option maxHeartbeats 40000000 in
theorem rm3 (l : Launch) (Z : State) (a0 : Array Value) (hw : ∀ d ∈ tables_1, d.before a0 Z = true) (ws : List Jvm.Cond) (b : Addr) (z : Int32) (h0 : Heap) (n0 : Nat) (Z0 : n0 ≤ h0.size) (hz : ¬ z = (0 : Int32)) (O : Old Z n0 h0) (SC : Sta Z Z.heap "java/lang/String" "COMPACT_STRINGS" "Z" (.int z)) (E : Exa Z h0 b "java/lang/StringBuilder") (F0 : Fld Z h0 b "java/lang/AbstractStringBuilder" "value" "[B" .null) (F1 : Fld Z h0 b "java/lang/AbstractStringBuilder" "count" "I" (.int (0 : Int32))) (F2 : Fld Z h0 b "java/lang/AbstractStringBuilder" "coder" "B" (.int (0 : Int32))) (gb : n0 ≤ b) :
    own_M l (⟨"java/lang/AbstractStringBuilder", "<init>", "(I)V"⟩ : MethodName) jdk_68_method_2_code 2 none ws ({ frames := 1, cells := 1, slots := 16, locals := 12 } : Room) #[(.ref b), (.int (16 : Int32))] Z h0 (Q3 Z b z h0 n0) := by
  refine MetFree.of_bodySF (plainFor_of_name pn_0) hisR ?_
  intro p e s m args below meth cd s₁ Bd hml hP hK
  obtain ⟨rfl, hZ, hh⟩ := hP
  obtain ⟨X0, e0, H, hlk, hown, hret⟩ := own_start (R := ({ frames := 1, cells := 1, slots := 16, locals := 12 } : Room)) Bd hh rfl
  have hx := H.1; have hby := H.2; have N0 := Fr.nil n0
  show own_Fin p e below (own_Ans s (Q3 Z b z h0 n0) ({ frames := 1, cells := 1, slots := 16, locals := 12 } : Room).cells ({ frames := 1, cells := 1, slots := 16, locals := 12 } : Room).slots) (s₁.setTop (entryFrame m #[(.ref b), (.int (16 : Int32))] 2))
  refine own_cast (ef_rm3 m b (16 : Int32)) ?_
  show own_Fin p e below _ (s₁.setTop (mkF m 0 #[.val (.ref b), .val (.int (16 : Int32))] []))
  refine o_aldN X0 H (od dB3 0 rfl) rfl rfl ?_
  obtain ⟨T1, X1, e1, st1⟩ := initO X0 hx hZ hown (ow hw 16 rfl) (ow hw 17 rfl) (ow hw 18 rfl) e0 (g := (mkF m 1 #[.val (.ref b), .val (.int (16 : Int32))] [(.ref b)])) rfl (by rw [hml]; rfl) rfl (hb hby (od dB3 1 rfl)) (by decide) (W := 0) (by show 2 * 0 + _ ≤ _; exact Nat.le_of_eq rfl) (by decide)
  refine own_on st1 ?_
  show own_Fin p e below _ (T1.setTop (mkF m 4 #[.val (.ref b), .val (.int (16 : Int32))] []))
  refine o_gs X1 H hZ hown (ow hw 19 rfl) Via.refl e1 (SC.ext O.2) (od dB3 2 rfl) fun T2 X2 e2 => ?_
  refine o_ifN X2 H (od dB3 3 rfl) ((if0 _ _).trans (feq hz).1) ?_
  refine o_aldN X2 H (od dB3 4 rfl) rfl rfl ?_
  refine o_ildN X2 H (od dB3 5 rfl) rfl ?_
  obtain ⟨T3, h3, k3, X3, e3, E3, A3, st3⟩ := newP X2 hx hZ (ow hw 21 rfl) e2 (g := (mkF m 12 #[.val (.ref b), .val (.int (16 : Int32))] [(.int (16 : Int32)), (.ref b)])) rfl (hb hby (od dB3 6 rfl)) rfl (by decide) (cap := 16) (by decide) (by decide) (by decide) (by decide)
  obtain ⟨b3, g3⟩ : ∃ z, z = h0.size := ⟨_, rfl⟩
  rw [← g3] at A3 st3
  have ne3_b : b ≠ b3 := own_ne_of (Z := Z) E.lt g3
  have gn3 : n0 ≤ b3 := Nat.le_trans Z0 (Nat.le_of_eq g3.symm)
  have gk3 : h0.size ≤ b3 := Nat.le_trans (Keep.refl h0 [b]).1 (Nat.le_of_eq g3.symm)
  have V3 : Arv Z h3 b3 k3 .byte (16 : Int32) [(.int (0 : Int32)), (.int (0 : Int32)), (.int (0 : Int32)), (.int (0 : Int32)), (.int (0 : Int32)), (.int (0 : Int32)), (.int (0 : Int32)), (.int (0 : Int32)), (.int (0 : Int32)), (.int (0 : Int32)), (.int (0 : Int32)), (.int (0 : Int32)), (.int (0 : Int32)), (.int (0 : Int32)), (.int (0 : Int32)), (.int (0 : Int32))] (.int (0 : Int32)) := (Arv.new A3 (by decide)).pad (pad_rep [] (.int (0 : Int32)) 16)
  refine own_on st3 ?_
  show own_Fin p e below _ (T3.setTop (mkF m 14 #[.val (.ref b), .val (.int (16 : Int32))] [(.ref b3), (.ref b)]))
  obtain ⟨T4, h4, X4, e4, W4, st4⟩ := putF X3 hx hZ hown (host := "") (Or.inl (ow hw 22 rfl)) Via.refl e3 (F0.ext E3) (E.ext E3) (Or.inl (ow hw 23 rfl)) (ow hw 5 rfl) (ty := (.array .byte)) (by decide) rfl rfl (g := (mkF m 14 #[.val (.ref b), .val (.int (16 : Int32))] [(.ref b3), (.ref b)])) rfl rfl (hb hby (od dB3 7 rfl))
  have N4 := Fr.snoc X4 N0 gb
  have y5 := ((F1.ext E3).other W4 (Or.inr (slot_ne (Or.inl (ow hw 54 rfl)) (Or.inl (ow hw 23 rfl)) (by decide) (t := .int) (t' := (.array .byte)) (by decide) (by decide))))
  have y6 := ((F2.ext E3).other W4 (Or.inr (slot_ne (Or.inl (ow hw 25 rfl)) (Or.inl (ow hw 23 rfl)) (by decide) (t := .byte) (t' := (.array .byte)) (by decide) (by decide))))
  refine own_on st4 ?_
  show own_Fin p e below _ (T4.setTop (mkF m 17 #[.val (.ref b), .val (.int (16 : Int32))] []))
  refine o_aldN X4 H (od dB3 8 rfl) rfl rfl ?_
  refine o_ic X4 H (od dB3 9 rfl) (v := 0) rfl ?_
  obtain ⟨T7, h7, X7, e7, W7, st7⟩ := putFN X4 hx hZ hown (ow hw 24 rfl) Via.refl e4 y6 ((E.ext E3).wr W4) (Or.inl (ow hw 25 rfl)) (ow hw 5 rfl) (ty := .byte) (v' := (.int (0 : Int32))) (by decide) rfl (by decide) (g := (mkF m 19 #[.val (.ref b), .val (.int (16 : Int32))] [(.int (0 : Int32)), (.ref b)])) rfl rfl (hb hby (od dB3 10 rfl))
  have N7 := Fr.snoc X7 N4 gb
  have y8 := ((((Keep.refl h0 [b]).ext E3).wr W4 (Or.inl (List.mem_of_getElem? (i := 0) rfl))).wr W7 (Or.inl (List.mem_of_getElem? (i := 0) rfl)))
  have y9 := (((F0.ext E3).same W4).other W7 (Or.inr (slot_ne (Or.inl (ow hw 23 rfl)) (Or.inl (ow hw 25 rfl)) (by decide) (t := (.array .byte)) (t' := .byte) (by decide) (by decide))))
  have y10 := (y5.other W7 (Or.inr (slot_ne (Or.inl (ow hw 54 rfl)) (Or.inl (ow hw 25 rfl)) (by decide) (t := .int) (t' := .byte) (by decide) (by decide))))
  refine own_on st7 ?_
  show own_Fin p e below _ (T7.setTop (mkF m 22 #[.val (.ref b), .val (.int (16 : Int32))] []))
  refine o_go X7 H (od dB3 11 rfl) (pc' := 38) (by decide) (by decide) ?_
  exact own_retV X7 hx hlk hret (hb hby (od dB3 19 rfl)) (by show Q3 Z b z h0 n0 _ T7.heap _; rw [e7]; exact ⟨b3, k3, rfl, N7, y8, gn3, gk3, (((E.ext E3).wr W4).wr W7), y9, y10, (y6.same W7), ((V3.other W4 (Ne.symm ne3_b)).other W7 (Ne.symm ne3_b))⟩) (by decide) (by decide)
theorem pn_1 : plainName "java/lang/StringBuilder" = true := by first | (simp [plainName, overriddenIn]; done) | decide +kernel
theorem dB2 : oL jdk_67_method_1_code [(0, .aload_n 0, 1), (1, .bipush 16, 2), (3, .invokespecial 1, 3), (6, .return_, 1)] := by unfold oL; decide +kernel
theorem pd_0 : parseMethodDescriptor "(I)V" = some ⟨[.int], none⟩ := by decide +kernel
theorem ef_rm2 (m : MethodId) (x0 : Addr) : entryFrame m #[(.ref x0)] 1 = mkF m 0 #[.val (.ref x0)] [] := by first | (simp [entryFrame, mkF, argsToLocals, Value.category]; done) | rfl
def Q2 (Z : State) (b : Addr) (z : Int32) (h0 : Heap) (n0 : Nat) (v : Option Value) (h : Heap) (L : List Loc) : Prop := ∃ (tb : Addr) (kt : ClassId), v = none ∧ Fr n0 L ∧ Keep h0 h [b] ∧ n0 ≤ tb ∧ h0.size ≤ tb ∧ Exa Z h b "java/lang/StringBuilder" ∧ Fld Z h b "java/lang/AbstractStringBuilder" "value" "[B" (.ref tb) ∧ Fld Z h b "java/lang/AbstractStringBuilder" "count" "I" (.int (0 : Int32)) ∧ Fld Z h b "java/lang/AbstractStringBuilder" "coder" "B" (.int (0 : Int32)) ∧ Arv Z h tb kt .byte (16 : Int32) [(.int (0 : Int32)), (.int (0 : Int32)), (.int (0 : Int32)), (.int (0 : Int32)), (.int (0 : Int32)), (.int (0 : Int32)), (.int (0 : Int32)), (.int (0 : Int32)), (.int (0 : Int32)), (.int (0 : Int32)), (.int (0 : Int32)), (.int (0 : Int32)), (.int (0 : Int32)), (.int (0 : Int32)), (.int (0 : Int32)), (.int (0 : Int32))] (.int 0)
set_option maxRecDepth 65536 in
set_option maxHeartbeats 40000000 in
theorem rm2 (l : Launch) (Z : State) (a0 : Array Value) (hw : ∀ d ∈ tables_1, d.before a0 Z = true) (ws : List Jvm.Cond) (b : Addr) (z : Int32) (h0 : Heap) (n0 : Nat) (Z0 : n0 ≤ h0.size) (hz : ¬ z = (0 : Int32)) (O : Old Z n0 h0) (SC : Sta Z Z.heap "java/lang/String" "COMPACT_STRINGS" "Z" (.int z)) (E : Exa Z h0 b "java/lang/StringBuilder") (F0 : Fld Z h0 b "java/lang/AbstractStringBuilder" "value" "[B" .null) (F1 : Fld Z h0 b "java/lang/AbstractStringBuilder" "count" "I" (.int (0 : Int32))) (F2 : Fld Z h0 b "java/lang/AbstractStringBuilder" "coder" "B" (.int (0 : Int32))) (gb : n0 ≤ b) :
    own_M l (⟨"java/lang/StringBuilder", "<init>", "()V"⟩ : MethodName) jdk_67_method_1_code 1 none ws ({ frames := 2, cells := 1, slots := 16, locals := 25 } : Room) #[(.ref b)] Z h0 (Q2 Z b z h0 n0) := by
  refine MetFree.of_bodySF (plainFor_of_name pn_1) hisR ?_
  intro p e s m args below meth cd s₁ Bd hml hP hK
  obtain ⟨rfl, hZ, hh⟩ := hP
  obtain ⟨X0, e0, H, hlk, hown, hret⟩ := own_start (R := ({ frames := 2, cells := 1, slots := 16, locals := 25 } : Room)) Bd hh rfl
  have hx := H.1; have hby := H.2; have N0 := Fr.nil n0
  show own_Fin p e below (own_Ans s (Q2 Z b z h0 n0) ({ frames := 2, cells := 1, slots := 16, locals := 25 } : Room).cells ({ frames := 2, cells := 1, slots := 16, locals := 25 } : Room).slots) (s₁.setTop (entryFrame m #[(.ref b)] 1))
  refine own_cast (ef_rm2 m b) ?_
  show own_Fin p e below _ (s₁.setTop (mkF m 0 #[.val (.ref b)] []))
  refine o_aldN X0 H (od dB2 0 rfl) rfl rfl ?_
  refine o_bi X0 H (od dB2 1 rfl) (v := 16) rfl ?_
  refine o_sc (b := b) (argsL := [(.int (16 : Int32))]) (rest := []) X0 H hml hZ hown (ow hw 10 rfl) (ow hw 11 rfl) (ow hw 15 rfl) (backOf (W := 0) (rm3 l Z a0 hw [] b z h0 n0 (by exact Z0) hz O SC E F0 F1 F2 gb) hZ (ow hw 15 rfl) (ow hw 14 rfl) (by decide) (by decide)) rfl (by decide) e0 pd_0 (od dB2 2 rfl) rfl rfl rfl rfl rfl (by decide) (by decide) fun _ T11 Lc11 X11 hQ11 => ?_
  obtain ⟨tb11, kt11, rfl, N11q, K11, gt11, gk11, Eq11, Vq11, Cq11, Dq11, Aq11⟩ := hQ11
  have ne11_b : b ≠ tb11 := Nat.ne_of_lt (Nat.lt_of_lt_of_le E.lt gk11)
  have N11 := Fr.app N0 N11q
  show own_Fin p e below _ (T11.setTop (mkF m 6 #[.val (.ref b)] []))
  exact own_retV X11 hx hlk hret (hb hby (od dB2 3 rfl)) (by show Q2 Z b z h0 n0 _ T11.heap _; exact ⟨tb11, kt11, rfl, N11, ((Keep.refl h0 [b]).trans K11 (allS (Or.inl (List.mem_of_getElem? (i := 0) rfl)) all0)), gt11, (Nat.le_trans (Keep.refl h0 [b]).1 gk11), Eq11, Vq11, Cq11, Dq11, Aq11⟩) (by decide) (by decide)
theorem dB22 : oL jdk_68_method_68_code [(0, .getstatic 18, 3), (3, .ifCond .eq 14, 3), (6, .aload_n 0, 1), (7, .getfield 22, 3), (10, .ifCond .ne 7, 3), (13, .iconst 1, 1), (14, .goto 4, 3), (17, .iconst 0, 1), (18, .ireturn, 1)] := by unfold oL; decide +kernel
theorem ef_rm22 (m : MethodId) (x0 : Addr) : entryFrame m #[(.ref x0)] 1 = mkF m 0 #[.val (.ref x0)] [] := by first | (simp [entryFrame, mkF, argsToLocals, Value.category]; done) | rfl
def Q22 (Z : State) (b : Addr) (z : Int32) (h0 : Heap) (n0 : Nat) (v : Option Value) (h : Heap) (L : List Loc) : Prop := v = some (.int (1 : Int32)) ∧ Fr n0 L ∧ h = h0
set_option maxRecDepth 65536 in
set_option maxHeartbeats 40000000 in
theorem rm22 (l : Launch) (Z : State) (a0 : Array Value) (hw : ∀ d ∈ tables_1, d.before a0 Z = true) (ws : List Jvm.Cond) (b : Addr) (z : Int32) (h0 : Heap) (n0 : Nat) (Z0 : n0 ≤ h0.size) (hz : ¬ z = (0 : Int32)) (O : Old Z n0 h0) (SC : Sta Z Z.heap "java/lang/String" "COMPACT_STRINGS" "Z" (.int z)) (F : Fld Z h0 b "java/lang/AbstractStringBuilder" "coder" "B" (.int (0 : Int32))) :
    own_M l (⟨"java/lang/AbstractStringBuilder", "isLatin1", "()Z"⟩ : MethodName) jdk_68_method_68_code 1 (some .boolean) ws ({ frames := 0, cells := 0, slots := 0, locals := 0 } : Room) #[(.ref b)] Z h0 (Q22 Z b z h0 n0) := by
  refine MetFree.of_bodySF (plainFor_of_name pn_0) hisR ?_
  intro p e s m args below meth cd s₁ Bd hml hP hK
  obtain ⟨rfl, hZ, hh⟩ := hP
  obtain ⟨X0, e0, H, hlk, hown, hret⟩ := own_start (R := ({ frames := 0, cells := 0, slots := 0, locals := 0 } : Room)) Bd hh rfl
  have hx := H.1; have hby := H.2; have N0 := Fr.nil n0
  show own_Fin p e below (own_Ans s (Q22 Z b z h0 n0) ({ frames := 0, cells := 0, slots := 0, locals := 0 } : Room).cells ({ frames := 0, cells := 0, slots := 0, locals := 0 } : Room).slots) (s₁.setTop (entryFrame m #[(.ref b)] 1))
  refine own_cast (ef_rm22 m b) ?_
  show own_Fin p e below _ (s₁.setTop (mkF m 0 #[.val (.ref b)] []))
  refine o_gs X0 H hZ hown (ow hw 19 rfl) Via.refl e0 (SC.ext O.2) (od dB22 0 rfl) fun T12 X12 e12 => ?_
  refine o_ifN X12 H (od dB22 1 rfl) ((if0 _ _).trans (feq hz).1) ?_
  refine o_aldN X12 H (od dB22 2 rfl) rfl rfl ?_
  refine o_gf X12 H hZ hown (ow hw 24 rfl) Via.refl e12 F (od dB22 3 rfl) fun T13 X13 e13 => ?_
  refine o_ifN X13 H (od dB22 4 rfl) ((if0 _ _).trans (teq (by decide : (0 : Int32) = (0 : Int32))).2) ?_
  refine o_ic X13 H (od dB22 5 rfl) (v := 1) rfl ?_
  refine o_go X13 H (od dB22 6 rfl) (pc' := 18) (by decide) (by decide) ?_
  exact own_ret (t := .boolean) X13 hx hlk hret rfl (Or.inl ⟨rfl, (by simp), _, rfl⟩) (hb hby (od dB22 8 rfl)) (⟨rfl, N0, e13⟩) (by decide) (by decide)
theorem dB27 : oL jdk_68_method_64_code [(0, .aload_n 0, 1), (1, .getfield 15, 3), (4, .areturn, 1)] := by unfold oL; decide +kernel
theorem ef_rm27 (m : MethodId) (x0 : Addr) : entryFrame m #[(.ref x0)] 1 = mkF m 0 #[.val (.ref x0)] [] := by first | (simp [entryFrame, mkF, argsToLocals, Value.category]; done) | rfl
def Q27 (Z : State) (b : Addr) (tb : Addr) (h0 : Heap) (n0 : Nat) (v : Option Value) (h : Heap) (L : List Loc) : Prop := v = some (.ref tb) ∧ Fr n0 L ∧ h = h0
set_option maxRecDepth 65536 in
set_option maxHeartbeats 40000000 in
theorem rm27 (l : Launch) (Z : State) (a0 : Array Value) (hw : ∀ d ∈ tables_1, d.before a0 Z = true) (ws : List Jvm.Cond) (b : Addr) (tb : Addr) (h0 : Heap) (n0 : Nat) (Z0 : n0 ≤ h0.size) (F : Fld Z h0 b "java/lang/AbstractStringBuilder" "value" "[B" (.ref tb)) :
    own_M l (⟨"java/lang/AbstractStringBuilder", "getValue", "()[B"⟩ : MethodName) jdk_68_method_64_code 1 (some (.array .byte)) ws ({ frames := 0, cells := 0, slots := 0, locals := 0 } : Room) #[(.ref b)] Z h0 (Q27 Z b tb h0 n0) := by
  refine MetFree.of_bodySF (plainFor_of_name pn_0) hisR ?_
  intro p e s m args below meth cd s₁ Bd hml hP hK
  obtain ⟨rfl, hZ, hh⟩ := hP
  obtain ⟨X0, e0, H, hlk, hown, hret⟩ := own_start (R := ({ frames := 0, cells := 0, slots := 0, locals := 0 } : Room)) Bd hh rfl
  have hx := H.1; have hby := H.2; have N0 := Fr.nil n0
  show own_Fin p e below (own_Ans s (Q27 Z b tb h0 n0) ({ frames := 0, cells := 0, slots := 0, locals := 0 } : Room).cells ({ frames := 0, cells := 0, slots := 0, locals := 0 } : Room).slots) (s₁.setTop (entryFrame m #[(.ref b)] 1))
  refine own_cast (ef_rm27 m b) ?_
  show own_Fin p e below _ (s₁.setTop (mkF m 0 #[.val (.ref b)] []))
  refine o_aldN X0 H (od dB27 0 rfl) rfl rfl ?_
  refine o_gf X0 H hZ hown (ow hw 22 rfl) Via.refl e0 F (od dB27 1 rfl) fun T14 X14 e14 => ?_
  exact own_ret (t := (.array .byte)) X14 hx hlk hret rfl (Or.inr (Or.inr (Or.inr (Or.inr ⟨rfl, rfl, rfl⟩)))) (hb hby (od dB27 2 rfl)) (⟨rfl, N0, e14⟩) (by decide) (by decide)
theorem dB29 : oL jdk_68_method_6_code [(0, .aload_n 0, 1), (1, .getfield 79, 3), (4, .ireturn, 1)] := by unfold oL; decide +kernel
theorem ef_rm29 (m : MethodId) (x0 : Addr) : entryFrame m #[(.ref x0)] 1 = mkF m 0 #[.val (.ref x0)] [] := by first | (simp [entryFrame, mkF, argsToLocals, Value.category]; done) | rfl
def Q29 (Z : State) (b : Addr) (k : Int32) (h0 : Heap) (n0 : Nat) (v : Option Value) (h : Heap) (L : List Loc) : Prop := v = some (.int k) ∧ Fr n0 L ∧ h = h0
set_option maxRecDepth 65536 in
set_option maxHeartbeats 40000000 in
theorem rm29 (l : Launch) (Z : State) (a0 : Array Value) (hw : ∀ d ∈ tables_1, d.before a0 Z = true) (ws : List Jvm.Cond) (b : Addr) (k : Int32) (h0 : Heap) (n0 : Nat) (Z0 : n0 ≤ h0.size) (E : Exa Z h0 b "java/lang/StringBuilder") (F : Fld Z h0 b "java/lang/AbstractStringBuilder" "count" "I" (.int k)) :
    own_M l (⟨"java/lang/AbstractStringBuilder", "length", "()I"⟩ : MethodName) jdk_68_method_6_code 1 (some .int) ws ({ frames := 0, cells := 0, slots := 0, locals := 0 } : Room) #[(.ref b)] Z h0 (Q29 Z b k h0 n0) := by
  refine MetFree.of_bodySF (plainFor_of_name pn_0) hisR ?_
  intro p e s m args below meth cd s₁ Bd hml hP hK
  obtain ⟨rfl, hZ, hh⟩ := hP
  obtain ⟨X0, e0, H, hlk, hown, hret⟩ := own_start (R := ({ frames := 0, cells := 0, slots := 0, locals := 0 } : Room)) Bd hh rfl
  have hx := H.1; have hby := H.2; have N0 := Fr.nil n0
  show own_Fin p e below (own_Ans s (Q29 Z b k h0 n0) ({ frames := 0, cells := 0, slots := 0, locals := 0 } : Room).cells ({ frames := 0, cells := 0, slots := 0, locals := 0 } : Room).slots) (s₁.setTop (entryFrame m #[(.ref b)] 1))
  refine own_cast (ef_rm29 m b) ?_
  show own_Fin p e below _ (s₁.setTop (mkF m 0 #[.val (.ref b)] []))
  refine o_aldN X0 H (od dB29 0 rfl) rfl rfl ?_
  refine o_gf X0 H hZ hown (ow hw 53 rfl) Via.refl e0 F (od dB29 1 rfl) fun T15 X15 e15 => ?_
  exact own_ret (t := .int) X15 hx hlk hret rfl (Or.inl ⟨rfl, (by simp), _, rfl⟩) (hb hby (od dB29 2 rfl)) (⟨rfl, N0, e15⟩) (by decide) (by decide)
theorem dB28 : oL jdk_67_method_93_code [(0, .aload_n 0, 1), (1, .invokespecial 343, 3), (4, .ireturn, 1)] := by unfold oL; decide +kernel
theorem pd_1 : parseMethodDescriptor "()I" = some ⟨[], some .int⟩ := by decide +kernel
theorem ef_rm28 (m : MethodId) (x0 : Addr) : entryFrame m #[(.ref x0)] 1 = mkF m 0 #[.val (.ref x0)] [] := by first | (simp [entryFrame, mkF, argsToLocals, Value.category]; done) | rfl
def Q28 (Z : State) (b : Addr) (k : Int32) (h0 : Heap) (n0 : Nat) (v : Option Value) (h : Heap) (L : List Loc) : Prop := v = some (.int k) ∧ Fr n0 L ∧ h = h0
set_option maxRecDepth 65536 in
set_option maxHeartbeats 40000000 in
theorem rm28 (l : Launch) (Z : State) (a0 : Array Value) (hw : ∀ d ∈ tables_1, d.before a0 Z = true) (ws : List Jvm.Cond) (b : Addr) (k : Int32) (h0 : Heap) (n0 : Nat) (Z0 : n0 ≤ h0.size) (E : Exa Z h0 b "java/lang/StringBuilder") (F : Fld Z h0 b "java/lang/AbstractStringBuilder" "count" "I" (.int k)) :
    own_M l (⟨"java/lang/StringBuilder", "length", "()I"⟩ : MethodName) jdk_67_method_93_code 1 (some .int) ws ({ frames := 1, cells := 0, slots := 0, locals := 12 } : Room) #[(.ref b)] Z h0 (Q28 Z b k h0 n0) := by
  refine MetFree.of_bodySF (plainFor_of_name pn_1) hisR ?_
  intro p e s m args below meth cd s₁ Bd hml hP hK
  obtain ⟨rfl, hZ, hh⟩ := hP
  obtain ⟨X0, e0, H, hlk, hown, hret⟩ := own_start (R := ({ frames := 1, cells := 0, slots := 0, locals := 12 } : Room)) Bd hh rfl
  have hx := H.1; have hby := H.2; have N0 := Fr.nil n0
  show own_Fin p e below (own_Ans s (Q28 Z b k h0 n0) ({ frames := 1, cells := 0, slots := 0, locals := 12 } : Room).cells ({ frames := 1, cells := 0, slots := 0, locals := 12 } : Room).slots) (s₁.setTop (entryFrame m #[(.ref b)] 1))
  refine own_cast (ef_rm28 m b) ?_
  show own_Fin p e below _ (s₁.setTop (mkF m 0 #[.val (.ref b)] []))
  refine o_aldN X0 H (od dB28 0 rfl) rfl rfl ?_
  refine o_bk (superBack X0 hx hZ (y := (⟨"java/lang/AbstractStringBuilder", "length", "()I"⟩ : MethodName)) hown (ow hw 158 rfl) (own_same (ow hw 153 rfl) (ow hw 58 rfl) rfl (by decide)) (ow hw 154 rfl) (ow hw 35 rfl) (by decide) (backOf (W := 0) (rm29 l Z a0 hw [] b k h0 n0 (by exact Z0) E F) hZ (ow hw 159 rfl) (ow hw 14 rfl) (by decide) (by decide)) e0 (Ins.self E) rfl (by exact hml.symm) (ow hw 159 rfl) (argsL := []) (rest := []) (lenOf pd_1 rfl) rfl (o_mr rfl) (hb hby (od dB28 1 rfl)) (fun _ _ => ⟨rfl, e0, (by decide : 0 + 0 ≤ _), (by decide : 0 + 0 ≤ _)⟩)) fun _ T16 Lc16 X16 hQ16 => ?_
  obtain ⟨rfl, N16q, e16⟩ := hQ16
  have N16 := Fr.app N0 N16q
  show own_Fin p e below _ (T16.setTop (mkF m 4 #[.val (.ref b)] [(.int k)]))
  exact own_ret (t := .int) X16 hx hlk hret rfl (Or.inl ⟨rfl, (by simp), _, rfl⟩) (hb hby (od dB28 2 rfl)) (⟨rfl, N16, e16⟩) (by decide) (by decide)
theorem pn_2 : plainName "java/lang/String" = true := by first | (simp [plainName, overriddenIn]; done) | decide +kernel
theorem dB8 : oL jdk_42_method_152_code [(0, .getstatic 38, 3), (3, .ifCond .eq 10, 3), (6, .aload_n 0, 1), (7, .getfield 15, 3), (10, .goto 4, 3), (13, .iconst 1, 1), (14, .ireturn, 1)] := by unfold oL; decide +kernel
theorem ef_rm8 (m : MethodId) (x0 : Addr) : entryFrame m #[(.ref x0)] 1 = mkF m 0 #[.val (.ref x0)] [] := by first | (simp [entryFrame, mkF, argsToLocals, Value.category]; done) | rfl
def Q8 (Z : State) (x : Addr) (z : Int32) (h0 : Heap) (n0 : Nat) (v : Option Value) (h : Heap) (L : List Loc) : Prop := v = some (.int (0 : Int32)) ∧ Fr n0 L ∧ h = h0
set_option maxRecDepth 65536 in
set_option maxHeartbeats 40000000 in
theorem rm8 (l : Launch) (Z : State) (a0 : Array Value) (hw : ∀ d ∈ tables_1, d.before a0 Z = true) (ws : List Jvm.Cond) (x : Addr) (z : Int32) (h0 : Heap) (n0 : Nat) (Z0 : n0 ≤ h0.size) (hz : ¬ z = (0 : Int32)) (O : Old Z n0 h0) (SC : Sta Z Z.heap "java/lang/String" "COMPACT_STRINGS" "Z" (.int z)) (Cx : Fld Z h0 x "java/lang/String" "coder" "B" (.int (0 : Int32))) :
    own_M l (⟨"java/lang/String", "coder", "()B"⟩ : MethodName) jdk_42_method_152_code 1 (some .byte) ws ({ frames := 0, cells := 0, slots := 0, locals := 0 } : Room) #[(.ref x)] Z h0 (Q8 Z x z h0 n0) := by
  refine MetFree.of_bodySF (plainFor_of_name pn_2) hisR ?_
  intro p e s m args below meth cd s₁ Bd hml hP hK
  obtain ⟨rfl, hZ, hh⟩ := hP
  obtain ⟨X0, e0, H, hlk, hown, hret⟩ := own_start (R := ({ frames := 0, cells := 0, slots := 0, locals := 0 } : Room)) Bd hh rfl
  have hx := H.1; have hby := H.2; have N0 := Fr.nil n0
  show own_Fin p e below (own_Ans s (Q8 Z x z h0 n0) ({ frames := 0, cells := 0, slots := 0, locals := 0 } : Room).cells ({ frames := 0, cells := 0, slots := 0, locals := 0 } : Room).slots) (s₁.setTop (entryFrame m #[(.ref x)] 1))
  refine own_cast (ef_rm8 m x) ?_
  show own_Fin p e below _ (s₁.setTop (mkF m 0 #[.val (.ref x)] []))
  refine o_gs X0 H hZ hown (ow hw 50 rfl) Via.refl e0 (SC.ext O.2) (od dB8 0 rfl) fun T17 X17 e17 => ?_
  refine o_ifN X17 H (od dB8 1 rfl) ((if0 _ _).trans (feq hz).1) ?_
  refine o_aldN X17 H (od dB8 2 rfl) rfl rfl ?_
  refine o_gf X17 H hZ hown (ow hw 51 rfl) Via.refl e17 Cx (od dB8 3 rfl) fun T18 X18 e18 => ?_
  refine o_go X18 H (od dB8 4 rfl) (pc' := 14) (by decide) (by decide) ?_
  exact own_ret (t := .byte) X18 hx hlk hret rfl (Or.inl ⟨rfl, (by simp), _, rfl⟩) (hb hby (od dB8 6 rfl)) (⟨rfl, N0, e18⟩) (by decide) (by decide)
theorem dB7 : oL jdk_42_method_54_code [(0, .aload_n 0, 1), (1, .getfield 9, 3), (4, .arraylength, 1), (5, .aload_n 0, 1), (6, .invokevirtual 335, 3), (9, .ishr, 1), (10, .ireturn, 1)] := by unfold oL; decide +kernel
theorem pd_2 : parseMethodDescriptor "()B" = some ⟨[], some .byte⟩ := by decide +kernel
theorem ef_rm7 (m : MethodId) (x0 : Addr) : entryFrame m #[(.ref x0)] 1 = mkF m 0 #[.val (.ref x0)] [] := by first | (simp [entryFrame, mkF, argsToLocals, Value.category]; done) | rfl
def Q7 (Z : State) (x : Addr) (z : Int32) (tx : Addr) (kx : ClassId) (n : Nat) (ds : List Int32) (h0 : Heap) (n0 : Nat) (v : Option Value) (h : Heap) (L : List Loc) : Prop := v = some (.int (Int32.ofNat n)) ∧ Fr n0 L ∧ h = h0
set_option maxRecDepth 65536 in
set_option maxHeartbeats 40000000 in
theorem rm7 (l : Launch) (Z : State) (a0 : Array Value) (hw : ∀ d ∈ tables_1, d.before a0 Z = true) (ws : List Jvm.Cond) (x : Addr) (z : Int32) (tx : Addr) (kx : ClassId) (n : Nat) (ds : List Int32) (h0 : Heap) (n0 : Nat) (Z0 : n0 ≤ h0.size) (hz : ¬ z = (0 : Int32)) (O : Old Z n0 h0) (SC : Sta Z Z.heap "java/lang/String" "COMPACT_STRINGS" "Z" (.int z)) (Ex : Exa Z h0 x "java/lang/String") (Cx : Fld Z h0 x "java/lang/String" "coder" "B" (.int (0 : Int32))) (Vx : Fld Z h0 x "java/lang/String" "value" "[B" (.ref tx)) (Kx : Arv Z h0 tx kx .byte (Int32.ofNat n) ((ds.map StrChars.lo8).map Value.int) (.int 0)) (hnx : ds.length = n) :
    own_M l (⟨"java/lang/String", "length", "()I"⟩ : MethodName) jdk_42_method_54_code 1 (some .int) ws ({ frames := 1, cells := 0, slots := 0, locals := 13 } : Room) #[(.ref x)] Z h0 (Q7 Z x z tx kx n ds h0 n0) := by
  refine MetFree.of_bodySF (plainFor_of_name pn_2) hisR ?_
  intro p e s m args below meth cd s₁ Bd hml hP hK
  obtain ⟨rfl, hZ, hh⟩ := hP
  obtain ⟨X0, e0, H, hlk, hown, hret⟩ := own_start (R := ({ frames := 1, cells := 0, slots := 0, locals := 13 } : Room)) Bd hh rfl
  have hx := H.1; have hby := H.2; have N0 := Fr.nil n0
  show own_Fin p e below (own_Ans s (Q7 Z x z tx kx n ds h0 n0) ({ frames := 1, cells := 0, slots := 0, locals := 13 } : Room).cells ({ frames := 1, cells := 0, slots := 0, locals := 13 } : Room).slots) (s₁.setTop (entryFrame m #[(.ref x)] 1))
  refine own_cast (ef_rm7 m x) ?_
  show own_Fin p e below _ (s₁.setTop (mkF m 0 #[.val (.ref x)] []))
  refine o_aldN X0 H (od dB7 0 rfl) rfl rfl ?_
  refine o_gf X0 H hZ hown (ow hw 43 rfl) Via.refl e0 Vx (od dB7 1 rfl) fun T19 X19 e19 => ?_
  have cp20 := Kx
  obtain ⟨cl20, Ar20, q20, S20, G20, H20, F20⟩ := cp20
  refine own_on (fun tq => X19.arraylength hx (by rw [e19]; exact Ar20.1) (State.isArrayOf_alike hZ.alike Ar20.2.1) (g := (mkF m 4 #[.val (.ref x)] [(.ref tx)])) rfl rfl (hb hby (od dB7 2 rfl)) tq) ?_
  rw [len_of S20 G20]
  show own_Fin p e below _ (T19.setTop (mkF m 5 #[.val (.ref x)] [(.int (Int32.ofNat n))]))
  refine o_aldN X19 H (od dB7 3 rfl) rfl rfl ?_
  refine o_vs (argsL := []) (rest := [(.int (Int32.ofNat n))]) X19 H hml hZ hown (ow hw 45 rfl) (ow hw 46 rfl) (ow hw 48 rfl) (ow hw 47 rfl) (backOf (W := 1) (rm8 l Z a0 hw [] x z h0 n0 (by exact Z0) hz O SC Cx) hZ (ow hw 49 rfl) (ow hw 20 rfl) (by decide) (by decide)) (by decide) Ex e19 pd_2 (od dB7 4 rfl) rfl rfl rfl rfl rfl (by decide) (by decide) (o_pk (fun _ _ _ q => q) N0 fun T21 Lc21 X21 N21 e21 => ?_)
  refine own_on (fun tq => XS.ishr X21.here hx rfl (hb hby (od dB7 5 rfl)) rfl) ?_
  show own_Fin p e below _ (T21.setTop (mkF m 10 #[.val (.ref x)] [(.int ((Int32.ofNat n) >>> ((0 : Int32) &&& 31)))]))
  rw [own_shr0]
  show own_Fin p e below _ (T21.setTop (mkF m 10 #[.val (.ref x)] [(.int (Int32.ofNat n))]))
  exact own_ret (t := .int) X21 hx hlk hret rfl (Or.inl ⟨rfl, (by simp), _, rfl⟩) (hb hby (od dB7 6 rfl)) (⟨rfl, N21, e21⟩) (by decide) (by decide)
theorem dB14 : oL jdk_29_method_69_code [(0, .iload_n 0, 1), (1, .iload_n 1, 1), (2, .if_icmp .gt 7, 3), (5, .iload_n 0, 1), (6, .goto 4, 3), (9, .iload_n 1, 1), (10, .ireturn, 1)] := by unfold oL; decide +kernel
theorem ef_rmMa (m : MethodId) (x0 : Int32) (x1 : Int32) : entryFrame m #[(.int x0), (.int x1)] 2 = mkF m 0 #[.val (.int x0), .val (.int x1)] [] := by first | (simp [entryFrame, mkF, argsToLocals, Value.category]; done) | rfl
def QMa (Z : State) (u1 : Int32) (u2 : Int32) (h0 : Heap) (n0 : Nat) (v : Option Value) (h : Heap) (L : List Loc) : Prop := v = some (.int u1) ∧ Fr n0 L ∧ h = h0
set_option maxRecDepth 65536 in
set_option maxHeartbeats 40000000 in
theorem rmMa (l : Launch) (Z : State) (a0 : Array Value) (hw : ∀ d ∈ tables_1, d.before a0 Z = true) (ws : List Jvm.Cond) (u1 : Int32) (u2 : Int32) (h0 : Heap) (n0 : Nat) (Z0 : n0 ≤ h0.size) (hm : ¬ u2 < u1) :
    own_M l (⟨"java/lang/Math", "min", "(II)I"⟩ : MethodName) jdk_29_method_69_code 2 (some .int) ws ({ frames := 0, cells := 0, slots := 0, locals := 0 } : Room) #[(.int u1), (.int u2)] Z h0 (QMa Z u1 u2 h0 n0) := by
  refine MetFree.of_bodySF (Jvm.Free.JP.mathPlain rfl (by decide +kernel)) hisR ?_
  intro p e s m args below meth cd s₁ Bd hml hP hK
  obtain ⟨rfl, hZ, hh⟩ := hP
  obtain ⟨X0, e0, H, hlk, hown, hret⟩ := own_start (R := ({ frames := 0, cells := 0, slots := 0, locals := 0 } : Room)) Bd hh rfl
  have hx := H.1; have hby := H.2; have N0 := Fr.nil n0
  show own_Fin p e below (own_Ans s (QMa Z u1 u2 h0 n0) ({ frames := 0, cells := 0, slots := 0, locals := 0 } : Room).cells ({ frames := 0, cells := 0, slots := 0, locals := 0 } : Room).slots) (s₁.setTop (entryFrame m #[(.int u1), (.int u2)] 2))
  refine own_cast (ef_rmMa m u1 u2) ?_
  show own_Fin p e below _ (s₁.setTop (mkF m 0 #[.val (.int u1), .val (.int u2)] []))
  refine o_ildN X0 H (od dB14 0 rfl) rfl ?_
  refine o_ildN X0 H (od dB14 1 rfl) rfl ?_
  refine o_icN X0 H (od dB14 2 rfl) (flt hm).2.2.1 ?_
  refine o_ildN X0 H (od dB14 3 rfl) rfl ?_
  refine o_go X0 H (od dB14 4 rfl) (pc' := 10) (by decide) (by decide) ?_
  exact own_ret (t := .int) X0 hx hlk hret rfl (Or.inl ⟨rfl, (by simp), _, rfl⟩) (hb hby (od dB14 6 rfl)) (⟨rfl, N0, e0⟩) (by decide) (by decide)
theorem ef_rmMb (m : MethodId) (x0 : Int32) (x1 : Int32) : entryFrame m #[(.int x0), (.int x1)] 2 = mkF m 0 #[.val (.int x0), .val (.int x1)] [] := by first | (simp [entryFrame, mkF, argsToLocals, Value.category]; done) | rfl
def QMb (Z : State) (u1 : Int32) (u2 : Int32) (h0 : Heap) (n0 : Nat) (v : Option Value) (h : Heap) (L : List Loc) : Prop := v = some (.int u2) ∧ Fr n0 L ∧ h = h0
set_option maxRecDepth 65536 in
set_option maxHeartbeats 40000000 in
theorem rmMb (l : Launch) (Z : State) (a0 : Array Value) (hw : ∀ d ∈ tables_1, d.before a0 Z = true) (ws : List Jvm.Cond) (u1 : Int32) (u2 : Int32) (h0 : Heap) (n0 : Nat) (Z0 : n0 ≤ h0.size) (hm : u2 < u1) :
    own_M l (⟨"java/lang/Math", "min", "(II)I"⟩ : MethodName) jdk_29_method_69_code 2 (some .int) ws ({ frames := 0, cells := 0, slots := 0, locals := 0 } : Room) #[(.int u1), (.int u2)] Z h0 (QMb Z u1 u2 h0 n0) := by
  refine MetFree.of_bodySF (Jvm.Free.JP.mathPlain rfl (by decide +kernel)) hisR ?_
  intro p e s m args below meth cd s₁ Bd hml hP hK
  obtain ⟨rfl, hZ, hh⟩ := hP
  obtain ⟨X0, e0, H, hlk, hown, hret⟩ := own_start (R := ({ frames := 0, cells := 0, slots := 0, locals := 0 } : Room)) Bd hh rfl
  have hx := H.1; have hby := H.2; have N0 := Fr.nil n0
  show own_Fin p e below (own_Ans s (QMb Z u1 u2 h0 n0) ({ frames := 0, cells := 0, slots := 0, locals := 0 } : Room).cells ({ frames := 0, cells := 0, slots := 0, locals := 0 } : Room).slots) (s₁.setTop (entryFrame m #[(.int u1), (.int u2)] 2))
  refine own_cast (ef_rmMb m u1 u2) ?_
  show own_Fin p e below _ (s₁.setTop (mkF m 0 #[.val (.int u1), .val (.int u2)] []))
  refine o_ildN X0 H (od dB14 0 rfl) rfl ?_
  refine o_ildN X0 H (od dB14 1 rfl) rfl ?_
  refine o_icY X0 H (od dB14 2 rfl) (tlt hm).2.2.1 (pc' := 9) (by decide) (by decide) ?_
  refine o_ildN X0 H (od dB14 5 rfl) rfl ?_
  exact own_ret (t := .int) X0 hx hlk hret rfl (Or.inl ⟨rfl, (by simp), _, rfl⟩) (hb hby (od dB14 6 rfl)) (⟨rfl, N0, e0⟩) (by decide) (by decide)
theorem dB16 : oL jdk_68_method_71_code [(0, .getstatic 18, 3), (3, .ifCond .eq 18, 3), (6, .aload_n 0, 1), (7, .getfield 22, 3), (10, .aload_n 1, 1), (11, .invokevirtual 40, 3), (14, .if_icmp .eq 7, 3), (17, .aload_n 0, 1), (18, .invokevirtual 195, 3), (21, .return_, 1)] := by unfold oL; decide +kernel
theorem ef_rm16 (m : MethodId) (x0 : Addr) (x1 : Addr) : entryFrame m #[(.ref x0), (.ref x1)] 2 = mkF m 0 #[.val (.ref x0), .val (.ref x1)] [] := by first | (simp [entryFrame, mkF, argsToLocals, Value.category]; done) | rfl
def Q16 (Z : State) (b : Addr) (x : Addr) (z : Int32) (h0 : Heap) (n0 : Nat) (v : Option Value) (h : Heap) (L : List Loc) : Prop := v = none ∧ Fr n0 L ∧ h = h0
set_option maxRecDepth 65536 in
set_option maxHeartbeats 40000000 in
theorem rm16 (l : Launch) (Z : State) (a0 : Array Value) (hw : ∀ d ∈ tables_1, d.before a0 Z = true) (ws : List Jvm.Cond) (b : Addr) (x : Addr) (z : Int32) (h0 : Heap) (n0 : Nat) (Z0 : n0 ≤ h0.size) (hz : ¬ z = (0 : Int32)) (O : Old Z n0 h0) (SC : Sta Z Z.heap "java/lang/String" "COMPACT_STRINGS" "Z" (.int z)) (Fk : Fld Z h0 b "java/lang/AbstractStringBuilder" "coder" "B" (.int (0 : Int32))) (Ex : Exa Z h0 x "java/lang/String") (Cx : Fld Z h0 x "java/lang/String" "coder" "B" (.int (0 : Int32))) :
    own_M l (⟨"java/lang/AbstractStringBuilder", "inflateIfNeededFor", "(Ljava/lang/String;)V"⟩ : MethodName) jdk_68_method_71_code 2 none ws ({ frames := 1, cells := 0, slots := 0, locals := 13 } : Room) #[(.ref b), (.ref x)] Z h0 (Q16 Z b x z h0 n0) := by
  refine MetFree.of_bodySF (plainFor_of_name pn_0) hisR ?_
  intro p e s m args below meth cd s₁ Bd hml hP hK
  obtain ⟨rfl, hZ, hh⟩ := hP
  obtain ⟨X0, e0, H, hlk, hown, hret⟩ := own_start (R := ({ frames := 1, cells := 0, slots := 0, locals := 13 } : Room)) Bd hh rfl
  have hx := H.1; have hby := H.2; have N0 := Fr.nil n0
  show own_Fin p e below (own_Ans s (Q16 Z b x z h0 n0) ({ frames := 1, cells := 0, slots := 0, locals := 13 } : Room).cells ({ frames := 1, cells := 0, slots := 0, locals := 13 } : Room).slots) (s₁.setTop (entryFrame m #[(.ref b), (.ref x)] 2))
  refine own_cast (ef_rm16 m b x) ?_
  show own_Fin p e below _ (s₁.setTop (mkF m 0 #[.val (.ref b), .val (.ref x)] []))
  refine o_gs X0 H hZ hown (ow hw 19 rfl) Via.refl e0 (SC.ext O.2) (od dB16 0 rfl) fun T22 X22 e22 => ?_
  refine o_ifN X22 H (od dB16 1 rfl) ((if0 _ _).trans (feq hz).1) ?_
  refine o_aldN X22 H (od dB16 2 rfl) rfl rfl ?_
  refine o_gf X22 H hZ hown (ow hw 24 rfl) Via.refl e22 Fk (od dB16 3 rfl) fun T23 X23 e23 => ?_
  refine o_aldN X23 H (od dB16 4 rfl) rfl rfl ?_
  refine o_vs (argsL := []) (rest := [(.int (0 : Int32))]) X23 H hml hZ hown (ow hw 96 rfl) (ow hw 46 rfl) (ow hw 48 rfl) (ow hw 47 rfl) (backOf (W := 1) (rm8 l Z a0 hw [] x z h0 n0 (by exact Z0) hz O SC Cx) hZ (ow hw 49 rfl) (ow hw 20 rfl) (by decide) (by decide)) (by decide) Ex e23 pd_2 (od dB16 5 rfl) rfl rfl rfl rfl rfl (by decide) (by decide) (o_pk (fun _ _ _ q => q) N0 fun T24 Lc24 X24 N24 e24 => ?_)
  refine o_icY X24 H (od dB16 6 rfl) (teq (by decide : (0 : Int32) = (0 : Int32))).1 (pc' := 21) (by decide) (by decide) ?_
  exact own_retV X24 hx hlk hret (hb hby (od dB16 9 rfl)) (⟨rfl, N24, e24⟩) (by decide) (by decide)
theorem dB17 : oL jdk_42_method_147_code [(0, .aload_n 0, 1), (1, .invokevirtual 335, 3), (4, .iload_n 3, 1), (5, .if_icmp .ne 23, 3), (8, .aload_n 0, 1), (9, .getfield 9, 3), (12, .iconst 0, 1), (13, .aload_n 1, 1), (14, .iload_n 2, 1), (15, .iload_n 3, 1), (16, .ishl, 1), (17, .aload_n 0, 1), (18, .getfield 9, 3), (21, .arraylength, 1), (22, .invokestatic 212, 3), (25, .goto 18, 3), (28, .aload_n 0, 1), (29, .getfield 9, 3), (32, .iconst 0, 1), (33, .aload_n 1, 1), (34, .iload_n 2, 1), (35, .aload_n 0, 1), (36, .getfield 9, 3), (39, .arraylength, 1), (40, .invokestatic 106, 3), (43, .return_, 1)] := by unfold oL; decide +kernel
theorem ef_rm17 (m : MethodId) (x0 : Addr) (x1 : Addr) (x2 : Int32) (x3 : Int32) : entryFrame m #[(.ref x0), (.ref x1), (.int x2), (.int x3)] 4 = mkF m 0 #[.val (.ref x0), .val (.ref x1), .val (.int x2), .val (.int x3)] [] := by first | (simp [entryFrame, mkF, argsToLocals, Value.category]; done) | rfl
def Q17 (Z : State) (x : Addr) (tb : Addr) (z : Int32) (kt : ClassId) (k : Nat) (cs : List Int32) (c : Nat) (tx : Addr) (kx : ClassId) (n : Nat) (ds : List Int32) (h0 : Heap) (n0 : Nat) (v : Option Value) (h : Heap) (L : List Loc) : Prop := v = none ∧ Fr n0 L ∧ Keep h0 h [tb] ∧ Arv Z h tb kt .byte (Int32.ofNat c) (((cs ++ ds).map StrChars.lo8).map Value.int) (.int 0)
set_option maxRecDepth 65536 in
set_option maxHeartbeats 40000000 in
theorem rm17 (l : Launch) (Z : State) (a0 : Array Value) (hw : ∀ d ∈ tables_1, d.before a0 Z = true) (ws : List Jvm.Cond) (x : Addr) (tb : Addr) (z : Int32) (kt : ClassId) (k : Nat) (cs : List Int32) (c : Nat) (tx : Addr) (kx : ClassId) (n : Nat) (ds : List Int32) (h0 : Heap) (n0 : Nat) (Z0 : n0 ≤ h0.size) (hz : ¬ z = (0 : Int32)) (O : Old Z n0 h0) (SC : Sta Z Z.heap "java/lang/String" "COMPACT_STRINGS" "Z" (.int z)) (At : Arv Z h0 tb kt .byte (Int32.ofNat c) ((cs.map StrChars.lo8).map Value.int) (.int 0)) (gt : n0 ≤ tb) (hk : cs.length = k) (Ex : Exa Z h0 x "java/lang/String") (Cx : Fld Z h0 x "java/lang/String" "coder" "B" (.int (0 : Int32))) (Vx : Fld Z h0 x "java/lang/String" "value" "[B" (.ref tx)) (Kx : Arv Z h0 tx kx .byte (Int32.ofNat n) ((ds.map StrChars.lo8).map Value.int) (.int 0)) (hnx : ds.length = n) (nxt : tx ≠ tb) (nyt : x ≠ tb) (hkn : k + n ≤ c) (hc : c < 1000) :
    own_M l (⟨"java/lang/String", "getBytes", "([BIB)V"⟩ : MethodName) jdk_42_method_147_code 4 none ws ({ frames := 1, cells := 0, slots := 0, locals := 18 } : Room) #[(.ref x), (.ref tb), (.int (Int32.ofNat k)), (.int (0 : Int32))] Z h0 (Q17 Z x tb z kt k cs c tx kx n ds h0 n0) := by
  refine MetFree.of_bodySF (plainFor_of_name pn_2) hisR ?_
  intro p e s m args below meth cd s₁ Bd hml hP hK
  obtain ⟨rfl, hZ, hh⟩ := hP
  obtain ⟨X0, e0, H, hlk, hown, hret⟩ := own_start (R := ({ frames := 1, cells := 0, slots := 0, locals := 18 } : Room)) Bd hh rfl
  have hx := H.1; have hby := H.2; have N0 := Fr.nil n0
  show own_Fin p e below (own_Ans s (Q17 Z x tb z kt k cs c tx kx n ds h0 n0) ({ frames := 1, cells := 0, slots := 0, locals := 18 } : Room).cells ({ frames := 1, cells := 0, slots := 0, locals := 18 } : Room).slots) (s₁.setTop (entryFrame m #[(.ref x), (.ref tb), (.int (Int32.ofNat k)), (.int (0 : Int32))] 4))
  refine own_cast (ef_rm17 m x tb (Int32.ofNat k) (0 : Int32)) ?_
  show own_Fin p e below _ (s₁.setTop (mkF m 0 #[.val (.ref x), .val (.ref tb), .val (.int (Int32.ofNat k)), .val (.int (0 : Int32))] []))
  refine o_aldN X0 H (od dB17 0 rfl) rfl rfl ?_
  refine o_vs (argsL := []) (rest := []) X0 H hml hZ hown (ow hw 45 rfl) (ow hw 46 rfl) (ow hw 48 rfl) (ow hw 47 rfl) (backOf (W := 0) (rm8 l Z a0 hw [] x z h0 n0 (by exact Z0) hz O SC Cx) hZ (ow hw 49 rfl) (ow hw 20 rfl) (by decide) (by decide)) (by decide) Ex e0 pd_2 (od dB17 1 rfl) rfl rfl rfl rfl rfl (by decide) (by decide) (o_pk (fun _ _ _ q => q) N0 fun T25 Lc25 X25 N25 e25 => ?_)
  refine o_ildN X25 H (od dB17 2 rfl) rfl ?_
  refine o_icN X25 H (od dB17 3 rfl) (teq (by decide : (0 : Int32) = (0 : Int32))).2 ?_
  refine o_aldN X25 H (od dB17 4 rfl) rfl rfl ?_
  refine o_gf X25 H hZ hown (ow hw 43 rfl) Via.refl e25 Vx (od dB17 5 rfl) fun T26 X26 e26 => ?_
  refine o_ic X26 H (od dB17 6 rfl) (v := 0) rfl ?_
  refine o_aldN X26 H (od dB17 7 rfl) rfl rfl ?_
  refine o_ildN X26 H (od dB17 8 rfl) rfl ?_
  refine o_ildN X26 H (od dB17 9 rfl) rfl ?_
  refine own_on (fun tq => XS.ishl X26.here hx rfl (hb hby (od dB17 10 rfl)) rfl) ?_
  show own_Fin p e below _ (T26.setTop (mkF m 17 #[.val (.ref x), .val (.ref tb), .val (.int (Int32.ofNat k)), .val (.int (0 : Int32))] [(.int ((Int32.ofNat k) <<< ((0 : Int32) &&& 31))), (.ref tb), (.int (0 : Int32)), (.ref tx)]))
  rw [own_shl0]
  show own_Fin p e below _ (T26.setTop (mkF m 17 #[.val (.ref x), .val (.ref tb), .val (.int (Int32.ofNat k)), .val (.int (0 : Int32))] [(.int (Int32.ofNat k)), (.ref tb), (.int (0 : Int32)), (.ref tx)]))
  refine o_aldN X26 H (od dB17 11 rfl) rfl rfl ?_
  refine o_gf X26 H hZ hown (ow hw 43 rfl) Via.refl e26 Vx (od dB17 12 rfl) fun T27 X27 e27 => ?_
  have cp28 := Kx
  obtain ⟨cl28, Ar28, q28, S28, G28, H28, F28⟩ := cp28
  refine own_on (fun tq => X27.arraylength hx (by rw [e27]; exact Ar28.1) (State.isArrayOf_alike hZ.alike Ar28.2.1) (g := (mkF m 21 #[.val (.ref x), .val (.ref tb), .val (.int (Int32.ofNat k)), .val (.int (0 : Int32))] [(.ref tx), (.int (Int32.ofNat k)), (.ref tb), (.int (0 : Int32)), (.ref tx)])) rfl rfl (hb hby (od dB17 13 rfl)) tq) ?_
  rw [len_of S28 G28]
  show own_Fin p e below _ (T27.setTop (mkF m 22 #[.val (.ref x), .val (.ref tb), .val (.int (Int32.ofNat k)), .val (.int (0 : Int32))] [(.int (Int32.ofNat n)), (.int (Int32.ofNat k)), (.ref tb), (.int (0 : Int32)), (.ref tx)]))
  obtain ⟨T29, h29, L29, X29, e29, N29, K29, A29, st29⟩ := own_cpPut X27 hx hZ hown (ow hw 102 rfl) (ow hw 85 rfl) (ow hw 83 rfl) (ow hw 84 rfl) e27 Kx At hk hnx hkn (by omega) N25 gt (g := (mkF m 22 #[.val (.ref x), .val (.ref tb), .val (.int (Int32.ofNat k)), .val (.int (0 : Int32))] [(.int (Int32.ofNat n)), (.int (Int32.ofNat k)), (.ref tb), (.int (0 : Int32)), (.ref tx)])) rfl (by rw [hml]; rfl) rfl (hb hby (od dB17 14 rfl)) (by decide) (W := 0) (by show 2 * 0 + _ ≤ _; exact Nat.le_of_eq rfl) (by decide)
  refine own_on st29 ?_
  show own_Fin p e below _ (T29.setTop (mkF m 25 #[.val (.ref x), .val (.ref tb), .val (.int (Int32.ofNat k)), .val (.int (0 : Int32))] []))
  refine o_go X29 H (od dB17 15 rfl) (pc' := 43) (by decide) (by decide) ?_
  exact own_retV X29 hx hlk hret (hb hby (od dB17 25 rfl)) (by show Q17 Z x tb z kt k cs c tx kx n ds h0 n0 _ T29.heap _; rw [e29]; exact ⟨rfl, N29, ((Keep.refl h0 [tb]).trans K29 (allS (Or.inl (List.mem_of_getElem? (i := 0) rfl)) all0)), A29⟩) (by decide) (by decide)
theorem dB15 : oL jdk_68_method_73_code [(0, .aload_n 0, 1), (1, .aload_n 2, 1), (2, .invokevirtual 397, 3), (5, .aload_n 2, 1), (6, .aload_n 0, 1), (7, .getfield 15, 3), (10, .iload_n 1, 1), (11, .aload_n 0, 1), (12, .getfield 22, 3), (15, .invokevirtual 399, 3), (18, .return_, 1)] := by unfold oL; decide +kernel
theorem pd_3 : parseMethodDescriptor "(Ljava/lang/String;)V" = some ⟨[(.object "java/lang/String")], none⟩ := by decide +kernel
theorem pd_4 : parseMethodDescriptor "([BIB)V" = some ⟨[(.array .byte), .int, .byte], none⟩ := by decide +kernel
theorem ef_rm15 (m : MethodId) (x0 : Addr) (x1 : Int32) (x2 : Addr) : entryFrame m #[(.ref x0), (.int x1), (.ref x2)] 3 = mkF m 0 #[.val (.ref x0), .val (.int x1), .val (.ref x2)] [] := by first | (simp [entryFrame, mkF, argsToLocals, Value.category]; done) | rfl
def Q15 (Z : State) (b : Addr) (x : Addr) (z : Int32) (tb : Addr) (kt : ClassId) (k : Nat) (cs : List Int32) (c : Nat) (tx : Addr) (kx : ClassId) (n : Nat) (ds : List Int32) (h0 : Heap) (n0 : Nat) (v : Option Value) (h : Heap) (L : List Loc) : Prop := v = none ∧ Fr n0 L ∧ Keep h0 h [tb] ∧ Arv Z h tb kt .byte (Int32.ofNat c) (((cs ++ ds).map StrChars.lo8).map Value.int) (.int 0)
set_option maxRecDepth 65536 in
set_option maxHeartbeats 40000000 in
theorem rm15 (l : Launch) (Z : State) (a0 : Array Value) (hw : ∀ d ∈ tables_1, d.before a0 Z = true) (ws : List Jvm.Cond) (b : Addr) (x : Addr) (z : Int32) (tb : Addr) (kt : ClassId) (k : Nat) (cs : List Int32) (c : Nat) (tx : Addr) (kx : ClassId) (n : Nat) (ds : List Int32) (h0 : Heap) (n0 : Nat) (Z0 : n0 ≤ h0.size) (hz : ¬ z = (0 : Int32)) (O : Old Z n0 h0) (SC : Sta Z Z.heap "java/lang/String" "COMPACT_STRINGS" "Z" (.int z)) (Eb : Exa Z h0 b "java/lang/StringBuilder") (Fv : Fld Z h0 b "java/lang/AbstractStringBuilder" "value" "[B" (.ref tb)) (Fc : Fld Z h0 b "java/lang/AbstractStringBuilder" "count" "I" (.int (Int32.ofNat k))) (Fk : Fld Z h0 b "java/lang/AbstractStringBuilder" "coder" "B" (.int (0 : Int32))) (At : Arv Z h0 tb kt .byte (Int32.ofNat c) ((cs.map StrChars.lo8).map Value.int) (.int 0)) (gb : n0 ≤ b) (gt : n0 ≤ tb) (nbt : b ≠ tb) (hk : cs.length = k) (Ex : Exa Z h0 x "java/lang/String") (Cx : Fld Z h0 x "java/lang/String" "coder" "B" (.int (0 : Int32))) (Vx : Fld Z h0 x "java/lang/String" "value" "[B" (.ref tx)) (Kx : Arv Z h0 tx kx .byte (Int32.ofNat n) ((ds.map StrChars.lo8).map Value.int) (.int 0)) (hnx : ds.length = n) (nxt : tx ≠ tb) (nxb : tx ≠ b) (nyt : x ≠ tb) (nyb : x ≠ b) (hkn : k + n ≤ c) (hc : c < 1000) :
    own_M l (⟨"java/lang/AbstractStringBuilder", "putStringAt", "(ILjava/lang/String;)V"⟩ : MethodName) jdk_68_method_73_code 3 none ws ({ frames := 2, cells := 0, slots := 0, locals := 33 } : Room) #[(.ref b), (.int (Int32.ofNat k)), (.ref x)] Z h0 (Q15 Z b x z tb kt k cs c tx kx n ds h0 n0) := by
  refine MetFree.of_bodySF (plainFor_of_name pn_0) hisR ?_
  intro p e s m args below meth cd s₁ Bd hml hP hK
  obtain ⟨rfl, hZ, hh⟩ := hP
  obtain ⟨X0, e0, H, hlk, hown, hret⟩ := own_start (R := ({ frames := 2, cells := 0, slots := 0, locals := 33 } : Room)) Bd hh rfl
  have hx := H.1; have hby := H.2; have N0 := Fr.nil n0
  show own_Fin p e below (own_Ans s (Q15 Z b x z tb kt k cs c tx kx n ds h0 n0) ({ frames := 2, cells := 0, slots := 0, locals := 33 } : Room).cells ({ frames := 2, cells := 0, slots := 0, locals := 33 } : Room).slots) (s₁.setTop (entryFrame m #[(.ref b), (.int (Int32.ofNat k)), (.ref x)] 3))
  refine own_cast (ef_rm15 m b (Int32.ofNat k) x) ?_
  show own_Fin p e below _ (s₁.setTop (mkF m 0 #[.val (.ref b), .val (.int (Int32.ofNat k)), .val (.ref x)] []))
  refine o_aldN X0 H (od dB15 0 rfl) rfl rfl ?_
  refine o_aldN X0 H (od dB15 1 rfl) rfl rfl ?_
  refine o_pc (argsL := [(.ref x)]) (rest := []) X0 H hml hZ hown (ow hw 91 rfl) (ow hw 92 rfl) (own_selfsel (mvT hZ (ow hw 94 rfl)) (Cond.privateMethod_at (mvP hZ (ow hw 93 rfl) (args := #[]))) (mvT hZ (ow hw 92 rfl)) (by decide)) (ow hw 93 rfl) (ow hw 95 rfl) (backOf (W := 0) (rm16 l Z a0 hw [] b x z h0 n0 (by exact Z0) hz O SC Fk Ex Cx) hZ (ow hw 95 rfl) (ow hw 14 rfl) (by decide) (by decide)) (by decide) Eb e0 pd_3 (od dB15 2 rfl) rfl rfl rfl rfl rfl (by decide) (by decide) (o_pv (fun _ _ _ q => q) N0 fun T30 Lc30 X30 N30 e30 => ?_)
  refine o_aldN X30 H (od dB15 3 rfl) rfl rfl ?_
  refine o_aldN X30 H (od dB15 4 rfl) rfl rfl ?_
  refine o_gf X30 H hZ hown (ow hw 22 rfl) Via.refl e30 Fv (od dB15 5 rfl) fun T31 X31 e31 => ?_
  refine o_ildN X31 H (od dB15 6 rfl) rfl ?_
  refine o_aldN X31 H (od dB15 7 rfl) rfl rfl ?_
  refine o_gf X31 H hZ hown (ow hw 24 rfl) Via.refl e31 Fk (od dB15 8 rfl) fun T32 X32 e32 => ?_
  refine o_vs (argsL := [(.ref tb), (.int (Int32.ofNat k)), (.int (0 : Int32))]) (rest := []) X32 H hml hZ hown (ow hw 97 rfl) (ow hw 98 rfl) (ow hw 100 rfl) (ow hw 99 rfl) (backOf (W := 0) (rm17 l Z a0 hw [] x tb z kt k cs c tx kx n ds h0 n0 (by exact Z0) hz O SC At gt hk Ex Cx Vx Kx hnx nxt nyt hkn hc) hZ (ow hw 101 rfl) (ow hw 20 rfl) (by decide) (by decide)) (by decide) Ex e32 pd_4 (od dB15 9 rfl) rfl rfl rfl rfl rfl (by decide) (by decide) fun _ T33 Lc33 X33 hQ33 => ?_
  obtain ⟨rfl, N33q, K33, Aq33⟩ := hQ33
  have N33 := Fr.app N30 N33q
  show own_Fin p e below _ (T33.setTop (mkF m 18 #[.val (.ref b), .val (.int (Int32.ofNat k)), .val (.ref x)] []))
  exact own_retV X33 hx hlk hret (hb hby (od dB15 10 rfl)) (by show Q15 Z b x z tb kt k cs c tx kx n ds h0 n0 _ T33.heap _; exact ⟨rfl, N33, ((Keep.refl h0 [tb]).trans K33 (allS (Or.inl (List.mem_of_getElem? (i := 0) rfl)) all0)), Aq33⟩) (by decide) (by decide)
theorem dB9 : oL jdk_68_method_9_code [(0, .aload_n 0, 1), (1, .getfield 15, 3), (4, .arraylength, 1), (5, .aload_n 0, 1), (6, .getfield 22, 3), (9, .ishr, 1), (10, .istore_n 2, 1), (11, .iload_n 1, 1), (12, .iload_n 2, 1), (13, .isub, 1), (14, .ifCond .le 24, 3), (17, .aload_n 0, 1), (18, .aload_n 0, 1), (19, .getfield 15, 3), (22, .aload_n 0, 1), (23, .iload_n 1, 1), (24, .invokevirtual 104, 3), (27, .aload_n 0, 1), (28, .getfield 22, 3), (31, .ishl, 1), (32, .invokestatic 108, 3), (35, .putfield 15, 3), (38, .return_, 1)] := by unfold oL; decide +kernel
theorem ef_rmEn16 (m : MethodId) (x0 : Addr) (x1 : Int32) : entryFrame m #[(.ref x0), (.int x1)] 3 = mkF m 0 #[.val (.ref x0), .val (.int x1), .unset] [] := by first | (simp [entryFrame, mkF, argsToLocals, Value.category]; done) | rfl
def QEn16 (Z : State) (b : Addr) (tb : Addr) (kt : ClassId) (vs : List Value) (q : Nat) (h0 : Heap) (n0 : Nat) (v : Option Value) (h : Heap) (L : List Loc) : Prop := v = none ∧ Fr n0 L ∧ h = h0
set_option maxRecDepth 65536 in
set_option maxHeartbeats 40000000 in
theorem rmEn16 (l : Launch) (Z : State) (a0 : Array Value) (hw : ∀ d ∈ tables_1, d.before a0 Z = true) (ws : List Jvm.Cond) (b : Addr) (tb : Addr) (kt : ClassId) (vs : List Value) (q : Nat) (h0 : Heap) (n0 : Nat) (Z0 : n0 ≤ h0.size) (Fv : Fld Z h0 b "java/lang/AbstractStringBuilder" "value" "[B" (.ref tb)) (Fk : Fld Z h0 b "java/lang/AbstractStringBuilder" "coder" "B" (.int (0 : Int32))) (At : Arv Z h0 tb kt .byte (16 : Int32) vs (.int 0)) (hq : q ≤ 16) :
    own_M l (⟨"java/lang/AbstractStringBuilder", "ensureCapacityInternal", "(I)V"⟩ : MethodName) jdk_68_method_9_code 3 none ws ({ frames := 0, cells := 0, slots := 0, locals := 0 } : Room) #[(.ref b), (.int (Int32.ofNat q))] Z h0 (QEn16 Z b tb kt vs q h0 n0) := by
  refine MetFree.of_bodySF (plainFor_of_name pn_0) hisR ?_
  intro p e s m args below meth cd s₁ Bd hml hP hK
  obtain ⟨rfl, hZ, hh⟩ := hP
  obtain ⟨X0, e0, H, hlk, hown, hret⟩ := own_start (R := ({ frames := 0, cells := 0, slots := 0, locals := 0 } : Room)) Bd hh rfl
  have hx := H.1; have hby := H.2; have N0 := Fr.nil n0
  show own_Fin p e below (own_Ans s (QEn16 Z b tb kt vs q h0 n0) ({ frames := 0, cells := 0, slots := 0, locals := 0 } : Room).cells ({ frames := 0, cells := 0, slots := 0, locals := 0 } : Room).slots) (s₁.setTop (entryFrame m #[(.ref b), (.int (Int32.ofNat q))] 3))
  refine own_cast (ef_rmEn16 m b (Int32.ofNat q)) ?_
  show own_Fin p e below _ (s₁.setTop (mkF m 0 #[.val (.ref b), .val (.int (Int32.ofNat q)), .unset] []))
  refine o_aldN X0 H (od dB9 0 rfl) rfl rfl ?_
  refine o_gf X0 H hZ hown (ow hw 22 rfl) Via.refl e0 Fv (od dB9 1 rfl) fun T34 X34 e34 => ?_
  have cp35 := At
  obtain ⟨cl35, Ar35, q35, S35, G35, H35, F35⟩ := cp35
  refine own_on (fun tq => X34.arraylength hx (by rw [e34]; exact Ar35.1) (State.isArrayOf_alike hZ.alike Ar35.2.1) (g := (mkF m 4 #[.val (.ref b), .val (.int (Int32.ofNat q)), .unset] [(.ref tb)])) rfl rfl (hb hby (od dB9 2 rfl)) tq) ?_
  rw [len_of S35 G35]
  show own_Fin p e below _ (T34.setTop (mkF m 5 #[.val (.ref b), .val (.int (Int32.ofNat q)), .unset] [(.int (16 : Int32))]))
  refine o_aldN X34 H (od dB9 3 rfl) rfl rfl ?_
  refine o_gf X34 H hZ hown (ow hw 24 rfl) Via.refl e34 Fk (od dB9 4 rfl) fun T36 X36 e36 => ?_
  refine own_on (fun tq => XS.ishr X36.here hx rfl (hb hby (od dB9 5 rfl)) rfl) ?_
  show own_Fin p e below _ (T36.setTop (mkF m 10 #[.val (.ref b), .val (.int (Int32.ofNat q)), .unset] [(.int (16 : Int32))]))
  refine o_istN X36 H (od dB9 6 rfl) (L' := #[.val (.ref b), .val (.int (Int32.ofNat q)), .val (.int (16 : Int32))]) rfl ?_
  refine o_ildN X36 H (od dB9 7 rfl) rfl ?_
  refine o_ildN X36 H (od dB9 8 rfl) rfl ?_
  refine o_isub X36 H (od dB9 9 rfl) ?_
  refine o_ifY X36 H (od dB9 10 rfl) ((if0 _ _).trans (flt (own_ns (a := q) (b := 16) hq (by decide))).2.2.2) (pc' := 38) (by decide) (by decide) ?_
  exact own_retV X36 hx hlk hret (hb hby (od dB9 22 rfl)) (⟨rfl, N0, e36⟩) (by decide) (by decide)
theorem ef_rmEn102 (m : MethodId) (x0 : Addr) (x1 : Int32) : entryFrame m #[(.ref x0), (.int x1)] 3 = mkF m 0 #[.val (.ref x0), .val (.int x1), .unset] [] := by first | (simp [entryFrame, mkF, argsToLocals, Value.category]; done) | rfl
def QEn102 (Z : State) (b : Addr) (tb : Addr) (kt : ClassId) (vs : List Value) (q : Nat) (h0 : Heap) (n0 : Nat) (v : Option Value) (h : Heap) (L : List Loc) : Prop := v = none ∧ Fr n0 L ∧ h = h0
set_option maxRecDepth 65536 in
set_option maxHeartbeats 40000000 in
theorem rmEn102 (l : Launch) (Z : State) (a0 : Array Value) (hw : ∀ d ∈ tables_1, d.before a0 Z = true) (ws : List Jvm.Cond) (b : Addr) (tb : Addr) (kt : ClassId) (vs : List Value) (q : Nat) (h0 : Heap) (n0 : Nat) (Z0 : n0 ≤ h0.size) (Fv : Fld Z h0 b "java/lang/AbstractStringBuilder" "value" "[B" (.ref tb)) (Fk : Fld Z h0 b "java/lang/AbstractStringBuilder" "coder" "B" (.int (0 : Int32))) (At : Arv Z h0 tb kt .byte (102 : Int32) vs (.int 0)) (hq : q ≤ 102) :
    own_M l (⟨"java/lang/AbstractStringBuilder", "ensureCapacityInternal", "(I)V"⟩ : MethodName) jdk_68_method_9_code 3 none ws ({ frames := 0, cells := 0, slots := 0, locals := 0 } : Room) #[(.ref b), (.int (Int32.ofNat q))] Z h0 (QEn102 Z b tb kt vs q h0 n0) := by
  refine MetFree.of_bodySF (plainFor_of_name pn_0) hisR ?_
  intro p e s m args below meth cd s₁ Bd hml hP hK
  obtain ⟨rfl, hZ, hh⟩ := hP
  obtain ⟨X0, e0, H, hlk, hown, hret⟩ := own_start (R := ({ frames := 0, cells := 0, slots := 0, locals := 0 } : Room)) Bd hh rfl
  have hx := H.1; have hby := H.2; have N0 := Fr.nil n0
  show own_Fin p e below (own_Ans s (QEn102 Z b tb kt vs q h0 n0) ({ frames := 0, cells := 0, slots := 0, locals := 0 } : Room).cells ({ frames := 0, cells := 0, slots := 0, locals := 0 } : Room).slots) (s₁.setTop (entryFrame m #[(.ref b), (.int (Int32.ofNat q))] 3))
  refine own_cast (ef_rmEn102 m b (Int32.ofNat q)) ?_
  show own_Fin p e below _ (s₁.setTop (mkF m 0 #[.val (.ref b), .val (.int (Int32.ofNat q)), .unset] []))
  refine o_aldN X0 H (od dB9 0 rfl) rfl rfl ?_
  refine o_gf X0 H hZ hown (ow hw 22 rfl) Via.refl e0 Fv (od dB9 1 rfl) fun T37 X37 e37 => ?_
  have cp38 := At
  obtain ⟨cl38, Ar38, q38, S38, G38, H38, F38⟩ := cp38
  refine own_on (fun tq => X37.arraylength hx (by rw [e37]; exact Ar38.1) (State.isArrayOf_alike hZ.alike Ar38.2.1) (g := (mkF m 4 #[.val (.ref b), .val (.int (Int32.ofNat q)), .unset] [(.ref tb)])) rfl rfl (hb hby (od dB9 2 rfl)) tq) ?_
  rw [len_of S38 G38]
  show own_Fin p e below _ (T37.setTop (mkF m 5 #[.val (.ref b), .val (.int (Int32.ofNat q)), .unset] [(.int (102 : Int32))]))
  refine o_aldN X37 H (od dB9 3 rfl) rfl rfl ?_
  refine o_gf X37 H hZ hown (ow hw 24 rfl) Via.refl e37 Fk (od dB9 4 rfl) fun T39 X39 e39 => ?_
  refine own_on (fun tq => XS.ishr X39.here hx rfl (hb hby (od dB9 5 rfl)) rfl) ?_
  show own_Fin p e below _ (T39.setTop (mkF m 10 #[.val (.ref b), .val (.int (Int32.ofNat q)), .unset] [(.int (102 : Int32))]))
  refine o_istN X39 H (od dB9 6 rfl) (L' := #[.val (.ref b), .val (.int (Int32.ofNat q)), .val (.int (102 : Int32))]) rfl ?_
  refine o_ildN X39 H (od dB9 7 rfl) rfl ?_
  refine o_ildN X39 H (od dB9 8 rfl) rfl ?_
  refine o_isub X39 H (od dB9 9 rfl) ?_
  refine o_ifY X39 H (od dB9 10 rfl) ((if0 _ _).trans (flt (own_ns (a := q) (b := 102) hq (by decide))).2.2.2) (pc' := 38) (by decide) (by decide) ?_
  exact own_retV X39 hx hlk hret (hb hby (od dB9 22 rfl)) (⟨rfl, N0, e39⟩) (by decide) (by decide)
theorem dB12 : oL jdk_29_method_65_code [(0, .iload_n 0, 1), (1, .iload_n 1, 1), (2, .if_icmp .lt 7, 3), (5, .iload_n 0, 1), (6, .goto 4, 3), (9, .iload_n 1, 1), (10, .ireturn, 1)] := by unfold oL; decide +kernel
theorem ef_rmMx16_50 (m : MethodId) (x0 : Int32) (x1 : Int32) : entryFrame m #[(.int x0), (.int x1)] 2 = mkF m 0 #[.val (.int x0), .val (.int x1)] [] := by first | (simp [entryFrame, mkF, argsToLocals, Value.category]; done) | rfl
def QMx16_50 (Z : State)  (h0 : Heap) (n0 : Nat) (v : Option Value) (h : Heap) (L : List Loc) : Prop := v = some (.int (34 : Int32)) ∧ Fr n0 L ∧ h = h0
set_option maxRecDepth 65536 in
set_option maxHeartbeats 40000000 in
theorem rmMx16_50 (l : Launch) (Z : State) (a0 : Array Value) (hw : ∀ d ∈ tables_1, d.before a0 Z = true) (ws : List Jvm.Cond)  (h0 : Heap) (n0 : Nat) (Z0 : n0 ≤ h0.size) :
    own_M l (⟨"java/lang/Math", "max", "(II)I"⟩ : MethodName) jdk_29_method_65_code 2 (some .int) ws ({ frames := 0, cells := 0, slots := 0, locals := 0 } : Room) #[(.int (34 : Int32)), (.int (18 : Int32))] Z h0 (QMx16_50 Z  h0 n0) := by
  refine MetFree.of_bodySF (Jvm.Free.JP.mathPlain rfl (by decide +kernel)) hisR ?_
  intro p e s m args below meth cd s₁ Bd hml hP hK
  obtain ⟨rfl, hZ, hh⟩ := hP
  obtain ⟨X0, e0, H, hlk, hown, hret⟩ := own_start (R := ({ frames := 0, cells := 0, slots := 0, locals := 0 } : Room)) Bd hh rfl
  have hx := H.1; have hby := H.2; have N0 := Fr.nil n0
  show own_Fin p e below (own_Ans s (QMx16_50 Z  h0 n0) ({ frames := 0, cells := 0, slots := 0, locals := 0 } : Room).cells ({ frames := 0, cells := 0, slots := 0, locals := 0 } : Room).slots) (s₁.setTop (entryFrame m #[(.int (34 : Int32)), (.int (18 : Int32))] 2))
  refine own_cast (ef_rmMx16_50 m (34 : Int32) (18 : Int32)) ?_
  show own_Fin p e below _ (s₁.setTop (mkF m 0 #[.val (.int (34 : Int32)), .val (.int (18 : Int32))] []))
  refine o_ildN X0 H (od dB12 0 rfl) rfl ?_
  refine o_ildN X0 H (od dB12 1 rfl) rfl ?_
  refine o_icN X0 H (od dB12 2 rfl) (flt (by decide : ¬ ((34 : Int32) < (18 : Int32)))).1 ?_
  refine o_ildN X0 H (od dB12 3 rfl) rfl ?_
  refine o_go X0 H (od dB12 4 rfl) (pc' := 10) (by decide) (by decide) ?_
  exact own_ret (t := .int) X0 hx hlk hret rfl (Or.inl ⟨rfl, (by simp), _, rfl⟩) (hb hby (od dB12 6 rfl)) (⟨rfl, N0, e0⟩) (by decide) (by decide)
theorem pn_3 : plainName "jdk/internal/util/ArraysSupport" = true := by first | (simp [plainName, overriddenIn]; done) | decide +kernel
theorem dB11 : oL jdk_48_method_27_code [(0, .iload_n 0, 1), (1, .iload_n 1, 1), (2, .iload_n 2, 1), (3, .invokestatic 194, 3), (6, .iadd, 1), (7, .istore_n 3, 1), (8, .iconst 0, 1), (9, .iload_n 3, 1), (10, .if_icmp .ge 11, 3), (13, .iload_n 3, 1), (14, .ldc 200, 2), (16, .if_icmp .gt 5, 3), (19, .iload_n 3, 1), (20, .ireturn, 1), (21, .iload_n 0, 1), (22, .iload_n 1, 1), (23, .invokestatic 201, 3), (26, .ireturn, 1)] := by unfold oL; decide +kernel
theorem pd_5 : parseMethodDescriptor "(II)I" = some ⟨[.int, .int], some .int⟩ := by decide +kernel
theorem ef_rmNl16_50 (m : MethodId) (x0 : Int32) (x1 : Int32) (x2 : Int32) : entryFrame m #[(.int x0), (.int x1), (.int x2)] 4 = mkF m 0 #[.val (.int x0), .val (.int x1), .val (.int x2), .unset] [] := by first | (simp [entryFrame, mkF, argsToLocals, Value.category]; done) | rfl
def QNl16_50 (Z : State)  (h0 : Heap) (n0 : Nat) (v : Option Value) (h : Heap) (L : List Loc) : Prop := v = some (.int (50 : Int32)) ∧ Fr n0 L ∧ h = h0
set_option maxRecDepth 65536 in
set_option maxHeartbeats 40000000 in
theorem rmNl16_50 (l : Launch) (Z : State) (a0 : Array Value) (hw : ∀ d ∈ tables_1, d.before a0 Z = true) (ws : List Jvm.Cond)  (h0 : Heap) (n0 : Nat) (Z0 : n0 ≤ h0.size) :
    own_M l (⟨"jdk/internal/util/ArraysSupport", "newLength", "(III)I"⟩ : MethodName) jdk_48_method_27_code 4 (some .int) ws ({ frames := 1, cells := 0, slots := 0, locals := 14 } : Room) #[(.int (16 : Int32)), (.int (34 : Int32)), (.int (18 : Int32))] Z h0 (QNl16_50 Z  h0 n0) := by
  refine MetFree.of_bodySF (plainFor_of_name pn_3) hisR ?_
  intro p e s m args below meth cd s₁ Bd hml hP hK
  obtain ⟨rfl, hZ, hh⟩ := hP
  obtain ⟨X0, e0, H, hlk, hown, hret⟩ := own_start (R := ({ frames := 1, cells := 0, slots := 0, locals := 14 } : Room)) Bd hh rfl
  have hx := H.1; have hby := H.2; have N0 := Fr.nil n0
  show own_Fin p e below (own_Ans s (QNl16_50 Z  h0 n0) ({ frames := 1, cells := 0, slots := 0, locals := 14 } : Room).cells ({ frames := 1, cells := 0, slots := 0, locals := 14 } : Room).slots) (s₁.setTop (entryFrame m #[(.int (16 : Int32)), (.int (34 : Int32)), (.int (18 : Int32))] 4))
  refine own_cast (ef_rmNl16_50 m (16 : Int32) (34 : Int32) (18 : Int32)) ?_
  show own_Fin p e below _ (s₁.setTop (mkF m 0 #[.val (.int (16 : Int32)), .val (.int (34 : Int32)), .val (.int (18 : Int32)), .unset] []))
  refine o_ildN X0 H (od dB11 0 rfl) rfl ?_
  refine o_ildN X0 H (od dB11 1 rfl) rfl ?_
  refine o_ildN X0 H (od dB11 2 rfl) rfl ?_
  refine o_tc (argsL := [(.int (34 : Int32)), (.int (18 : Int32))]) (rest := [(.int (16 : Int32))]) X0 H hml hZ hown (ow hw 69 rfl) (ow hw 70 rfl) (ow hw 71 rfl) (ow hw 72 rfl) (backOf (W := 1) (rmMx16_50 l Z a0 hw []  h0 n0 (by exact Z0)) hZ (ow hw 72 rfl) (ow hw 71 rfl) (by decide) (by decide)) (by decide) e0 pd_5 (od dB11 3 rfl) rfl rfl rfl rfl rfl (by decide) (by decide) (o_pk (fun _ _ _ q => q) N0 fun T40 Lc40 X40 N40 e40 => ?_)
  refine own_on (fun tq => XS.iadd X40.here hx rfl (hb hby (od dB11 4 rfl)) rfl) ?_
  show own_Fin p e below _ (T40.setTop (mkF m 7 #[.val (.int (16 : Int32)), .val (.int (34 : Int32)), .val (.int (18 : Int32)), .unset] [(.int (50 : Int32))]))
  refine o_istN X40 H (od dB11 5 rfl) (L' := #[.val (.int (16 : Int32)), .val (.int (34 : Int32)), .val (.int (18 : Int32)), .val (.int (50 : Int32))]) rfl ?_
  refine o_ic X40 H (od dB11 6 rfl) (v := 0) rfl ?_
  refine o_ildN X40 H (od dB11 7 rfl) rfl ?_
  refine o_icN X40 H (od dB11 8 rfl) (tlt (by decide : (0 : Int32) < (50 : Int32))).2.1 ?_
  refine o_ildN X40 H (od dB11 9 rfl) rfl ?_
  refine own_on (fun tq => X40.ldcInt hx hown (mvT hZ (ow hw 73 rfl)) (g := (mkF m 14 #[.val (.int (16 : Int32)), .val (.int (34 : Int32)), .val (.int (18 : Int32)), .val (.int (50 : Int32))] [(.int (50 : Int32))])) rfl (hb hby (od dB11 10 rfl)) tq) ?_
  show own_Fin p e below _ (T40.setTop (mkF m 16 #[.val (.int (16 : Int32)), .val (.int (34 : Int32)), .val (.int (18 : Int32)), .val (.int (50 : Int32))] [(.int (2147483639 : Int32)), (.int (50 : Int32))]))
  refine o_icN X40 H (od dB11 11 rfl) (flt (by decide : ¬ ((2147483639 : Int32) < (50 : Int32)))).2.2.1 ?_
  refine o_ildN X40 H (od dB11 12 rfl) rfl ?_
  exact own_ret (t := .int) X40 hx hlk hret rfl (Or.inl ⟨rfl, (by simp), _, rfl⟩) (hb hby (od dB11 13 rfl)) (⟨rfl, N40, e40⟩) (by decide) (by decide)
theorem dB10 : oL jdk_68_method_10_code [(0, .aload_n 0, 1), (1, .getfield 15, 3), (4, .arraylength, 1), (5, .istore_n 2, 1), (6, .iload_n 1, 1), (7, .aload_n 0, 1), (8, .getfield 22, 3), (11, .ishl, 1), (12, .istore_n 3, 1), (13, .iload_n 3, 1), (14, .iload_n 2, 1), (15, .isub, 1), (16, .istore 4, 2), (18, .iload_n 2, 1), (19, .iload 4, 2), (21, .iload_n 2, 1), (22, .iconst 2, 1), (23, .aload_n 0, 1), (24, .getfield 22, 3), (27, .ishl, 1), (28, .iadd, 1), (29, .invokestatic 114, 3), (32, .istore 5, 2), (34, .iload 5, 2), (36, .ldc 39, 2), (38, .if_icmp .ne 13, 3), (41, .new 120, 3), (44, .dup, 1), (45, .ldc 122, 2), (47, .invokespecial 124, 3), (50, .athrow, 1), (51, .iload 5, 2), (53, .aload_n 0, 1), (54, .getfield 22, 3), (57, .ishr, 1), (58, .ireturn, 1)] := by unfold oL; decide +kernel
theorem pd_6 : parseMethodDescriptor "(III)I" = some ⟨[.int, .int, .int], some .int⟩ := by decide +kernel
theorem ef_rmNc16_50 (m : MethodId) (x0 : Addr) (x1 : Int32) : entryFrame m #[(.ref x0), (.int x1)] 6 = mkF m 0 #[.val (.ref x0), .val (.int x1), .unset, .unset, .unset, .unset] [] := by first | (simp [entryFrame, mkF, argsToLocals, Value.category]; done) | rfl
def QNc16_50 (Z : State) (b : Addr) (tb : Addr) (kt : ClassId) (vs : List Value) (h0 : Heap) (n0 : Nat) (v : Option Value) (h : Heap) (L : List Loc) : Prop := v = some (.int (50 : Int32)) ∧ Fr n0 L ∧ h = h0
set_option maxRecDepth 65536 in
set_option maxHeartbeats 40000000 in
theorem rmNc16_50 (l : Launch) (Z : State) (a0 : Array Value) (hw : ∀ d ∈ tables_1, d.before a0 Z = true) (ws : List Jvm.Cond) (b : Addr) (tb : Addr) (kt : ClassId) (vs : List Value) (h0 : Heap) (n0 : Nat) (Z0 : n0 ≤ h0.size) (Fv : Fld Z h0 b "java/lang/AbstractStringBuilder" "value" "[B" (.ref tb)) (Fk : Fld Z h0 b "java/lang/AbstractStringBuilder" "coder" "B" (.int (0 : Int32))) (At : Arv Z h0 tb kt .byte (16 : Int32) vs (.int 0)) :
    own_M l (⟨"java/lang/AbstractStringBuilder", "newCapacity", "(I)I"⟩ : MethodName) jdk_68_method_10_code 6 (some .int) ws ({ frames := 2, cells := 0, slots := 0, locals := 29 } : Room) #[(.ref b), (.int (50 : Int32))] Z h0 (QNc16_50 Z b tb kt vs h0 n0) := by
  refine MetFree.of_bodySF (plainFor_of_name pn_0) hisR ?_
  intro p e s m args below meth cd s₁ Bd hml hP hK
  obtain ⟨rfl, hZ, hh⟩ := hP
  obtain ⟨X0, e0, H, hlk, hown, hret⟩ := own_start (R := ({ frames := 2, cells := 0, slots := 0, locals := 29 } : Room)) Bd hh rfl
  have hx := H.1; have hby := H.2; have N0 := Fr.nil n0
  show own_Fin p e below (own_Ans s (QNc16_50 Z b tb kt vs h0 n0) ({ frames := 2, cells := 0, slots := 0, locals := 29 } : Room).cells ({ frames := 2, cells := 0, slots := 0, locals := 29 } : Room).slots) (s₁.setTop (entryFrame m #[(.ref b), (.int (50 : Int32))] 6))
  refine own_cast (ef_rmNc16_50 m b (50 : Int32)) ?_
  show own_Fin p e below _ (s₁.setTop (mkF m 0 #[.val (.ref b), .val (.int (50 : Int32)), .unset, .unset, .unset, .unset] []))
  refine o_aldN X0 H (od dB10 0 rfl) rfl rfl ?_
  refine o_gf X0 H hZ hown (ow hw 22 rfl) Via.refl e0 Fv (od dB10 1 rfl) fun T41 X41 e41 => ?_
  have cp42 := At
  obtain ⟨cl42, Ar42, q42, S42, G42, H42, F42⟩ := cp42
  refine own_on (fun tq => X41.arraylength hx (by rw [e41]; exact Ar42.1) (State.isArrayOf_alike hZ.alike Ar42.2.1) (g := (mkF m 4 #[.val (.ref b), .val (.int (50 : Int32)), .unset, .unset, .unset, .unset] [(.ref tb)])) rfl rfl (hb hby (od dB10 2 rfl)) tq) ?_
  rw [len_of S42 G42]
  show own_Fin p e below _ (T41.setTop (mkF m 5 #[.val (.ref b), .val (.int (50 : Int32)), .unset, .unset, .unset, .unset] [(.int (16 : Int32))]))
  refine o_istN X41 H (od dB10 3 rfl) (L' := #[.val (.ref b), .val (.int (50 : Int32)), .val (.int (16 : Int32)), .unset, .unset, .unset]) rfl ?_
  refine o_ildN X41 H (od dB10 4 rfl) rfl ?_
  refine o_aldN X41 H (od dB10 5 rfl) rfl rfl ?_
  refine o_gf X41 H hZ hown (ow hw 24 rfl) Via.refl e41 Fk (od dB10 6 rfl) fun T43 X43 e43 => ?_
  refine own_on (fun tq => XS.ishl X43.here hx rfl (hb hby (od dB10 7 rfl)) rfl) ?_
  show own_Fin p e below _ (T43.setTop (mkF m 12 #[.val (.ref b), .val (.int (50 : Int32)), .val (.int (16 : Int32)), .unset, .unset, .unset] [(.int (50 : Int32))]))
  refine o_istN X43 H (od dB10 8 rfl) (L' := #[.val (.ref b), .val (.int (50 : Int32)), .val (.int (16 : Int32)), .val (.int (50 : Int32)), .unset, .unset]) rfl ?_
  refine o_ildN X43 H (od dB10 9 rfl) rfl ?_
  refine o_ildN X43 H (od dB10 10 rfl) rfl ?_
  refine own_on (fun tq => XS.isub X43.here hx rfl (hb hby (od dB10 11 rfl)) rfl) ?_
  show own_Fin p e below _ (T43.setTop (mkF m 16 #[.val (.ref b), .val (.int (50 : Int32)), .val (.int (16 : Int32)), .val (.int (50 : Int32)), .unset, .unset] [(.int (34 : Int32))]))
  refine o_ist X43 H (od dB10 12 rfl) (L' := #[.val (.ref b), .val (.int (50 : Int32)), .val (.int (16 : Int32)), .val (.int (50 : Int32)), .val (.int (34 : Int32)), .unset]) rfl ?_
  refine o_ildN X43 H (od dB10 13 rfl) rfl ?_
  refine o_ild X43 H (od dB10 14 rfl) rfl ?_
  refine o_ildN X43 H (od dB10 15 rfl) rfl ?_
  refine o_ic X43 H (od dB10 16 rfl) (v := 2) rfl ?_
  refine o_aldN X43 H (od dB10 17 rfl) rfl rfl ?_
  refine o_gf X43 H hZ hown (ow hw 24 rfl) Via.refl e43 Fk (od dB10 18 rfl) fun T44 X44 e44 => ?_
  refine own_on (fun tq => XS.ishl X44.here hx rfl (hb hby (od dB10 19 rfl)) rfl) ?_
  show own_Fin p e below _ (T44.setTop (mkF m 28 #[.val (.ref b), .val (.int (50 : Int32)), .val (.int (16 : Int32)), .val (.int (50 : Int32)), .val (.int (34 : Int32)), .unset] [(.int (2 : Int32)), (.int (16 : Int32)), (.int (34 : Int32)), (.int (16 : Int32))]))
  refine own_on (fun tq => XS.iadd X44.here hx rfl (hb hby (od dB10 20 rfl)) rfl) ?_
  show own_Fin p e below _ (T44.setTop (mkF m 29 #[.val (.ref b), .val (.int (50 : Int32)), .val (.int (16 : Int32)), .val (.int (50 : Int32)), .val (.int (34 : Int32)), .unset] [(.int (18 : Int32)), (.int (34 : Int32)), (.int (16 : Int32))]))
  refine o_tc (argsL := [(.int (16 : Int32)), (.int (34 : Int32)), (.int (18 : Int32))]) (rest := []) X44 H hml hZ hown (ow hw 65 rfl) (ow hw 66 rfl) (ow hw 67 rfl) (ow hw 68 rfl) (backOf (W := 0) (rmNl16_50 l Z a0 hw []  h0 n0 (by exact Z0)) hZ (ow hw 68 rfl) (ow hw 67 rfl) (by decide) (by decide)) (by decide) e44 pd_6 (od dB10 21 rfl) rfl rfl rfl rfl rfl (by decide) (by decide) (o_pk (fun _ _ _ q => q) N0 fun T45 Lc45 X45 N45 e45 => ?_)
  refine o_ist X45 H (od dB10 22 rfl) (L' := #[.val (.ref b), .val (.int (50 : Int32)), .val (.int (16 : Int32)), .val (.int (50 : Int32)), .val (.int (34 : Int32)), .val (.int (50 : Int32))]) rfl ?_
  refine o_ild X45 H (od dB10 23 rfl) rfl ?_
  refine own_on (fun tq => X45.ldcInt hx hown (mvT hZ (ow hw 74 rfl)) (g := (mkF m 36 #[.val (.ref b), .val (.int (50 : Int32)), .val (.int (16 : Int32)), .val (.int (50 : Int32)), .val (.int (34 : Int32)), .val (.int (50 : Int32))] [(.int (50 : Int32))])) rfl (hb hby (od dB10 24 rfl)) tq) ?_
  show own_Fin p e below _ (T45.setTop (mkF m 38 #[.val (.ref b), .val (.int (50 : Int32)), .val (.int (16 : Int32)), .val (.int (50 : Int32)), .val (.int (34 : Int32)), .val (.int (50 : Int32))] [(.int (2147483647 : Int32)), (.int (50 : Int32))]))
  refine o_icY X45 H (od dB10 25 rfl) (feq (by decide : ¬ ((50 : Int32) = (2147483647 : Int32)))).2 (pc' := 51) (by decide) (by decide) ?_
  refine o_ild X45 H (od dB10 31 rfl) rfl ?_
  refine o_aldN X45 H (od dB10 32 rfl) rfl rfl ?_
  refine o_gf X45 H hZ hown (ow hw 24 rfl) Via.refl e45 Fk (od dB10 33 rfl) fun T46 X46 e46 => ?_
  refine own_on (fun tq => XS.ishr X46.here hx rfl (hb hby (od dB10 34 rfl)) rfl) ?_
  show own_Fin p e below _ (T46.setTop (mkF m 58 #[.val (.ref b), .val (.int (50 : Int32)), .val (.int (16 : Int32)), .val (.int (50 : Int32)), .val (.int (34 : Int32)), .val (.int (50 : Int32))] [(.int (50 : Int32))]))
  exact own_ret (t := .int) X46 hx hlk hret rfl (Or.inl ⟨rfl, (by simp), _, rfl⟩) (hb hby (od dB10 35 rfl)) (⟨rfl, N45, e46⟩) (by decide) (by decide)
theorem pn_4 : plainName "java/util/Arrays" = true := by first | (simp [plainName, overriddenIn]; done) | decide +kernel
theorem dB13 : oL jdk_65_method_121_code [(0, .iload_n 1, 1), (1, .aload_n 0, 1), (2, .arraylength, 1), (3, .if_icmp .ne 11, 3), (6, .aload_n 0, 1), (7, .invokevirtual 310, 3), (10, .checkcast 311, 3), (13, .areturn, 1), (14, .iload_n 1, 1), (15, .newarray .byte, 2), (17, .astore_n 2, 1), (18, .aload_n 0, 1), (19, .iconst 0, 1), (20, .aload_n 2, 1), (21, .iconst 0, 1), (22, .aload_n 0, 1), (23, .arraylength, 1), (24, .iload_n 1, 1), (25, .invokestatic 304, 3), (28, .invokestatic 150, 3), (31, .aload_n 2, 1), (32, .areturn, 1)] := by unfold oL; decide +kernel
theorem ef_rmCo16_50 (m : MethodId) (x0 : Addr) (x1 : Int32) : entryFrame m #[(.ref x0), (.int x1)] 3 = mkF m 0 #[.val (.ref x0), .val (.int x1), .unset] [] := by first | (simp [entryFrame, mkF, argsToLocals, Value.category]; done) | rfl
def QCo16_50 (Z : State) (tb : Addr) (kt : ClassId) (k : Nat) (cs : List Int32) (h0 : Heap) (n0 : Nat) (v : Option Value) (h : Heap) (L : List Loc) : Prop := ∃ (x : Addr) (kx : ClassId), v = some (.ref x) ∧ Fr n0 L ∧ Keep h0 h [] ∧ n0 ≤ x ∧ h0.size ≤ x ∧ Arv Z h x kx .byte (50 : Int32) ((cs.map StrChars.lo8).map Value.int) (.int 0)
set_option maxRecDepth 65536 in
set_option maxHeartbeats 40000000 in
theorem rmCo16_50 (l : Launch) (Z : State) (a0 : Array Value) (hw : ∀ d ∈ tables_1, d.before a0 Z = true) (ws : List Jvm.Cond) (tb : Addr) (kt : ClassId) (k : Nat) (cs : List Int32) (h0 : Heap) (n0 : Nat) (Z0 : n0 ≤ h0.size) (At : Arv Z h0 tb kt .byte (16 : Int32) ((cs.map StrChars.lo8).map Value.int) (.int 0)) (hk : cs.length = k) (hc : k ≤ 16) :
    own_M l (⟨"java/util/Arrays", "copyOf", "([BI)[B"⟩ : MethodName) jdk_65_method_121_code 3 (some (.array .byte)) ws ({ frames := 1, cells := 1, slots := 50, locals := 18 } : Room) #[(.ref tb), (.int (50 : Int32))] Z h0 (QCo16_50 Z tb kt k cs h0 n0) := by
  refine MetFree.of_bodySF (plainFor_of_name pn_4) hisR ?_
  intro p e s m args below meth cd s₁ Bd hml hP hK
  obtain ⟨rfl, hZ, hh⟩ := hP
  obtain ⟨X0, e0, H, hlk, hown, hret⟩ := own_start (R := ({ frames := 1, cells := 1, slots := 50, locals := 18 } : Room)) Bd hh rfl
  have hx := H.1; have hby := H.2; have N0 := Fr.nil n0
  show own_Fin p e below (own_Ans s (QCo16_50 Z tb kt k cs h0 n0) ({ frames := 1, cells := 1, slots := 50, locals := 18 } : Room).cells ({ frames := 1, cells := 1, slots := 50, locals := 18 } : Room).slots) (s₁.setTop (entryFrame m #[(.ref tb), (.int (50 : Int32))] 3))
  refine own_cast (ef_rmCo16_50 m tb (50 : Int32)) ?_
  show own_Fin p e below _ (s₁.setTop (mkF m 0 #[.val (.ref tb), .val (.int (50 : Int32)), .unset] []))
  refine o_ildN X0 H (od dB13 0 rfl) rfl ?_
  refine o_aldN X0 H (od dB13 1 rfl) rfl rfl ?_
  have cp47 := At
  obtain ⟨cl47, Ar47, q47, S47, G47, H47, F47⟩ := cp47
  refine own_on (fun tq => X0.arraylength hx (by rw [e0]; exact Ar47.1) (State.isArrayOf_alike hZ.alike Ar47.2.1) (g := (mkF m 2 #[.val (.ref tb), .val (.int (50 : Int32)), .unset] [(.ref tb), (.int (50 : Int32))])) rfl rfl (hb hby (od dB13 2 rfl)) tq) ?_
  rw [len_of S47 G47]
  show own_Fin p e below _ (s₁.setTop (mkF m 3 #[.val (.ref tb), .val (.int (50 : Int32)), .unset] [(.int (16 : Int32)), (.int (50 : Int32))]))
  refine o_icY X0 H (od dB13 3 rfl) (feq (by decide : ¬ ((50 : Int32) = (16 : Int32)))).2 (pc' := 14) (by decide) (by decide) ?_
  refine o_ildN X0 H (od dB13 8 rfl) rfl ?_
  obtain ⟨T48, h48, k48, X48, e48, E48, A48, st48⟩ := newP X0 hx hZ (ow hw 21 rfl) e0 (g := (mkF m 15 #[.val (.ref tb), .val (.int (50 : Int32)), .unset] [(.int (50 : Int32))])) rfl (hb hby (od dB13 9 rfl)) rfl (by decide) (cap := 50) (by decide) (by decide) (by decide) (by decide)
  obtain ⟨b48, g48⟩ : ∃ z, z = h0.size := ⟨_, rfl⟩
  rw [← g48] at A48 st48
  have ne48_tb : tb ≠ b48 := own_ne_of (Z := Z) At.lt g48
  have gn48 : n0 ≤ b48 := Nat.le_trans Z0 (Nat.le_of_eq g48.symm)
  have gk48 : h0.size ≤ b48 := Nat.le_trans (Keep.refl h0 []).1 (Nat.le_of_eq g48.symm)
  have V48 : Arv Z h48 b48 k48 .byte (50 : Int32) [] (.int (0 : Int32)) := Arv.new A48 (by decide)
  refine own_on st48 ?_
  show own_Fin p e below _ (T48.setTop (mkF m 17 #[.val (.ref tb), .val (.int (50 : Int32)), .unset] [(.ref b48)]))
  refine o_astN X48 H (od dB13 10 rfl) (L' := #[.val (.ref tb), .val (.int (50 : Int32)), .val (.ref b48)]) rfl rfl ?_
  refine o_aldN X48 H (od dB13 11 rfl) rfl rfl ?_
  refine o_ic X48 H (od dB13 12 rfl) (v := 0) rfl ?_
  refine o_aldN X48 H (od dB13 13 rfl) rfl rfl ?_
  refine o_ic X48 H (od dB13 14 rfl) (v := 0) rfl ?_
  refine o_aldN X48 H (od dB13 15 rfl) rfl rfl ?_
  have cp49 := (At.ext E48)
  obtain ⟨cl49, Ar49, q49, S49, G49, H49, F49⟩ := cp49
  refine own_on (fun tq => X48.arraylength hx (by rw [e48]; exact Ar49.1) (State.isArrayOf_alike hZ.alike Ar49.2.1) (g := (mkF m 23 #[.val (.ref tb), .val (.int (50 : Int32)), .val (.ref b48)] [(.ref tb), (.int (0 : Int32)), (.ref b48), (.int (0 : Int32)), (.ref tb)])) rfl rfl (hb hby (od dB13 16 rfl)) tq) ?_
  rw [len_of S49 G49]
  show own_Fin p e below _ (T48.setTop (mkF m 24 #[.val (.ref tb), .val (.int (50 : Int32)), .val (.ref b48)] [(.int (16 : Int32)), (.int (0 : Int32)), (.ref b48), (.int (0 : Int32)), (.ref tb)]))
  refine o_ildN X48 H (od dB13 17 rfl) rfl ?_
  refine o_tc (argsL := [(.int (16 : Int32)), (.int (50 : Int32))]) (rest := [(.int (0 : Int32)), (.ref b48), (.int (0 : Int32)), (.ref tb)]) X48 H hml hZ hown (ow hw 79 rfl) (ow hw 80 rfl) (ow hw 71 rfl) (ow hw 81 rfl) (backOf (W := 4) (rmMa l Z a0 hw [] (16 : Int32) (50 : Int32) h48 n0 (by exact (Nat.le_trans Z0 E48.1)) (by decide)) hZ (ow hw 81 rfl) (ow hw 71 rfl) (by decide) (by decide)) (by decide) e48 pd_5 (od dB13 18 rfl) rfl rfl rfl rfl rfl (by decide) (by decide) (o_pk (fun _ _ _ q => q) N0 fun T50 Lc50 X50 N50 e50 => ?_)
  obtain ⟨T51, h51, L51, X51, e51, N51, K51, A51, st51⟩ := own_cpNew X50 hx hZ hown (ow hw 82 rfl) (ow hw 85 rfl) (ow hw 83 rfl) (ow hw 84 rfl) e50 (At.ext E48) V48 (q := 16) (c1 := 16) (c2 := 50) (by rw [own_vl, hk]; exact hc) (by decide) (by decide) (by decide) (by decide) N50 gn48 (g := (mkF m 28 #[.val (.ref tb), .val (.int (50 : Int32)), .val (.ref b48)] [(.int (16 : Int32)), (.int (0 : Int32)), (.ref b48), (.int (0 : Int32)), (.ref tb)])) rfl (by rw [hml]; rfl) rfl (hb hby (od dB13 19 rfl)) (by decide) (W := 0) (by show 2 * 0 + _ ≤ _; exact Nat.le_of_eq rfl) (by decide)
  refine own_on st51 ?_
  show own_Fin p e below _ (T51.setTop (mkF m 31 #[.val (.ref tb), .val (.int (50 : Int32)), .val (.ref b48)] []))
  refine o_aldN X51 H (od dB13 20 rfl) rfl rfl ?_
  exact own_ret (t := (.array .byte)) X51 hx hlk hret rfl (Or.inr (Or.inr (Or.inr (Or.inr ⟨rfl, rfl, rfl⟩)))) (hb hby (od dB13 21 rfl)) (by show QCo16_50 Z tb kt k cs h0 n0 _ T51.heap _; rw [e51]; exact ⟨b48, k48, rfl, N51, (((Keep.refl h0 []).ext E48).trans K51 (allS (Or.inr gk48) all0)), gn48, gk48, A51⟩) (by decide) (by decide)
theorem pd_7 : parseMethodDescriptor "(I)I" = some ⟨[.int], some .int⟩ := by decide +kernel
theorem pd_8 : parseMethodDescriptor "([BI)[B" = some ⟨[(.array .byte), .int], some (.array .byte)⟩ := by decide +kernel
theorem ef_rmEg16_50 (m : MethodId) (x0 : Addr) (x1 : Int32) : entryFrame m #[(.ref x0), (.int x1)] 3 = mkF m 0 #[.val (.ref x0), .val (.int x1), .unset] [] := by first | (simp [entryFrame, mkF, argsToLocals, Value.category]; done) | rfl
def QEg16_50 (Z : State) (b : Addr) (tb : Addr) (kt : ClassId) (k : Nat) (cs : List Int32) (h0 : Heap) (n0 : Nat) (v : Option Value) (h : Heap) (L : List Loc) : Prop := ∃ (t : Addr) (kx : ClassId), v = none ∧ Fr n0 L ∧ Keep h0 h [b] ∧ n0 ≤ t ∧ h0.size ≤ t ∧ Exa Z h b "java/lang/StringBuilder" ∧ Fld Z h b "java/lang/AbstractStringBuilder" "value" "[B" (.ref t) ∧ Fld Z h b "java/lang/AbstractStringBuilder" "count" "I" (.int (Int32.ofNat k)) ∧ Fld Z h b "java/lang/AbstractStringBuilder" "coder" "B" (.int (0 : Int32)) ∧ Arv Z h t kx .byte (50 : Int32) ((cs.map StrChars.lo8).map Value.int) (.int 0)
set_option maxRecDepth 65536 in
set_option maxHeartbeats 40000000 in
theorem rmEg16_50 (l : Launch) (Z : State) (a0 : Array Value) (hw : ∀ d ∈ tables_1, d.before a0 Z = true) (ws : List Jvm.Cond) (b : Addr) (tb : Addr) (kt : ClassId) (k : Nat) (cs : List Int32) (h0 : Heap) (n0 : Nat) (Z0 : n0 ≤ h0.size) (Eb : Exa Z h0 b "java/lang/StringBuilder") (Fv : Fld Z h0 b "java/lang/AbstractStringBuilder" "value" "[B" (.ref tb)) (Fc : Fld Z h0 b "java/lang/AbstractStringBuilder" "count" "I" (.int (Int32.ofNat k))) (Fk : Fld Z h0 b "java/lang/AbstractStringBuilder" "coder" "B" (.int (0 : Int32))) (At : Arv Z h0 tb kt .byte (16 : Int32) ((cs.map StrChars.lo8).map Value.int) (.int 0)) (gb : n0 ≤ b) (gt : n0 ≤ tb) (nbt : b ≠ tb) (hk : cs.length = k) (hc : k ≤ 16) :
    own_M l (⟨"java/lang/AbstractStringBuilder", "ensureCapacityInternal", "(I)V"⟩ : MethodName) jdk_68_method_9_code 3 none ws ({ frames := 3, cells := 1, slots := 50, locals := 48 } : Room) #[(.ref b), (.int (50 : Int32))] Z h0 (QEg16_50 Z b tb kt k cs h0 n0) := by
  refine MetFree.of_bodySF (plainFor_of_name pn_0) hisR ?_
  intro p e s m args below meth cd s₁ Bd hml hP hK
  obtain ⟨rfl, hZ, hh⟩ := hP
  obtain ⟨X0, e0, H, hlk, hown, hret⟩ := own_start (R := ({ frames := 3, cells := 1, slots := 50, locals := 48 } : Room)) Bd hh rfl
  have hx := H.1; have hby := H.2; have N0 := Fr.nil n0
  show own_Fin p e below (own_Ans s (QEg16_50 Z b tb kt k cs h0 n0) ({ frames := 3, cells := 1, slots := 50, locals := 48 } : Room).cells ({ frames := 3, cells := 1, slots := 50, locals := 48 } : Room).slots) (s₁.setTop (entryFrame m #[(.ref b), (.int (50 : Int32))] 3))
  refine own_cast (ef_rmEg16_50 m b (50 : Int32)) ?_
  show own_Fin p e below _ (s₁.setTop (mkF m 0 #[.val (.ref b), .val (.int (50 : Int32)), .unset] []))
  refine o_aldN X0 H (od dB9 0 rfl) rfl rfl ?_
  refine o_gf X0 H hZ hown (ow hw 22 rfl) Via.refl e0 Fv (od dB9 1 rfl) fun T52 X52 e52 => ?_
  have cp53 := At
  obtain ⟨cl53, Ar53, q53, S53, G53, H53, F53⟩ := cp53
  refine own_on (fun tq => X52.arraylength hx (by rw [e52]; exact Ar53.1) (State.isArrayOf_alike hZ.alike Ar53.2.1) (g := (mkF m 4 #[.val (.ref b), .val (.int (50 : Int32)), .unset] [(.ref tb)])) rfl rfl (hb hby (od dB9 2 rfl)) tq) ?_
  rw [len_of S53 G53]
  show own_Fin p e below _ (T52.setTop (mkF m 5 #[.val (.ref b), .val (.int (50 : Int32)), .unset] [(.int (16 : Int32))]))
  refine o_aldN X52 H (od dB9 3 rfl) rfl rfl ?_
  refine o_gf X52 H hZ hown (ow hw 24 rfl) Via.refl e52 Fk (od dB9 4 rfl) fun T54 X54 e54 => ?_
  refine own_on (fun tq => XS.ishr X54.here hx rfl (hb hby (od dB9 5 rfl)) rfl) ?_
  show own_Fin p e below _ (T54.setTop (mkF m 10 #[.val (.ref b), .val (.int (50 : Int32)), .unset] [(.int (16 : Int32))]))
  refine o_istN X54 H (od dB9 6 rfl) (L' := #[.val (.ref b), .val (.int (50 : Int32)), .val (.int (16 : Int32))]) rfl ?_
  refine o_ildN X54 H (od dB9 7 rfl) rfl ?_
  refine o_ildN X54 H (od dB9 8 rfl) rfl ?_
  refine own_on (fun tq => XS.isub X54.here hx rfl (hb hby (od dB9 9 rfl)) rfl) ?_
  show own_Fin p e below _ (T54.setTop (mkF m 14 #[.val (.ref b), .val (.int (50 : Int32)), .val (.int (16 : Int32))] [(.int (34 : Int32))]))
  refine o_ifN X54 H (od dB9 10 rfl) ((if0 _ _).trans (tlt (by decide : (0 : Int32) < (34 : Int32))).2.2.2) ?_
  refine o_aldN X54 H (od dB9 11 rfl) rfl rfl ?_
  refine o_aldN X54 H (od dB9 12 rfl) rfl rfl ?_
  refine o_gf X54 H hZ hown (ow hw 22 rfl) Via.refl e54 Fv (od dB9 13 rfl) fun T55 X55 e55 => ?_
  refine o_aldN X55 H (od dB9 14 rfl) rfl rfl ?_
  refine o_ildN X55 H (od dB9 15 rfl) rfl ?_
  refine o_pc (argsL := [(.int (50 : Int32))]) (rest := [(.ref tb), (.ref b)]) X55 H hml hZ hown (ow hw 60 rfl) (ow hw 61 rfl) (own_selfsel (mvT hZ (ow hw 63 rfl)) (Cond.privateMethod_at (mvP hZ (ow hw 62 rfl) (args := #[]))) (mvT hZ (ow hw 61 rfl)) (by decide)) (ow hw 62 rfl) (ow hw 64 rfl) (backOf (W := 2) (rmNc16_50 l Z a0 hw [] b tb kt _ h0 n0 (by exact Z0) Fv Fk At) hZ (ow hw 64 rfl) (ow hw 14 rfl) (by decide) (by decide)) (by decide) Eb e55 pd_7 (od dB9 16 rfl) rfl rfl rfl rfl rfl (by decide) (by decide) (o_pk (fun _ _ _ q => q) N0 fun T56 Lc56 X56 N56 e56 => ?_)
  refine o_aldN X56 H (od dB9 17 rfl) rfl rfl ?_
  refine o_gf X56 H hZ hown (ow hw 24 rfl) Via.refl e56 Fk (od dB9 18 rfl) fun T57 X57 e57 => ?_
  refine own_on (fun tq => XS.ishl X57.here hx rfl (hb hby (od dB9 19 rfl)) rfl) ?_
  show own_Fin p e below _ (T57.setTop (mkF m 32 #[.val (.ref b), .val (.int (50 : Int32)), .val (.int (16 : Int32))] [(.int (50 : Int32)), (.ref tb), (.ref b)]))
  refine o_tc (argsL := [(.ref tb), (.int (50 : Int32))]) (rest := [(.ref b)]) X57 H hml hZ hown (ow hw 75 rfl) (ow hw 76 rfl) (ow hw 77 rfl) (ow hw 78 rfl) (backOf (W := 1) (rmCo16_50 l Z a0 hw [] tb kt k cs h0 n0 (by exact Z0) At hk hc) hZ (ow hw 78 rfl) (ow hw 77 rfl) (by decide) (by decide)) (by decide) e57 pd_8 (od dB9 20 rfl) rfl rfl rfl rfl rfl (by decide) (by decide) fun _ T58 Lc58 X58 hQ58 => ?_
  obtain ⟨x58, kx58, rfl, N58q, K58, gn58, gk58, Aq58⟩ := hQ58
  have ne58_b : b ≠ x58 := Nat.ne_of_lt (Nat.lt_of_lt_of_le Eb.lt gk58)
  have ne58_tb : tb ≠ x58 := Nat.ne_of_lt (Nat.lt_of_lt_of_le At.lt gk58)
  have N58 := Fr.app N56 N58q
  show own_Fin p e below _ (T58.setTop (mkF m 35 #[.val (.ref b), .val (.int (50 : Int32)), .val (.int (16 : Int32))] [(.ref x58), (.ref b)]))
  obtain ⟨T59, h59, X59, e59, W59, st59⟩ := putF X58 hx hZ hown (host := "") (Or.inl (ow hw 22 rfl)) Via.refl rfl (Fv.keep K58 nin0) (Eb.keep K58) (Or.inl (ow hw 23 rfl)) (ow hw 5 rfl) (ty := (.array .byte)) (by decide) rfl rfl (g := (mkF m 35 #[.val (.ref b), .val (.int (50 : Int32)), .val (.int (16 : Int32))] [(.ref x58), (.ref b)])) rfl rfl (hb hby (od dB9 21 rfl))
  have N59 := Fr.snoc X59 N58 gb
  have y60 := ((Fc.keep K58 nin0).other W59 (Or.inr (slot_ne (Or.inl (ow hw 54 rfl)) (Or.inl (ow hw 23 rfl)) (by decide) (t := .int) (t' := (.array .byte)) (by decide) (by decide))))
  have y61 := ((Fk.keep K58 nin0).other W59 (Or.inr (slot_ne (Or.inl (ow hw 25 rfl)) (Or.inl (ow hw 23 rfl)) (by decide) (t := .byte) (t' := (.array .byte)) (by decide) (by decide))))
  refine own_on st59 ?_
  show own_Fin p e below _ (T59.setTop (mkF m 38 #[.val (.ref b), .val (.int (50 : Int32)), .val (.int (16 : Int32))] []))
  exact own_retV X59 hx hlk hret (hb hby (od dB9 22 rfl)) (by show QEg16_50 Z b tb kt k cs h0 n0 _ T59.heap _; rw [e59]; exact ⟨x58, kx58, rfl, N59, (((Keep.refl h0 [b]).trans K58 all0).wr W59 (Or.inl (List.mem_of_getElem? (i := 0) rfl))), gn58, (Nat.le_trans (Keep.refl h0 [b]).1 gk58), ((Eb.keep K58).wr W59), ((Fv.keep K58 nin0).same W59), y60, y61, (Aq58.other W59 (Ne.symm ne58_b))⟩) (by decide) (by decide)
theorem dB6 : oL jdk_68_method_22_code [(0, .aload_n 1, 1), (1, .ifnonnull 8, 3), (4, .aload_n 0, 1), (5, .invokevirtual 204, 3), (8, .areturn, 1), (9, .aload_n 1, 1), (10, .invokevirtual 32, 3), (13, .istore_n 2, 1), (14, .aload_n 0, 1), (15, .aload_n 0, 1), (16, .getfield 79, 3), (19, .iload_n 2, 1), (20, .iadd, 1), (21, .invokevirtual 100, 3), (24, .aload_n 0, 1), (25, .aload_n 0, 1), (26, .getfield 79, 3), (29, .aload_n 1, 1), (30, .invokevirtual 208, 3), (33, .aload_n 0, 1), (34, .dup, 1), (35, .getfield 79, 3), (38, .iload_n 2, 1), (39, .iadd, 1), (40, .putfield 79, 3), (43, .aload_n 0, 1), (44, .areturn, 1)] := by unfold oL; decide +kernel
theorem pd_9 : parseMethodDescriptor "(ILjava/lang/String;)V" = some ⟨[.int, (.object "java/lang/String")], none⟩ := by decide +kernel
theorem ef_rmQag50 (m : MethodId) (x0 : Addr) (x1 : Addr) : entryFrame m #[(.ref x0), (.ref x1)] 3 = mkF m 0 #[.val (.ref x0), .val (.ref x1), .unset] [] := by first | (simp [entryFrame, mkF, argsToLocals, Value.category]; done) | rfl
def QQag50 (Z : State) (b : Addr) (x : Addr) (z : Int32) (tb : Addr) (kt : ClassId) (k : Nat) (cs : List Int32) (tx : Addr) (kx : ClassId) (n : Nat) (ds : List Int32) (h0 : Heap) (n0 : Nat) (v : Option Value) (h : Heap) (L : List Loc) : Prop := ∃ (t : Addr) (kx2 : ClassId), v = some (.ref b) ∧ Fr n0 L ∧ Keep h0 h [b] ∧ n0 ≤ t ∧ h0.size ≤ t ∧ Exa Z h b "java/lang/StringBuilder" ∧ Fld Z h b "java/lang/AbstractStringBuilder" "value" "[B" (.ref t) ∧ Fld Z h b "java/lang/AbstractStringBuilder" "count" "I" (.int (Int32.ofNat (k + n))) ∧ Fld Z h b "java/lang/AbstractStringBuilder" "coder" "B" (.int (0 : Int32)) ∧ Arv Z h t kx2 .byte (50 : Int32) (((cs ++ ds).map StrChars.lo8).map Value.int) (.int 0)
set_option maxRecDepth 65536 in
set_option maxHeartbeats 40000000 in
theorem rmQag50 (l : Launch) (Z : State) (a0 : Array Value) (hw : ∀ d ∈ tables_1, d.before a0 Z = true) (ws : List Jvm.Cond) (b : Addr) (x : Addr) (z : Int32) (tb : Addr) (kt : ClassId) (k : Nat) (cs : List Int32) (tx : Addr) (kx : ClassId) (n : Nat) (ds : List Int32) (h0 : Heap) (n0 : Nat) (Z0 : n0 ≤ h0.size) (hz : ¬ z = (0 : Int32)) (O : Old Z n0 h0) (SC : Sta Z Z.heap "java/lang/String" "COMPACT_STRINGS" "Z" (.int z)) (Eb : Exa Z h0 b "java/lang/StringBuilder") (Fv : Fld Z h0 b "java/lang/AbstractStringBuilder" "value" "[B" (.ref tb)) (Fc : Fld Z h0 b "java/lang/AbstractStringBuilder" "count" "I" (.int (Int32.ofNat k))) (Fk : Fld Z h0 b "java/lang/AbstractStringBuilder" "coder" "B" (.int (0 : Int32))) (At : Arv Z h0 tb kt .byte (16 : Int32) ((cs.map StrChars.lo8).map Value.int) (.int 0)) (gb : n0 ≤ b) (gt : n0 ≤ tb) (nbt : b ≠ tb) (hk : cs.length = k) (Ex : Exa Z h0 x "java/lang/String") (Cx : Fld Z h0 x "java/lang/String" "coder" "B" (.int (0 : Int32))) (Vx : Fld Z h0 x "java/lang/String" "value" "[B" (.ref tx)) (Kx : Arv Z h0 tx kx .byte (Int32.ofNat n) ((ds.map StrChars.lo8).map Value.int) (.int 0)) (hnx : ds.length = n) (nxt : tx ≠ tb) (nxb : tx ≠ b) (nyt : x ≠ tb) (nyb : x ≠ b) (hkn : k + n = 50) (hc : k ≤ 16) :
    own_M l (⟨"java/lang/AbstractStringBuilder", "append", "(Ljava/lang/String;)Ljava/lang/AbstractStringBuilder;"⟩ : MethodName) jdk_68_method_22_code 3 (some (.object "java/lang/AbstractStringBuilder")) ws ({ frames := 4, cells := 1, slots := 50, locals := 62 } : Room) #[(.ref b), (.ref x)] Z h0 (QQag50 Z b x z tb kt k cs tx kx n ds h0 n0) := by
  refine MetFree.of_bodySF (plainFor_of_name pn_0) hisR ?_
  intro p e s m args below meth cd s₁ Bd hml hP hK
  obtain ⟨rfl, hZ, hh⟩ := hP
  obtain ⟨X0, e0, H, hlk, hown, hret⟩ := own_start (R := ({ frames := 4, cells := 1, slots := 50, locals := 62 } : Room)) Bd hh rfl
  have hx := H.1; have hby := H.2; have N0 := Fr.nil n0
  show own_Fin p e below (own_Ans s (QQag50 Z b x z tb kt k cs tx kx n ds h0 n0) ({ frames := 4, cells := 1, slots := 50, locals := 62 } : Room).cells ({ frames := 4, cells := 1, slots := 50, locals := 62 } : Room).slots) (s₁.setTop (entryFrame m #[(.ref b), (.ref x)] 3))
  refine own_cast (ef_rmQag50 m b x) ?_
  show own_Fin p e below _ (s₁.setTop (mkF m 0 #[.val (.ref b), .val (.ref x), .unset] []))
  refine o_aldN X0 H (od dB6 0 rfl) rfl rfl ?_
  refine own_on (fun tq => XS.ifnonnullYes X0.here hx rfl (pc0 := 1) (pc' := 9) rfl (hb hby (od dB6 1 rfl)) rfl (by decide) (by decide)) ?_
  show own_Fin p e below _ (s₁.setTop (mkF m 9 #[.val (.ref b), .val (.ref x), .unset] []))
  refine o_aldN X0 H (od dB6 5 rfl) rfl rfl ?_
  refine o_vs (argsL := []) (rest := []) X0 H hml hZ hown (ow hw 38 rfl) (ow hw 39 rfl) (ow hw 41 rfl) (ow hw 40 rfl) (backOf (W := 0) (rm7 l Z a0 hw [] x z tx kx n ds h0 n0 (by exact Z0) hz O SC Ex Cx Vx Kx hnx) hZ (ow hw 42 rfl) (ow hw 20 rfl) (by decide) (by decide)) (by decide) Ex e0 pd_1 (od dB6 6 rfl) rfl rfl rfl rfl rfl (by decide) (by decide) (o_pk (fun _ _ _ q => q) N0 fun T62 Lc62 X62 N62 e62 => ?_)
  refine o_istN X62 H (od dB6 7 rfl) (L' := #[.val (.ref b), .val (.ref x), .val (.int (Int32.ofNat n))]) rfl ?_
  refine o_aldN X62 H (od dB6 8 rfl) rfl rfl ?_
  refine o_aldN X62 H (od dB6 9 rfl) rfl rfl ?_
  refine o_gf X62 H hZ hown (ow hw 53 rfl) Via.refl e62 Fc (od dB6 10 rfl) fun T63 X63 e63 => ?_
  refine o_ildN X63 H (od dB6 11 rfl) rfl ?_
  refine o_iadd X63 H (od dB6 12 rfl) ?_
  rw [show (Int32.ofNat k) + (Int32.ofNat n) = (50 : Int32) by rw [own_add, hkn]; rfl]
  show own_Fin p e below _ (T63.setTop (mkF m 21 #[.val (.ref b), .val (.ref x), .val (.int (Int32.ofNat n))] [(.int (50 : Int32)), (.ref b)]))
  refine o_pc (argsL := [(.int (50 : Int32))]) (rest := []) X63 H hml hZ hown (ow hw 55 rfl) (ow hw 56 rfl) (own_selfsel (mvT hZ (ow hw 58 rfl)) (Cond.privateMethod_at (mvP hZ (ow hw 57 rfl) (args := #[]))) (mvT hZ (ow hw 56 rfl)) (by decide)) (ow hw 57 rfl) (ow hw 59 rfl) (backOf (W := 0) (rmEg16_50 l Z a0 hw [] b tb kt k cs h0 n0 (by exact Z0) Eb Fv Fc Fk At gb gt nbt hk (by omega)) hZ (ow hw 59 rfl) (ow hw 14 rfl) (by decide) (by decide)) (by decide) Eb e63 pd_0 (od dB6 13 rfl) rfl rfl rfl rfl rfl (by decide) (by decide) fun _ T64 Lc64 X64 hQ64 => ?_
  obtain ⟨tg64, kt64, rfl, N64q, K64, gt64, gk64, Eq64, Vq64, Cq64, Dq64, Aq64⟩ := hQ64
  have ne64_b : b ≠ tg64 := Nat.ne_of_lt (Nat.lt_of_lt_of_le Eb.lt gk64)
  have ne64_tb : tb ≠ tg64 := Nat.ne_of_lt (Nat.lt_of_lt_of_le At.lt gk64)
  have ne64_x : x ≠ tg64 := Nat.ne_of_lt (Nat.lt_of_lt_of_le Ex.lt gk64)
  have ne64_tx : tx ≠ tg64 := Nat.ne_of_lt (Nat.lt_of_lt_of_le Kx.lt gk64)
  have N64 := Fr.app N62 N64q
  show own_Fin p e below _ (T64.setTop (mkF m 24 #[.val (.ref b), .val (.ref x), .val (.int (Int32.ofNat n))] []))
  refine o_aldN X64 H (od dB6 14 rfl) rfl rfl ?_
  refine o_aldN X64 H (od dB6 15 rfl) rfl rfl ?_
  refine o_gf X64 H hZ hown (ow hw 53 rfl) Via.refl rfl Cq64 (od dB6 16 rfl) fun T65 X65 e65 => ?_
  refine o_aldN X65 H (od dB6 17 rfl) rfl rfl ?_
  refine o_pc (argsL := [(.int (Int32.ofNat k)), (.ref x)]) (rest := []) X65 H hml hZ hown (ow hw 86 rfl) (ow hw 87 rfl) (own_selfsel (mvT hZ (ow hw 89 rfl)) (Cond.privateMethod_at (mvP hZ (ow hw 88 rfl) (args := #[]))) (mvT hZ (ow hw 87 rfl)) (by decide)) (ow hw 88 rfl) (ow hw 90 rfl) (backOf (W := 0) (rm15 l Z a0 hw [] b x z tg64 kt64 k cs 50 tx kx n ds T64.heap n0 (by exact (Nat.le_trans Z0 K64.1)) hz (O.keep K64 (allS gb all0)) SC Eq64 Vq64 Cq64 Dq64 Aq64 gb gt64 ne64_b hk (Ex.keep K64) (Cx.keep K64 (ninS nyb nin0)) (Vx.keep K64 (ninS nyb nin0)) (Kx.keep K64 (ninS nxb nin0)) hnx ne64_tx nxb ne64_x nyb (by omega) (by omega)) hZ (ow hw 90 rfl) (ow hw 14 rfl) (by decide) (by decide)) (by decide) Eq64 e65 pd_9 (od dB6 18 rfl) rfl rfl rfl rfl rfl (by decide) (by decide) fun _ T66 Lc66 X66 hQ66 => ?_
  obtain ⟨rfl, N66q, K66, Aq66⟩ := hQ66
  have N66 := Fr.app N64 N66q
  have y67 := (((Keep.refl h0 [b]).trans K64 (allS (Or.inl (List.mem_of_getElem? (i := 0) rfl)) all0)).trans K66 (allS (Or.inr (Nat.le_trans (Keep.refl h0 [b]).1 gk64)) all0))
  have Ar66 : Arv Z T66.heap tg64 kt64 .byte (50 : Int32) (((cs ++ ds).map StrChars.lo8).map Value.int) (.int 0) := Aq66
  show own_Fin p e below _ (T66.setTop (mkF m 33 #[.val (.ref b), .val (.ref x), .val (.int (Int32.ofNat n))] []))
  refine o_aldN X66 H (od dB6 19 rfl) rfl rfl ?_
  refine o_dup X66 H (od dB6 20 rfl) rfl ?_
  refine o_gf X66 H hZ hown (ow hw 53 rfl) Via.refl rfl (Cq64.keep K66 (ninS ne64_b nin0)) (od dB6 21 rfl) fun T68 X68 e68 => ?_
  refine o_ildN X68 H (od dB6 22 rfl) rfl ?_
  refine o_iadd X68 H (od dB6 23 rfl) ?_
  rw [own_add]
  show own_Fin p e below _ (T68.setTop (mkF m 40 #[.val (.ref b), .val (.ref x), .val (.int (Int32.ofNat n))] [(.int (Int32.ofNat (k + n))), (.ref b)]))
  obtain ⟨T69, h69, X69, e69, W69, st69⟩ := putF X68 hx hZ hown (host := "") (Or.inl (ow hw 53 rfl)) Via.refl e68 (Cq64.keep K66 (ninS ne64_b nin0)) (Eq64.keep K66) (Or.inl (ow hw 54 rfl)) (ow hw 5 rfl) (ty := .int) (by decide) rfl rfl (g := (mkF m 40 #[.val (.ref b), .val (.ref x), .val (.int (Int32.ofNat n))] [(.int (Int32.ofNat (k + n))), (.ref b)])) rfl rfl (hb hby (od dB6 24 rfl))
  have N69 := Fr.snoc X69 N66 gb
  have y70 := ((Vq64.keep K66 (ninS ne64_b nin0)).other W69 (Or.inr (slot_ne (Or.inl (ow hw 23 rfl)) (Or.inl (ow hw 54 rfl)) (by decide) (t := (.array .byte)) (t' := .int) (by decide) (by decide))))
  have y71 := ((Dq64.keep K66 (ninS ne64_b nin0)).other W69 (Or.inr (slot_ne (Or.inl (ow hw 25 rfl)) (Or.inl (ow hw 54 rfl)) (by decide) (t := .byte) (t' := .int) (by decide) (by decide))))
  refine own_on st69 ?_
  show own_Fin p e below _ (T69.setTop (mkF m 43 #[.val (.ref b), .val (.ref x), .val (.int (Int32.ofNat n))] []))
  refine o_aldN X69 H (od dB6 25 rfl) rfl rfl ?_
  exact own_ret (t := (.object "java/lang/AbstractStringBuilder")) X69 hx hlk hret rfl (Or.inr (Or.inr (Or.inr (Or.inr ⟨rfl, rfl, rfl⟩)))) (hb hby (od dB6 26 rfl)) (by show QQag50 Z b x z tb kt k cs tx kx n ds h0 n0 _ T69.heap _; rw [e69]; exact ⟨tg64, kt64, rfl, N69, (y67.wr W69 (Or.inl (List.mem_of_getElem? (i := 0) rfl))), gt64, (Nat.le_trans (Keep.refl h0 [b]).1 gk64), ((Eq64.keep K66).wr W69), y70, ((Cq64.keep K66 (ninS ne64_b nin0)).same W69), y71, (Ar66.other W69 (Ne.symm ne64_b))⟩) (by decide) (by decide)
theorem dB5 : oL jdk_67_method_7_code [(0, .aload_n 0, 1), (1, .aload_n 1, 1), (2, .invokespecial 29, 3), (5, .pop, 1), (6, .aload_n 0, 1), (7, .areturn, 1)] := by unfold oL; decide +kernel
theorem pd_10 : parseMethodDescriptor "(Ljava/lang/String;)Ljava/lang/AbstractStringBuilder;" = some ⟨[(.object "java/lang/String")], some (.object "java/lang/AbstractStringBuilder")⟩ := by decide +kernel
theorem ef_rmQbg50 (m : MethodId) (x0 : Addr) (x1 : Addr) : entryFrame m #[(.ref x0), (.ref x1)] 2 = mkF m 0 #[.val (.ref x0), .val (.ref x1)] [] := by first | (simp [entryFrame, mkF, argsToLocals, Value.category]; done) | rfl
def QQbg50 (Z : State) (b : Addr) (x : Addr) (z : Int32) (tb : Addr) (kt : ClassId) (k : Nat) (cs : List Int32) (tx : Addr) (kx : ClassId) (n : Nat) (ds : List Int32) (h0 : Heap) (n0 : Nat) (v : Option Value) (h : Heap) (L : List Loc) : Prop := ∃ (t : Addr) (kx2 : ClassId), v = some (.ref b) ∧ Fr n0 L ∧ Keep h0 h [b] ∧ n0 ≤ t ∧ h0.size ≤ t ∧ Exa Z h b "java/lang/StringBuilder" ∧ Fld Z h b "java/lang/AbstractStringBuilder" "value" "[B" (.ref t) ∧ Fld Z h b "java/lang/AbstractStringBuilder" "count" "I" (.int (Int32.ofNat (k + n))) ∧ Fld Z h b "java/lang/AbstractStringBuilder" "coder" "B" (.int (0 : Int32)) ∧ Arv Z h t kx2 .byte (50 : Int32) (((cs ++ ds).map StrChars.lo8).map Value.int) (.int 0)
set_option maxRecDepth 65536 in
set_option maxHeartbeats 40000000 in
theorem rmQbg50 (l : Launch) (Z : State) (a0 : Array Value) (hw : ∀ d ∈ tables_1, d.before a0 Z = true) (ws : List Jvm.Cond) (b : Addr) (x : Addr) (z : Int32) (tb : Addr) (kt : ClassId) (k : Nat) (cs : List Int32) (tx : Addr) (kx : ClassId) (n : Nat) (ds : List Int32) (h0 : Heap) (n0 : Nat) (Z0 : n0 ≤ h0.size) (hz : ¬ z = (0 : Int32)) (O : Old Z n0 h0) (SC : Sta Z Z.heap "java/lang/String" "COMPACT_STRINGS" "Z" (.int z)) (Eb : Exa Z h0 b "java/lang/StringBuilder") (Fv : Fld Z h0 b "java/lang/AbstractStringBuilder" "value" "[B" (.ref tb)) (Fc : Fld Z h0 b "java/lang/AbstractStringBuilder" "count" "I" (.int (Int32.ofNat k))) (Fk : Fld Z h0 b "java/lang/AbstractStringBuilder" "coder" "B" (.int (0 : Int32))) (At : Arv Z h0 tb kt .byte (16 : Int32) ((cs.map StrChars.lo8).map Value.int) (.int 0)) (gb : n0 ≤ b) (gt : n0 ≤ tb) (nbt : b ≠ tb) (hk : cs.length = k) (Ex : Exa Z h0 x "java/lang/String") (Cx : Fld Z h0 x "java/lang/String" "coder" "B" (.int (0 : Int32))) (Vx : Fld Z h0 x "java/lang/String" "value" "[B" (.ref tx)) (Kx : Arv Z h0 tx kx .byte (Int32.ofNat n) ((ds.map StrChars.lo8).map Value.int) (.int 0)) (hnx : ds.length = n) (nxt : tx ≠ tb) (nxb : tx ≠ b) (nyt : x ≠ tb) (nyb : x ≠ b) (hkn : k + n = 50) (hc : k ≤ 16) :
    own_M l (⟨"java/lang/StringBuilder", "append", "(Ljava/lang/String;)Ljava/lang/StringBuilder;"⟩ : MethodName) jdk_67_method_7_code 2 (some (.object "java/lang/StringBuilder")) ws ({ frames := 5, cells := 1, slots := 50, locals := 76 } : Room) #[(.ref b), (.ref x)] Z h0 (QQbg50 Z b x z tb kt k cs tx kx n ds h0 n0) := by
  refine MetFree.of_bodySF (plainFor_of_name pn_1) hisR ?_
  intro p e s m args below meth cd s₁ Bd hml hP hK
  obtain ⟨rfl, hZ, hh⟩ := hP
  obtain ⟨X0, e0, H, hlk, hown, hret⟩ := own_start (R := ({ frames := 5, cells := 1, slots := 50, locals := 76 } : Room)) Bd hh rfl
  have hx := H.1; have hby := H.2; have N0 := Fr.nil n0
  show own_Fin p e below (own_Ans s (QQbg50 Z b x z tb kt k cs tx kx n ds h0 n0) ({ frames := 5, cells := 1, slots := 50, locals := 76 } : Room).cells ({ frames := 5, cells := 1, slots := 50, locals := 76 } : Room).slots) (s₁.setTop (entryFrame m #[(.ref b), (.ref x)] 2))
  refine own_cast (ef_rmQbg50 m b x) ?_
  show own_Fin p e below _ (s₁.setTop (mkF m 0 #[.val (.ref b), .val (.ref x)] []))
  refine o_aldN X0 H (od dB5 0 rfl) rfl rfl ?_
  refine o_aldN X0 H (od dB5 1 rfl) rfl rfl ?_
  refine o_bk (superBack X0 hx hZ (y := (⟨"java/lang/AbstractStringBuilder", "append", "(Ljava/lang/String;)Ljava/lang/AbstractStringBuilder;"⟩ : MethodName)) hown (ow hw 33 rfl) (own_same (ow hw 36 rfl) (ow hw 58 rfl) rfl (by decide)) (ow hw 34 rfl) (ow hw 35 rfl) (by decide) (backOf (W := 0) (rmQag50 l Z a0 hw [] b x z tb kt k cs tx kx n ds h0 n0 (by exact Z0) hz O SC Eb Fv Fc Fk At gb gt nbt hk Ex Cx Vx Kx hnx nxt nxb nyt nyb (by omega) (by omega)) hZ (ow hw 37 rfl) (ow hw 14 rfl) (by decide) (by decide)) e0 (Ins.self Eb) rfl (by exact hml.symm) (ow hw 37 rfl) (argsL := [(.ref x)]) (rest := []) (lenOf pd_10 rfl) rfl (o_mr rfl) (hb hby (od dB5 2 rfl)) (fun _ _ => ⟨rfl, e0, (by decide : 0 + 1 ≤ _), (by decide : 0 + 50 ≤ _)⟩)) fun _ T72 Lc72 X72 hQ72 => ?_
  have Lq72 : (cs ++ ds).length = (k + n) := own_la hk hnx
  obtain ⟨tg72, kt72, rfl, N72q, K72, gt72, gk72, Eq72, Vq72, Cq72, Dq72, Aq72⟩ := hQ72
  have ne72_b : b ≠ tg72 := Nat.ne_of_lt (Nat.lt_of_lt_of_le Eb.lt gk72)
  have ne72_tb : tb ≠ tg72 := Nat.ne_of_lt (Nat.lt_of_lt_of_le At.lt gk72)
  have ne72_x : x ≠ tg72 := Nat.ne_of_lt (Nat.lt_of_lt_of_le Ex.lt gk72)
  have ne72_tx : tx ≠ tg72 := Nat.ne_of_lt (Nat.lt_of_lt_of_le Kx.lt gk72)
  have N72 := Fr.app N0 N72q
  show own_Fin p e below _ (T72.setTop (mkF m 5 #[.val (.ref b), .val (.ref x)] [(.ref b)]))
  refine o_pop X72 H (od dB5 3 rfl) rfl ?_
  refine o_aldN X72 H (od dB5 4 rfl) rfl rfl ?_
  exact own_ret (t := (.object "java/lang/StringBuilder")) X72 hx hlk hret rfl (Or.inr (Or.inr (Or.inr (Or.inr ⟨rfl, rfl, rfl⟩)))) (hb hby (od dB5 5 rfl)) (by show QQbg50 Z b x z tb kt k cs tx kx n ds h0 n0 _ T72.heap _; exact ⟨tg72, kt72, rfl, N72, ((Keep.refl h0 [b]).trans K72 (allS (Or.inl (List.mem_of_getElem? (i := 0) rfl)) all0)), gt72, (Nat.le_trans (Keep.refl h0 [b]).1 gk72), Eq72, Vq72, Cq72, Dq72, Aq72⟩) (by decide) (by decide)
theorem ef_rmMx50_51 (m : MethodId) (x0 : Int32) (x1 : Int32) : entryFrame m #[(.int x0), (.int x1)] 2 = mkF m 0 #[.val (.int x0), .val (.int x1)] [] := by first | (simp [entryFrame, mkF, argsToLocals, Value.category]; done) | rfl
def QMx50_51 (Z : State)  (h0 : Heap) (n0 : Nat) (v : Option Value) (h : Heap) (L : List Loc) : Prop := v = some (.int (52 : Int32)) ∧ Fr n0 L ∧ h = h0
set_option maxRecDepth 65536 in
set_option maxHeartbeats 40000000 in
theorem rmMx50_51 (l : Launch) (Z : State) (a0 : Array Value) (hw : ∀ d ∈ tables_1, d.before a0 Z = true) (ws : List Jvm.Cond)  (h0 : Heap) (n0 : Nat) (Z0 : n0 ≤ h0.size) :
    own_M l (⟨"java/lang/Math", "max", "(II)I"⟩ : MethodName) jdk_29_method_65_code 2 (some .int) ws ({ frames := 0, cells := 0, slots := 0, locals := 0 } : Room) #[(.int (1 : Int32)), (.int (52 : Int32))] Z h0 (QMx50_51 Z  h0 n0) := by
  refine MetFree.of_bodySF (Jvm.Free.JP.mathPlain rfl (by decide +kernel)) hisR ?_
  intro p e s m args below meth cd s₁ Bd hml hP hK
  obtain ⟨rfl, hZ, hh⟩ := hP
  obtain ⟨X0, e0, H, hlk, hown, hret⟩ := own_start (R := ({ frames := 0, cells := 0, slots := 0, locals := 0 } : Room)) Bd hh rfl
  have hx := H.1; have hby := H.2; have N0 := Fr.nil n0
  show own_Fin p e below (own_Ans s (QMx50_51 Z  h0 n0) ({ frames := 0, cells := 0, slots := 0, locals := 0 } : Room).cells ({ frames := 0, cells := 0, slots := 0, locals := 0 } : Room).slots) (s₁.setTop (entryFrame m #[(.int (1 : Int32)), (.int (52 : Int32))] 2))
  refine own_cast (ef_rmMx50_51 m (1 : Int32) (52 : Int32)) ?_
  show own_Fin p e below _ (s₁.setTop (mkF m 0 #[.val (.int (1 : Int32)), .val (.int (52 : Int32))] []))
  refine o_ildN X0 H (od dB12 0 rfl) rfl ?_
  refine o_ildN X0 H (od dB12 1 rfl) rfl ?_
  refine o_icY X0 H (od dB12 2 rfl) (tlt (by decide : (1 : Int32) < (52 : Int32))).1 (pc' := 9) (by decide) (by decide) ?_
  refine o_ildN X0 H (od dB12 5 rfl) rfl ?_
  exact own_ret (t := .int) X0 hx hlk hret rfl (Or.inl ⟨rfl, (by simp), _, rfl⟩) (hb hby (od dB12 6 rfl)) (⟨rfl, N0, e0⟩) (by decide) (by decide)
theorem ef_rmNl50_51 (m : MethodId) (x0 : Int32) (x1 : Int32) (x2 : Int32) : entryFrame m #[(.int x0), (.int x1), (.int x2)] 4 = mkF m 0 #[.val (.int x0), .val (.int x1), .val (.int x2), .unset] [] := by first | (simp [entryFrame, mkF, argsToLocals, Value.category]; done) | rfl
def QNl50_51 (Z : State)  (h0 : Heap) (n0 : Nat) (v : Option Value) (h : Heap) (L : List Loc) : Prop := v = some (.int (102 : Int32)) ∧ Fr n0 L ∧ h = h0
set_option maxRecDepth 65536 in
set_option maxHeartbeats 40000000 in
theorem rmNl50_51 (l : Launch) (Z : State) (a0 : Array Value) (hw : ∀ d ∈ tables_1, d.before a0 Z = true) (ws : List Jvm.Cond)  (h0 : Heap) (n0 : Nat) (Z0 : n0 ≤ h0.size) :
    own_M l (⟨"jdk/internal/util/ArraysSupport", "newLength", "(III)I"⟩ : MethodName) jdk_48_method_27_code 4 (some .int) ws ({ frames := 1, cells := 0, slots := 0, locals := 14 } : Room) #[(.int (50 : Int32)), (.int (1 : Int32)), (.int (52 : Int32))] Z h0 (QNl50_51 Z  h0 n0) := by
  refine MetFree.of_bodySF (plainFor_of_name pn_3) hisR ?_
  intro p e s m args below meth cd s₁ Bd hml hP hK
  obtain ⟨rfl, hZ, hh⟩ := hP
  obtain ⟨X0, e0, H, hlk, hown, hret⟩ := own_start (R := ({ frames := 1, cells := 0, slots := 0, locals := 14 } : Room)) Bd hh rfl
  have hx := H.1; have hby := H.2; have N0 := Fr.nil n0
  show own_Fin p e below (own_Ans s (QNl50_51 Z  h0 n0) ({ frames := 1, cells := 0, slots := 0, locals := 14 } : Room).cells ({ frames := 1, cells := 0, slots := 0, locals := 14 } : Room).slots) (s₁.setTop (entryFrame m #[(.int (50 : Int32)), (.int (1 : Int32)), (.int (52 : Int32))] 4))
  refine own_cast (ef_rmNl50_51 m (50 : Int32) (1 : Int32) (52 : Int32)) ?_
  show own_Fin p e below _ (s₁.setTop (mkF m 0 #[.val (.int (50 : Int32)), .val (.int (1 : Int32)), .val (.int (52 : Int32)), .unset] []))
  refine o_ildN X0 H (od dB11 0 rfl) rfl ?_
  refine o_ildN X0 H (od dB11 1 rfl) rfl ?_
  refine o_ildN X0 H (od dB11 2 rfl) rfl ?_
  refine o_tc (argsL := [(.int (1 : Int32)), (.int (52 : Int32))]) (rest := [(.int (50 : Int32))]) X0 H hml hZ hown (ow hw 69 rfl) (ow hw 70 rfl) (ow hw 71 rfl) (ow hw 72 rfl) (backOf (W := 1) (rmMx50_51 l Z a0 hw []  h0 n0 (by exact Z0)) hZ (ow hw 72 rfl) (ow hw 71 rfl) (by decide) (by decide)) (by decide) e0 pd_5 (od dB11 3 rfl) rfl rfl rfl rfl rfl (by decide) (by decide) (o_pk (fun _ _ _ q => q) N0 fun T73 Lc73 X73 N73 e73 => ?_)
  refine own_on (fun tq => XS.iadd X73.here hx rfl (hb hby (od dB11 4 rfl)) rfl) ?_
  show own_Fin p e below _ (T73.setTop (mkF m 7 #[.val (.int (50 : Int32)), .val (.int (1 : Int32)), .val (.int (52 : Int32)), .unset] [(.int (102 : Int32))]))
  refine o_istN X73 H (od dB11 5 rfl) (L' := #[.val (.int (50 : Int32)), .val (.int (1 : Int32)), .val (.int (52 : Int32)), .val (.int (102 : Int32))]) rfl ?_
  refine o_ic X73 H (od dB11 6 rfl) (v := 0) rfl ?_
  refine o_ildN X73 H (od dB11 7 rfl) rfl ?_
  refine o_icN X73 H (od dB11 8 rfl) (tlt (by decide : (0 : Int32) < (102 : Int32))).2.1 ?_
  refine o_ildN X73 H (od dB11 9 rfl) rfl ?_
  refine own_on (fun tq => X73.ldcInt hx hown (mvT hZ (ow hw 73 rfl)) (g := (mkF m 14 #[.val (.int (50 : Int32)), .val (.int (1 : Int32)), .val (.int (52 : Int32)), .val (.int (102 : Int32))] [(.int (102 : Int32))])) rfl (hb hby (od dB11 10 rfl)) tq) ?_
  show own_Fin p e below _ (T73.setTop (mkF m 16 #[.val (.int (50 : Int32)), .val (.int (1 : Int32)), .val (.int (52 : Int32)), .val (.int (102 : Int32))] [(.int (2147483639 : Int32)), (.int (102 : Int32))]))
  refine o_icN X73 H (od dB11 11 rfl) (flt (by decide : ¬ ((2147483639 : Int32) < (102 : Int32)))).2.2.1 ?_
  refine o_ildN X73 H (od dB11 12 rfl) rfl ?_
  exact own_ret (t := .int) X73 hx hlk hret rfl (Or.inl ⟨rfl, (by simp), _, rfl⟩) (hb hby (od dB11 13 rfl)) (⟨rfl, N73, e73⟩) (by decide) (by decide)
theorem ef_rmNc50_51 (m : MethodId) (x0 : Addr) (x1 : Int32) : entryFrame m #[(.ref x0), (.int x1)] 6 = mkF m 0 #[.val (.ref x0), .val (.int x1), .unset, .unset, .unset, .unset] [] := by first | (simp [entryFrame, mkF, argsToLocals, Value.category]; done) | rfl
def QNc50_51 (Z : State) (b : Addr) (tb : Addr) (kt : ClassId) (vs : List Value) (h0 : Heap) (n0 : Nat) (v : Option Value) (h : Heap) (L : List Loc) : Prop := v = some (.int (102 : Int32)) ∧ Fr n0 L ∧ h = h0
set_option maxRecDepth 65536 in
set_option maxHeartbeats 40000000 in
theorem rmNc50_51 (l : Launch) (Z : State) (a0 : Array Value) (hw : ∀ d ∈ tables_1, d.before a0 Z = true) (ws : List Jvm.Cond) (b : Addr) (tb : Addr) (kt : ClassId) (vs : List Value) (h0 : Heap) (n0 : Nat) (Z0 : n0 ≤ h0.size) (Fv : Fld Z h0 b "java/lang/AbstractStringBuilder" "value" "[B" (.ref tb)) (Fk : Fld Z h0 b "java/lang/AbstractStringBuilder" "coder" "B" (.int (0 : Int32))) (At : Arv Z h0 tb kt .byte (50 : Int32) vs (.int 0)) :
    own_M l (⟨"java/lang/AbstractStringBuilder", "newCapacity", "(I)I"⟩ : MethodName) jdk_68_method_10_code 6 (some .int) ws ({ frames := 2, cells := 0, slots := 0, locals := 29 } : Room) #[(.ref b), (.int (51 : Int32))] Z h0 (QNc50_51 Z b tb kt vs h0 n0) := by
  refine MetFree.of_bodySF (plainFor_of_name pn_0) hisR ?_
  intro p e s m args below meth cd s₁ Bd hml hP hK
  obtain ⟨rfl, hZ, hh⟩ := hP
  obtain ⟨X0, e0, H, hlk, hown, hret⟩ := own_start (R := ({ frames := 2, cells := 0, slots := 0, locals := 29 } : Room)) Bd hh rfl
  have hx := H.1; have hby := H.2; have N0 := Fr.nil n0
  show own_Fin p e below (own_Ans s (QNc50_51 Z b tb kt vs h0 n0) ({ frames := 2, cells := 0, slots := 0, locals := 29 } : Room).cells ({ frames := 2, cells := 0, slots := 0, locals := 29 } : Room).slots) (s₁.setTop (entryFrame m #[(.ref b), (.int (51 : Int32))] 6))
  refine own_cast (ef_rmNc50_51 m b (51 : Int32)) ?_
  show own_Fin p e below _ (s₁.setTop (mkF m 0 #[.val (.ref b), .val (.int (51 : Int32)), .unset, .unset, .unset, .unset] []))
  refine o_aldN X0 H (od dB10 0 rfl) rfl rfl ?_
  refine o_gf X0 H hZ hown (ow hw 22 rfl) Via.refl e0 Fv (od dB10 1 rfl) fun T74 X74 e74 => ?_
  have cp75 := At
  obtain ⟨cl75, Ar75, q75, S75, G75, H75, F75⟩ := cp75
  refine own_on (fun tq => X74.arraylength hx (by rw [e74]; exact Ar75.1) (State.isArrayOf_alike hZ.alike Ar75.2.1) (g := (mkF m 4 #[.val (.ref b), .val (.int (51 : Int32)), .unset, .unset, .unset, .unset] [(.ref tb)])) rfl rfl (hb hby (od dB10 2 rfl)) tq) ?_
  rw [len_of S75 G75]
  show own_Fin p e below _ (T74.setTop (mkF m 5 #[.val (.ref b), .val (.int (51 : Int32)), .unset, .unset, .unset, .unset] [(.int (50 : Int32))]))
  refine o_istN X74 H (od dB10 3 rfl) (L' := #[.val (.ref b), .val (.int (51 : Int32)), .val (.int (50 : Int32)), .unset, .unset, .unset]) rfl ?_
  refine o_ildN X74 H (od dB10 4 rfl) rfl ?_
  refine o_aldN X74 H (od dB10 5 rfl) rfl rfl ?_
  refine o_gf X74 H hZ hown (ow hw 24 rfl) Via.refl e74 Fk (od dB10 6 rfl) fun T76 X76 e76 => ?_
  refine own_on (fun tq => XS.ishl X76.here hx rfl (hb hby (od dB10 7 rfl)) rfl) ?_
  show own_Fin p e below _ (T76.setTop (mkF m 12 #[.val (.ref b), .val (.int (51 : Int32)), .val (.int (50 : Int32)), .unset, .unset, .unset] [(.int (51 : Int32))]))
  refine o_istN X76 H (od dB10 8 rfl) (L' := #[.val (.ref b), .val (.int (51 : Int32)), .val (.int (50 : Int32)), .val (.int (51 : Int32)), .unset, .unset]) rfl ?_
  refine o_ildN X76 H (od dB10 9 rfl) rfl ?_
  refine o_ildN X76 H (od dB10 10 rfl) rfl ?_
  refine own_on (fun tq => XS.isub X76.here hx rfl (hb hby (od dB10 11 rfl)) rfl) ?_
  show own_Fin p e below _ (T76.setTop (mkF m 16 #[.val (.ref b), .val (.int (51 : Int32)), .val (.int (50 : Int32)), .val (.int (51 : Int32)), .unset, .unset] [(.int (1 : Int32))]))
  refine o_ist X76 H (od dB10 12 rfl) (L' := #[.val (.ref b), .val (.int (51 : Int32)), .val (.int (50 : Int32)), .val (.int (51 : Int32)), .val (.int (1 : Int32)), .unset]) rfl ?_
  refine o_ildN X76 H (od dB10 13 rfl) rfl ?_
  refine o_ild X76 H (od dB10 14 rfl) rfl ?_
  refine o_ildN X76 H (od dB10 15 rfl) rfl ?_
  refine o_ic X76 H (od dB10 16 rfl) (v := 2) rfl ?_
  refine o_aldN X76 H (od dB10 17 rfl) rfl rfl ?_
  refine o_gf X76 H hZ hown (ow hw 24 rfl) Via.refl e76 Fk (od dB10 18 rfl) fun T77 X77 e77 => ?_
  refine own_on (fun tq => XS.ishl X77.here hx rfl (hb hby (od dB10 19 rfl)) rfl) ?_
  show own_Fin p e below _ (T77.setTop (mkF m 28 #[.val (.ref b), .val (.int (51 : Int32)), .val (.int (50 : Int32)), .val (.int (51 : Int32)), .val (.int (1 : Int32)), .unset] [(.int (2 : Int32)), (.int (50 : Int32)), (.int (1 : Int32)), (.int (50 : Int32))]))
  refine own_on (fun tq => XS.iadd X77.here hx rfl (hb hby (od dB10 20 rfl)) rfl) ?_
  show own_Fin p e below _ (T77.setTop (mkF m 29 #[.val (.ref b), .val (.int (51 : Int32)), .val (.int (50 : Int32)), .val (.int (51 : Int32)), .val (.int (1 : Int32)), .unset] [(.int (52 : Int32)), (.int (1 : Int32)), (.int (50 : Int32))]))
  refine o_tc (argsL := [(.int (50 : Int32)), (.int (1 : Int32)), (.int (52 : Int32))]) (rest := []) X77 H hml hZ hown (ow hw 65 rfl) (ow hw 66 rfl) (ow hw 67 rfl) (ow hw 68 rfl) (backOf (W := 0) (rmNl50_51 l Z a0 hw []  h0 n0 (by exact Z0)) hZ (ow hw 68 rfl) (ow hw 67 rfl) (by decide) (by decide)) (by decide) e77 pd_6 (od dB10 21 rfl) rfl rfl rfl rfl rfl (by decide) (by decide) (o_pk (fun _ _ _ q => q) N0 fun T78 Lc78 X78 N78 e78 => ?_)
  refine o_ist X78 H (od dB10 22 rfl) (L' := #[.val (.ref b), .val (.int (51 : Int32)), .val (.int (50 : Int32)), .val (.int (51 : Int32)), .val (.int (1 : Int32)), .val (.int (102 : Int32))]) rfl ?_
  refine o_ild X78 H (od dB10 23 rfl) rfl ?_
  refine own_on (fun tq => X78.ldcInt hx hown (mvT hZ (ow hw 74 rfl)) (g := (mkF m 36 #[.val (.ref b), .val (.int (51 : Int32)), .val (.int (50 : Int32)), .val (.int (51 : Int32)), .val (.int (1 : Int32)), .val (.int (102 : Int32))] [(.int (102 : Int32))])) rfl (hb hby (od dB10 24 rfl)) tq) ?_
  show own_Fin p e below _ (T78.setTop (mkF m 38 #[.val (.ref b), .val (.int (51 : Int32)), .val (.int (50 : Int32)), .val (.int (51 : Int32)), .val (.int (1 : Int32)), .val (.int (102 : Int32))] [(.int (2147483647 : Int32)), (.int (102 : Int32))]))
  refine o_icY X78 H (od dB10 25 rfl) (feq (by decide : ¬ ((102 : Int32) = (2147483647 : Int32)))).2 (pc' := 51) (by decide) (by decide) ?_
  refine o_ild X78 H (od dB10 31 rfl) rfl ?_
  refine o_aldN X78 H (od dB10 32 rfl) rfl rfl ?_
  refine o_gf X78 H hZ hown (ow hw 24 rfl) Via.refl e78 Fk (od dB10 33 rfl) fun T79 X79 e79 => ?_
  refine own_on (fun tq => XS.ishr X79.here hx rfl (hb hby (od dB10 34 rfl)) rfl) ?_
  show own_Fin p e below _ (T79.setTop (mkF m 58 #[.val (.ref b), .val (.int (51 : Int32)), .val (.int (50 : Int32)), .val (.int (51 : Int32)), .val (.int (1 : Int32)), .val (.int (102 : Int32))] [(.int (102 : Int32))]))
  exact own_ret (t := .int) X79 hx hlk hret rfl (Or.inl ⟨rfl, (by simp), _, rfl⟩) (hb hby (od dB10 35 rfl)) (⟨rfl, N78, e79⟩) (by decide) (by decide)
theorem ef_rmCo50_51 (m : MethodId) (x0 : Addr) (x1 : Int32) : entryFrame m #[(.ref x0), (.int x1)] 3 = mkF m 0 #[.val (.ref x0), .val (.int x1), .unset] [] := by first | (simp [entryFrame, mkF, argsToLocals, Value.category]; done) | rfl
def QCo50_51 (Z : State) (tb : Addr) (kt : ClassId) (k : Nat) (cs : List Int32) (h0 : Heap) (n0 : Nat) (v : Option Value) (h : Heap) (L : List Loc) : Prop := ∃ (x : Addr) (kx : ClassId), v = some (.ref x) ∧ Fr n0 L ∧ Keep h0 h [] ∧ n0 ≤ x ∧ h0.size ≤ x ∧ Arv Z h x kx .byte (102 : Int32) ((cs.map StrChars.lo8).map Value.int) (.int 0)
set_option maxRecDepth 65536 in
set_option maxHeartbeats 40000000 in
theorem rmCo50_51 (l : Launch) (Z : State) (a0 : Array Value) (hw : ∀ d ∈ tables_1, d.before a0 Z = true) (ws : List Jvm.Cond) (tb : Addr) (kt : ClassId) (k : Nat) (cs : List Int32) (h0 : Heap) (n0 : Nat) (Z0 : n0 ≤ h0.size) (At : Arv Z h0 tb kt .byte (50 : Int32) ((cs.map StrChars.lo8).map Value.int) (.int 0)) (hk : cs.length = k) (hc : k ≤ 50) :
    own_M l (⟨"java/util/Arrays", "copyOf", "([BI)[B"⟩ : MethodName) jdk_65_method_121_code 3 (some (.array .byte)) ws ({ frames := 1, cells := 1, slots := 102, locals := 18 } : Room) #[(.ref tb), (.int (102 : Int32))] Z h0 (QCo50_51 Z tb kt k cs h0 n0) := by
  refine MetFree.of_bodySF (plainFor_of_name pn_4) hisR ?_
  intro p e s m args below meth cd s₁ Bd hml hP hK
  obtain ⟨rfl, hZ, hh⟩ := hP
  obtain ⟨X0, e0, H, hlk, hown, hret⟩ := own_start (R := ({ frames := 1, cells := 1, slots := 102, locals := 18 } : Room)) Bd hh rfl
  have hx := H.1; have hby := H.2; have N0 := Fr.nil n0
  show own_Fin p e below (own_Ans s (QCo50_51 Z tb kt k cs h0 n0) ({ frames := 1, cells := 1, slots := 102, locals := 18 } : Room).cells ({ frames := 1, cells := 1, slots := 102, locals := 18 } : Room).slots) (s₁.setTop (entryFrame m #[(.ref tb), (.int (102 : Int32))] 3))
  refine own_cast (ef_rmCo50_51 m tb (102 : Int32)) ?_
  show own_Fin p e below _ (s₁.setTop (mkF m 0 #[.val (.ref tb), .val (.int (102 : Int32)), .unset] []))
  refine o_ildN X0 H (od dB13 0 rfl) rfl ?_
  refine o_aldN X0 H (od dB13 1 rfl) rfl rfl ?_
  have cp80 := At
  obtain ⟨cl80, Ar80, q80, S80, G80, H80, F80⟩ := cp80
  refine own_on (fun tq => X0.arraylength hx (by rw [e0]; exact Ar80.1) (State.isArrayOf_alike hZ.alike Ar80.2.1) (g := (mkF m 2 #[.val (.ref tb), .val (.int (102 : Int32)), .unset] [(.ref tb), (.int (102 : Int32))])) rfl rfl (hb hby (od dB13 2 rfl)) tq) ?_
  rw [len_of S80 G80]
  show own_Fin p e below _ (s₁.setTop (mkF m 3 #[.val (.ref tb), .val (.int (102 : Int32)), .unset] [(.int (50 : Int32)), (.int (102 : Int32))]))
  refine o_icY X0 H (od dB13 3 rfl) (feq (by decide : ¬ ((102 : Int32) = (50 : Int32)))).2 (pc' := 14) (by decide) (by decide) ?_
  refine o_ildN X0 H (od dB13 8 rfl) rfl ?_
  obtain ⟨T81, h81, k81, X81, e81, E81, A81, st81⟩ := newP X0 hx hZ (ow hw 21 rfl) e0 (g := (mkF m 15 #[.val (.ref tb), .val (.int (102 : Int32)), .unset] [(.int (102 : Int32))])) rfl (hb hby (od dB13 9 rfl)) rfl (by decide) (cap := 102) (by decide) (by decide) (by decide) (by decide)
  obtain ⟨b81, g81⟩ : ∃ z, z = h0.size := ⟨_, rfl⟩
  rw [← g81] at A81 st81
  have ne81_tb : tb ≠ b81 := own_ne_of (Z := Z) At.lt g81
  have gn81 : n0 ≤ b81 := Nat.le_trans Z0 (Nat.le_of_eq g81.symm)
  have gk81 : h0.size ≤ b81 := Nat.le_trans (Keep.refl h0 []).1 (Nat.le_of_eq g81.symm)
  have V81 : Arv Z h81 b81 k81 .byte (102 : Int32) [] (.int (0 : Int32)) := Arv.new A81 (by decide)
  refine own_on st81 ?_
  show own_Fin p e below _ (T81.setTop (mkF m 17 #[.val (.ref tb), .val (.int (102 : Int32)), .unset] [(.ref b81)]))
  refine o_astN X81 H (od dB13 10 rfl) (L' := #[.val (.ref tb), .val (.int (102 : Int32)), .val (.ref b81)]) rfl rfl ?_
  refine o_aldN X81 H (od dB13 11 rfl) rfl rfl ?_
  refine o_ic X81 H (od dB13 12 rfl) (v := 0) rfl ?_
  refine o_aldN X81 H (od dB13 13 rfl) rfl rfl ?_
  refine o_ic X81 H (od dB13 14 rfl) (v := 0) rfl ?_
  refine o_aldN X81 H (od dB13 15 rfl) rfl rfl ?_
  have cp82 := (At.ext E81)
  obtain ⟨cl82, Ar82, q82, S82, G82, H82, F82⟩ := cp82
  refine own_on (fun tq => X81.arraylength hx (by rw [e81]; exact Ar82.1) (State.isArrayOf_alike hZ.alike Ar82.2.1) (g := (mkF m 23 #[.val (.ref tb), .val (.int (102 : Int32)), .val (.ref b81)] [(.ref tb), (.int (0 : Int32)), (.ref b81), (.int (0 : Int32)), (.ref tb)])) rfl rfl (hb hby (od dB13 16 rfl)) tq) ?_
  rw [len_of S82 G82]
  show own_Fin p e below _ (T81.setTop (mkF m 24 #[.val (.ref tb), .val (.int (102 : Int32)), .val (.ref b81)] [(.int (50 : Int32)), (.int (0 : Int32)), (.ref b81), (.int (0 : Int32)), (.ref tb)]))
  refine o_ildN X81 H (od dB13 17 rfl) rfl ?_
  refine o_tc (argsL := [(.int (50 : Int32)), (.int (102 : Int32))]) (rest := [(.int (0 : Int32)), (.ref b81), (.int (0 : Int32)), (.ref tb)]) X81 H hml hZ hown (ow hw 79 rfl) (ow hw 80 rfl) (ow hw 71 rfl) (ow hw 81 rfl) (backOf (W := 4) (rmMa l Z a0 hw [] (50 : Int32) (102 : Int32) h81 n0 (by exact (Nat.le_trans Z0 E81.1)) (by decide)) hZ (ow hw 81 rfl) (ow hw 71 rfl) (by decide) (by decide)) (by decide) e81 pd_5 (od dB13 18 rfl) rfl rfl rfl rfl rfl (by decide) (by decide) (o_pk (fun _ _ _ q => q) N0 fun T83 Lc83 X83 N83 e83 => ?_)
  obtain ⟨T84, h84, L84, X84, e84, N84, K84, A84, st84⟩ := own_cpNew X83 hx hZ hown (ow hw 82 rfl) (ow hw 85 rfl) (ow hw 83 rfl) (ow hw 84 rfl) e83 (At.ext E81) V81 (q := 50) (c1 := 50) (c2 := 102) (by rw [own_vl, hk]; exact hc) (by decide) (by decide) (by decide) (by decide) N83 gn81 (g := (mkF m 28 #[.val (.ref tb), .val (.int (102 : Int32)), .val (.ref b81)] [(.int (50 : Int32)), (.int (0 : Int32)), (.ref b81), (.int (0 : Int32)), (.ref tb)])) rfl (by rw [hml]; rfl) rfl (hb hby (od dB13 19 rfl)) (by decide) (W := 0) (by show 2 * 0 + _ ≤ _; exact Nat.le_of_eq rfl) (by decide)
  refine own_on st84 ?_
  show own_Fin p e below _ (T84.setTop (mkF m 31 #[.val (.ref tb), .val (.int (102 : Int32)), .val (.ref b81)] []))
  refine o_aldN X84 H (od dB13 20 rfl) rfl rfl ?_
  exact own_ret (t := (.array .byte)) X84 hx hlk hret rfl (Or.inr (Or.inr (Or.inr (Or.inr ⟨rfl, rfl, rfl⟩)))) (hb hby (od dB13 21 rfl)) (by show QCo50_51 Z tb kt k cs h0 n0 _ T84.heap _; rw [e84]; exact ⟨b81, k81, rfl, N84, (((Keep.refl h0 []).ext E81).trans K84 (allS (Or.inr gk81) all0)), gn81, gk81, A84⟩) (by decide) (by decide)
theorem ef_rmEg50_51 (m : MethodId) (x0 : Addr) (x1 : Int32) : entryFrame m #[(.ref x0), (.int x1)] 3 = mkF m 0 #[.val (.ref x0), .val (.int x1), .unset] [] := by first | (simp [entryFrame, mkF, argsToLocals, Value.category]; done) | rfl
def QEg50_51 (Z : State) (b : Addr) (tb : Addr) (kt : ClassId) (k : Nat) (cs : List Int32) (h0 : Heap) (n0 : Nat) (v : Option Value) (h : Heap) (L : List Loc) : Prop := ∃ (t : Addr) (kx : ClassId), v = none ∧ Fr n0 L ∧ Keep h0 h [b] ∧ n0 ≤ t ∧ h0.size ≤ t ∧ Exa Z h b "java/lang/StringBuilder" ∧ Fld Z h b "java/lang/AbstractStringBuilder" "value" "[B" (.ref t) ∧ Fld Z h b "java/lang/AbstractStringBuilder" "count" "I" (.int (Int32.ofNat k)) ∧ Fld Z h b "java/lang/AbstractStringBuilder" "coder" "B" (.int (0 : Int32)) ∧ Arv Z h t kx .byte (102 : Int32) ((cs.map StrChars.lo8).map Value.int) (.int 0)
set_option maxRecDepth 65536 in
set_option maxHeartbeats 40000000 in
theorem rmEg50_51 (l : Launch) (Z : State) (a0 : Array Value) (hw : ∀ d ∈ tables_1, d.before a0 Z = true) (ws : List Jvm.Cond) (b : Addr) (tb : Addr) (kt : ClassId) (k : Nat) (cs : List Int32) (h0 : Heap) (n0 : Nat) (Z0 : n0 ≤ h0.size) (Eb : Exa Z h0 b "java/lang/StringBuilder") (Fv : Fld Z h0 b "java/lang/AbstractStringBuilder" "value" "[B" (.ref tb)) (Fc : Fld Z h0 b "java/lang/AbstractStringBuilder" "count" "I" (.int (Int32.ofNat k))) (Fk : Fld Z h0 b "java/lang/AbstractStringBuilder" "coder" "B" (.int (0 : Int32))) (At : Arv Z h0 tb kt .byte (50 : Int32) ((cs.map StrChars.lo8).map Value.int) (.int 0)) (gb : n0 ≤ b) (gt : n0 ≤ tb) (nbt : b ≠ tb) (hk : cs.length = k) (hc : k ≤ 50) :
    own_M l (⟨"java/lang/AbstractStringBuilder", "ensureCapacityInternal", "(I)V"⟩ : MethodName) jdk_68_method_9_code 3 none ws ({ frames := 3, cells := 1, slots := 102, locals := 48 } : Room) #[(.ref b), (.int (51 : Int32))] Z h0 (QEg50_51 Z b tb kt k cs h0 n0) := by
  refine MetFree.of_bodySF (plainFor_of_name pn_0) hisR ?_
  intro p e s m args below meth cd s₁ Bd hml hP hK
  obtain ⟨rfl, hZ, hh⟩ := hP
  obtain ⟨X0, e0, H, hlk, hown, hret⟩ := own_start (R := ({ frames := 3, cells := 1, slots := 102, locals := 48 } : Room)) Bd hh rfl
  have hx := H.1; have hby := H.2; have N0 := Fr.nil n0
  show own_Fin p e below (own_Ans s (QEg50_51 Z b tb kt k cs h0 n0) ({ frames := 3, cells := 1, slots := 102, locals := 48 } : Room).cells ({ frames := 3, cells := 1, slots := 102, locals := 48 } : Room).slots) (s₁.setTop (entryFrame m #[(.ref b), (.int (51 : Int32))] 3))
  refine own_cast (ef_rmEg50_51 m b (51 : Int32)) ?_
  show own_Fin p e below _ (s₁.setTop (mkF m 0 #[.val (.ref b), .val (.int (51 : Int32)), .unset] []))
  refine o_aldN X0 H (od dB9 0 rfl) rfl rfl ?_
  refine o_gf X0 H hZ hown (ow hw 22 rfl) Via.refl e0 Fv (od dB9 1 rfl) fun T85 X85 e85 => ?_
  have cp86 := At
  obtain ⟨cl86, Ar86, q86, S86, G86, H86, F86⟩ := cp86
  refine own_on (fun tq => X85.arraylength hx (by rw [e85]; exact Ar86.1) (State.isArrayOf_alike hZ.alike Ar86.2.1) (g := (mkF m 4 #[.val (.ref b), .val (.int (51 : Int32)), .unset] [(.ref tb)])) rfl rfl (hb hby (od dB9 2 rfl)) tq) ?_
  rw [len_of S86 G86]
  show own_Fin p e below _ (T85.setTop (mkF m 5 #[.val (.ref b), .val (.int (51 : Int32)), .unset] [(.int (50 : Int32))]))
  refine o_aldN X85 H (od dB9 3 rfl) rfl rfl ?_
  refine o_gf X85 H hZ hown (ow hw 24 rfl) Via.refl e85 Fk (od dB9 4 rfl) fun T87 X87 e87 => ?_
  refine own_on (fun tq => XS.ishr X87.here hx rfl (hb hby (od dB9 5 rfl)) rfl) ?_
  show own_Fin p e below _ (T87.setTop (mkF m 10 #[.val (.ref b), .val (.int (51 : Int32)), .unset] [(.int (50 : Int32))]))
  refine o_istN X87 H (od dB9 6 rfl) (L' := #[.val (.ref b), .val (.int (51 : Int32)), .val (.int (50 : Int32))]) rfl ?_
  refine o_ildN X87 H (od dB9 7 rfl) rfl ?_
  refine o_ildN X87 H (od dB9 8 rfl) rfl ?_
  refine own_on (fun tq => XS.isub X87.here hx rfl (hb hby (od dB9 9 rfl)) rfl) ?_
  show own_Fin p e below _ (T87.setTop (mkF m 14 #[.val (.ref b), .val (.int (51 : Int32)), .val (.int (50 : Int32))] [(.int (1 : Int32))]))
  refine o_ifN X87 H (od dB9 10 rfl) ((if0 _ _).trans (tlt (by decide : (0 : Int32) < (1 : Int32))).2.2.2) ?_
  refine o_aldN X87 H (od dB9 11 rfl) rfl rfl ?_
  refine o_aldN X87 H (od dB9 12 rfl) rfl rfl ?_
  refine o_gf X87 H hZ hown (ow hw 22 rfl) Via.refl e87 Fv (od dB9 13 rfl) fun T88 X88 e88 => ?_
  refine o_aldN X88 H (od dB9 14 rfl) rfl rfl ?_
  refine o_ildN X88 H (od dB9 15 rfl) rfl ?_
  refine o_pc (argsL := [(.int (51 : Int32))]) (rest := [(.ref tb), (.ref b)]) X88 H hml hZ hown (ow hw 60 rfl) (ow hw 61 rfl) (own_selfsel (mvT hZ (ow hw 63 rfl)) (Cond.privateMethod_at (mvP hZ (ow hw 62 rfl) (args := #[]))) (mvT hZ (ow hw 61 rfl)) (by decide)) (ow hw 62 rfl) (ow hw 64 rfl) (backOf (W := 2) (rmNc50_51 l Z a0 hw [] b tb kt _ h0 n0 (by exact Z0) Fv Fk At) hZ (ow hw 64 rfl) (ow hw 14 rfl) (by decide) (by decide)) (by decide) Eb e88 pd_7 (od dB9 16 rfl) rfl rfl rfl rfl rfl (by decide) (by decide) (o_pk (fun _ _ _ q => q) N0 fun T89 Lc89 X89 N89 e89 => ?_)
  refine o_aldN X89 H (od dB9 17 rfl) rfl rfl ?_
  refine o_gf X89 H hZ hown (ow hw 24 rfl) Via.refl e89 Fk (od dB9 18 rfl) fun T90 X90 e90 => ?_
  refine own_on (fun tq => XS.ishl X90.here hx rfl (hb hby (od dB9 19 rfl)) rfl) ?_
  show own_Fin p e below _ (T90.setTop (mkF m 32 #[.val (.ref b), .val (.int (51 : Int32)), .val (.int (50 : Int32))] [(.int (102 : Int32)), (.ref tb), (.ref b)]))
  refine o_tc (argsL := [(.ref tb), (.int (102 : Int32))]) (rest := [(.ref b)]) X90 H hml hZ hown (ow hw 75 rfl) (ow hw 76 rfl) (ow hw 77 rfl) (ow hw 78 rfl) (backOf (W := 1) (rmCo50_51 l Z a0 hw [] tb kt k cs h0 n0 (by exact Z0) At hk hc) hZ (ow hw 78 rfl) (ow hw 77 rfl) (by decide) (by decide)) (by decide) e90 pd_8 (od dB9 20 rfl) rfl rfl rfl rfl rfl (by decide) (by decide) fun _ T91 Lc91 X91 hQ91 => ?_
  obtain ⟨x91, kx91, rfl, N91q, K91, gn91, gk91, Aq91⟩ := hQ91
  have ne91_b : b ≠ x91 := Nat.ne_of_lt (Nat.lt_of_lt_of_le Eb.lt gk91)
  have ne91_tb : tb ≠ x91 := Nat.ne_of_lt (Nat.lt_of_lt_of_le At.lt gk91)
  have N91 := Fr.app N89 N91q
  show own_Fin p e below _ (T91.setTop (mkF m 35 #[.val (.ref b), .val (.int (51 : Int32)), .val (.int (50 : Int32))] [(.ref x91), (.ref b)]))
  obtain ⟨T92, h92, X92, e92, W92, st92⟩ := putF X91 hx hZ hown (host := "") (Or.inl (ow hw 22 rfl)) Via.refl rfl (Fv.keep K91 nin0) (Eb.keep K91) (Or.inl (ow hw 23 rfl)) (ow hw 5 rfl) (ty := (.array .byte)) (by decide) rfl rfl (g := (mkF m 35 #[.val (.ref b), .val (.int (51 : Int32)), .val (.int (50 : Int32))] [(.ref x91), (.ref b)])) rfl rfl (hb hby (od dB9 21 rfl))
  have N92 := Fr.snoc X92 N91 gb
  have y93 := ((Fc.keep K91 nin0).other W92 (Or.inr (slot_ne (Or.inl (ow hw 54 rfl)) (Or.inl (ow hw 23 rfl)) (by decide) (t := .int) (t' := (.array .byte)) (by decide) (by decide))))
  have y94 := ((Fk.keep K91 nin0).other W92 (Or.inr (slot_ne (Or.inl (ow hw 25 rfl)) (Or.inl (ow hw 23 rfl)) (by decide) (t := .byte) (t' := (.array .byte)) (by decide) (by decide))))
  refine own_on st92 ?_
  show own_Fin p e below _ (T92.setTop (mkF m 38 #[.val (.ref b), .val (.int (51 : Int32)), .val (.int (50 : Int32))] []))
  exact own_retV X92 hx hlk hret (hb hby (od dB9 22 rfl)) (by show QEg50_51 Z b tb kt k cs h0 n0 _ T92.heap _; rw [e92]; exact ⟨x91, kx91, rfl, N92, (((Keep.refl h0 [b]).trans K91 all0).wr W92 (Or.inl (List.mem_of_getElem? (i := 0) rfl))), gn91, (Nat.le_trans (Keep.refl h0 [b]).1 gk91), ((Eb.keep K91).wr W92), ((Fv.keep K91 nin0).same W92), y93, y94, (Aq91.other W92 (Ne.symm ne91_b))⟩) (by decide) (by decide)
theorem ef_rmQag102 (m : MethodId) (x0 : Addr) (x1 : Addr) : entryFrame m #[(.ref x0), (.ref x1)] 3 = mkF m 0 #[.val (.ref x0), .val (.ref x1), .unset] [] := by first | (simp [entryFrame, mkF, argsToLocals, Value.category]; done) | rfl
def QQag102 (Z : State) (b : Addr) (x : Addr) (z : Int32) (tb : Addr) (kt : ClassId) (k : Nat) (cs : List Int32) (tx : Addr) (kx : ClassId) (n : Nat) (ds : List Int32) (h0 : Heap) (n0 : Nat) (v : Option Value) (h : Heap) (L : List Loc) : Prop := ∃ (t : Addr) (kx2 : ClassId), v = some (.ref b) ∧ Fr n0 L ∧ Keep h0 h [b] ∧ n0 ≤ t ∧ h0.size ≤ t ∧ Exa Z h b "java/lang/StringBuilder" ∧ Fld Z h b "java/lang/AbstractStringBuilder" "value" "[B" (.ref t) ∧ Fld Z h b "java/lang/AbstractStringBuilder" "count" "I" (.int (Int32.ofNat (k + n))) ∧ Fld Z h b "java/lang/AbstractStringBuilder" "coder" "B" (.int (0 : Int32)) ∧ Arv Z h t kx2 .byte (102 : Int32) (((cs ++ ds).map StrChars.lo8).map Value.int) (.int 0)
set_option maxRecDepth 65536 in
set_option maxHeartbeats 40000000 in
theorem rmQag102 (l : Launch) (Z : State) (a0 : Array Value) (hw : ∀ d ∈ tables_1, d.before a0 Z = true) (ws : List Jvm.Cond) (b : Addr) (x : Addr) (z : Int32) (tb : Addr) (kt : ClassId) (k : Nat) (cs : List Int32) (tx : Addr) (kx : ClassId) (n : Nat) (ds : List Int32) (h0 : Heap) (n0 : Nat) (Z0 : n0 ≤ h0.size) (hz : ¬ z = (0 : Int32)) (O : Old Z n0 h0) (SC : Sta Z Z.heap "java/lang/String" "COMPACT_STRINGS" "Z" (.int z)) (Eb : Exa Z h0 b "java/lang/StringBuilder") (Fv : Fld Z h0 b "java/lang/AbstractStringBuilder" "value" "[B" (.ref tb)) (Fc : Fld Z h0 b "java/lang/AbstractStringBuilder" "count" "I" (.int (Int32.ofNat k))) (Fk : Fld Z h0 b "java/lang/AbstractStringBuilder" "coder" "B" (.int (0 : Int32))) (At : Arv Z h0 tb kt .byte (50 : Int32) ((cs.map StrChars.lo8).map Value.int) (.int 0)) (gb : n0 ≤ b) (gt : n0 ≤ tb) (nbt : b ≠ tb) (hk : cs.length = k) (Ex : Exa Z h0 x "java/lang/String") (Cx : Fld Z h0 x "java/lang/String" "coder" "B" (.int (0 : Int32))) (Vx : Fld Z h0 x "java/lang/String" "value" "[B" (.ref tx)) (Kx : Arv Z h0 tx kx .byte (Int32.ofNat n) ((ds.map StrChars.lo8).map Value.int) (.int 0)) (hnx : ds.length = n) (nxt : tx ≠ tb) (nxb : tx ≠ b) (nyt : x ≠ tb) (nyb : x ≠ b) (hkn : k + n = 51) (hc : k ≤ 50) :
    own_M l (⟨"java/lang/AbstractStringBuilder", "append", "(Ljava/lang/String;)Ljava/lang/AbstractStringBuilder;"⟩ : MethodName) jdk_68_method_22_code 3 (some (.object "java/lang/AbstractStringBuilder")) ws ({ frames := 4, cells := 1, slots := 102, locals := 62 } : Room) #[(.ref b), (.ref x)] Z h0 (QQag102 Z b x z tb kt k cs tx kx n ds h0 n0) := by
  refine MetFree.of_bodySF (plainFor_of_name pn_0) hisR ?_
  intro p e s m args below meth cd s₁ Bd hml hP hK
  obtain ⟨rfl, hZ, hh⟩ := hP
  obtain ⟨X0, e0, H, hlk, hown, hret⟩ := own_start (R := ({ frames := 4, cells := 1, slots := 102, locals := 62 } : Room)) Bd hh rfl
  have hx := H.1; have hby := H.2; have N0 := Fr.nil n0
  show own_Fin p e below (own_Ans s (QQag102 Z b x z tb kt k cs tx kx n ds h0 n0) ({ frames := 4, cells := 1, slots := 102, locals := 62 } : Room).cells ({ frames := 4, cells := 1, slots := 102, locals := 62 } : Room).slots) (s₁.setTop (entryFrame m #[(.ref b), (.ref x)] 3))
  refine own_cast (ef_rmQag102 m b x) ?_
  show own_Fin p e below _ (s₁.setTop (mkF m 0 #[.val (.ref b), .val (.ref x), .unset] []))
  refine o_aldN X0 H (od dB6 0 rfl) rfl rfl ?_
  refine own_on (fun tq => XS.ifnonnullYes X0.here hx rfl (pc0 := 1) (pc' := 9) rfl (hb hby (od dB6 1 rfl)) rfl (by decide) (by decide)) ?_
  show own_Fin p e below _ (s₁.setTop (mkF m 9 #[.val (.ref b), .val (.ref x), .unset] []))
  refine o_aldN X0 H (od dB6 5 rfl) rfl rfl ?_
  refine o_vs (argsL := []) (rest := []) X0 H hml hZ hown (ow hw 38 rfl) (ow hw 39 rfl) (ow hw 41 rfl) (ow hw 40 rfl) (backOf (W := 0) (rm7 l Z a0 hw [] x z tx kx n ds h0 n0 (by exact Z0) hz O SC Ex Cx Vx Kx hnx) hZ (ow hw 42 rfl) (ow hw 20 rfl) (by decide) (by decide)) (by decide) Ex e0 pd_1 (od dB6 6 rfl) rfl rfl rfl rfl rfl (by decide) (by decide) (o_pk (fun _ _ _ q => q) N0 fun T95 Lc95 X95 N95 e95 => ?_)
  refine o_istN X95 H (od dB6 7 rfl) (L' := #[.val (.ref b), .val (.ref x), .val (.int (Int32.ofNat n))]) rfl ?_
  refine o_aldN X95 H (od dB6 8 rfl) rfl rfl ?_
  refine o_aldN X95 H (od dB6 9 rfl) rfl rfl ?_
  refine o_gf X95 H hZ hown (ow hw 53 rfl) Via.refl e95 Fc (od dB6 10 rfl) fun T96 X96 e96 => ?_
  refine o_ildN X96 H (od dB6 11 rfl) rfl ?_
  refine o_iadd X96 H (od dB6 12 rfl) ?_
  rw [show (Int32.ofNat k) + (Int32.ofNat n) = (51 : Int32) by rw [own_add, hkn]; rfl]
  show own_Fin p e below _ (T96.setTop (mkF m 21 #[.val (.ref b), .val (.ref x), .val (.int (Int32.ofNat n))] [(.int (51 : Int32)), (.ref b)]))
  refine o_pc (argsL := [(.int (51 : Int32))]) (rest := []) X96 H hml hZ hown (ow hw 55 rfl) (ow hw 56 rfl) (own_selfsel (mvT hZ (ow hw 58 rfl)) (Cond.privateMethod_at (mvP hZ (ow hw 57 rfl) (args := #[]))) (mvT hZ (ow hw 56 rfl)) (by decide)) (ow hw 57 rfl) (ow hw 59 rfl) (backOf (W := 0) (rmEg50_51 l Z a0 hw [] b tb kt k cs h0 n0 (by exact Z0) Eb Fv Fc Fk At gb gt nbt hk (by omega)) hZ (ow hw 59 rfl) (ow hw 14 rfl) (by decide) (by decide)) (by decide) Eb e96 pd_0 (od dB6 13 rfl) rfl rfl rfl rfl rfl (by decide) (by decide) fun _ T97 Lc97 X97 hQ97 => ?_
  obtain ⟨tg97, kt97, rfl, N97q, K97, gt97, gk97, Eq97, Vq97, Cq97, Dq97, Aq97⟩ := hQ97
  have ne97_b : b ≠ tg97 := Nat.ne_of_lt (Nat.lt_of_lt_of_le Eb.lt gk97)
  have ne97_tb : tb ≠ tg97 := Nat.ne_of_lt (Nat.lt_of_lt_of_le At.lt gk97)
  have ne97_x : x ≠ tg97 := Nat.ne_of_lt (Nat.lt_of_lt_of_le Ex.lt gk97)
  have ne97_tx : tx ≠ tg97 := Nat.ne_of_lt (Nat.lt_of_lt_of_le Kx.lt gk97)
  have N97 := Fr.app N95 N97q
  show own_Fin p e below _ (T97.setTop (mkF m 24 #[.val (.ref b), .val (.ref x), .val (.int (Int32.ofNat n))] []))
  refine o_aldN X97 H (od dB6 14 rfl) rfl rfl ?_
  refine o_aldN X97 H (od dB6 15 rfl) rfl rfl ?_
  refine o_gf X97 H hZ hown (ow hw 53 rfl) Via.refl rfl Cq97 (od dB6 16 rfl) fun T98 X98 e98 => ?_
  refine o_aldN X98 H (od dB6 17 rfl) rfl rfl ?_
  refine o_pc (argsL := [(.int (Int32.ofNat k)), (.ref x)]) (rest := []) X98 H hml hZ hown (ow hw 86 rfl) (ow hw 87 rfl) (own_selfsel (mvT hZ (ow hw 89 rfl)) (Cond.privateMethod_at (mvP hZ (ow hw 88 rfl) (args := #[]))) (mvT hZ (ow hw 87 rfl)) (by decide)) (ow hw 88 rfl) (ow hw 90 rfl) (backOf (W := 0) (rm15 l Z a0 hw [] b x z tg97 kt97 k cs 102 tx kx n ds T97.heap n0 (by exact (Nat.le_trans Z0 K97.1)) hz (O.keep K97 (allS gb all0)) SC Eq97 Vq97 Cq97 Dq97 Aq97 gb gt97 ne97_b hk (Ex.keep K97) (Cx.keep K97 (ninS nyb nin0)) (Vx.keep K97 (ninS nyb nin0)) (Kx.keep K97 (ninS nxb nin0)) hnx ne97_tx nxb ne97_x nyb (by omega) (by omega)) hZ (ow hw 90 rfl) (ow hw 14 rfl) (by decide) (by decide)) (by decide) Eq97 e98 pd_9 (od dB6 18 rfl) rfl rfl rfl rfl rfl (by decide) (by decide) fun _ T99 Lc99 X99 hQ99 => ?_
  obtain ⟨rfl, N99q, K99, Aq99⟩ := hQ99
  have N99 := Fr.app N97 N99q
  have y100 := (((Keep.refl h0 [b]).trans K97 (allS (Or.inl (List.mem_of_getElem? (i := 0) rfl)) all0)).trans K99 (allS (Or.inr (Nat.le_trans (Keep.refl h0 [b]).1 gk97)) all0))
  have Ar99 : Arv Z T99.heap tg97 kt97 .byte (102 : Int32) (((cs ++ ds).map StrChars.lo8).map Value.int) (.int 0) := Aq99
  show own_Fin p e below _ (T99.setTop (mkF m 33 #[.val (.ref b), .val (.ref x), .val (.int (Int32.ofNat n))] []))
  refine o_aldN X99 H (od dB6 19 rfl) rfl rfl ?_
  refine o_dup X99 H (od dB6 20 rfl) rfl ?_
  refine o_gf X99 H hZ hown (ow hw 53 rfl) Via.refl rfl (Cq97.keep K99 (ninS ne97_b nin0)) (od dB6 21 rfl) fun T101 X101 e101 => ?_
  refine o_ildN X101 H (od dB6 22 rfl) rfl ?_
  refine o_iadd X101 H (od dB6 23 rfl) ?_
  rw [own_add]
  show own_Fin p e below _ (T101.setTop (mkF m 40 #[.val (.ref b), .val (.ref x), .val (.int (Int32.ofNat n))] [(.int (Int32.ofNat (k + n))), (.ref b)]))
  obtain ⟨T102, h102, X102, e102, W102, st102⟩ := putF X101 hx hZ hown (host := "") (Or.inl (ow hw 53 rfl)) Via.refl e101 (Cq97.keep K99 (ninS ne97_b nin0)) (Eq97.keep K99) (Or.inl (ow hw 54 rfl)) (ow hw 5 rfl) (ty := .int) (by decide) rfl rfl (g := (mkF m 40 #[.val (.ref b), .val (.ref x), .val (.int (Int32.ofNat n))] [(.int (Int32.ofNat (k + n))), (.ref b)])) rfl rfl (hb hby (od dB6 24 rfl))
  have N102 := Fr.snoc X102 N99 gb
  have y103 := ((Vq97.keep K99 (ninS ne97_b nin0)).other W102 (Or.inr (slot_ne (Or.inl (ow hw 23 rfl)) (Or.inl (ow hw 54 rfl)) (by decide) (t := (.array .byte)) (t' := .int) (by decide) (by decide))))
  have y104 := ((Dq97.keep K99 (ninS ne97_b nin0)).other W102 (Or.inr (slot_ne (Or.inl (ow hw 25 rfl)) (Or.inl (ow hw 54 rfl)) (by decide) (t := .byte) (t' := .int) (by decide) (by decide))))
  refine own_on st102 ?_
  show own_Fin p e below _ (T102.setTop (mkF m 43 #[.val (.ref b), .val (.ref x), .val (.int (Int32.ofNat n))] []))
  refine o_aldN X102 H (od dB6 25 rfl) rfl rfl ?_
  exact own_ret (t := (.object "java/lang/AbstractStringBuilder")) X102 hx hlk hret rfl (Or.inr (Or.inr (Or.inr (Or.inr ⟨rfl, rfl, rfl⟩)))) (hb hby (od dB6 26 rfl)) (by show QQag102 Z b x z tb kt k cs tx kx n ds h0 n0 _ T102.heap _; rw [e102]; exact ⟨tg97, kt97, rfl, N102, (y100.wr W102 (Or.inl (List.mem_of_getElem? (i := 0) rfl))), gt97, (Nat.le_trans (Keep.refl h0 [b]).1 gk97), ((Eq97.keep K99).wr W102), y103, ((Cq97.keep K99 (ninS ne97_b nin0)).same W102), y104, (Ar99.other W102 (Ne.symm ne97_b))⟩) (by decide) (by decide)
theorem ef_rmQbg102 (m : MethodId) (x0 : Addr) (x1 : Addr) : entryFrame m #[(.ref x0), (.ref x1)] 2 = mkF m 0 #[.val (.ref x0), .val (.ref x1)] [] := by first | (simp [entryFrame, mkF, argsToLocals, Value.category]; done) | rfl
def QQbg102 (Z : State) (b : Addr) (x : Addr) (z : Int32) (tb : Addr) (kt : ClassId) (k : Nat) (cs : List Int32) (tx : Addr) (kx : ClassId) (n : Nat) (ds : List Int32) (h0 : Heap) (n0 : Nat) (v : Option Value) (h : Heap) (L : List Loc) : Prop := ∃ (t : Addr) (kx2 : ClassId), v = some (.ref b) ∧ Fr n0 L ∧ Keep h0 h [b] ∧ n0 ≤ t ∧ h0.size ≤ t ∧ Exa Z h b "java/lang/StringBuilder" ∧ Fld Z h b "java/lang/AbstractStringBuilder" "value" "[B" (.ref t) ∧ Fld Z h b "java/lang/AbstractStringBuilder" "count" "I" (.int (Int32.ofNat (k + n))) ∧ Fld Z h b "java/lang/AbstractStringBuilder" "coder" "B" (.int (0 : Int32)) ∧ Arv Z h t kx2 .byte (102 : Int32) (((cs ++ ds).map StrChars.lo8).map Value.int) (.int 0)
set_option maxRecDepth 65536 in
set_option maxHeartbeats 40000000 in
theorem rmQbg102 (l : Launch) (Z : State) (a0 : Array Value) (hw : ∀ d ∈ tables_1, d.before a0 Z = true) (ws : List Jvm.Cond) (b : Addr) (x : Addr) (z : Int32) (tb : Addr) (kt : ClassId) (k : Nat) (cs : List Int32) (tx : Addr) (kx : ClassId) (n : Nat) (ds : List Int32) (h0 : Heap) (n0 : Nat) (Z0 : n0 ≤ h0.size) (hz : ¬ z = (0 : Int32)) (O : Old Z n0 h0) (SC : Sta Z Z.heap "java/lang/String" "COMPACT_STRINGS" "Z" (.int z)) (Eb : Exa Z h0 b "java/lang/StringBuilder") (Fv : Fld Z h0 b "java/lang/AbstractStringBuilder" "value" "[B" (.ref tb)) (Fc : Fld Z h0 b "java/lang/AbstractStringBuilder" "count" "I" (.int (Int32.ofNat k))) (Fk : Fld Z h0 b "java/lang/AbstractStringBuilder" "coder" "B" (.int (0 : Int32))) (At : Arv Z h0 tb kt .byte (50 : Int32) ((cs.map StrChars.lo8).map Value.int) (.int 0)) (gb : n0 ≤ b) (gt : n0 ≤ tb) (nbt : b ≠ tb) (hk : cs.length = k) (Ex : Exa Z h0 x "java/lang/String") (Cx : Fld Z h0 x "java/lang/String" "coder" "B" (.int (0 : Int32))) (Vx : Fld Z h0 x "java/lang/String" "value" "[B" (.ref tx)) (Kx : Arv Z h0 tx kx .byte (Int32.ofNat n) ((ds.map StrChars.lo8).map Value.int) (.int 0)) (hnx : ds.length = n) (nxt : tx ≠ tb) (nxb : tx ≠ b) (nyt : x ≠ tb) (nyb : x ≠ b) (hkn : k + n = 51) (hc : k ≤ 50) :
    own_M l (⟨"java/lang/StringBuilder", "append", "(Ljava/lang/String;)Ljava/lang/StringBuilder;"⟩ : MethodName) jdk_67_method_7_code 2 (some (.object "java/lang/StringBuilder")) ws ({ frames := 5, cells := 1, slots := 102, locals := 76 } : Room) #[(.ref b), (.ref x)] Z h0 (QQbg102 Z b x z tb kt k cs tx kx n ds h0 n0) := by
  refine MetFree.of_bodySF (plainFor_of_name pn_1) hisR ?_
  intro p e s m args below meth cd s₁ Bd hml hP hK
  obtain ⟨rfl, hZ, hh⟩ := hP
  obtain ⟨X0, e0, H, hlk, hown, hret⟩ := own_start (R := ({ frames := 5, cells := 1, slots := 102, locals := 76 } : Room)) Bd hh rfl
  have hx := H.1; have hby := H.2; have N0 := Fr.nil n0
  show own_Fin p e below (own_Ans s (QQbg102 Z b x z tb kt k cs tx kx n ds h0 n0) ({ frames := 5, cells := 1, slots := 102, locals := 76 } : Room).cells ({ frames := 5, cells := 1, slots := 102, locals := 76 } : Room).slots) (s₁.setTop (entryFrame m #[(.ref b), (.ref x)] 2))
  refine own_cast (ef_rmQbg102 m b x) ?_
  show own_Fin p e below _ (s₁.setTop (mkF m 0 #[.val (.ref b), .val (.ref x)] []))
  refine o_aldN X0 H (od dB5 0 rfl) rfl rfl ?_
  refine o_aldN X0 H (od dB5 1 rfl) rfl rfl ?_
  refine o_bk (superBack X0 hx hZ (y := (⟨"java/lang/AbstractStringBuilder", "append", "(Ljava/lang/String;)Ljava/lang/AbstractStringBuilder;"⟩ : MethodName)) hown (ow hw 33 rfl) (own_same (ow hw 36 rfl) (ow hw 58 rfl) rfl (by decide)) (ow hw 34 rfl) (ow hw 35 rfl) (by decide) (backOf (W := 0) (rmQag102 l Z a0 hw [] b x z tb kt k cs tx kx n ds h0 n0 (by exact Z0) hz O SC Eb Fv Fc Fk At gb gt nbt hk Ex Cx Vx Kx hnx nxt nxb nyt nyb (by omega) (by omega)) hZ (ow hw 37 rfl) (ow hw 14 rfl) (by decide) (by decide)) e0 (Ins.self Eb) rfl (by exact hml.symm) (ow hw 37 rfl) (argsL := [(.ref x)]) (rest := []) (lenOf pd_10 rfl) rfl (o_mr rfl) (hb hby (od dB5 2 rfl)) (fun _ _ => ⟨rfl, e0, (by decide : 0 + 1 ≤ _), (by decide : 0 + 102 ≤ _)⟩)) fun _ T105 Lc105 X105 hQ105 => ?_
  have Lq105 : (cs ++ ds).length = (k + n) := own_la hk hnx
  obtain ⟨tg105, kt105, rfl, N105q, K105, gt105, gk105, Eq105, Vq105, Cq105, Dq105, Aq105⟩ := hQ105
  have ne105_b : b ≠ tg105 := Nat.ne_of_lt (Nat.lt_of_lt_of_le Eb.lt gk105)
  have ne105_tb : tb ≠ tg105 := Nat.ne_of_lt (Nat.lt_of_lt_of_le At.lt gk105)
  have ne105_x : x ≠ tg105 := Nat.ne_of_lt (Nat.lt_of_lt_of_le Ex.lt gk105)
  have ne105_tx : tx ≠ tg105 := Nat.ne_of_lt (Nat.lt_of_lt_of_le Kx.lt gk105)
  have N105 := Fr.app N0 N105q
  show own_Fin p e below _ (T105.setTop (mkF m 5 #[.val (.ref b), .val (.ref x)] [(.ref b)]))
  refine o_pop X105 H (od dB5 3 rfl) rfl ?_
  refine o_aldN X105 H (od dB5 4 rfl) rfl rfl ?_
  exact own_ret (t := (.object "java/lang/StringBuilder")) X105 hx hlk hret rfl (Or.inr (Or.inr (Or.inr (Or.inr ⟨rfl, rfl, rfl⟩)))) (hb hby (od dB5 5 rfl)) (by show QQbg102 Z b x z tb kt k cs tx kx n ds h0 n0 _ T105.heap _; exact ⟨tg105, kt105, rfl, N105, ((Keep.refl h0 [b]).trans K105 (allS (Or.inl (List.mem_of_getElem? (i := 0) rfl)) all0)), gt105, (Nat.le_trans (Keep.refl h0 [b]).1 gk105), Eq105, Vq105, Cq105, Dq105, Aq105⟩) (by decide) (by decide)
theorem ef_rmQan16 (m : MethodId) (x0 : Addr) (x1 : Addr) : entryFrame m #[(.ref x0), (.ref x1)] 3 = mkF m 0 #[.val (.ref x0), .val (.ref x1), .unset] [] := by first | (simp [entryFrame, mkF, argsToLocals, Value.category]; done) | rfl
def QQan16 (Z : State) (b : Addr) (x : Addr) (z : Int32) (tb : Addr) (kt : ClassId) (k : Nat) (cs : List Int32) (tx : Addr) (kx : ClassId) (n : Nat) (ds : List Int32) (h0 : Heap) (n0 : Nat) (v : Option Value) (h : Heap) (L : List Loc) : Prop := v = some (.ref b) ∧ Fr n0 L ∧ Keep h0 h [b, tb] ∧ Exa Z h b "java/lang/StringBuilder" ∧ Fld Z h b "java/lang/AbstractStringBuilder" "value" "[B" (.ref tb) ∧ Fld Z h b "java/lang/AbstractStringBuilder" "count" "I" (.int (Int32.ofNat (k + n))) ∧ Fld Z h b "java/lang/AbstractStringBuilder" "coder" "B" (.int (0 : Int32)) ∧ Arv Z h tb kt .byte (16 : Int32) (((cs ++ ds).map StrChars.lo8).map Value.int) (.int 0)
set_option maxRecDepth 65536 in
set_option maxHeartbeats 40000000 in
theorem rmQan16 (l : Launch) (Z : State) (a0 : Array Value) (hw : ∀ d ∈ tables_1, d.before a0 Z = true) (ws : List Jvm.Cond) (b : Addr) (x : Addr) (z : Int32) (tb : Addr) (kt : ClassId) (k : Nat) (cs : List Int32) (tx : Addr) (kx : ClassId) (n : Nat) (ds : List Int32) (h0 : Heap) (n0 : Nat) (Z0 : n0 ≤ h0.size) (hz : ¬ z = (0 : Int32)) (O : Old Z n0 h0) (SC : Sta Z Z.heap "java/lang/String" "COMPACT_STRINGS" "Z" (.int z)) (Eb : Exa Z h0 b "java/lang/StringBuilder") (Fv : Fld Z h0 b "java/lang/AbstractStringBuilder" "value" "[B" (.ref tb)) (Fc : Fld Z h0 b "java/lang/AbstractStringBuilder" "count" "I" (.int (Int32.ofNat k))) (Fk : Fld Z h0 b "java/lang/AbstractStringBuilder" "coder" "B" (.int (0 : Int32))) (At : Arv Z h0 tb kt .byte (16 : Int32) ((cs.map StrChars.lo8).map Value.int) (.int 0)) (gb : n0 ≤ b) (gt : n0 ≤ tb) (nbt : b ≠ tb) (hk : cs.length = k) (Ex : Exa Z h0 x "java/lang/String") (Cx : Fld Z h0 x "java/lang/String" "coder" "B" (.int (0 : Int32))) (Vx : Fld Z h0 x "java/lang/String" "value" "[B" (.ref tx)) (Kx : Arv Z h0 tx kx .byte (Int32.ofNat n) ((ds.map StrChars.lo8).map Value.int) (.int 0)) (hnx : ds.length = n) (nxt : tx ≠ tb) (nxb : tx ≠ b) (nyt : x ≠ tb) (nyb : x ≠ b) (hkn : k + n ≤ 16) :
    own_M l (⟨"java/lang/AbstractStringBuilder", "append", "(Ljava/lang/String;)Ljava/lang/AbstractStringBuilder;"⟩ : MethodName) jdk_68_method_22_code 3 (some (.object "java/lang/AbstractStringBuilder")) ws ({ frames := 3, cells := 0, slots := 0, locals := 47 } : Room) #[(.ref b), (.ref x)] Z h0 (QQan16 Z b x z tb kt k cs tx kx n ds h0 n0) := by
  refine MetFree.of_bodySF (plainFor_of_name pn_0) hisR ?_
  intro p e s m args below meth cd s₁ Bd hml hP hK
  obtain ⟨rfl, hZ, hh⟩ := hP
  obtain ⟨X0, e0, H, hlk, hown, hret⟩ := own_start (R := ({ frames := 3, cells := 0, slots := 0, locals := 47 } : Room)) Bd hh rfl
  have hx := H.1; have hby := H.2; have N0 := Fr.nil n0
  show own_Fin p e below (own_Ans s (QQan16 Z b x z tb kt k cs tx kx n ds h0 n0) ({ frames := 3, cells := 0, slots := 0, locals := 47 } : Room).cells ({ frames := 3, cells := 0, slots := 0, locals := 47 } : Room).slots) (s₁.setTop (entryFrame m #[(.ref b), (.ref x)] 3))
  refine own_cast (ef_rmQan16 m b x) ?_
  show own_Fin p e below _ (s₁.setTop (mkF m 0 #[.val (.ref b), .val (.ref x), .unset] []))
  refine o_aldN X0 H (od dB6 0 rfl) rfl rfl ?_
  refine own_on (fun tq => XS.ifnonnullYes X0.here hx rfl (pc0 := 1) (pc' := 9) rfl (hb hby (od dB6 1 rfl)) rfl (by decide) (by decide)) ?_
  show own_Fin p e below _ (s₁.setTop (mkF m 9 #[.val (.ref b), .val (.ref x), .unset] []))
  refine o_aldN X0 H (od dB6 5 rfl) rfl rfl ?_
  refine o_vs (argsL := []) (rest := []) X0 H hml hZ hown (ow hw 38 rfl) (ow hw 39 rfl) (ow hw 41 rfl) (ow hw 40 rfl) (backOf (W := 0) (rm7 l Z a0 hw [] x z tx kx n ds h0 n0 (by exact Z0) hz O SC Ex Cx Vx Kx hnx) hZ (ow hw 42 rfl) (ow hw 20 rfl) (by decide) (by decide)) (by decide) Ex e0 pd_1 (od dB6 6 rfl) rfl rfl rfl rfl rfl (by decide) (by decide) (o_pk (fun _ _ _ q => q) N0 fun T106 Lc106 X106 N106 e106 => ?_)
  refine o_istN X106 H (od dB6 7 rfl) (L' := #[.val (.ref b), .val (.ref x), .val (.int (Int32.ofNat n))]) rfl ?_
  refine o_aldN X106 H (od dB6 8 rfl) rfl rfl ?_
  refine o_aldN X106 H (od dB6 9 rfl) rfl rfl ?_
  refine o_gf X106 H hZ hown (ow hw 53 rfl) Via.refl e106 Fc (od dB6 10 rfl) fun T107 X107 e107 => ?_
  refine o_ildN X107 H (od dB6 11 rfl) rfl ?_
  refine o_iadd X107 H (od dB6 12 rfl) ?_
  rw [own_add]
  show own_Fin p e below _ (T107.setTop (mkF m 21 #[.val (.ref b), .val (.ref x), .val (.int (Int32.ofNat n))] [(.int (Int32.ofNat (k + n))), (.ref b)]))
  refine o_pc (argsL := [(.int (Int32.ofNat (k + n)))]) (rest := []) X107 H hml hZ hown (ow hw 55 rfl) (ow hw 56 rfl) (own_selfsel (mvT hZ (ow hw 58 rfl)) (Cond.privateMethod_at (mvP hZ (ow hw 57 rfl) (args := #[]))) (mvT hZ (ow hw 56 rfl)) (by decide)) (ow hw 57 rfl) (ow hw 59 rfl) (backOf (W := 0) (rmEn16 l Z a0 hw [] b tb kt _ (k + n) h0 n0 (by exact Z0) Fv Fk At (by omega)) hZ (ow hw 59 rfl) (ow hw 14 rfl) (by decide) (by decide)) (by decide) Eb e107 pd_0 (od dB6 13 rfl) rfl rfl rfl rfl rfl (by decide) (by decide) (o_pv (fun _ _ _ q => q) N106 fun T108 Lc108 X108 N108 e108 => ?_)
  refine o_aldN X108 H (od dB6 14 rfl) rfl rfl ?_
  refine o_aldN X108 H (od dB6 15 rfl) rfl rfl ?_
  refine o_gf X108 H hZ hown (ow hw 53 rfl) Via.refl e108 Fc (od dB6 16 rfl) fun T109 X109 e109 => ?_
  refine o_aldN X109 H (od dB6 17 rfl) rfl rfl ?_
  refine o_pc (argsL := [(.int (Int32.ofNat k)), (.ref x)]) (rest := []) X109 H hml hZ hown (ow hw 86 rfl) (ow hw 87 rfl) (own_selfsel (mvT hZ (ow hw 89 rfl)) (Cond.privateMethod_at (mvP hZ (ow hw 88 rfl) (args := #[]))) (mvT hZ (ow hw 87 rfl)) (by decide)) (ow hw 88 rfl) (ow hw 90 rfl) (backOf (W := 0) (rm15 l Z a0 hw [] b x z tb kt k cs 16 tx kx n ds h0 n0 (by exact Z0) hz O SC Eb Fv Fc Fk At gb gt nbt hk Ex Cx Vx Kx hnx nxt nxb nyt nyb (by omega) (by omega)) hZ (ow hw 90 rfl) (ow hw 14 rfl) (by decide) (by decide)) (by decide) Eb e109 pd_9 (od dB6 18 rfl) rfl rfl rfl rfl rfl (by decide) (by decide) fun _ T110 Lc110 X110 hQ110 => ?_
  obtain ⟨rfl, N110q, K110, Aq110⟩ := hQ110
  have N110 := Fr.app N108 N110q
  have Ar110 : Arv Z T110.heap tb kt .byte (16 : Int32) (((cs ++ ds).map StrChars.lo8).map Value.int) (.int 0) := Aq110
  show own_Fin p e below _ (T110.setTop (mkF m 33 #[.val (.ref b), .val (.ref x), .val (.int (Int32.ofNat n))] []))
  refine o_aldN X110 H (od dB6 19 rfl) rfl rfl ?_
  refine o_dup X110 H (od dB6 20 rfl) rfl ?_
  refine o_gf X110 H hZ hown (ow hw 53 rfl) Via.refl rfl (Fc.keep K110 (ninS nbt nin0)) (od dB6 21 rfl) fun T111 X111 e111 => ?_
  refine o_ildN X111 H (od dB6 22 rfl) rfl ?_
  refine o_iadd X111 H (od dB6 23 rfl) ?_
  rw [own_add]
  show own_Fin p e below _ (T111.setTop (mkF m 40 #[.val (.ref b), .val (.ref x), .val (.int (Int32.ofNat n))] [(.int (Int32.ofNat (k + n))), (.ref b)]))
  obtain ⟨T112, h112, X112, e112, W112, st112⟩ := putF X111 hx hZ hown (host := "") (Or.inl (ow hw 53 rfl)) Via.refl e111 (Fc.keep K110 (ninS nbt nin0)) (Eb.keep K110) (Or.inl (ow hw 54 rfl)) (ow hw 5 rfl) (ty := .int) (by decide) rfl rfl (g := (mkF m 40 #[.val (.ref b), .val (.ref x), .val (.int (Int32.ofNat n))] [(.int (Int32.ofNat (k + n))), (.ref b)])) rfl rfl (hb hby (od dB6 24 rfl))
  have N112 := Fr.snoc X112 N110 gb
  have y113 := (((Keep.refl h0 [b, tb]).trans K110 (allS (Or.inl (List.mem_of_getElem? (i := 1) rfl)) all0)).wr W112 (Or.inl (List.mem_of_getElem? (i := 0) rfl)))
  have y114 := ((Fv.keep K110 (ninS nbt nin0)).other W112 (Or.inr (slot_ne (Or.inl (ow hw 23 rfl)) (Or.inl (ow hw 54 rfl)) (by decide) (t := (.array .byte)) (t' := .int) (by decide) (by decide))))
  have y115 := ((Fk.keep K110 (ninS nbt nin0)).other W112 (Or.inr (slot_ne (Or.inl (ow hw 25 rfl)) (Or.inl (ow hw 54 rfl)) (by decide) (t := .byte) (t' := .int) (by decide) (by decide))))
  refine own_on st112 ?_
  show own_Fin p e below _ (T112.setTop (mkF m 43 #[.val (.ref b), .val (.ref x), .val (.int (Int32.ofNat n))] []))
  refine o_aldN X112 H (od dB6 25 rfl) rfl rfl ?_
  exact own_ret (t := (.object "java/lang/AbstractStringBuilder")) X112 hx hlk hret rfl (Or.inr (Or.inr (Or.inr (Or.inr ⟨rfl, rfl, rfl⟩)))) (hb hby (od dB6 26 rfl)) (by show QQan16 Z b x z tb kt k cs tx kx n ds h0 n0 _ T112.heap _; rw [e112]; exact ⟨rfl, N112, y113, ((Eb.keep K110).wr W112), y114, ((Fc.keep K110 (ninS nbt nin0)).same W112), y115, (Ar110.other W112 (Ne.symm nbt))⟩) (by decide) (by decide)
theorem ef_rmQbn16 (m : MethodId) (x0 : Addr) (x1 : Addr) : entryFrame m #[(.ref x0), (.ref x1)] 2 = mkF m 0 #[.val (.ref x0), .val (.ref x1)] [] := by first | (simp [entryFrame, mkF, argsToLocals, Value.category]; done) | rfl
def QQbn16 (Z : State) (b : Addr) (x : Addr) (z : Int32) (tb : Addr) (kt : ClassId) (k : Nat) (cs : List Int32) (tx : Addr) (kx : ClassId) (n : Nat) (ds : List Int32) (h0 : Heap) (n0 : Nat) (v : Option Value) (h : Heap) (L : List Loc) : Prop := v = some (.ref b) ∧ Fr n0 L ∧ Keep h0 h [b, tb] ∧ Exa Z h b "java/lang/StringBuilder" ∧ Fld Z h b "java/lang/AbstractStringBuilder" "value" "[B" (.ref tb) ∧ Fld Z h b "java/lang/AbstractStringBuilder" "count" "I" (.int (Int32.ofNat (k + n))) ∧ Fld Z h b "java/lang/AbstractStringBuilder" "coder" "B" (.int (0 : Int32)) ∧ Arv Z h tb kt .byte (16 : Int32) (((cs ++ ds).map StrChars.lo8).map Value.int) (.int 0)
set_option maxRecDepth 65536 in
set_option maxHeartbeats 40000000 in
theorem rmQbn16 (l : Launch) (Z : State) (a0 : Array Value) (hw : ∀ d ∈ tables_1, d.before a0 Z = true) (ws : List Jvm.Cond) (b : Addr) (x : Addr) (z : Int32) (tb : Addr) (kt : ClassId) (k : Nat) (cs : List Int32) (tx : Addr) (kx : ClassId) (n : Nat) (ds : List Int32) (h0 : Heap) (n0 : Nat) (Z0 : n0 ≤ h0.size) (hz : ¬ z = (0 : Int32)) (O : Old Z n0 h0) (SC : Sta Z Z.heap "java/lang/String" "COMPACT_STRINGS" "Z" (.int z)) (Eb : Exa Z h0 b "java/lang/StringBuilder") (Fv : Fld Z h0 b "java/lang/AbstractStringBuilder" "value" "[B" (.ref tb)) (Fc : Fld Z h0 b "java/lang/AbstractStringBuilder" "count" "I" (.int (Int32.ofNat k))) (Fk : Fld Z h0 b "java/lang/AbstractStringBuilder" "coder" "B" (.int (0 : Int32))) (At : Arv Z h0 tb kt .byte (16 : Int32) ((cs.map StrChars.lo8).map Value.int) (.int 0)) (gb : n0 ≤ b) (gt : n0 ≤ tb) (nbt : b ≠ tb) (hk : cs.length = k) (Ex : Exa Z h0 x "java/lang/String") (Cx : Fld Z h0 x "java/lang/String" "coder" "B" (.int (0 : Int32))) (Vx : Fld Z h0 x "java/lang/String" "value" "[B" (.ref tx)) (Kx : Arv Z h0 tx kx .byte (Int32.ofNat n) ((ds.map StrChars.lo8).map Value.int) (.int 0)) (hnx : ds.length = n) (nxt : tx ≠ tb) (nxb : tx ≠ b) (nyt : x ≠ tb) (nyb : x ≠ b) (hkn : k + n ≤ 16) :
    own_M l (⟨"java/lang/StringBuilder", "append", "(Ljava/lang/String;)Ljava/lang/StringBuilder;"⟩ : MethodName) jdk_67_method_7_code 2 (some (.object "java/lang/StringBuilder")) ws ({ frames := 4, cells := 0, slots := 0, locals := 61 } : Room) #[(.ref b), (.ref x)] Z h0 (QQbn16 Z b x z tb kt k cs tx kx n ds h0 n0) := by
  refine MetFree.of_bodySF (plainFor_of_name pn_1) hisR ?_
  intro p e s m args below meth cd s₁ Bd hml hP hK
  obtain ⟨rfl, hZ, hh⟩ := hP
  obtain ⟨X0, e0, H, hlk, hown, hret⟩ := own_start (R := ({ frames := 4, cells := 0, slots := 0, locals := 61 } : Room)) Bd hh rfl
  have hx := H.1; have hby := H.2; have N0 := Fr.nil n0
  show own_Fin p e below (own_Ans s (QQbn16 Z b x z tb kt k cs tx kx n ds h0 n0) ({ frames := 4, cells := 0, slots := 0, locals := 61 } : Room).cells ({ frames := 4, cells := 0, slots := 0, locals := 61 } : Room).slots) (s₁.setTop (entryFrame m #[(.ref b), (.ref x)] 2))
  refine own_cast (ef_rmQbn16 m b x) ?_
  show own_Fin p e below _ (s₁.setTop (mkF m 0 #[.val (.ref b), .val (.ref x)] []))
  refine o_aldN X0 H (od dB5 0 rfl) rfl rfl ?_
  refine o_aldN X0 H (od dB5 1 rfl) rfl rfl ?_
  refine o_bk (superBack X0 hx hZ (y := (⟨"java/lang/AbstractStringBuilder", "append", "(Ljava/lang/String;)Ljava/lang/AbstractStringBuilder;"⟩ : MethodName)) hown (ow hw 33 rfl) (own_same (ow hw 36 rfl) (ow hw 58 rfl) rfl (by decide)) (ow hw 34 rfl) (ow hw 35 rfl) (by decide) (backOf (W := 0) (rmQan16 l Z a0 hw [] b x z tb kt k cs tx kx n ds h0 n0 (by exact Z0) hz O SC Eb Fv Fc Fk At gb gt nbt hk Ex Cx Vx Kx hnx nxt nxb nyt nyb (by omega)) hZ (ow hw 37 rfl) (ow hw 14 rfl) (by decide) (by decide)) e0 (Ins.self Eb) rfl (by exact hml.symm) (ow hw 37 rfl) (argsL := [(.ref x)]) (rest := []) (lenOf pd_10 rfl) rfl (o_mr rfl) (hb hby (od dB5 2 rfl)) (fun _ _ => ⟨rfl, e0, (by decide : 0 + 0 ≤ _), (by decide : 0 + 0 ≤ _)⟩)) fun _ T116 Lc116 X116 hQ116 => ?_
  have Lq116 : (cs ++ ds).length = (k + n) := own_la hk hnx
  obtain ⟨rfl, N116q, K116, Eq116, Vq116, Cq116, Dq116, Aq116⟩ := hQ116
  have N116 := Fr.app N0 N116q
  have y117 := ((Keep.refl h0 [b, tb]).trans K116 (allS (Or.inl (List.mem_of_getElem? (i := 0) rfl)) (allS (Or.inl (List.mem_of_getElem? (i := 1) rfl)) all0)))
  show own_Fin p e below _ (T116.setTop (mkF m 5 #[.val (.ref b), .val (.ref x)] [(.ref b)]))
  refine o_pop X116 H (od dB5 3 rfl) rfl ?_
  refine o_aldN X116 H (od dB5 4 rfl) rfl rfl ?_
  exact own_ret (t := (.object "java/lang/StringBuilder")) X116 hx hlk hret rfl (Or.inr (Or.inr (Or.inr (Or.inr ⟨rfl, rfl, rfl⟩)))) (hb hby (od dB5 5 rfl)) (by show QQbn16 Z b x z tb kt k cs tx kx n ds h0 n0 _ T116.heap _; exact ⟨rfl, N116, y117, Eq116, Vq116, Cq116, Dq116, Aq116⟩) (by decide) (by decide)
theorem ef_rmQan102 (m : MethodId) (x0 : Addr) (x1 : Addr) : entryFrame m #[(.ref x0), (.ref x1)] 3 = mkF m 0 #[.val (.ref x0), .val (.ref x1), .unset] [] := by first | (simp [entryFrame, mkF, argsToLocals, Value.category]; done) | rfl
def QQan102 (Z : State) (b : Addr) (x : Addr) (z : Int32) (tb : Addr) (kt : ClassId) (k : Nat) (cs : List Int32) (tx : Addr) (kx : ClassId) (n : Nat) (ds : List Int32) (h0 : Heap) (n0 : Nat) (v : Option Value) (h : Heap) (L : List Loc) : Prop := v = some (.ref b) ∧ Fr n0 L ∧ Keep h0 h [b, tb] ∧ Exa Z h b "java/lang/StringBuilder" ∧ Fld Z h b "java/lang/AbstractStringBuilder" "value" "[B" (.ref tb) ∧ Fld Z h b "java/lang/AbstractStringBuilder" "count" "I" (.int (Int32.ofNat (k + n))) ∧ Fld Z h b "java/lang/AbstractStringBuilder" "coder" "B" (.int (0 : Int32)) ∧ Arv Z h tb kt .byte (102 : Int32) (((cs ++ ds).map StrChars.lo8).map Value.int) (.int 0)
set_option maxRecDepth 65536 in
set_option maxHeartbeats 40000000 in
theorem rmQan102 (l : Launch) (Z : State) (a0 : Array Value) (hw : ∀ d ∈ tables_1, d.before a0 Z = true) (ws : List Jvm.Cond) (b : Addr) (x : Addr) (z : Int32) (tb : Addr) (kt : ClassId) (k : Nat) (cs : List Int32) (tx : Addr) (kx : ClassId) (n : Nat) (ds : List Int32) (h0 : Heap) (n0 : Nat) (Z0 : n0 ≤ h0.size) (hz : ¬ z = (0 : Int32)) (O : Old Z n0 h0) (SC : Sta Z Z.heap "java/lang/String" "COMPACT_STRINGS" "Z" (.int z)) (Eb : Exa Z h0 b "java/lang/StringBuilder") (Fv : Fld Z h0 b "java/lang/AbstractStringBuilder" "value" "[B" (.ref tb)) (Fc : Fld Z h0 b "java/lang/AbstractStringBuilder" "count" "I" (.int (Int32.ofNat k))) (Fk : Fld Z h0 b "java/lang/AbstractStringBuilder" "coder" "B" (.int (0 : Int32))) (At : Arv Z h0 tb kt .byte (102 : Int32) ((cs.map StrChars.lo8).map Value.int) (.int 0)) (gb : n0 ≤ b) (gt : n0 ≤ tb) (nbt : b ≠ tb) (hk : cs.length = k) (Ex : Exa Z h0 x "java/lang/String") (Cx : Fld Z h0 x "java/lang/String" "coder" "B" (.int (0 : Int32))) (Vx : Fld Z h0 x "java/lang/String" "value" "[B" (.ref tx)) (Kx : Arv Z h0 tx kx .byte (Int32.ofNat n) ((ds.map StrChars.lo8).map Value.int) (.int 0)) (hnx : ds.length = n) (nxt : tx ≠ tb) (nxb : tx ≠ b) (nyt : x ≠ tb) (nyb : x ≠ b) (hkn : k + n ≤ 102) :
    own_M l (⟨"java/lang/AbstractStringBuilder", "append", "(Ljava/lang/String;)Ljava/lang/AbstractStringBuilder;"⟩ : MethodName) jdk_68_method_22_code 3 (some (.object "java/lang/AbstractStringBuilder")) ws ({ frames := 3, cells := 0, slots := 0, locals := 47 } : Room) #[(.ref b), (.ref x)] Z h0 (QQan102 Z b x z tb kt k cs tx kx n ds h0 n0) := by
  refine MetFree.of_bodySF (plainFor_of_name pn_0) hisR ?_
  intro p e s m args below meth cd s₁ Bd hml hP hK
  obtain ⟨rfl, hZ, hh⟩ := hP
  obtain ⟨X0, e0, H, hlk, hown, hret⟩ := own_start (R := ({ frames := 3, cells := 0, slots := 0, locals := 47 } : Room)) Bd hh rfl
  have hx := H.1; have hby := H.2; have N0 := Fr.nil n0
  show own_Fin p e below (own_Ans s (QQan102 Z b x z tb kt k cs tx kx n ds h0 n0) ({ frames := 3, cells := 0, slots := 0, locals := 47 } : Room).cells ({ frames := 3, cells := 0, slots := 0, locals := 47 } : Room).slots) (s₁.setTop (entryFrame m #[(.ref b), (.ref x)] 3))
  refine own_cast (ef_rmQan102 m b x) ?_
  show own_Fin p e below _ (s₁.setTop (mkF m 0 #[.val (.ref b), .val (.ref x), .unset] []))
  refine o_aldN X0 H (od dB6 0 rfl) rfl rfl ?_
  refine own_on (fun tq => XS.ifnonnullYes X0.here hx rfl (pc0 := 1) (pc' := 9) rfl (hb hby (od dB6 1 rfl)) rfl (by decide) (by decide)) ?_
  show own_Fin p e below _ (s₁.setTop (mkF m 9 #[.val (.ref b), .val (.ref x), .unset] []))
  refine o_aldN X0 H (od dB6 5 rfl) rfl rfl ?_
  refine o_vs (argsL := []) (rest := []) X0 H hml hZ hown (ow hw 38 rfl) (ow hw 39 rfl) (ow hw 41 rfl) (ow hw 40 rfl) (backOf (W := 0) (rm7 l Z a0 hw [] x z tx kx n ds h0 n0 (by exact Z0) hz O SC Ex Cx Vx Kx hnx) hZ (ow hw 42 rfl) (ow hw 20 rfl) (by decide) (by decide)) (by decide) Ex e0 pd_1 (od dB6 6 rfl) rfl rfl rfl rfl rfl (by decide) (by decide) (o_pk (fun _ _ _ q => q) N0 fun T118 Lc118 X118 N118 e118 => ?_)
  refine o_istN X118 H (od dB6 7 rfl) (L' := #[.val (.ref b), .val (.ref x), .val (.int (Int32.ofNat n))]) rfl ?_
  refine o_aldN X118 H (od dB6 8 rfl) rfl rfl ?_
  refine o_aldN X118 H (od dB6 9 rfl) rfl rfl ?_
  refine o_gf X118 H hZ hown (ow hw 53 rfl) Via.refl e118 Fc (od dB6 10 rfl) fun T119 X119 e119 => ?_
  refine o_ildN X119 H (od dB6 11 rfl) rfl ?_
  refine o_iadd X119 H (od dB6 12 rfl) ?_
  rw [own_add]
  show own_Fin p e below _ (T119.setTop (mkF m 21 #[.val (.ref b), .val (.ref x), .val (.int (Int32.ofNat n))] [(.int (Int32.ofNat (k + n))), (.ref b)]))
  refine o_pc (argsL := [(.int (Int32.ofNat (k + n)))]) (rest := []) X119 H hml hZ hown (ow hw 55 rfl) (ow hw 56 rfl) (own_selfsel (mvT hZ (ow hw 58 rfl)) (Cond.privateMethod_at (mvP hZ (ow hw 57 rfl) (args := #[]))) (mvT hZ (ow hw 56 rfl)) (by decide)) (ow hw 57 rfl) (ow hw 59 rfl) (backOf (W := 0) (rmEn102 l Z a0 hw [] b tb kt _ (k + n) h0 n0 (by exact Z0) Fv Fk At (by omega)) hZ (ow hw 59 rfl) (ow hw 14 rfl) (by decide) (by decide)) (by decide) Eb e119 pd_0 (od dB6 13 rfl) rfl rfl rfl rfl rfl (by decide) (by decide) (o_pv (fun _ _ _ q => q) N118 fun T120 Lc120 X120 N120 e120 => ?_)
  refine o_aldN X120 H (od dB6 14 rfl) rfl rfl ?_
  refine o_aldN X120 H (od dB6 15 rfl) rfl rfl ?_
  refine o_gf X120 H hZ hown (ow hw 53 rfl) Via.refl e120 Fc (od dB6 16 rfl) fun T121 X121 e121 => ?_
  refine o_aldN X121 H (od dB6 17 rfl) rfl rfl ?_
  refine o_pc (argsL := [(.int (Int32.ofNat k)), (.ref x)]) (rest := []) X121 H hml hZ hown (ow hw 86 rfl) (ow hw 87 rfl) (own_selfsel (mvT hZ (ow hw 89 rfl)) (Cond.privateMethod_at (mvP hZ (ow hw 88 rfl) (args := #[]))) (mvT hZ (ow hw 87 rfl)) (by decide)) (ow hw 88 rfl) (ow hw 90 rfl) (backOf (W := 0) (rm15 l Z a0 hw [] b x z tb kt k cs 102 tx kx n ds h0 n0 (by exact Z0) hz O SC Eb Fv Fc Fk At gb gt nbt hk Ex Cx Vx Kx hnx nxt nxb nyt nyb (by omega) (by omega)) hZ (ow hw 90 rfl) (ow hw 14 rfl) (by decide) (by decide)) (by decide) Eb e121 pd_9 (od dB6 18 rfl) rfl rfl rfl rfl rfl (by decide) (by decide) fun _ T122 Lc122 X122 hQ122 => ?_
  obtain ⟨rfl, N122q, K122, Aq122⟩ := hQ122
  have N122 := Fr.app N120 N122q
  have Ar122 : Arv Z T122.heap tb kt .byte (102 : Int32) (((cs ++ ds).map StrChars.lo8).map Value.int) (.int 0) := Aq122
  show own_Fin p e below _ (T122.setTop (mkF m 33 #[.val (.ref b), .val (.ref x), .val (.int (Int32.ofNat n))] []))
  refine o_aldN X122 H (od dB6 19 rfl) rfl rfl ?_
  refine o_dup X122 H (od dB6 20 rfl) rfl ?_
  refine o_gf X122 H hZ hown (ow hw 53 rfl) Via.refl rfl (Fc.keep K122 (ninS nbt nin0)) (od dB6 21 rfl) fun T123 X123 e123 => ?_
  refine o_ildN X123 H (od dB6 22 rfl) rfl ?_
  refine o_iadd X123 H (od dB6 23 rfl) ?_
  rw [own_add]
  show own_Fin p e below _ (T123.setTop (mkF m 40 #[.val (.ref b), .val (.ref x), .val (.int (Int32.ofNat n))] [(.int (Int32.ofNat (k + n))), (.ref b)]))
  obtain ⟨T124, h124, X124, e124, W124, st124⟩ := putF X123 hx hZ hown (host := "") (Or.inl (ow hw 53 rfl)) Via.refl e123 (Fc.keep K122 (ninS nbt nin0)) (Eb.keep K122) (Or.inl (ow hw 54 rfl)) (ow hw 5 rfl) (ty := .int) (by decide) rfl rfl (g := (mkF m 40 #[.val (.ref b), .val (.ref x), .val (.int (Int32.ofNat n))] [(.int (Int32.ofNat (k + n))), (.ref b)])) rfl rfl (hb hby (od dB6 24 rfl))
  have N124 := Fr.snoc X124 N122 gb
  have y125 := (((Keep.refl h0 [b, tb]).trans K122 (allS (Or.inl (List.mem_of_getElem? (i := 1) rfl)) all0)).wr W124 (Or.inl (List.mem_of_getElem? (i := 0) rfl)))
  have y126 := ((Fv.keep K122 (ninS nbt nin0)).other W124 (Or.inr (slot_ne (Or.inl (ow hw 23 rfl)) (Or.inl (ow hw 54 rfl)) (by decide) (t := (.array .byte)) (t' := .int) (by decide) (by decide))))
  have y127 := ((Fk.keep K122 (ninS nbt nin0)).other W124 (Or.inr (slot_ne (Or.inl (ow hw 25 rfl)) (Or.inl (ow hw 54 rfl)) (by decide) (t := .byte) (t' := .int) (by decide) (by decide))))
  refine own_on st124 ?_
  show own_Fin p e below _ (T124.setTop (mkF m 43 #[.val (.ref b), .val (.ref x), .val (.int (Int32.ofNat n))] []))
  refine o_aldN X124 H (od dB6 25 rfl) rfl rfl ?_
  exact own_ret (t := (.object "java/lang/AbstractStringBuilder")) X124 hx hlk hret rfl (Or.inr (Or.inr (Or.inr (Or.inr ⟨rfl, rfl, rfl⟩)))) (hb hby (od dB6 26 rfl)) (by show QQan102 Z b x z tb kt k cs tx kx n ds h0 n0 _ T124.heap _; rw [e124]; exact ⟨rfl, N124, y125, ((Eb.keep K122).wr W124), y126, ((Fc.keep K122 (ninS nbt nin0)).same W124), y127, (Ar122.other W124 (Ne.symm nbt))⟩) (by decide) (by decide)
theorem ef_rmQbn102 (m : MethodId) (x0 : Addr) (x1 : Addr) : entryFrame m #[(.ref x0), (.ref x1)] 2 = mkF m 0 #[.val (.ref x0), .val (.ref x1)] [] := by first | (simp [entryFrame, mkF, argsToLocals, Value.category]; done) | rfl
def QQbn102 (Z : State) (b : Addr) (x : Addr) (z : Int32) (tb : Addr) (kt : ClassId) (k : Nat) (cs : List Int32) (tx : Addr) (kx : ClassId) (n : Nat) (ds : List Int32) (h0 : Heap) (n0 : Nat) (v : Option Value) (h : Heap) (L : List Loc) : Prop := v = some (.ref b) ∧ Fr n0 L ∧ Keep h0 h [b, tb] ∧ Exa Z h b "java/lang/StringBuilder" ∧ Fld Z h b "java/lang/AbstractStringBuilder" "value" "[B" (.ref tb) ∧ Fld Z h b "java/lang/AbstractStringBuilder" "count" "I" (.int (Int32.ofNat (k + n))) ∧ Fld Z h b "java/lang/AbstractStringBuilder" "coder" "B" (.int (0 : Int32)) ∧ Arv Z h tb kt .byte (102 : Int32) (((cs ++ ds).map StrChars.lo8).map Value.int) (.int 0)
set_option maxRecDepth 65536 in
set_option maxHeartbeats 40000000 in
theorem rmQbn102 (l : Launch) (Z : State) (a0 : Array Value) (hw : ∀ d ∈ tables_1, d.before a0 Z = true) (ws : List Jvm.Cond) (b : Addr) (x : Addr) (z : Int32) (tb : Addr) (kt : ClassId) (k : Nat) (cs : List Int32) (tx : Addr) (kx : ClassId) (n : Nat) (ds : List Int32) (h0 : Heap) (n0 : Nat) (Z0 : n0 ≤ h0.size) (hz : ¬ z = (0 : Int32)) (O : Old Z n0 h0) (SC : Sta Z Z.heap "java/lang/String" "COMPACT_STRINGS" "Z" (.int z)) (Eb : Exa Z h0 b "java/lang/StringBuilder") (Fv : Fld Z h0 b "java/lang/AbstractStringBuilder" "value" "[B" (.ref tb)) (Fc : Fld Z h0 b "java/lang/AbstractStringBuilder" "count" "I" (.int (Int32.ofNat k))) (Fk : Fld Z h0 b "java/lang/AbstractStringBuilder" "coder" "B" (.int (0 : Int32))) (At : Arv Z h0 tb kt .byte (102 : Int32) ((cs.map StrChars.lo8).map Value.int) (.int 0)) (gb : n0 ≤ b) (gt : n0 ≤ tb) (nbt : b ≠ tb) (hk : cs.length = k) (Ex : Exa Z h0 x "java/lang/String") (Cx : Fld Z h0 x "java/lang/String" "coder" "B" (.int (0 : Int32))) (Vx : Fld Z h0 x "java/lang/String" "value" "[B" (.ref tx)) (Kx : Arv Z h0 tx kx .byte (Int32.ofNat n) ((ds.map StrChars.lo8).map Value.int) (.int 0)) (hnx : ds.length = n) (nxt : tx ≠ tb) (nxb : tx ≠ b) (nyt : x ≠ tb) (nyb : x ≠ b) (hkn : k + n ≤ 102) :
    own_M l (⟨"java/lang/StringBuilder", "append", "(Ljava/lang/String;)Ljava/lang/StringBuilder;"⟩ : MethodName) jdk_67_method_7_code 2 (some (.object "java/lang/StringBuilder")) ws ({ frames := 4, cells := 0, slots := 0, locals := 61 } : Room) #[(.ref b), (.ref x)] Z h0 (QQbn102 Z b x z tb kt k cs tx kx n ds h0 n0) := by
  refine MetFree.of_bodySF (plainFor_of_name pn_1) hisR ?_
  intro p e s m args below meth cd s₁ Bd hml hP hK
  obtain ⟨rfl, hZ, hh⟩ := hP
  obtain ⟨X0, e0, H, hlk, hown, hret⟩ := own_start (R := ({ frames := 4, cells := 0, slots := 0, locals := 61 } : Room)) Bd hh rfl
  have hx := H.1; have hby := H.2; have N0 := Fr.nil n0
  show own_Fin p e below (own_Ans s (QQbn102 Z b x z tb kt k cs tx kx n ds h0 n0) ({ frames := 4, cells := 0, slots := 0, locals := 61 } : Room).cells ({ frames := 4, cells := 0, slots := 0, locals := 61 } : Room).slots) (s₁.setTop (entryFrame m #[(.ref b), (.ref x)] 2))
  refine own_cast (ef_rmQbn102 m b x) ?_
  show own_Fin p e below _ (s₁.setTop (mkF m 0 #[.val (.ref b), .val (.ref x)] []))
  refine o_aldN X0 H (od dB5 0 rfl) rfl rfl ?_
  refine o_aldN X0 H (od dB5 1 rfl) rfl rfl ?_
  refine o_bk (superBack X0 hx hZ (y := (⟨"java/lang/AbstractStringBuilder", "append", "(Ljava/lang/String;)Ljava/lang/AbstractStringBuilder;"⟩ : MethodName)) hown (ow hw 33 rfl) (own_same (ow hw 36 rfl) (ow hw 58 rfl) rfl (by decide)) (ow hw 34 rfl) (ow hw 35 rfl) (by decide) (backOf (W := 0) (rmQan102 l Z a0 hw [] b x z tb kt k cs tx kx n ds h0 n0 (by exact Z0) hz O SC Eb Fv Fc Fk At gb gt nbt hk Ex Cx Vx Kx hnx nxt nxb nyt nyb (by omega)) hZ (ow hw 37 rfl) (ow hw 14 rfl) (by decide) (by decide)) e0 (Ins.self Eb) rfl (by exact hml.symm) (ow hw 37 rfl) (argsL := [(.ref x)]) (rest := []) (lenOf pd_10 rfl) rfl (o_mr rfl) (hb hby (od dB5 2 rfl)) (fun _ _ => ⟨rfl, e0, (by decide : 0 + 0 ≤ _), (by decide : 0 + 0 ≤ _)⟩)) fun _ T128 Lc128 X128 hQ128 => ?_
  have Lq128 : (cs ++ ds).length = (k + n) := own_la hk hnx
  obtain ⟨rfl, N128q, K128, Eq128, Vq128, Cq128, Dq128, Aq128⟩ := hQ128
  have N128 := Fr.app N0 N128q
  have y129 := ((Keep.refl h0 [b, tb]).trans K128 (allS (Or.inl (List.mem_of_getElem? (i := 0) rfl)) (allS (Or.inl (List.mem_of_getElem? (i := 1) rfl)) all0)))
  show own_Fin p e below _ (T128.setTop (mkF m 5 #[.val (.ref b), .val (.ref x)] [(.ref b)]))
  refine o_pop X128 H (od dB5 3 rfl) rfl ?_
  refine o_aldN X128 H (od dB5 4 rfl) rfl rfl ?_
  exact own_ret (t := (.object "java/lang/StringBuilder")) X128 hx hlk hret rfl (Or.inr (Or.inr (Or.inr (Or.inr ⟨rfl, rfl, rfl⟩)))) (hb hby (od dB5 5 rfl)) (by show QQbn102 Z b x z tb kt k cs tx kx n ds h0 n0 _ T128.heap _; exact ⟨rfl, N128, y129, Eq128, Vq128, Cq128, Dq128, Aq128⟩) (by decide) (by decide)
theorem dB32 : oL jdk_65_method_131_code [(0, .iload_n 1, 1), (1, .iload_n 0, 1), (2, .if_icmp .ge 35, 3), (5, .new 43, 3), (8, .dup, 1), (9, .new 45, 3), (12, .dup, 1), (13, .invokespecial 47, 3), (16, .iload_n 0, 1), (17, .invokevirtual 54, 3), (20, .ldc_w 337, 3), (23, .invokevirtual 50, 3), (26, .iload_n 1, 1), (27, .invokevirtual 54, 3), (30, .invokevirtual 61, 3), (33, .invokespecial 65, 3), (36, .athrow, 1), (37, .return_, 1)] := by unfold oL; decide +kernel
theorem ef_rm32 (m : MethodId) (x0 : Int32) (x1 : Int32) : entryFrame m #[(.int x0), (.int x1)] 2 = mkF m 0 #[.val (.int x0), .val (.int x1)] [] := by first | (simp [entryFrame, mkF, argsToLocals, Value.category]; done) | rfl
def Q32 (Z : State) (k : Nat) (h0 : Heap) (n0 : Nat) (v : Option Value) (h : Heap) (L : List Loc) : Prop := v = none ∧ Fr n0 L ∧ h = h0
set_option maxRecDepth 65536 in
set_option maxHeartbeats 40000000 in
theorem rm32 (l : Launch) (Z : State) (a0 : Array Value) (hw : ∀ d ∈ tables_1, d.before a0 Z = true) (ws : List Jvm.Cond) (k : Nat) (h0 : Heap) (n0 : Nat) (Z0 : n0 ≤ h0.size) (hk9 : k < 1000) :
    own_M l (⟨"java/util/Arrays", "checkLength", "(II)V"⟩ : MethodName) jdk_65_method_131_code 2 none ws ({ frames := 0, cells := 0, slots := 0, locals := 0 } : Room) #[(.int (0 : Int32)), (.int (Int32.ofNat k))] Z h0 (Q32 Z k h0 n0) := by
  refine MetFree.of_bodySF (plainFor_of_name pn_4) hisR ?_
  intro p e s m args below meth cd s₁ Bd hml hP hK
  obtain ⟨rfl, hZ, hh⟩ := hP
  obtain ⟨X0, e0, H, hlk, hown, hret⟩ := own_start (R := ({ frames := 0, cells := 0, slots := 0, locals := 0 } : Room)) Bd hh rfl
  have hx := H.1; have hby := H.2; have N0 := Fr.nil n0
  show own_Fin p e below (own_Ans s (Q32 Z k h0 n0) ({ frames := 0, cells := 0, slots := 0, locals := 0 } : Room).cells ({ frames := 0, cells := 0, slots := 0, locals := 0 } : Room).slots) (s₁.setTop (entryFrame m #[(.int (0 : Int32)), (.int (Int32.ofNat k))] 2))
  refine own_cast (ef_rm32 m (0 : Int32) (Int32.ofNat k)) ?_
  show own_Fin p e below _ (s₁.setTop (mkF m 0 #[.val (.int (0 : Int32)), .val (.int (Int32.ofNat k))] []))
  refine o_ildN X0 H (od dB32 0 rfl) rfl ?_
  refine o_ildN X0 H (od dB32 1 rfl) rfl ?_
  refine o_icY X0 H (od dB32 2 rfl) (flt (own_nneg (by omega))).2.1 (pc' := 37) (by decide) (by decide) ?_
  exact own_retV X0 hx hlk hret (hb hby (od dB32 17 rfl)) (⟨rfl, N0, e0⟩) (by decide) (by decide)
theorem dB31 : oL jdk_65_method_133_code [(0, .iload_n 1, 1), (1, .iload_n 2, 1), (2, .invokestatic 343, 3), (5, .iload_n 2, 1), (6, .iload_n 1, 1), (7, .isub, 1), (8, .istore_n 3, 1), (9, .iload_n 3, 1), (10, .newarray .byte, 2), (12, .astore 4, 2), (14, .aload_n 0, 1), (15, .iload_n 1, 1), (16, .aload 4, 2), (18, .iconst 0, 1), (19, .aload_n 0, 1), (20, .arraylength, 1), (21, .iload_n 1, 1), (22, .isub, 1), (23, .iload_n 3, 1), (24, .invokestatic 304, 3), (27, .invokestatic 150, 3), (30, .aload 4, 2), (32, .areturn, 1)] := by unfold oL; decide +kernel
theorem pd_11 : parseMethodDescriptor "(II)V" = some ⟨[.int, .int], none⟩ := by decide +kernel
theorem ef_rmCb (m : MethodId) (x0 : Addr) (x1 : Int32) (x2 : Int32) : entryFrame m #[(.ref x0), (.int x1), (.int x2)] 5 = mkF m 0 #[.val (.ref x0), .val (.int x1), .val (.int x2), .unset, .unset] [] := by first | (simp [entryFrame, mkF, argsToLocals, Value.category]; done) | rfl
def QCb (Z : State) (tb : Addr) (kt : ClassId) (k : Nat) (cs : List Int32) (c : Nat) (h0 : Heap) (n0 : Nat) (v : Option Value) (h : Heap) (L : List Loc) : Prop := ∃ (x : Addr) (kx : ClassId), v = some (.ref x) ∧ Fr n0 L ∧ Keep h0 h [] ∧ n0 ≤ x ∧ h0.size ≤ x ∧ Arv Z h x kx .byte (Int32.ofNat k) ((cs.map StrChars.lo8).map Value.int) (.int 0)
set_option maxRecDepth 65536 in
set_option maxHeartbeats 40000000 in
theorem rmCb (l : Launch) (Z : State) (a0 : Array Value) (hw : ∀ d ∈ tables_1, d.before a0 Z = true) (ws : List Jvm.Cond) (tb : Addr) (kt : ClassId) (k : Nat) (cs : List Int32) (c : Nat) (h0 : Heap) (n0 : Nat) (Z0 : n0 ≤ h0.size) (At : Arv Z h0 tb kt .byte (Int32.ofNat c) ((cs.map StrChars.lo8).map Value.int) (.int 0)) (hk : cs.length = k) (hkc : k < c) (hkm : k ≤ 63) (hc : c < 1000) :
    own_M l (⟨"java/util/Arrays", "copyOfRangeByte", "([BII)[B"⟩ : MethodName) jdk_65_method_133_code 5 (some (.array .byte)) ws ({ frames := 1, cells := 1, slots := 63, locals := 18 } : Room) #[(.ref tb), (.int (0 : Int32)), (.int (Int32.ofNat k))] Z h0 (QCb Z tb kt k cs c h0 n0) := by
  refine MetFree.of_bodySF (plainFor_of_name pn_4) hisR ?_
  intro p e s m args below meth cd s₁ Bd hml hP hK
  obtain ⟨rfl, hZ, hh⟩ := hP
  obtain ⟨X0, e0, H, hlk, hown, hret⟩ := own_start (R := ({ frames := 1, cells := 1, slots := 63, locals := 18 } : Room)) Bd hh rfl
  have hx := H.1; have hby := H.2; have N0 := Fr.nil n0
  show own_Fin p e below (own_Ans s (QCb Z tb kt k cs c h0 n0) ({ frames := 1, cells := 1, slots := 63, locals := 18 } : Room).cells ({ frames := 1, cells := 1, slots := 63, locals := 18 } : Room).slots) (s₁.setTop (entryFrame m #[(.ref tb), (.int (0 : Int32)), (.int (Int32.ofNat k))] 5))
  refine own_cast (ef_rmCb m tb (0 : Int32) (Int32.ofNat k)) ?_
  show own_Fin p e below _ (s₁.setTop (mkF m 0 #[.val (.ref tb), .val (.int (0 : Int32)), .val (.int (Int32.ofNat k)), .unset, .unset] []))
  refine o_ildN X0 H (od dB31 0 rfl) rfl ?_
  refine o_ildN X0 H (od dB31 1 rfl) rfl ?_
  refine o_tc (argsL := [(.int (0 : Int32)), (.int (Int32.ofNat k))]) (rest := []) X0 H hml hZ hown (ow hw 167 rfl) (ow hw 168 rfl) (ow hw 77 rfl) (ow hw 169 rfl) (backOf (W := 0) (rm32 l Z a0 hw [] k h0 n0 (by exact Z0) (by omega)) hZ (ow hw 169 rfl) (ow hw 77 rfl) (by decide) (by decide)) (by decide) e0 pd_11 (od dB31 2 rfl) rfl rfl rfl rfl rfl (by decide) (by decide) (o_pv (fun _ _ _ q => q) N0 fun T130 Lc130 X130 N130 e130 => ?_)
  refine o_ildN X130 H (od dB31 3 rfl) rfl ?_
  refine o_ildN X130 H (od dB31 4 rfl) rfl ?_
  refine o_isub X130 H (od dB31 5 rfl) ?_
  rw [Int32.sub_zero]
  show own_Fin p e below _ (T130.setTop (mkF m 8 #[.val (.ref tb), .val (.int (0 : Int32)), .val (.int (Int32.ofNat k)), .unset, .unset] [(.int (Int32.ofNat k))]))
  refine o_istN X130 H (od dB31 6 rfl) (L' := #[.val (.ref tb), .val (.int (0 : Int32)), .val (.int (Int32.ofNat k)), .val (.int (Int32.ofNat k)), .unset]) rfl ?_
  refine o_ildN X130 H (od dB31 7 rfl) rfl ?_
  obtain ⟨T131, h131, k131, X131, e131, E131, A131, st131⟩ := newP X130 hx hZ (ow hw 21 rfl) e130 (g := (mkF m 10 #[.val (.ref tb), .val (.int (0 : Int32)), .val (.int (Int32.ofNat k)), .val (.int (Int32.ofNat k)), .unset] [(.int (Int32.ofNat k))])) rfl (hb hby (od dB31 8 rfl)) rfl (own_nneg (by omega)) (cap := 63) (by rw [own_clampN (by omega)]; exact hkm) (by decide) (by decide) (by decide)
  obtain ⟨b131, g131⟩ : ∃ z, z = h0.size := ⟨_, rfl⟩
  rw [← g131] at A131 st131
  have ne131_tb : tb ≠ b131 := own_ne_of (Z := Z) At.lt g131
  have gn131 : n0 ≤ b131 := Nat.le_trans Z0 (Nat.le_of_eq g131.symm)
  have gk131 : h0.size ≤ b131 := Nat.le_trans (Keep.refl h0 []).1 (Nat.le_of_eq g131.symm)
  have V131 : Arv Z h131 b131 k131 .byte (Int32.ofNat k) [] (.int (0 : Int32)) := Arv.new A131 (own_nneg (by omega))
  refine own_on st131 ?_
  show own_Fin p e below _ (T131.setTop (mkF m 12 #[.val (.ref tb), .val (.int (0 : Int32)), .val (.int (Int32.ofNat k)), .val (.int (Int32.ofNat k)), .unset] [(.ref b131)]))
  refine o_ast X131 H (od dB31 9 rfl) (L' := #[.val (.ref tb), .val (.int (0 : Int32)), .val (.int (Int32.ofNat k)), .val (.int (Int32.ofNat k)), .val (.ref b131)]) rfl rfl ?_
  refine o_aldN X131 H (od dB31 10 rfl) rfl rfl ?_
  refine o_ildN X131 H (od dB31 11 rfl) rfl ?_
  refine o_ald X131 H (od dB31 12 rfl) rfl rfl ?_
  refine o_ic X131 H (od dB31 13 rfl) (v := 0) rfl ?_
  refine o_aldN X131 H (od dB31 14 rfl) rfl rfl ?_
  have cp132 := (At.ext E131)
  obtain ⟨cl132, Ar132, q132, S132, G132, H132, F132⟩ := cp132
  refine own_on (fun tq => X131.arraylength hx (by rw [e131]; exact Ar132.1) (State.isArrayOf_alike hZ.alike Ar132.2.1) (g := (mkF m 20 #[.val (.ref tb), .val (.int (0 : Int32)), .val (.int (Int32.ofNat k)), .val (.int (Int32.ofNat k)), .val (.ref b131)] [(.ref tb), (.int (0 : Int32)), (.ref b131), (.int (0 : Int32)), (.ref tb)])) rfl rfl (hb hby (od dB31 15 rfl)) tq) ?_
  rw [len_of S132 G132]
  show own_Fin p e below _ (T131.setTop (mkF m 21 #[.val (.ref tb), .val (.int (0 : Int32)), .val (.int (Int32.ofNat k)), .val (.int (Int32.ofNat k)), .val (.ref b131)] [(.int (Int32.ofNat c)), (.int (0 : Int32)), (.ref b131), (.int (0 : Int32)), (.ref tb)]))
  refine o_ildN X131 H (od dB31 16 rfl) rfl ?_
  refine o_isub X131 H (od dB31 17 rfl) ?_
  rw [Int32.sub_zero]
  show own_Fin p e below _ (T131.setTop (mkF m 23 #[.val (.ref tb), .val (.int (0 : Int32)), .val (.int (Int32.ofNat k)), .val (.int (Int32.ofNat k)), .val (.ref b131)] [(.int (Int32.ofNat c)), (.int (0 : Int32)), (.ref b131), (.int (0 : Int32)), (.ref tb)]))
  refine o_ildN X131 H (od dB31 18 rfl) rfl ?_
  refine o_tc (argsL := [(.int (Int32.ofNat c)), (.int (Int32.ofNat k))]) (rest := [(.int (0 : Int32)), (.ref b131), (.int (0 : Int32)), (.ref tb)]) X131 H hml hZ hown (ow hw 79 rfl) (ow hw 80 rfl) (ow hw 71 rfl) (ow hw 81 rfl) (backOf (W := 4) (rmMb l Z a0 hw [] (Int32.ofNat c) (Int32.ofNat k) h131 n0 (by exact (Nat.le_trans Z0 E131.1)) (own_olt hkc (by omega))) hZ (ow hw 81 rfl) (ow hw 71 rfl) (by decide) (by decide)) (by decide) e131 pd_5 (od dB31 19 rfl) rfl rfl rfl rfl rfl (by decide) (by decide) (o_pk (fun _ _ _ q => q) N130 fun T133 Lc133 X133 N133 e133 => ?_)
  obtain ⟨T134, h134, L134, X134, e134, N134, K134, A134, st134⟩ := own_cpNew X133 hx hZ hown (ow hw 82 rfl) (ow hw 85 rfl) (ow hw 83 rfl) (ow hw 84 rfl) e133 (At.ext E131) V131 (q := k) (c1 := c) (c2 := k) (by rw [own_vl, hk]; exact Nat.le_refl _) (by omega) (Nat.le_refl _) (by omega) (by omega) N133 gn131 (g := (mkF m 27 #[.val (.ref tb), .val (.int (0 : Int32)), .val (.int (Int32.ofNat k)), .val (.int (Int32.ofNat k)), .val (.ref b131)] [(.int (Int32.ofNat k)), (.int (0 : Int32)), (.ref b131), (.int (0 : Int32)), (.ref tb)])) rfl (by rw [hml]; rfl) rfl (hb hby (od dB31 20 rfl)) (by decide) (W := 0) (by show 2 * 0 + _ ≤ _; exact Nat.le_of_eq rfl) (by decide)
  refine own_on st134 ?_
  show own_Fin p e below _ (T134.setTop (mkF m 30 #[.val (.ref tb), .val (.int (0 : Int32)), .val (.int (Int32.ofNat k)), .val (.int (Int32.ofNat k)), .val (.ref b131)] []))
  refine o_ald X134 H (od dB31 21 rfl) rfl rfl ?_
  exact own_ret (t := (.array .byte)) X134 hx hlk hret rfl (Or.inr (Or.inr (Or.inr (Or.inr ⟨rfl, rfl, rfl⟩)))) (hb hby (od dB31 22 rfl)) (by show QCb Z tb kt k cs c h0 n0 _ T134.heap _; rw [e134]; exact ⟨b131, k131, rfl, N134, (((Keep.refl h0 []).ext E131).trans K134 (allS (Or.inr gk131) all0)), gn131, gk131, A134⟩) (by decide) (by decide)
theorem dB30 : oL jdk_65_method_132_code [(0, .iload_n 1, 1), (1, .ifCond .ne 9, 3), (4, .iload_n 2, 1), (5, .aload_n 0, 1), (6, .arraylength, 1), (7, .if_icmp .eq 10, 3), (10, .aload_n 0, 1), (11, .iload_n 1, 1), (12, .iload_n 2, 1), (13, .invokestatic 339, 3), (16, .areturn, 1), (17, .aload_n 0, 1), (18, .invokevirtual 310, 3), (21, .checkcast 311, 3), (24, .areturn, 1)] := by unfold oL; decide +kernel
theorem pd_12 : parseMethodDescriptor "([BII)[B" = some ⟨[(.array .byte), .int, .int], some (.array .byte)⟩ := by decide +kernel
theorem ef_rmCr (m : MethodId) (x0 : Addr) (x1 : Int32) (x2 : Int32) : entryFrame m #[(.ref x0), (.int x1), (.int x2)] 3 = mkF m 0 #[.val (.ref x0), .val (.int x1), .val (.int x2)] [] := by first | (simp [entryFrame, mkF, argsToLocals, Value.category]; done) | rfl
def QCr (Z : State) (tb : Addr) (kt : ClassId) (k : Nat) (cs : List Int32) (c : Nat) (h0 : Heap) (n0 : Nat) (v : Option Value) (h : Heap) (L : List Loc) : Prop := ∃ (x : Addr) (kx : ClassId), v = some (.ref x) ∧ Fr n0 L ∧ Keep h0 h [] ∧ n0 ≤ x ∧ h0.size ≤ x ∧ Arv Z h x kx .byte (Int32.ofNat k) ((cs.map StrChars.lo8).map Value.int) (.int 0)
set_option maxRecDepth 65536 in
set_option maxHeartbeats 40000000 in
theorem rmCr (l : Launch) (Z : State) (a0 : Array Value) (hw : ∀ d ∈ tables_1, d.before a0 Z = true) (ws : List Jvm.Cond) (tb : Addr) (kt : ClassId) (k : Nat) (cs : List Int32) (c : Nat) (h0 : Heap) (n0 : Nat) (Z0 : n0 ≤ h0.size) (At : Arv Z h0 tb kt .byte (Int32.ofNat c) ((cs.map StrChars.lo8).map Value.int) (.int 0)) (hk : cs.length = k) (hkc : k < c) (hkm : k ≤ 63) (hc : c < 1000) :
    own_M l (⟨"java/util/Arrays", "copyOfRange", "([BII)[B"⟩ : MethodName) jdk_65_method_132_code 3 (some (.array .byte)) ws ({ frames := 2, cells := 1, slots := 63, locals := 34 } : Room) #[(.ref tb), (.int (0 : Int32)), (.int (Int32.ofNat k))] Z h0 (QCr Z tb kt k cs c h0 n0) := by
  refine MetFree.of_bodySF (plainFor_of_name pn_4) hisR ?_
  intro p e s m args below meth cd s₁ Bd hml hP hK
  obtain ⟨rfl, hZ, hh⟩ := hP
  obtain ⟨X0, e0, H, hlk, hown, hret⟩ := own_start (R := ({ frames := 2, cells := 1, slots := 63, locals := 34 } : Room)) Bd hh rfl
  have hx := H.1; have hby := H.2; have N0 := Fr.nil n0
  show own_Fin p e below (own_Ans s (QCr Z tb kt k cs c h0 n0) ({ frames := 2, cells := 1, slots := 63, locals := 34 } : Room).cells ({ frames := 2, cells := 1, slots := 63, locals := 34 } : Room).slots) (s₁.setTop (entryFrame m #[(.ref tb), (.int (0 : Int32)), (.int (Int32.ofNat k))] 3))
  refine own_cast (ef_rmCr m tb (0 : Int32) (Int32.ofNat k)) ?_
  show own_Fin p e below _ (s₁.setTop (mkF m 0 #[.val (.ref tb), .val (.int (0 : Int32)), .val (.int (Int32.ofNat k))] []))
  refine o_ildN X0 H (od dB30 0 rfl) rfl ?_
  refine o_ifN X0 H (od dB30 1 rfl) ((if0 _ _).trans (teq (by decide : (0 : Int32) = (0 : Int32))).2) ?_
  refine o_ildN X0 H (od dB30 2 rfl) rfl ?_
  refine o_aldN X0 H (od dB30 3 rfl) rfl rfl ?_
  have cp135 := At
  obtain ⟨cl135, Ar135, q135, S135, G135, H135, F135⟩ := cp135
  refine own_on (fun tq => X0.arraylength hx (by rw [e0]; exact Ar135.1) (State.isArrayOf_alike hZ.alike Ar135.2.1) (g := (mkF m 6 #[.val (.ref tb), .val (.int (0 : Int32)), .val (.int (Int32.ofNat k))] [(.ref tb), (.int (Int32.ofNat k))])) rfl rfl (hb hby (od dB30 4 rfl)) tq) ?_
  rw [len_of S135 G135]
  show own_Fin p e below _ (s₁.setTop (mkF m 7 #[.val (.ref tb), .val (.int (0 : Int32)), .val (.int (Int32.ofNat k))] [(.int (Int32.ofNat c)), (.int (Int32.ofNat k))]))
  refine o_icN X0 H (od dB30 5 rfl) (feq (own_one (by omega) (by omega) (by omega))).1 ?_
  refine o_aldN X0 H (od dB30 6 rfl) rfl rfl ?_
  refine o_ildN X0 H (od dB30 7 rfl) rfl ?_
  refine o_ildN X0 H (od dB30 8 rfl) rfl ?_
  refine o_tc (argsL := [(.ref tb), (.int (0 : Int32)), (.int (Int32.ofNat k))]) (rest := []) X0 H hml hZ hown (ow hw 164 rfl) (ow hw 165 rfl) (ow hw 77 rfl) (ow hw 166 rfl) (backOf (W := 0) (rmCb l Z a0 hw [] tb kt k cs c h0 n0 (by exact Z0) At hk hkc hkm hc) hZ (ow hw 166 rfl) (ow hw 77 rfl) (by decide) (by decide)) (by decide) e0 pd_12 (od dB30 9 rfl) rfl rfl rfl rfl rfl (by decide) (by decide) fun _ T136 Lc136 X136 hQ136 => ?_
  obtain ⟨x136, kx136, rfl, N136q, K136, gn136, gk136, Aq136⟩ := hQ136
  have ne136_tb : tb ≠ x136 := Nat.ne_of_lt (Nat.lt_of_lt_of_le At.lt gk136)
  have N136 := Fr.app N0 N136q
  show own_Fin p e below _ (T136.setTop (mkF m 16 #[.val (.ref tb), .val (.int (0 : Int32)), .val (.int (Int32.ofNat k))] [(.ref x136)]))
  exact own_ret (t := (.array .byte)) X136 hx hlk hret rfl (Or.inr (Or.inr (Or.inr (Or.inr ⟨rfl, rfl, rfl⟩)))) (hb hby (od dB30 10 rfl)) (by show QCr Z tb kt k cs c h0 n0 _ T136.heap _; exact ⟨x136, kx136, rfl, N136, ((Keep.refl h0 []).trans K136 all0), gn136, (Nat.le_trans (Keep.refl h0 []).1 gk136), Aq136⟩) (by decide) (by decide)
theorem dB26 : oL jdk_42_method_150_code [(0, .aload_n 0, 1), (1, .invokespecial 1, 3), (4, .aload_n 1, 1), (5, .invokevirtual 552, 3), (8, .astore_n 3, 1), (9, .aload_n 1, 1), (10, .invokevirtual 549, 3), (13, .istore 4, 2), (15, .aload_n 1, 1), (16, .invokevirtual 1047, 3), (19, .ifCond .eq 22, 3), (22, .aload_n 0, 1), (23, .iconst 0, 1), (24, .putfield 15, 3), (27, .aload_n 0, 1), (28, .aload_n 3, 1), (29, .iconst 0, 1), (30, .iload 4, 2), (32, .invokestatic 54, 3), (35, .putfield 9, 3), (38, .goto 59, 3), (41, .getstatic 38, 3), (44, .ifCond .eq 35, 3), (47, .aload_n 1, 1), (48, .getfield 1048, 3), (51, .ifCond .eq 28, 3), (54, .aload_n 0, 1), (55, .aload_n 3, 1), (56, .iconst 0, 1), (57, .iload 4, 2), (59, .invokestatic 1051, 3), (62, .putfield 9, 3), (65, .aload_n 0, 1), (66, .aload_n 0, 1), (67, .getfield 9, 3), (70, .iload 4, 2), (72, .invokestatic 47, 3), (75, .putfield 15, 3), (78, .return_, 1), (79, .aload_n 0, 1), (80, .iconst 1, 1), (81, .putfield 15, 3), (84, .aload_n 0, 1), (85, .aload_n 3, 1), (86, .iconst 0, 1), (87, .iload 4, 2), (89, .iconst 1, 1), (90, .ishl, 1), (91, .invokestatic 54, 3), (94, .putfield 9, 3), (97, .return_, 1)] := by unfold oL; decide +kernel
theorem pd_13 : parseMethodDescriptor "()[B" = some ⟨[], some (.array .byte)⟩ := by decide +kernel
theorem pd_14 : parseMethodDescriptor "()Z" = some ⟨[], some .boolean⟩ := by decide +kernel
theorem ef_rmS2 (m : MethodId) (x0 : Addr) (x1 : Addr) : entryFrame m #[(.ref x0), (.ref x1), .null] 5 = mkF m 0 #[.val (.ref x0), .val (.ref x1), .val .null, .unset, .unset] [] := by first | (simp [entryFrame, mkF, argsToLocals, Value.category]; done) | rfl
def QS2 (Z : State) (a : Addr) (b : Addr) (z : Int32) (tb : Addr) (kt : ClassId) (k : Nat) (cs : List Int32) (c : Nat) (h0 : Heap) (n0 : Nat) (v : Option Value) (h : Heap) (L : List Loc) : Prop := ∃ (x : Addr) (kx : ClassId), v = none ∧ Fr n0 L ∧ Keep h0 h [a] ∧ h0.size ≤ x ∧ Exa Z h a "java/lang/String" ∧ Fld Z h a "java/lang/String" "coder" "B" (.int 0) ∧ Fld Z h a "java/lang/String" "value" "[B" (.ref x) ∧ Arv Z h x kx .byte (Int32.ofNat k) ((cs.map StrChars.lo8).map Value.int) (.int 0)
set_option maxRecDepth 65536 in
set_option maxHeartbeats 40000000 in
theorem rmS2 (l : Launch) (Z : State) (a0 : Array Value) (hw : ∀ d ∈ tables_1, d.before a0 Z = true) (ws : List Jvm.Cond) (a : Addr) (b : Addr) (z : Int32) (tb : Addr) (kt : ClassId) (k : Nat) (cs : List Int32) (c : Nat) (h0 : Heap) (n0 : Nat) (Z0 : n0 ≤ h0.size) (hz : ¬ z = (0 : Int32)) (O : Old Z n0 h0) (SC : Sta Z Z.heap "java/lang/String" "COMPACT_STRINGS" "Z" (.int z)) (Eb : Exa Z h0 b "java/lang/StringBuilder") (Fv : Fld Z h0 b "java/lang/AbstractStringBuilder" "value" "[B" (.ref tb)) (Fc : Fld Z h0 b "java/lang/AbstractStringBuilder" "count" "I" (.int (Int32.ofNat k))) (Fk : Fld Z h0 b "java/lang/AbstractStringBuilder" "coder" "B" (.int (0 : Int32))) (At : Arv Z h0 tb kt .byte (Int32.ofNat c) ((cs.map StrChars.lo8).map Value.int) (.int 0)) (gb : n0 ≤ b) (gt : n0 ≤ tb) (nbt : b ≠ tb) (hk : cs.length = k) (Ea : Exa Z h0 a "java/lang/String") (V0 : Fld Z h0 a "java/lang/String" "value" "[B" .null) (C0 : Fld Z h0 a "java/lang/String" "coder" "B" (.int (0 : Int32))) (ga : n0 ≤ a) (nab : a ≠ b) (nat : a ≠ tb) (hkc : k < c) (hkm : k ≤ 63) (hc : c < 1000) :
    own_M l (⟨"java/lang/String", "<init>", "(Ljava/lang/AbstractStringBuilder;Ljava/lang/Void;)V"⟩ : MethodName) jdk_42_method_150_code 5 none ws ({ frames := 3, cells := 1, slots := 63, locals := 49 } : Room) #[(.ref a), (.ref b), .null] Z h0 (QS2 Z a b z tb kt k cs c h0 n0) := by
  refine MetFree.of_bodySF (plainFor_of_name pn_2) hisR ?_
  intro p e s m args below meth cd s₁ Bd hml hP hK
  obtain ⟨rfl, hZ, hh⟩ := hP
  obtain ⟨X0, e0, H, hlk, hown, hret⟩ := own_start (R := ({ frames := 3, cells := 1, slots := 63, locals := 49 } : Room)) Bd hh rfl
  have hx := H.1; have hby := H.2; have N0 := Fr.nil n0
  have hnm := (name_of_methodNamed Bd.named Bd.method).1
  show own_Fin p e below (own_Ans s (QS2 Z a b z tb kt k cs c h0 n0) ({ frames := 3, cells := 1, slots := 63, locals := 49 } : Room).cells ({ frames := 3, cells := 1, slots := 63, locals := 49 } : Room).slots) (s₁.setTop (entryFrame m #[(.ref a), (.ref b), .null] 5))
  refine own_cast (ef_rmS2 m a b) ?_
  show own_Fin p e below _ (s₁.setTop (mkF m 0 #[.val (.ref a), .val (.ref b), .val .null, .unset, .unset] []))
  refine o_aldN X0 H (od dB26 0 rfl) rfl rfl ?_
  obtain ⟨T137, X137, e137, st137⟩ := initO X0 hx hZ hown (ow hw 146 rfl) (ow hw 17 rfl) (ow hw 18 rfl) e0 (g := (mkF m 1 #[.val (.ref a), .val (.ref b), .val .null, .unset, .unset] [(.ref a)])) rfl (by rw [hml]; rfl) rfl (hb hby (od dB26 1 rfl)) (by decide) (W := 0) (by show 2 * 0 + _ ≤ _; exact Nat.le_of_eq rfl) (by decide)
  refine own_on st137 ?_
  show own_Fin p e below _ (T137.setTop (mkF m 4 #[.val (.ref a), .val (.ref b), .val .null, .unset, .unset] []))
  refine o_aldN X137 H (od dB26 2 rfl) rfl rfl ?_
  refine o_vs (argsL := []) (rest := []) X137 H hml hZ hown (ow hw 147 rfl) (ow hw 148 rfl) (ow hw 150 rfl) (ow hw 149 rfl) (backOf (W := 0) (rm27 l Z a0 hw [] b tb h0 n0 (by exact Z0) Fv) hZ (ow hw 151 rfl) (ow hw 14 rfl) (by decide) (by decide)) (by decide) Eb e137 pd_13 (od dB26 3 rfl) rfl rfl rfl rfl rfl (by decide) (by decide) (o_pk (fun _ _ _ q => q) N0 fun T138 Lc138 X138 N138 e138 => ?_)
  refine o_astN X138 H (od dB26 4 rfl) (L' := #[.val (.ref a), .val (.ref b), .val .null, .val (.ref tb), .unset]) rfl rfl ?_
  refine o_aldN X138 H (od dB26 5 rfl) rfl rfl ?_
  refine o_vc (argsL := []) (rest := []) X138 H hml hZ hown (ow hw 152 rfl) (ow hw 153 rfl) (own_nf (a0 := #[]) (mvT hZ (ow hw 58 rfl)) rfl) (ow hw 155 rfl) (ow hw 156 rfl) (backOf (W := 0) (rm28 l Z a0 hw [] b (Int32.ofNat k) h0 n0 (by exact Z0) Eb Fc) hZ (ow hw 157 rfl) (ow hw 6 rfl) (by decide) (by decide)) (by decide) Eb e138 pd_1 (od dB26 6 rfl) rfl rfl rfl rfl rfl (by decide) (by decide) (o_pk (fun _ _ _ q => q) N138 fun T139 Lc139 X139 N139 e139 => ?_)
  refine o_ist X139 H (od dB26 7 rfl) (L' := #[.val (.ref a), .val (.ref b), .val .null, .val (.ref tb), .val (.int (Int32.ofNat k))]) rfl ?_
  refine o_aldN X139 H (od dB26 8 rfl) rfl rfl ?_
  refine o_vs (argsL := []) (rest := []) X139 H hml hZ hown (ow hw 160 rfl) (ow hw 125 rfl) (ow hw 127 rfl) (ow hw 126 rfl) (backOf (W := 0) (rm22 l Z a0 hw [] b z h0 n0 (by exact Z0) hz O SC Fk) hZ (ow hw 128 rfl) (ow hw 14 rfl) (by decide) (by decide)) (by decide) Eb e139 pd_14 (od dB26 9 rfl) rfl rfl rfl rfl rfl (by decide) (by decide) (o_pk (fun _ _ _ q => q) N139 fun T140 Lc140 X140 N140 e140 => ?_)
  refine o_ifN X140 H (od dB26 10 rfl) ((if0 _ _).trans (feq (by decide : ¬ ((1 : Int32) = (0 : Int32)))).1) ?_
  refine o_aldN X140 H (od dB26 11 rfl) rfl rfl ?_
  refine o_ic X140 H (od dB26 12 rfl) (v := 0) rfl ?_
  obtain ⟨T141, h141, X141, e141, W141, st141⟩ := putFN X140 hx hZ hown (ow hw 51 rfl) Via.refl e140 C0 Ea (Or.inr ⟨(ow hw 52 rfl), rfl, hnm⟩) (ow hw 104 rfl) (ty := .byte) (v' := (.int (0 : Int32))) (by decide) rfl (by decide) (g := (mkF m 24 #[.val (.ref a), .val (.ref b), .val .null, .val (.ref tb), .val (.int (Int32.ofNat k))] [(.int (0 : Int32)), (.ref a)])) rfl rfl (hb hby (od dB26 13 rfl))
  have N141 := Fr.snoc X141 N140 ga
  have y142 := (V0.other W141 (Or.inr (slot_ne (Or.inr (ow hw 44 rfl)) (Or.inr (ow hw 52 rfl)) (by decide) (t := (.array .byte)) (t' := .byte) (by decide) (by decide))))
  refine own_on st141 ?_
  show own_Fin p e below _ (T141.setTop (mkF m 27 #[.val (.ref a), .val (.ref b), .val .null, .val (.ref tb), .val (.int (Int32.ofNat k))] []))
  refine o_aldN X141 H (od dB26 14 rfl) rfl rfl ?_
  refine o_aldN X141 H (od dB26 15 rfl) rfl rfl ?_
  refine o_ic X141 H (od dB26 16 rfl) (v := 0) rfl ?_
  refine o_ild X141 H (od dB26 17 rfl) rfl ?_
  refine o_tc (argsL := [(.ref tb), (.int (0 : Int32)), (.int (Int32.ofNat k))]) (rest := [(.ref a)]) X141 H hml hZ hown (ow hw 161 rfl) (ow hw 162 rfl) (ow hw 77 rfl) (ow hw 163 rfl) (backOf (W := 1) (rmCr l Z a0 hw [] tb kt k cs c h141 n0 (by exact (Nat.le_trans Z0 (Keep.of_wr W141).1)) (At.other W141 (Ne.symm nat)) hk hkc hkm hc) hZ (ow hw 163 rfl) (ow hw 77 rfl) (by decide) (by decide)) (by decide) e141 pd_12 (od dB26 18 rfl) rfl rfl rfl rfl rfl (by decide) (by decide) fun _ T143 Lc143 X143 hQ143 => ?_
  obtain ⟨x143, kx143, rfl, N143q, K143, gn143, gk143, Aq143⟩ := hQ143
  have ne143_b : b ≠ x143 := Nat.ne_of_lt (Nat.lt_of_lt_of_le (Eb.wr W141).lt gk143)
  have ne143_tb : tb ≠ x143 := Nat.ne_of_lt (Nat.lt_of_lt_of_le (At.other W141 (Ne.symm nat)).lt gk143)
  have ne143_a : a ≠ x143 := Nat.ne_of_lt (Nat.lt_of_lt_of_le (Ea.wr W141).lt gk143)
  have N143 := Fr.app N141 N143q
  show own_Fin p e below _ (T143.setTop (mkF m 35 #[.val (.ref a), .val (.ref b), .val .null, .val (.ref tb), .val (.int (Int32.ofNat k))] [(.ref x143), (.ref a)]))
  obtain ⟨T144, h144, X144, e144, W144, st144⟩ := putF X143 hx hZ hown (host := "") (Or.inl (ow hw 43 rfl)) Via.refl rfl (y142.keep K143 nin0) ((Ea.wr W141).keep K143) (Or.inr ⟨(ow hw 44 rfl), rfl, hnm⟩) (ow hw 104 rfl) (ty := (.array .byte)) (by decide) rfl rfl (g := (mkF m 35 #[.val (.ref a), .val (.ref b), .val .null, .val (.ref tb), .val (.int (Int32.ofNat k))] [(.ref x143), (.ref a)])) rfl rfl (hb hby (od dB26 19 rfl))
  have N144 := Fr.snoc X144 N143 ga
  have y145 := ((((Keep.refl h0 [a]).wr W141 (Or.inl (List.mem_of_getElem? (i := 0) rfl))).trans K143 all0).wr W144 (Or.inl (List.mem_of_getElem? (i := 0) rfl)))
  have y146 := (((C0.same W141).keep K143 nin0).other W144 (Or.inr (slot_ne (Or.inr (ow hw 52 rfl)) (Or.inr (ow hw 44 rfl)) (by decide) (t := .byte) (t' := (.array .byte)) (by decide) (by decide))))
  refine own_on st144 ?_
  show own_Fin p e below _ (T144.setTop (mkF m 38 #[.val (.ref a), .val (.ref b), .val .null, .val (.ref tb), .val (.int (Int32.ofNat k))] []))
  refine o_go X144 H (od dB26 20 rfl) (pc' := 97) (by decide) (by decide) ?_
  exact own_retV X144 hx hlk hret (hb hby (od dB26 50 rfl)) (by show QS2 Z a b z tb kt k cs c h0 n0 _ T144.heap _; rw [e144]; exact ⟨x143, kx143, rfl, N144, y145, (Nat.le_trans ((Keep.refl h0 [a]).wr W141 (Or.inl (List.mem_of_getElem? (i := 0) rfl))).1 gk143), (((Ea.wr W141).keep K143).wr W144), y146, ((y142.keep K143 nin0).same W144), (Aq143.other W144 (Ne.symm ne143_a))⟩) (by decide) (by decide)
theorem dB25 : oL jdk_42_method_53_code [(0, .aload_n 0, 1), (1, .aload_n 1, 1), (2, .aconst_null, 1), (3, .invokespecial 489, 3), (6, .return_, 1)] := by unfold oL; decide +kernel
theorem pd_15 : parseMethodDescriptor "(Ljava/lang/AbstractStringBuilder;Ljava/lang/Void;)V" = some ⟨[(.object "java/lang/AbstractStringBuilder"), (.object "java/lang/Void")], none⟩ := by decide +kernel
theorem ef_rmS1 (m : MethodId) (x0 : Addr) (x1 : Addr) : entryFrame m #[(.ref x0), (.ref x1)] 2 = mkF m 0 #[.val (.ref x0), .val (.ref x1)] [] := by first | (simp [entryFrame, mkF, argsToLocals, Value.category]; done) | rfl
def QS1 (Z : State) (a : Addr) (b : Addr) (z : Int32) (tb : Addr) (kt : ClassId) (k : Nat) (cs : List Int32) (c : Nat) (h0 : Heap) (n0 : Nat) (v : Option Value) (h : Heap) (L : List Loc) : Prop := ∃ (x : Addr) (kx : ClassId), v = none ∧ Fr n0 L ∧ Keep h0 h [a] ∧ h0.size ≤ x ∧ Exa Z h a "java/lang/String" ∧ Fld Z h a "java/lang/String" "coder" "B" (.int 0) ∧ Fld Z h a "java/lang/String" "value" "[B" (.ref x) ∧ Arv Z h x kx .byte (Int32.ofNat k) ((cs.map StrChars.lo8).map Value.int) (.int 0)
set_option maxRecDepth 65536 in
set_option maxHeartbeats 40000000 in
theorem rmS1 (l : Launch) (Z : State) (a0 : Array Value) (hw : ∀ d ∈ tables_1, d.before a0 Z = true) (ws : List Jvm.Cond) (a : Addr) (b : Addr) (z : Int32) (tb : Addr) (kt : ClassId) (k : Nat) (cs : List Int32) (c : Nat) (h0 : Heap) (n0 : Nat) (Z0 : n0 ≤ h0.size) (hz : ¬ z = (0 : Int32)) (O : Old Z n0 h0) (SC : Sta Z Z.heap "java/lang/String" "COMPACT_STRINGS" "Z" (.int z)) (Eb : Exa Z h0 b "java/lang/StringBuilder") (Fv : Fld Z h0 b "java/lang/AbstractStringBuilder" "value" "[B" (.ref tb)) (Fc : Fld Z h0 b "java/lang/AbstractStringBuilder" "count" "I" (.int (Int32.ofNat k))) (Fk : Fld Z h0 b "java/lang/AbstractStringBuilder" "coder" "B" (.int (0 : Int32))) (At : Arv Z h0 tb kt .byte (Int32.ofNat c) ((cs.map StrChars.lo8).map Value.int) (.int 0)) (gb : n0 ≤ b) (gt : n0 ≤ tb) (nbt : b ≠ tb) (hk : cs.length = k) (Ea : Exa Z h0 a "java/lang/String") (V0 : Fld Z h0 a "java/lang/String" "value" "[B" .null) (C0 : Fld Z h0 a "java/lang/String" "coder" "B" (.int (0 : Int32))) (ga : n0 ≤ a) (nab : a ≠ b) (nat : a ≠ tb) (hkc : k < c) (hkm : k ≤ 63) (hc : c < 1000) :
    own_M l (⟨"java/lang/String", "<init>", "(Ljava/lang/StringBuilder;)V"⟩ : MethodName) jdk_42_method_53_code 2 none ws ({ frames := 4, cells := 1, slots := 63, locals := 65 } : Room) #[(.ref a), (.ref b)] Z h0 (QS1 Z a b z tb kt k cs c h0 n0) := by
  refine MetFree.of_bodySF (plainFor_of_name pn_2) hisR ?_
  intro p e s m args below meth cd s₁ Bd hml hP hK
  obtain ⟨rfl, hZ, hh⟩ := hP
  obtain ⟨X0, e0, H, hlk, hown, hret⟩ := own_start (R := ({ frames := 4, cells := 1, slots := 63, locals := 65 } : Room)) Bd hh rfl
  have hx := H.1; have hby := H.2; have N0 := Fr.nil n0
  show own_Fin p e below (own_Ans s (QS1 Z a b z tb kt k cs c h0 n0) ({ frames := 4, cells := 1, slots := 63, locals := 65 } : Room).cells ({ frames := 4, cells := 1, slots := 63, locals := 65 } : Room).slots) (s₁.setTop (entryFrame m #[(.ref a), (.ref b)] 2))
  refine own_cast (ef_rmS1 m a b) ?_
  show own_Fin p e below _ (s₁.setTop (mkF m 0 #[.val (.ref a), .val (.ref b)] []))
  refine o_aldN X0 H (od dB25 0 rfl) rfl rfl ?_
  refine o_aldN X0 H (od dB25 1 rfl) rfl rfl ?_
  refine o_nul X0 H (od dB25 2 rfl) ?_
  refine o_sc (b := a) (argsL := [(.ref b), .null]) (rest := []) X0 H hml hZ hown (ow hw 143 rfl) (ow hw 144 rfl) (ow hw 145 rfl) (backOf (W := 0) (rmS2 l Z a0 hw [] a b z tb kt k cs c h0 n0 (by exact Z0) hz O SC Eb Fv Fc Fk At gb gt nbt hk Ea V0 C0 ga nab nat hkc hkm hc) hZ (ow hw 145 rfl) (ow hw 20 rfl) (by decide) (by decide)) rfl (by decide) e0 pd_15 (od dB25 3 rfl) rfl rfl rfl rfl rfl (by decide) (by decide) fun _ T147 Lc147 X147 hQ147 => ?_
  obtain ⟨x147, kx147, rfl, N147q, K147, gx147, Eq147, Cq147, Vq147, Aq147⟩ := hQ147
  have N147 := Fr.app N0 N147q
  show own_Fin p e below _ (T147.setTop (mkF m 6 #[.val (.ref a), .val (.ref b)] []))
  exact own_retV X147 hx hlk hret (hb hby (od dB25 4 rfl)) (by show QS1 Z a b z tb kt k cs c h0 n0 _ T147.heap _; exact ⟨x147, kx147, rfl, N147, ((Keep.refl h0 [a]).trans K147 (allS (Or.inl (List.mem_of_getElem? (i := 0) rfl)) all0)), (Nat.le_trans (Keep.refl h0 [a]).1 gx147), Eq147, Cq147, Vq147, Aq147⟩) (by decide) (by decide)
theorem dB24 : oL jdk_67_method_42_code [(0, .new 18, 3), (3, .dup, 1), (4, .aload_n 0, 1), (5, .invokespecial 137, 3), (8, .areturn, 1)] := by unfold oL; decide +kernel
theorem pd_16 : parseMethodDescriptor "(Ljava/lang/StringBuilder;)V" = some ⟨[(.object "java/lang/StringBuilder")], none⟩ := by decide +kernel
theorem ef_rmTs (m : MethodId) (x0 : Addr) : entryFrame m #[(.ref x0)] 1 = mkF m 0 #[.val (.ref x0)] [] := by first | (simp [entryFrame, mkF, argsToLocals, Value.category]; done) | rfl
def QTs (Z : State) (b : Addr) (z : Int32) (tb : Addr) (kt : ClassId) (k : Nat) (cs : List Int32) (c : Nat) (h0 : Heap) (n0 : Nat) (v : Option Value) (h : Heap) (L : List Loc) : Prop := ∃ (y x : Addr) (kx : ClassId), v = some (.ref y) ∧ Fr n0 L ∧ Keep h0 h [] ∧ h0.size ≤ y ∧ h0.size ≤ x ∧ Exa Z h y "java/lang/String" ∧ Fld Z h y "java/lang/String" "coder" "B" (.int 0) ∧ Fld Z h y "java/lang/String" "value" "[B" (.ref x) ∧ Arv Z h x kx .byte (Int32.ofNat k) ((cs.map StrChars.lo8).map Value.int) (.int 0)
set_option maxRecDepth 65536 in
set_option maxHeartbeats 40000000 in
theorem rmTs (l : Launch) (Z : State) (a0 : Array Value) (hw : ∀ d ∈ tables_1, d.before a0 Z = true) (ws : List Jvm.Cond) (b : Addr) (z : Int32) (tb : Addr) (kt : ClassId) (k : Nat) (cs : List Int32) (c : Nat) (h0 : Heap) (n0 : Nat) (Z0 : n0 ≤ h0.size) (hz : ¬ z = (0 : Int32)) (O : Old Z n0 h0) (SC : Sta Z Z.heap "java/lang/String" "COMPACT_STRINGS" "Z" (.int z)) (Eb : Exa Z h0 b "java/lang/StringBuilder") (Fv : Fld Z h0 b "java/lang/AbstractStringBuilder" "value" "[B" (.ref tb)) (Fc : Fld Z h0 b "java/lang/AbstractStringBuilder" "count" "I" (.int (Int32.ofNat k))) (Fk : Fld Z h0 b "java/lang/AbstractStringBuilder" "coder" "B" (.int (0 : Int32))) (At : Arv Z h0 tb kt .byte (Int32.ofNat c) ((cs.map StrChars.lo8).map Value.int) (.int 0)) (gb : n0 ≤ b) (gt : n0 ≤ tb) (nbt : b ≠ tb) (hk : cs.length = k) (hkc : k < c) (hkm : k ≤ 63) (hc : c < 1000) :
    own_M l (⟨"java/lang/StringBuilder", "toString", "()Ljava/lang/String;"⟩ : MethodName) jdk_67_method_42_code 1 (some (.object "java/lang/String")) ws ({ frames := 5, cells := 2, slots := 67, locals := 79 } : Room) #[(.ref b)] Z h0 (QTs Z b z tb kt k cs c h0 n0) := by
  refine MetFree.of_bodySF (plainFor_of_name pn_1) hisR ?_
  intro p e s m args below meth cd s₁ Bd hml hP hK
  obtain ⟨rfl, hZ, hh⟩ := hP
  obtain ⟨X0, e0, H, hlk, hown, hret⟩ := own_start (R := ({ frames := 5, cells := 2, slots := 67, locals := 79 } : Room)) Bd hh rfl
  have hx := H.1; have hby := H.2; have N0 := Fr.nil n0
  show own_Fin p e below (own_Ans s (QTs Z b z tb kt k cs c h0 n0) ({ frames := 5, cells := 2, slots := 67, locals := 79 } : Room).cells ({ frames := 5, cells := 2, slots := 67, locals := 79 } : Room).slots) (s₁.setTop (entryFrame m #[(.ref b)] 1))
  refine own_cast (ef_rmTs m b) ?_
  show own_Fin p e below _ (s₁.setTop (mkF m 0 #[.val (.ref b)] []))
  obtain ⟨T148, h148, X148, e148, E148, A148, D148, -, st148⟩ := newO X0 hx hZ hown (ow hw 138 rfl) (ow hw 104 rfl) (ow hw 20 rfl) e0 (g := (mkF m 0 #[.val (.ref b)] [])) rfl (hb hby (od dB24 0 rfl)) (by decide) (by decide)
  obtain ⟨b148, g148⟩ : ∃ z, z = h0.size := ⟨_, rfl⟩
  rw [← g148] at A148 D148 st148
  have ne148_b : b ≠ b148 := own_ne_of (Z := Z) Eb.lt g148
  have ne148_tb : tb ≠ b148 := own_ne_of (Z := Z) At.lt g148
  have gn148 : n0 ≤ b148 := Nat.le_trans Z0 (Nat.le_of_eq g148.symm)
  have gk148 : h0.size ≤ b148 := Nat.le_trans (Keep.refl h0 []).1 (Nat.le_of_eq g148.symm)
  have F148_value : Fld Z h148 b148 "java/lang/String" "value" "[B" .null := D148 (Or.inr (ow hw 44 rfl)) (ty := (.array .byte)) (by decide)
  have F148_coder : Fld Z h148 b148 "java/lang/String" "coder" "B" (.int (0 : Int32)) := D148 (Or.inr (ow hw 52 rfl)) (ty := .byte) (by decide)
  refine own_on st148 ?_
  show own_Fin p e below _ (T148.setTop (mkF m 3 #[.val (.ref b)] [(.ref b148)]))
  refine o_dup X148 H (od dB24 1 rfl) rfl ?_
  refine o_aldN X148 H (od dB24 2 rfl) rfl rfl ?_
  refine o_sc (b := b148) (argsL := [(.ref b)]) (rest := [(.ref b148)]) X148 H hml hZ hown (ow hw 139 rfl) (ow hw 140 rfl) (ow hw 142 rfl) (backOf (W := 1) (rmS1 l Z a0 hw [] b148 b z tb kt k cs c h148 n0 (by exact (Nat.le_trans Z0 E148.1)) hz (O.ext E148) SC (Eb.ext E148) (Fv.ext E148) (Fc.ext E148) (Fk.ext E148) (At.ext E148) gb gt nbt hk A148 F148_value F148_coder gn148 (Ne.symm ne148_b) (Ne.symm ne148_tb) hkc hkm hc) hZ (ow hw 142 rfl) (ow hw 20 rfl) (by decide) (by decide)) rfl (by decide) e148 pd_16 (od dB24 3 rfl) rfl rfl rfl rfl rfl (by decide) (by decide) fun _ T149 Lc149 X149 hQ149 => ?_
  obtain ⟨x149, kx149, rfl, N149q, K149, gx149, Eq149, Cq149, Vq149, Aq149⟩ := hQ149
  have N149 := Fr.app N0 N149q
  show own_Fin p e below _ (T149.setTop (mkF m 8 #[.val (.ref b)] [(.ref b148)]))
  exact own_ret (t := (.object "java/lang/String")) X149 hx hlk hret rfl (Or.inr (Or.inr (Or.inr (Or.inr ⟨rfl, rfl, rfl⟩)))) (hb hby (od dB24 4 rfl)) (by show QTs Z b z tb kt k cs c h0 n0 _ T149.heap _; exact ⟨b148, x149, kx149, rfl, N149, (((Keep.refl h0 []).ext E148).trans K149 (allS (Or.inr gk148) all0)), gk148, (Nat.le_trans ((Keep.refl h0 []).ext E148).1 gx149), Eq149, Cq149, Vq149, Aq149⟩) (by decide) (by decide)
theorem dB20 : oL jdk_68_method_32_code [(0, .aload_n 0, 1), (1, .getfield 79, 3), (4, .istore_n 2, 1), (5, .iload_n 2, 1), (6, .iload_n 1, 1), (7, .invokestatic 245, 3), (10, .iadd, 1), (11, .istore_n 3, 1), (12, .aload_n 0, 1), (13, .iload_n 3, 1), (14, .invokevirtual 100, 3), (17, .aload_n 0, 1), (18, .invokevirtual 83, 3), (21, .ifCond .eq 16, 3), (24, .iload_n 1, 1), (25, .iload_n 3, 1), (26, .aload_n 0, 1), (27, .getfield 15, 3), (30, .invokestatic 248, 3), (33, .pop, 1), (34, .goto 14, 3), (37, .iload_n 1, 1), (38, .iload_n 2, 1), (39, .iload_n 3, 1), (40, .aload_n 0, 1), (41, .getfield 15, 3), (44, .invokestatic 251, 3), (47, .pop, 1), (48, .aload_n 0, 1), (49, .iload_n 3, 1), (50, .putfield 79, 3), (53, .aload_n 0, 1), (54, .areturn, 1)] := by unfold oL; decide +kernel
theorem pd_17 : parseMethodDescriptor "(II[B)I" = some ⟨[.int, .int, (.array .byte)], some .int⟩ := by decide +kernel
theorem ef_rmIa (m : MethodId) (x0 : Addr) (x1 : Int32) : entryFrame m #[(.ref x0), (.int x1)] 4 = mkF m 0 #[.val (.ref x0), .val (.int x1), .unset, .unset] [] := by first | (simp [entryFrame, mkF, argsToLocals, Value.category]; done) | rfl
def QIa (Z : State) (b : Addr) (x : Int32) (z : Int32) (tb : Addr) (kt : ClassId) (k : Nat) (cs : List Int32) (n : Nat) (st : Addr) (d1 : Addr) (D1 : Cell) (d2 : Addr) (D2 : Cell) (h0 : Heap) (n0 : Nat) (v : Option Value) (h : Heap) (L : List Loc) : Prop := v = some (.ref b) ∧ Fr n0 L ∧ Keep h0 h [b, tb] ∧ Exa Z h b "java/lang/StringBuilder" ∧ Fld Z h b "java/lang/AbstractStringBuilder" "value" "[B" (.ref tb) ∧ Fld Z h b "java/lang/AbstractStringBuilder" "count" "I" (.int (Int32.ofNat (k + (Jvm.Free.SBG.digits n + Jvm.Free.SBG.GetChars.sgn x)))) ∧ Fld Z h b "java/lang/AbstractStringBuilder" "coder" "B" (.int (0 : Int32)) ∧ Arv Z h tb kt .byte (16 : Int32) (((cs ++ own_dg x n).map StrChars.lo8).map Value.int) (.int 0)
set_option maxRecDepth 65536 in
set_option maxHeartbeats 40000000 in
theorem rmIa (l : Launch) (Z : State) (a0 : Array Value) (hw : ∀ d ∈ tables_1, d.before a0 Z = true) (ws : List Jvm.Cond) (b : Addr) (x : Int32) (z : Int32) (tb : Addr) (kt : ClassId) (k : Nat) (cs : List Int32) (n : Nat) (st : Addr) (d1 : Addr) (D1 : Cell) (d2 : Addr) (D2 : Cell) (h0 : Heap) (n0 : Nat) (Z0 : n0 ≤ h0.size) (hz : ¬ z = (0 : Int32)) (O : Old Z n0 h0) (SC : Sta Z Z.heap "java/lang/String" "COMPACT_STRINGS" "Z" (.int z)) (Eb : Exa Z h0 b "java/lang/StringBuilder") (Fv : Fld Z h0 b "java/lang/AbstractStringBuilder" "value" "[B" (.ref tb)) (Fc : Fld Z h0 b "java/lang/AbstractStringBuilder" "count" "I" (.int (Int32.ofNat k))) (Fk : Fld Z h0 b "java/lang/AbstractStringBuilder" "coder" "B" (.int (0 : Int32))) (At : Arv Z h0 tb kt .byte (16 : Int32) ((cs.map StrChars.lo8).map Value.int) (.int 0)) (gb : n0 ≤ b) (gt : n0 ≤ tb) (nbt : b ≠ tb) (hk : cs.length = k) (T1 : Jvm.Free.SBG.Tbl Z "DigitOnes" st d1 D1) (O1 : Jvm.Free.SBG.Ones D1) (T2 : Jvm.Free.SBG.Tbl Z "DigitTens" st d2 D2) (O2 : Jvm.Free.SBG.Tens D2) (hn : n ≤ 2 ^ 31) (hxn : (if x < 0 then x else -x) = Jvm.Free.SBG.negI n) (hk1 : k ≤ 1) :
    own_M l (⟨"java/lang/AbstractStringBuilder", "append", "(I)Ljava/lang/AbstractStringBuilder;"⟩ : MethodName) jdk_68_method_32_code 4 (some (.object "java/lang/AbstractStringBuilder")) ws ({ frames := 2, cells := 0, slots := 0, locals := 78 } : Room) #[(.ref b), (.int x)] Z h0 (QIa Z b x z tb kt k cs n st d1 D1 d2 D2 h0 n0) := by
  refine MetFree.of_bodySF (plainFor_of_name pn_0) hisR ?_
  intro p e s m args below meth cd s₁ Bd hml hP hK
  obtain ⟨rfl, hZ, hh⟩ := hP
  obtain ⟨X0, e0, H, hlk, hown, hret⟩ := own_start (R := ({ frames := 2, cells := 0, slots := 0, locals := 78 } : Room)) Bd hh rfl
  have hx := H.1; have hby := H.2; have N0 := Fr.nil n0
  have hdp := Jvm.Free.SBG.digits_pos n
  have hsg := (own_sg x).2.2
  show own_Fin p e below (own_Ans s (QIa Z b x z tb kt k cs n st d1 D1 d2 D2 h0 n0) ({ frames := 2, cells := 0, slots := 0, locals := 78 } : Room).cells ({ frames := 2, cells := 0, slots := 0, locals := 78 } : Room).slots) (s₁.setTop (entryFrame m #[(.ref b), (.int x)] 4))
  refine own_cast (ef_rmIa m b x) ?_
  show own_Fin p e below _ (s₁.setTop (mkF m 0 #[.val (.ref b), .val (.int x), .unset, .unset] []))
  refine o_aldN X0 H (od dB20 0 rfl) rfl rfl ?_
  refine o_gf X0 H hZ hown (ow hw 53 rfl) Via.refl e0 Fc (od dB20 1 rfl) fun T150 X150 e150 => ?_
  refine o_istN X150 H (od dB20 2 rfl) (L' := #[.val (.ref b), .val (.int x), .val (.int (Int32.ofNat k)), .unset]) rfl ?_
  refine o_ildN X150 H (od dB20 3 rfl) rfl ?_
  refine o_ildN X150 H (od dB20 4 rfl) rfl ?_
  obtain ⟨_, _, ⟨T151, L151, k151, n151⟩, -, X151, ⟨Lc151, hQ151, l151, y151, z151⟩, st151⟩ := Jvm.LawKit.callS X150 hx (y := (⟨"java/lang/Integer", "stringSize", "(I)I"⟩ : MethodName)) hown (mvT hZ (ow hw 120 rfl)) (mvT hZ (ow hw 121 rfl)) (mvT hZ (ow hw 122 rfl)) (mvT hZ (ow hw 123 rfl)) (by decide) (own_backSS (n0 := n0) (W := 1) hZ (ow hw 123 rfl) (ow hw 122 rfl) (by decide) (by decide)) (g := (mkF m 7 #[.val (.ref b), .val (.int x), .val (.int (Int32.ofNat k)), .unset] [(.int x), (.int (Int32.ofNat k))])) rfl hml.symm (argsL := [(.int x)]) (rest := [(.int (Int32.ofNat k))]) (lenOf pd_7 rfl) rfl (o_mr rfl) (hb hby (od dB20 5 rfl)) (fun _ _ => ⟨rfl, e150, (by decide : 0 + 0 ≤ _), (by decide : 0 + 0 ≤ _)⟩)
  dsimp only [Pt.U, Pt.locs, Pt.cells, Pt.slots] at X151 l151 y151 z151 st151 hQ151
  replace l151 := l151.symm; replace y151 := y151.symm; replace z151 := z151.symm; subst l151 y151 z151
  obtain ⟨rfl, N151q, e151⟩ := hQ151
  have N151 := Fr.app N0 N151q
  rw [Jvm.Free.SBG.strSizeOf_eq hn hxn] at st151
  refine own_on st151 ?_
  show own_Fin p e below _ (T151.setTop (mkF m 10 #[.val (.ref b), .val (.int x), .val (.int (Int32.ofNat k)), .unset] [(.int (Int32.ofNat (Jvm.Free.SBG.digits n + Jvm.Free.SBG.GetChars.sgn x))), (.int (Int32.ofNat k))]))
  refine o_iadd X151 H (od dB20 6 rfl) ?_
  rw [own_add]
  show own_Fin p e below _ (T151.setTop (mkF m 11 #[.val (.ref b), .val (.int x), .val (.int (Int32.ofNat k)), .unset] [(.int (Int32.ofNat (k + (Jvm.Free.SBG.digits n + Jvm.Free.SBG.GetChars.sgn x))))]))
  refine o_istN X151 H (od dB20 7 rfl) (L' := #[.val (.ref b), .val (.int x), .val (.int (Int32.ofNat k)), .val (.int (Int32.ofNat (k + (Jvm.Free.SBG.digits n + Jvm.Free.SBG.GetChars.sgn x))))]) rfl ?_
  refine o_aldN X151 H (od dB20 8 rfl) rfl rfl ?_
  refine o_ildN X151 H (od dB20 9 rfl) rfl ?_
  refine o_pc (argsL := [(.int (Int32.ofNat (k + (Jvm.Free.SBG.digits n + Jvm.Free.SBG.GetChars.sgn x))))]) (rest := []) X151 H hml hZ hown (ow hw 55 rfl) (ow hw 56 rfl) (own_selfsel (mvT hZ (ow hw 58 rfl)) (Cond.privateMethod_at (mvP hZ (ow hw 57 rfl) (args := #[]))) (mvT hZ (ow hw 56 rfl)) (by decide)) (ow hw 57 rfl) (ow hw 59 rfl) (backOf (W := 0) (rmEn16 l Z a0 hw [] b tb kt _ (k + (Jvm.Free.SBG.digits n + Jvm.Free.SBG.GetChars.sgn x)) h0 n0 (by exact Z0) Fv Fk At (by omega)) hZ (ow hw 59 rfl) (ow hw 14 rfl) (by decide) (by decide)) (by decide) Eb e151 pd_0 (od dB20 10 rfl) rfl rfl rfl rfl rfl (by decide) (by decide) (o_pv (fun _ _ _ q => q) N151 fun T152 Lc152 X152 N152 e152 => ?_)
  refine o_aldN X152 H (od dB20 11 rfl) rfl rfl ?_
  refine o_vs (argsL := []) (rest := []) X152 H hml hZ hown (ow hw 124 rfl) (ow hw 125 rfl) (ow hw 127 rfl) (ow hw 126 rfl) (backOf (W := 0) (rm22 l Z a0 hw [] b z h0 n0 (by exact Z0) hz O SC Fk) hZ (ow hw 128 rfl) (ow hw 14 rfl) (by decide) (by decide)) (by decide) Eb e152 pd_14 (od dB20 12 rfl) rfl rfl rfl rfl rfl (by decide) (by decide) (o_pk (fun _ _ _ q => q) N152 fun T153 Lc153 X153 N153 e153 => ?_)
  refine o_ifN X153 H (od dB20 13 rfl) ((if0 _ _).trans (feq (by decide : ¬ ((1 : Int32) = (0 : Int32)))).1) ?_
  refine o_ildN X153 H (od dB20 14 rfl) rfl ?_
  refine o_ildN X153 H (od dB20 15 rfl) rfl ?_
  refine o_aldN X153 H (od dB20 16 rfl) rfl rfl ?_
  refine o_gf X153 H hZ hown (ow hw 22 rfl) Via.refl e153 Fv (od dB20 17 rfl) fun T154 X154 e154 => ?_
  obtain ⟨_, _, ⟨T155, L155, k155, n155⟩, -, X155, ⟨Lc155, hQ155, l155, y155, z155⟩, st155⟩ := Jvm.LawKit.callS X154 hx (y := (⟨"java/lang/Integer", "getChars", "(II[B)I"⟩ : MethodName)) hown (mvT hZ (ow hw 129 rfl)) (mvT hZ (ow hw 130 rfl)) (mvT hZ (ow hw 122 rfl)) (mvT hZ (ow hw 131 rfl)) (by decide) (own_backGC (n0 := n0) (W := 0) (c := 16) hZ (ow hw 131 rfl) (ow hw 132 rfl) (ow hw 216 rfl) (ow hw 122 rfl) O gt At hk (by omega) (by decide) hn hxn T1 O1 T2 O2 (by decide) (by decide)) (g := (mkF m 30 #[.val (.ref b), .val (.int x), .val (.int (Int32.ofNat k)), .val (.int (Int32.ofNat (k + (Jvm.Free.SBG.digits n + Jvm.Free.SBG.GetChars.sgn x))))] [(.ref tb), (.int (Int32.ofNat (k + (Jvm.Free.SBG.digits n + Jvm.Free.SBG.GetChars.sgn x)))), (.int x)])) rfl hml.symm (argsL := [(.int x), (.int (Int32.ofNat (k + (Jvm.Free.SBG.digits n + Jvm.Free.SBG.GetChars.sgn x)))), (.ref tb)]) (rest := []) (lenOf pd_17 rfl) rfl (o_mr rfl) (hb hby (od dB20 18 rfl)) (fun _ _ => ⟨rfl, e154, (by decide : 0 + 0 ≤ _), (by decide : 0 + 0 ≤ _)⟩)
  dsimp only [Pt.U, Pt.locs, Pt.cells, Pt.slots] at X155 l155 y155 z155 st155 hQ155
  replace l155 := l155.symm; replace y155 := y155.symm; replace z155 := z155.symm; subst l155 y155 z155
  obtain ⟨rfl, N155q, K155, Aq155⟩ := hQ155
  have N155 := Fr.app N153 N155q
  refine own_on st155 ?_
  show own_Fin p e below _ (T155.setTop (mkF m 33 #[.val (.ref b), .val (.int x), .val (.int (Int32.ofNat k)), .val (.int (Int32.ofNat (k + (Jvm.Free.SBG.digits n + Jvm.Free.SBG.GetChars.sgn x))))] [(.int (Int32.ofNat k))]))
  refine o_pop X155 H (od dB20 19 rfl) rfl ?_
  refine o_go X155 H (od dB20 20 rfl) (pc' := 48) (by decide) (by decide) ?_
  refine o_aldN X155 H (od dB20 28 rfl) rfl rfl ?_
  refine o_ildN X155 H (od dB20 29 rfl) rfl ?_
  obtain ⟨T156, h156, X156, e156, W156, st156⟩ := putF X155 hx hZ hown (host := "") (Or.inl (ow hw 53 rfl)) Via.refl rfl (Fc.keep K155 (ninS nbt nin0)) (Eb.keep K155) (Or.inl (ow hw 54 rfl)) (ow hw 5 rfl) (ty := .int) (by decide) rfl rfl (g := (mkF m 50 #[.val (.ref b), .val (.int x), .val (.int (Int32.ofNat k)), .val (.int (Int32.ofNat (k + (Jvm.Free.SBG.digits n + Jvm.Free.SBG.GetChars.sgn x))))] [(.int (Int32.ofNat (k + (Jvm.Free.SBG.digits n + Jvm.Free.SBG.GetChars.sgn x)))), (.ref b)])) rfl rfl (hb hby (od dB20 30 rfl))
  have N156 := Fr.snoc X156 N155 gb
  have y157 := (((Keep.refl h0 [b, tb]).trans K155 (allS (Or.inl (List.mem_of_getElem? (i := 1) rfl)) all0)).wr W156 (Or.inl (List.mem_of_getElem? (i := 0) rfl)))
  have y158 := ((Fv.keep K155 (ninS nbt nin0)).other W156 (Or.inr (slot_ne (Or.inl (ow hw 23 rfl)) (Or.inl (ow hw 54 rfl)) (by decide) (t := (.array .byte)) (t' := .int) (by decide) (by decide))))
  have y159 := ((Fk.keep K155 (ninS nbt nin0)).other W156 (Or.inr (slot_ne (Or.inl (ow hw 25 rfl)) (Or.inl (ow hw 54 rfl)) (by decide) (t := .byte) (t' := .int) (by decide) (by decide))))
  refine own_on st156 ?_
  show own_Fin p e below _ (T156.setTop (mkF m 53 #[.val (.ref b), .val (.int x), .val (.int (Int32.ofNat k)), .val (.int (Int32.ofNat (k + (Jvm.Free.SBG.digits n + Jvm.Free.SBG.GetChars.sgn x))))] []))
  refine o_aldN X156 H (od dB20 31 rfl) rfl rfl ?_
  exact own_ret (t := (.object "java/lang/AbstractStringBuilder")) X156 hx hlk hret rfl (Or.inr (Or.inr (Or.inr (Or.inr ⟨rfl, rfl, rfl⟩)))) (hb hby (od dB20 32 rfl)) (by show QIa Z b x z tb kt k cs n st d1 D1 d2 D2 h0 n0 _ T156.heap _; rw [e156]; exact ⟨rfl, N156, y157, ((Eb.keep K155).wr W156), y158, ((Fc.keep K155 (ninS nbt nin0)).same W156), y159, (Aq155.other W156 (Ne.symm nbt))⟩) (by decide) (by decide)
theorem dB19 : oL jdk_67_method_15_code [(0, .aload_n 0, 1), (1, .iload_n 1, 1), (2, .invokespecial 53, 3), (5, .pop, 1), (6, .aload_n 0, 1), (7, .areturn, 1)] := by unfold oL; decide +kernel
theorem pd_18 : parseMethodDescriptor "(I)Ljava/lang/AbstractStringBuilder;" = some ⟨[.int], some (.object "java/lang/AbstractStringBuilder")⟩ := by decide +kernel
theorem ef_rmIb (m : MethodId) (x0 : Addr) (x1 : Int32) : entryFrame m #[(.ref x0), (.int x1)] 2 = mkF m 0 #[.val (.ref x0), .val (.int x1)] [] := by first | (simp [entryFrame, mkF, argsToLocals, Value.category]; done) | rfl
def QIb (Z : State) (b : Addr) (x : Int32) (z : Int32) (tb : Addr) (kt : ClassId) (k : Nat) (cs : List Int32) (n : Nat) (st : Addr) (d1 : Addr) (D1 : Cell) (d2 : Addr) (D2 : Cell) (h0 : Heap) (n0 : Nat) (v : Option Value) (h : Heap) (L : List Loc) : Prop := v = some (.ref b) ∧ Fr n0 L ∧ Keep h0 h [b, tb] ∧ Exa Z h b "java/lang/StringBuilder" ∧ Fld Z h b "java/lang/AbstractStringBuilder" "value" "[B" (.ref tb) ∧ Fld Z h b "java/lang/AbstractStringBuilder" "count" "I" (.int (Int32.ofNat (k + (Jvm.Free.SBG.digits n + Jvm.Free.SBG.GetChars.sgn x)))) ∧ Fld Z h b "java/lang/AbstractStringBuilder" "coder" "B" (.int (0 : Int32)) ∧ Arv Z h tb kt .byte (16 : Int32) (((cs ++ own_dg x n).map StrChars.lo8).map Value.int) (.int 0)
set_option maxRecDepth 65536 in
set_option maxHeartbeats 40000000 in
theorem rmIb (l : Launch) (Z : State) (a0 : Array Value) (hw : ∀ d ∈ tables_1, d.before a0 Z = true) (ws : List Jvm.Cond) (b : Addr) (x : Int32) (z : Int32) (tb : Addr) (kt : ClassId) (k : Nat) (cs : List Int32) (n : Nat) (st : Addr) (d1 : Addr) (D1 : Cell) (d2 : Addr) (D2 : Cell) (h0 : Heap) (n0 : Nat) (Z0 : n0 ≤ h0.size) (hz : ¬ z = (0 : Int32)) (O : Old Z n0 h0) (SC : Sta Z Z.heap "java/lang/String" "COMPACT_STRINGS" "Z" (.int z)) (Eb : Exa Z h0 b "java/lang/StringBuilder") (Fv : Fld Z h0 b "java/lang/AbstractStringBuilder" "value" "[B" (.ref tb)) (Fc : Fld Z h0 b "java/lang/AbstractStringBuilder" "count" "I" (.int (Int32.ofNat k))) (Fk : Fld Z h0 b "java/lang/AbstractStringBuilder" "coder" "B" (.int (0 : Int32))) (At : Arv Z h0 tb kt .byte (16 : Int32) ((cs.map StrChars.lo8).map Value.int) (.int 0)) (gb : n0 ≤ b) (gt : n0 ≤ tb) (nbt : b ≠ tb) (hk : cs.length = k) (T1 : Jvm.Free.SBG.Tbl Z "DigitOnes" st d1 D1) (O1 : Jvm.Free.SBG.Ones D1) (T2 : Jvm.Free.SBG.Tbl Z "DigitTens" st d2 D2) (O2 : Jvm.Free.SBG.Tens D2) (hn : n ≤ 2 ^ 31) (hxn : (if x < 0 then x else -x) = Jvm.Free.SBG.negI n) (hk1 : k ≤ 1) :
    own_M l (⟨"java/lang/StringBuilder", "append", "(I)Ljava/lang/StringBuilder;"⟩ : MethodName) jdk_67_method_15_code 2 (some (.object "java/lang/StringBuilder")) ws ({ frames := 3, cells := 0, slots := 0, locals := 93 } : Room) #[(.ref b), (.int x)] Z h0 (QIb Z b x z tb kt k cs n st d1 D1 d2 D2 h0 n0) := by
  refine MetFree.of_bodySF (plainFor_of_name pn_1) hisR ?_
  intro p e s m args below meth cd s₁ Bd hml hP hK
  obtain ⟨rfl, hZ, hh⟩ := hP
  obtain ⟨X0, e0, H, hlk, hown, hret⟩ := own_start (R := ({ frames := 3, cells := 0, slots := 0, locals := 93 } : Room)) Bd hh rfl
  have hx := H.1; have hby := H.2; have N0 := Fr.nil n0
  have hdp := Jvm.Free.SBG.digits_pos n
  have hsg := (own_sg x).2.2
  show own_Fin p e below (own_Ans s (QIb Z b x z tb kt k cs n st d1 D1 d2 D2 h0 n0) ({ frames := 3, cells := 0, slots := 0, locals := 93 } : Room).cells ({ frames := 3, cells := 0, slots := 0, locals := 93 } : Room).slots) (s₁.setTop (entryFrame m #[(.ref b), (.int x)] 2))
  refine own_cast (ef_rmIb m b x) ?_
  show own_Fin p e below _ (s₁.setTop (mkF m 0 #[.val (.ref b), .val (.int x)] []))
  refine o_aldN X0 H (od dB19 0 rfl) rfl rfl ?_
  refine o_ildN X0 H (od dB19 1 rfl) rfl ?_
  refine o_bk (superBack X0 hx hZ (y := (⟨"java/lang/AbstractStringBuilder", "append", "(I)Ljava/lang/AbstractStringBuilder;"⟩ : MethodName)) hown (ow hw 116 rfl) (own_same (ow hw 118 rfl) (ow hw 58 rfl) rfl (by decide)) (ow hw 117 rfl) (ow hw 35 rfl) (by decide) (backOf (W := 0) (rmIa l Z a0 hw [] b x z tb kt k cs n st d1 D1 d2 D2 h0 n0 (by exact Z0) hz O SC Eb Fv Fc Fk At gb gt nbt hk T1 O1 T2 O2 hn hxn (by omega)) hZ (ow hw 119 rfl) (ow hw 14 rfl) (by decide) (by decide)) e0 (Ins.self Eb) rfl (by exact hml.symm) (ow hw 119 rfl) (argsL := [(.int x)]) (rest := []) (lenOf pd_18 rfl) rfl (o_mr rfl) (hb hby (od dB19 2 rfl)) (fun _ _ => ⟨rfl, e0, (by decide : 0 + 0 ≤ _), (by decide : 0 + 0 ≤ _)⟩)) fun _ T160 Lc160 X160 hQ160 => ?_
  have Lq160 : (cs ++ own_dg x n).length = (k + (Jvm.Free.SBG.digits n + Jvm.Free.SBG.GetChars.sgn x)) := own_la hk (own_dgl x n)
  obtain ⟨rfl, N160q, K160, Eq160, Vq160, Cq160, Dq160, Aq160⟩ := hQ160
  have N160 := Fr.app N0 N160q
  have y161 := ((Keep.refl h0 [b, tb]).trans K160 (allS (Or.inl (List.mem_of_getElem? (i := 0) rfl)) (allS (Or.inl (List.mem_of_getElem? (i := 1) rfl)) all0)))
  show own_Fin p e below _ (T160.setTop (mkF m 5 #[.val (.ref b), .val (.int x)] [(.ref b)]))
  refine o_pop X160 H (od dB19 3 rfl) rfl ?_
  refine o_aldN X160 H (od dB19 4 rfl) rfl rfl ?_
  exact own_ret (t := (.object "java/lang/StringBuilder")) X160 hx hlk hret rfl (Or.inr (Or.inr (Or.inr (Or.inr ⟨rfl, rfl, rfl⟩)))) (hb hby (od dB19 5 rfl)) (by show QIb Z b x z tb kt k cs n st d1 D1 d2 D2 h0 n0 _ T160.heap _; exact ⟨rfl, N160, y161, Eq160, Vq160, Cq160, Dq160, Aq160⟩) (by decide) (by decide)
theorem pn_5 : plainName "com/example/tidy_injector/tidyinjector/bench/StartupGraph" = true := by first | (simp [plainName, overriddenIn]; done) | decide +kernel
theorem dB18 : oL prog_40_method_2_code [(0, .new 7, 3), (3, .dup, 1), (4, .invokespecial 9, 3), (7, .ldc 10, 2), (9, .invokevirtual 12, 3), (12, .iload_n 0, 1), (13, .invokevirtual 16, 3), (16, .invokevirtual 19, 3), (19, .areturn, 1)] := by unfold oL; decide +kernel
theorem pd_19 : parseMethodDescriptor "()V" = some ⟨[], none⟩ := by decide +kernel
theorem pd_20 : parseMethodDescriptor "(Ljava/lang/String;)Ljava/lang/StringBuilder;" = some ⟨[(.object "java/lang/String")], some (.object "java/lang/StringBuilder")⟩ := by decide +kernel
theorem pd_21 : parseMethodDescriptor "(I)Ljava/lang/StringBuilder;" = some ⟨[.int], some (.object "java/lang/StringBuilder")⟩ := by decide +kernel
theorem pd_22 : parseMethodDescriptor "()Ljava/lang/String;" = some ⟨[], some (.object "java/lang/String")⟩ := by decide +kernel
theorem ef_rm18 (m : MethodId) (x0 : Int32) : entryFrame m #[(.int x0)] 1 = mkF m 0 #[.val (.int x0)] [] := by first | (simp [entryFrame, mkF, argsToLocals, Value.category]; done) | rfl
def Q18 (Z : State) (x : Int32) (z : Int32) (n : Nat) (st : Addr) (d1 : Addr) (D1 : Cell) (d2 : Addr) (D2 : Cell) (h0 : Heap) (n0 : Nat) (v : Option Value) (h : Heap) (L : List Loc) : Prop := ∃ (y t : Addr) (kx : ClassId), v = some (.ref y) ∧ Fr n0 L ∧ Keep h0 h [] ∧ h0.size ≤ y ∧ h0.size ≤ t ∧ Exa Z h y "java/lang/String" ∧ Fld Z h y "java/lang/String" "coder" "B" (.int 0) ∧ Fld Z h y "java/lang/String" "value" "[B" (.ref t) ∧ Arv Z h t kx .byte (Int32.ofNat (1 + (Jvm.Free.SBG.digits n + Jvm.Free.SBG.GetChars.sgn x))) ((([67] ++ own_dg x n).map StrChars.lo8).map Value.int) (.int 0)
set_option maxRecDepth 65536 in
set_option maxHeartbeats 40000000 in
theorem rm18 (l : Launch) (Z : State) (a0 : Array Value) (hw : ∀ d ∈ tables_1, d.before a0 Z = true) (ws : List Jvm.Cond) (x : Int32) (z : Int32) (n : Nat) (st : Addr) (d1 : Addr) (D1 : Cell) (d2 : Addr) (D2 : Cell) (h0 : Heap) (n0 : Nat) (Z0 : n0 ≤ h0.size) (hEL : EW Z a0 own_EL) (hz : ¬ z = (0 : Int32)) (O : Old Z n0 h0) (SC : Sta Z Z.heap "java/lang/String" "COMPACT_STRINGS" "Z" (.int z)) (T1 : Jvm.Free.SBG.Tbl Z "DigitOnes" st d1 D1) (O1 : Jvm.Free.SBG.Ones D1) (T2 : Jvm.Free.SBG.Tbl Z "DigitTens" st d2 D2) (O2 : Jvm.Free.SBG.Tens D2) (hn : n ≤ 2 ^ 31) (hxn : (if x < 0 then x else -x) = Jvm.Free.SBG.negI n) :
    MetFree l (⟨"com/example/tidy_injector/tidyinjector/bench/StartupGraph", "simpleName", "(I)Ljava/lang/String;"⟩ : MethodName) (head1 (Jvm.Cond.code (⟨"com/example/tidy_injector/tidyinjector/bench/StartupGraph", "simpleName", "(I)Ljava/lang/String;"⟩ : MethodName) prog_40_method_2_code 1 (some (.object "java/lang/String")) :: ws) ({ frames := 6, cells := 6, slots := 95, locals := 106 } : Room)) (fun as_ U => as_ = #[(.int x)] ∧ Z.Warmed39 U.vm ∧ U.heap = h0 ∧ CHv Z own_EL U.vm h0) (fun _ _ _ _ _ => True) (fun _ U out_ U' => ∃ v L, out_ = .returned v ∧ Q18 Z x z n st d1 D1 d2 D2 h0 n0 v U'.heap L ∧ CHr Z own_EL U.vm U.heap U'.vm U'.heap ∧ ReturnedEndW U out_ U' L ({ frames := 6, cells := 6, slots := 95, locals := 106 } : Room).cells ({ frames := 6, cells := 6, slots := 95, locals := 106 } : Room).slots) := by
  refine MetFree.of_bodySF (plainFor_of_name pn_5) hisR ?_
  intro p e s m args below meth cd s₁ Bd hml0 hP hK
  obtain ⟨rfl, hZ, hh, CH0⟩ := hP
  have hx := Bd.exec
  have hby := Bd.bytes
  have hml : cd.maxLocals = 1 := hml0
  have hlk : meth.locks = false := BodyLoose.notSynchronized Bd
  have hown : s.vm.findClass "com/example/tidy_injector/tidyinjector/bench/StartupGraph" = some m.cls := findClass_of_methodNamed Bd.named
  have hnm := (name_of_methodNamed Bd.named Bd.method).1
  have hret := Bd.returns
  have H := And.intro hx hby
  have X0 : Stand p l e ({ frames := 6, cells := 6, slots := 95, locals := 106 } : Room) (s.setVm s.vm) m #[(.int x)] below meth cd s₁ [] 0 0 := Stand.of_body Bd
  have e0 : s₁.heap = h0 := by rw [← hh, Bd.state]; rfl
  have N0 := Fr.nil n0
  have hS0 : s.Since s.vm 0 := (State.WarmedH.refl s).since 0
  have wS := own_wS hw
  have hdp := Jvm.Free.SBG.digits_pos n
  have hsg := (own_sg x).2.2
  show own_Fin p e below (own_AnsW s Z own_EL (Q18 Z x z n st d1 D1 d2 D2 h0 n0) ({ frames := 6, cells := 6, slots := 95, locals := 106 } : Room).cells ({ frames := 6, cells := 6, slots := 95, locals := 106 } : Room).slots) (s₁.setTop (entryFrame m #[(.int x)] 1))
  refine own_cast (ef_rm18 m x) ?_
  show own_Fin p e below _ (s₁.setTop (mkF m 0 #[.val (.int x)] []))
  obtain ⟨T162, h162, X162, e162, E162, A162, D162, -, st162⟩ := newO X0 hx hZ hown (ow hw 4 rfl) (ow hw 5 rfl) (ow hw 6 rfl) e0 (g := (mkF m 0 #[.val (.int x)] [])) rfl (hb hby (od dB18 0 rfl)) (by decide) (by decide)
  obtain ⟨b162, g162⟩ : ∃ z, z = h0.size := ⟨_, rfl⟩
  rw [← g162] at A162 D162 st162
  have gn162 : n0 ≤ b162 := Nat.le_trans Z0 (Nat.le_of_eq g162.symm)
  have gk162 : h0.size ≤ b162 := Nat.le_trans (Keep.refl h0 []).1 (Nat.le_of_eq g162.symm)
  have F162_value : Fld Z h162 b162 "java/lang/AbstractStringBuilder" "value" "[B" .null := D162 (Or.inl (ow hw 23 rfl)) (ty := (.array .byte)) (by decide)
  have F162_coder : Fld Z h162 b162 "java/lang/AbstractStringBuilder" "coder" "B" (.int (0 : Int32)) := D162 (Or.inl (ow hw 25 rfl)) (ty := .byte) (by decide)
  have F162_count : Fld Z h162 b162 "java/lang/AbstractStringBuilder" "count" "I" (.int (0 : Int32)) := D162 (Or.inl (ow hw 54 rfl)) (ty := .int) (by decide)
  refine own_on st162 ?_
  show own_Fin p e below _ (T162.setTop (mkF m 3 #[.val (.int x)] [(.ref b162)]))
  refine o_dup X162 H (od dB18 1 rfl) rfl ?_
  refine o_sc (b := b162) (argsL := []) (rest := [(.ref b162)]) X162 H hml hZ hown (ow hw 7 rfl) (ow hw 8 rfl) (ow hw 9 rfl) (backOf (W := 1) (rm2 l Z a0 hw [] b162 z h162 n0 (by exact (Nat.le_trans Z0 E162.1)) hz (O.ext E162) SC A162 F162_value F162_count F162_coder gn162) hZ (ow hw 9 rfl) (ow hw 6 rfl) (by decide) (by decide)) rfl (by decide) e162 pd_19 (od dB18 2 rfl) rfl rfl rfl rfl rfl (by decide) (by decide) fun _ T163 Lc163 X163 hQ163 => ?_
  obtain ⟨tb163, kt163, rfl, N163q, K163, gt163, gk163, Eq163, Vq163, Cq163, Dq163, Aq163⟩ := hQ163
  have ne163_b162 : b162 ≠ tb163 := Nat.ne_of_lt (Nat.lt_of_lt_of_le A162.lt gk163)
  have N163 := Fr.app N0 N163q
  have y164 := (CHr.trans (CHr.trans (CHr.refl CH0) (CHr.ext E162 CH0)) (CHr.keep K163 (sfS (Safe.ext E162 CH0 (Safe.new (Nat.le_of_eq g162.symm))) sf0) (CHv.ext E162 CH0)))
  have y165 := (Safe.keep K163 (sfS (Safe.ext E162 CH0 (Safe.new (Nat.le_of_eq g162.symm))) sf0) (CHv.ext E162 CH0) (Safe.ext E162 CH0 (Safe.new (Nat.le_of_eq g162.symm))))
  have Ae163 : Arv Z T163.heap tb163 kt163 .byte (16 : Int32) ((([] : List Int32).map StrChars.lo8).map Value.int) (.int 0) := Aq163.pad (fun i => (pad_rep [] (.int 0) 16 i).symm)
  have y166 := (Safe.keep K163 (sfS (Safe.ext E162 CH0 (Safe.new (Nat.le_of_eq g162.symm))) sf0) (CHv.ext E162 CH0) (Safe.new gk163))
  show own_Fin p e below _ (T163.setTop (mkF m 7 #[.val (.int x)] [(.ref b162)]))
  obtain ⟨a167, T167, h167, k167, c167, kc167, X167, e167, E167, hS167, hk167, hZ167, hown167, Ea167, Ca167, Va167, Aa167, la167, lc167, A167, Lt167, sf167, st167⟩ := ldcCH X163 hx hZ hown (ow hw 110 rfl) wS rfl hS0 (Nat.le_trans (Nat.le_trans (Nat.zero_le _) E162.1) K163.1) hEL (by decide) (CHv.keep K163 (sfS (Safe.ext E162 CH0 (Safe.new (Nat.le_of_eq g162.symm))) sf0) (CHv.ext E162 CH0)) (vs := [(.int (67 : Int32))]) (z := (1 : Int32)) ⟨by decide, rfl⟩ (by decide) rfl (g := (mkF m 7 #[.val (.int x)] [(.ref b162)])) rfl (hb hby (od dB18 3 rfl)) (n := 4) (by decide) (by decide) (by decide) (by decide)
  have ns168 := sf167 _ (CHr.safe A167 Eq163.lt y165)
  have ns169 := sf167 _ (CHr.safe A167 Ae163.lt y166)
  refine own_on st167 ?_
  show own_Fin p e below _ (T167.setTop (mkF m 9 #[.val (.int x)] [(.ref a167), (.ref b162)]))
  have KL170 : Arv Z h167 c167 kc167 .byte (1 : Int32) ((([67] : List Int32).map StrChars.lo8).map Value.int) (.int 0) := by show Arv Z h167 c167 kc167 .byte (1 : Int32) [(.int (StrChars.lo8 (67 : Int32)))] (.int 0); rw [show StrChars.lo8 (67 : Int32) = 67 from by decide]; exact Aa167
  refine o_vs (argsL := [(.ref a167)]) (rest := []) X167 H hml hZ167 hown167 (ow hw 28 rfl) (ow hw 29 rfl) (ow hw 31 rfl) (ow hw 30 rfl) (backOf (W := 0) (rmQbn16 l Z a0 hw [] b162 a167 z tb163 kt163 0 ([] : List Int32) c167 kc167 1 ([67] : List Int32) h167 n0 (by exact (Nat.le_trans (Nat.le_trans (Nat.le_trans Z0 E162.1) K163.1) E167.1)) hz (((O.ext E162).keep K163 (allS gn162 all0)).ext E167) SC (Eq163.ext E167) (Vq163.ext E167) (Cq163.ext E167) (Dq163.ext E167) (Ae163.ext E167) gn162 gt163 ne163_b162 (rfl : ([] : List Int32).length = 0) Ea167 Ca167 Va167 KL170 (rfl : ([67] : List Int32).length = 1) (Ne.symm ns169.2) (Ne.symm ns168.2) (Ne.symm ns169.1) (Ne.symm ns168.1) (by omega)) hZ167 (ow hw 32 rfl) (ow hw 6 rfl) (by decide) (by decide)) (by decide) (Eq163.ext E167) e167 pd_20 (od dB18 4 rfl) rfl rfl rfl rfl rfl (by decide) (by decide) fun _ T171 Lc171 X171 hQ171 => ?_
  have Lq171 : (([] : List Int32) ++ ([67] : List Int32)).length = (0 + 1) := own_la (rfl : ([] : List Int32).length = 0) (rfl : ([67] : List Int32).length = 1)
  obtain ⟨rfl, N171q, K171, Eq171, Vq171, Cq171, Dq171, Aq171⟩ := hQ171
  have N171 := Fr.app N163 N171q
  have y172 := (((((Keep.refl h0 []).ext E162).trans K163 (allS (Or.inr gk162) all0)).ext E167).trans K171 (allS (Or.inr gk162) (allS (Or.inr (Nat.le_trans ((Keep.refl h0 []).ext E162).1 gk163)) all0)))
  have y173 := (Safe.keep K171 (sfS (CHr.safe A167 Eq163.lt y165) (sfS (CHr.safe A167 Ae163.lt y166) sf0)) (And.left A167) (CHr.safe A167 Eq163.lt y165))
  have y174 := (Safe.keep K171 (sfS (CHr.safe A167 Eq163.lt y165) (sfS (CHr.safe A167 Ae163.lt y166) sf0)) (And.left A167) (CHr.safe A167 Ae163.lt y166))
  have y175 := (CHr.trans (CHr.trans y164 A167) (CHr.keep K171 (sfS (CHr.safe A167 Eq163.lt y165) (sfS (CHr.safe A167 Ae163.lt y166) sf0)) (And.left A167)))
  show own_Fin p e below _ (T171.setTop (mkF m 12 #[.val (.int x)] [(.ref b162)]))
  refine o_ildN X171 H (od dB18 5 rfl) rfl ?_
  refine o_vs (argsL := [(.int x)]) (rest := []) X171 H hml hZ167 hown167 (ow hw 111 rfl) (ow hw 112 rfl) (ow hw 114 rfl) (ow hw 113 rfl) (backOf (W := 0) (rmIb l Z a0 hw [] b162 x z tb163 kt163 (0 + 1) (([] : List Int32) ++ ([67] : List Int32)) n st d1 D1 d2 D2 T171.heap n0 (by exact (Nat.le_trans (Nat.le_trans (Nat.le_trans (Nat.le_trans Z0 E162.1) K163.1) E167.1) K171.1)) hz ((((O.ext E162).keep K163 (allS gn162 all0)).ext E167).keep K171 (allS gn162 (allS gt163 all0))) SC Eq171 Vq171 Cq171 Dq171 Aq171 gn162 gt163 ne163_b162 Lq171 T1 O1 T2 O2 hn hxn (by omega)) hZ167 (ow hw 115 rfl) (ow hw 6 rfl) (by decide) (by decide)) (by decide) Eq171 rfl pd_21 (od dB18 6 rfl) rfl rfl rfl rfl rfl (by decide) (by decide) fun _ T176 Lc176 X176 hQ176 => ?_
  have Lq176 : ((([] : List Int32) ++ ([67] : List Int32)) ++ own_dg x n).length = ((0 + 1) + (Jvm.Free.SBG.digits n + Jvm.Free.SBG.GetChars.sgn x)) := own_la Lq171 (own_dgl x n)
  obtain ⟨rfl, N176q, K176, Eq176, Vq176, Cq176, Dq176, Aq176⟩ := hQ176
  have N176 := Fr.app N171 N176q
  have y177 := (y172.trans K176 (allS (Or.inr gk162) (allS (Or.inr (Nat.le_trans ((Keep.refl h0 []).ext E162).1 gk163)) all0)))
  have y178 := (Nat.le_trans (Nat.le_trans (Nat.le_trans (Nat.le_trans (Nat.le_trans Z0 E162.1) K163.1) E167.1) K171.1) K176.1)
  have y179 := (((((O.ext E162).keep K163 (allS gn162 all0)).ext E167).keep K171 (allS gn162 (allS gt163 all0))).keep K176 (allS gn162 (allS gt163 all0)))
  have y180 := (Safe.keep K176 (sfS y173 (sfS y174 sf0)) (CHv.keep K171 (sfS (CHr.safe A167 Eq163.lt y165) (sfS (CHr.safe A167 Ae163.lt y166) sf0)) (And.left A167)) y173)
  have y181 := (Safe.keep K176 (sfS y173 (sfS y174 sf0)) (CHv.keep K171 (sfS (CHr.safe A167 Eq163.lt y165) (sfS (CHr.safe A167 Ae163.lt y166) sf0)) (And.left A167)) y174)
  have y182 := (CHr.trans y175 (CHr.keep K176 (sfS y173 (sfS y174 sf0)) (CHv.keep K171 (sfS (CHr.safe A167 Eq163.lt y165) (sfS (CHr.safe A167 Ae163.lt y166) sf0)) (And.left A167))))
  have y183 := (CHv.keep K176 (sfS y173 (sfS y174 sf0)) (CHv.keep K171 (sfS (CHr.safe A167 Eq163.lt y165) (sfS (CHr.safe A167 Ae163.lt y166) sf0)) (And.left A167)))
  have y184 := ((Ca167.keep K171 (ninS (Ne.symm ns168.1) (ninS (Ne.symm ns169.1) nin0))).keep K176 (ninS (Ne.symm ns168.1) (ninS (Ne.symm ns169.1) nin0)))
  have y185 := ((Va167.keep K171 (ninS (Ne.symm ns168.1) (ninS (Ne.symm ns169.1) nin0))).keep K176 (ninS (Ne.symm ns168.1) (ninS (Ne.symm ns169.1) nin0)))
  have y186 := ((KL170.keep K171 (ninS (Ne.symm ns168.2) (ninS (Ne.symm ns169.2) nin0))).keep K176 (ninS (Ne.symm ns168.2) (ninS (Ne.symm ns169.2) nin0)))
  show own_Fin p e below _ (T176.setTop (mkF m 16 #[.val (.int x)] [(.ref b162)]))
  refine o_vs (argsL := []) (rest := []) X176 H hml hZ167 hown167 (ow hw 133 rfl) (ow hw 134 rfl) (ow hw 136 rfl) (ow hw 135 rfl) (backOf (W := 0) (rmTs l Z a0 hw [] b162 z tb163 kt163 ((0 + 1) + (Jvm.Free.SBG.digits n + Jvm.Free.SBG.GetChars.sgn x)) ((([] : List Int32) ++ ([67] : List Int32)) ++ own_dg x n) 16 T176.heap n0 (by exact y178) hz y179 SC Eq176 Vq176 Cq176 Dq176 Aq176 gn162 gt163 ne163_b162 Lq176 (by omega) (by omega) (by omega)) hZ167 (ow hw 137 rfl) (ow hw 6 rfl) (by decide) (by decide)) (by decide) Eq176 rfl pd_22 (od dB18 7 rfl) rfl rfl rfl rfl rfl (by decide) (by decide) fun _ T187 Lc187 X187 hQ187 => ?_
  obtain ⟨y187s, x187, kx187, rfl, N187q, K187, gk187, gx187, Eq187, Cq187, Vq187, Aq187⟩ := hQ187
  have N187 := Fr.app N176 N187q
  show own_Fin p e below _ (T187.setTop (mkF m 19 #[.val (.int x)] [(.ref y187s)]))
  exact own_retW (t := (.object "java/lang/String")) X187 (Z := Z) (EL := own_EL) (a0 := a0) hx hlk hret rfl (Or.inr (Or.inr (Or.inr (Or.inr ⟨rfl, rfl, rfl⟩)))) (hb hby (od dB18 8 rfl)) hS167 (Nat.le_trans (Nat.le_trans (Nat.le_trans hk167 K171.1) K176.1) K187.1) hZ167 hEL (by rw [hh]; exact (CHr.trans y182 (CHr.keep K187 sf0 y183))) (by show Q18 Z x z n st d1 D1 d2 D2 h0 n0 _ T187.heap _; exact ⟨y187s, x187, kx187, rfl, N187, (y177.trans K187 all0), (Nat.le_trans y177.1 gk187), (Nat.le_trans y177.1 gx187), Eq187, Cq187, Vq187, (by have q := Aq187; rw [Nat.zero_add, List.nil_append] at q; exact q)⟩) (by decide) (by decide)
theorem dB1 : oL prog_40_method_3_code [(0, .new 7, 3), (3, .dup, 1), (4, .invokespecial 9, 3), (7, .getstatic 23, 3), (10, .invokevirtual 12, 3), (13, .ldc 29, 2), (15, .invokevirtual 12, 3), (18, .iload_n 0, 1), (19, .invokestatic 31, 3), (22, .invokevirtual 12, 3), (25, .invokevirtual 19, 3), (28, .areturn, 1)] := by unfold oL; decide +kernel
theorem pd_23 : parseMethodDescriptor "(I)Ljava/lang/String;" = some ⟨[.int], some (.object "java/lang/String")⟩ := by decide +kernel
theorem ef_rm1 (m : MethodId) (x0 : Int32) : entryFrame m #[(.int x0)] 1 = mkF m 0 #[.val (.int x0)] [] := by first | (simp [entryFrame, mkF, argsToLocals, Value.category]; done) | rfl
def Q1 (Z : State) (x : Int32) (z : Int32) (n : Nat) (st : Addr) (d1 : Addr) (D1 : Cell) (d2 : Addr) (D2 : Cell) (pk : Addr) (tp : Addr) (kp : ClassId) (h0 : Heap) (n0 : Nat) (v : Option Value) (h : Heap) (L : List Loc) : Prop := ∃ (y t : Addr) (kx : ClassId), v = some (.ref y) ∧ Fr n0 L ∧ Keep h0 h [] ∧ Exa Z h y "java/lang/String" ∧ Fld Z h y "java/lang/String" "coder" "B" (.int 0) ∧ Fld Z h y "java/lang/String" "value" "[B" (.ref t) ∧ Arv Z h t kx .byte (Int32.ofNat (52 + (Jvm.Free.SBG.digits n + Jvm.Free.SBG.GetChars.sgn x))) (((own_nm x n).map StrChars.lo8).map Value.int) (.int 0)
set_option maxRecDepth 65536 in
set_option maxHeartbeats 40000000 in
theorem rm1 (l : Launch) (Z : State) (a0 : Array Value) (hw : ∀ d ∈ tables_1, d.before a0 Z = true) (ws : List Jvm.Cond) (x : Int32) (z : Int32) (n : Nat) (st : Addr) (d1 : Addr) (D1 : Cell) (d2 : Addr) (D2 : Cell) (pk : Addr) (tp : Addr) (kp : ClassId) (h0 : Heap) (n0 : Nat) (Z0 : n0 ≤ h0.size) (hEL : EW Z a0 own_EL) (hz : ¬ z = (0 : Int32)) (O : Old Z n0 h0) (SC : Sta Z Z.heap "java/lang/String" "COMPACT_STRINGS" "Z" (.int z)) (T1 : Jvm.Free.SBG.Tbl Z "DigitOnes" st d1 D1) (O1 : Jvm.Free.SBG.Ones D1) (T2 : Jvm.Free.SBG.Tbl Z "DigitTens" st d2 D2) (O2 : Jvm.Free.SBG.Tens D2) (hn : n ≤ 2 ^ 31) (hxn : (if x < 0 then x else -x) = Jvm.Free.SBG.negI n) (SP : Sta Z Z.heap "com/example/tidy_injector/tidyinjector/bench/StartupGraph" "PACKAGE" "Ljava/lang/String;" (.ref pk)) (Ep : Exa Z h0 pk "java/lang/String") (Cp : Fld Z h0 pk "java/lang/String" "coder" "B" (.int (0 : Int32))) (Vp : Fld Z h0 pk "java/lang/String" "value" "[B" (.ref tp)) (Kp : Arv Z h0 tp kp .byte (50 : Int32) ((own_pk.map StrChars.lo8).map Value.int) (.int 0)) (lp1 : pk < n0) (lp2 : tp < n0) :
    MetFree l (⟨"com/example/tidy_injector/tidyinjector/bench/StartupGraph", "className", "(I)Ljava/lang/String;"⟩ : MethodName) (head1 (Jvm.Cond.code (⟨"com/example/tidy_injector/tidyinjector/bench/StartupGraph", "className", "(I)Ljava/lang/String;"⟩ : MethodName) prog_40_method_3_code 1 (some (.object "java/lang/String")) :: ws) ({ frames := 7, cells := 14, slots := 342, locals := 119 } : Room)) (fun as_ U => as_ = #[(.int x)] ∧ Z.Warmed39 U.vm ∧ U.heap = h0 ∧ CHv Z own_EL U.vm h0) (fun _ _ _ _ _ => True) (fun _ U out_ U' => ∃ v L, out_ = .returned v ∧ Q1 Z x z n st d1 D1 d2 D2 pk tp kp h0 n0 v U'.heap L ∧ CHr Z own_EL U.vm U.heap U'.vm U'.heap ∧ ReturnedEndW U out_ U' L ({ frames := 7, cells := 14, slots := 342, locals := 119 } : Room).cells ({ frames := 7, cells := 14, slots := 342, locals := 119 } : Room).slots) := by
  refine MetFree.of_bodySF (plainFor_of_name pn_5) hisR ?_
  intro p e s m args below meth cd s₁ Bd hml0 hP hK
  obtain ⟨rfl, hZ, hh, CH0⟩ := hP
  have hx := Bd.exec
  have hby := Bd.bytes
  have hml : cd.maxLocals = 1 := hml0
  have hlk : meth.locks = false := BodyLoose.notSynchronized Bd
  have hown : s.vm.findClass "com/example/tidy_injector/tidyinjector/bench/StartupGraph" = some m.cls := findClass_of_methodNamed Bd.named
  have hnm := (name_of_methodNamed Bd.named Bd.method).1
  have hret := Bd.returns
  have H := And.intro hx hby
  have X0 : Stand p l e ({ frames := 7, cells := 14, slots := 342, locals := 119 } : Room) (s.setVm s.vm) m #[(.int x)] below meth cd s₁ [] 0 0 := Stand.of_body Bd
  have e0 : s₁.heap = h0 := by rw [← hh, Bd.state]; rfl
  have N0 := Fr.nil n0
  have hS0 : s.Since s.vm 0 := (State.WarmedH.refl s).since 0
  have wS := own_wS hw
  have hdp := Jvm.Free.SBG.digits_pos n
  have hsg := (own_sg x).2.2
  show own_Fin p e below (own_AnsW s Z own_EL (Q1 Z x z n st d1 D1 d2 D2 pk tp kp h0 n0) ({ frames := 7, cells := 14, slots := 342, locals := 119 } : Room).cells ({ frames := 7, cells := 14, slots := 342, locals := 119 } : Room).slots) (s₁.setTop (entryFrame m #[(.int x)] 1))
  refine own_cast (ef_rm1 m x) ?_
  show own_Fin p e below _ (s₁.setTop (mkF m 0 #[.val (.int x)] []))
  obtain ⟨T188, h188, X188, e188, E188, A188, D188, -, st188⟩ := newO X0 hx hZ hown (ow hw 4 rfl) (ow hw 5 rfl) (ow hw 6 rfl) e0 (g := (mkF m 0 #[.val (.int x)] [])) rfl (hb hby (od dB1 0 rfl)) (by decide) (by decide)
  obtain ⟨b188, g188⟩ : ∃ z, z = h0.size := ⟨_, rfl⟩
  rw [← g188] at A188 D188 st188
  have ne188_pk : pk ≠ b188 := own_ne_of (Z := Z) Ep.lt g188
  have ne188_tp : tp ≠ b188 := own_ne_of (Z := Z) Kp.lt g188
  have gn188 : n0 ≤ b188 := Nat.le_trans Z0 (Nat.le_of_eq g188.symm)
  have gk188 : h0.size ≤ b188 := Nat.le_trans (Keep.refl h0 []).1 (Nat.le_of_eq g188.symm)
  have F188_value : Fld Z h188 b188 "java/lang/AbstractStringBuilder" "value" "[B" .null := D188 (Or.inl (ow hw 23 rfl)) (ty := (.array .byte)) (by decide)
  have F188_coder : Fld Z h188 b188 "java/lang/AbstractStringBuilder" "coder" "B" (.int (0 : Int32)) := D188 (Or.inl (ow hw 25 rfl)) (ty := .byte) (by decide)
  have F188_count : Fld Z h188 b188 "java/lang/AbstractStringBuilder" "count" "I" (.int (0 : Int32)) := D188 (Or.inl (ow hw 54 rfl)) (ty := .int) (by decide)
  refine own_on st188 ?_
  show own_Fin p e below _ (T188.setTop (mkF m 3 #[.val (.int x)] [(.ref b188)]))
  refine o_dup X188 H (od dB1 1 rfl) rfl ?_
  refine o_sc (b := b188) (argsL := []) (rest := [(.ref b188)]) X188 H hml hZ hown (ow hw 7 rfl) (ow hw 8 rfl) (ow hw 9 rfl) (backOf (W := 1) (rm2 l Z a0 hw [] b188 z h188 n0 (by exact (Nat.le_trans Z0 E188.1)) hz (O.ext E188) SC A188 F188_value F188_count F188_coder gn188) hZ (ow hw 9 rfl) (ow hw 6 rfl) (by decide) (by decide)) rfl (by decide) e188 pd_19 (od dB1 2 rfl) rfl rfl rfl rfl rfl (by decide) (by decide) fun _ T189 Lc189 X189 hQ189 => ?_
  obtain ⟨tb189, kt189, rfl, N189q, K189, gt189, gk189, Eq189, Vq189, Cq189, Dq189, Aq189⟩ := hQ189
  have ne189_pk : pk ≠ tb189 := Nat.ne_of_lt (Nat.lt_of_lt_of_le (Ep.ext E188).lt gk189)
  have ne189_tp : tp ≠ tb189 := Nat.ne_of_lt (Nat.lt_of_lt_of_le (Kp.ext E188).lt gk189)
  have ne189_b188 : b188 ≠ tb189 := Nat.ne_of_lt (Nat.lt_of_lt_of_le A188.lt gk189)
  have N189 := Fr.app N0 N189q
  have y190 := (CHr.trans (CHr.trans (CHr.refl CH0) (CHr.ext E188 CH0)) (CHr.keep K189 (sfS (Safe.ext E188 CH0 (Safe.new (Nat.le_of_eq g188.symm))) sf0) (CHv.ext E188 CH0)))
  have y191 := (Safe.keep K189 (sfS (Safe.ext E188 CH0 (Safe.new (Nat.le_of_eq g188.symm))) sf0) (CHv.ext E188 CH0) (Safe.ext E188 CH0 (Safe.new (Nat.le_of_eq g188.symm))))
  have Ae189 : Arv Z T189.heap tb189 kt189 .byte (16 : Int32) ((([] : List Int32).map StrChars.lo8).map Value.int) (.int 0) := Aq189.pad (fun i => (pad_rep [] (.int 0) 16 i).symm)
  have y192 := (Safe.keep K189 (sfS (Safe.ext E188 CH0 (Safe.new (Nat.le_of_eq g188.symm))) sf0) (CHv.ext E188 CH0) (Safe.new gk189))
  show own_Fin p e below _ (T189.setTop (mkF m 7 #[.val (.int x)] [(.ref b188)]))
  refine o_gs X189 H hZ hown (ow hw 26 rfl) Via.refl rfl (SP.ext ((O.ext E188).keep K189 (allS gn188 all0)).2) (od dB1 3 rfl) fun T193 X193 e193 => ?_
  refine o_vs (argsL := [(.ref pk)]) (rest := []) X193 H hml hZ hown (ow hw 28 rfl) (ow hw 29 rfl) (ow hw 31 rfl) (ow hw 30 rfl) (backOf (W := 0) (rmQbg50 l Z a0 hw [] b188 pk z tb189 kt189 0 ([] : List Int32) tp kp 50 own_pk T189.heap n0 (by exact (Nat.le_trans (Nat.le_trans Z0 E188.1) K189.1)) hz ((O.ext E188).keep K189 (allS gn188 all0)) SC Eq189 Vq189 Cq189 Dq189 Ae189 gn188 gt189 ne189_b188 (rfl : ([] : List Int32).length = 0) ((Ep.ext E188).keep K189) ((Cp.ext E188).keep K189 (ninS ne188_pk nin0)) ((Vp.ext E188).keep K189 (ninS ne188_pk nin0)) ((Kp.ext E188).keep K189 (ninS ne188_tp nin0)) (rfl : own_pk.length = 50) ne189_tp ne188_tp ne189_pk ne188_pk (by omega) (by omega)) hZ (ow hw 32 rfl) (ow hw 6 rfl) (by decide) (by decide)) (by decide) Eq189 e193 pd_20 (od dB1 4 rfl) rfl rfl rfl rfl rfl (by decide) (by decide) fun _ T194 Lc194 X194 hQ194 => ?_
  have Lq194 : (([] : List Int32) ++ own_pk).length = (0 + 50) := own_la (rfl : ([] : List Int32).length = 0) (rfl : own_pk.length = 50)
  obtain ⟨tg194, kt194, rfl, N194q, K194, gt194, gk194, Eq194, Vq194, Cq194, Dq194, Aq194⟩ := hQ194
  have ne194_pk : pk ≠ tg194 := Nat.ne_of_lt (Nat.lt_of_lt_of_le ((Ep.ext E188).keep K189).lt gk194)
  have ne194_tp : tp ≠ tg194 := Nat.ne_of_lt (Nat.lt_of_lt_of_le ((Kp.ext E188).keep K189 (ninS ne188_tp nin0)).lt gk194)
  have ne194_b188 : b188 ≠ tg194 := Nat.ne_of_lt (Nat.lt_of_lt_of_le Eq189.lt gk194)
  have ne194_tb189 : tb189 ≠ tg194 := Nat.ne_of_lt (Nat.lt_of_lt_of_le Ae189.lt gk194)
  have N194 := Fr.app N189 N194q
  have y195 := (CHv.keep K194 (sfS y191 sf0) (CHv.keep K189 (sfS (Safe.ext E188 CH0 (Safe.new (Nat.le_of_eq g188.symm))) sf0) (CHv.ext E188 CH0)))
  have y196 := (CHr.trans y190 (CHr.keep K194 (sfS y191 sf0) (CHv.keep K189 (sfS (Safe.ext E188 CH0 (Safe.new (Nat.le_of_eq g188.symm))) sf0) (CHv.ext E188 CH0))))
  have y197 := (Safe.keep K194 (sfS y191 sf0) (CHv.keep K189 (sfS (Safe.ext E188 CH0 (Safe.new (Nat.le_of_eq g188.symm))) sf0) (CHv.ext E188 CH0)) y191)
  have y198 := (Safe.keep K194 (sfS y191 sf0) (CHv.keep K189 (sfS (Safe.ext E188 CH0 (Safe.new (Nat.le_of_eq g188.symm))) sf0) (CHv.ext E188 CH0)) y192)
  have y199 := (Safe.keep K194 (sfS y191 sf0) (CHv.keep K189 (sfS (Safe.ext E188 CH0 (Safe.new (Nat.le_of_eq g188.symm))) sf0) (CHv.ext E188 CH0)) (Safe.new gk194))
  show own_Fin p e below _ (T194.setTop (mkF m 13 #[.val (.int x)] [(.ref b188)]))
  obtain ⟨a200, T200, h200, k200, c200, kc200, X200, e200, E200, hS200, hk200, hZ200, hown200, Ea200, Ca200, Va200, Aa200, la200, lc200, A200, Lt200, sf200, st200⟩ := ldcCH X194 hx hZ hown (ow hw 103 rfl) wS rfl hS0 (Nat.le_trans (Nat.le_trans (Nat.le_trans (Nat.zero_le _) E188.1) K189.1) K194.1) hEL (by decide) y195 (vs := [(.int (46 : Int32))]) (z := (1 : Int32)) ⟨by decide, rfl⟩ (by decide) rfl (g := (mkF m 13 #[.val (.int x)] [(.ref b188)])) rfl (hb hby (od dB1 5 rfl)) (n := 4) (by decide) (by decide) (by decide) (by decide)
  have y201 := (((((Keep.refl h0 []).ext E188).trans K189 (allS (Or.inr gk188) all0)).trans K194 (allS (Or.inr gk188) all0)).ext E200)
  have ns202 := sf200 _ (CHr.safe A200 Eq194.lt y197)
  have ns203 := sf200 _ (CHr.safe A200 (Ae189.keep K194 (ninS (Ne.symm ne189_b188) nin0)).lt y198)
  have ns204 := sf200 _ (CHr.safe A200 Aq194.lt y199)
  refine own_on st200 ?_
  show own_Fin p e below _ (T200.setTop (mkF m 15 #[.val (.int x)] [(.ref a200), (.ref b188)]))
  have KL205 : Arv Z h200 c200 kc200 .byte (1 : Int32) ((([46] : List Int32).map StrChars.lo8).map Value.int) (.int 0) := by show Arv Z h200 c200 kc200 .byte (1 : Int32) [(.int (StrChars.lo8 (46 : Int32)))] (.int 0); rw [show StrChars.lo8 (46 : Int32) = 46 from by decide]; exact Aa200
  refine o_vs (argsL := [(.ref a200)]) (rest := []) X200 H hml hZ200 hown200 (ow hw 28 rfl) (ow hw 29 rfl) (ow hw 31 rfl) (ow hw 30 rfl) (backOf (W := 0) (rmQbg102 l Z a0 hw [] b188 a200 z tg194 kt194 (0 + 50) (([] : List Int32) ++ own_pk) c200 kc200 1 ([46] : List Int32) h200 n0 (by exact (Nat.le_trans (Nat.le_trans (Nat.le_trans (Nat.le_trans Z0 E188.1) K189.1) K194.1) E200.1)) hz ((((O.ext E188).keep K189 (allS gn188 all0)).keep K194 (allS gn188 all0)).ext E200) SC (Eq194.ext E200) (Vq194.ext E200) (Cq194.ext E200) (Dq194.ext E200) (Aq194.ext E200) gn188 gt194 ne194_b188 Lq194 Ea200 Ca200 Va200 KL205 (rfl : ([46] : List Int32).length = 1) (Ne.symm ns204.2) (Ne.symm ns202.2) (Ne.symm ns204.1) (Ne.symm ns202.1) (by omega) (by omega)) hZ200 (ow hw 32 rfl) (ow hw 6 rfl) (by decide) (by decide)) (by decide) (Eq194.ext E200) e200 pd_20 (od dB1 6 rfl) rfl rfl rfl rfl rfl (by decide) (by decide) fun _ T206 Lc206 X206 hQ206 => ?_
  have Lq206 : ((([] : List Int32) ++ own_pk) ++ ([46] : List Int32)).length = ((0 + 50) + 1) := own_la Lq194 (rfl : ([46] : List Int32).length = 1)
  obtain ⟨tg206, kt206, rfl, N206q, K206, gt206, gk206, Eq206, Vq206, Cq206, Dq206, Aq206⟩ := hQ206
  have ne206_pk : pk ≠ tg206 := Nat.ne_of_lt (Nat.lt_of_lt_of_le ((((Ep.ext E188).keep K189).keep K194).ext E200).lt gk206)
  have ne206_tp : tp ≠ tg206 := Nat.ne_of_lt (Nat.lt_of_lt_of_le ((((Kp.ext E188).keep K189 (ninS ne188_tp nin0)).keep K194 (ninS ne188_tp nin0)).ext E200).lt gk206)
  have ne206_b188 : b188 ≠ tg206 := Nat.ne_of_lt (Nat.lt_of_lt_of_le (Eq194.ext E200).lt gk206)
  have ne206_tb189 : tb189 ≠ tg206 := Nat.ne_of_lt (Nat.lt_of_lt_of_le ((Ae189.keep K194 (ninS (Ne.symm ne189_b188) nin0)).ext E200).lt gk206)
  have ne206_tg194 : tg194 ≠ tg206 := Nat.ne_of_lt (Nat.lt_of_lt_of_le (Aq194.ext E200).lt gk206)
  have ne206_a200 : a200 ≠ tg206 := Nat.ne_of_lt (Nat.lt_of_lt_of_le Ea200.lt gk206)
  have ne206_c200 : c200 ≠ tg206 := Nat.ne_of_lt (Nat.lt_of_lt_of_le KL205.lt gk206)
  have N206 := Fr.app N194 N206q
  have y207 := (Nat.le_trans (Nat.le_trans (Nat.le_trans (Nat.le_trans (Nat.le_trans Z0 E188.1) K189.1) K194.1) E200.1) K206.1)
  have y208 := (((((O.ext E188).keep K189 (allS gn188 all0)).keep K194 (allS gn188 all0)).ext E200).keep K206 (allS gn188 all0))
  have y209 := (((((Cp.ext E188).keep K189 (ninS ne188_pk nin0)).keep K194 (ninS ne188_pk nin0)).ext E200).keep K206 (ninS ne188_pk nin0))
  have y210 := (((((Vp.ext E188).keep K189 (ninS ne188_pk nin0)).keep K194 (ninS ne188_pk nin0)).ext E200).keep K206 (ninS ne188_pk nin0))
  have y211 := (((((Kp.ext E188).keep K189 (ninS ne188_tp nin0)).keep K194 (ninS ne188_tp nin0)).ext E200).keep K206 (ninS ne188_tp nin0))
  have y212 := (Safe.keep K206 (sfS (CHr.safe A200 Eq194.lt y197) sf0) (And.left A200) (CHr.safe A200 (Ae189.keep K194 (ninS (Ne.symm ne189_b188) nin0)).lt y198))
  show own_Fin p e below _ (T206.setTop (mkF m 18 #[.val (.int x)] [(.ref b188)]))
  refine o_ildN X206 H (od dB1 7 rfl) rfl ?_
  obtain ⟨_, _, ⟨T213, L213, k213, n213⟩, -, X213', S213', gr213, ⟨Lc213, hQ213, l213, y213, z213, A213⟩, st213⟩ := callSS X206 hx (y := (⟨"com/example/tidy_injector/tidyinjector/bench/StartupGraph", "simpleName", "(I)Ljava/lang/String;"⟩ : MethodName)) hown200 (mvT hZ200 (ow hw 107 rfl)) (mvT hZ200 (ow hw 108 rfl)) (mvT hZ200 (ow hw 2 rfl)) (mvT hZ200 (ow hw 109 rfl)) (by decide) (backOfSH (s := s) (W := 1) (rm18 l Z a0 hw [] x z n st d1 D1 d2 D2 T206.heap n0 (by exact y207) hEL hz y208 SC T1 O1 T2 O2 hn hxn) hZ200 (ow hw 109 rfl) (ow hw 2 rfl) (by decide) (by decide) hEL (CHv.keep K206 (sfS (CHr.safe A200 Eq194.lt y197) sf0) (And.left A200))) (g := (mkF m 19 #[.val (.int x)] [(.int x), (.ref b188)])) rfl hml.symm (argsL := [(.int x)]) (rest := [(.ref b188)]) (lenOf pd_23 rfl) rfl (o_mr rfl) (hb hby (od dB1 8 rfl)) (fun _ _ => ⟨rfl, rfl, (by decide : 6 + 6 ≤ _), (by decide : 180 + 95 ≤ _)⟩)
  dsimp only [Pt.U, Pt.locs, Pt.cells, Pt.slots] at X213' S213' gr213 l213 y213 z213 st213 hQ213 A213
  replace l213 := l213.symm; replace y213 := y213.symm; replace z213 := z213.symm; subst l213 y213 z213
  obtain ⟨X213, hS213, hZ213, hown213⟩ := rebS hS200 (by first | exact (Nat.le_trans hk200 K206.1) | (rw [(rfl : 0 = 0)]; exact (Nat.le_trans hk200 K206.1))) X213' S213' gr213 hZ200 hown200
  obtain ⟨y213s, t213, kt213, rfl, N213q, K213, gy213, gt213, Eq213, Cq213, Vq213, Aq213⟩ := hQ213
  have ne213_pk : pk ≠ y213s := Nat.ne_of_lt (Nat.lt_of_lt_of_le (((((Ep.ext E188).keep K189).keep K194).ext E200).keep K206).lt gy213)
  have ne213_tp : tp ≠ y213s := Nat.ne_of_lt (Nat.lt_of_lt_of_le y211.lt gy213)
  have ne213_b188 : b188 ≠ y213s := Nat.ne_of_lt (Nat.lt_of_lt_of_le Eq206.lt gy213)
  have ne213_tb189 : tb189 ≠ y213s := Nat.ne_of_lt (Nat.lt_of_lt_of_le (((Ae189.keep K194 (ninS (Ne.symm ne189_b188) nin0)).ext E200).keep K206 (ninS (Ne.symm ne189_b188) nin0)).lt gy213)
  have ne213_tg194 : tg194 ≠ y213s := Nat.ne_of_lt (Nat.lt_of_lt_of_le ((Aq194.ext E200).keep K206 (ninS (Ne.symm ne194_b188) nin0)).lt gy213)
  have ne213_a200 : a200 ≠ y213s := Nat.ne_of_lt (Nat.lt_of_lt_of_le (Ea200.keep K206).lt gy213)
  have ne213_c200 : c200 ≠ y213s := Nat.ne_of_lt (Nat.lt_of_lt_of_le (KL205.keep K206 (ninS (Ne.symm ns202.2) nin0)).lt gy213)
  have ne213_tg206 : tg206 ≠ y213s := Nat.ne_of_lt (Nat.lt_of_lt_of_le Aq206.lt gy213)
  have ne213t_pk : pk ≠ t213 := Nat.ne_of_lt (Nat.lt_of_lt_of_le (((((Ep.ext E188).keep K189).keep K194).ext E200).keep K206).lt gt213)
  have ne213t_tp : tp ≠ t213 := Nat.ne_of_lt (Nat.lt_of_lt_of_le y211.lt gt213)
  have ne213t_b188 : b188 ≠ t213 := Nat.ne_of_lt (Nat.lt_of_lt_of_le Eq206.lt gt213)
  have ne213t_tb189 : tb189 ≠ t213 := Nat.ne_of_lt (Nat.lt_of_lt_of_le (((Ae189.keep K194 (ninS (Ne.symm ne189_b188) nin0)).ext E200).keep K206 (ninS (Ne.symm ne189_b188) nin0)).lt gt213)
  have ne213t_tg194 : tg194 ≠ t213 := Nat.ne_of_lt (Nat.lt_of_lt_of_le ((Aq194.ext E200).keep K206 (ninS (Ne.symm ne194_b188) nin0)).lt gt213)
  have ne213t_a200 : a200 ≠ t213 := Nat.ne_of_lt (Nat.lt_of_lt_of_le (Ea200.keep K206).lt gt213)
  have ne213t_c200 : c200 ≠ t213 := Nat.ne_of_lt (Nat.lt_of_lt_of_le (KL205.keep K206 (ninS (Ne.symm ns202.2) nin0)).lt gt213)
  have ne213t_tg206 : tg206 ≠ t213 := Nat.ne_of_lt (Nat.lt_of_lt_of_le Aq206.lt gt213)
  have N213 := Fr.app N206 N213q
  have y214 := ((((Ae189.keep K194 (ninS (Ne.symm ne189_b188) nin0)).ext E200).keep K206 (ninS (Ne.symm ne189_b188) nin0)).keep K213 nin0)
  have y215 := (CHr.safe A213 Dq206.lt (Safe.keep K206 (sfS (CHr.safe A200 Eq194.lt y197) sf0) (And.left A200) (CHr.safe A200 Eq194.lt y197)))
  have y216 := (CHr.safe A213 (((Ae189.keep K194 (ninS (Ne.symm ne189_b188) nin0)).ext E200).keep K206 (ninS (Ne.symm ne189_b188) nin0)).lt y212)
  have y217 := (CHr.safe A213 ((Aq194.ext E200).keep K206 (ninS (Ne.symm ne194_b188) nin0)).lt (Safe.keep K206 (sfS (CHr.safe A200 Eq194.lt y197) sf0) (And.left A200) (CHr.safe A200 Aq194.lt y199)))
  have y218 := (CHr.trans (CHr.trans (CHr.trans y196 A200) (CHr.keep K206 (sfS (CHr.safe A200 Eq194.lt y197) sf0) (And.left A200))) A213)
  have y219 := (CHr.safe A213 Aq206.lt (Safe.keep K206 (sfS (CHr.safe A200 Eq194.lt y197) sf0) (And.left A200) (Safe.new gk206)))
  have Lq213 : ([67] ++ own_dg x n).length = (1 + (Jvm.Free.SBG.digits n + Jvm.Free.SBG.GetChars.sgn x)) := own_la rfl (own_dgl x n)
  refine own_via st213 ?_
  show own_Fin p e below _ (T213.setTop (mkF m 22 #[.val (.int x)] [(.ref y213s), (.ref b188)]))
  refine o_vs (argsL := [(.ref y213s)]) (rest := []) X213 H hml hZ213 hown213 (ow hw 28 rfl) (ow hw 29 rfl) (ow hw 31 rfl) (ow hw 30 rfl) (backOf (W := 0) (rmQbn102 l Z a0 hw [] b188 y213s z tg206 kt206 ((0 + 50) + 1) ((([] : List Int32) ++ own_pk) ++ ([46] : List Int32)) t213 kt213 (1 + (Jvm.Free.SBG.digits n + Jvm.Free.SBG.GetChars.sgn x)) ([67] ++ own_dg x n) T213.heap n0 (by exact (Nat.le_trans y207 K213.1)) hz (y208.keep K213 all0) SC (Eq206.keep K213) (Vq206.keep K213 nin0) (Cq206.keep K213 nin0) (Dq206.keep K213 nin0) (Aq206.keep K213 nin0) gn188 gt206 ne206_b188 Lq206 Eq213 Cq213 Vq213 Aq213 Lq213 (Ne.symm ne213t_tg206) (Ne.symm ne213t_b188) (Ne.symm ne213_tg206) (Ne.symm ne213_b188) (by omega)) hZ213 (ow hw 32 rfl) (ow hw 6 rfl) (by decide) (by decide)) (by decide) (Eq206.keep K213) rfl pd_20 (od dB1 9 rfl) rfl rfl rfl rfl rfl (by decide) (by decide) fun _ T220 Lc220 X220 hQ220 => ?_
  have Lq220 : (((([] : List Int32) ++ own_pk) ++ ([46] : List Int32)) ++ ([67] ++ own_dg x n)).length = (((0 + 50) + 1) + (1 + (Jvm.Free.SBG.digits n + Jvm.Free.SBG.GetChars.sgn x))) := own_la Lq206 Lq213
  obtain ⟨rfl, N220q, K220, Eq220, Vq220, Cq220, Dq220, Aq220⟩ := hQ220
  have N220 := Fr.app N213 N220q
  have y221 := (((y201.trans K206 (allS (Or.inr gk188) all0)).trans K213 all0).trans K220 (allS (Or.inr gk188) (allS (Or.inr (Nat.le_trans y201.1 gk206)) all0)))
  have y222 := ((((Aq194.ext E200).keep K206 (ninS (Ne.symm ne194_b188) nin0)).keep K213 nin0).keep K220 (ninS (Ne.symm ne194_b188) (ninS ne206_tg194 nin0)))
  have y223 := (((Ca200.keep K206 (ninS (Ne.symm ns202.1) nin0)).keep K213 nin0).keep K220 (ninS (Ne.symm ns202.1) (ninS ne206_a200 nin0)))
  have y224 := (((Va200.keep K206 (ninS (Ne.symm ns202.1) nin0)).keep K213 nin0).keep K220 (ninS (Ne.symm ns202.1) (ninS ne206_a200 nin0)))
  have y225 := (((KL205.keep K206 (ninS (Ne.symm ns202.2) nin0)).keep K213 nin0).keep K220 (ninS (Ne.symm ns202.2) (ninS ne206_c200 nin0)))
  show own_Fin p e below _ (T220.setTop (mkF m 25 #[.val (.int x)] [(.ref b188)]))
  refine o_vs (argsL := []) (rest := []) X220 H hml hZ213 hown213 (ow hw 133 rfl) (ow hw 134 rfl) (ow hw 136 rfl) (ow hw 135 rfl) (backOf (W := 0) (rmTs l Z a0 hw [] b188 z tg206 kt206 (((0 + 50) + 1) + (1 + (Jvm.Free.SBG.digits n + Jvm.Free.SBG.GetChars.sgn x))) (((([] : List Int32) ++ own_pk) ++ ([46] : List Int32)) ++ ([67] ++ own_dg x n)) 102 T220.heap n0 (by exact (Nat.le_trans (Nat.le_trans y207 K213.1) K220.1)) hz ((y208.keep K213 all0).keep K220 (allS gn188 (allS gt206 all0))) SC Eq220 Vq220 Cq220 Dq220 Aq220 gn188 gt206 ne206_b188 Lq220 (by omega) (by omega) (by omega)) hZ213 (ow hw 137 rfl) (ow hw 6 rfl) (by decide) (by decide)) (by decide) Eq220 rfl pd_22 (od dB1 10 rfl) rfl rfl rfl rfl rfl (by decide) (by decide) fun _ T226 Lc226 X226 hQ226 => ?_
  obtain ⟨y226s, x226, kx226, rfl, N226q, K226, gk226, gx226, Eq226, Cq226, Vq226, Aq226⟩ := hQ226
  have N226 := Fr.app N220 N226q
  have y227 := (Safe.keep K226 sf0 (CHv.keep K220 (sfS y215 (sfS y219 sf0)) A213.1) (Safe.keep K220 (sfS y215 (sfS y219 sf0)) A213.1 y215))
  have y228 := (Safe.keep K226 sf0 (CHv.keep K220 (sfS y215 (sfS y219 sf0)) A213.1) (Safe.keep K220 (sfS y215 (sfS y219 sf0)) A213.1 y216))
  have y229 := (Safe.keep K226 sf0 (CHv.keep K220 (sfS y215 (sfS y219 sf0)) A213.1) (Safe.keep K220 (sfS y215 (sfS y219 sf0)) A213.1 y217))
  have y230 := (CHr.trans (CHr.trans y218 (CHr.keep K220 (sfS y215 (sfS y219 sf0)) A213.1)) (CHr.keep K226 sf0 (CHv.keep K220 (sfS y215 (sfS y219 sf0)) A213.1)))
  have y231 := (Safe.keep K226 sf0 (CHv.keep K220 (sfS y215 (sfS y219 sf0)) A213.1) (Safe.keep K220 (sfS y215 (sfS y219 sf0)) A213.1 y219))
  show own_Fin p e below _ (T226.setTop (mkF m 28 #[.val (.int x)] [(.ref y226s)]))
  exact own_retW (t := (.object "java/lang/String")) X226 (Z := Z) (EL := own_EL) (a0 := a0) hx hlk hret rfl (Or.inr (Or.inr (Or.inr (Or.inr ⟨rfl, rfl, rfl⟩)))) (hb hby (od dB1 11 rfl)) hS213 (Nat.le_trans (Nat.le_trans (Nat.le_refl (Array.size T213.heap)) K220.1) K226.1) hZ213 hEL (by rw [hh]; exact y230) (by show Q1 Z x z n st d1 D1 d2 D2 pk tp kp h0 n0 _ T226.heap _; exact ⟨y226s, x226, kx226, rfl, N226, (y221.trans K226 all0), Eq226, Cq226, Vq226, (by have q := Aq226; rw [show 0 + 50 + 1 + (1 + (Jvm.Free.SBG.digits n + Jvm.Free.SBG.GetChars.sgn x)) = 52 + (Jvm.Free.SBG.digits n + Jvm.Free.SBG.GetChars.sgn x) by omega, List.nil_append] at q; exact q)⟩) (by decide) (by decide)
theorem pn_6 : plainName "com/example/tidy_injector/tidyinjector/bench/StartupGraphClassNamePinLaw" = true := by first | (simp [plainName, overriddenIn]; done) | decide +kernel
theorem dB33 : oL method_3_code [(0, .lload_n 0, 1), (1, .ldc2_w 39, 3), (4, .lcmp, 1), (5, .ifCond .ge 5, 3), (8, .iconst 1, 1), (9, .ireturn, 1), (10, .lload_n 0, 1), (11, .ldc2_w 41, 3), (14, .lcmp, 1), (15, .ifCond .ge 5, 3), (18, .iconst 2, 1), (19, .ireturn, 1), (20, .lload_n 0, 1), (21, .ldc2_w 43, 3), (24, .lcmp, 1), (25, .ifCond .ge 5, 3), (28, .iconst 3, 1), (29, .ireturn, 1), (30, .lload_n 0, 1), (31, .ldc2_w 45, 3), (34, .lcmp, 1), (35, .ifCond .ge 5, 3), (38, .iconst 4, 1), (39, .ireturn, 1), (40, .lload_n 0, 1), (41, .ldc2_w 47, 3), (44, .lcmp, 1), (45, .ifCond .ge 5, 3), (48, .iconst 5, 1), (49, .ireturn, 1), (50, .lload_n 0, 1), (51, .ldc2_w 49, 3), (54, .lcmp, 1), (55, .ifCond .ge 6, 3), (58, .bipush 6, 2), (60, .ireturn, 1), (61, .lload_n 0, 1), (62, .ldc2_w 51, 3), (65, .lcmp, 1), (66, .ifCond .ge 6, 3), (69, .bipush 7, 2), (71, .ireturn, 1), (72, .lload_n 0, 1), (73, .ldc2_w 53, 3), (76, .lcmp, 1), (77, .ifCond .ge 6, 3), (80, .bipush 8, 2), (82, .ireturn, 1), (83, .lload_n 0, 1), (84, .ldc2_w 55, 3), (87, .lcmp, 1), (88, .ifCond .ge 6, 3), (91, .bipush 9, 2), (93, .ireturn, 1), (94, .bipush 10, 2), (96, .ireturn, 1)] := by unfold oL; decide +kernel
theorem ef_rm33 (m : MethodId) (x0 : Int64) : entryFrame m #[(.long x0)] 2 = mkF m 0 #[.val (.long x0), .second] [] := by first | (simp [entryFrame, mkF, argsToLocals, Value.category]; done) | rfl
def Q33 (Z : State) (n : Nat) (h0 : Heap) (n0 : Nat) (v : Option Value) (h : Heap) (L : List Loc) : Prop := v = some (.int (Int32.ofNat (Jvm.Free.SBG.digits n))) ∧ Fr n0 L ∧ h = h0
set_option maxRecDepth 65536 in
set_option maxHeartbeats 40000000 in
theorem rm33 (l : Launch) (Z : State) (a0 : Array Value) (hw : ∀ d ∈ tables_1, d.before a0 Z = true) (ws : List Jvm.Cond) (n : Nat) (h0 : Heap) (n0 : Nat) (Z0 : n0 ≤ h0.size) (hn : n ≤ 2 ^ 31) :
    own_M l (⟨"com/example/tidy_injector/tidyinjector/bench/StartupGraphClassNamePinLaw", "digits", "(J)I"⟩ : MethodName) method_3_code 2 (some .int) ws ({ frames := 0, cells := 0, slots := 0, locals := 0 } : Room) #[(.long (Int64.ofNat n))] Z h0 (Q33 Z n h0 n0) := by
  refine MetFree.of_bodySF (plainFor_of_name pn_6) hisR ?_
  intro p e s m args below meth cd s₁ Bd hml hP hK
  obtain ⟨rfl, hZ, hh⟩ := hP
  obtain ⟨X0, e0, H, hlk, hown, hret⟩ := own_start (R := ({ frames := 0, cells := 0, slots := 0, locals := 0 } : Room)) Bd hh rfl
  have hx := H.1; have hby := H.2; have N0 := Fr.nil n0
  show own_Fin p e below (own_Ans s (Q33 Z n h0 n0) ({ frames := 0, cells := 0, slots := 0, locals := 0 } : Room).cells ({ frames := 0, cells := 0, slots := 0, locals := 0 } : Room).slots) (s₁.setTop (entryFrame m #[(.long (Int64.ofNat n))] 2))
  refine own_cast (ef_rm33 m (Int64.ofNat n)) ?_
  show own_Fin p e below _ (s₁.setTop (mkF m 0 #[.val (.long (Int64.ofNat n)), .second] []))
  refine o_lldN X0 H (od dB33 0 rfl) rfl ?_
  refine own_on (fun tq => X0.ldc2Long hx hown (mvT hZ (ow hw 175 rfl)) (g := (mkF m 1 #[.val (.long (Int64.ofNat n)), .second] [(.long (Int64.ofNat n))])) rfl (hb hby (od dB33 1 rfl)) tq) ?_
  show own_Fin p e below _ (s₁.setTop (mkF m 4 #[.val (.long (Int64.ofNat n)), .second] [(.long (10 : Int64)), (.long (Int64.ofNat n))]))
  refine own_on (fun tq => XS.lcmp X0.here hx rfl (hb hby (od dB33 2 rfl)) rfl) ?_
  show own_Fin p e below _ (s₁.setTop (mkF m 5 #[.val (.long (Int64.ofNat n)), .second] [(.int (lcmpW (Int64.ofNat n) (10 : Int64)))]))
  by_cases hc232 : (lcmpW (Int64.ofNat n) (10 : Int64)) < (0 : Int32)
  · refine o_ifN X0 H (od dB33 3 rfl) ((if0 _ _).trans (tlt hc232).2.1) ?_
    refine o_ic X0 H (od dB33 4 rfl) (v := 1) rfl ?_
    exact own_ret (t := .int) X0 hx hlk hret rfl (Or.inl ⟨rfl, (by simp), _, rfl⟩) (hb hby (od dB33 5 rfl)) (⟨(by have p0 := (own_lcl (n := n) (k := 10) (by omega) (by decide)); unfold Jvm.Free.SBG.digits; rw [if_pos (p0.mp hc232)]; rfl), N0, e0⟩) (by decide) (by decide)
  · refine o_ifY X0 H (od dB33 3 rfl) ((if0 _ _).trans (flt hc232).2.1) (pc' := 10) (by decide) (by decide) ?_
    refine o_lldN X0 H (od dB33 6 rfl) rfl ?_
    refine own_on (fun tq => X0.ldc2Long hx hown (mvT hZ (ow hw 208 rfl)) (g := (mkF m 11 #[.val (.long (Int64.ofNat n)), .second] [(.long (Int64.ofNat n))])) rfl (hb hby (od dB33 7 rfl)) tq) ?_
    show own_Fin p e below _ (s₁.setTop (mkF m 14 #[.val (.long (Int64.ofNat n)), .second] [(.long (100 : Int64)), (.long (Int64.ofNat n))]))
    refine own_on (fun tq => XS.lcmp X0.here hx rfl (hb hby (od dB33 8 rfl)) rfl) ?_
    show own_Fin p e below _ (s₁.setTop (mkF m 15 #[.val (.long (Int64.ofNat n)), .second] [(.int (lcmpW (Int64.ofNat n) (100 : Int64)))]))
    by_cases hc233 : (lcmpW (Int64.ofNat n) (100 : Int64)) < (0 : Int32)
    · refine o_ifN X0 H (od dB33 9 rfl) ((if0 _ _).trans (tlt hc233).2.1) ?_
      refine o_ic X0 H (od dB33 10 rfl) (v := 2) rfl ?_
      exact own_ret (t := .int) X0 hx hlk hret rfl (Or.inl ⟨rfl, (by simp), _, rfl⟩) (hb hby (od dB33 11 rfl)) (⟨(by have p0 := (own_lcl (n := n) (k := 10) (by omega) (by decide)); have p1 := (own_lcl (n := n) (k := 100) (by omega) (by decide)); unfold Jvm.Free.SBG.digits; rw [if_neg (fun q => hc232 (p0.mpr q)), if_pos (p1.mp hc233)]; rfl), N0, e0⟩) (by decide) (by decide)
    · refine o_ifY X0 H (od dB33 9 rfl) ((if0 _ _).trans (flt hc233).2.1) (pc' := 20) (by decide) (by decide) ?_
      refine o_lldN X0 H (od dB33 12 rfl) rfl ?_
      refine own_on (fun tq => X0.ldc2Long hx hown (mvT hZ (ow hw 209 rfl)) (g := (mkF m 21 #[.val (.long (Int64.ofNat n)), .second] [(.long (Int64.ofNat n))])) rfl (hb hby (od dB33 13 rfl)) tq) ?_
      show own_Fin p e below _ (s₁.setTop (mkF m 24 #[.val (.long (Int64.ofNat n)), .second] [(.long (1000 : Int64)), (.long (Int64.ofNat n))]))
      refine own_on (fun tq => XS.lcmp X0.here hx rfl (hb hby (od dB33 14 rfl)) rfl) ?_
      show own_Fin p e below _ (s₁.setTop (mkF m 25 #[.val (.long (Int64.ofNat n)), .second] [(.int (lcmpW (Int64.ofNat n) (1000 : Int64)))]))
      by_cases hc234 : (lcmpW (Int64.ofNat n) (1000 : Int64)) < (0 : Int32)
      · refine o_ifN X0 H (od dB33 15 rfl) ((if0 _ _).trans (tlt hc234).2.1) ?_
        refine o_ic X0 H (od dB33 16 rfl) (v := 3) rfl ?_
        exact own_ret (t := .int) X0 hx hlk hret rfl (Or.inl ⟨rfl, (by simp), _, rfl⟩) (hb hby (od dB33 17 rfl)) (⟨(by have p0 := (own_lcl (n := n) (k := 10) (by omega) (by decide)); have p1 := (own_lcl (n := n) (k := 100) (by omega) (by decide)); have p2 := (own_lcl (n := n) (k := 1000) (by omega) (by decide)); unfold Jvm.Free.SBG.digits; rw [if_neg (fun q => hc232 (p0.mpr q)), if_neg (fun q => hc233 (p1.mpr q)), if_pos (p2.mp hc234)]; rfl), N0, e0⟩) (by decide) (by decide)
      · refine o_ifY X0 H (od dB33 15 rfl) ((if0 _ _).trans (flt hc234).2.1) (pc' := 30) (by decide) (by decide) ?_
        refine o_lldN X0 H (od dB33 18 rfl) rfl ?_
        refine own_on (fun tq => X0.ldc2Long hx hown (mvT hZ (ow hw 210 rfl)) (g := (mkF m 31 #[.val (.long (Int64.ofNat n)), .second] [(.long (Int64.ofNat n))])) rfl (hb hby (od dB33 19 rfl)) tq) ?_
        show own_Fin p e below _ (s₁.setTop (mkF m 34 #[.val (.long (Int64.ofNat n)), .second] [(.long (10000 : Int64)), (.long (Int64.ofNat n))]))
        refine own_on (fun tq => XS.lcmp X0.here hx rfl (hb hby (od dB33 20 rfl)) rfl) ?_
        show own_Fin p e below _ (s₁.setTop (mkF m 35 #[.val (.long (Int64.ofNat n)), .second] [(.int (lcmpW (Int64.ofNat n) (10000 : Int64)))]))
        by_cases hc235 : (lcmpW (Int64.ofNat n) (10000 : Int64)) < (0 : Int32)
        · refine o_ifN X0 H (od dB33 21 rfl) ((if0 _ _).trans (tlt hc235).2.1) ?_
          refine o_ic X0 H (od dB33 22 rfl) (v := 4) rfl ?_
          exact own_ret (t := .int) X0 hx hlk hret rfl (Or.inl ⟨rfl, (by simp), _, rfl⟩) (hb hby (od dB33 23 rfl)) (⟨(by have p0 := (own_lcl (n := n) (k := 10) (by omega) (by decide)); have p1 := (own_lcl (n := n) (k := 100) (by omega) (by decide)); have p2 := (own_lcl (n := n) (k := 1000) (by omega) (by decide)); have p3 := (own_lcl (n := n) (k := 10000) (by omega) (by decide)); unfold Jvm.Free.SBG.digits; rw [if_neg (fun q => hc232 (p0.mpr q)), if_neg (fun q => hc233 (p1.mpr q)), if_neg (fun q => hc234 (p2.mpr q)), if_pos (p3.mp hc235)]; rfl), N0, e0⟩) (by decide) (by decide)
        · refine o_ifY X0 H (od dB33 21 rfl) ((if0 _ _).trans (flt hc235).2.1) (pc' := 40) (by decide) (by decide) ?_
          refine o_lldN X0 H (od dB33 24 rfl) rfl ?_
          refine own_on (fun tq => X0.ldc2Long hx hown (mvT hZ (ow hw 211 rfl)) (g := (mkF m 41 #[.val (.long (Int64.ofNat n)), .second] [(.long (Int64.ofNat n))])) rfl (hb hby (od dB33 25 rfl)) tq) ?_
          show own_Fin p e below _ (s₁.setTop (mkF m 44 #[.val (.long (Int64.ofNat n)), .second] [(.long (100000 : Int64)), (.long (Int64.ofNat n))]))
          refine own_on (fun tq => XS.lcmp X0.here hx rfl (hb hby (od dB33 26 rfl)) rfl) ?_
          show own_Fin p e below _ (s₁.setTop (mkF m 45 #[.val (.long (Int64.ofNat n)), .second] [(.int (lcmpW (Int64.ofNat n) (100000 : Int64)))]))
          by_cases hc236 : (lcmpW (Int64.ofNat n) (100000 : Int64)) < (0 : Int32)
          · refine o_ifN X0 H (od dB33 27 rfl) ((if0 _ _).trans (tlt hc236).2.1) ?_
            refine o_ic X0 H (od dB33 28 rfl) (v := 5) rfl ?_
            exact own_ret (t := .int) X0 hx hlk hret rfl (Or.inl ⟨rfl, (by simp), _, rfl⟩) (hb hby (od dB33 29 rfl)) (⟨(by have p0 := (own_lcl (n := n) (k := 10) (by omega) (by decide)); have p1 := (own_lcl (n := n) (k := 100) (by omega) (by decide)); have p2 := (own_lcl (n := n) (k := 1000) (by omega) (by decide)); have p3 := (own_lcl (n := n) (k := 10000) (by omega) (by decide)); have p4 := (own_lcl (n := n) (k := 100000) (by omega) (by decide)); unfold Jvm.Free.SBG.digits; rw [if_neg (fun q => hc232 (p0.mpr q)), if_neg (fun q => hc233 (p1.mpr q)), if_neg (fun q => hc234 (p2.mpr q)), if_neg (fun q => hc235 (p3.mpr q)), if_pos (p4.mp hc236)]; rfl), N0, e0⟩) (by decide) (by decide)
          · refine o_ifY X0 H (od dB33 27 rfl) ((if0 _ _).trans (flt hc236).2.1) (pc' := 50) (by decide) (by decide) ?_
            refine o_lldN X0 H (od dB33 30 rfl) rfl ?_
            refine own_on (fun tq => X0.ldc2Long hx hown (mvT hZ (ow hw 212 rfl)) (g := (mkF m 51 #[.val (.long (Int64.ofNat n)), .second] [(.long (Int64.ofNat n))])) rfl (hb hby (od dB33 31 rfl)) tq) ?_
            show own_Fin p e below _ (s₁.setTop (mkF m 54 #[.val (.long (Int64.ofNat n)), .second] [(.long (1000000 : Int64)), (.long (Int64.ofNat n))]))
            refine own_on (fun tq => XS.lcmp X0.here hx rfl (hb hby (od dB33 32 rfl)) rfl) ?_
            show own_Fin p e below _ (s₁.setTop (mkF m 55 #[.val (.long (Int64.ofNat n)), .second] [(.int (lcmpW (Int64.ofNat n) (1000000 : Int64)))]))
            by_cases hc237 : (lcmpW (Int64.ofNat n) (1000000 : Int64)) < (0 : Int32)
            · refine o_ifN X0 H (od dB33 33 rfl) ((if0 _ _).trans (tlt hc237).2.1) ?_
              refine o_bi X0 H (od dB33 34 rfl) (v := 6) rfl ?_
              exact own_ret (t := .int) X0 hx hlk hret rfl (Or.inl ⟨rfl, (by simp), _, rfl⟩) (hb hby (od dB33 35 rfl)) (⟨(by have p0 := (own_lcl (n := n) (k := 10) (by omega) (by decide)); have p1 := (own_lcl (n := n) (k := 100) (by omega) (by decide)); have p2 := (own_lcl (n := n) (k := 1000) (by omega) (by decide)); have p3 := (own_lcl (n := n) (k := 10000) (by omega) (by decide)); have p4 := (own_lcl (n := n) (k := 100000) (by omega) (by decide)); have p5 := (own_lcl (n := n) (k := 1000000) (by omega) (by decide)); unfold Jvm.Free.SBG.digits; rw [if_neg (fun q => hc232 (p0.mpr q)), if_neg (fun q => hc233 (p1.mpr q)), if_neg (fun q => hc234 (p2.mpr q)), if_neg (fun q => hc235 (p3.mpr q)), if_neg (fun q => hc236 (p4.mpr q)), if_pos (p5.mp hc237)]; rfl), N0, e0⟩) (by decide) (by decide)
            · refine o_ifY X0 H (od dB33 33 rfl) ((if0 _ _).trans (flt hc237).2.1) (pc' := 61) (by decide) (by decide) ?_
              refine o_lldN X0 H (od dB33 36 rfl) rfl ?_
              refine own_on (fun tq => X0.ldc2Long hx hown (mvT hZ (ow hw 213 rfl)) (g := (mkF m 62 #[.val (.long (Int64.ofNat n)), .second] [(.long (Int64.ofNat n))])) rfl (hb hby (od dB33 37 rfl)) tq) ?_
              show own_Fin p e below _ (s₁.setTop (mkF m 65 #[.val (.long (Int64.ofNat n)), .second] [(.long (10000000 : Int64)), (.long (Int64.ofNat n))]))
              refine own_on (fun tq => XS.lcmp X0.here hx rfl (hb hby (od dB33 38 rfl)) rfl) ?_
              show own_Fin p e below _ (s₁.setTop (mkF m 66 #[.val (.long (Int64.ofNat n)), .second] [(.int (lcmpW (Int64.ofNat n) (10000000 : Int64)))]))
              by_cases hc238 : (lcmpW (Int64.ofNat n) (10000000 : Int64)) < (0 : Int32)
              · refine o_ifN X0 H (od dB33 39 rfl) ((if0 _ _).trans (tlt hc238).2.1) ?_
                refine o_bi X0 H (od dB33 40 rfl) (v := 7) rfl ?_
                exact own_ret (t := .int) X0 hx hlk hret rfl (Or.inl ⟨rfl, (by simp), _, rfl⟩) (hb hby (od dB33 41 rfl)) (⟨(by have p0 := (own_lcl (n := n) (k := 10) (by omega) (by decide)); have p1 := (own_lcl (n := n) (k := 100) (by omega) (by decide)); have p2 := (own_lcl (n := n) (k := 1000) (by omega) (by decide)); have p3 := (own_lcl (n := n) (k := 10000) (by omega) (by decide)); have p4 := (own_lcl (n := n) (k := 100000) (by omega) (by decide)); have p5 := (own_lcl (n := n) (k := 1000000) (by omega) (by decide)); have p6 := (own_lcl (n := n) (k := 10000000) (by omega) (by decide)); unfold Jvm.Free.SBG.digits; rw [if_neg (fun q => hc232 (p0.mpr q)), if_neg (fun q => hc233 (p1.mpr q)), if_neg (fun q => hc234 (p2.mpr q)), if_neg (fun q => hc235 (p3.mpr q)), if_neg (fun q => hc236 (p4.mpr q)), if_neg (fun q => hc237 (p5.mpr q)), if_pos (p6.mp hc238)]; rfl), N0, e0⟩) (by decide) (by decide)
              · refine o_ifY X0 H (od dB33 39 rfl) ((if0 _ _).trans (flt hc238).2.1) (pc' := 72) (by decide) (by decide) ?_
                refine o_lldN X0 H (od dB33 42 rfl) rfl ?_
                refine own_on (fun tq => X0.ldc2Long hx hown (mvT hZ (ow hw 214 rfl)) (g := (mkF m 73 #[.val (.long (Int64.ofNat n)), .second] [(.long (Int64.ofNat n))])) rfl (hb hby (od dB33 43 rfl)) tq) ?_
                show own_Fin p e below _ (s₁.setTop (mkF m 76 #[.val (.long (Int64.ofNat n)), .second] [(.long (100000000 : Int64)), (.long (Int64.ofNat n))]))
                refine own_on (fun tq => XS.lcmp X0.here hx rfl (hb hby (od dB33 44 rfl)) rfl) ?_
                show own_Fin p e below _ (s₁.setTop (mkF m 77 #[.val (.long (Int64.ofNat n)), .second] [(.int (lcmpW (Int64.ofNat n) (100000000 : Int64)))]))
                by_cases hc239 : (lcmpW (Int64.ofNat n) (100000000 : Int64)) < (0 : Int32)
                · refine o_ifN X0 H (od dB33 45 rfl) ((if0 _ _).trans (tlt hc239).2.1) ?_
                  refine o_bi X0 H (od dB33 46 rfl) (v := 8) rfl ?_
                  exact own_ret (t := .int) X0 hx hlk hret rfl (Or.inl ⟨rfl, (by simp), _, rfl⟩) (hb hby (od dB33 47 rfl)) (⟨(by have p0 := (own_lcl (n := n) (k := 10) (by omega) (by decide)); have p1 := (own_lcl (n := n) (k := 100) (by omega) (by decide)); have p2 := (own_lcl (n := n) (k := 1000) (by omega) (by decide)); have p3 := (own_lcl (n := n) (k := 10000) (by omega) (by decide)); have p4 := (own_lcl (n := n) (k := 100000) (by omega) (by decide)); have p5 := (own_lcl (n := n) (k := 1000000) (by omega) (by decide)); have p6 := (own_lcl (n := n) (k := 10000000) (by omega) (by decide)); have p7 := (own_lcl (n := n) (k := 100000000) (by omega) (by decide)); unfold Jvm.Free.SBG.digits; rw [if_neg (fun q => hc232 (p0.mpr q)), if_neg (fun q => hc233 (p1.mpr q)), if_neg (fun q => hc234 (p2.mpr q)), if_neg (fun q => hc235 (p3.mpr q)), if_neg (fun q => hc236 (p4.mpr q)), if_neg (fun q => hc237 (p5.mpr q)), if_neg (fun q => hc238 (p6.mpr q)), if_pos (p7.mp hc239)]; rfl), N0, e0⟩) (by decide) (by decide)
                · refine o_ifY X0 H (od dB33 45 rfl) ((if0 _ _).trans (flt hc239).2.1) (pc' := 83) (by decide) (by decide) ?_
                  refine o_lldN X0 H (od dB33 48 rfl) rfl ?_
                  refine own_on (fun tq => X0.ldc2Long hx hown (mvT hZ (ow hw 215 rfl)) (g := (mkF m 84 #[.val (.long (Int64.ofNat n)), .second] [(.long (Int64.ofNat n))])) rfl (hb hby (od dB33 49 rfl)) tq) ?_
                  show own_Fin p e below _ (s₁.setTop (mkF m 87 #[.val (.long (Int64.ofNat n)), .second] [(.long (1000000000 : Int64)), (.long (Int64.ofNat n))]))
                  refine own_on (fun tq => XS.lcmp X0.here hx rfl (hb hby (od dB33 50 rfl)) rfl) ?_
                  show own_Fin p e below _ (s₁.setTop (mkF m 88 #[.val (.long (Int64.ofNat n)), .second] [(.int (lcmpW (Int64.ofNat n) (1000000000 : Int64)))]))
                  by_cases hc240 : (lcmpW (Int64.ofNat n) (1000000000 : Int64)) < (0 : Int32)
                  · refine o_ifN X0 H (od dB33 51 rfl) ((if0 _ _).trans (tlt hc240).2.1) ?_
                    refine o_bi X0 H (od dB33 52 rfl) (v := 9) rfl ?_
                    exact own_ret (t := .int) X0 hx hlk hret rfl (Or.inl ⟨rfl, (by simp), _, rfl⟩) (hb hby (od dB33 53 rfl)) (⟨(by have p0 := (own_lcl (n := n) (k := 10) (by omega) (by decide)); have p1 := (own_lcl (n := n) (k := 100) (by omega) (by decide)); have p2 := (own_lcl (n := n) (k := 1000) (by omega) (by decide)); have p3 := (own_lcl (n := n) (k := 10000) (by omega) (by decide)); have p4 := (own_lcl (n := n) (k := 100000) (by omega) (by decide)); have p5 := (own_lcl (n := n) (k := 1000000) (by omega) (by decide)); have p6 := (own_lcl (n := n) (k := 10000000) (by omega) (by decide)); have p7 := (own_lcl (n := n) (k := 100000000) (by omega) (by decide)); have p8 := (own_lcl (n := n) (k := 1000000000) (by omega) (by decide)); unfold Jvm.Free.SBG.digits; rw [if_neg (fun q => hc232 (p0.mpr q)), if_neg (fun q => hc233 (p1.mpr q)), if_neg (fun q => hc234 (p2.mpr q)), if_neg (fun q => hc235 (p3.mpr q)), if_neg (fun q => hc236 (p4.mpr q)), if_neg (fun q => hc237 (p5.mpr q)), if_neg (fun q => hc238 (p6.mpr q)), if_neg (fun q => hc239 (p7.mpr q)), if_pos (p8.mp hc240)]; rfl), N0, e0⟩) (by decide) (by decide)
                  · refine o_ifY X0 H (od dB33 51 rfl) ((if0 _ _).trans (flt hc240).2.1) (pc' := 94) (by decide) (by decide) ?_
                    refine o_bi X0 H (od dB33 54 rfl) (v := 10) rfl ?_
                    exact own_ret (t := .int) X0 hx hlk hret rfl (Or.inl ⟨rfl, (by simp), _, rfl⟩) (hb hby (od dB33 55 rfl)) (⟨(by have p0 := (own_lcl (n := n) (k := 10) (by omega) (by decide)); have p1 := (own_lcl (n := n) (k := 100) (by omega) (by decide)); have p2 := (own_lcl (n := n) (k := 1000) (by omega) (by decide)); have p3 := (own_lcl (n := n) (k := 10000) (by omega) (by decide)); have p4 := (own_lcl (n := n) (k := 100000) (by omega) (by decide)); have p5 := (own_lcl (n := n) (k := 1000000) (by omega) (by decide)); have p6 := (own_lcl (n := n) (k := 10000000) (by omega) (by decide)); have p7 := (own_lcl (n := n) (k := 100000000) (by omega) (by decide)); have p8 := (own_lcl (n := n) (k := 1000000000) (by omega) (by decide)); unfold Jvm.Free.SBG.digits; rw [if_neg (fun q => hc232 (p0.mpr q)), if_neg (fun q => hc233 (p1.mpr q)), if_neg (fun q => hc234 (p2.mpr q)), if_neg (fun q => hc235 (p3.mpr q)), if_neg (fun q => hc236 (p4.mpr q)), if_neg (fun q => hc237 (p5.mpr q)), if_neg (fun q => hc238 (p6.mpr q)), if_neg (fun q => hc239 (p7.mpr q)), if_neg (fun q => hc240 (p8.mpr q))]; rfl), N0, e0⟩) (by decide) (by decide)
theorem dB35 : oL method_5_code [(0, .aload_n 0, 1), (1, .iload_n 2, 1), (2, .invokevirtual 31, 3), (5, .aload_n 1, 1), (6, .iload_n 2, 1), (7, .invokevirtual 31, 3), (10, .if_icmp .ne 7, 3), (13, .iconst 1, 1), (14, .goto 4, 3), (17, .iconst 0, 1), (18, .ireturn, 1)] := by unfold oL; decide +kernel
theorem pd_24 : parseMethodDescriptor "(I)C" = some ⟨[.int], some .char⟩ := by decide +kernel
theorem ef_rm35 (m : MethodId) (x0 : Addr) (x1 : Addr) (x2 : Int32) : entryFrame m #[(.ref x0), (.ref x1), (.int x2)] 3 = mkF m 0 #[.val (.ref x0), .val (.ref x1), .val (.int x2)] [] := by first | (simp [entryFrame, mkF, argsToLocals, Value.category]; done) | rfl
def Q35 (Z : State) (x : Addr) (y : Addr) (z : Int32) (fm : Value) (tx : Addr) (kx : ClassId) (mx : Nat) (cs : List Int32) (ty : Addr) (ky : ClassId) (my : Nat) (ps : List Int32) (j : Nat) (h0 : Heap) (n0 : Nat) (v : Option Value) (h : Heap) (L : List Loc) : Prop := v = some (.int (1 : Int32)) ∧ Fr n0 L ∧ h = h0
set_option maxRecDepth 65536 in
set_option maxHeartbeats 40000000 in
theorem rm35 (l : Launch) (Z : State) (a0 : Array Value) (hw : ∀ d ∈ tables_1, d.before a0 Z = true) (ws : List Jvm.Cond) (x : Addr) (y : Addr) (z : Int32) (fm : Value) (tx : Addr) (kx : ClassId) (mx : Nat) (cs : List Int32) (ty : Addr) (ky : ClassId) (my : Nat) (ps : List Int32) (j : Nat) (h0 : Heap) (n0 : Nat) (Z0 : n0 ≤ h0.size) (hz : ¬ z = (0 : Int32)) (O : Old Z n0 h0) (SC : Sta Z Z.heap "java/lang/String" "COMPACT_STRINGS" "Z" (.int z)) (SF : Sta Z Z.heap "jdk/internal/util/Preconditions" "SIOOBE_FORMATTER" "Ljava/util/function/BiFunction;" fm) (hfm : fm.isRef = true) (Ex : Exa Z h0 x "java/lang/String") (Cx : Fld Z h0 x "java/lang/String" "coder" "B" (.int (0 : Int32))) (Vx : Fld Z h0 x "java/lang/String" "value" "[B" (.ref tx)) (Kx : Arv Z h0 tx kx .byte (Int32.ofNat mx) ((cs.map StrChars.lo8).map Value.int) (.int 0)) (hnx : cs.length = mx) (rgx : ∀ q_ ∈ cs, ¬ q_ < 0 ∧ ¬ (255 : Int32) < q_) (hmx : mx < 1000) (Ey : Exa Z h0 y "java/lang/String") (Cy : Fld Z h0 y "java/lang/String" "coder" "B" (.int (0 : Int32))) (Vy : Fld Z h0 y "java/lang/String" "value" "[B" (.ref ty)) (Ky : Arv Z h0 ty ky .byte (Int32.ofNat my) ((ps.map StrChars.lo8).map Value.int) (.int 0)) (hny : ps.length = my) (rgy : ∀ q_ ∈ ps, ¬ q_ < 0 ∧ ¬ (255 : Int32) < q_) (hmy : my < 1000) (hj1 : j < mx) (hj2 : j < my) (heq : cs.getD j 0 = ps.getD j 0) :
    own_M l (⟨"com/example/tidy_injector/tidyinjector/bench/StartupGraphClassNamePinLaw", "e", "(Ljava/lang/String;Ljava/lang/String;I)Z"⟩ : MethodName) method_5_code 3 (some .boolean) ws ({ frames := 4, cells := 0, slots := 0, locals := 54 } : Room) #[(.ref x), (.ref y), (.int (Int32.ofNat j))] Z h0 (Q35 Z x y z fm tx kx mx cs ty ky my ps j h0 n0) := by
  refine MetFree.of_bodySF (plainFor_of_name pn_6) hisR ?_
  intro p e s m args below meth cd s₁ Bd hml hP hK
  obtain ⟨rfl, hZ, hh⟩ := hP
  obtain ⟨X0, e0, H, hlk, hown, hret⟩ := own_start (R := ({ frames := 4, cells := 0, slots := 0, locals := 54 } : Room)) Bd hh rfl
  have hx := H.1; have hby := H.2; have N0 := Fr.nil n0
  show own_Fin p e below (own_Ans s (Q35 Z x y z fm tx kx mx cs ty ky my ps j h0 n0) ({ frames := 4, cells := 0, slots := 0, locals := 54 } : Room).cells ({ frames := 4, cells := 0, slots := 0, locals := 54 } : Room).slots) (s₁.setTop (entryFrame m #[(.ref x), (.ref y), (.int (Int32.ofNat j))] 3))
  refine own_cast (ef_rm35 m x y (Int32.ofNat j)) ?_
  show own_Fin p e below _ (s₁.setTop (mkF m 0 #[.val (.ref x), .val (.ref y), .val (.int (Int32.ofNat j))] []))
  refine o_aldN X0 H (od dB35 0 rfl) rfl rfl ?_
  refine o_ildN X0 H (od dB35 1 rfl) rfl ?_
  obtain ⟨cq241, kq241, q241a, q241b, q241c⟩ := isOf hZ e0 Ex
  obtain ⟨_, _, ⟨T241, L241, k241, n241⟩, -, X241, ⟨Lc241, hQ241, l241, y241, z241⟩, st241⟩ := X0.virtualBack hx (y := (⟨"java/lang/String", "charAt", "(I)C"⟩ : MethodName)) (z := (⟨"java/lang/String", "charAt", "(I)C"⟩ : MethodName)) hown (mvT hZ (ow hw 183 rfl)) (mvT hZ (ow hw 184 rfl)) (notFace_of_selects (args := #[]) (mvT hZ (ow hw 186 rfl))) (mvT hZ (ow hw 186 rfl)) (mvT hZ (ow hw 185 rfl)) (by decide) (StrChars.Road.chN (W := 0) hZ (own_wC hw) (ow hw 104 rfl) Ex Vx Cx Kx (own_cod hnx (fun c q => (rgx c q).2)) (own_r16 rgx) (SC.ext O.2) hz (SF.ext O.2) hfm (i := j) (by rw [hnx]; have := hmx; omega) (by rw [hnx]; have := hmx; omega) rfl (by decide) (by decide)) q241a q241c (g := (mkF m 2 #[.val (.ref x), .val (.ref y), .val (.int (Int32.ofNat j))] [(.int (Int32.ofNat j)), (.ref x)])) rfl hml.symm (Steps.refl _) (argsL := [(.int (Int32.ofNat j))]) (rest := []) (lenOf pd_24 rfl) rfl (o_mr rfl) (hb hby (od dB35 2 rfl)) (fun _ _ => ⟨rfl, e0, (by decide : 0 + 0 ≤ _), (by decide : 0 + 0 ≤ _)⟩)
  dsimp only [Pt.U, Pt.locs, Pt.cells, Pt.slots] at X241 l241 y241 z241 st241 hQ241
  replace l241 := l241.symm; replace y241 := y241.symm; replace z241 := z241.symm; subst l241 y241 z241
  obtain ⟨rfl, rfl, e241⟩ := hQ241
  have N241 := Fr.app N0 (Fr.nil n0)
  refine own_via st241 ?_
  show own_Fin p e below _ (T241.setTop (mkF m 5 #[.val (.ref x), .val (.ref y), .val (.int (Int32.ofNat j))] [(.int (cs.getD j 0))]))
  refine o_aldN X241 H (od dB35 3 rfl) rfl rfl ?_
  refine o_ildN X241 H (od dB35 4 rfl) rfl ?_
  obtain ⟨cq242, kq242, q242a, q242b, q242c⟩ := isOf hZ e241 Ey
  obtain ⟨_, _, ⟨T242, L242, k242, n242⟩, -, X242, ⟨Lc242, hQ242, l242, y242, z242⟩, st242⟩ := X241.virtualBack hx (y := (⟨"java/lang/String", "charAt", "(I)C"⟩ : MethodName)) (z := (⟨"java/lang/String", "charAt", "(I)C"⟩ : MethodName)) hown (mvT hZ (ow hw 183 rfl)) (mvT hZ (ow hw 184 rfl)) (notFace_of_selects (args := #[]) (mvT hZ (ow hw 186 rfl))) (mvT hZ (ow hw 186 rfl)) (mvT hZ (ow hw 185 rfl)) (by decide) (StrChars.Road.chN (W := 1) hZ (own_wC hw) (ow hw 104 rfl) Ey Vy Cy Ky (own_cod hny (fun c q => (rgy c q).2)) (own_r16 rgy) (SC.ext O.2) hz (SF.ext O.2) hfm (i := j) (by rw [hny]; have := hmy; omega) (by rw [hny]; have := hmy; omega) rfl (by decide) (by decide)) q242a q242c (g := (mkF m 7 #[.val (.ref x), .val (.ref y), .val (.int (Int32.ofNat j))] [(.int (Int32.ofNat j)), (.ref y), (.int (cs.getD j 0))])) rfl hml.symm (Steps.refl _) (argsL := [(.int (Int32.ofNat j))]) (rest := [(.int (cs.getD j 0))]) (lenOf pd_24 rfl) rfl (o_mr rfl) (hb hby (od dB35 5 rfl)) (fun _ _ => ⟨rfl, e241, (by decide : 0 + 0 ≤ _), (by decide : 0 + 0 ≤ _)⟩)
  dsimp only [Pt.U, Pt.locs, Pt.cells, Pt.slots] at X242 l242 y242 z242 st242 hQ242
  replace l242 := l242.symm; replace y242 := y242.symm; replace z242 := z242.symm; subst l242 y242 z242
  obtain ⟨rfl, rfl, e242⟩ := hQ242
  have N242 := Fr.app N241 (Fr.nil n0)
  refine own_via st242 ?_
  show own_Fin p e below _ (T242.setTop (mkF m 10 #[.val (.ref x), .val (.ref y), .val (.int (Int32.ofNat j))] [(.int (ps.getD j 0)), (.int (cs.getD j 0))]))
  refine o_icN X242 H (od dB35 6 rfl) (teq heq).2 ?_
  refine o_ic X242 H (od dB35 7 rfl) (v := 1) rfl ?_
  refine o_go X242 H (od dB35 8 rfl) (pc' := 18) (by decide) (by decide) ?_
  exact own_ret (t := .boolean) X242 hx hlk hret rfl (Or.inl ⟨rfl, (by simp), _, rfl⟩) (hb hby (od dB35 10 rfl)) (⟨rfl, N242, e242⟩) (by decide) (by decide)
theorem dB34 : oL method_6_code [(0, .aload_n 1, 1), (1, .invokevirtual 21, 3), (4, .bipush 52, 2), (6, .if_icmp .ne 12, 3), (9, .aload_n 0, 1), (10, .invokevirtual 21, 3), (13, .bipush 53, 2), (15, .if_icmp .ge 5, 3), (18, .iconst 0, 1), (19, .ireturn, 1), (20, .aload_n 0, 1), (21, .aload_n 1, 1), (22, .iconst 0, 1), (23, .invokestatic 57, 3), (26, .ifCond .eq 512, 3), (29, .aload_n 0, 1), (30, .aload_n 1, 1), (31, .iconst 1, 1), (32, .invokestatic 57, 3), (35, .ifCond .eq 503, 3), (38, .aload_n 0, 1), (39, .aload_n 1, 1), (40, .iconst 2, 1), (41, .invokestatic 57, 3), (44, .ifCond .eq 494, 3), (47, .aload_n 0, 1), (48, .aload_n 1, 1), (49, .iconst 3, 1), (50, .invokestatic 57, 3), (53, .ifCond .eq 485, 3), (56, .aload_n 0, 1), (57, .aload_n 1, 1), (58, .iconst 4, 1), (59, .invokestatic 57, 3), (62, .ifCond .eq 476, 3), (65, .aload_n 0, 1), (66, .aload_n 1, 1), (67, .iconst 5, 1), (68, .invokestatic 57, 3), (71, .ifCond .eq 467, 3), (74, .aload_n 0, 1), (75, .aload_n 1, 1), (76, .bipush 6, 2), (78, .invokestatic 57, 3), (81, .ifCond .eq 457, 3), (84, .aload_n 0, 1), (85, .aload_n 1, 1), (86, .bipush 7, 2), (88, .invokestatic 57, 3), (91, .ifCond .eq 447, 3), (94, .aload_n 0, 1), (95, .aload_n 1, 1), (96, .bipush 8, 2), (98, .invokestatic 57, 3), (101, .ifCond .eq 437, 3), (104, .aload_n 0, 1), (105, .aload_n 1, 1), (106, .bipush 9, 2), (108, .invokestatic 57, 3), (111, .ifCond .eq 427, 3), (114, .aload_n 0, 1), (115, .aload_n 1, 1), (116, .bipush 10, 2), (118, .invokestatic 57, 3), (121, .ifCond .eq 417, 3), (124, .aload_n 0, 1), (125, .aload_n 1, 1), (126, .bipush 11, 2), (128, .invokestatic 57, 3), (131, .ifCond .eq 407, 3), (134, .aload_n 0, 1), (135, .aload_n 1, 1), (136, .bipush 12, 2), (138, .invokestatic 57, 3), (141, .ifCond .eq 397, 3), (144, .aload_n 0, 1), (145, .aload_n 1, 1), (146, .bipush 13, 2), (148, .invokestatic 57, 3), (151, .ifCond .eq 387, 3), (154, .aload_n 0, 1), (155, .aload_n 1, 1), (156, .bipush 14, 2), (158, .invokestatic 57, 3), (161, .ifCond .eq 377, 3), (164, .aload_n 0, 1), (165, .aload_n 1, 1), (166, .bipush 15, 2), (168, .invokestatic 57, 3), (171, .ifCond .eq 367, 3), (174, .aload_n 0, 1), (175, .aload_n 1, 1), (176, .bipush 16, 2), (178, .invokestatic 57, 3), (181, .ifCond .eq 357, 3), (184, .aload_n 0, 1), (185, .aload_n 1, 1), (186, .bipush 17, 2), (188, .invokestatic 57, 3), (191, .ifCond .eq 347, 3), (194, .aload_n 0, 1), (195, .aload_n 1, 1), (196, .bipush 18, 2), (198, .invokestatic 57, 3), (201, .ifCond .eq 337, 3), (204, .aload_n 0, 1), (205, .aload_n 1, 1), (206, .bipush 19, 2), (208, .invokestatic 57, 3), (211, .ifCond .eq 327, 3), (214, .aload_n 0, 1), (215, .aload_n 1, 1), (216, .bipush 20, 2), (218, .invokestatic 57, 3), (221, .ifCond .eq 317, 3), (224, .aload_n 0, 1), (225, .aload_n 1, 1), (226, .bipush 21, 2), (228, .invokestatic 57, 3), (231, .ifCond .eq 307, 3), (234, .aload_n 0, 1), (235, .aload_n 1, 1), (236, .bipush 22, 2), (238, .invokestatic 57, 3), (241, .ifCond .eq 297, 3), (244, .aload_n 0, 1), (245, .aload_n 1, 1), (246, .bipush 23, 2), (248, .invokestatic 57, 3), (251, .ifCond .eq 287, 3), (254, .aload_n 0, 1), (255, .aload_n 1, 1), (256, .bipush 24, 2), (258, .invokestatic 57, 3), (261, .ifCond .eq 277, 3), (264, .aload_n 0, 1), (265, .aload_n 1, 1), (266, .bipush 25, 2), (268, .invokestatic 57, 3), (271, .ifCond .eq 267, 3), (274, .aload_n 0, 1), (275, .aload_n 1, 1), (276, .bipush 26, 2), (278, .invokestatic 57, 3), (281, .ifCond .eq 257, 3), (284, .aload_n 0, 1), (285, .aload_n 1, 1), (286, .bipush 27, 2), (288, .invokestatic 57, 3), (291, .ifCond .eq 247, 3), (294, .aload_n 0, 1), (295, .aload_n 1, 1), (296, .bipush 28, 2), (298, .invokestatic 57, 3), (301, .ifCond .eq 237, 3), (304, .aload_n 0, 1), (305, .aload_n 1, 1), (306, .bipush 29, 2), (308, .invokestatic 57, 3), (311, .ifCond .eq 227, 3), (314, .aload_n 0, 1), (315, .aload_n 1, 1), (316, .bipush 30, 2), (318, .invokestatic 57, 3), (321, .ifCond .eq 217, 3), (324, .aload_n 0, 1), (325, .aload_n 1, 1), (326, .bipush 31, 2), (328, .invokestatic 57, 3), (331, .ifCond .eq 207, 3), (334, .aload_n 0, 1), (335, .aload_n 1, 1), (336, .bipush 32, 2), (338, .invokestatic 57, 3), (341, .ifCond .eq 197, 3), (344, .aload_n 0, 1), (345, .aload_n 1, 1), (346, .bipush 33, 2), (348, .invokestatic 57, 3), (351, .ifCond .eq 187, 3), (354, .aload_n 0, 1), (355, .aload_n 1, 1), (356, .bipush 34, 2), (358, .invokestatic 57, 3), (361, .ifCond .eq 177, 3), (364, .aload_n 0, 1), (365, .aload_n 1, 1), (366, .bipush 35, 2), (368, .invokestatic 57, 3), (371, .ifCond .eq 167, 3), (374, .aload_n 0, 1), (375, .aload_n 1, 1), (376, .bipush 36, 2), (378, .invokestatic 57, 3), (381, .ifCond .eq 157, 3), (384, .aload_n 0, 1), (385, .aload_n 1, 1), (386, .bipush 37, 2), (388, .invokestatic 57, 3), (391, .ifCond .eq 147, 3), (394, .aload_n 0, 1), (395, .aload_n 1, 1), (396, .bipush 38, 2), (398, .invokestatic 57, 3), (401, .ifCond .eq 137, 3), (404, .aload_n 0, 1), (405, .aload_n 1, 1), (406, .bipush 39, 2), (408, .invokestatic 57, 3), (411, .ifCond .eq 127, 3), (414, .aload_n 0, 1), (415, .aload_n 1, 1), (416, .bipush 40, 2), (418, .invokestatic 57, 3), (421, .ifCond .eq 117, 3), (424, .aload_n 0, 1), (425, .aload_n 1, 1), (426, .bipush 41, 2), (428, .invokestatic 57, 3), (431, .ifCond .eq 107, 3), (434, .aload_n 0, 1), (435, .aload_n 1, 1), (436, .bipush 42, 2), (438, .invokestatic 57, 3), (441, .ifCond .eq 97, 3), (444, .aload_n 0, 1), (445, .aload_n 1, 1), (446, .bipush 43, 2), (448, .invokestatic 57, 3), (451, .ifCond .eq 87, 3), (454, .aload_n 0, 1), (455, .aload_n 1, 1), (456, .bipush 44, 2), (458, .invokestatic 57, 3), (461, .ifCond .eq 77, 3), (464, .aload_n 0, 1), (465, .aload_n 1, 1), (466, .bipush 45, 2), (468, .invokestatic 57, 3), (471, .ifCond .eq 67, 3), (474, .aload_n 0, 1), (475, .aload_n 1, 1), (476, .bipush 46, 2), (478, .invokestatic 57, 3), (481, .ifCond .eq 57, 3), (484, .aload_n 0, 1), (485, .aload_n 1, 1), (486, .bipush 47, 2), (488, .invokestatic 57, 3), (491, .ifCond .eq 47, 3), (494, .aload_n 0, 1), (495, .aload_n 1, 1), (496, .bipush 48, 2), (498, .invokestatic 57, 3), (501, .ifCond .eq 37, 3), (504, .aload_n 0, 1), (505, .aload_n 1, 1), (506, .bipush 49, 2), (508, .invokestatic 57, 3), (511, .ifCond .eq 27, 3), (514, .aload_n 0, 1), (515, .aload_n 1, 1), (516, .bipush 50, 2), (518, .invokestatic 57, 3), (521, .ifCond .eq 17, 3), (524, .aload_n 0, 1), (525, .aload_n 1, 1), (526, .bipush 51, 2), (528, .invokestatic 57, 3), (531, .ifCond .eq 7, 3), (534, .iconst 1, 1), (535, .goto 4, 3), (538, .iconst 0, 1), (539, .ireturn, 1)] := by unfold oL; decide +kernel
theorem pd_25 : parseMethodDescriptor "(Ljava/lang/String;Ljava/lang/String;I)Z" = some ⟨[(.object "java/lang/String"), (.object "java/lang/String"), .int], some .boolean⟩ := by decide +kernel
theorem ef_rm34 (m : MethodId) (x0 : Addr) (x1 : Addr) : entryFrame m #[(.ref x0), (.ref x1)] 2 = mkF m 0 #[.val (.ref x0), .val (.ref x1)] [] := by first | (simp [entryFrame, mkF, argsToLocals, Value.category]; done) | rfl
def Q34 (Z : State) (x : Addr) (y : Addr) (z : Int32) (fm : Value) (tx : Addr) (kx : ClassId) (mx : Nat) (cs : List Int32) (ty : Addr) (ky : ClassId) (my : Nat) (ps : List Int32) (h0 : Heap) (n0 : Nat) (v : Option Value) (h : Heap) (L : List Loc) : Prop := v = some (.int (1 : Int32)) ∧ Fr n0 L ∧ h = h0
set_option maxRecDepth 65536 in
set_option maxHeartbeats 40000000 in
theorem rm34 (l : Launch) (Z : State) (a0 : Array Value) (hw : ∀ d ∈ tables_1, d.before a0 Z = true) (ws : List Jvm.Cond) (x : Addr) (y : Addr) (z : Int32) (fm : Value) (tx : Addr) (kx : ClassId) (mx : Nat) (cs : List Int32) (ty : Addr) (ky : ClassId) (my : Nat) (ps : List Int32) (h0 : Heap) (n0 : Nat) (Z0 : n0 ≤ h0.size) (hz : ¬ z = (0 : Int32)) (O : Old Z n0 h0) (SC : Sta Z Z.heap "java/lang/String" "COMPACT_STRINGS" "Z" (.int z)) (SF : Sta Z Z.heap "jdk/internal/util/Preconditions" "SIOOBE_FORMATTER" "Ljava/util/function/BiFunction;" fm) (hfm : fm.isRef = true) (Ex : Exa Z h0 x "java/lang/String") (Cx : Fld Z h0 x "java/lang/String" "coder" "B" (.int (0 : Int32))) (Vx : Fld Z h0 x "java/lang/String" "value" "[B" (.ref tx)) (Kx : Arv Z h0 tx kx .byte (Int32.ofNat mx) ((cs.map StrChars.lo8).map Value.int) (.int 0)) (hnx : cs.length = mx) (rgx : ∀ q_ ∈ cs, ¬ q_ < 0 ∧ ¬ (255 : Int32) < q_) (hmx : mx < 1000) (Ey : Exa Z h0 y "java/lang/String") (Cy : Fld Z h0 y "java/lang/String" "coder" "B" (.int (0 : Int32))) (Vy : Fld Z h0 y "java/lang/String" "value" "[B" (.ref ty)) (Ky : Arv Z h0 ty ky .byte (Int32.ofNat my) ((ps.map StrChars.lo8).map Value.int) (.int 0)) (hny : ps.length = my) (rgy : ∀ q_ ∈ ps, ¬ q_ < 0 ∧ ¬ (255 : Int32) < q_) (hmy : my < 1000) (h52 : my = 52) (h53 : 53 ≤ mx) (heq : ∀ j, j < 52 → cs.getD j 0 = ps.getD j 0) :
    own_M l (⟨"com/example/tidy_injector/tidyinjector/bench/StartupGraphClassNamePinLaw", "prefix", "(Ljava/lang/String;Ljava/lang/String;)Z"⟩ : MethodName) method_6_code 2 (some .boolean) ws ({ frames := 5, cells := 0, slots := 0, locals := 68 } : Room) #[(.ref x), (.ref y)] Z h0 (Q34 Z x y z fm tx kx mx cs ty ky my ps h0 n0) := by
  refine MetFree.of_bodySF (plainFor_of_name pn_6) hisR ?_
  intro p e s m args below meth cd s₁ Bd hml hP hK
  obtain ⟨rfl, hZ, hh⟩ := hP
  obtain ⟨X0, e0, H, hlk, hown, hret⟩ := own_start (R := ({ frames := 5, cells := 0, slots := 0, locals := 68 } : Room)) Bd hh rfl
  have hx := H.1; have hby := H.2; have N0 := Fr.nil n0
  show own_Fin p e below (own_Ans s (Q34 Z x y z fm tx kx mx cs ty ky my ps h0 n0) ({ frames := 5, cells := 0, slots := 0, locals := 68 } : Room).cells ({ frames := 5, cells := 0, slots := 0, locals := 68 } : Room).slots) (s₁.setTop (entryFrame m #[(.ref x), (.ref y)] 2))
  refine own_cast (ef_rm34 m x y) ?_
  show own_Fin p e below _ (s₁.setTop (mkF m 0 #[.val (.ref x), .val (.ref y)] []))
  refine o_aldN X0 H (od dB34 0 rfl) rfl rfl ?_
  obtain ⟨cq243, kq243, q243a, q243b, q243c⟩ := isOf hZ e0 Ey
  obtain ⟨_, _, ⟨T243, L243, k243, n243⟩, -, X243, ⟨Lc243, hQ243, l243, y243, z243⟩, st243⟩ := X0.virtualBack hx (y := (⟨"java/lang/String", "length", "()I"⟩ : MethodName)) (z := (⟨"java/lang/String", "length", "()I"⟩ : MethodName)) hown (mvT hZ (ow hw 176 rfl)) (mvT hZ (ow hw 39 rfl)) (notFace_of_selects (args := #[]) (mvT hZ (ow hw 41 rfl))) (mvT hZ (ow hw 41 rfl)) (mvT hZ (ow hw 40 rfl)) (by decide) (StrChars.Road.lenW (W := 0) hZ (own_wL hw) (ow hw 104 rfl) Ey Vy Cy Ky (own_cod hny (fun c q => (rgy c q).2)) (own_r16 rgy) (SC.ext O.2) hz (by rw [hny]; have := hmy; omega) (by decide) (by decide)) q243a q243c (g := (mkF m 1 #[.val (.ref x), .val (.ref y)] [(.ref y)])) rfl hml.symm (Steps.refl _) (argsL := []) (rest := []) (lenOf pd_1 rfl) rfl (o_mr rfl) (hb hby (od dB34 1 rfl)) (fun _ _ => ⟨rfl, e0, (by decide : 0 + 0 ≤ _), (by decide : 0 + 0 ≤ _)⟩)
  dsimp only [Pt.U, Pt.locs, Pt.cells, Pt.slots] at X243 l243 y243 z243 st243 hQ243
  replace l243 := l243.symm; replace y243 := y243.symm; replace z243 := z243.symm; subst l243 y243 z243
  obtain ⟨rfl, rfl, e243⟩ := hQ243
  have N243 := Fr.app N0 (Fr.nil n0)
  rw [hny] at st243
  refine own_via st243 ?_
  show own_Fin p e below _ (T243.setTop (mkF m 4 #[.val (.ref x), .val (.ref y)] [(.int (Int32.ofNat my))]))
  refine o_bi X243 H (od dB34 2 rfl) (v := 52) rfl ?_
  refine o_icN X243 H (od dB34 3 rfl) (teq (congrArg Int32.ofNat h52)).2 ?_
  refine o_aldN X243 H (od dB34 4 rfl) rfl rfl ?_
  obtain ⟨cq244, kq244, q244a, q244b, q244c⟩ := isOf hZ e243 Ex
  obtain ⟨_, _, ⟨T244, L244, k244, n244⟩, -, X244, ⟨Lc244, hQ244, l244, y244, z244⟩, st244⟩ := X243.virtualBack hx (y := (⟨"java/lang/String", "length", "()I"⟩ : MethodName)) (z := (⟨"java/lang/String", "length", "()I"⟩ : MethodName)) hown (mvT hZ (ow hw 176 rfl)) (mvT hZ (ow hw 39 rfl)) (notFace_of_selects (args := #[]) (mvT hZ (ow hw 41 rfl))) (mvT hZ (ow hw 41 rfl)) (mvT hZ (ow hw 40 rfl)) (by decide) (StrChars.Road.lenW (W := 0) hZ (own_wL hw) (ow hw 104 rfl) Ex Vx Cx Kx (own_cod hnx (fun c q => (rgx c q).2)) (own_r16 rgx) (SC.ext O.2) hz (by rw [hnx]; have := hmx; omega) (by decide) (by decide)) q244a q244c (g := (mkF m 10 #[.val (.ref x), .val (.ref y)] [(.ref x)])) rfl hml.symm (Steps.refl _) (argsL := []) (rest := []) (lenOf pd_1 rfl) rfl (o_mr rfl) (hb hby (od dB34 5 rfl)) (fun _ _ => ⟨rfl, e243, (by decide : 0 + 0 ≤ _), (by decide : 0 + 0 ≤ _)⟩)
  dsimp only [Pt.U, Pt.locs, Pt.cells, Pt.slots] at X244 l244 y244 z244 st244 hQ244
  replace l244 := l244.symm; replace y244 := y244.symm; replace z244 := z244.symm; subst l244 y244 z244
  obtain ⟨rfl, rfl, e244⟩ := hQ244
  have N244 := Fr.app N243 (Fr.nil n0)
  rw [hnx] at st244
  refine own_via st244 ?_
  show own_Fin p e below _ (T244.setTop (mkF m 13 #[.val (.ref x), .val (.ref y)] [(.int (Int32.ofNat mx))]))
  refine o_bi X244 H (od dB34 6 rfl) (v := 53) rfl ?_
  refine o_icY X244 H (od dB34 7 rfl) (flt (own_onlt (b := 53) h53 (by omega))).2.1 (pc' := 20) (by decide) (by decide) ?_
  refine o_aldN X244 H (od dB34 10 rfl) rfl rfl ?_
  refine o_aldN X244 H (od dB34 11 rfl) rfl rfl ?_
  refine o_ic X244 H (od dB34 12 rfl) (v := 0) rfl ?_
  refine o_tc (argsL := [(.ref x), (.ref y), (.int (0 : Int32))]) (rest := []) X244 H hml hZ hown (ow hw 180 rfl) (ow hw 181 rfl) (ow hw 173 rfl) (ow hw 182 rfl) (backOf (W := 0) (rm35 l Z a0 hw [] x y z fm tx kx mx cs ty ky my ps 0 h0 n0 (by exact Z0) hz O SC SF hfm Ex Cx Vx Kx hnx rgx hmx Ey Cy Vy Ky hny rgy hmy (by omega) (by omega) (heq 0 (by decide))) hZ (ow hw 182 rfl) (ow hw 173 rfl) (by decide) (by decide)) (by decide) e244 pd_25 (od dB34 13 rfl) rfl rfl rfl rfl rfl (by decide) (by decide) (o_pk (fun _ _ _ q => q) N244 fun T245 Lc245 X245 N245 e245 => ?_)
  refine o_ifN X245 H (od dB34 14 rfl) ((if0 _ _).trans (feq (by decide : ¬ ((1 : Int32) = (0 : Int32)))).1) ?_
  refine o_aldN X245 H (od dB34 15 rfl) rfl rfl ?_
  refine o_aldN X245 H (od dB34 16 rfl) rfl rfl ?_
  refine o_ic X245 H (od dB34 17 rfl) (v := 1) rfl ?_
  refine o_tc (argsL := [(.ref x), (.ref y), (.int (1 : Int32))]) (rest := []) X245 H hml hZ hown (ow hw 180 rfl) (ow hw 181 rfl) (ow hw 173 rfl) (ow hw 182 rfl) (backOf (W := 0) (rm35 l Z a0 hw [] x y z fm tx kx mx cs ty ky my ps 1 h0 n0 (by exact Z0) hz O SC SF hfm Ex Cx Vx Kx hnx rgx hmx Ey Cy Vy Ky hny rgy hmy (by omega) (by omega) (heq 1 (by decide))) hZ (ow hw 182 rfl) (ow hw 173 rfl) (by decide) (by decide)) (by decide) e245 pd_25 (od dB34 18 rfl) rfl rfl rfl rfl rfl (by decide) (by decide) (o_pk (fun _ _ _ q => q) N245 fun T246 Lc246 X246 N246 e246 => ?_)
  refine o_ifN X246 H (od dB34 19 rfl) ((if0 _ _).trans (feq (by decide : ¬ ((1 : Int32) = (0 : Int32)))).1) ?_
  refine o_aldN X246 H (od dB34 20 rfl) rfl rfl ?_
  refine o_aldN X246 H (od dB34 21 rfl) rfl rfl ?_
  refine o_ic X246 H (od dB34 22 rfl) (v := 2) rfl ?_
  refine o_tc (argsL := [(.ref x), (.ref y), (.int (2 : Int32))]) (rest := []) X246 H hml hZ hown (ow hw 180 rfl) (ow hw 181 rfl) (ow hw 173 rfl) (ow hw 182 rfl) (backOf (W := 0) (rm35 l Z a0 hw [] x y z fm tx kx mx cs ty ky my ps 2 h0 n0 (by exact Z0) hz O SC SF hfm Ex Cx Vx Kx hnx rgx hmx Ey Cy Vy Ky hny rgy hmy (by omega) (by omega) (heq 2 (by decide))) hZ (ow hw 182 rfl) (ow hw 173 rfl) (by decide) (by decide)) (by decide) e246 pd_25 (od dB34 23 rfl) rfl rfl rfl rfl rfl (by decide) (by decide) (o_pk (fun _ _ _ q => q) N246 fun T247 Lc247 X247 N247 e247 => ?_)
  refine o_ifN X247 H (od dB34 24 rfl) ((if0 _ _).trans (feq (by decide : ¬ ((1 : Int32) = (0 : Int32)))).1) ?_
  refine o_aldN X247 H (od dB34 25 rfl) rfl rfl ?_
  refine o_aldN X247 H (od dB34 26 rfl) rfl rfl ?_
  refine o_ic X247 H (od dB34 27 rfl) (v := 3) rfl ?_
  refine o_tc (argsL := [(.ref x), (.ref y), (.int (3 : Int32))]) (rest := []) X247 H hml hZ hown (ow hw 180 rfl) (ow hw 181 rfl) (ow hw 173 rfl) (ow hw 182 rfl) (backOf (W := 0) (rm35 l Z a0 hw [] x y z fm tx kx mx cs ty ky my ps 3 h0 n0 (by exact Z0) hz O SC SF hfm Ex Cx Vx Kx hnx rgx hmx Ey Cy Vy Ky hny rgy hmy (by omega) (by omega) (heq 3 (by decide))) hZ (ow hw 182 rfl) (ow hw 173 rfl) (by decide) (by decide)) (by decide) e247 pd_25 (od dB34 28 rfl) rfl rfl rfl rfl rfl (by decide) (by decide) (o_pk (fun _ _ _ q => q) N247 fun T248 Lc248 X248 N248 e248 => ?_)
  refine o_ifN X248 H (od dB34 29 rfl) ((if0 _ _).trans (feq (by decide : ¬ ((1 : Int32) = (0 : Int32)))).1) ?_
  refine o_aldN X248 H (od dB34 30 rfl) rfl rfl ?_
  refine o_aldN X248 H (od dB34 31 rfl) rfl rfl ?_
  refine o_ic X248 H (od dB34 32 rfl) (v := 4) rfl ?_
  refine o_tc (argsL := [(.ref x), (.ref y), (.int (4 : Int32))]) (rest := []) X248 H hml hZ hown (ow hw 180 rfl) (ow hw 181 rfl) (ow hw 173 rfl) (ow hw 182 rfl) (backOf (W := 0) (rm35 l Z a0 hw [] x y z fm tx kx mx cs ty ky my ps 4 h0 n0 (by exact Z0) hz O SC SF hfm Ex Cx Vx Kx hnx rgx hmx Ey Cy Vy Ky hny rgy hmy (by omega) (by omega) (heq 4 (by decide))) hZ (ow hw 182 rfl) (ow hw 173 rfl) (by decide) (by decide)) (by decide) e248 pd_25 (od dB34 33 rfl) rfl rfl rfl rfl rfl (by decide) (by decide) (o_pk (fun _ _ _ q => q) N248 fun T249 Lc249 X249 N249 e249 => ?_)
  refine o_ifN X249 H (od dB34 34 rfl) ((if0 _ _).trans (feq (by decide : ¬ ((1 : Int32) = (0 : Int32)))).1) ?_
  refine o_aldN X249 H (od dB34 35 rfl) rfl rfl ?_
  refine o_aldN X249 H (od dB34 36 rfl) rfl rfl ?_
  refine o_ic X249 H (od dB34 37 rfl) (v := 5) rfl ?_
  refine o_tc (argsL := [(.ref x), (.ref y), (.int (5 : Int32))]) (rest := []) X249 H hml hZ hown (ow hw 180 rfl) (ow hw 181 rfl) (ow hw 173 rfl) (ow hw 182 rfl) (backOf (W := 0) (rm35 l Z a0 hw [] x y z fm tx kx mx cs ty ky my ps 5 h0 n0 (by exact Z0) hz O SC SF hfm Ex Cx Vx Kx hnx rgx hmx Ey Cy Vy Ky hny rgy hmy (by omega) (by omega) (heq 5 (by decide))) hZ (ow hw 182 rfl) (ow hw 173 rfl) (by decide) (by decide)) (by decide) e249 pd_25 (od dB34 38 rfl) rfl rfl rfl rfl rfl (by decide) (by decide) (o_pk (fun _ _ _ q => q) N249 fun T250 Lc250 X250 N250 e250 => ?_)
  refine o_ifN X250 H (od dB34 39 rfl) ((if0 _ _).trans (feq (by decide : ¬ ((1 : Int32) = (0 : Int32)))).1) ?_
  refine o_aldN X250 H (od dB34 40 rfl) rfl rfl ?_
  refine o_aldN X250 H (od dB34 41 rfl) rfl rfl ?_
  refine o_bi X250 H (od dB34 42 rfl) (v := 6) rfl ?_
  refine o_tc (argsL := [(.ref x), (.ref y), (.int (6 : Int32))]) (rest := []) X250 H hml hZ hown (ow hw 180 rfl) (ow hw 181 rfl) (ow hw 173 rfl) (ow hw 182 rfl) (backOf (W := 0) (rm35 l Z a0 hw [] x y z fm tx kx mx cs ty ky my ps 6 h0 n0 (by exact Z0) hz O SC SF hfm Ex Cx Vx Kx hnx rgx hmx Ey Cy Vy Ky hny rgy hmy (by omega) (by omega) (heq 6 (by decide))) hZ (ow hw 182 rfl) (ow hw 173 rfl) (by decide) (by decide)) (by decide) e250 pd_25 (od dB34 43 rfl) rfl rfl rfl rfl rfl (by decide) (by decide) (o_pk (fun _ _ _ q => q) N250 fun T251 Lc251 X251 N251 e251 => ?_)
  refine o_ifN X251 H (od dB34 44 rfl) ((if0 _ _).trans (feq (by decide : ¬ ((1 : Int32) = (0 : Int32)))).1) ?_
  refine o_aldN X251 H (od dB34 45 rfl) rfl rfl ?_
  refine o_aldN X251 H (od dB34 46 rfl) rfl rfl ?_
  refine o_bi X251 H (od dB34 47 rfl) (v := 7) rfl ?_
  refine o_tc (argsL := [(.ref x), (.ref y), (.int (7 : Int32))]) (rest := []) X251 H hml hZ hown (ow hw 180 rfl) (ow hw 181 rfl) (ow hw 173 rfl) (ow hw 182 rfl) (backOf (W := 0) (rm35 l Z a0 hw [] x y z fm tx kx mx cs ty ky my ps 7 h0 n0 (by exact Z0) hz O SC SF hfm Ex Cx Vx Kx hnx rgx hmx Ey Cy Vy Ky hny rgy hmy (by omega) (by omega) (heq 7 (by decide))) hZ (ow hw 182 rfl) (ow hw 173 rfl) (by decide) (by decide)) (by decide) e251 pd_25 (od dB34 48 rfl) rfl rfl rfl rfl rfl (by decide) (by decide) (o_pk (fun _ _ _ q => q) N251 fun T252 Lc252 X252 N252 e252 => ?_)
  refine o_ifN X252 H (od dB34 49 rfl) ((if0 _ _).trans (feq (by decide : ¬ ((1 : Int32) = (0 : Int32)))).1) ?_
  refine o_aldN X252 H (od dB34 50 rfl) rfl rfl ?_
  refine o_aldN X252 H (od dB34 51 rfl) rfl rfl ?_
  refine o_bi X252 H (od dB34 52 rfl) (v := 8) rfl ?_
  refine o_tc (argsL := [(.ref x), (.ref y), (.int (8 : Int32))]) (rest := []) X252 H hml hZ hown (ow hw 180 rfl) (ow hw 181 rfl) (ow hw 173 rfl) (ow hw 182 rfl) (backOf (W := 0) (rm35 l Z a0 hw [] x y z fm tx kx mx cs ty ky my ps 8 h0 n0 (by exact Z0) hz O SC SF hfm Ex Cx Vx Kx hnx rgx hmx Ey Cy Vy Ky hny rgy hmy (by omega) (by omega) (heq 8 (by decide))) hZ (ow hw 182 rfl) (ow hw 173 rfl) (by decide) (by decide)) (by decide) e252 pd_25 (od dB34 53 rfl) rfl rfl rfl rfl rfl (by decide) (by decide) (o_pk (fun _ _ _ q => q) N252 fun T253 Lc253 X253 N253 e253 => ?_)
  refine o_ifN X253 H (od dB34 54 rfl) ((if0 _ _).trans (feq (by decide : ¬ ((1 : Int32) = (0 : Int32)))).1) ?_
  refine o_aldN X253 H (od dB34 55 rfl) rfl rfl ?_
  refine o_aldN X253 H (od dB34 56 rfl) rfl rfl ?_
  refine o_bi X253 H (od dB34 57 rfl) (v := 9) rfl ?_
  refine o_tc (argsL := [(.ref x), (.ref y), (.int (9 : Int32))]) (rest := []) X253 H hml hZ hown (ow hw 180 rfl) (ow hw 181 rfl) (ow hw 173 rfl) (ow hw 182 rfl) (backOf (W := 0) (rm35 l Z a0 hw [] x y z fm tx kx mx cs ty ky my ps 9 h0 n0 (by exact Z0) hz O SC SF hfm Ex Cx Vx Kx hnx rgx hmx Ey Cy Vy Ky hny rgy hmy (by omega) (by omega) (heq 9 (by decide))) hZ (ow hw 182 rfl) (ow hw 173 rfl) (by decide) (by decide)) (by decide) e253 pd_25 (od dB34 58 rfl) rfl rfl rfl rfl rfl (by decide) (by decide) (o_pk (fun _ _ _ q => q) N253 fun T254 Lc254 X254 N254 e254 => ?_)
  refine o_ifN X254 H (od dB34 59 rfl) ((if0 _ _).trans (feq (by decide : ¬ ((1 : Int32) = (0 : Int32)))).1) ?_
  refine o_aldN X254 H (od dB34 60 rfl) rfl rfl ?_
  refine o_aldN X254 H (od dB34 61 rfl) rfl rfl ?_
  refine o_bi X254 H (od dB34 62 rfl) (v := 10) rfl ?_
  refine o_tc (argsL := [(.ref x), (.ref y), (.int (10 : Int32))]) (rest := []) X254 H hml hZ hown (ow hw 180 rfl) (ow hw 181 rfl) (ow hw 173 rfl) (ow hw 182 rfl) (backOf (W := 0) (rm35 l Z a0 hw [] x y z fm tx kx mx cs ty ky my ps 10 h0 n0 (by exact Z0) hz O SC SF hfm Ex Cx Vx Kx hnx rgx hmx Ey Cy Vy Ky hny rgy hmy (by omega) (by omega) (heq 10 (by decide))) hZ (ow hw 182 rfl) (ow hw 173 rfl) (by decide) (by decide)) (by decide) e254 pd_25 (od dB34 63 rfl) rfl rfl rfl rfl rfl (by decide) (by decide) (o_pk (fun _ _ _ q => q) N254 fun T255 Lc255 X255 N255 e255 => ?_)
  refine o_ifN X255 H (od dB34 64 rfl) ((if0 _ _).trans (feq (by decide : ¬ ((1 : Int32) = (0 : Int32)))).1) ?_
  refine o_aldN X255 H (od dB34 65 rfl) rfl rfl ?_
  refine o_aldN X255 H (od dB34 66 rfl) rfl rfl ?_
  refine o_bi X255 H (od dB34 67 rfl) (v := 11) rfl ?_
  refine o_tc (argsL := [(.ref x), (.ref y), (.int (11 : Int32))]) (rest := []) X255 H hml hZ hown (ow hw 180 rfl) (ow hw 181 rfl) (ow hw 173 rfl) (ow hw 182 rfl) (backOf (W := 0) (rm35 l Z a0 hw [] x y z fm tx kx mx cs ty ky my ps 11 h0 n0 (by exact Z0) hz O SC SF hfm Ex Cx Vx Kx hnx rgx hmx Ey Cy Vy Ky hny rgy hmy (by omega) (by omega) (heq 11 (by decide))) hZ (ow hw 182 rfl) (ow hw 173 rfl) (by decide) (by decide)) (by decide) e255 pd_25 (od dB34 68 rfl) rfl rfl rfl rfl rfl (by decide) (by decide) (o_pk (fun _ _ _ q => q) N255 fun T256 Lc256 X256 N256 e256 => ?_)
  refine o_ifN X256 H (od dB34 69 rfl) ((if0 _ _).trans (feq (by decide : ¬ ((1 : Int32) = (0 : Int32)))).1) ?_
  refine o_aldN X256 H (od dB34 70 rfl) rfl rfl ?_
  refine o_aldN X256 H (od dB34 71 rfl) rfl rfl ?_
  refine o_bi X256 H (od dB34 72 rfl) (v := 12) rfl ?_
  refine o_tc (argsL := [(.ref x), (.ref y), (.int (12 : Int32))]) (rest := []) X256 H hml hZ hown (ow hw 180 rfl) (ow hw 181 rfl) (ow hw 173 rfl) (ow hw 182 rfl) (backOf (W := 0) (rm35 l Z a0 hw [] x y z fm tx kx mx cs ty ky my ps 12 h0 n0 (by exact Z0) hz O SC SF hfm Ex Cx Vx Kx hnx rgx hmx Ey Cy Vy Ky hny rgy hmy (by omega) (by omega) (heq 12 (by decide))) hZ (ow hw 182 rfl) (ow hw 173 rfl) (by decide) (by decide)) (by decide) e256 pd_25 (od dB34 73 rfl) rfl rfl rfl rfl rfl (by decide) (by decide) (o_pk (fun _ _ _ q => q) N256 fun T257 Lc257 X257 N257 e257 => ?_)
  refine o_ifN X257 H (od dB34 74 rfl) ((if0 _ _).trans (feq (by decide : ¬ ((1 : Int32) = (0 : Int32)))).1) ?_
  refine o_aldN X257 H (od dB34 75 rfl) rfl rfl ?_
  refine o_aldN X257 H (od dB34 76 rfl) rfl rfl ?_
  refine o_bi X257 H (od dB34 77 rfl) (v := 13) rfl ?_
  refine o_tc (argsL := [(.ref x), (.ref y), (.int (13 : Int32))]) (rest := []) X257 H hml hZ hown (ow hw 180 rfl) (ow hw 181 rfl) (ow hw 173 rfl) (ow hw 182 rfl) (backOf (W := 0) (rm35 l Z a0 hw [] x y z fm tx kx mx cs ty ky my ps 13 h0 n0 (by exact Z0) hz O SC SF hfm Ex Cx Vx Kx hnx rgx hmx Ey Cy Vy Ky hny rgy hmy (by omega) (by omega) (heq 13 (by decide))) hZ (ow hw 182 rfl) (ow hw 173 rfl) (by decide) (by decide)) (by decide) e257 pd_25 (od dB34 78 rfl) rfl rfl rfl rfl rfl (by decide) (by decide) (o_pk (fun _ _ _ q => q) N257 fun T258 Lc258 X258 N258 e258 => ?_)
  refine o_ifN X258 H (od dB34 79 rfl) ((if0 _ _).trans (feq (by decide : ¬ ((1 : Int32) = (0 : Int32)))).1) ?_
  refine o_aldN X258 H (od dB34 80 rfl) rfl rfl ?_
  refine o_aldN X258 H (od dB34 81 rfl) rfl rfl ?_
  refine o_bi X258 H (od dB34 82 rfl) (v := 14) rfl ?_
  refine o_tc (argsL := [(.ref x), (.ref y), (.int (14 : Int32))]) (rest := []) X258 H hml hZ hown (ow hw 180 rfl) (ow hw 181 rfl) (ow hw 173 rfl) (ow hw 182 rfl) (backOf (W := 0) (rm35 l Z a0 hw [] x y z fm tx kx mx cs ty ky my ps 14 h0 n0 (by exact Z0) hz O SC SF hfm Ex Cx Vx Kx hnx rgx hmx Ey Cy Vy Ky hny rgy hmy (by omega) (by omega) (heq 14 (by decide))) hZ (ow hw 182 rfl) (ow hw 173 rfl) (by decide) (by decide)) (by decide) e258 pd_25 (od dB34 83 rfl) rfl rfl rfl rfl rfl (by decide) (by decide) (o_pk (fun _ _ _ q => q) N258 fun T259 Lc259 X259 N259 e259 => ?_)
  refine o_ifN X259 H (od dB34 84 rfl) ((if0 _ _).trans (feq (by decide : ¬ ((1 : Int32) = (0 : Int32)))).1) ?_
  refine o_aldN X259 H (od dB34 85 rfl) rfl rfl ?_
  refine o_aldN X259 H (od dB34 86 rfl) rfl rfl ?_
  refine o_bi X259 H (od dB34 87 rfl) (v := 15) rfl ?_
  refine o_tc (argsL := [(.ref x), (.ref y), (.int (15 : Int32))]) (rest := []) X259 H hml hZ hown (ow hw 180 rfl) (ow hw 181 rfl) (ow hw 173 rfl) (ow hw 182 rfl) (backOf (W := 0) (rm35 l Z a0 hw [] x y z fm tx kx mx cs ty ky my ps 15 h0 n0 (by exact Z0) hz O SC SF hfm Ex Cx Vx Kx hnx rgx hmx Ey Cy Vy Ky hny rgy hmy (by omega) (by omega) (heq 15 (by decide))) hZ (ow hw 182 rfl) (ow hw 173 rfl) (by decide) (by decide)) (by decide) e259 pd_25 (od dB34 88 rfl) rfl rfl rfl rfl rfl (by decide) (by decide) (o_pk (fun _ _ _ q => q) N259 fun T260 Lc260 X260 N260 e260 => ?_)
  refine o_ifN X260 H (od dB34 89 rfl) ((if0 _ _).trans (feq (by decide : ¬ ((1 : Int32) = (0 : Int32)))).1) ?_
  refine o_aldN X260 H (od dB34 90 rfl) rfl rfl ?_
  refine o_aldN X260 H (od dB34 91 rfl) rfl rfl ?_
  refine o_bi X260 H (od dB34 92 rfl) (v := 16) rfl ?_
  refine o_tc (argsL := [(.ref x), (.ref y), (.int (16 : Int32))]) (rest := []) X260 H hml hZ hown (ow hw 180 rfl) (ow hw 181 rfl) (ow hw 173 rfl) (ow hw 182 rfl) (backOf (W := 0) (rm35 l Z a0 hw [] x y z fm tx kx mx cs ty ky my ps 16 h0 n0 (by exact Z0) hz O SC SF hfm Ex Cx Vx Kx hnx rgx hmx Ey Cy Vy Ky hny rgy hmy (by omega) (by omega) (heq 16 (by decide))) hZ (ow hw 182 rfl) (ow hw 173 rfl) (by decide) (by decide)) (by decide) e260 pd_25 (od dB34 93 rfl) rfl rfl rfl rfl rfl (by decide) (by decide) (o_pk (fun _ _ _ q => q) N260 fun T261 Lc261 X261 N261 e261 => ?_)
  refine o_ifN X261 H (od dB34 94 rfl) ((if0 _ _).trans (feq (by decide : ¬ ((1 : Int32) = (0 : Int32)))).1) ?_
  refine o_aldN X261 H (od dB34 95 rfl) rfl rfl ?_
  refine o_aldN X261 H (od dB34 96 rfl) rfl rfl ?_
  refine o_bi X261 H (od dB34 97 rfl) (v := 17) rfl ?_
  refine o_tc (argsL := [(.ref x), (.ref y), (.int (17 : Int32))]) (rest := []) X261 H hml hZ hown (ow hw 180 rfl) (ow hw 181 rfl) (ow hw 173 rfl) (ow hw 182 rfl) (backOf (W := 0) (rm35 l Z a0 hw [] x y z fm tx kx mx cs ty ky my ps 17 h0 n0 (by exact Z0) hz O SC SF hfm Ex Cx Vx Kx hnx rgx hmx Ey Cy Vy Ky hny rgy hmy (by omega) (by omega) (heq 17 (by decide))) hZ (ow hw 182 rfl) (ow hw 173 rfl) (by decide) (by decide)) (by decide) e261 pd_25 (od dB34 98 rfl) rfl rfl rfl rfl rfl (by decide) (by decide) (o_pk (fun _ _ _ q => q) N261 fun T262 Lc262 X262 N262 e262 => ?_)
  refine o_ifN X262 H (od dB34 99 rfl) ((if0 _ _).trans (feq (by decide : ¬ ((1 : Int32) = (0 : Int32)))).1) ?_
  refine o_aldN X262 H (od dB34 100 rfl) rfl rfl ?_
  refine o_aldN X262 H (od dB34 101 rfl) rfl rfl ?_
  refine o_bi X262 H (od dB34 102 rfl) (v := 18) rfl ?_
  refine o_tc (argsL := [(.ref x), (.ref y), (.int (18 : Int32))]) (rest := []) X262 H hml hZ hown (ow hw 180 rfl) (ow hw 181 rfl) (ow hw 173 rfl) (ow hw 182 rfl) (backOf (W := 0) (rm35 l Z a0 hw [] x y z fm tx kx mx cs ty ky my ps 18 h0 n0 (by exact Z0) hz O SC SF hfm Ex Cx Vx Kx hnx rgx hmx Ey Cy Vy Ky hny rgy hmy (by omega) (by omega) (heq 18 (by decide))) hZ (ow hw 182 rfl) (ow hw 173 rfl) (by decide) (by decide)) (by decide) e262 pd_25 (od dB34 103 rfl) rfl rfl rfl rfl rfl (by decide) (by decide) (o_pk (fun _ _ _ q => q) N262 fun T263 Lc263 X263 N263 e263 => ?_)
  refine o_ifN X263 H (od dB34 104 rfl) ((if0 _ _).trans (feq (by decide : ¬ ((1 : Int32) = (0 : Int32)))).1) ?_
  refine o_aldN X263 H (od dB34 105 rfl) rfl rfl ?_
  refine o_aldN X263 H (od dB34 106 rfl) rfl rfl ?_
  refine o_bi X263 H (od dB34 107 rfl) (v := 19) rfl ?_
  refine o_tc (argsL := [(.ref x), (.ref y), (.int (19 : Int32))]) (rest := []) X263 H hml hZ hown (ow hw 180 rfl) (ow hw 181 rfl) (ow hw 173 rfl) (ow hw 182 rfl) (backOf (W := 0) (rm35 l Z a0 hw [] x y z fm tx kx mx cs ty ky my ps 19 h0 n0 (by exact Z0) hz O SC SF hfm Ex Cx Vx Kx hnx rgx hmx Ey Cy Vy Ky hny rgy hmy (by omega) (by omega) (heq 19 (by decide))) hZ (ow hw 182 rfl) (ow hw 173 rfl) (by decide) (by decide)) (by decide) e263 pd_25 (od dB34 108 rfl) rfl rfl rfl rfl rfl (by decide) (by decide) (o_pk (fun _ _ _ q => q) N263 fun T264 Lc264 X264 N264 e264 => ?_)
  refine o_ifN X264 H (od dB34 109 rfl) ((if0 _ _).trans (feq (by decide : ¬ ((1 : Int32) = (0 : Int32)))).1) ?_
  refine o_aldN X264 H (od dB34 110 rfl) rfl rfl ?_
  refine o_aldN X264 H (od dB34 111 rfl) rfl rfl ?_
  refine o_bi X264 H (od dB34 112 rfl) (v := 20) rfl ?_
  refine o_tc (argsL := [(.ref x), (.ref y), (.int (20 : Int32))]) (rest := []) X264 H hml hZ hown (ow hw 180 rfl) (ow hw 181 rfl) (ow hw 173 rfl) (ow hw 182 rfl) (backOf (W := 0) (rm35 l Z a0 hw [] x y z fm tx kx mx cs ty ky my ps 20 h0 n0 (by exact Z0) hz O SC SF hfm Ex Cx Vx Kx hnx rgx hmx Ey Cy Vy Ky hny rgy hmy (by omega) (by omega) (heq 20 (by decide))) hZ (ow hw 182 rfl) (ow hw 173 rfl) (by decide) (by decide)) (by decide) e264 pd_25 (od dB34 113 rfl) rfl rfl rfl rfl rfl (by decide) (by decide) (o_pk (fun _ _ _ q => q) N264 fun T265 Lc265 X265 N265 e265 => ?_)
  refine o_ifN X265 H (od dB34 114 rfl) ((if0 _ _).trans (feq (by decide : ¬ ((1 : Int32) = (0 : Int32)))).1) ?_
  refine o_aldN X265 H (od dB34 115 rfl) rfl rfl ?_
  refine o_aldN X265 H (od dB34 116 rfl) rfl rfl ?_
  refine o_bi X265 H (od dB34 117 rfl) (v := 21) rfl ?_
  refine o_tc (argsL := [(.ref x), (.ref y), (.int (21 : Int32))]) (rest := []) X265 H hml hZ hown (ow hw 180 rfl) (ow hw 181 rfl) (ow hw 173 rfl) (ow hw 182 rfl) (backOf (W := 0) (rm35 l Z a0 hw [] x y z fm tx kx mx cs ty ky my ps 21 h0 n0 (by exact Z0) hz O SC SF hfm Ex Cx Vx Kx hnx rgx hmx Ey Cy Vy Ky hny rgy hmy (by omega) (by omega) (heq 21 (by decide))) hZ (ow hw 182 rfl) (ow hw 173 rfl) (by decide) (by decide)) (by decide) e265 pd_25 (od dB34 118 rfl) rfl rfl rfl rfl rfl (by decide) (by decide) (o_pk (fun _ _ _ q => q) N265 fun T266 Lc266 X266 N266 e266 => ?_)
  refine o_ifN X266 H (od dB34 119 rfl) ((if0 _ _).trans (feq (by decide : ¬ ((1 : Int32) = (0 : Int32)))).1) ?_
  refine o_aldN X266 H (od dB34 120 rfl) rfl rfl ?_
  refine o_aldN X266 H (od dB34 121 rfl) rfl rfl ?_
  refine o_bi X266 H (od dB34 122 rfl) (v := 22) rfl ?_
  refine o_tc (argsL := [(.ref x), (.ref y), (.int (22 : Int32))]) (rest := []) X266 H hml hZ hown (ow hw 180 rfl) (ow hw 181 rfl) (ow hw 173 rfl) (ow hw 182 rfl) (backOf (W := 0) (rm35 l Z a0 hw [] x y z fm tx kx mx cs ty ky my ps 22 h0 n0 (by exact Z0) hz O SC SF hfm Ex Cx Vx Kx hnx rgx hmx Ey Cy Vy Ky hny rgy hmy (by omega) (by omega) (heq 22 (by decide))) hZ (ow hw 182 rfl) (ow hw 173 rfl) (by decide) (by decide)) (by decide) e266 pd_25 (od dB34 123 rfl) rfl rfl rfl rfl rfl (by decide) (by decide) (o_pk (fun _ _ _ q => q) N266 fun T267 Lc267 X267 N267 e267 => ?_)
  refine o_ifN X267 H (od dB34 124 rfl) ((if0 _ _).trans (feq (by decide : ¬ ((1 : Int32) = (0 : Int32)))).1) ?_
  refine o_aldN X267 H (od dB34 125 rfl) rfl rfl ?_
  refine o_aldN X267 H (od dB34 126 rfl) rfl rfl ?_
  refine o_bi X267 H (od dB34 127 rfl) (v := 23) rfl ?_
  refine o_tc (argsL := [(.ref x), (.ref y), (.int (23 : Int32))]) (rest := []) X267 H hml hZ hown (ow hw 180 rfl) (ow hw 181 rfl) (ow hw 173 rfl) (ow hw 182 rfl) (backOf (W := 0) (rm35 l Z a0 hw [] x y z fm tx kx mx cs ty ky my ps 23 h0 n0 (by exact Z0) hz O SC SF hfm Ex Cx Vx Kx hnx rgx hmx Ey Cy Vy Ky hny rgy hmy (by omega) (by omega) (heq 23 (by decide))) hZ (ow hw 182 rfl) (ow hw 173 rfl) (by decide) (by decide)) (by decide) e267 pd_25 (od dB34 128 rfl) rfl rfl rfl rfl rfl (by decide) (by decide) (o_pk (fun _ _ _ q => q) N267 fun T268 Lc268 X268 N268 e268 => ?_)
  refine o_ifN X268 H (od dB34 129 rfl) ((if0 _ _).trans (feq (by decide : ¬ ((1 : Int32) = (0 : Int32)))).1) ?_
  refine o_aldN X268 H (od dB34 130 rfl) rfl rfl ?_
  refine o_aldN X268 H (od dB34 131 rfl) rfl rfl ?_
  refine o_bi X268 H (od dB34 132 rfl) (v := 24) rfl ?_
  refine o_tc (argsL := [(.ref x), (.ref y), (.int (24 : Int32))]) (rest := []) X268 H hml hZ hown (ow hw 180 rfl) (ow hw 181 rfl) (ow hw 173 rfl) (ow hw 182 rfl) (backOf (W := 0) (rm35 l Z a0 hw [] x y z fm tx kx mx cs ty ky my ps 24 h0 n0 (by exact Z0) hz O SC SF hfm Ex Cx Vx Kx hnx rgx hmx Ey Cy Vy Ky hny rgy hmy (by omega) (by omega) (heq 24 (by decide))) hZ (ow hw 182 rfl) (ow hw 173 rfl) (by decide) (by decide)) (by decide) e268 pd_25 (od dB34 133 rfl) rfl rfl rfl rfl rfl (by decide) (by decide) (o_pk (fun _ _ _ q => q) N268 fun T269 Lc269 X269 N269 e269 => ?_)
  refine o_ifN X269 H (od dB34 134 rfl) ((if0 _ _).trans (feq (by decide : ¬ ((1 : Int32) = (0 : Int32)))).1) ?_
  refine o_aldN X269 H (od dB34 135 rfl) rfl rfl ?_
  refine o_aldN X269 H (od dB34 136 rfl) rfl rfl ?_
  refine o_bi X269 H (od dB34 137 rfl) (v := 25) rfl ?_
  refine o_tc (argsL := [(.ref x), (.ref y), (.int (25 : Int32))]) (rest := []) X269 H hml hZ hown (ow hw 180 rfl) (ow hw 181 rfl) (ow hw 173 rfl) (ow hw 182 rfl) (backOf (W := 0) (rm35 l Z a0 hw [] x y z fm tx kx mx cs ty ky my ps 25 h0 n0 (by exact Z0) hz O SC SF hfm Ex Cx Vx Kx hnx rgx hmx Ey Cy Vy Ky hny rgy hmy (by omega) (by omega) (heq 25 (by decide))) hZ (ow hw 182 rfl) (ow hw 173 rfl) (by decide) (by decide)) (by decide) e269 pd_25 (od dB34 138 rfl) rfl rfl rfl rfl rfl (by decide) (by decide) (o_pk (fun _ _ _ q => q) N269 fun T270 Lc270 X270 N270 e270 => ?_)
  refine o_ifN X270 H (od dB34 139 rfl) ((if0 _ _).trans (feq (by decide : ¬ ((1 : Int32) = (0 : Int32)))).1) ?_
  refine o_aldN X270 H (od dB34 140 rfl) rfl rfl ?_
  refine o_aldN X270 H (od dB34 141 rfl) rfl rfl ?_
  refine o_bi X270 H (od dB34 142 rfl) (v := 26) rfl ?_
  refine o_tc (argsL := [(.ref x), (.ref y), (.int (26 : Int32))]) (rest := []) X270 H hml hZ hown (ow hw 180 rfl) (ow hw 181 rfl) (ow hw 173 rfl) (ow hw 182 rfl) (backOf (W := 0) (rm35 l Z a0 hw [] x y z fm tx kx mx cs ty ky my ps 26 h0 n0 (by exact Z0) hz O SC SF hfm Ex Cx Vx Kx hnx rgx hmx Ey Cy Vy Ky hny rgy hmy (by omega) (by omega) (heq 26 (by decide))) hZ (ow hw 182 rfl) (ow hw 173 rfl) (by decide) (by decide)) (by decide) e270 pd_25 (od dB34 143 rfl) rfl rfl rfl rfl rfl (by decide) (by decide) (o_pk (fun _ _ _ q => q) N270 fun T271 Lc271 X271 N271 e271 => ?_)
  refine o_ifN X271 H (od dB34 144 rfl) ((if0 _ _).trans (feq (by decide : ¬ ((1 : Int32) = (0 : Int32)))).1) ?_
  refine o_aldN X271 H (od dB34 145 rfl) rfl rfl ?_
  refine o_aldN X271 H (od dB34 146 rfl) rfl rfl ?_
  refine o_bi X271 H (od dB34 147 rfl) (v := 27) rfl ?_
  refine o_tc (argsL := [(.ref x), (.ref y), (.int (27 : Int32))]) (rest := []) X271 H hml hZ hown (ow hw 180 rfl) (ow hw 181 rfl) (ow hw 173 rfl) (ow hw 182 rfl) (backOf (W := 0) (rm35 l Z a0 hw [] x y z fm tx kx mx cs ty ky my ps 27 h0 n0 (by exact Z0) hz O SC SF hfm Ex Cx Vx Kx hnx rgx hmx Ey Cy Vy Ky hny rgy hmy (by omega) (by omega) (heq 27 (by decide))) hZ (ow hw 182 rfl) (ow hw 173 rfl) (by decide) (by decide)) (by decide) e271 pd_25 (od dB34 148 rfl) rfl rfl rfl rfl rfl (by decide) (by decide) (o_pk (fun _ _ _ q => q) N271 fun T272 Lc272 X272 N272 e272 => ?_)
  refine o_ifN X272 H (od dB34 149 rfl) ((if0 _ _).trans (feq (by decide : ¬ ((1 : Int32) = (0 : Int32)))).1) ?_
  refine o_aldN X272 H (od dB34 150 rfl) rfl rfl ?_
  refine o_aldN X272 H (od dB34 151 rfl) rfl rfl ?_
  refine o_bi X272 H (od dB34 152 rfl) (v := 28) rfl ?_
  refine o_tc (argsL := [(.ref x), (.ref y), (.int (28 : Int32))]) (rest := []) X272 H hml hZ hown (ow hw 180 rfl) (ow hw 181 rfl) (ow hw 173 rfl) (ow hw 182 rfl) (backOf (W := 0) (rm35 l Z a0 hw [] x y z fm tx kx mx cs ty ky my ps 28 h0 n0 (by exact Z0) hz O SC SF hfm Ex Cx Vx Kx hnx rgx hmx Ey Cy Vy Ky hny rgy hmy (by omega) (by omega) (heq 28 (by decide))) hZ (ow hw 182 rfl) (ow hw 173 rfl) (by decide) (by decide)) (by decide) e272 pd_25 (od dB34 153 rfl) rfl rfl rfl rfl rfl (by decide) (by decide) (o_pk (fun _ _ _ q => q) N272 fun T273 Lc273 X273 N273 e273 => ?_)
  refine o_ifN X273 H (od dB34 154 rfl) ((if0 _ _).trans (feq (by decide : ¬ ((1 : Int32) = (0 : Int32)))).1) ?_
  refine o_aldN X273 H (od dB34 155 rfl) rfl rfl ?_
  refine o_aldN X273 H (od dB34 156 rfl) rfl rfl ?_
  refine o_bi X273 H (od dB34 157 rfl) (v := 29) rfl ?_
  refine o_tc (argsL := [(.ref x), (.ref y), (.int (29 : Int32))]) (rest := []) X273 H hml hZ hown (ow hw 180 rfl) (ow hw 181 rfl) (ow hw 173 rfl) (ow hw 182 rfl) (backOf (W := 0) (rm35 l Z a0 hw [] x y z fm tx kx mx cs ty ky my ps 29 h0 n0 (by exact Z0) hz O SC SF hfm Ex Cx Vx Kx hnx rgx hmx Ey Cy Vy Ky hny rgy hmy (by omega) (by omega) (heq 29 (by decide))) hZ (ow hw 182 rfl) (ow hw 173 rfl) (by decide) (by decide)) (by decide) e273 pd_25 (od dB34 158 rfl) rfl rfl rfl rfl rfl (by decide) (by decide) (o_pk (fun _ _ _ q => q) N273 fun T274 Lc274 X274 N274 e274 => ?_)
  refine o_ifN X274 H (od dB34 159 rfl) ((if0 _ _).trans (feq (by decide : ¬ ((1 : Int32) = (0 : Int32)))).1) ?_
  refine o_aldN X274 H (od dB34 160 rfl) rfl rfl ?_
  refine o_aldN X274 H (od dB34 161 rfl) rfl rfl ?_
  refine o_bi X274 H (od dB34 162 rfl) (v := 30) rfl ?_
  refine o_tc (argsL := [(.ref x), (.ref y), (.int (30 : Int32))]) (rest := []) X274 H hml hZ hown (ow hw 180 rfl) (ow hw 181 rfl) (ow hw 173 rfl) (ow hw 182 rfl) (backOf (W := 0) (rm35 l Z a0 hw [] x y z fm tx kx mx cs ty ky my ps 30 h0 n0 (by exact Z0) hz O SC SF hfm Ex Cx Vx Kx hnx rgx hmx Ey Cy Vy Ky hny rgy hmy (by omega) (by omega) (heq 30 (by decide))) hZ (ow hw 182 rfl) (ow hw 173 rfl) (by decide) (by decide)) (by decide) e274 pd_25 (od dB34 163 rfl) rfl rfl rfl rfl rfl (by decide) (by decide) (o_pk (fun _ _ _ q => q) N274 fun T275 Lc275 X275 N275 e275 => ?_)
  refine o_ifN X275 H (od dB34 164 rfl) ((if0 _ _).trans (feq (by decide : ¬ ((1 : Int32) = (0 : Int32)))).1) ?_
  refine o_aldN X275 H (od dB34 165 rfl) rfl rfl ?_
  refine o_aldN X275 H (od dB34 166 rfl) rfl rfl ?_
  refine o_bi X275 H (od dB34 167 rfl) (v := 31) rfl ?_
  refine o_tc (argsL := [(.ref x), (.ref y), (.int (31 : Int32))]) (rest := []) X275 H hml hZ hown (ow hw 180 rfl) (ow hw 181 rfl) (ow hw 173 rfl) (ow hw 182 rfl) (backOf (W := 0) (rm35 l Z a0 hw [] x y z fm tx kx mx cs ty ky my ps 31 h0 n0 (by exact Z0) hz O SC SF hfm Ex Cx Vx Kx hnx rgx hmx Ey Cy Vy Ky hny rgy hmy (by omega) (by omega) (heq 31 (by decide))) hZ (ow hw 182 rfl) (ow hw 173 rfl) (by decide) (by decide)) (by decide) e275 pd_25 (od dB34 168 rfl) rfl rfl rfl rfl rfl (by decide) (by decide) (o_pk (fun _ _ _ q => q) N275 fun T276 Lc276 X276 N276 e276 => ?_)
  refine o_ifN X276 H (od dB34 169 rfl) ((if0 _ _).trans (feq (by decide : ¬ ((1 : Int32) = (0 : Int32)))).1) ?_
  refine o_aldN X276 H (od dB34 170 rfl) rfl rfl ?_
  refine o_aldN X276 H (od dB34 171 rfl) rfl rfl ?_
  refine o_bi X276 H (od dB34 172 rfl) (v := 32) rfl ?_
  refine o_tc (argsL := [(.ref x), (.ref y), (.int (32 : Int32))]) (rest := []) X276 H hml hZ hown (ow hw 180 rfl) (ow hw 181 rfl) (ow hw 173 rfl) (ow hw 182 rfl) (backOf (W := 0) (rm35 l Z a0 hw [] x y z fm tx kx mx cs ty ky my ps 32 h0 n0 (by exact Z0) hz O SC SF hfm Ex Cx Vx Kx hnx rgx hmx Ey Cy Vy Ky hny rgy hmy (by omega) (by omega) (heq 32 (by decide))) hZ (ow hw 182 rfl) (ow hw 173 rfl) (by decide) (by decide)) (by decide) e276 pd_25 (od dB34 173 rfl) rfl rfl rfl rfl rfl (by decide) (by decide) (o_pk (fun _ _ _ q => q) N276 fun T277 Lc277 X277 N277 e277 => ?_)
  refine o_ifN X277 H (od dB34 174 rfl) ((if0 _ _).trans (feq (by decide : ¬ ((1 : Int32) = (0 : Int32)))).1) ?_
  refine o_aldN X277 H (od dB34 175 rfl) rfl rfl ?_
  refine o_aldN X277 H (od dB34 176 rfl) rfl rfl ?_
  refine o_bi X277 H (od dB34 177 rfl) (v := 33) rfl ?_
  refine o_tc (argsL := [(.ref x), (.ref y), (.int (33 : Int32))]) (rest := []) X277 H hml hZ hown (ow hw 180 rfl) (ow hw 181 rfl) (ow hw 173 rfl) (ow hw 182 rfl) (backOf (W := 0) (rm35 l Z a0 hw [] x y z fm tx kx mx cs ty ky my ps 33 h0 n0 (by exact Z0) hz O SC SF hfm Ex Cx Vx Kx hnx rgx hmx Ey Cy Vy Ky hny rgy hmy (by omega) (by omega) (heq 33 (by decide))) hZ (ow hw 182 rfl) (ow hw 173 rfl) (by decide) (by decide)) (by decide) e277 pd_25 (od dB34 178 rfl) rfl rfl rfl rfl rfl (by decide) (by decide) (o_pk (fun _ _ _ q => q) N277 fun T278 Lc278 X278 N278 e278 => ?_)
  refine o_ifN X278 H (od dB34 179 rfl) ((if0 _ _).trans (feq (by decide : ¬ ((1 : Int32) = (0 : Int32)))).1) ?_
  refine o_aldN X278 H (od dB34 180 rfl) rfl rfl ?_
  refine o_aldN X278 H (od dB34 181 rfl) rfl rfl ?_
  refine o_bi X278 H (od dB34 182 rfl) (v := 34) rfl ?_
  refine o_tc (argsL := [(.ref x), (.ref y), (.int (34 : Int32))]) (rest := []) X278 H hml hZ hown (ow hw 180 rfl) (ow hw 181 rfl) (ow hw 173 rfl) (ow hw 182 rfl) (backOf (W := 0) (rm35 l Z a0 hw [] x y z fm tx kx mx cs ty ky my ps 34 h0 n0 (by exact Z0) hz O SC SF hfm Ex Cx Vx Kx hnx rgx hmx Ey Cy Vy Ky hny rgy hmy (by omega) (by omega) (heq 34 (by decide))) hZ (ow hw 182 rfl) (ow hw 173 rfl) (by decide) (by decide)) (by decide) e278 pd_25 (od dB34 183 rfl) rfl rfl rfl rfl rfl (by decide) (by decide) (o_pk (fun _ _ _ q => q) N278 fun T279 Lc279 X279 N279 e279 => ?_)
  refine o_ifN X279 H (od dB34 184 rfl) ((if0 _ _).trans (feq (by decide : ¬ ((1 : Int32) = (0 : Int32)))).1) ?_
  refine o_aldN X279 H (od dB34 185 rfl) rfl rfl ?_
  refine o_aldN X279 H (od dB34 186 rfl) rfl rfl ?_
  refine o_bi X279 H (od dB34 187 rfl) (v := 35) rfl ?_
  refine o_tc (argsL := [(.ref x), (.ref y), (.int (35 : Int32))]) (rest := []) X279 H hml hZ hown (ow hw 180 rfl) (ow hw 181 rfl) (ow hw 173 rfl) (ow hw 182 rfl) (backOf (W := 0) (rm35 l Z a0 hw [] x y z fm tx kx mx cs ty ky my ps 35 h0 n0 (by exact Z0) hz O SC SF hfm Ex Cx Vx Kx hnx rgx hmx Ey Cy Vy Ky hny rgy hmy (by omega) (by omega) (heq 35 (by decide))) hZ (ow hw 182 rfl) (ow hw 173 rfl) (by decide) (by decide)) (by decide) e279 pd_25 (od dB34 188 rfl) rfl rfl rfl rfl rfl (by decide) (by decide) (o_pk (fun _ _ _ q => q) N279 fun T280 Lc280 X280 N280 e280 => ?_)
  refine o_ifN X280 H (od dB34 189 rfl) ((if0 _ _).trans (feq (by decide : ¬ ((1 : Int32) = (0 : Int32)))).1) ?_
  refine o_aldN X280 H (od dB34 190 rfl) rfl rfl ?_
  refine o_aldN X280 H (od dB34 191 rfl) rfl rfl ?_
  refine o_bi X280 H (od dB34 192 rfl) (v := 36) rfl ?_
  refine o_tc (argsL := [(.ref x), (.ref y), (.int (36 : Int32))]) (rest := []) X280 H hml hZ hown (ow hw 180 rfl) (ow hw 181 rfl) (ow hw 173 rfl) (ow hw 182 rfl) (backOf (W := 0) (rm35 l Z a0 hw [] x y z fm tx kx mx cs ty ky my ps 36 h0 n0 (by exact Z0) hz O SC SF hfm Ex Cx Vx Kx hnx rgx hmx Ey Cy Vy Ky hny rgy hmy (by omega) (by omega) (heq 36 (by decide))) hZ (ow hw 182 rfl) (ow hw 173 rfl) (by decide) (by decide)) (by decide) e280 pd_25 (od dB34 193 rfl) rfl rfl rfl rfl rfl (by decide) (by decide) (o_pk (fun _ _ _ q => q) N280 fun T281 Lc281 X281 N281 e281 => ?_)
  refine o_ifN X281 H (od dB34 194 rfl) ((if0 _ _).trans (feq (by decide : ¬ ((1 : Int32) = (0 : Int32)))).1) ?_
  refine o_aldN X281 H (od dB34 195 rfl) rfl rfl ?_
  refine o_aldN X281 H (od dB34 196 rfl) rfl rfl ?_
  refine o_bi X281 H (od dB34 197 rfl) (v := 37) rfl ?_
  refine o_tc (argsL := [(.ref x), (.ref y), (.int (37 : Int32))]) (rest := []) X281 H hml hZ hown (ow hw 180 rfl) (ow hw 181 rfl) (ow hw 173 rfl) (ow hw 182 rfl) (backOf (W := 0) (rm35 l Z a0 hw [] x y z fm tx kx mx cs ty ky my ps 37 h0 n0 (by exact Z0) hz O SC SF hfm Ex Cx Vx Kx hnx rgx hmx Ey Cy Vy Ky hny rgy hmy (by omega) (by omega) (heq 37 (by decide))) hZ (ow hw 182 rfl) (ow hw 173 rfl) (by decide) (by decide)) (by decide) e281 pd_25 (od dB34 198 rfl) rfl rfl rfl rfl rfl (by decide) (by decide) (o_pk (fun _ _ _ q => q) N281 fun T282 Lc282 X282 N282 e282 => ?_)
  refine o_ifN X282 H (od dB34 199 rfl) ((if0 _ _).trans (feq (by decide : ¬ ((1 : Int32) = (0 : Int32)))).1) ?_
  refine o_aldN X282 H (od dB34 200 rfl) rfl rfl ?_
  refine o_aldN X282 H (od dB34 201 rfl) rfl rfl ?_
  refine o_bi X282 H (od dB34 202 rfl) (v := 38) rfl ?_
  refine o_tc (argsL := [(.ref x), (.ref y), (.int (38 : Int32))]) (rest := []) X282 H hml hZ hown (ow hw 180 rfl) (ow hw 181 rfl) (ow hw 173 rfl) (ow hw 182 rfl) (backOf (W := 0) (rm35 l Z a0 hw [] x y z fm tx kx mx cs ty ky my ps 38 h0 n0 (by exact Z0) hz O SC SF hfm Ex Cx Vx Kx hnx rgx hmx Ey Cy Vy Ky hny rgy hmy (by omega) (by omega) (heq 38 (by decide))) hZ (ow hw 182 rfl) (ow hw 173 rfl) (by decide) (by decide)) (by decide) e282 pd_25 (od dB34 203 rfl) rfl rfl rfl rfl rfl (by decide) (by decide) (o_pk (fun _ _ _ q => q) N282 fun T283 Lc283 X283 N283 e283 => ?_)
  refine o_ifN X283 H (od dB34 204 rfl) ((if0 _ _).trans (feq (by decide : ¬ ((1 : Int32) = (0 : Int32)))).1) ?_
  refine o_aldN X283 H (od dB34 205 rfl) rfl rfl ?_
  refine o_aldN X283 H (od dB34 206 rfl) rfl rfl ?_
  refine o_bi X283 H (od dB34 207 rfl) (v := 39) rfl ?_
  refine o_tc (argsL := [(.ref x), (.ref y), (.int (39 : Int32))]) (rest := []) X283 H hml hZ hown (ow hw 180 rfl) (ow hw 181 rfl) (ow hw 173 rfl) (ow hw 182 rfl) (backOf (W := 0) (rm35 l Z a0 hw [] x y z fm tx kx mx cs ty ky my ps 39 h0 n0 (by exact Z0) hz O SC SF hfm Ex Cx Vx Kx hnx rgx hmx Ey Cy Vy Ky hny rgy hmy (by omega) (by omega) (heq 39 (by decide))) hZ (ow hw 182 rfl) (ow hw 173 rfl) (by decide) (by decide)) (by decide) e283 pd_25 (od dB34 208 rfl) rfl rfl rfl rfl rfl (by decide) (by decide) (o_pk (fun _ _ _ q => q) N283 fun T284 Lc284 X284 N284 e284 => ?_)
  refine o_ifN X284 H (od dB34 209 rfl) ((if0 _ _).trans (feq (by decide : ¬ ((1 : Int32) = (0 : Int32)))).1) ?_
  refine o_aldN X284 H (od dB34 210 rfl) rfl rfl ?_
  refine o_aldN X284 H (od dB34 211 rfl) rfl rfl ?_
  refine o_bi X284 H (od dB34 212 rfl) (v := 40) rfl ?_
  refine o_tc (argsL := [(.ref x), (.ref y), (.int (40 : Int32))]) (rest := []) X284 H hml hZ hown (ow hw 180 rfl) (ow hw 181 rfl) (ow hw 173 rfl) (ow hw 182 rfl) (backOf (W := 0) (rm35 l Z a0 hw [] x y z fm tx kx mx cs ty ky my ps 40 h0 n0 (by exact Z0) hz O SC SF hfm Ex Cx Vx Kx hnx rgx hmx Ey Cy Vy Ky hny rgy hmy (by omega) (by omega) (heq 40 (by decide))) hZ (ow hw 182 rfl) (ow hw 173 rfl) (by decide) (by decide)) (by decide) e284 pd_25 (od dB34 213 rfl) rfl rfl rfl rfl rfl (by decide) (by decide) (o_pk (fun _ _ _ q => q) N284 fun T285 Lc285 X285 N285 e285 => ?_)
  refine o_ifN X285 H (od dB34 214 rfl) ((if0 _ _).trans (feq (by decide : ¬ ((1 : Int32) = (0 : Int32)))).1) ?_
  refine o_aldN X285 H (od dB34 215 rfl) rfl rfl ?_
  refine o_aldN X285 H (od dB34 216 rfl) rfl rfl ?_
  refine o_bi X285 H (od dB34 217 rfl) (v := 41) rfl ?_
  refine o_tc (argsL := [(.ref x), (.ref y), (.int (41 : Int32))]) (rest := []) X285 H hml hZ hown (ow hw 180 rfl) (ow hw 181 rfl) (ow hw 173 rfl) (ow hw 182 rfl) (backOf (W := 0) (rm35 l Z a0 hw [] x y z fm tx kx mx cs ty ky my ps 41 h0 n0 (by exact Z0) hz O SC SF hfm Ex Cx Vx Kx hnx rgx hmx Ey Cy Vy Ky hny rgy hmy (by omega) (by omega) (heq 41 (by decide))) hZ (ow hw 182 rfl) (ow hw 173 rfl) (by decide) (by decide)) (by decide) e285 pd_25 (od dB34 218 rfl) rfl rfl rfl rfl rfl (by decide) (by decide) (o_pk (fun _ _ _ q => q) N285 fun T286 Lc286 X286 N286 e286 => ?_)
  refine o_ifN X286 H (od dB34 219 rfl) ((if0 _ _).trans (feq (by decide : ¬ ((1 : Int32) = (0 : Int32)))).1) ?_
  refine o_aldN X286 H (od dB34 220 rfl) rfl rfl ?_
  refine o_aldN X286 H (od dB34 221 rfl) rfl rfl ?_
  refine o_bi X286 H (od dB34 222 rfl) (v := 42) rfl ?_
  refine o_tc (argsL := [(.ref x), (.ref y), (.int (42 : Int32))]) (rest := []) X286 H hml hZ hown (ow hw 180 rfl) (ow hw 181 rfl) (ow hw 173 rfl) (ow hw 182 rfl) (backOf (W := 0) (rm35 l Z a0 hw [] x y z fm tx kx mx cs ty ky my ps 42 h0 n0 (by exact Z0) hz O SC SF hfm Ex Cx Vx Kx hnx rgx hmx Ey Cy Vy Ky hny rgy hmy (by omega) (by omega) (heq 42 (by decide))) hZ (ow hw 182 rfl) (ow hw 173 rfl) (by decide) (by decide)) (by decide) e286 pd_25 (od dB34 223 rfl) rfl rfl rfl rfl rfl (by decide) (by decide) (o_pk (fun _ _ _ q => q) N286 fun T287 Lc287 X287 N287 e287 => ?_)
  refine o_ifN X287 H (od dB34 224 rfl) ((if0 _ _).trans (feq (by decide : ¬ ((1 : Int32) = (0 : Int32)))).1) ?_
  refine o_aldN X287 H (od dB34 225 rfl) rfl rfl ?_
  refine o_aldN X287 H (od dB34 226 rfl) rfl rfl ?_
  refine o_bi X287 H (od dB34 227 rfl) (v := 43) rfl ?_
  refine o_tc (argsL := [(.ref x), (.ref y), (.int (43 : Int32))]) (rest := []) X287 H hml hZ hown (ow hw 180 rfl) (ow hw 181 rfl) (ow hw 173 rfl) (ow hw 182 rfl) (backOf (W := 0) (rm35 l Z a0 hw [] x y z fm tx kx mx cs ty ky my ps 43 h0 n0 (by exact Z0) hz O SC SF hfm Ex Cx Vx Kx hnx rgx hmx Ey Cy Vy Ky hny rgy hmy (by omega) (by omega) (heq 43 (by decide))) hZ (ow hw 182 rfl) (ow hw 173 rfl) (by decide) (by decide)) (by decide) e287 pd_25 (od dB34 228 rfl) rfl rfl rfl rfl rfl (by decide) (by decide) (o_pk (fun _ _ _ q => q) N287 fun T288 Lc288 X288 N288 e288 => ?_)
  refine o_ifN X288 H (od dB34 229 rfl) ((if0 _ _).trans (feq (by decide : ¬ ((1 : Int32) = (0 : Int32)))).1) ?_
  refine o_aldN X288 H (od dB34 230 rfl) rfl rfl ?_
  refine o_aldN X288 H (od dB34 231 rfl) rfl rfl ?_
  refine o_bi X288 H (od dB34 232 rfl) (v := 44) rfl ?_
  refine o_tc (argsL := [(.ref x), (.ref y), (.int (44 : Int32))]) (rest := []) X288 H hml hZ hown (ow hw 180 rfl) (ow hw 181 rfl) (ow hw 173 rfl) (ow hw 182 rfl) (backOf (W := 0) (rm35 l Z a0 hw [] x y z fm tx kx mx cs ty ky my ps 44 h0 n0 (by exact Z0) hz O SC SF hfm Ex Cx Vx Kx hnx rgx hmx Ey Cy Vy Ky hny rgy hmy (by omega) (by omega) (heq 44 (by decide))) hZ (ow hw 182 rfl) (ow hw 173 rfl) (by decide) (by decide)) (by decide) e288 pd_25 (od dB34 233 rfl) rfl rfl rfl rfl rfl (by decide) (by decide) (o_pk (fun _ _ _ q => q) N288 fun T289 Lc289 X289 N289 e289 => ?_)
  refine o_ifN X289 H (od dB34 234 rfl) ((if0 _ _).trans (feq (by decide : ¬ ((1 : Int32) = (0 : Int32)))).1) ?_
  refine o_aldN X289 H (od dB34 235 rfl) rfl rfl ?_
  refine o_aldN X289 H (od dB34 236 rfl) rfl rfl ?_
  refine o_bi X289 H (od dB34 237 rfl) (v := 45) rfl ?_
  refine o_tc (argsL := [(.ref x), (.ref y), (.int (45 : Int32))]) (rest := []) X289 H hml hZ hown (ow hw 180 rfl) (ow hw 181 rfl) (ow hw 173 rfl) (ow hw 182 rfl) (backOf (W := 0) (rm35 l Z a0 hw [] x y z fm tx kx mx cs ty ky my ps 45 h0 n0 (by exact Z0) hz O SC SF hfm Ex Cx Vx Kx hnx rgx hmx Ey Cy Vy Ky hny rgy hmy (by omega) (by omega) (heq 45 (by decide))) hZ (ow hw 182 rfl) (ow hw 173 rfl) (by decide) (by decide)) (by decide) e289 pd_25 (od dB34 238 rfl) rfl rfl rfl rfl rfl (by decide) (by decide) (o_pk (fun _ _ _ q => q) N289 fun T290 Lc290 X290 N290 e290 => ?_)
  refine o_ifN X290 H (od dB34 239 rfl) ((if0 _ _).trans (feq (by decide : ¬ ((1 : Int32) = (0 : Int32)))).1) ?_
  refine o_aldN X290 H (od dB34 240 rfl) rfl rfl ?_
  refine o_aldN X290 H (od dB34 241 rfl) rfl rfl ?_
  refine o_bi X290 H (od dB34 242 rfl) (v := 46) rfl ?_
  refine o_tc (argsL := [(.ref x), (.ref y), (.int (46 : Int32))]) (rest := []) X290 H hml hZ hown (ow hw 180 rfl) (ow hw 181 rfl) (ow hw 173 rfl) (ow hw 182 rfl) (backOf (W := 0) (rm35 l Z a0 hw [] x y z fm tx kx mx cs ty ky my ps 46 h0 n0 (by exact Z0) hz O SC SF hfm Ex Cx Vx Kx hnx rgx hmx Ey Cy Vy Ky hny rgy hmy (by omega) (by omega) (heq 46 (by decide))) hZ (ow hw 182 rfl) (ow hw 173 rfl) (by decide) (by decide)) (by decide) e290 pd_25 (od dB34 243 rfl) rfl rfl rfl rfl rfl (by decide) (by decide) (o_pk (fun _ _ _ q => q) N290 fun T291 Lc291 X291 N291 e291 => ?_)
  refine o_ifN X291 H (od dB34 244 rfl) ((if0 _ _).trans (feq (by decide : ¬ ((1 : Int32) = (0 : Int32)))).1) ?_
  refine o_aldN X291 H (od dB34 245 rfl) rfl rfl ?_
  refine o_aldN X291 H (od dB34 246 rfl) rfl rfl ?_
  refine o_bi X291 H (od dB34 247 rfl) (v := 47) rfl ?_
  refine o_tc (argsL := [(.ref x), (.ref y), (.int (47 : Int32))]) (rest := []) X291 H hml hZ hown (ow hw 180 rfl) (ow hw 181 rfl) (ow hw 173 rfl) (ow hw 182 rfl) (backOf (W := 0) (rm35 l Z a0 hw [] x y z fm tx kx mx cs ty ky my ps 47 h0 n0 (by exact Z0) hz O SC SF hfm Ex Cx Vx Kx hnx rgx hmx Ey Cy Vy Ky hny rgy hmy (by omega) (by omega) (heq 47 (by decide))) hZ (ow hw 182 rfl) (ow hw 173 rfl) (by decide) (by decide)) (by decide) e291 pd_25 (od dB34 248 rfl) rfl rfl rfl rfl rfl (by decide) (by decide) (o_pk (fun _ _ _ q => q) N291 fun T292 Lc292 X292 N292 e292 => ?_)
  refine o_ifN X292 H (od dB34 249 rfl) ((if0 _ _).trans (feq (by decide : ¬ ((1 : Int32) = (0 : Int32)))).1) ?_
  refine o_aldN X292 H (od dB34 250 rfl) rfl rfl ?_
  refine o_aldN X292 H (od dB34 251 rfl) rfl rfl ?_
  refine o_bi X292 H (od dB34 252 rfl) (v := 48) rfl ?_
  refine o_tc (argsL := [(.ref x), (.ref y), (.int (48 : Int32))]) (rest := []) X292 H hml hZ hown (ow hw 180 rfl) (ow hw 181 rfl) (ow hw 173 rfl) (ow hw 182 rfl) (backOf (W := 0) (rm35 l Z a0 hw [] x y z fm tx kx mx cs ty ky my ps 48 h0 n0 (by exact Z0) hz O SC SF hfm Ex Cx Vx Kx hnx rgx hmx Ey Cy Vy Ky hny rgy hmy (by omega) (by omega) (heq 48 (by decide))) hZ (ow hw 182 rfl) (ow hw 173 rfl) (by decide) (by decide)) (by decide) e292 pd_25 (od dB34 253 rfl) rfl rfl rfl rfl rfl (by decide) (by decide) (o_pk (fun _ _ _ q => q) N292 fun T293 Lc293 X293 N293 e293 => ?_)
  refine o_ifN X293 H (od dB34 254 rfl) ((if0 _ _).trans (feq (by decide : ¬ ((1 : Int32) = (0 : Int32)))).1) ?_
  refine o_aldN X293 H (od dB34 255 rfl) rfl rfl ?_
  refine o_aldN X293 H (od dB34 256 rfl) rfl rfl ?_
  refine o_bi X293 H (od dB34 257 rfl) (v := 49) rfl ?_
  refine o_tc (argsL := [(.ref x), (.ref y), (.int (49 : Int32))]) (rest := []) X293 H hml hZ hown (ow hw 180 rfl) (ow hw 181 rfl) (ow hw 173 rfl) (ow hw 182 rfl) (backOf (W := 0) (rm35 l Z a0 hw [] x y z fm tx kx mx cs ty ky my ps 49 h0 n0 (by exact Z0) hz O SC SF hfm Ex Cx Vx Kx hnx rgx hmx Ey Cy Vy Ky hny rgy hmy (by omega) (by omega) (heq 49 (by decide))) hZ (ow hw 182 rfl) (ow hw 173 rfl) (by decide) (by decide)) (by decide) e293 pd_25 (od dB34 258 rfl) rfl rfl rfl rfl rfl (by decide) (by decide) (o_pk (fun _ _ _ q => q) N293 fun T294 Lc294 X294 N294 e294 => ?_)
  refine o_ifN X294 H (od dB34 259 rfl) ((if0 _ _).trans (feq (by decide : ¬ ((1 : Int32) = (0 : Int32)))).1) ?_
  refine o_aldN X294 H (od dB34 260 rfl) rfl rfl ?_
  refine o_aldN X294 H (od dB34 261 rfl) rfl rfl ?_
  refine o_bi X294 H (od dB34 262 rfl) (v := 50) rfl ?_
  refine o_tc (argsL := [(.ref x), (.ref y), (.int (50 : Int32))]) (rest := []) X294 H hml hZ hown (ow hw 180 rfl) (ow hw 181 rfl) (ow hw 173 rfl) (ow hw 182 rfl) (backOf (W := 0) (rm35 l Z a0 hw [] x y z fm tx kx mx cs ty ky my ps 50 h0 n0 (by exact Z0) hz O SC SF hfm Ex Cx Vx Kx hnx rgx hmx Ey Cy Vy Ky hny rgy hmy (by omega) (by omega) (heq 50 (by decide))) hZ (ow hw 182 rfl) (ow hw 173 rfl) (by decide) (by decide)) (by decide) e294 pd_25 (od dB34 263 rfl) rfl rfl rfl rfl rfl (by decide) (by decide) (o_pk (fun _ _ _ q => q) N294 fun T295 Lc295 X295 N295 e295 => ?_)
  refine o_ifN X295 H (od dB34 264 rfl) ((if0 _ _).trans (feq (by decide : ¬ ((1 : Int32) = (0 : Int32)))).1) ?_
  refine o_aldN X295 H (od dB34 265 rfl) rfl rfl ?_
  refine o_aldN X295 H (od dB34 266 rfl) rfl rfl ?_
  refine o_bi X295 H (od dB34 267 rfl) (v := 51) rfl ?_
  refine o_tc (argsL := [(.ref x), (.ref y), (.int (51 : Int32))]) (rest := []) X295 H hml hZ hown (ow hw 180 rfl) (ow hw 181 rfl) (ow hw 173 rfl) (ow hw 182 rfl) (backOf (W := 0) (rm35 l Z a0 hw [] x y z fm tx kx mx cs ty ky my ps 51 h0 n0 (by exact Z0) hz O SC SF hfm Ex Cx Vx Kx hnx rgx hmx Ey Cy Vy Ky hny rgy hmy (by omega) (by omega) (heq 51 (by decide))) hZ (ow hw 182 rfl) (ow hw 173 rfl) (by decide) (by decide)) (by decide) e295 pd_25 (od dB34 268 rfl) rfl rfl rfl rfl rfl (by decide) (by decide) (o_pk (fun _ _ _ q => q) N295 fun T296 Lc296 X296 N296 e296 => ?_)
  refine o_ifN X296 H (od dB34 269 rfl) ((if0 _ _).trans (feq (by decide : ¬ ((1 : Int32) = (0 : Int32)))).1) ?_
  refine o_ic X296 H (od dB34 270 rfl) (v := 1) rfl ?_
  refine o_go X296 H (od dB34 271 rfl) (pc' := 539) (by decide) (by decide) ?_
  exact own_ret (t := .boolean) X296 hx hlk hret rfl (Or.inl ⟨rfl, (by simp), _, rfl⟩) (hb hby (od dB34 273 rfl)) (⟨rfl, N296, e296⟩) (by decide) (by decide)
theorem dB41 : oL method_4_code [(0, .iload 5, 2), (2, .iload_n 2, 1), (3, .if_icmp .lt 5, 3), (6, .iconst 1, 1), (7, .ireturn, 1), (8, .lload_n 3, 1), (9, .lload 6, 2), (11, .ldiv, 1), (12, .ldc2_w 39, 3), (15, .lrem, 1), (16, .lstore 8, 2), (18, .aload_n 0, 1), (19, .iload_n 1, 1), (20, .iload_n 2, 1), (21, .iadd, 1), (22, .iconst 1, 1), (23, .isub, 1), (24, .iload 5, 2), (26, .isub, 1), (27, .invokevirtual 31, 3), (30, .bipush 48, 2), (32, .lload 8, 2), (34, .l2i, 1), (35, .iadd, 1), (36, .i2c, 1), (37, .if_icmp .ne 7, 3), (40, .iconst 1, 1), (41, .goto 4, 3), (44, .iconst 0, 1), (45, .ireturn, 1)] := by unfold oL; decide +kernel
theorem ef_rm41 (m : MethodId) (x0 : Addr) (x1 : Int32) (x2 : Int32) (x3 : Int64) (x4 : Int32) (x5 : Int64) : entryFrame m #[(.ref x0), (.int x1), (.int x2), (.long x3), (.int x4), (.long x5)] 10 = mkF m 0 #[.val (.ref x0), .val (.int x1), .val (.int x2), .val (.long x3), .second, .val (.int x4), .val (.long x5), .second, .unset, .unset] [] := by first | (simp [entryFrame, mkF, argsToLocals, Value.category]; done) | rfl
def Q41 (Z : State) (x : Addr) (z : Int32) (fm : Value) (tx : Addr) (kx : ClassId) (mx : Nat) (cs : List Int32) (n : Nat) (sp : Nat) (j : Nat) (pw : Nat) (h0 : Heap) (n0 : Nat) (v : Option Value) (h : Heap) (L : List Loc) : Prop := v = some (.int (1 : Int32)) ∧ Fr n0 L ∧ h = h0
set_option maxRecDepth 65536 in
set_option maxHeartbeats 40000000 in
theorem rm41 (l : Launch) (Z : State) (a0 : Array Value) (hw : ∀ d ∈ tables_1, d.before a0 Z = true) (ws : List Jvm.Cond) (x : Addr) (z : Int32) (fm : Value) (tx : Addr) (kx : ClassId) (mx : Nat) (cs : List Int32) (n : Nat) (sp : Nat) (j : Nat) (pw : Nat) (h0 : Heap) (n0 : Nat) (Z0 : n0 ≤ h0.size) (hz : ¬ z = (0 : Int32)) (O : Old Z n0 h0) (SC : Sta Z Z.heap "java/lang/String" "COMPACT_STRINGS" "Z" (.int z)) (SF : Sta Z Z.heap "jdk/internal/util/Preconditions" "SIOOBE_FORMATTER" "Ljava/util/function/BiFunction;" fm) (hfm : fm.isRef = true) (Ex : Exa Z h0 x "java/lang/String") (Cx : Fld Z h0 x "java/lang/String" "coder" "B" (.int (0 : Int32))) (Vx : Fld Z h0 x "java/lang/String" "value" "[B" (.ref tx)) (Kx : Arv Z h0 tx kx .byte (Int32.ofNat mx) ((cs.map StrChars.lo8).map Value.int) (.int 0)) (hnx : cs.length = mx) (rgx : ∀ q_ ∈ cs, ¬ q_ < 0 ∧ ¬ (255 : Int32) < q_) (hmx : mx < 1000) (hn : n ≤ 2 ^ 31) (hmx : mx = sp + Jvm.Free.SBG.digits n) (hpw : pw = 10 ^ j) (hpb : 0 < pw ∧ pw < 9223372036854775808) (hj : j < 10) (hdg : ∀ i, i < Jvm.Free.SBG.digits n → cs.getD (sp + Jvm.Free.SBG.digits n - 1 - i) 0 = Int32.ofNat (48 + n / 10 ^ i % 10)) :
    own_M l (⟨"com/example/tidy_injector/tidyinjector/bench/StartupGraphClassNamePinLaw", "dig", "(Ljava/lang/String;IIJIJ)Z"⟩ : MethodName) method_4_code 10 (some .boolean) ws ({ frames := 4, cells := 0, slots := 0, locals := 53 } : Room) #[(.ref x), (.int (Int32.ofNat sp)), (.int (Int32.ofNat (Jvm.Free.SBG.digits n))), (.long (Int64.ofNat n)), (.int (Int32.ofNat j)), (.long (Int64.ofNat pw))] Z h0 (Q41 Z x z fm tx kx mx cs n sp j pw h0 n0) := by
  refine MetFree.of_bodySF (plainFor_of_name pn_6) hisR ?_
  intro p e s m args below meth cd s₁ Bd hml hP hK
  obtain ⟨rfl, hZ, hh⟩ := hP
  obtain ⟨X0, e0, H, hlk, hown, hret⟩ := own_start (R := ({ frames := 4, cells := 0, slots := 0, locals := 53 } : Room)) Bd hh rfl
  have hx := H.1; have hby := H.2; have N0 := Fr.nil n0
  have hdp := Jvm.Free.SBG.digits_pos n
  show own_Fin p e below (own_Ans s (Q41 Z x z fm tx kx mx cs n sp j pw h0 n0) ({ frames := 4, cells := 0, slots := 0, locals := 53 } : Room).cells ({ frames := 4, cells := 0, slots := 0, locals := 53 } : Room).slots) (s₁.setTop (entryFrame m #[(.ref x), (.int (Int32.ofNat sp)), (.int (Int32.ofNat (Jvm.Free.SBG.digits n))), (.long (Int64.ofNat n)), (.int (Int32.ofNat j)), (.long (Int64.ofNat pw))] 10))
  refine own_cast (ef_rm41 m x (Int32.ofNat sp) (Int32.ofNat (Jvm.Free.SBG.digits n)) (Int64.ofNat n) (Int32.ofNat j) (Int64.ofNat pw)) ?_
  show own_Fin p e below _ (s₁.setTop (mkF m 0 #[.val (.ref x), .val (.int (Int32.ofNat sp)), .val (.int (Int32.ofNat (Jvm.Free.SBG.digits n))), .val (.long (Int64.ofNat n)), .second, .val (.int (Int32.ofNat j)), .val (.long (Int64.ofNat pw)), .second, .unset, .unset] []))
  refine o_ild X0 H (od dB41 0 rfl) rfl ?_
  refine o_ildN X0 H (od dB41 1 rfl) rfl ?_
  by_cases hc297 : (Int32.ofNat j) < (Int32.ofNat (Jvm.Free.SBG.digits n))
  · refine o_icY X0 H (od dB41 2 rfl) (tlt hc297).1 (pc' := 8) (by decide) (by decide) ?_
    refine o_lldN X0 H (od dB41 5 rfl) rfl ?_
    refine o_lld X0 H (od dB41 6 rfl) rfl ?_
    refine own_on (fun tq => XS.ldiv X0.here hx rfl (hb hby (od dB41 7 rfl)) rfl (own_kne hpb.2 hpb.1)) ?_
    show own_Fin p e below _ (s₁.setTop (mkF m 12 #[.val (.ref x), .val (.int (Int32.ofNat sp)), .val (.int (Int32.ofNat (Jvm.Free.SBG.digits n))), .val (.long (Int64.ofNat n)), .second, .val (.int (Int32.ofNat j)), .val (.long (Int64.ofNat pw)), .second, .unset, .unset] [(.long ((Int64.ofNat n) / (Int64.ofNat pw)))]))
    refine own_on (fun tq => X0.ldc2Long hx hown (mvT hZ (ow hw 175 rfl)) (g := (mkF m 12 #[.val (.ref x), .val (.int (Int32.ofNat sp)), .val (.int (Int32.ofNat (Jvm.Free.SBG.digits n))), .val (.long (Int64.ofNat n)), .second, .val (.int (Int32.ofNat j)), .val (.long (Int64.ofNat pw)), .second, .unset, .unset] [(.long ((Int64.ofNat n) / (Int64.ofNat pw)))])) rfl (hb hby (od dB41 8 rfl)) tq) ?_
    show own_Fin p e below _ (s₁.setTop (mkF m 15 #[.val (.ref x), .val (.int (Int32.ofNat sp)), .val (.int (Int32.ofNat (Jvm.Free.SBG.digits n))), .val (.long (Int64.ofNat n)), .second, .val (.int (Int32.ofNat j)), .val (.long (Int64.ofNat pw)), .second, .unset, .unset] [(.long (10 : Int64)), (.long ((Int64.ofNat n) / (Int64.ofNat pw)))]))
    refine own_on (fun tq => XS.lrem X0.here hx rfl (hb hby (od dB41 9 rfl)) rfl (by decide)) ?_
    show own_Fin p e below _ (s₁.setTop (mkF m 16 #[.val (.ref x), .val (.int (Int32.ofNat sp)), .val (.int (Int32.ofNat (Jvm.Free.SBG.digits n))), .val (.long (Int64.ofNat n)), .second, .val (.int (Int32.ofNat j)), .val (.long (Int64.ofNat pw)), .second, .unset, .unset] [(.long (((Int64.ofNat n) / (Int64.ofNat pw)) - (((Int64.ofNat n) / (Int64.ofNat pw)) / (10 : Int64)) * (10 : Int64)))]))
    refine o_lst X0 H (od dB41 10 rfl) (L' := #[.val (.ref x), .val (.int (Int32.ofNat sp)), .val (.int (Int32.ofNat (Jvm.Free.SBG.digits n))), .val (.long (Int64.ofNat n)), .second, .val (.int (Int32.ofNat j)), .val (.long (Int64.ofNat pw)), .second, .val (.long (((Int64.ofNat n) / (Int64.ofNat pw)) - (((Int64.ofNat n) / (Int64.ofNat pw)) / (10 : Int64)) * (10 : Int64))), .second]) rfl ?_
    refine o_aldN X0 H (od dB41 11 rfl) rfl rfl ?_
    refine o_ildN X0 H (od dB41 12 rfl) rfl ?_
    refine o_ildN X0 H (od dB41 13 rfl) rfl ?_
    refine o_iadd X0 H (od dB41 14 rfl) ?_
    refine o_ic X0 H (od dB41 15 rfl) (v := 1) rfl ?_
    refine o_isub X0 H (od dB41 16 rfl) ?_
    refine o_ild X0 H (od dB41 17 rfl) rfl ?_
    refine o_isub X0 H (od dB41 18 rfl) ?_
    have hjd : j < Jvm.Free.SBG.digits n := by have z := hc297; rw [Int32.lt_iff_toInt_lt, own_toN (by omega), own_toN (by omega)] at z; omega
    rw [own_add, show (1 : Int32) = Int32.ofNat 1 from rfl, own_subn (by omega) (by omega), own_subn (by omega) (by omega)]
    show own_Fin p e below _ (s₁.setTop (mkF m 27 #[.val (.ref x), .val (.int (Int32.ofNat sp)), .val (.int (Int32.ofNat (Jvm.Free.SBG.digits n))), .val (.long (Int64.ofNat n)), .second, .val (.int (Int32.ofNat j)), .val (.long (Int64.ofNat pw)), .second, .val (.long (((Int64.ofNat n) / (Int64.ofNat pw)) - (((Int64.ofNat n) / (Int64.ofNat pw)) / (10 : Int64)) * (10 : Int64))), .second] [(.int (Int32.ofNat (sp + Jvm.Free.SBG.digits n - 1 - j))), (.ref x)]))
    obtain ⟨cq298, kq298, q298a, q298b, q298c⟩ := isOf hZ e0 Ex
    obtain ⟨_, _, ⟨T298, L298, k298, n298⟩, -, X298, ⟨Lc298, hQ298, l298, y298, z298⟩, st298⟩ := X0.virtualBack hx (y := (⟨"java/lang/String", "charAt", "(I)C"⟩ : MethodName)) (z := (⟨"java/lang/String", "charAt", "(I)C"⟩ : MethodName)) hown (mvT hZ (ow hw 183 rfl)) (mvT hZ (ow hw 184 rfl)) (notFace_of_selects (args := #[]) (mvT hZ (ow hw 186 rfl))) (mvT hZ (ow hw 186 rfl)) (mvT hZ (ow hw 185 rfl)) (by decide) (StrChars.Road.chN (W := 0) hZ (own_wC hw) (ow hw 104 rfl) Ex Vx Cx Kx (own_cod hnx (fun c q => (rgx c q).2)) (own_r16 rgx) (SC.ext O.2) hz (SF.ext O.2) hfm (i := (sp + Jvm.Free.SBG.digits n - 1 - j)) (by rw [hnx]; have := hmx; omega) (by rw [hnx]; have := hmx; omega) rfl (by decide) (by decide)) q298a q298c (g := (mkF m 27 #[.val (.ref x), .val (.int (Int32.ofNat sp)), .val (.int (Int32.ofNat (Jvm.Free.SBG.digits n))), .val (.long (Int64.ofNat n)), .second, .val (.int (Int32.ofNat j)), .val (.long (Int64.ofNat pw)), .second, .val (.long (((Int64.ofNat n) / (Int64.ofNat pw)) - (((Int64.ofNat n) / (Int64.ofNat pw)) / (10 : Int64)) * (10 : Int64))), .second] [(.int (Int32.ofNat (sp + Jvm.Free.SBG.digits n - 1 - j))), (.ref x)])) rfl hml.symm (Steps.refl _) (argsL := [(.int (Int32.ofNat (sp + Jvm.Free.SBG.digits n - 1 - j)))]) (rest := []) (lenOf pd_24 rfl) rfl (o_mr rfl) (hb hby (od dB41 19 rfl)) (fun _ _ => ⟨rfl, e0, (by decide : 0 + 0 ≤ _), (by decide : 0 + 0 ≤ _)⟩)
    dsimp only [Pt.U, Pt.locs, Pt.cells, Pt.slots] at X298 l298 y298 z298 st298 hQ298
    replace l298 := l298.symm; replace y298 := y298.symm; replace z298 := z298.symm; subst l298 y298 z298
    obtain ⟨rfl, rfl, e298⟩ := hQ298
    have N298 := Fr.app N0 (Fr.nil n0)
    rw [hdg j hjd, ← hpw] at st298
    refine own_via st298 ?_
    show own_Fin p e below _ (T298.setTop (mkF m 30 #[.val (.ref x), .val (.int (Int32.ofNat sp)), .val (.int (Int32.ofNat (Jvm.Free.SBG.digits n))), .val (.long (Int64.ofNat n)), .second, .val (.int (Int32.ofNat j)), .val (.long (Int64.ofNat pw)), .second, .val (.long (((Int64.ofNat n) / (Int64.ofNat pw)) - (((Int64.ofNat n) / (Int64.ofNat pw)) / (10 : Int64)) * (10 : Int64))), .second] [(.int (Int32.ofNat (48 + n / pw % 10)))]))
    refine o_bi X298 H (od dB41 20 rfl) (v := 48) rfl ?_
    refine o_lld X298 H (od dB41 21 rfl) rfl ?_
    refine own_on (fun tq => XS.l2i X298.here hx rfl (hb hby (od dB41 22 rfl)) rfl) ?_
    show own_Fin p e below _ (T298.setTop (mkF m 35 #[.val (.ref x), .val (.int (Int32.ofNat sp)), .val (.int (Int32.ofNat (Jvm.Free.SBG.digits n))), .val (.long (Int64.ofNat n)), .second, .val (.int (Int32.ofNat j)), .val (.long (Int64.ofNat pw)), .second, .val (.long (((Int64.ofNat n) / (Int64.ofNat pw)) - (((Int64.ofNat n) / (Int64.ofNat pw)) / (10 : Int64)) * (10 : Int64))), .second] [(.int ((((Int64.ofNat n) / (Int64.ofNat pw)) - (((Int64.ofNat n) / (Int64.ofNat pw)) / (10 : Int64)) * (10 : Int64)).toInt32)), (.int (48 : Int32)), (.int (Int32.ofNat (48 + n / pw % 10)))]))
    refine o_iadd X298 H (od dB41 23 rfl) ?_
    refine own_on (fun tq => XS.i2c X298.here hx rfl (hb hby (od dB41 24 rfl)) rfl) ?_
    show own_Fin p e below _ (T298.setTop (mkF m 37 #[.val (.ref x), .val (.int (Int32.ofNat sp)), .val (.int (Int32.ofNat (Jvm.Free.SBG.digits n))), .val (.long (Int64.ofNat n)), .second, .val (.int (Int32.ofNat j)), .val (.long (Int64.ofNat pw)), .second, .val (.long (((Int64.ofNat n) / (Int64.ofNat pw)) - (((Int64.ofNat n) / (Int64.ofNat pw)) / (10 : Int64)) * (10 : Int64))), .second] [(.int (((48 : Int32) + ((((Int64.ofNat n) / (Int64.ofNat pw)) - (((Int64.ofNat n) / (Int64.ofNat pw)) / (10 : Int64)) * (10 : Int64)).toInt32)).toUInt32.toUInt16.toUInt32.toInt32)), (.int (Int32.ofNat (48 + n / pw % 10)))]))
    rw [own_digc hn hpb.2 hpb.1]
    show own_Fin p e below _ (T298.setTop (mkF m 37 #[.val (.ref x), .val (.int (Int32.ofNat sp)), .val (.int (Int32.ofNat (Jvm.Free.SBG.digits n))), .val (.long (Int64.ofNat n)), .second, .val (.int (Int32.ofNat j)), .val (.long (Int64.ofNat pw)), .second, .val (.long (((Int64.ofNat n) / (Int64.ofNat pw)) - (((Int64.ofNat n) / (Int64.ofNat pw)) / (10 : Int64)) * (10 : Int64))), .second] [(.int (Int32.ofNat (48 + n / pw % 10))), (.int (Int32.ofNat (48 + n / pw % 10)))]))
    refine o_icN X298 H (od dB41 25 rfl) (teq rfl).2 ?_
    refine o_ic X298 H (od dB41 26 rfl) (v := 1) rfl ?_
    refine o_go X298 H (od dB41 27 rfl) (pc' := 45) (by decide) (by decide) ?_
    exact own_ret (t := .boolean) X298 hx hlk hret rfl (Or.inl ⟨rfl, (by simp), _, rfl⟩) (hb hby (od dB41 29 rfl)) (⟨rfl, N298, e298⟩) (by decide) (by decide)
  · refine o_icN X0 H (od dB41 2 rfl) (flt hc297).1 ?_
    refine o_ic X0 H (od dB41 3 rfl) (v := 1) rfl ?_
    exact own_ret (t := .boolean) X0 hx hlk hret rfl (Or.inl ⟨rfl, (by simp), _, rfl⟩) (hb hby (od dB41 4 rfl)) (⟨rfl, N0, e0⟩) (by decide) (by decide)
theorem pd_26 : parseMethodDescriptor "(J)I" = some ⟨[.long], some .int⟩ := by decide +kernel
theorem pd_27 : parseMethodDescriptor "(Ljava/lang/String;Ljava/lang/String;)Z" = some ⟨[(.object "java/lang/String"), (.object "java/lang/String")], some .boolean⟩ := by decide +kernel
theorem pd_28 : parseMethodDescriptor "(Ljava/lang/String;IIJIJ)Z" = some ⟨[(.object "java/lang/String"), .int, .int, .long, .int, .long], some .boolean⟩ := by decide +kernel
theorem ef_rm0 (m : MethodId) (x0 : Int32) : entryFrame m #[(.int x0)] maxLocals = mkF m 0 #[.val (.int x0), .unset, .unset, .unset, .unset, .unset, .unset, .unset, .unset, .unset] [] := by first | (simp [entryFrame, mkF, argsToLocals, Value.category, maxLocals]; done) | rfl
def Q0 (Z : State) (x : Int32) (z : Int32) (fm : Value) (n : Nat) (st : Addr) (d1 : Addr) (D1 : Cell) (d2 : Addr) (D2 : Cell) (pk : Addr) (tp : Addr) (kp : ClassId) (h0 : Heap) (n0 : Nat) (v : Option Value) (h : Heap) (L : List Loc) : Prop := v = some (.int 1) ∧ Fr n0 L
set_option maxRecDepth 65536 in
set_option maxHeartbeats 40000000 in
theorem rm0 (l : Launch) (Z : State) (a0 : Array Value) (hw : ∀ d ∈ tables_1, d.before a0 Z = true) (ws : List Jvm.Cond) (x : Int32) (z : Int32) (fm : Value) (n : Nat) (st : Addr) (d1 : Addr) (D1 : Cell) (d2 : Addr) (D2 : Cell) (pk : Addr) (tp : Addr) (kp : ClassId) (h0 : Heap) (n0 : Nat) (Z0 : n0 ≤ h0.size) (hEL : EW Z a0 own_EL) (hz : ¬ z = (0 : Int32)) (O : Old Z n0 h0) (SC : Sta Z Z.heap "java/lang/String" "COMPACT_STRINGS" "Z" (.int z)) (SF : Sta Z Z.heap "jdk/internal/util/Preconditions" "SIOOBE_FORMATTER" "Ljava/util/function/BiFunction;" fm) (hfm : fm.isRef = true) (T1 : Jvm.Free.SBG.Tbl Z "DigitOnes" st d1 D1) (O1 : Jvm.Free.SBG.Ones D1) (T2 : Jvm.Free.SBG.Tbl Z "DigitTens" st d2 D2) (O2 : Jvm.Free.SBG.Tens D2) (hn : n ≤ 2 ^ 31) (hxn : (if x < 0 then x else -x) = Jvm.Free.SBG.negI n) (SP : Sta Z Z.heap "com/example/tidy_injector/tidyinjector/bench/StartupGraph" "PACKAGE" "Ljava/lang/String;" (.ref pk)) (Ep : Exa Z h0 pk "java/lang/String") (Cp : Fld Z h0 pk "java/lang/String" "coder" "B" (.int (0 : Int32))) (Vp : Fld Z h0 pk "java/lang/String" "value" "[B" (.ref tp)) (Kp : Arv Z h0 tp kp .byte (50 : Int32) ((own_pk.map StrChars.lo8).map Value.int) (.int 0)) (lp1 : pk < n0) (lp2 : tp < n0) :
    MetFree l Jvm.Pilot.@@N@@.x (head1 (Jvm.Cond.code Jvm.Pilot.@@N@@.x code maxLocals ret :: ws) room_1) (fun as_ U => as_ = #[(.int x)] ∧ Z.Warmed39 U.vm ∧ U.heap = h0 ∧ CHv Z own_EL U.vm h0) (fun _ _ _ _ _ => True) (fun _ U out_ U' => ∃ v L, out_ = .returned v ∧ Q0 Z x z fm n st d1 D1 d2 D2 pk tp kp h0 n0 v U'.heap L ∧ CHr Z own_EL U.vm U.heap U'.vm U'.heap ∧ ReturnedEndW U out_ U' L room_1.cells room_1.slots) := by
  refine MetFree.of_bodySF (plainFor_of_name pn_6) hisR ?_
  intro p e s m args below meth cd s₁ Bd hml0 hP hK
  obtain ⟨rfl, hZ, hh, CH0⟩ := hP
  have hx := Bd.exec
  have hby := Bd.bytes
  have hml : cd.maxLocals = 10 := hml0
  have hlk : meth.locks = false := BodyLoose.notSynchronized Bd
  have hown : s.vm.findClass "com/example/tidy_injector/tidyinjector/bench/StartupGraphClassNamePinLaw" = some m.cls := findClass_of_methodNamed Bd.named
  have hnm := (name_of_methodNamed Bd.named Bd.method).1
  have hret := Bd.returns
  have H := And.intro hx hby
  have X0 : Stand p l e room_1 (s.setVm s.vm) m #[(.int x)] below meth cd s₁ [] 0 0 := Stand.of_body Bd
  have e0 : s₁.heap = h0 := by rw [← hh, Bd.state]; rfl
  have N0 := Fr.nil n0
  have hS0 : s.Since s.vm 0 := (State.WarmedH.refl s).since 0
  have wS := own_wS hw
  have hdp := Jvm.Free.SBG.digits_pos n
  have hsg := (own_sg x).2.2
  have hm1 : 52 + (Jvm.Free.SBG.digits n + Jvm.Free.SBG.GetChars.sgn x) < 1000 := by omega
  have hm2 : 52 < 1000 := by decide
  have rg52 : ∀ q_ ∈ own_p52, ¬ q_ < 0 ∧ ¬ (255 : Int32) < q_ := by decide
  show own_Fin p e below (own_AnsW s Z own_EL (Q0 Z x z fm n st d1 D1 d2 D2 pk tp kp h0 n0) room_1.cells room_1.slots) (s₁.setTop (entryFrame m #[(.int x)] maxLocals))
  refine own_cast (ef_rm0 m x) ?_
  show own_Fin p e below _ (s₁.setTop (mkF m 0 #[.val (.int x), .unset, .unset, .unset, .unset, .unset, .unset, .unset, .unset, .unset] []))
  refine o_ildN X0 H at_0 rfl ?_
  obtain ⟨_, _, ⟨T299, L299, k299, n299⟩, -, X299', S299', gr299, ⟨Lc299, hQ299, l299, y299, z299, A299⟩, st299⟩ := callSS X0 hx (y := (⟨"com/example/tidy_injector/tidyinjector/bench/StartupGraph", "className", "(I)Ljava/lang/String;"⟩ : MethodName)) hown (mvT hZ (ow hw 0 rfl)) (mvT hZ (ow hw 1 rfl)) (mvT hZ (ow hw 2 rfl)) (mvT hZ (ow hw 3 rfl)) (by decide) (backOfSH (s := s) (W := 0) (rm1 l Z a0 hw [] x z n st d1 D1 d2 D2 pk tp kp h0 n0 (by exact Z0) hEL hz O SC T1 O1 T2 O2 hn hxn SP Ep Cp Vp Kp lp1 lp2) hZ (ow hw 3 rfl) (ow hw 2 rfl) (by decide) (by decide) hEL CH0) (g := (mkF m 1 #[.val (.int x), .unset, .unset, .unset, .unset, .unset, .unset, .unset, .unset, .unset] [(.int x)])) rfl hml.symm (argsL := [(.int x)]) (rest := []) (lenOf pd_23 rfl) rfl (o_mr rfl) (hb hby at_1) (fun _ _ => ⟨rfl, e0, (by decide : 0 + 14 ≤ _), (by decide : 0 + 342 ≤ _)⟩)
  dsimp only [Pt.U, Pt.locs, Pt.cells, Pt.slots] at X299' S299' gr299 l299 y299 z299 st299 hQ299 A299
  replace l299 := l299.symm; replace y299 := y299.symm; replace z299 := z299.symm; subst l299 y299 z299
  obtain ⟨X299, hS299, hZ299, hown299⟩ := rebS hS0 (by first | exact (Nat.zero_le _) | (rw [e0]; exact (Nat.zero_le _))) X299' S299' gr299 hZ hown
  obtain ⟨y299s, t299, kt299, rfl, N299q, K299, Eq299, Cq299, Vq299, Aq299⟩ := hQ299
  have N299 := Fr.app N0 N299q
  refine own_via st299 ?_
  show own_Fin p e below _ (T299.setTop (mkF m 4 #[.val (.int x), .unset, .unset, .unset, .unset, .unset, .unset, .unset, .unset, .unset] [(.ref y299s)]))
  refine o_astN X299 H at_4 (L' := #[.val (.int x), .val (.ref y299s), .unset, .unset, .unset, .unset, .unset, .unset, .unset, .unset]) rfl rfl ?_
  obtain ⟨a300, T300, h300, k300, c300, kc300, X300, e300, E300, hS300, hk300, hZ300, hown300, Ea300, Ca300, Va300, Aa300, la300, lc300, A300, Lt300, sf300, st300⟩ := ldcCH X299 hx hZ299 hown299 (ow hw 170 rfl) wS rfl hS299 (Nat.le_refl (Array.size T299.heap)) hEL (by decide) A299.1 (vs := [(.int (99 : Int32)), (.int (111 : Int32)), (.int (109 : Int32)), (.int (46 : Int32)), (.int (101 : Int32)), (.int (120 : Int32)), (.int (97 : Int32)), (.int (109 : Int32)), (.int (112 : Int32)), (.int (108 : Int32)), (.int (101 : Int32)), (.int (46 : Int32)), (.int (116 : Int32)), (.int (105 : Int32)), (.int (100 : Int32)), (.int (121 : Int32)), (.int (95 : Int32)), (.int (105 : Int32)), (.int (110 : Int32)), (.int (106 : Int32)), (.int (101 : Int32)), (.int (99 : Int32)), (.int (116 : Int32)), (.int (111 : Int32)), (.int (114 : Int32)), (.int (46 : Int32)), (.int (116 : Int32)), (.int (105 : Int32)), (.int (100 : Int32)), (.int (121 : Int32)), (.int (105 : Int32)), (.int (110 : Int32)), (.int (106 : Int32)), (.int (101 : Int32)), (.int (99 : Int32)), (.int (116 : Int32)), (.int (111 : Int32)), (.int (114 : Int32)), (.int (46 : Int32)), (.int (98 : Int32)), (.int (101 : Int32)), (.int (110 : Int32)), (.int (99 : Int32)), (.int (104 : Int32)), (.int (46 : Int32)), (.int (103 : Int32)), (.int (114 : Int32)), (.int (97 : Int32)), (.int (112 : Int32)), (.int (104 : Int32)), (.int (46 : Int32)), (.int (67 : Int32))]) (z := (52 : Int32)) ⟨by decide, rfl⟩ (by decide) rfl (g := (mkF m 5 #[.val (.int x), .val (.ref y299s), .unset, .unset, .unset, .unset, .unset, .unset, .unset, .unset] [])) rfl (hb hby at_5) (n := 208) (by decide) (by decide) (by decide) (by decide)
  refine own_on st300 ?_
  show own_Fin p e below _ (T300.setTop (mkF m 7 #[.val (.int x), .val (.ref y299s), .unset, .unset, .unset, .unset, .unset, .unset, .unset, .unset] [(.ref a300)]))
  have KL301 : Arv Z h300 c300 kc300 .byte (52 : Int32) ((own_p52.map StrChars.lo8).map Value.int) (.int 0) := by show Arv Z h300 c300 kc300 .byte (52 : Int32) [(.int (StrChars.lo8 (99 : Int32))), (.int (StrChars.lo8 (111 : Int32))), (.int (StrChars.lo8 (109 : Int32))), (.int (StrChars.lo8 (46 : Int32))), (.int (StrChars.lo8 (101 : Int32))), (.int (StrChars.lo8 (120 : Int32))), (.int (StrChars.lo8 (97 : Int32))), (.int (StrChars.lo8 (109 : Int32))), (.int (StrChars.lo8 (112 : Int32))), (.int (StrChars.lo8 (108 : Int32))), (.int (StrChars.lo8 (101 : Int32))), (.int (StrChars.lo8 (46 : Int32))), (.int (StrChars.lo8 (116 : Int32))), (.int (StrChars.lo8 (105 : Int32))), (.int (StrChars.lo8 (100 : Int32))), (.int (StrChars.lo8 (121 : Int32))), (.int (StrChars.lo8 (95 : Int32))), (.int (StrChars.lo8 (105 : Int32))), (.int (StrChars.lo8 (110 : Int32))), (.int (StrChars.lo8 (106 : Int32))), (.int (StrChars.lo8 (101 : Int32))), (.int (StrChars.lo8 (99 : Int32))), (.int (StrChars.lo8 (116 : Int32))), (.int (StrChars.lo8 (111 : Int32))), (.int (StrChars.lo8 (114 : Int32))), (.int (StrChars.lo8 (46 : Int32))), (.int (StrChars.lo8 (116 : Int32))), (.int (StrChars.lo8 (105 : Int32))), (.int (StrChars.lo8 (100 : Int32))), (.int (StrChars.lo8 (121 : Int32))), (.int (StrChars.lo8 (105 : Int32))), (.int (StrChars.lo8 (110 : Int32))), (.int (StrChars.lo8 (106 : Int32))), (.int (StrChars.lo8 (101 : Int32))), (.int (StrChars.lo8 (99 : Int32))), (.int (StrChars.lo8 (116 : Int32))), (.int (StrChars.lo8 (111 : Int32))), (.int (StrChars.lo8 (114 : Int32))), (.int (StrChars.lo8 (46 : Int32))), (.int (StrChars.lo8 (98 : Int32))), (.int (StrChars.lo8 (101 : Int32))), (.int (StrChars.lo8 (110 : Int32))), (.int (StrChars.lo8 (99 : Int32))), (.int (StrChars.lo8 (104 : Int32))), (.int (StrChars.lo8 (46 : Int32))), (.int (StrChars.lo8 (103 : Int32))), (.int (StrChars.lo8 (114 : Int32))), (.int (StrChars.lo8 (97 : Int32))), (.int (StrChars.lo8 (112 : Int32))), (.int (StrChars.lo8 (104 : Int32))), (.int (StrChars.lo8 (46 : Int32))), (.int (StrChars.lo8 (67 : Int32)))] (.int 0); rw [show StrChars.lo8 (46 : Int32) = 46 from by decide, show StrChars.lo8 (67 : Int32) = 67 from by decide, show StrChars.lo8 (95 : Int32) = 95 from by decide, show StrChars.lo8 (97 : Int32) = 97 from by decide, show StrChars.lo8 (98 : Int32) = 98 from by decide, show StrChars.lo8 (99 : Int32) = 99 from by decide, show StrChars.lo8 (100 : Int32) = 100 from by decide, show StrChars.lo8 (101 : Int32) = 101 from by decide, show StrChars.lo8 (103 : Int32) = 103 from by decide, show StrChars.lo8 (104 : Int32) = 104 from by decide, show StrChars.lo8 (105 : Int32) = 105 from by decide, show StrChars.lo8 (106 : Int32) = 106 from by decide, show StrChars.lo8 (108 : Int32) = 108 from by decide, show StrChars.lo8 (109 : Int32) = 109 from by decide, show StrChars.lo8 (110 : Int32) = 110 from by decide, show StrChars.lo8 (111 : Int32) = 111 from by decide, show StrChars.lo8 (112 : Int32) = 112 from by decide, show StrChars.lo8 (114 : Int32) = 114 from by decide, show StrChars.lo8 (116 : Int32) = 116 from by decide, show StrChars.lo8 (120 : Int32) = 120 from by decide, show StrChars.lo8 (121 : Int32) = 121 from by decide]; exact Aa300
  refine o_astN X300 H at_7 (L' := #[.val (.int x), .val (.ref y299s), .val (.ref a300), .unset, .unset, .unset, .unset, .unset, .unset, .unset]) rfl rfl ?_
  by_cases hx0 : x < 0
  · have sg1 : Jvm.Free.SBG.GetChars.sgn x = 1 := (own_sg x).1 hx0
    show own_Fin p e below _ (T300.setTop (mkF m 8 #[.val (.int x), .val (.ref y299s), .val (.ref a300), .unset, .unset, .unset, .unset, .unset, .unset, .unset] []))
    refine o_ildN X300 H at_8 rfl ?_
    refine own_on (fun tq => XS.i2l X300.here hx rfl (hb hby at_9) rfl) ?_
    show own_Fin p e below _ (T300.setTop (mkF m 10 #[.val (.int x), .val (.ref y299s), .val (.ref a300), .unset, .unset, .unset, .unset, .unset, .unset, .unset] [(.long (x.toInt64))]))
    refine o_lstN X300 H at_10 (L' := #[.val (.int x), .val (.ref y299s), .val (.ref a300), .val (.long (x.toInt64)), .second, .unset, .unset, .unset, .unset, .unset]) rfl ?_
    refine o_lldN X300 H at_11 rfl ?_
    refine own_on (fun tq => XS.lconst X300.here hx rfl (hb hby at_12)) ?_
    show own_Fin p e below _ (T300.setTop (mkF m 13 #[.val (.int x), .val (.ref y299s), .val (.ref a300), .val (.long (x.toInt64)), .second, .unset, .unset, .unset, .unset, .unset] [(.long (0 : Int64)), (.long (x.toInt64))]))
    refine own_on (fun tq => XS.lcmp X300.here hx rfl (hb hby at_13) rfl) ?_
    show own_Fin p e below _ (T300.setTop (mkF m 14 #[.val (.int x), .val (.ref y299s), .val (.ref a300), .val (.long (x.toInt64)), .second, .unset, .unset, .unset, .unset, .unset] [(.int (lcmpW (x.toInt64) (0 : Int64)))]))
    refine o_ifN X300 H at_14 ((if0 _ _).trans (tlt ((own_lneg x).mpr hx0)).2.1) ?_
    refine o_ic X300 H at_17 (v := 1) rfl ?_
    refine o_go X300 H at_18 (pc' := 22) (by decide) (by decide) ?_
    refine o_ist X300 H at_22 (L' := #[.val (.int x), .val (.ref y299s), .val (.ref a300), .val (.long (x.toInt64)), .second, .val (.int (1 : Int32)), .unset, .unset, .unset, .unset]) rfl ?_
    refine o_ild X300 H at_24 rfl ?_
    refine o_ifN X300 H at_26 ((if0 _ _).trans (feq (by decide : ¬ ((1 : Int32) = (0 : Int32)))).1) ?_
    refine o_lldN X300 H at_29 rfl ?_
    refine own_on (fun tq => XS.lneg X300.here hx rfl (hb hby at_30) rfl) ?_
    show own_Fin p e below _ (T300.setTop (mkF m 31 #[.val (.int x), .val (.ref y299s), .val (.ref a300), .val (.long (x.toInt64)), .second, .val (.int (1 : Int32)), .unset, .unset, .unset, .unset] [(.long (-(x.toInt64)))]))
    refine o_go X300 H at_31 (pc' := 35) (by decide) (by decide) ?_
    rw [own_abs1 hn hxn hx0]
    show own_Fin p e below _ (T300.setTop (mkF m 35 #[.val (.int x), .val (.ref y299s), .val (.ref a300), .val (.long (x.toInt64)), .second, .val (.int (1 : Int32)), .unset, .unset, .unset, .unset] [(.long (Int64.ofNat n))]))
    refine o_lst X300 H at_35 (L' := #[.val (.int x), .val (.ref y299s), .val (.ref a300), .val (.long (x.toInt64)), .second, .val (.int (1 : Int32)), .val (.long (Int64.ofNat n)), .second, .unset, .unset]) rfl ?_
    refine o_lld X300 H at_37 rfl ?_
    refine o_tc (argsL := [(.long (Int64.ofNat n))]) (rest := []) X300 H hml hZ300 hown300 (ow hw 171 rfl) (ow hw 172 rfl) (ow hw 173 rfl) (ow hw 174 rfl) (backOf (W := 0) (rm33 l Z a0 hw [] n h300 n0 (by exact (Nat.le_trans (Nat.le_trans Z0 K299.1) E300.1)) hn) hZ300 (ow hw 174 rfl) (ow hw 173 rfl) (by decide) (by decide)) (by decide) e300 pd_26 at_39 rfl rfl rfl rfl rfl (by decide) (by decide) (o_pk (fun _ _ _ q => q) N299 fun T302 Lc302 X302 N302 e302 => ?_)
    refine o_ist X302 H at_42 (L' := #[.val (.int x), .val (.ref y299s), .val (.ref a300), .val (.long (x.toInt64)), .second, .val (.int (1 : Int32)), .val (.long (Int64.ofNat n)), .second, .val (.int (Int32.ofNat (Jvm.Free.SBG.digits n))), .unset]) rfl ?_
    refine o_bi X302 H at_44 (v := 52) rfl ?_
    refine o_ild X302 H at_46 rfl ?_
    refine o_ifN X302 H at_48 ((if0 _ _).trans (feq (by decide : ¬ ((1 : Int32) = (0 : Int32)))).1) ?_
    refine o_ic X302 H at_51 (v := 1) rfl ?_
    refine o_go X302 H at_52 (pc' := 56) (by decide) (by decide) ?_
    refine own_on (fun tq => XS.iadd X302.here hx rfl (hb hby at_56) rfl) ?_
    show own_Fin p e below _ (T302.setTop (mkF m 57 #[.val (.int x), .val (.ref y299s), .val (.ref a300), .val (.long (x.toInt64)), .second, .val (.int (1 : Int32)), .val (.long (Int64.ofNat n)), .second, .val (.int (Int32.ofNat (Jvm.Free.SBG.digits n))), .unset] [(.int (53 : Int32))]))
    refine o_ist X302 H at_57 (L' := #[.val (.int x), .val (.ref y299s), .val (.ref a300), .val (.long (x.toInt64)), .second, .val (.int (1 : Int32)), .val (.long (Int64.ofNat n)), .second, .val (.int (Int32.ofNat (Jvm.Free.SBG.digits n))), .val (.int (53 : Int32))]) rfl ?_
    refine o_aldN X302 H at_59 rfl rfl ?_
    obtain ⟨cq303, kq303, q303a, q303b, q303c⟩ := isOf hZ300 e302 (Eq299.ext E300)
    obtain ⟨_, _, ⟨T303, L303, k303, n303⟩, -, X303, ⟨Lc303, hQ303, l303, y303, z303⟩, st303⟩ := X302.virtualBack hx (y := (⟨"java/lang/String", "length", "()I"⟩ : MethodName)) (z := (⟨"java/lang/String", "length", "()I"⟩ : MethodName)) hown300 (mvT hZ300 (ow hw 176 rfl)) (mvT hZ300 (ow hw 39 rfl)) (notFace_of_selects (args := #[]) (mvT hZ300 (ow hw 41 rfl))) (mvT hZ300 (ow hw 41 rfl)) (mvT hZ300 (ow hw 40 rfl)) (by decide) (StrChars.Road.lenW (W := 0) hZ300 (own_wL hw) (ow hw 104 rfl) (Eq299.ext E300) (Vq299.ext E300) (Cq299.ext E300) (Aq299.ext E300) (own_cod (own_nml x n) (fun c q => ((own_nmr x n) c q).2)) (own_r16 (own_nmr x n)) (SC.ext ((O.keep K299 all0).ext E300).2) hz (by rw [(own_nml x n)]; have := hm1; omega) (by decide) (by decide)) q303a q303c (g := (mkF m 60 #[.val (.int x), .val (.ref y299s), .val (.ref a300), .val (.long (x.toInt64)), .second, .val (.int (1 : Int32)), .val (.long (Int64.ofNat n)), .second, .val (.int (Int32.ofNat (Jvm.Free.SBG.digits n))), .val (.int (53 : Int32))] [(.ref y299s)])) rfl hml.symm (Steps.refl _) (argsL := []) (rest := []) (lenOf pd_1 rfl) rfl (o_mr rfl) (hb hby at_60) (fun _ _ => ⟨rfl, e302, (by decide : 16 + 0 ≤ _), (by decide : 554 + 0 ≤ _)⟩)
    dsimp only [Pt.U, Pt.locs, Pt.cells, Pt.slots] at X303 l303 y303 z303 st303 hQ303
    replace l303 := l303.symm; replace y303 := y303.symm; replace z303 := z303.symm; subst l303 y303 z303
    obtain ⟨rfl, rfl, e303⟩ := hQ303
    have N303 := Fr.app N302 (Fr.nil n0)
    rw [(own_nml x n)] at st303
    refine own_via st303 ?_
    show own_Fin p e below _ (T303.setTop (mkF m 63 #[.val (.int x), .val (.ref y299s), .val (.ref a300), .val (.long (x.toInt64)), .second, .val (.int (1 : Int32)), .val (.long (Int64.ofNat n)), .second, .val (.int (Int32.ofNat (Jvm.Free.SBG.digits n))), .val (.int (53 : Int32))] [(.int (Int32.ofNat (52 + (Jvm.Free.SBG.digits n + Jvm.Free.SBG.GetChars.sgn x))))]))
    refine o_ild X303 H at_63 rfl ?_
    refine o_ild X303 H at_65 rfl ?_
    refine o_iadd X303 H at_67 ?_
    refine o_icY X303 H at_68 (teq (by rw [show (53 : Int32) = Int32.ofNat 53 from rfl, own_add]; exact congrArg Int32.ofNat (by omega))).1 (pc' := 73) (by decide) (by decide) ?_
    refine o_aldN X303 H at_73 rfl rfl ?_
    refine o_aldN X303 H at_74 rfl rfl ?_
    refine o_tc (argsL := [(.ref y299s), (.ref a300)]) (rest := []) X303 H hml hZ300 hown300 (ow hw 177 rfl) (ow hw 178 rfl) (ow hw 173 rfl) (ow hw 179 rfl) (backOf (W := 0) (rm34 l Z a0 hw [] y299s a300 z fm t299 kt299 (52 + (Jvm.Free.SBG.digits n + Jvm.Free.SBG.GetChars.sgn x)) (own_nm x n) c300 kc300 52 own_p52 h300 n0 (by exact (Nat.le_trans (Nat.le_trans Z0 K299.1) E300.1)) hz ((O.keep K299 all0).ext E300) SC SF hfm (Eq299.ext E300) (Cq299.ext E300) (Vq299.ext E300) (Aq299.ext E300) (own_nml x n) (own_nmr x n) hm1 Ea300 Ca300 Va300 KL301 (rfl : own_p52.length = 52) rg52 hm2 rfl (by omega) (fun j q => own_nmp x n q)) hZ300 (ow hw 179 rfl) (ow hw 173 rfl) (by decide) (by decide)) (by decide) e303 pd_27 at_75 rfl rfl rfl rfl rfl (by decide) (by decide) (o_pk (fun _ _ _ q => q) N303 fun T304 Lc304 X304 N304 e304 => ?_)
    refine o_ifY X304 H at_78 ((if0 _ _).trans (feq (by decide : ¬ ((1 : Int32) = (0 : Int32)))).2) (pc' := 83) (by decide) (by decide) ?_
    refine o_ild X304 H at_83 rfl ?_
    refine o_ifN X304 H at_85 ((if0 _ _).trans (feq (by decide : ¬ ((1 : Int32) = (0 : Int32)))).1) ?_
    refine o_aldN X304 H at_88 rfl rfl ?_
    refine o_bi X304 H at_89 (v := 52) rfl ?_
    obtain ⟨cq305, kq305, q305a, q305b, q305c⟩ := isOf hZ300 e304 (Eq299.ext E300)
    obtain ⟨_, _, ⟨T305, L305, k305, n305⟩, -, X305, ⟨Lc305, hQ305, l305, y305, z305⟩, st305⟩ := X304.virtualBack hx (y := (⟨"java/lang/String", "charAt", "(I)C"⟩ : MethodName)) (z := (⟨"java/lang/String", "charAt", "(I)C"⟩ : MethodName)) hown300 (mvT hZ300 (ow hw 183 rfl)) (mvT hZ300 (ow hw 184 rfl)) (notFace_of_selects (args := #[]) (mvT hZ300 (ow hw 186 rfl))) (mvT hZ300 (ow hw 186 rfl)) (mvT hZ300 (ow hw 185 rfl)) (by decide) (StrChars.Road.chN (W := 0) hZ300 (own_wC hw) (ow hw 104 rfl) (Eq299.ext E300) (Vq299.ext E300) (Cq299.ext E300) (Aq299.ext E300) (own_cod (own_nml x n) (fun c q => ((own_nmr x n) c q).2)) (own_r16 (own_nmr x n)) (SC.ext ((O.keep K299 all0).ext E300).2) hz (SF.ext ((O.keep K299 all0).ext E300).2) hfm (i := 52) (by rw [(own_nml x n)]; have := hm1; omega) (by rw [(own_nml x n)]; have := hm1; omega) rfl (by decide) (by decide)) q305a q305c (g := (mkF m 91 #[.val (.int x), .val (.ref y299s), .val (.ref a300), .val (.long (x.toInt64)), .second, .val (.int (1 : Int32)), .val (.long (Int64.ofNat n)), .second, .val (.int (Int32.ofNat (Jvm.Free.SBG.digits n))), .val (.int (53 : Int32))] [(.int (52 : Int32)), (.ref y299s)])) rfl hml.symm (Steps.refl _) (argsL := [(.int (52 : Int32))]) (rest := []) (lenOf pd_24 rfl) rfl (o_mr rfl) (hb hby at_91) (fun _ _ => ⟨rfl, e304, (by decide : 16 + 0 ≤ _), (by decide : 554 + 0 ≤ _)⟩)
    dsimp only [Pt.U, Pt.locs, Pt.cells, Pt.slots] at X305 l305 y305 z305 st305 hQ305
    replace l305 := l305.symm; replace y305 := y305.symm; replace z305 := z305.symm; subst l305 y305 z305
    obtain ⟨rfl, rfl, e305⟩ := hQ305
    have N305 := Fr.app N304 (Fr.nil n0)
    rw [show (own_nm x n).getD 52 0 = 45 from (own_nmd x n 0).trans (own_dg45 n hx0)] at st305
    refine own_via st305 ?_
    show own_Fin p e below _ (T305.setTop (mkF m 94 #[.val (.int x), .val (.ref y299s), .val (.ref a300), .val (.long (x.toInt64)), .second, .val (.int (1 : Int32)), .val (.long (Int64.ofNat n)), .second, .val (.int (Int32.ofNat (Jvm.Free.SBG.digits n))), .val (.int (53 : Int32))] [(.int (45 : Int32))]))
    refine o_bi X305 H at_94 (v := 45) rfl ?_
    refine o_icY X305 H at_96 (teq (by decide : (45 : Int32) = (45 : Int32))).1 (pc' := 101) (by decide) (by decide) ?_
    have hdg : ∀ i, i < Jvm.Free.SBG.digits n → (own_nm x n).getD (53 + Jvm.Free.SBG.digits n - 1 - i) 0 = Int32.ofNat (48 + n / 10 ^ i % 10) := fun i hi => by have q := own_dgAt x (n := n) hi; rw [sg1] at q; rw [show 53 + Jvm.Free.SBG.digits n - 1 - i = 52 + (1 + Jvm.Free.SBG.digits n - 1 - i) by omega, own_nmd]; exact q
    refine o_aldN X305 H at_101 rfl rfl ?_
    refine o_ild X305 H at_102 rfl ?_
    refine o_ild X305 H at_104 rfl ?_
    refine o_lld X305 H at_106 rfl ?_
    refine o_ic X305 H at_108 (v := 0) rfl ?_
    refine own_on (fun tq => XS.lconst X305.here hx rfl (hb hby at_109)) ?_
    show own_Fin p e below _ (T305.setTop (mkF m 110 #[.val (.int x), .val (.ref y299s), .val (.ref a300), .val (.long (x.toInt64)), .second, .val (.int (1 : Int32)), .val (.long (Int64.ofNat n)), .second, .val (.int (Int32.ofNat (Jvm.Free.SBG.digits n))), .val (.int (53 : Int32))] [(.long (1 : Int64)), (.int (0 : Int32)), (.long (Int64.ofNat n)), (.int (Int32.ofNat (Jvm.Free.SBG.digits n))), (.int (53 : Int32)), (.ref y299s)]))
    refine o_tc (argsL := [(.ref y299s), (.int (53 : Int32)), (.int (Int32.ofNat (Jvm.Free.SBG.digits n))), (.long (Int64.ofNat n)), (.int (0 : Int32)), (.long (1 : Int64))]) (rest := []) X305 H hml hZ300 hown300 (ow hw 205 rfl) (ow hw 206 rfl) (ow hw 173 rfl) (ow hw 207 rfl) (backOf (W := 0) (rm41 l Z a0 hw [] y299s z fm t299 kt299 (52 + (Jvm.Free.SBG.digits n + Jvm.Free.SBG.GetChars.sgn x)) (own_nm x n) n 53 0 1 h300 n0 (by exact (Nat.le_trans (Nat.le_trans Z0 K299.1) E300.1)) hz ((O.keep K299 all0).ext E300) SC SF hfm (Eq299.ext E300) (Cq299.ext E300) (Vq299.ext E300) (Aq299.ext E300) (own_nml x n) (own_nmr x n) hm1 hn (by rw [sg1]; omega) rfl ⟨by decide, by decide⟩ (by decide) hdg) hZ300 (ow hw 207 rfl) (ow hw 173 rfl) (by decide) (by decide)) (by decide) e305 pd_28 at_110 rfl rfl rfl rfl rfl (by decide) (by decide) (o_pk (fun _ _ _ q => q) N305 fun T306 Lc306 X306 N306 e306 => ?_)
    refine o_ifN X306 H at_113 ((if0 _ _).trans (feq (by decide : ¬ ((1 : Int32) = (0 : Int32)))).1) ?_
    refine o_aldN X306 H at_116 rfl rfl ?_
    refine o_ild X306 H at_117 rfl ?_
    refine o_ild X306 H at_119 rfl ?_
    refine o_lld X306 H at_121 rfl ?_
    refine o_ic X306 H at_123 (v := 1) rfl ?_
    refine own_on (fun tq => X306.ldc2Long hx hown300 (mvT hZ300 (ow hw 175 rfl)) (g := (mkF m 124 #[.val (.int x), .val (.ref y299s), .val (.ref a300), .val (.long (x.toInt64)), .second, .val (.int (1 : Int32)), .val (.long (Int64.ofNat n)), .second, .val (.int (Int32.ofNat (Jvm.Free.SBG.digits n))), .val (.int (53 : Int32))] [(.int (1 : Int32)), (.long (Int64.ofNat n)), (.int (Int32.ofNat (Jvm.Free.SBG.digits n))), (.int (53 : Int32)), (.ref y299s)])) rfl (hb hby at_124) tq) ?_
    show own_Fin p e below _ (T306.setTop (mkF m 127 #[.val (.int x), .val (.ref y299s), .val (.ref a300), .val (.long (x.toInt64)), .second, .val (.int (1 : Int32)), .val (.long (Int64.ofNat n)), .second, .val (.int (Int32.ofNat (Jvm.Free.SBG.digits n))), .val (.int (53 : Int32))] [(.long (10 : Int64)), (.int (1 : Int32)), (.long (Int64.ofNat n)), (.int (Int32.ofNat (Jvm.Free.SBG.digits n))), (.int (53 : Int32)), (.ref y299s)]))
    refine o_tc (argsL := [(.ref y299s), (.int (53 : Int32)), (.int (Int32.ofNat (Jvm.Free.SBG.digits n))), (.long (Int64.ofNat n)), (.int (1 : Int32)), (.long (10 : Int64))]) (rest := []) X306 H hml hZ300 hown300 (ow hw 205 rfl) (ow hw 206 rfl) (ow hw 173 rfl) (ow hw 207 rfl) (backOf (W := 0) (rm41 l Z a0 hw [] y299s z fm t299 kt299 (52 + (Jvm.Free.SBG.digits n + Jvm.Free.SBG.GetChars.sgn x)) (own_nm x n) n 53 1 10 h300 n0 (by exact (Nat.le_trans (Nat.le_trans Z0 K299.1) E300.1)) hz ((O.keep K299 all0).ext E300) SC SF hfm (Eq299.ext E300) (Cq299.ext E300) (Vq299.ext E300) (Aq299.ext E300) (own_nml x n) (own_nmr x n) hm1 hn (by rw [sg1]; omega) rfl ⟨by decide, by decide⟩ (by decide) hdg) hZ300 (ow hw 207 rfl) (ow hw 173 rfl) (by decide) (by decide)) (by decide) e306 pd_28 at_127 rfl rfl rfl rfl rfl (by decide) (by decide) (o_pk (fun _ _ _ q => q) N306 fun T307 Lc307 X307 N307 e307 => ?_)
    refine o_ifN X307 H at_130 ((if0 _ _).trans (feq (by decide : ¬ ((1 : Int32) = (0 : Int32)))).1) ?_
    refine o_aldN X307 H at_133 rfl rfl ?_
    refine o_ild X307 H at_134 rfl ?_
    refine o_ild X307 H at_136 rfl ?_
    refine o_lld X307 H at_138 rfl ?_
    refine o_ic X307 H at_140 (v := 2) rfl ?_
    refine own_on (fun tq => X307.ldc2Long hx hown300 (mvT hZ300 (ow hw 208 rfl)) (g := (mkF m 141 #[.val (.int x), .val (.ref y299s), .val (.ref a300), .val (.long (x.toInt64)), .second, .val (.int (1 : Int32)), .val (.long (Int64.ofNat n)), .second, .val (.int (Int32.ofNat (Jvm.Free.SBG.digits n))), .val (.int (53 : Int32))] [(.int (2 : Int32)), (.long (Int64.ofNat n)), (.int (Int32.ofNat (Jvm.Free.SBG.digits n))), (.int (53 : Int32)), (.ref y299s)])) rfl (hb hby at_141) tq) ?_
    show own_Fin p e below _ (T307.setTop (mkF m 144 #[.val (.int x), .val (.ref y299s), .val (.ref a300), .val (.long (x.toInt64)), .second, .val (.int (1 : Int32)), .val (.long (Int64.ofNat n)), .second, .val (.int (Int32.ofNat (Jvm.Free.SBG.digits n))), .val (.int (53 : Int32))] [(.long (100 : Int64)), (.int (2 : Int32)), (.long (Int64.ofNat n)), (.int (Int32.ofNat (Jvm.Free.SBG.digits n))), (.int (53 : Int32)), (.ref y299s)]))
    refine o_tc (argsL := [(.ref y299s), (.int (53 : Int32)), (.int (Int32.ofNat (Jvm.Free.SBG.digits n))), (.long (Int64.ofNat n)), (.int (2 : Int32)), (.long (100 : Int64))]) (rest := []) X307 H hml hZ300 hown300 (ow hw 205 rfl) (ow hw 206 rfl) (ow hw 173 rfl) (ow hw 207 rfl) (backOf (W := 0) (rm41 l Z a0 hw [] y299s z fm t299 kt299 (52 + (Jvm.Free.SBG.digits n + Jvm.Free.SBG.GetChars.sgn x)) (own_nm x n) n 53 2 100 h300 n0 (by exact (Nat.le_trans (Nat.le_trans Z0 K299.1) E300.1)) hz ((O.keep K299 all0).ext E300) SC SF hfm (Eq299.ext E300) (Cq299.ext E300) (Vq299.ext E300) (Aq299.ext E300) (own_nml x n) (own_nmr x n) hm1 hn (by rw [sg1]; omega) rfl ⟨by decide, by decide⟩ (by decide) hdg) hZ300 (ow hw 207 rfl) (ow hw 173 rfl) (by decide) (by decide)) (by decide) e307 pd_28 at_144 rfl rfl rfl rfl rfl (by decide) (by decide) (o_pk (fun _ _ _ q => q) N307 fun T308 Lc308 X308 N308 e308 => ?_)
    refine o_ifN X308 H at_147 ((if0 _ _).trans (feq (by decide : ¬ ((1 : Int32) = (0 : Int32)))).1) ?_
    refine o_aldN X308 H at_150 rfl rfl ?_
    refine o_ild X308 H at_151 rfl ?_
    refine o_ild X308 H at_153 rfl ?_
    refine o_lld X308 H at_155 rfl ?_
    refine o_ic X308 H at_157 (v := 3) rfl ?_
    refine own_on (fun tq => X308.ldc2Long hx hown300 (mvT hZ300 (ow hw 209 rfl)) (g := (mkF m 158 #[.val (.int x), .val (.ref y299s), .val (.ref a300), .val (.long (x.toInt64)), .second, .val (.int (1 : Int32)), .val (.long (Int64.ofNat n)), .second, .val (.int (Int32.ofNat (Jvm.Free.SBG.digits n))), .val (.int (53 : Int32))] [(.int (3 : Int32)), (.long (Int64.ofNat n)), (.int (Int32.ofNat (Jvm.Free.SBG.digits n))), (.int (53 : Int32)), (.ref y299s)])) rfl (hb hby at_158) tq) ?_
    show own_Fin p e below _ (T308.setTop (mkF m 161 #[.val (.int x), .val (.ref y299s), .val (.ref a300), .val (.long (x.toInt64)), .second, .val (.int (1 : Int32)), .val (.long (Int64.ofNat n)), .second, .val (.int (Int32.ofNat (Jvm.Free.SBG.digits n))), .val (.int (53 : Int32))] [(.long (1000 : Int64)), (.int (3 : Int32)), (.long (Int64.ofNat n)), (.int (Int32.ofNat (Jvm.Free.SBG.digits n))), (.int (53 : Int32)), (.ref y299s)]))
    refine o_tc (argsL := [(.ref y299s), (.int (53 : Int32)), (.int (Int32.ofNat (Jvm.Free.SBG.digits n))), (.long (Int64.ofNat n)), (.int (3 : Int32)), (.long (1000 : Int64))]) (rest := []) X308 H hml hZ300 hown300 (ow hw 205 rfl) (ow hw 206 rfl) (ow hw 173 rfl) (ow hw 207 rfl) (backOf (W := 0) (rm41 l Z a0 hw [] y299s z fm t299 kt299 (52 + (Jvm.Free.SBG.digits n + Jvm.Free.SBG.GetChars.sgn x)) (own_nm x n) n 53 3 1000 h300 n0 (by exact (Nat.le_trans (Nat.le_trans Z0 K299.1) E300.1)) hz ((O.keep K299 all0).ext E300) SC SF hfm (Eq299.ext E300) (Cq299.ext E300) (Vq299.ext E300) (Aq299.ext E300) (own_nml x n) (own_nmr x n) hm1 hn (by rw [sg1]; omega) rfl ⟨by decide, by decide⟩ (by decide) hdg) hZ300 (ow hw 207 rfl) (ow hw 173 rfl) (by decide) (by decide)) (by decide) e308 pd_28 at_161 rfl rfl rfl rfl rfl (by decide) (by decide) (o_pk (fun _ _ _ q => q) N308 fun T309 Lc309 X309 N309 e309 => ?_)
    refine o_ifN X309 H at_164 ((if0 _ _).trans (feq (by decide : ¬ ((1 : Int32) = (0 : Int32)))).1) ?_
    refine o_aldN X309 H at_167 rfl rfl ?_
    refine o_ild X309 H at_168 rfl ?_
    refine o_ild X309 H at_170 rfl ?_
    refine o_lld X309 H at_172 rfl ?_
    refine o_ic X309 H at_174 (v := 4) rfl ?_
    refine own_on (fun tq => X309.ldc2Long hx hown300 (mvT hZ300 (ow hw 210 rfl)) (g := (mkF m 175 #[.val (.int x), .val (.ref y299s), .val (.ref a300), .val (.long (x.toInt64)), .second, .val (.int (1 : Int32)), .val (.long (Int64.ofNat n)), .second, .val (.int (Int32.ofNat (Jvm.Free.SBG.digits n))), .val (.int (53 : Int32))] [(.int (4 : Int32)), (.long (Int64.ofNat n)), (.int (Int32.ofNat (Jvm.Free.SBG.digits n))), (.int (53 : Int32)), (.ref y299s)])) rfl (hb hby at_175) tq) ?_
    show own_Fin p e below _ (T309.setTop (mkF m 178 #[.val (.int x), .val (.ref y299s), .val (.ref a300), .val (.long (x.toInt64)), .second, .val (.int (1 : Int32)), .val (.long (Int64.ofNat n)), .second, .val (.int (Int32.ofNat (Jvm.Free.SBG.digits n))), .val (.int (53 : Int32))] [(.long (10000 : Int64)), (.int (4 : Int32)), (.long (Int64.ofNat n)), (.int (Int32.ofNat (Jvm.Free.SBG.digits n))), (.int (53 : Int32)), (.ref y299s)]))
    refine o_tc (argsL := [(.ref y299s), (.int (53 : Int32)), (.int (Int32.ofNat (Jvm.Free.SBG.digits n))), (.long (Int64.ofNat n)), (.int (4 : Int32)), (.long (10000 : Int64))]) (rest := []) X309 H hml hZ300 hown300 (ow hw 205 rfl) (ow hw 206 rfl) (ow hw 173 rfl) (ow hw 207 rfl) (backOf (W := 0) (rm41 l Z a0 hw [] y299s z fm t299 kt299 (52 + (Jvm.Free.SBG.digits n + Jvm.Free.SBG.GetChars.sgn x)) (own_nm x n) n 53 4 10000 h300 n0 (by exact (Nat.le_trans (Nat.le_trans Z0 K299.1) E300.1)) hz ((O.keep K299 all0).ext E300) SC SF hfm (Eq299.ext E300) (Cq299.ext E300) (Vq299.ext E300) (Aq299.ext E300) (own_nml x n) (own_nmr x n) hm1 hn (by rw [sg1]; omega) rfl ⟨by decide, by decide⟩ (by decide) hdg) hZ300 (ow hw 207 rfl) (ow hw 173 rfl) (by decide) (by decide)) (by decide) e309 pd_28 at_178 rfl rfl rfl rfl rfl (by decide) (by decide) (o_pk (fun _ _ _ q => q) N309 fun T310 Lc310 X310 N310 e310 => ?_)
    refine o_ifN X310 H at_181 ((if0 _ _).trans (feq (by decide : ¬ ((1 : Int32) = (0 : Int32)))).1) ?_
    refine o_aldN X310 H at_184 rfl rfl ?_
    refine o_ild X310 H at_185 rfl ?_
    refine o_ild X310 H at_187 rfl ?_
    refine o_lld X310 H at_189 rfl ?_
    refine o_ic X310 H at_191 (v := 5) rfl ?_
    refine own_on (fun tq => X310.ldc2Long hx hown300 (mvT hZ300 (ow hw 211 rfl)) (g := (mkF m 192 #[.val (.int x), .val (.ref y299s), .val (.ref a300), .val (.long (x.toInt64)), .second, .val (.int (1 : Int32)), .val (.long (Int64.ofNat n)), .second, .val (.int (Int32.ofNat (Jvm.Free.SBG.digits n))), .val (.int (53 : Int32))] [(.int (5 : Int32)), (.long (Int64.ofNat n)), (.int (Int32.ofNat (Jvm.Free.SBG.digits n))), (.int (53 : Int32)), (.ref y299s)])) rfl (hb hby at_192) tq) ?_
    show own_Fin p e below _ (T310.setTop (mkF m 195 #[.val (.int x), .val (.ref y299s), .val (.ref a300), .val (.long (x.toInt64)), .second, .val (.int (1 : Int32)), .val (.long (Int64.ofNat n)), .second, .val (.int (Int32.ofNat (Jvm.Free.SBG.digits n))), .val (.int (53 : Int32))] [(.long (100000 : Int64)), (.int (5 : Int32)), (.long (Int64.ofNat n)), (.int (Int32.ofNat (Jvm.Free.SBG.digits n))), (.int (53 : Int32)), (.ref y299s)]))
    refine o_tc (argsL := [(.ref y299s), (.int (53 : Int32)), (.int (Int32.ofNat (Jvm.Free.SBG.digits n))), (.long (Int64.ofNat n)), (.int (5 : Int32)), (.long (100000 : Int64))]) (rest := []) X310 H hml hZ300 hown300 (ow hw 205 rfl) (ow hw 206 rfl) (ow hw 173 rfl) (ow hw 207 rfl) (backOf (W := 0) (rm41 l Z a0 hw [] y299s z fm t299 kt299 (52 + (Jvm.Free.SBG.digits n + Jvm.Free.SBG.GetChars.sgn x)) (own_nm x n) n 53 5 100000 h300 n0 (by exact (Nat.le_trans (Nat.le_trans Z0 K299.1) E300.1)) hz ((O.keep K299 all0).ext E300) SC SF hfm (Eq299.ext E300) (Cq299.ext E300) (Vq299.ext E300) (Aq299.ext E300) (own_nml x n) (own_nmr x n) hm1 hn (by rw [sg1]; omega) rfl ⟨by decide, by decide⟩ (by decide) hdg) hZ300 (ow hw 207 rfl) (ow hw 173 rfl) (by decide) (by decide)) (by decide) e310 pd_28 at_195 rfl rfl rfl rfl rfl (by decide) (by decide) (o_pk (fun _ _ _ q => q) N310 fun T311 Lc311 X311 N311 e311 => ?_)
    refine o_ifN X311 H at_198 ((if0 _ _).trans (feq (by decide : ¬ ((1 : Int32) = (0 : Int32)))).1) ?_
    refine o_aldN X311 H at_201 rfl rfl ?_
    refine o_ild X311 H at_202 rfl ?_
    refine o_ild X311 H at_204 rfl ?_
    refine o_lld X311 H at_206 rfl ?_
    refine o_bi X311 H at_208 (v := 6) rfl ?_
    refine own_on (fun tq => X311.ldc2Long hx hown300 (mvT hZ300 (ow hw 212 rfl)) (g := (mkF m 210 #[.val (.int x), .val (.ref y299s), .val (.ref a300), .val (.long (x.toInt64)), .second, .val (.int (1 : Int32)), .val (.long (Int64.ofNat n)), .second, .val (.int (Int32.ofNat (Jvm.Free.SBG.digits n))), .val (.int (53 : Int32))] [(.int (6 : Int32)), (.long (Int64.ofNat n)), (.int (Int32.ofNat (Jvm.Free.SBG.digits n))), (.int (53 : Int32)), (.ref y299s)])) rfl (hb hby at_210) tq) ?_
    show own_Fin p e below _ (T311.setTop (mkF m 213 #[.val (.int x), .val (.ref y299s), .val (.ref a300), .val (.long (x.toInt64)), .second, .val (.int (1 : Int32)), .val (.long (Int64.ofNat n)), .second, .val (.int (Int32.ofNat (Jvm.Free.SBG.digits n))), .val (.int (53 : Int32))] [(.long (1000000 : Int64)), (.int (6 : Int32)), (.long (Int64.ofNat n)), (.int (Int32.ofNat (Jvm.Free.SBG.digits n))), (.int (53 : Int32)), (.ref y299s)]))
    refine o_tc (argsL := [(.ref y299s), (.int (53 : Int32)), (.int (Int32.ofNat (Jvm.Free.SBG.digits n))), (.long (Int64.ofNat n)), (.int (6 : Int32)), (.long (1000000 : Int64))]) (rest := []) X311 H hml hZ300 hown300 (ow hw 205 rfl) (ow hw 206 rfl) (ow hw 173 rfl) (ow hw 207 rfl) (backOf (W := 0) (rm41 l Z a0 hw [] y299s z fm t299 kt299 (52 + (Jvm.Free.SBG.digits n + Jvm.Free.SBG.GetChars.sgn x)) (own_nm x n) n 53 6 1000000 h300 n0 (by exact (Nat.le_trans (Nat.le_trans Z0 K299.1) E300.1)) hz ((O.keep K299 all0).ext E300) SC SF hfm (Eq299.ext E300) (Cq299.ext E300) (Vq299.ext E300) (Aq299.ext E300) (own_nml x n) (own_nmr x n) hm1 hn (by rw [sg1]; omega) rfl ⟨by decide, by decide⟩ (by decide) hdg) hZ300 (ow hw 207 rfl) (ow hw 173 rfl) (by decide) (by decide)) (by decide) e311 pd_28 at_213 rfl rfl rfl rfl rfl (by decide) (by decide) (o_pk (fun _ _ _ q => q) N311 fun T312 Lc312 X312 N312 e312 => ?_)
    refine o_ifN X312 H at_216 ((if0 _ _).trans (feq (by decide : ¬ ((1 : Int32) = (0 : Int32)))).1) ?_
    refine o_aldN X312 H at_219 rfl rfl ?_
    refine o_ild X312 H at_220 rfl ?_
    refine o_ild X312 H at_222 rfl ?_
    refine o_lld X312 H at_224 rfl ?_
    refine o_bi X312 H at_226 (v := 7) rfl ?_
    refine own_on (fun tq => X312.ldc2Long hx hown300 (mvT hZ300 (ow hw 213 rfl)) (g := (mkF m 228 #[.val (.int x), .val (.ref y299s), .val (.ref a300), .val (.long (x.toInt64)), .second, .val (.int (1 : Int32)), .val (.long (Int64.ofNat n)), .second, .val (.int (Int32.ofNat (Jvm.Free.SBG.digits n))), .val (.int (53 : Int32))] [(.int (7 : Int32)), (.long (Int64.ofNat n)), (.int (Int32.ofNat (Jvm.Free.SBG.digits n))), (.int (53 : Int32)), (.ref y299s)])) rfl (hb hby at_228) tq) ?_
    show own_Fin p e below _ (T312.setTop (mkF m 231 #[.val (.int x), .val (.ref y299s), .val (.ref a300), .val (.long (x.toInt64)), .second, .val (.int (1 : Int32)), .val (.long (Int64.ofNat n)), .second, .val (.int (Int32.ofNat (Jvm.Free.SBG.digits n))), .val (.int (53 : Int32))] [(.long (10000000 : Int64)), (.int (7 : Int32)), (.long (Int64.ofNat n)), (.int (Int32.ofNat (Jvm.Free.SBG.digits n))), (.int (53 : Int32)), (.ref y299s)]))
    refine o_tc (argsL := [(.ref y299s), (.int (53 : Int32)), (.int (Int32.ofNat (Jvm.Free.SBG.digits n))), (.long (Int64.ofNat n)), (.int (7 : Int32)), (.long (10000000 : Int64))]) (rest := []) X312 H hml hZ300 hown300 (ow hw 205 rfl) (ow hw 206 rfl) (ow hw 173 rfl) (ow hw 207 rfl) (backOf (W := 0) (rm41 l Z a0 hw [] y299s z fm t299 kt299 (52 + (Jvm.Free.SBG.digits n + Jvm.Free.SBG.GetChars.sgn x)) (own_nm x n) n 53 7 10000000 h300 n0 (by exact (Nat.le_trans (Nat.le_trans Z0 K299.1) E300.1)) hz ((O.keep K299 all0).ext E300) SC SF hfm (Eq299.ext E300) (Cq299.ext E300) (Vq299.ext E300) (Aq299.ext E300) (own_nml x n) (own_nmr x n) hm1 hn (by rw [sg1]; omega) rfl ⟨by decide, by decide⟩ (by decide) hdg) hZ300 (ow hw 207 rfl) (ow hw 173 rfl) (by decide) (by decide)) (by decide) e312 pd_28 at_231 rfl rfl rfl rfl rfl (by decide) (by decide) (o_pk (fun _ _ _ q => q) N312 fun T313 Lc313 X313 N313 e313 => ?_)
    refine o_ifN X313 H at_234 ((if0 _ _).trans (feq (by decide : ¬ ((1 : Int32) = (0 : Int32)))).1) ?_
    refine o_aldN X313 H at_237 rfl rfl ?_
    refine o_ild X313 H at_238 rfl ?_
    refine o_ild X313 H at_240 rfl ?_
    refine o_lld X313 H at_242 rfl ?_
    refine o_bi X313 H at_244 (v := 8) rfl ?_
    refine own_on (fun tq => X313.ldc2Long hx hown300 (mvT hZ300 (ow hw 214 rfl)) (g := (mkF m 246 #[.val (.int x), .val (.ref y299s), .val (.ref a300), .val (.long (x.toInt64)), .second, .val (.int (1 : Int32)), .val (.long (Int64.ofNat n)), .second, .val (.int (Int32.ofNat (Jvm.Free.SBG.digits n))), .val (.int (53 : Int32))] [(.int (8 : Int32)), (.long (Int64.ofNat n)), (.int (Int32.ofNat (Jvm.Free.SBG.digits n))), (.int (53 : Int32)), (.ref y299s)])) rfl (hb hby at_246) tq) ?_
    show own_Fin p e below _ (T313.setTop (mkF m 249 #[.val (.int x), .val (.ref y299s), .val (.ref a300), .val (.long (x.toInt64)), .second, .val (.int (1 : Int32)), .val (.long (Int64.ofNat n)), .second, .val (.int (Int32.ofNat (Jvm.Free.SBG.digits n))), .val (.int (53 : Int32))] [(.long (100000000 : Int64)), (.int (8 : Int32)), (.long (Int64.ofNat n)), (.int (Int32.ofNat (Jvm.Free.SBG.digits n))), (.int (53 : Int32)), (.ref y299s)]))
    refine o_tc (argsL := [(.ref y299s), (.int (53 : Int32)), (.int (Int32.ofNat (Jvm.Free.SBG.digits n))), (.long (Int64.ofNat n)), (.int (8 : Int32)), (.long (100000000 : Int64))]) (rest := []) X313 H hml hZ300 hown300 (ow hw 205 rfl) (ow hw 206 rfl) (ow hw 173 rfl) (ow hw 207 rfl) (backOf (W := 0) (rm41 l Z a0 hw [] y299s z fm t299 kt299 (52 + (Jvm.Free.SBG.digits n + Jvm.Free.SBG.GetChars.sgn x)) (own_nm x n) n 53 8 100000000 h300 n0 (by exact (Nat.le_trans (Nat.le_trans Z0 K299.1) E300.1)) hz ((O.keep K299 all0).ext E300) SC SF hfm (Eq299.ext E300) (Cq299.ext E300) (Vq299.ext E300) (Aq299.ext E300) (own_nml x n) (own_nmr x n) hm1 hn (by rw [sg1]; omega) rfl ⟨by decide, by decide⟩ (by decide) hdg) hZ300 (ow hw 207 rfl) (ow hw 173 rfl) (by decide) (by decide)) (by decide) e313 pd_28 at_249 rfl rfl rfl rfl rfl (by decide) (by decide) (o_pk (fun _ _ _ q => q) N313 fun T314 Lc314 X314 N314 e314 => ?_)
    refine o_ifN X314 H at_252 ((if0 _ _).trans (feq (by decide : ¬ ((1 : Int32) = (0 : Int32)))).1) ?_
    refine o_aldN X314 H at_255 rfl rfl ?_
    refine o_ild X314 H at_256 rfl ?_
    refine o_ild X314 H at_258 rfl ?_
    refine o_lld X314 H at_260 rfl ?_
    refine o_bi X314 H at_262 (v := 9) rfl ?_
    refine own_on (fun tq => X314.ldc2Long hx hown300 (mvT hZ300 (ow hw 215 rfl)) (g := (mkF m 264 #[.val (.int x), .val (.ref y299s), .val (.ref a300), .val (.long (x.toInt64)), .second, .val (.int (1 : Int32)), .val (.long (Int64.ofNat n)), .second, .val (.int (Int32.ofNat (Jvm.Free.SBG.digits n))), .val (.int (53 : Int32))] [(.int (9 : Int32)), (.long (Int64.ofNat n)), (.int (Int32.ofNat (Jvm.Free.SBG.digits n))), (.int (53 : Int32)), (.ref y299s)])) rfl (hb hby at_264) tq) ?_
    show own_Fin p e below _ (T314.setTop (mkF m 267 #[.val (.int x), .val (.ref y299s), .val (.ref a300), .val (.long (x.toInt64)), .second, .val (.int (1 : Int32)), .val (.long (Int64.ofNat n)), .second, .val (.int (Int32.ofNat (Jvm.Free.SBG.digits n))), .val (.int (53 : Int32))] [(.long (1000000000 : Int64)), (.int (9 : Int32)), (.long (Int64.ofNat n)), (.int (Int32.ofNat (Jvm.Free.SBG.digits n))), (.int (53 : Int32)), (.ref y299s)]))
    refine o_tc (argsL := [(.ref y299s), (.int (53 : Int32)), (.int (Int32.ofNat (Jvm.Free.SBG.digits n))), (.long (Int64.ofNat n)), (.int (9 : Int32)), (.long (1000000000 : Int64))]) (rest := []) X314 H hml hZ300 hown300 (ow hw 205 rfl) (ow hw 206 rfl) (ow hw 173 rfl) (ow hw 207 rfl) (backOf (W := 0) (rm41 l Z a0 hw [] y299s z fm t299 kt299 (52 + (Jvm.Free.SBG.digits n + Jvm.Free.SBG.GetChars.sgn x)) (own_nm x n) n 53 9 1000000000 h300 n0 (by exact (Nat.le_trans (Nat.le_trans Z0 K299.1) E300.1)) hz ((O.keep K299 all0).ext E300) SC SF hfm (Eq299.ext E300) (Cq299.ext E300) (Vq299.ext E300) (Aq299.ext E300) (own_nml x n) (own_nmr x n) hm1 hn (by rw [sg1]; omega) rfl ⟨by decide, by decide⟩ (by decide) hdg) hZ300 (ow hw 207 rfl) (ow hw 173 rfl) (by decide) (by decide)) (by decide) e314 pd_28 at_267 rfl rfl rfl rfl rfl (by decide) (by decide) (o_pk (fun _ _ _ q => q) N314 fun T315 Lc315 X315 N315 e315 => ?_)
    refine o_ifN X315 H at_270 ((if0 _ _).trans (feq (by decide : ¬ ((1 : Int32) = (0 : Int32)))).1) ?_
    refine o_ic X315 H at_273 (v := 1) rfl ?_
    refine o_go X315 H at_274 (pc' := 278) (by decide) (by decide) ?_
    exact own_retW (t := .boolean) X315 (Z := Z) (EL := own_EL) (a0 := a0) hx hlk hret rfl (Or.inl ⟨rfl, (by simp), _, rfl⟩) (hb hby at_278) hS300 (by rw [e315]; exact hk300) hZ300 hEL (by rw [hh, e315]; exact (CHr.trans (CHr.trans (CHr.refl CH0) A299) A300)) (⟨rfl, N315⟩) (by decide) (by decide)
  · have sg1 : Jvm.Free.SBG.GetChars.sgn x = 0 := (own_sg x).2.1 hx0
    show own_Fin p e below _ (T300.setTop (mkF m 8 #[.val (.int x), .val (.ref y299s), .val (.ref a300), .unset, .unset, .unset, .unset, .unset, .unset, .unset] []))
    refine o_ildN X300 H at_8 rfl ?_
    refine own_on (fun tq => XS.i2l X300.here hx rfl (hb hby at_9) rfl) ?_
    show own_Fin p e below _ (T300.setTop (mkF m 10 #[.val (.int x), .val (.ref y299s), .val (.ref a300), .unset, .unset, .unset, .unset, .unset, .unset, .unset] [(.long (x.toInt64))]))
    refine o_lstN X300 H at_10 (L' := #[.val (.int x), .val (.ref y299s), .val (.ref a300), .val (.long (x.toInt64)), .second, .unset, .unset, .unset, .unset, .unset]) rfl ?_
    refine o_lldN X300 H at_11 rfl ?_
    refine own_on (fun tq => XS.lconst X300.here hx rfl (hb hby at_12)) ?_
    show own_Fin p e below _ (T300.setTop (mkF m 13 #[.val (.int x), .val (.ref y299s), .val (.ref a300), .val (.long (x.toInt64)), .second, .unset, .unset, .unset, .unset, .unset] [(.long (0 : Int64)), (.long (x.toInt64))]))
    refine own_on (fun tq => XS.lcmp X300.here hx rfl (hb hby at_13) rfl) ?_
    show own_Fin p e below _ (T300.setTop (mkF m 14 #[.val (.int x), .val (.ref y299s), .val (.ref a300), .val (.long (x.toInt64)), .second, .unset, .unset, .unset, .unset, .unset] [(.int (lcmpW (x.toInt64) (0 : Int64)))]))
    refine o_ifY X300 H at_14 ((if0 _ _).trans (flt (fun q => hx0 ((own_lneg x).mp q))).2.1) (pc' := 21) (by decide) (by decide) ?_
    refine o_ic X300 H at_21 (v := 0) rfl ?_
    refine o_ist X300 H at_22 (L' := #[.val (.int x), .val (.ref y299s), .val (.ref a300), .val (.long (x.toInt64)), .second, .val (.int (0 : Int32)), .unset, .unset, .unset, .unset]) rfl ?_
    refine o_ild X300 H at_24 rfl ?_
    refine o_ifY X300 H at_26 ((if0 _ _).trans (teq (by decide : (0 : Int32) = (0 : Int32))).1) (pc' := 34) (by decide) (by decide) ?_
    refine o_lldN X300 H at_34 rfl ?_
    rw [show (x.toInt64) = Int64.ofNat n from own_abs0 hn hxn hx0]
    show own_Fin p e below _ (T300.setTop (mkF m 35 #[.val (.int x), .val (.ref y299s), .val (.ref a300), .val (.long (Int64.ofNat n)), .second, .val (.int (0 : Int32)), .unset, .unset, .unset, .unset] [(.long (Int64.ofNat n))]))
    refine o_lst X300 H at_35 (L' := #[.val (.int x), .val (.ref y299s), .val (.ref a300), .val (.long (Int64.ofNat n)), .second, .val (.int (0 : Int32)), .val (.long (Int64.ofNat n)), .second, .unset, .unset]) rfl ?_
    refine o_lld X300 H at_37 rfl ?_
    refine o_tc (argsL := [(.long (Int64.ofNat n))]) (rest := []) X300 H hml hZ300 hown300 (ow hw 171 rfl) (ow hw 172 rfl) (ow hw 173 rfl) (ow hw 174 rfl) (backOf (W := 0) (rm33 l Z a0 hw [] n h300 n0 (by exact (Nat.le_trans (Nat.le_trans Z0 K299.1) E300.1)) hn) hZ300 (ow hw 174 rfl) (ow hw 173 rfl) (by decide) (by decide)) (by decide) e300 pd_26 at_39 rfl rfl rfl rfl rfl (by decide) (by decide) (o_pk (fun _ _ _ q => q) N299 fun T316 Lc316 X316 N316 e316 => ?_)
    refine o_ist X316 H at_42 (L' := #[.val (.int x), .val (.ref y299s), .val (.ref a300), .val (.long (Int64.ofNat n)), .second, .val (.int (0 : Int32)), .val (.long (Int64.ofNat n)), .second, .val (.int (Int32.ofNat (Jvm.Free.SBG.digits n))), .unset]) rfl ?_
    refine o_bi X316 H at_44 (v := 52) rfl ?_
    refine o_ild X316 H at_46 rfl ?_
    refine o_ifY X316 H at_48 ((if0 _ _).trans (teq (by decide : (0 : Int32) = (0 : Int32))).1) (pc' := 55) (by decide) (by decide) ?_
    refine o_ic X316 H at_55 (v := 0) rfl ?_
    refine own_on (fun tq => XS.iadd X316.here hx rfl (hb hby at_56) rfl) ?_
    show own_Fin p e below _ (T316.setTop (mkF m 57 #[.val (.int x), .val (.ref y299s), .val (.ref a300), .val (.long (Int64.ofNat n)), .second, .val (.int (0 : Int32)), .val (.long (Int64.ofNat n)), .second, .val (.int (Int32.ofNat (Jvm.Free.SBG.digits n))), .unset] [(.int (52 : Int32))]))
    refine o_ist X316 H at_57 (L' := #[.val (.int x), .val (.ref y299s), .val (.ref a300), .val (.long (Int64.ofNat n)), .second, .val (.int (0 : Int32)), .val (.long (Int64.ofNat n)), .second, .val (.int (Int32.ofNat (Jvm.Free.SBG.digits n))), .val (.int (52 : Int32))]) rfl ?_
    refine o_aldN X316 H at_59 rfl rfl ?_
    obtain ⟨cq317, kq317, q317a, q317b, q317c⟩ := isOf hZ300 e316 (Eq299.ext E300)
    obtain ⟨_, _, ⟨T317, L317, k317, n317⟩, -, X317, ⟨Lc317, hQ317, l317, y317, z317⟩, st317⟩ := X316.virtualBack hx (y := (⟨"java/lang/String", "length", "()I"⟩ : MethodName)) (z := (⟨"java/lang/String", "length", "()I"⟩ : MethodName)) hown300 (mvT hZ300 (ow hw 176 rfl)) (mvT hZ300 (ow hw 39 rfl)) (notFace_of_selects (args := #[]) (mvT hZ300 (ow hw 41 rfl))) (mvT hZ300 (ow hw 41 rfl)) (mvT hZ300 (ow hw 40 rfl)) (by decide) (StrChars.Road.lenW (W := 0) hZ300 (own_wL hw) (ow hw 104 rfl) (Eq299.ext E300) (Vq299.ext E300) (Cq299.ext E300) (Aq299.ext E300) (own_cod (own_nml x n) (fun c q => ((own_nmr x n) c q).2)) (own_r16 (own_nmr x n)) (SC.ext ((O.keep K299 all0).ext E300).2) hz (by rw [(own_nml x n)]; have := hm1; omega) (by decide) (by decide)) q317a q317c (g := (mkF m 60 #[.val (.int x), .val (.ref y299s), .val (.ref a300), .val (.long (Int64.ofNat n)), .second, .val (.int (0 : Int32)), .val (.long (Int64.ofNat n)), .second, .val (.int (Int32.ofNat (Jvm.Free.SBG.digits n))), .val (.int (52 : Int32))] [(.ref y299s)])) rfl hml.symm (Steps.refl _) (argsL := []) (rest := []) (lenOf pd_1 rfl) rfl (o_mr rfl) (hb hby at_60) (fun _ _ => ⟨rfl, e316, (by decide : 16 + 0 ≤ _), (by decide : 554 + 0 ≤ _)⟩)
    dsimp only [Pt.U, Pt.locs, Pt.cells, Pt.slots] at X317 l317 y317 z317 st317 hQ317
    replace l317 := l317.symm; replace y317 := y317.symm; replace z317 := z317.symm; subst l317 y317 z317
    obtain ⟨rfl, rfl, e317⟩ := hQ317
    have N317 := Fr.app N316 (Fr.nil n0)
    rw [(own_nml x n)] at st317
    refine own_via st317 ?_
    show own_Fin p e below _ (T317.setTop (mkF m 63 #[.val (.int x), .val (.ref y299s), .val (.ref a300), .val (.long (Int64.ofNat n)), .second, .val (.int (0 : Int32)), .val (.long (Int64.ofNat n)), .second, .val (.int (Int32.ofNat (Jvm.Free.SBG.digits n))), .val (.int (52 : Int32))] [(.int (Int32.ofNat (52 + (Jvm.Free.SBG.digits n + Jvm.Free.SBG.GetChars.sgn x))))]))
    refine o_ild X317 H at_63 rfl ?_
    refine o_ild X317 H at_65 rfl ?_
    refine o_iadd X317 H at_67 ?_
    refine o_icY X317 H at_68 (teq (by rw [show (52 : Int32) = Int32.ofNat 52 from rfl, own_add]; exact congrArg Int32.ofNat (by omega))).1 (pc' := 73) (by decide) (by decide) ?_
    refine o_aldN X317 H at_73 rfl rfl ?_
    refine o_aldN X317 H at_74 rfl rfl ?_
    refine o_tc (argsL := [(.ref y299s), (.ref a300)]) (rest := []) X317 H hml hZ300 hown300 (ow hw 177 rfl) (ow hw 178 rfl) (ow hw 173 rfl) (ow hw 179 rfl) (backOf (W := 0) (rm34 l Z a0 hw [] y299s a300 z fm t299 kt299 (52 + (Jvm.Free.SBG.digits n + Jvm.Free.SBG.GetChars.sgn x)) (own_nm x n) c300 kc300 52 own_p52 h300 n0 (by exact (Nat.le_trans (Nat.le_trans Z0 K299.1) E300.1)) hz ((O.keep K299 all0).ext E300) SC SF hfm (Eq299.ext E300) (Cq299.ext E300) (Vq299.ext E300) (Aq299.ext E300) (own_nml x n) (own_nmr x n) hm1 Ea300 Ca300 Va300 KL301 (rfl : own_p52.length = 52) rg52 hm2 rfl (by omega) (fun j q => own_nmp x n q)) hZ300 (ow hw 179 rfl) (ow hw 173 rfl) (by decide) (by decide)) (by decide) e317 pd_27 at_75 rfl rfl rfl rfl rfl (by decide) (by decide) (o_pk (fun _ _ _ q => q) N317 fun T318 Lc318 X318 N318 e318 => ?_)
    refine o_ifY X318 H at_78 ((if0 _ _).trans (feq (by decide : ¬ ((1 : Int32) = (0 : Int32)))).2) (pc' := 83) (by decide) (by decide) ?_
    refine o_ild X318 H at_83 rfl ?_
    refine o_ifY X318 H at_85 ((if0 _ _).trans (teq (by decide : (0 : Int32) = (0 : Int32))).1) (pc' := 101) (by decide) (by decide) ?_
    have hdg : ∀ i, i < Jvm.Free.SBG.digits n → (own_nm x n).getD (52 + Jvm.Free.SBG.digits n - 1 - i) 0 = Int32.ofNat (48 + n / 10 ^ i % 10) := fun i hi => by have q := own_dgAt x (n := n) hi; rw [sg1] at q; rw [show 52 + Jvm.Free.SBG.digits n - 1 - i = 52 + (0 + Jvm.Free.SBG.digits n - 1 - i) by omega, own_nmd]; exact q
    refine o_aldN X318 H at_101 rfl rfl ?_
    refine o_ild X318 H at_102 rfl ?_
    refine o_ild X318 H at_104 rfl ?_
    refine o_lld X318 H at_106 rfl ?_
    refine o_ic X318 H at_108 (v := 0) rfl ?_
    refine own_on (fun tq => XS.lconst X318.here hx rfl (hb hby at_109)) ?_
    show own_Fin p e below _ (T318.setTop (mkF m 110 #[.val (.int x), .val (.ref y299s), .val (.ref a300), .val (.long (Int64.ofNat n)), .second, .val (.int (0 : Int32)), .val (.long (Int64.ofNat n)), .second, .val (.int (Int32.ofNat (Jvm.Free.SBG.digits n))), .val (.int (52 : Int32))] [(.long (1 : Int64)), (.int (0 : Int32)), (.long (Int64.ofNat n)), (.int (Int32.ofNat (Jvm.Free.SBG.digits n))), (.int (52 : Int32)), (.ref y299s)]))
    refine o_tc (argsL := [(.ref y299s), (.int (52 : Int32)), (.int (Int32.ofNat (Jvm.Free.SBG.digits n))), (.long (Int64.ofNat n)), (.int (0 : Int32)), (.long (1 : Int64))]) (rest := []) X318 H hml hZ300 hown300 (ow hw 205 rfl) (ow hw 206 rfl) (ow hw 173 rfl) (ow hw 207 rfl) (backOf (W := 0) (rm41 l Z a0 hw [] y299s z fm t299 kt299 (52 + (Jvm.Free.SBG.digits n + Jvm.Free.SBG.GetChars.sgn x)) (own_nm x n) n 52 0 1 h300 n0 (by exact (Nat.le_trans (Nat.le_trans Z0 K299.1) E300.1)) hz ((O.keep K299 all0).ext E300) SC SF hfm (Eq299.ext E300) (Cq299.ext E300) (Vq299.ext E300) (Aq299.ext E300) (own_nml x n) (own_nmr x n) hm1 hn (by rw [sg1]; omega) rfl ⟨by decide, by decide⟩ (by decide) hdg) hZ300 (ow hw 207 rfl) (ow hw 173 rfl) (by decide) (by decide)) (by decide) e318 pd_28 at_110 rfl rfl rfl rfl rfl (by decide) (by decide) (o_pk (fun _ _ _ q => q) N318 fun T319 Lc319 X319 N319 e319 => ?_)
    refine o_ifN X319 H at_113 ((if0 _ _).trans (feq (by decide : ¬ ((1 : Int32) = (0 : Int32)))).1) ?_
    refine o_aldN X319 H at_116 rfl rfl ?_
    refine o_ild X319 H at_117 rfl ?_
    refine o_ild X319 H at_119 rfl ?_
    refine o_lld X319 H at_121 rfl ?_
    refine o_ic X319 H at_123 (v := 1) rfl ?_
    refine own_on (fun tq => X319.ldc2Long hx hown300 (mvT hZ300 (ow hw 175 rfl)) (g := (mkF m 124 #[.val (.int x), .val (.ref y299s), .val (.ref a300), .val (.long (Int64.ofNat n)), .second, .val (.int (0 : Int32)), .val (.long (Int64.ofNat n)), .second, .val (.int (Int32.ofNat (Jvm.Free.SBG.digits n))), .val (.int (52 : Int32))] [(.int (1 : Int32)), (.long (Int64.ofNat n)), (.int (Int32.ofNat (Jvm.Free.SBG.digits n))), (.int (52 : Int32)), (.ref y299s)])) rfl (hb hby at_124) tq) ?_
    show own_Fin p e below _ (T319.setTop (mkF m 127 #[.val (.int x), .val (.ref y299s), .val (.ref a300), .val (.long (Int64.ofNat n)), .second, .val (.int (0 : Int32)), .val (.long (Int64.ofNat n)), .second, .val (.int (Int32.ofNat (Jvm.Free.SBG.digits n))), .val (.int (52 : Int32))] [(.long (10 : Int64)), (.int (1 : Int32)), (.long (Int64.ofNat n)), (.int (Int32.ofNat (Jvm.Free.SBG.digits n))), (.int (52 : Int32)), (.ref y299s)]))
    refine o_tc (argsL := [(.ref y299s), (.int (52 : Int32)), (.int (Int32.ofNat (Jvm.Free.SBG.digits n))), (.long (Int64.ofNat n)), (.int (1 : Int32)), (.long (10 : Int64))]) (rest := []) X319 H hml hZ300 hown300 (ow hw 205 rfl) (ow hw 206 rfl) (ow hw 173 rfl) (ow hw 207 rfl) (backOf (W := 0) (rm41 l Z a0 hw [] y299s z fm t299 kt299 (52 + (Jvm.Free.SBG.digits n + Jvm.Free.SBG.GetChars.sgn x)) (own_nm x n) n 52 1 10 h300 n0 (by exact (Nat.le_trans (Nat.le_trans Z0 K299.1) E300.1)) hz ((O.keep K299 all0).ext E300) SC SF hfm (Eq299.ext E300) (Cq299.ext E300) (Vq299.ext E300) (Aq299.ext E300) (own_nml x n) (own_nmr x n) hm1 hn (by rw [sg1]; omega) rfl ⟨by decide, by decide⟩ (by decide) hdg) hZ300 (ow hw 207 rfl) (ow hw 173 rfl) (by decide) (by decide)) (by decide) e319 pd_28 at_127 rfl rfl rfl rfl rfl (by decide) (by decide) (o_pk (fun _ _ _ q => q) N319 fun T320 Lc320 X320 N320 e320 => ?_)
    refine o_ifN X320 H at_130 ((if0 _ _).trans (feq (by decide : ¬ ((1 : Int32) = (0 : Int32)))).1) ?_
    refine o_aldN X320 H at_133 rfl rfl ?_
    refine o_ild X320 H at_134 rfl ?_
    refine o_ild X320 H at_136 rfl ?_
    refine o_lld X320 H at_138 rfl ?_
    refine o_ic X320 H at_140 (v := 2) rfl ?_
    refine own_on (fun tq => X320.ldc2Long hx hown300 (mvT hZ300 (ow hw 208 rfl)) (g := (mkF m 141 #[.val (.int x), .val (.ref y299s), .val (.ref a300), .val (.long (Int64.ofNat n)), .second, .val (.int (0 : Int32)), .val (.long (Int64.ofNat n)), .second, .val (.int (Int32.ofNat (Jvm.Free.SBG.digits n))), .val (.int (52 : Int32))] [(.int (2 : Int32)), (.long (Int64.ofNat n)), (.int (Int32.ofNat (Jvm.Free.SBG.digits n))), (.int (52 : Int32)), (.ref y299s)])) rfl (hb hby at_141) tq) ?_
    show own_Fin p e below _ (T320.setTop (mkF m 144 #[.val (.int x), .val (.ref y299s), .val (.ref a300), .val (.long (Int64.ofNat n)), .second, .val (.int (0 : Int32)), .val (.long (Int64.ofNat n)), .second, .val (.int (Int32.ofNat (Jvm.Free.SBG.digits n))), .val (.int (52 : Int32))] [(.long (100 : Int64)), (.int (2 : Int32)), (.long (Int64.ofNat n)), (.int (Int32.ofNat (Jvm.Free.SBG.digits n))), (.int (52 : Int32)), (.ref y299s)]))
    refine o_tc (argsL := [(.ref y299s), (.int (52 : Int32)), (.int (Int32.ofNat (Jvm.Free.SBG.digits n))), (.long (Int64.ofNat n)), (.int (2 : Int32)), (.long (100 : Int64))]) (rest := []) X320 H hml hZ300 hown300 (ow hw 205 rfl) (ow hw 206 rfl) (ow hw 173 rfl) (ow hw 207 rfl) (backOf (W := 0) (rm41 l Z a0 hw [] y299s z fm t299 kt299 (52 + (Jvm.Free.SBG.digits n + Jvm.Free.SBG.GetChars.sgn x)) (own_nm x n) n 52 2 100 h300 n0 (by exact (Nat.le_trans (Nat.le_trans Z0 K299.1) E300.1)) hz ((O.keep K299 all0).ext E300) SC SF hfm (Eq299.ext E300) (Cq299.ext E300) (Vq299.ext E300) (Aq299.ext E300) (own_nml x n) (own_nmr x n) hm1 hn (by rw [sg1]; omega) rfl ⟨by decide, by decide⟩ (by decide) hdg) hZ300 (ow hw 207 rfl) (ow hw 173 rfl) (by decide) (by decide)) (by decide) e320 pd_28 at_144 rfl rfl rfl rfl rfl (by decide) (by decide) (o_pk (fun _ _ _ q => q) N320 fun T321 Lc321 X321 N321 e321 => ?_)
    refine o_ifN X321 H at_147 ((if0 _ _).trans (feq (by decide : ¬ ((1 : Int32) = (0 : Int32)))).1) ?_
    refine o_aldN X321 H at_150 rfl rfl ?_
    refine o_ild X321 H at_151 rfl ?_
    refine o_ild X321 H at_153 rfl ?_
    refine o_lld X321 H at_155 rfl ?_
    refine o_ic X321 H at_157 (v := 3) rfl ?_
    refine own_on (fun tq => X321.ldc2Long hx hown300 (mvT hZ300 (ow hw 209 rfl)) (g := (mkF m 158 #[.val (.int x), .val (.ref y299s), .val (.ref a300), .val (.long (Int64.ofNat n)), .second, .val (.int (0 : Int32)), .val (.long (Int64.ofNat n)), .second, .val (.int (Int32.ofNat (Jvm.Free.SBG.digits n))), .val (.int (52 : Int32))] [(.int (3 : Int32)), (.long (Int64.ofNat n)), (.int (Int32.ofNat (Jvm.Free.SBG.digits n))), (.int (52 : Int32)), (.ref y299s)])) rfl (hb hby at_158) tq) ?_
    show own_Fin p e below _ (T321.setTop (mkF m 161 #[.val (.int x), .val (.ref y299s), .val (.ref a300), .val (.long (Int64.ofNat n)), .second, .val (.int (0 : Int32)), .val (.long (Int64.ofNat n)), .second, .val (.int (Int32.ofNat (Jvm.Free.SBG.digits n))), .val (.int (52 : Int32))] [(.long (1000 : Int64)), (.int (3 : Int32)), (.long (Int64.ofNat n)), (.int (Int32.ofNat (Jvm.Free.SBG.digits n))), (.int (52 : Int32)), (.ref y299s)]))
    refine o_tc (argsL := [(.ref y299s), (.int (52 : Int32)), (.int (Int32.ofNat (Jvm.Free.SBG.digits n))), (.long (Int64.ofNat n)), (.int (3 : Int32)), (.long (1000 : Int64))]) (rest := []) X321 H hml hZ300 hown300 (ow hw 205 rfl) (ow hw 206 rfl) (ow hw 173 rfl) (ow hw 207 rfl) (backOf (W := 0) (rm41 l Z a0 hw [] y299s z fm t299 kt299 (52 + (Jvm.Free.SBG.digits n + Jvm.Free.SBG.GetChars.sgn x)) (own_nm x n) n 52 3 1000 h300 n0 (by exact (Nat.le_trans (Nat.le_trans Z0 K299.1) E300.1)) hz ((O.keep K299 all0).ext E300) SC SF hfm (Eq299.ext E300) (Cq299.ext E300) (Vq299.ext E300) (Aq299.ext E300) (own_nml x n) (own_nmr x n) hm1 hn (by rw [sg1]; omega) rfl ⟨by decide, by decide⟩ (by decide) hdg) hZ300 (ow hw 207 rfl) (ow hw 173 rfl) (by decide) (by decide)) (by decide) e321 pd_28 at_161 rfl rfl rfl rfl rfl (by decide) (by decide) (o_pk (fun _ _ _ q => q) N321 fun T322 Lc322 X322 N322 e322 => ?_)
    refine o_ifN X322 H at_164 ((if0 _ _).trans (feq (by decide : ¬ ((1 : Int32) = (0 : Int32)))).1) ?_
    refine o_aldN X322 H at_167 rfl rfl ?_
    refine o_ild X322 H at_168 rfl ?_
    refine o_ild X322 H at_170 rfl ?_
    refine o_lld X322 H at_172 rfl ?_
    refine o_ic X322 H at_174 (v := 4) rfl ?_
    refine own_on (fun tq => X322.ldc2Long hx hown300 (mvT hZ300 (ow hw 210 rfl)) (g := (mkF m 175 #[.val (.int x), .val (.ref y299s), .val (.ref a300), .val (.long (Int64.ofNat n)), .second, .val (.int (0 : Int32)), .val (.long (Int64.ofNat n)), .second, .val (.int (Int32.ofNat (Jvm.Free.SBG.digits n))), .val (.int (52 : Int32))] [(.int (4 : Int32)), (.long (Int64.ofNat n)), (.int (Int32.ofNat (Jvm.Free.SBG.digits n))), (.int (52 : Int32)), (.ref y299s)])) rfl (hb hby at_175) tq) ?_
    show own_Fin p e below _ (T322.setTop (mkF m 178 #[.val (.int x), .val (.ref y299s), .val (.ref a300), .val (.long (Int64.ofNat n)), .second, .val (.int (0 : Int32)), .val (.long (Int64.ofNat n)), .second, .val (.int (Int32.ofNat (Jvm.Free.SBG.digits n))), .val (.int (52 : Int32))] [(.long (10000 : Int64)), (.int (4 : Int32)), (.long (Int64.ofNat n)), (.int (Int32.ofNat (Jvm.Free.SBG.digits n))), (.int (52 : Int32)), (.ref y299s)]))
    refine o_tc (argsL := [(.ref y299s), (.int (52 : Int32)), (.int (Int32.ofNat (Jvm.Free.SBG.digits n))), (.long (Int64.ofNat n)), (.int (4 : Int32)), (.long (10000 : Int64))]) (rest := []) X322 H hml hZ300 hown300 (ow hw 205 rfl) (ow hw 206 rfl) (ow hw 173 rfl) (ow hw 207 rfl) (backOf (W := 0) (rm41 l Z a0 hw [] y299s z fm t299 kt299 (52 + (Jvm.Free.SBG.digits n + Jvm.Free.SBG.GetChars.sgn x)) (own_nm x n) n 52 4 10000 h300 n0 (by exact (Nat.le_trans (Nat.le_trans Z0 K299.1) E300.1)) hz ((O.keep K299 all0).ext E300) SC SF hfm (Eq299.ext E300) (Cq299.ext E300) (Vq299.ext E300) (Aq299.ext E300) (own_nml x n) (own_nmr x n) hm1 hn (by rw [sg1]; omega) rfl ⟨by decide, by decide⟩ (by decide) hdg) hZ300 (ow hw 207 rfl) (ow hw 173 rfl) (by decide) (by decide)) (by decide) e322 pd_28 at_178 rfl rfl rfl rfl rfl (by decide) (by decide) (o_pk (fun _ _ _ q => q) N322 fun T323 Lc323 X323 N323 e323 => ?_)
    refine o_ifN X323 H at_181 ((if0 _ _).trans (feq (by decide : ¬ ((1 : Int32) = (0 : Int32)))).1) ?_
    refine o_aldN X323 H at_184 rfl rfl ?_
    refine o_ild X323 H at_185 rfl ?_
    refine o_ild X323 H at_187 rfl ?_
    refine o_lld X323 H at_189 rfl ?_
    refine o_ic X323 H at_191 (v := 5) rfl ?_
    refine own_on (fun tq => X323.ldc2Long hx hown300 (mvT hZ300 (ow hw 211 rfl)) (g := (mkF m 192 #[.val (.int x), .val (.ref y299s), .val (.ref a300), .val (.long (Int64.ofNat n)), .second, .val (.int (0 : Int32)), .val (.long (Int64.ofNat n)), .second, .val (.int (Int32.ofNat (Jvm.Free.SBG.digits n))), .val (.int (52 : Int32))] [(.int (5 : Int32)), (.long (Int64.ofNat n)), (.int (Int32.ofNat (Jvm.Free.SBG.digits n))), (.int (52 : Int32)), (.ref y299s)])) rfl (hb hby at_192) tq) ?_
    show own_Fin p e below _ (T323.setTop (mkF m 195 #[.val (.int x), .val (.ref y299s), .val (.ref a300), .val (.long (Int64.ofNat n)), .second, .val (.int (0 : Int32)), .val (.long (Int64.ofNat n)), .second, .val (.int (Int32.ofNat (Jvm.Free.SBG.digits n))), .val (.int (52 : Int32))] [(.long (100000 : Int64)), (.int (5 : Int32)), (.long (Int64.ofNat n)), (.int (Int32.ofNat (Jvm.Free.SBG.digits n))), (.int (52 : Int32)), (.ref y299s)]))
    refine o_tc (argsL := [(.ref y299s), (.int (52 : Int32)), (.int (Int32.ofNat (Jvm.Free.SBG.digits n))), (.long (Int64.ofNat n)), (.int (5 : Int32)), (.long (100000 : Int64))]) (rest := []) X323 H hml hZ300 hown300 (ow hw 205 rfl) (ow hw 206 rfl) (ow hw 173 rfl) (ow hw 207 rfl) (backOf (W := 0) (rm41 l Z a0 hw [] y299s z fm t299 kt299 (52 + (Jvm.Free.SBG.digits n + Jvm.Free.SBG.GetChars.sgn x)) (own_nm x n) n 52 5 100000 h300 n0 (by exact (Nat.le_trans (Nat.le_trans Z0 K299.1) E300.1)) hz ((O.keep K299 all0).ext E300) SC SF hfm (Eq299.ext E300) (Cq299.ext E300) (Vq299.ext E300) (Aq299.ext E300) (own_nml x n) (own_nmr x n) hm1 hn (by rw [sg1]; omega) rfl ⟨by decide, by decide⟩ (by decide) hdg) hZ300 (ow hw 207 rfl) (ow hw 173 rfl) (by decide) (by decide)) (by decide) e323 pd_28 at_195 rfl rfl rfl rfl rfl (by decide) (by decide) (o_pk (fun _ _ _ q => q) N323 fun T324 Lc324 X324 N324 e324 => ?_)
    refine o_ifN X324 H at_198 ((if0 _ _).trans (feq (by decide : ¬ ((1 : Int32) = (0 : Int32)))).1) ?_
    refine o_aldN X324 H at_201 rfl rfl ?_
    refine o_ild X324 H at_202 rfl ?_
    refine o_ild X324 H at_204 rfl ?_
    refine o_lld X324 H at_206 rfl ?_
    refine o_bi X324 H at_208 (v := 6) rfl ?_
    refine own_on (fun tq => X324.ldc2Long hx hown300 (mvT hZ300 (ow hw 212 rfl)) (g := (mkF m 210 #[.val (.int x), .val (.ref y299s), .val (.ref a300), .val (.long (Int64.ofNat n)), .second, .val (.int (0 : Int32)), .val (.long (Int64.ofNat n)), .second, .val (.int (Int32.ofNat (Jvm.Free.SBG.digits n))), .val (.int (52 : Int32))] [(.int (6 : Int32)), (.long (Int64.ofNat n)), (.int (Int32.ofNat (Jvm.Free.SBG.digits n))), (.int (52 : Int32)), (.ref y299s)])) rfl (hb hby at_210) tq) ?_
    show own_Fin p e below _ (T324.setTop (mkF m 213 #[.val (.int x), .val (.ref y299s), .val (.ref a300), .val (.long (Int64.ofNat n)), .second, .val (.int (0 : Int32)), .val (.long (Int64.ofNat n)), .second, .val (.int (Int32.ofNat (Jvm.Free.SBG.digits n))), .val (.int (52 : Int32))] [(.long (1000000 : Int64)), (.int (6 : Int32)), (.long (Int64.ofNat n)), (.int (Int32.ofNat (Jvm.Free.SBG.digits n))), (.int (52 : Int32)), (.ref y299s)]))
    refine o_tc (argsL := [(.ref y299s), (.int (52 : Int32)), (.int (Int32.ofNat (Jvm.Free.SBG.digits n))), (.long (Int64.ofNat n)), (.int (6 : Int32)), (.long (1000000 : Int64))]) (rest := []) X324 H hml hZ300 hown300 (ow hw 205 rfl) (ow hw 206 rfl) (ow hw 173 rfl) (ow hw 207 rfl) (backOf (W := 0) (rm41 l Z a0 hw [] y299s z fm t299 kt299 (52 + (Jvm.Free.SBG.digits n + Jvm.Free.SBG.GetChars.sgn x)) (own_nm x n) n 52 6 1000000 h300 n0 (by exact (Nat.le_trans (Nat.le_trans Z0 K299.1) E300.1)) hz ((O.keep K299 all0).ext E300) SC SF hfm (Eq299.ext E300) (Cq299.ext E300) (Vq299.ext E300) (Aq299.ext E300) (own_nml x n) (own_nmr x n) hm1 hn (by rw [sg1]; omega) rfl ⟨by decide, by decide⟩ (by decide) hdg) hZ300 (ow hw 207 rfl) (ow hw 173 rfl) (by decide) (by decide)) (by decide) e324 pd_28 at_213 rfl rfl rfl rfl rfl (by decide) (by decide) (o_pk (fun _ _ _ q => q) N324 fun T325 Lc325 X325 N325 e325 => ?_)
    refine o_ifN X325 H at_216 ((if0 _ _).trans (feq (by decide : ¬ ((1 : Int32) = (0 : Int32)))).1) ?_
    refine o_aldN X325 H at_219 rfl rfl ?_
    refine o_ild X325 H at_220 rfl ?_
    refine o_ild X325 H at_222 rfl ?_
    refine o_lld X325 H at_224 rfl ?_
    refine o_bi X325 H at_226 (v := 7) rfl ?_
    refine own_on (fun tq => X325.ldc2Long hx hown300 (mvT hZ300 (ow hw 213 rfl)) (g := (mkF m 228 #[.val (.int x), .val (.ref y299s), .val (.ref a300), .val (.long (Int64.ofNat n)), .second, .val (.int (0 : Int32)), .val (.long (Int64.ofNat n)), .second, .val (.int (Int32.ofNat (Jvm.Free.SBG.digits n))), .val (.int (52 : Int32))] [(.int (7 : Int32)), (.long (Int64.ofNat n)), (.int (Int32.ofNat (Jvm.Free.SBG.digits n))), (.int (52 : Int32)), (.ref y299s)])) rfl (hb hby at_228) tq) ?_
    show own_Fin p e below _ (T325.setTop (mkF m 231 #[.val (.int x), .val (.ref y299s), .val (.ref a300), .val (.long (Int64.ofNat n)), .second, .val (.int (0 : Int32)), .val (.long (Int64.ofNat n)), .second, .val (.int (Int32.ofNat (Jvm.Free.SBG.digits n))), .val (.int (52 : Int32))] [(.long (10000000 : Int64)), (.int (7 : Int32)), (.long (Int64.ofNat n)), (.int (Int32.ofNat (Jvm.Free.SBG.digits n))), (.int (52 : Int32)), (.ref y299s)]))
    refine o_tc (argsL := [(.ref y299s), (.int (52 : Int32)), (.int (Int32.ofNat (Jvm.Free.SBG.digits n))), (.long (Int64.ofNat n)), (.int (7 : Int32)), (.long (10000000 : Int64))]) (rest := []) X325 H hml hZ300 hown300 (ow hw 205 rfl) (ow hw 206 rfl) (ow hw 173 rfl) (ow hw 207 rfl) (backOf (W := 0) (rm41 l Z a0 hw [] y299s z fm t299 kt299 (52 + (Jvm.Free.SBG.digits n + Jvm.Free.SBG.GetChars.sgn x)) (own_nm x n) n 52 7 10000000 h300 n0 (by exact (Nat.le_trans (Nat.le_trans Z0 K299.1) E300.1)) hz ((O.keep K299 all0).ext E300) SC SF hfm (Eq299.ext E300) (Cq299.ext E300) (Vq299.ext E300) (Aq299.ext E300) (own_nml x n) (own_nmr x n) hm1 hn (by rw [sg1]; omega) rfl ⟨by decide, by decide⟩ (by decide) hdg) hZ300 (ow hw 207 rfl) (ow hw 173 rfl) (by decide) (by decide)) (by decide) e325 pd_28 at_231 rfl rfl rfl rfl rfl (by decide) (by decide) (o_pk (fun _ _ _ q => q) N325 fun T326 Lc326 X326 N326 e326 => ?_)
    refine o_ifN X326 H at_234 ((if0 _ _).trans (feq (by decide : ¬ ((1 : Int32) = (0 : Int32)))).1) ?_
    refine o_aldN X326 H at_237 rfl rfl ?_
    refine o_ild X326 H at_238 rfl ?_
    refine o_ild X326 H at_240 rfl ?_
    refine o_lld X326 H at_242 rfl ?_
    refine o_bi X326 H at_244 (v := 8) rfl ?_
    refine own_on (fun tq => X326.ldc2Long hx hown300 (mvT hZ300 (ow hw 214 rfl)) (g := (mkF m 246 #[.val (.int x), .val (.ref y299s), .val (.ref a300), .val (.long (Int64.ofNat n)), .second, .val (.int (0 : Int32)), .val (.long (Int64.ofNat n)), .second, .val (.int (Int32.ofNat (Jvm.Free.SBG.digits n))), .val (.int (52 : Int32))] [(.int (8 : Int32)), (.long (Int64.ofNat n)), (.int (Int32.ofNat (Jvm.Free.SBG.digits n))), (.int (52 : Int32)), (.ref y299s)])) rfl (hb hby at_246) tq) ?_
    show own_Fin p e below _ (T326.setTop (mkF m 249 #[.val (.int x), .val (.ref y299s), .val (.ref a300), .val (.long (Int64.ofNat n)), .second, .val (.int (0 : Int32)), .val (.long (Int64.ofNat n)), .second, .val (.int (Int32.ofNat (Jvm.Free.SBG.digits n))), .val (.int (52 : Int32))] [(.long (100000000 : Int64)), (.int (8 : Int32)), (.long (Int64.ofNat n)), (.int (Int32.ofNat (Jvm.Free.SBG.digits n))), (.int (52 : Int32)), (.ref y299s)]))
    refine o_tc (argsL := [(.ref y299s), (.int (52 : Int32)), (.int (Int32.ofNat (Jvm.Free.SBG.digits n))), (.long (Int64.ofNat n)), (.int (8 : Int32)), (.long (100000000 : Int64))]) (rest := []) X326 H hml hZ300 hown300 (ow hw 205 rfl) (ow hw 206 rfl) (ow hw 173 rfl) (ow hw 207 rfl) (backOf (W := 0) (rm41 l Z a0 hw [] y299s z fm t299 kt299 (52 + (Jvm.Free.SBG.digits n + Jvm.Free.SBG.GetChars.sgn x)) (own_nm x n) n 52 8 100000000 h300 n0 (by exact (Nat.le_trans (Nat.le_trans Z0 K299.1) E300.1)) hz ((O.keep K299 all0).ext E300) SC SF hfm (Eq299.ext E300) (Cq299.ext E300) (Vq299.ext E300) (Aq299.ext E300) (own_nml x n) (own_nmr x n) hm1 hn (by rw [sg1]; omega) rfl ⟨by decide, by decide⟩ (by decide) hdg) hZ300 (ow hw 207 rfl) (ow hw 173 rfl) (by decide) (by decide)) (by decide) e326 pd_28 at_249 rfl rfl rfl rfl rfl (by decide) (by decide) (o_pk (fun _ _ _ q => q) N326 fun T327 Lc327 X327 N327 e327 => ?_)
    refine o_ifN X327 H at_252 ((if0 _ _).trans (feq (by decide : ¬ ((1 : Int32) = (0 : Int32)))).1) ?_
    refine o_aldN X327 H at_255 rfl rfl ?_
    refine o_ild X327 H at_256 rfl ?_
    refine o_ild X327 H at_258 rfl ?_
    refine o_lld X327 H at_260 rfl ?_
    refine o_bi X327 H at_262 (v := 9) rfl ?_
    refine own_on (fun tq => X327.ldc2Long hx hown300 (mvT hZ300 (ow hw 215 rfl)) (g := (mkF m 264 #[.val (.int x), .val (.ref y299s), .val (.ref a300), .val (.long (Int64.ofNat n)), .second, .val (.int (0 : Int32)), .val (.long (Int64.ofNat n)), .second, .val (.int (Int32.ofNat (Jvm.Free.SBG.digits n))), .val (.int (52 : Int32))] [(.int (9 : Int32)), (.long (Int64.ofNat n)), (.int (Int32.ofNat (Jvm.Free.SBG.digits n))), (.int (52 : Int32)), (.ref y299s)])) rfl (hb hby at_264) tq) ?_
    show own_Fin p e below _ (T327.setTop (mkF m 267 #[.val (.int x), .val (.ref y299s), .val (.ref a300), .val (.long (Int64.ofNat n)), .second, .val (.int (0 : Int32)), .val (.long (Int64.ofNat n)), .second, .val (.int (Int32.ofNat (Jvm.Free.SBG.digits n))), .val (.int (52 : Int32))] [(.long (1000000000 : Int64)), (.int (9 : Int32)), (.long (Int64.ofNat n)), (.int (Int32.ofNat (Jvm.Free.SBG.digits n))), (.int (52 : Int32)), (.ref y299s)]))
    refine o_tc (argsL := [(.ref y299s), (.int (52 : Int32)), (.int (Int32.ofNat (Jvm.Free.SBG.digits n))), (.long (Int64.ofNat n)), (.int (9 : Int32)), (.long (1000000000 : Int64))]) (rest := []) X327 H hml hZ300 hown300 (ow hw 205 rfl) (ow hw 206 rfl) (ow hw 173 rfl) (ow hw 207 rfl) (backOf (W := 0) (rm41 l Z a0 hw [] y299s z fm t299 kt299 (52 + (Jvm.Free.SBG.digits n + Jvm.Free.SBG.GetChars.sgn x)) (own_nm x n) n 52 9 1000000000 h300 n0 (by exact (Nat.le_trans (Nat.le_trans Z0 K299.1) E300.1)) hz ((O.keep K299 all0).ext E300) SC SF hfm (Eq299.ext E300) (Cq299.ext E300) (Vq299.ext E300) (Aq299.ext E300) (own_nml x n) (own_nmr x n) hm1 hn (by rw [sg1]; omega) rfl ⟨by decide, by decide⟩ (by decide) hdg) hZ300 (ow hw 207 rfl) (ow hw 173 rfl) (by decide) (by decide)) (by decide) e327 pd_28 at_267 rfl rfl rfl rfl rfl (by decide) (by decide) (o_pk (fun _ _ _ q => q) N327 fun T328 Lc328 X328 N328 e328 => ?_)
    refine o_ifN X328 H at_270 ((if0 _ _).trans (feq (by decide : ¬ ((1 : Int32) = (0 : Int32)))).1) ?_
    refine o_ic X328 H at_273 (v := 1) rfl ?_
    refine o_go X328 H at_274 (pc' := 278) (by decide) (by decide) ?_
    exact own_retW (t := .boolean) X328 (Z := Z) (EL := own_EL) (a0 := a0) hx hlk hret rfl (Or.inl ⟨rfl, (by simp), _, rfl⟩) (hb hby at_278) hS300 (by rw [e328]; exact hk300) hZ300 hEL (by rw [hh, e328]; exact (CHr.trans (CHr.trans (CHr.refl CH0) A299) A300)) (⟨rfl, N328⟩) (by decide) (by decide)
theorem own_bytes {a : Array Value} {s : State} {C n : String} (hfit : Fit s) (h3 : (Jvm.Cond.exactly (.static C n "[B") "[B").before a s = true) (hl : (Jvm.Cond.eq (.length (.static C n "[B")) (.int 100)).before a s = true) (harr : (Jvm.Cond.arrayClass .byte).before a s = true) : (Jvm.Free.SBG.bytesC (.static C n "[B")).before a s = true := by
  obtain ⟨d, c1, D, k1, e1, e2, e3, e4, e5, e6, -⟩ := Cond.exactly_spec h3
  have hwl := Cond.eq_int hl rfl
  obtain ⟨d', D', f1, f2, -⟩ := Term.length_spec hwl
  cases e1.symm.trans f1
  obtain ⟨f3, -⟩ := State.arrayAt?_spec f2
  cases e3.symm.trans f3
  obtain ⟨c2, k2, comp, g1, g2, g3⟩ := Cond.arrayClass_spec harr
  rw [show ("[" ++ FieldType.toString .byte) = "[B" by decide] at g1
  cases e2.symm.trans g1
  cases e4.symm.trans g2
  refine Jvm.Free.SBG.bytesC_of_fits (fun idx => e1) f2 (Jvm.Free.SBG.length_lt e1 f2 hwl) fun i hi => ?_
  have q := hfit e3 hi
  have t : s.slotType? D.cls D.vm i = some .byte := by
    simp only [State.slotType?, e6, e4, Option.bind_eq_bind, Option.bind_some, g3]
    cases hq : D.vm <;> first | (rw [hq] at e5; exact Bool.noConfusion e5) | rfl
  simpa [State.fitsSlot, t, Array.getD, hi] using q
set_option maxRecDepth 65536 in
set_option maxHeartbeats 40000000 in
theorem comes_1 {Post : Tables → Env → Array Value → State → Outcome → State → Prop} (hpost : ∀ tb e args s v u, (limb_1_1.after args s (.returned v) u = true ∧ limb_1_2.after args s (.returned v) u = true ∧ True) → ReturnedEndW s (.returned v) u (Jvm.fieldLocs frame_1_writes args s ++ Jvm.arrayLocs frame_1_arrays args s ++ Jvm.staticLocs frame_1_statics s) 40 3712 → Post tb e args s (.returned v) u) :
    ArmFor flags0 classFile x code maxLocals ret World_1 tables_1 room_1 Calls_1 rest_1 Pre_1 Post := by
  intro l hfl _ _ p e ha hc hk s m args below hf hA hF happ hP
  obtain ⟨hcalls, hrest, hpre⟩ := hP
  obtain ⟨-, -, -, hnamed, -, -, -, hat⟩ := (Spec.applies_iff hf).mp happ
  obtain ⟨hg, hn⟩ := and_e (Cond.before_iff.mp (show (Jvm.Cond.and given_1 narrow_1).before args s = true from hpre))
  obtain ⟨ga0l, ga0r⟩ := and_e hg
  obtain ⟨na0l, na0r⟩ := and_e hn
  obtain ⟨na1l, na1r⟩ := and_e na0r
  obtain ⟨na2l, na2r⟩ := and_e na1r
  obtain ⟨na3l, na3r⟩ := and_e na2r
  obtain ⟨na4l, na4r⟩ := and_e na3r
  obtain ⟨na5l, na5r⟩ := and_e na4r
  obtain ⟨na6l, na6r⟩ := and_e na5r
  obtain ⟨na7l, na7r⟩ := and_e na6r
  obtain ⟨na8l, na8r⟩ := and_e na7r
  obtain ⟨na9l, na9r⟩ := and_e na8r
  obtain ⟨na10l, na10r⟩ := and_e na9r
  obtain ⟨na11l, na11r⟩ := and_e na10r
  obtain ⟨na12l, na12r⟩ := and_e na11r
  obtain ⟨na13l, na13r⟩ := and_e na12r
  obtain ⟨na14l, na14r⟩ := and_e na13r
  obtain ⟨na15l, na15r⟩ := and_e na14r
  obtain ⟨na16l, na16r⟩ := and_e na15r
  obtain ⟨na17l, na17r⟩ := and_e na16r
  obtain ⟨na18l, na18r⟩ := and_e na17r
  obtain ⟨na19l, na19r⟩ := and_e na18r
  obtain ⟨na20l, na20r⟩ := and_e na19r
  obtain ⟨na21l, na21r⟩ := and_e na20r
  obtain ⟨na22l, na22r⟩ := and_e na21r
  obtain ⟨na23l, na23r⟩ := and_e na22r
  obtain ⟨na24l, na24r⟩ := and_e na23r
  obtain ⟨na25l, na25r⟩ := and_e na24r
  obtain ⟨na26l, na26r⟩ := and_e na25r
  obtain ⟨na27l, na27r⟩ := and_e na26r
  obtain ⟨na28l, na28r⟩ := and_e na27r
  obtain ⟨na29l, na29r⟩ := and_e na28r
  obtain ⟨na30l, na30r⟩ := and_e na29r
  obtain ⟨na31l, na31r⟩ := and_e na30r
  obtain ⟨na32l, na32r⟩ := and_e na31r
  obtain ⟨na33l, na33r⟩ := and_e na32r
  obtain ⟨na34l, na34r⟩ := and_e na33r
  obtain ⟨na35l, na35r⟩ := and_e na34r
  obtain ⟨na36l, na36r⟩ := and_e na35r
  obtain ⟨na37l, na37r⟩ := and_e na36r
  obtain ⟨na38l, na38r⟩ := and_e na37r
  obtain ⟨na39l, na39r⟩ := and_e na38r
  obtain ⟨na40l, na40r⟩ := and_e na39r
  obtain ⟨na41l, na41r⟩ := and_e na40r
  obtain ⟨na42l, na42r⟩ := and_e na41r
  obtain ⟨na43l, na43r⟩ := and_e na42r
  obtain ⟨na44l, na44r⟩ := and_e na43r
  obtain ⟨na45l, na45r⟩ := and_e na44r
  obtain ⟨na46l, na46r⟩ := and_e na45r
  obtain ⟨na47l, na47r⟩ := and_e na46r
  obtain ⟨na48l, na48r⟩ := and_e na47r
  obtain ⟨na49l, na49r⟩ := and_e na48r
  obtain ⟨na50l, na50r⟩ := and_e na49r
  obtain ⟨na51l, na51r⟩ := and_e na50r
  obtain ⟨na52l, na52r⟩ := and_e na51r
  obtain ⟨na53l, na53r⟩ := and_e na52r
  obtain ⟨w0, rfl⟩ : ∃ w0 : Value, args = #[w0] := by
    have hs : args.size = 1 := by simpa [Cond.value, given_1] using ga0l
    obtain ⟨L⟩ := args
    match L, hs with
    | [w0], _ => exact ⟨w0, rfl⟩
  have hw := fun d (hd : d ∈ tables_1) => atoms_spec (ws := Jvm.Cond.code x code maxLocals ret :: tables_1) hat d (List.mem_cons_of_mem _ hd)
  have hfit : Fit s := fun {y c} hc i hi => by
    obtain ⟨ha, rfl⟩ := Array.getElem?_eq_some_iff.mp hc
    have q := List.all_eq_true.mp ((Array.all_eq_true_iff_forall_mem.mp hF) _ (Array.getElem_mem ha)) i (List.mem_range.mpr hi)
    simpa [Array.getElem?_eq_getElem hi] using q
  obtain ⟨hsets, hown0⟩ := atoms_of _ (rest_1_c_eq ▸ (show rest_1_c.before _ s = true from hrest))
  have hr0 := Cond.before_iff.mp hown0
  obtain ⟨i0, ei0⟩ := is_v ga0r
  obtain rfl : w0 = (.int i0) := Option.some.inj ei0
  obtain ⟨z, ez⟩ := is_v (Cond.before_iff.mp (hsets _ (List.mem_of_getElem? (i := 1) rfl)))
  have SC := Sta.start ez (Or.inl (hsets _ (List.mem_of_getElem? (i := 0) rfl)))
  have hz : ¬ z = (0 : Int32) := gotF (Cond.eq_ints ez (Term.int_eval (0))) (not_v (Cond.before_iff.mp (hsets _ (List.mem_of_getElem? (i := 2) rfl))))
  have hcw : Jvm.Lit.compactW.before #[.int i0] s = true := (hsets _ (List.mem_of_getElem? (i := 2) rfl))
  obtain ⟨fm, ef, hfm⟩ := isR_v (Cond.before_iff.mp (hsets _ (List.mem_of_getElem? (i := 8) rfl)))
  have SF := Sta.start ef (Or.inl (hsets _ (List.mem_of_getElem? (i := 7) rfl)))
  have hT1 : ∀ w ∈ Jvm.Free.SBG.tblW "DigitOnes", w.before #[.int i0] s = true := by intro w hw_; simp only [Jvm.Free.SBG.tblW, List.mem_cons, List.not_mem_nil, or_false] at hw_; rcases hw_ with rfl | rfl | rfl | rfl; exact (hsets _ (List.mem_of_getElem? (i := 10) rfl)); exact (hsets _ (List.mem_of_getElem? (i := 12) rfl)); exact (hsets _ (List.mem_of_getElem? (i := 13) rfl)); exact own_bytes hfit (hsets _ (List.mem_of_getElem? (i := 12) rfl)) (hsets _ (List.mem_of_getElem? (i := 13) rfl)) (ow hw 21 rfl)
  obtain ⟨tc1, tk1, st1, d1, D1, u11, u12, u13, T1, O1⟩ := Jvm.Free.SBG.ones_of_words hT1 (hsets _ (List.mem_of_getElem? (i := 14) rfl)) (hsets _ (List.mem_of_getElem? (i := 9) rfl)) (ow hw 21 rfl)
  have hT2 : ∀ w ∈ Jvm.Free.SBG.tblW "DigitTens", w.before #[.int i0] s = true := by intro w hw_; simp only [Jvm.Free.SBG.tblW, List.mem_cons, List.not_mem_nil, or_false] at hw_; rcases hw_ with rfl | rfl | rfl | rfl; exact (hsets _ (List.mem_of_getElem? (i := 15) rfl)); exact (hsets _ (List.mem_of_getElem? (i := 17) rfl)); exact (hsets _ (List.mem_of_getElem? (i := 18) rfl)); exact own_bytes hfit (hsets _ (List.mem_of_getElem? (i := 17) rfl)) (hsets _ (List.mem_of_getElem? (i := 18) rfl)) (ow hw 21 rfl)
  obtain ⟨tc2, tk2, st2, d2, D2, u21, u22, u23, T2, O2⟩ := Jvm.Free.SBG.tens_of_words hT2 (hsets _ (List.mem_of_getElem? (i := 19) rfl)) (hsets _ (List.mem_of_getElem? (i := 9) rfl)) (ow hw 21 rfl)
  cases u11.symm.trans u21
  cases u12.symm.trans u22
  cases u13.symm.trans u23
  obtain ⟨n, hn, hxn⟩ := Jvm.Free.SBG.negI_of i0
  obtain ⟨pk, evp⟩ := exa_v na0l
  have Ep := Exa.start evp na0l
  have SP := Sta.start evp (Or.inr ⟨(ow hw 2 rfl), (ow hw 27 rfl)⟩)
  have Cp := own_eqf evp na4l
  obtain ⟨tp, evt⟩ := exa_v na2l
  have Vp := Fld.start ((fld_at evp).symm.trans evt)
  obtain ⟨cp, Ap⟩ := Arr.start evt na1l
  have hs4 := eqv_i (Term.int_eval (50)) na3l
  have hlen := own_len evt (Ap.fin (Vm.Alike.refl _)) hs4
  have el0 := (elem_in (eqv_i (Term.int_eval (99)) na5l) evt (Term.int_eval (0)) Ap.1).2
  have el1 := (elem_in (eqv_i (Term.int_eval (111)) na6l) evt (Term.int_eval (1)) Ap.1).2
  have el2 := (elem_in (eqv_i (Term.int_eval (109)) na7l) evt (Term.int_eval (2)) Ap.1).2
  have el3 := (elem_in (eqv_i (Term.int_eval (46)) na8l) evt (Term.int_eval (3)) Ap.1).2
  have el4 := (elem_in (eqv_i (Term.int_eval (101)) na9l) evt (Term.int_eval (4)) Ap.1).2
  have el5 := (elem_in (eqv_i (Term.int_eval (120)) na10l) evt (Term.int_eval (5)) Ap.1).2
  have el6 := (elem_in (eqv_i (Term.int_eval (97)) na11l) evt (Term.int_eval (6)) Ap.1).2
  have el7 := (elem_in (eqv_i (Term.int_eval (109)) na12l) evt (Term.int_eval (7)) Ap.1).2
  have el8 := (elem_in (eqv_i (Term.int_eval (112)) na13l) evt (Term.int_eval (8)) Ap.1).2
  have el9 := (elem_in (eqv_i (Term.int_eval (108)) na14l) evt (Term.int_eval (9)) Ap.1).2
  have el10 := (elem_in (eqv_i (Term.int_eval (101)) na15l) evt (Term.int_eval (10)) Ap.1).2
  have el11 := (elem_in (eqv_i (Term.int_eval (46)) na16l) evt (Term.int_eval (11)) Ap.1).2
  have el12 := (elem_in (eqv_i (Term.int_eval (116)) na17l) evt (Term.int_eval (12)) Ap.1).2
  have el13 := (elem_in (eqv_i (Term.int_eval (105)) na18l) evt (Term.int_eval (13)) Ap.1).2
  have el14 := (elem_in (eqv_i (Term.int_eval (100)) na19l) evt (Term.int_eval (14)) Ap.1).2
  have el15 := (elem_in (eqv_i (Term.int_eval (121)) na20l) evt (Term.int_eval (15)) Ap.1).2
  have el16 := (elem_in (eqv_i (Term.int_eval (95)) na21l) evt (Term.int_eval (16)) Ap.1).2
  have el17 := (elem_in (eqv_i (Term.int_eval (105)) na22l) evt (Term.int_eval (17)) Ap.1).2
  have el18 := (elem_in (eqv_i (Term.int_eval (110)) na23l) evt (Term.int_eval (18)) Ap.1).2
  have el19 := (elem_in (eqv_i (Term.int_eval (106)) na24l) evt (Term.int_eval (19)) Ap.1).2
  have el20 := (elem_in (eqv_i (Term.int_eval (101)) na25l) evt (Term.int_eval (20)) Ap.1).2
  have el21 := (elem_in (eqv_i (Term.int_eval (99)) na26l) evt (Term.int_eval (21)) Ap.1).2
  have el22 := (elem_in (eqv_i (Term.int_eval (116)) na27l) evt (Term.int_eval (22)) Ap.1).2
  have el23 := (elem_in (eqv_i (Term.int_eval (111)) na28l) evt (Term.int_eval (23)) Ap.1).2
  have el24 := (elem_in (eqv_i (Term.int_eval (114)) na29l) evt (Term.int_eval (24)) Ap.1).2
  have el25 := (elem_in (eqv_i (Term.int_eval (46)) na30l) evt (Term.int_eval (25)) Ap.1).2
  have el26 := (elem_in (eqv_i (Term.int_eval (116)) na31l) evt (Term.int_eval (26)) Ap.1).2
  have el27 := (elem_in (eqv_i (Term.int_eval (105)) na32l) evt (Term.int_eval (27)) Ap.1).2
  have el28 := (elem_in (eqv_i (Term.int_eval (100)) na33l) evt (Term.int_eval (28)) Ap.1).2
  have el29 := (elem_in (eqv_i (Term.int_eval (121)) na34l) evt (Term.int_eval (29)) Ap.1).2
  have el30 := (elem_in (eqv_i (Term.int_eval (105)) na35l) evt (Term.int_eval (30)) Ap.1).2
  have el31 := (elem_in (eqv_i (Term.int_eval (110)) na36l) evt (Term.int_eval (31)) Ap.1).2
  have el32 := (elem_in (eqv_i (Term.int_eval (106)) na37l) evt (Term.int_eval (32)) Ap.1).2
  have el33 := (elem_in (eqv_i (Term.int_eval (101)) na38l) evt (Term.int_eval (33)) Ap.1).2
  have el34 := (elem_in (eqv_i (Term.int_eval (99)) na39l) evt (Term.int_eval (34)) Ap.1).2
  have el35 := (elem_in (eqv_i (Term.int_eval (116)) na40l) evt (Term.int_eval (35)) Ap.1).2
  have el36 := (elem_in (eqv_i (Term.int_eval (111)) na41l) evt (Term.int_eval (36)) Ap.1).2
  have el37 := (elem_in (eqv_i (Term.int_eval (114)) na42l) evt (Term.int_eval (37)) Ap.1).2
  have el38 := (elem_in (eqv_i (Term.int_eval (46)) na43l) evt (Term.int_eval (38)) Ap.1).2
  have el39 := (elem_in (eqv_i (Term.int_eval (98)) na44l) evt (Term.int_eval (39)) Ap.1).2
  have el40 := (elem_in (eqv_i (Term.int_eval (101)) na45l) evt (Term.int_eval (40)) Ap.1).2
  have el41 := (elem_in (eqv_i (Term.int_eval (110)) na46l) evt (Term.int_eval (41)) Ap.1).2
  have el42 := (elem_in (eqv_i (Term.int_eval (99)) na47l) evt (Term.int_eval (42)) Ap.1).2
  have el43 := (elem_in (eqv_i (Term.int_eval (104)) na48l) evt (Term.int_eval (43)) Ap.1).2
  have el44 := (elem_in (eqv_i (Term.int_eval (46)) na49l) evt (Term.int_eval (44)) Ap.1).2
  have el45 := (elem_in (eqv_i (Term.int_eval (103)) na50l) evt (Term.int_eval (45)) Ap.1).2
  have el46 := (elem_in (eqv_i (Term.int_eval (114)) na51l) evt (Term.int_eval (46)) Ap.1).2
  have el47 := (elem_in (eqv_i (Term.int_eval (97)) na52l) evt (Term.int_eval (47)) Ap.1).2
  have el48 := (elem_in (eqv_i (Term.int_eval (112)) na53l) evt (Term.int_eval (48)) Ap.1).2
  have el49 := (elem_in (eqv_i (Term.int_eval (104)) na53r) evt (Term.int_eval (49)) Ap.1).2
  have Kp : Arv s s.heap tp cp.cls .byte (50 : Int32) ((own_pk.map StrChars.lo8).map Value.int) (.int 0) := by rw [own_kpk]; exact Arv.start hfit Ap hlen.1 hlen.2 (by decide) rfl ⟨el0, el1, el2, el3, el4, el5, el6, el7, el8, el9, el10, el11, el12, el13, el14, el15, el16, el17, el18, el19, el20, el21, el22, el23, el24, el25, el26, el27, el28, el29, el30, el31, el32, el33, el34, el35, el36, el37, el38, el39, el40, el41, el42, el43, el44, el45, el46, el47, el48, el49, trivial⟩
  have hEL : EW s #[.int i0] own_EL := EW.cons (ow hw 170 rfl) (by decide) (EW.cons (ow hw 110 rfl) (by decide) (EW.cons (ow hw 103 rfl) (by decide) EW.nil))
  obtain ⟨n, o, h1, h2, h3, _, L, rfl, ⟨rfl, N⟩, -, hq⟩ := rm0 l s _ hw tables_1 i0 z fm n st1 d1 D1 d2 D2 pk tp cp.cls s.heap s.heap.size (Nat.le_refl _) hEL hz (Old.start s) SC SF hfm T1 O1 T2 O2 hn hxn SP Ep Cp Vp Kp Ep.lt Kp.lt p e ha hc hk s m _ below hf ((Spec.applies_iff_loose hf).mp happ).1 ⟨rfl, State.Warmed39.refl s, rfl, (CHv.start hEL (fun p hp => hcalls.1 p (by simp only [own_EL, List.mem_cons, List.not_mem_nil, or_false] at hp; rcases hp with rfl | rfl | rfl; exact List.mem_of_getElem? (i := 2) rfl; exact List.mem_of_getElem? (i := 0) rfl; exact List.mem_of_getElem? (i := 1) rfl)) hcw (ow hw 21 rfl) (ow hw 104 rfl))⟩ trivial
  refine ⟨n, _, h1, h2, h3, hpost _ _ _ _ _ _ ⟨Cond.after_iff.mpr rfl, Cond.after_iff.mpr (eq_i res_at (Term.int_eval (1)) rfl), trivial⟩ ⟨hq.1, hq.2.1, hq.2.2.1, (hq.2.2.2.sift fun y hy => Or.inr (N y hy)).mono (by decide) (by decide)⟩⟩
theorem main_1_1 : Claimed_1_1 := comes_1 fun _ _ _ _ _ _ h hF => ⟨h.1, hF⟩
theorem main_1_2 : Claimed_1_2 := comes_1 fun _ _ _ _ _ _ h hF => ⟨h.2.1, hF⟩
end Jvm.Pilot.@@N@@
namespace Jvm.Pilot.@@N@@
open Jvm Jvm.ClassFile Sem Op Lib Jvm.Free Jvm.Stand Jvm.Pilot.@@N@@.Jvm.D
/-! MADE BY PROGRAM (witnessworld.py) out of the Statement's table words and the real class files: 25 classes; the members and pool entries that the words name. The judged class is class 1, her method 1. -/
namespace start1
open Jvm.ClassFile
def u (s : String) : CpInfo := .utf8 (stringToUtf16 s)
/-- a pool by its gaps: so many unusable entries, then the entry; so many at the end -/
def gap : Nat → List CpInfo → List CpInfo
  | 0, r => r
  | n + 1, r => .unusable :: gap n r
def poolList (es : List (Nat × CpInfo)) (last : Nat) : List CpInfo := es.foldr (fun e r => gap e.1 (e.2 :: r)) (gap last [])
def pool (es : List (Nat × CpInfo)) (last : Nat) : Array CpInfo := ⟨poolList es last⟩
def fileOf (pool : Array CpInfo) (this : Nat) (attrs : Array Attribute := #[]) (ms : Array MethodInfo := #[]) (fl : Nat := 33) (sup : Nat := 0) (ifs : Array Nat := #[]) (fds : Array FieldInfo := #[]) : ClassFile where
  minorVersion := 0
  majorVersion := 65
  constantPool := pool
  accessFlags := fl
  thisClass := this
  superClass := sup
  interfaces := ifs
  fields := fds
  methods := ms
  attributes := attrs
def plain (name : String) (sup : Option ClassId) : Class where
  name := name
  kind := .ordinary
  loader := none
  accessFlags := 33
  super := sup
  interfaces := #[]
  cf := none
  fields := #[]
  methods := #[]
  instanceTypes := #[]
  staticTypes := #[]
  resolved := #[]
  callSites := []
  init := .initialized
  statics := none
  mirror := none

def pool0 : Array CpInfo := pool [(5, u "<init>"), (0, u "()V"), (1, .class_ 10), (1, u "java/lang/Object")] 113

def k0c0 : Code := { maxStack := 0, maxLocals := 1, code := object_method_1_code, exceptionTable := #[], attributes := #[] }
def k0m0 : Method := { name := "<init>", desc := "()V", sig := { parameters := [], returnType := none }, accessFlags := 1, code := some k0c0 }
/-- java/lang/Object -/
def k0 : Class := { plain "java/lang/Object" none with
  accessFlags := 33
  interfaces := #[]
  cf := some (fileOf pool0 8 #[] #[{ accessFlags := 1, nameIndex := 5, descriptorIndex := 6, attributes := #[] }] 33 0 #[] #[])
  fields := #[]
  methods := #[k0m0]
  instanceTypes := #[]
  staticTypes := #[]
  resolved := Array.replicate 124 none
  statics := none }

def pool1 : Array CpInfo := pool [(2, .class_ 4), (1, u "java/lang/Object"), (0, u "<init>"), (0, u "()V"), (0, .methodref 8 9), (0, .class_ 10), (0, .nameAndType 11 12), (0, u "com/example/tidy_injector/tidyinjector/bench/StartupGraph"), (0, u "className"), (0, u "(I)Ljava/lang/String;"), (0, .string 14), (0, u "com.example.tidy_injector.tidyinjector.bench.graph.C"), (0, .methodref 16 17), (0, .class_ 18), (0, .nameAndType 19 20), (0, u "com/example/tidy_injector/tidyinjector/bench/StartupGraphClassNamePinLaw"), (0, u "digits"), (0, u "(J)I"), (0, .methodref 22 23), (0, .class_ 24), (0, .nameAndType 25 26), (0, u "java/lang/String"), (0, u "length"), (0, u "()I"), (0, .methodref 16 28), (0, .nameAndType 29 30), (0, u "prefix"), (0, u "(Ljava/lang/String;Ljava/lang/String;)Z"), (0, .methodref 22 32), (0, .nameAndType 33 34), (0, u "charAt"), (0, u "(I)C"), (0, .methodref 16 36), (0, .nameAndType 37 38), (0, u "dig"), (0, u "(Ljava/lang/String;IIJIJ)Z"), (0, .long 10), (1, .long 100), (1, .long 1000), (1, .long 10000), (1, .long 100000), (1, .long 1000000), (1, .long 10000000), (1, .long 100000000), (1, .long 1000000000), (1, .methodref 16 58), (0, .nameAndType 59 60), (0, u "e"), (0, u "(Ljava/lang/String;Ljava/lang/String;I)Z"), (2, u "law"), (0, u "(I)Z")] 3

def k1m0 : Method := { name := "<init>", desc := "()V", sig := { parameters := [], returnType := none }, accessFlags := 2, code := none }
def k1c1 : Code := { maxStack := 8, maxLocals := 10, code := code, exceptionTable := #[], attributes := #[] }
def k1m1 : Method := { name := "law", desc := "(I)Z", sig := { parameters := [.int], returnType := some .boolean }, accessFlags := 9, code := some k1c1 }
def k1c2 : Code := { maxStack := 4, maxLocals := 2, code := method_3_code, exceptionTable := #[], attributes := #[] }
def k1m2 : Method := { name := "digits", desc := "(J)I", sig := { parameters := [.long], returnType := some .int }, accessFlags := 10, code := some k1c2 }
def k1c3 : Code := { maxStack := 4, maxLocals := 10, code := method_4_code, exceptionTable := #[], attributes := #[] }
def k1m3 : Method := { name := "dig", desc := "(Ljava/lang/String;IIJIJ)Z", sig := { parameters := [(.object "java/lang/String"), .int, .int, .long, .int, .long], returnType := some .boolean }, accessFlags := 10, code := some k1c3 }
def k1c4 : Code := { maxStack := 3, maxLocals := 3, code := method_5_code, exceptionTable := #[], attributes := #[] }
def k1m4 : Method := { name := "e", desc := "(Ljava/lang/String;Ljava/lang/String;I)Z", sig := { parameters := [(.object "java/lang/String"), (.object "java/lang/String"), .int], returnType := some .boolean }, accessFlags := 10, code := some k1c4 }
def k1c5 : Code := { maxStack := 3, maxLocals := 2, code := method_6_code, exceptionTable := #[], attributes := #[] }
def k1m5 : Method := { name := "prefix", desc := "(Ljava/lang/String;Ljava/lang/String;)Z", sig := { parameters := [(.object "java/lang/String"), (.object "java/lang/String")], returnType := some .boolean }, accessFlags := 10, code := some k1c5 }
/-- com/example/tidy_injector/tidyinjector/bench/StartupGraphClassNamePinLaw -/
def k1 : Class := { plain "com/example/tidy_injector/tidyinjector/bench/StartupGraphClassNamePinLaw" (some 0) with
  accessFlags := 49
  interfaces := #[]
  cf := some (fileOf pool1 16 #[] #[{ accessFlags := 2, nameIndex := 5, descriptorIndex := 6, attributes := #[] }, { accessFlags := 9, nameIndex := 63, descriptorIndex := 64, attributes := #[] }, { accessFlags := 10, nameIndex := 19, descriptorIndex := 20, attributes := #[] }, { accessFlags := 10, nameIndex := 37, descriptorIndex := 38, attributes := #[] }, { accessFlags := 10, nameIndex := 59, descriptorIndex := 60, attributes := #[] }, { accessFlags := 10, nameIndex := 29, descriptorIndex := 30, attributes := #[] }] 49 2 #[] #[])
  fields := #[]
  methods := #[k1m0, k1m1, k1m2, k1m3, k1m4, k1m5]
  instanceTypes := #[]
  staticTypes := #[]
  resolved := Array.replicate 68 none
  statics := none }

def pool2 : Array CpInfo := pool [(2, .class_ 4), (0, .nameAndType 5 6), (0, u "java/lang/Object"), (0, u "<init>"), (0, u "()V"), (0, .class_ 8), (0, u "java/lang/StringBuilder"), (0, .methodref 7 3), (0, .string 11), (0, u "C"), (0, .methodref 7 13), (0, .nameAndType 14 15), (0, u "append"), (0, u "(Ljava/lang/String;)Ljava/lang/StringBuilder;"), (0, .methodref 7 17), (0, .nameAndType 14 18), (0, u "(I)Ljava/lang/StringBuilder;"), (0, .methodref 7 20), (0, .nameAndType 21 22), (0, u "toString"), (0, u "()Ljava/lang/String;"), (0, .fieldref 24 25), (0, .class_ 26), (0, .nameAndType 27 28), (0, u "com/example/tidy_injector/tidyinjector/bench/StartupGraph"), (0, u "PACKAGE"), (0, u "Ljava/lang/String;"), (0, .string 30), (0, u "."), (0, .methodref 24 32), (0, .nameAndType 33 34), (0, u "simpleName"), (0, u "(I)Ljava/lang/String;"), (101, u "className"), (28, u "SIZE"), (0, u "I")] 39

def k2m0 : Method := { name := "<init>", desc := "()V", sig := { parameters := [], returnType := none }, accessFlags := 2, code := none }
def k2c1 : Code := { maxStack := 2, maxLocals := 1, code := prog_40_method_2_code, exceptionTable := #[], attributes := #[] }
def k2m1 : Method := { name := "simpleName", desc := "(I)Ljava/lang/String;", sig := { parameters := [.int], returnType := some (.object "java/lang/String") }, accessFlags := 8, code := some k2c1 }
def k2c2 : Code := { maxStack := 2, maxLocals := 1, code := prog_40_method_3_code, exceptionTable := #[], attributes := #[] }
def k2m2 : Method := { name := "className", desc := "(I)Ljava/lang/String;", sig := { parameters := [.int], returnType := some (.object "java/lang/String") }, accessFlags := 8, code := some k2c2 }
/-- com/example/tidy_injector/tidyinjector/bench/StartupGraph -/
def k2 : Class := { plain "com/example/tidy_injector/tidyinjector/bench/StartupGraph" (some 0) with
  accessFlags := 49
  interfaces := #[]
  cf := some (fileOf pool2 24 #[] #[{ accessFlags := 2, nameIndex := 5, descriptorIndex := 6, attributes := #[] }, { accessFlags := 8, nameIndex := 33, descriptorIndex := 34, attributes := #[] }, { accessFlags := 8, nameIndex := 136, descriptorIndex := 34, attributes := #[] }] 49 2 #[] #[{ accessFlags := 24, nameIndex := 165, descriptorIndex := 166, attributes := #[] }, { accessFlags := 24, nameIndex := 27, descriptorIndex := 28, attributes := #[] }])
  fields := #[{ name := "SIZE", type := .int, accessFlags := 24, slot := 0, constantValue := 0 }, { name := "PACKAGE", type := (.object "java/lang/String"), accessFlags := 24, slot := 1, constantValue := 0 }]
  methods := #[k2m0, k2m1, k2m2]
  instanceTypes := #[]
  staticTypes := #[.int, (.object "java/lang/String")]
  resolved := Array.replicate 206 none
  statics := some 0 }

def pool3 : Array CpInfo := pool [(1, .class_ 2), (0, u "java/lang/Appendable"), (0, .class_ 4), (0, u "java/lang/Object")] 9

/-- java/lang/Appendable -/
def k3 : Class := { plain "java/lang/Appendable" (some 0) with
  accessFlags := 1537
  interfaces := #[]
  cf := some (fileOf pool3 1 #[] #[] 1537 3 #[] #[])
  fields := #[]
  methods := #[]
  instanceTypes := #[]
  staticTypes := #[]
  resolved := Array.replicate 14 none
  statics := none }

def pool4 : Array CpInfo := pool [(2, .class_ 4), (1, u "java/lang/CharSequence"), (42, .class_ 48), (0, u "java/lang/CharSequence$1CodePointIterator"), (10, .class_ 60), (0, u "java/lang/CharSequence$1CharIterator"), (5, .class_ 67), (0, u "java/lang/Object")] 63

/-- java/lang/CharSequence -/
def k4 : Class := { plain "java/lang/CharSequence" (some 0) with
  accessFlags := 1537
  interfaces := #[]
  cf := some (fileOf pool4 2 #[.nestMembers #[47, 59]] #[] 1537 66 #[] #[])
  fields := #[]
  methods := #[]
  instanceTypes := #[]
  staticTypes := #[]
  resolved := Array.replicate 131 none
  statics := none }

def pool5 : Array CpInfo := pool [(1, .class_ 2), (0, u "java/lang/String"), (0, .methodref 4 5), (0, .class_ 6), (0, .nameAndType 7 8), (0, u "java/lang/Object"), (0, u "<init>"), (0, u "()V"), (1, .class_ 12), (1, u "java/lang/AbstractStringBuilder"), (0, u "EMPTYVALUE"), (0, u "[B"), (0, .fieldref 10 16), (0, .nameAndType 17 14), (0, u "value"), (0, .fieldref 1 19), (0, .nameAndType 20 21), (0, u "COMPACT_STRINGS"), (0, u "Z"), (0, .fieldref 10 23), (0, .nameAndType 24 25), (0, u "coder"), (0, u "B"), (6, .methodref 1 33), (0, .nameAndType 34 35), (0, u "length"), (0, u "()I"), (0, .class_ 37), (0, u "java/lang/Integer"), (1, .integer 2147483647), (0, .methodref 1 41), (0, .nameAndType 24 42), (0, u "()B"), (2, u "append"), (0, u "(Ljava/lang/String;)Ljava/lang/AbstractStringBuilder;"), (1, .class_ 49), (0, u "java/lang/CharSequence"), (19, u "(Ljava/lang/String;)V"), (5, u "maybeLatin1"), (3, .fieldref 10 80), (0, .nameAndType 81 82), (0, u "count"), (0, u "I"), (0, .methodref 10 84), (0, .nameAndType 85 86), (0, u "isLatin1"), (0, u "()Z"), (13, .methodref 10 101), (0, .nameAndType 102 103), (0, u "ensureCapacityInternal"), (0, u "(I)V"), (0, .methodref 10 105), (0, .nameAndType 106 107), (0, u "newCapacity"), (0, u "(I)I"), (0, .methodref 109 110), (0, .class_ 111), (0, .nameAndType 112 113), (0, u "java/util/Arrays"), (0, u "copyOf"), (0, u "([BI)[B"), (0, .methodref 115 116), (0, .class_ 117), (0, .nameAndType 118 119), (0, u "jdk/internal/util/ArraysSupport"), (0, u "newLength"), (0, u "(III)I"), (68, u "getChars"), (19, .methodref 10 209), (0, .nameAndType 210 211), (0, u "putStringAt"), (0, u "(ILjava/lang/String;)V"), (5, u "inflateIfNeededFor"), (2, .nameAndType 221 222), (0, u "getBytes"), (0, u "([BIB)V"), (22, .methodref 36 246), (0, .nameAndType 247 107), (0, u "stringSize"), (0, .methodref 36 249), (0, .nameAndType 188 250), (0, u "(II[B)I"), (146, .methodref 10 398), (0, .nameAndType 217 69), (0, .methodref 1 220), (3, u "()[B"), (40, .class_ 445), (0, u "java/lang/Appendable"), (65, u "(I)Ljava/lang/AbstractStringBuilder;"), (40, u "getValue")] 56

def k5m0 : Method := { name := "<init>", desc := "()V", sig := { parameters := [], returnType := none }, accessFlags := 0, code := none }
def k5c1 : Code := { maxStack := 2, maxLocals := 2, code := jdk_68_method_2_code, exceptionTable := #[], attributes := #[] }
def k5m1 : Method := { name := "<init>", desc := "(I)V", sig := { parameters := [.int], returnType := none }, accessFlags := 0, code := some k5c1 }
def k5c2 : Code := { maxStack := 1, maxLocals := 1, code := jdk_68_method_6_code, exceptionTable := #[], attributes := #[] }
def k5m2 : Method := { name := "length", desc := "()I", sig := { parameters := [], returnType := some .int }, accessFlags := 1, code := some k5c2 }
def k5c3 : Code := { maxStack := 4, maxLocals := 3, code := jdk_68_method_9_code, exceptionTable := #[], attributes := #[] }
def k5m3 : Method := { name := "ensureCapacityInternal", desc := "(I)V", sig := { parameters := [.int], returnType := none }, accessFlags := 2, code := some k5c3 }
def k5c4 : Code := { maxStack := 5, maxLocals := 6, code := jdk_68_method_10_code, exceptionTable := #[], attributes := #[] }
def k5m4 : Method := { name := "newCapacity", desc := "(I)I", sig := { parameters := [.int], returnType := some .int }, accessFlags := 2, code := some k5c4 }
def k5c5 : Code := { maxStack := 3, maxLocals := 3, code := jdk_68_method_22_code, exceptionTable := #[], attributes := #[] }
def k5m5 : Method := { name := "append", desc := "(Ljava/lang/String;)Ljava/lang/AbstractStringBuilder;", sig := { parameters := [(.object "java/lang/String")], returnType := some (.object "java/lang/AbstractStringBuilder") }, accessFlags := 1, code := some k5c5 }
def k5c6 : Code := { maxStack := 4, maxLocals := 4, code := jdk_68_method_32_code, exceptionTable := #[], attributes := #[] }
def k5m6 : Method := { name := "append", desc := "(I)Ljava/lang/AbstractStringBuilder;", sig := { parameters := [.int], returnType := some (.object "java/lang/AbstractStringBuilder") }, accessFlags := 1, code := some k5c6 }
def k5c7 : Code := { maxStack := 1, maxLocals := 1, code := jdk_68_method_64_code, exceptionTable := #[], attributes := #[] }
def k5m7 : Method := { name := "getValue", desc := "()[B", sig := { parameters := [], returnType := some (.array .byte) }, accessFlags := 16, code := some k5c7 }
def k5c8 : Code := { maxStack := 1, maxLocals := 1, code := jdk_68_method_68_code, exceptionTable := #[], attributes := #[] }
def k5m8 : Method := { name := "isLatin1", desc := "()Z", sig := { parameters := [], returnType := some .boolean }, accessFlags := 16, code := some k5c8 }
def k5c9 : Code := { maxStack := 2, maxLocals := 2, code := jdk_68_method_71_code, exceptionTable := #[], attributes := #[] }
def k5m9 : Method := { name := "inflateIfNeededFor", desc := "(Ljava/lang/String;)V", sig := { parameters := [(.object "java/lang/String")], returnType := none }, accessFlags := 2, code := some k5c9 }
def k5c10 : Code := { maxStack := 4, maxLocals := 3, code := jdk_68_method_73_code, exceptionTable := #[], attributes := #[] }
def k5m10 : Method := { name := "putStringAt", desc := "(ILjava/lang/String;)V", sig := { parameters := [.int, (.object "java/lang/String")], returnType := none }, accessFlags := 2, code := some k5c10 }
/-- java/lang/AbstractStringBuilder -/
def k5 : Class := { plain "java/lang/AbstractStringBuilder" (some 0) with
  accessFlags := 1056
  interfaces := #[3, 4]
  cf := some (fileOf pool5 10 #[] #[{ accessFlags := 0, nameIndex := 7, descriptorIndex := 8, attributes := #[] }, { accessFlags := 0, nameIndex := 7, descriptorIndex := 103, attributes := #[] }, { accessFlags := 1, nameIndex := 34, descriptorIndex := 35, attributes := #[] }, { accessFlags := 2, nameIndex := 102, descriptorIndex := 103, attributes := #[] }, { accessFlags := 2, nameIndex := 106, descriptorIndex := 107, attributes := #[] }, { accessFlags := 1, nameIndex := 45, descriptorIndex := 46, attributes := #[] }, { accessFlags := 1, nameIndex := 45, descriptorIndex := 511, attributes := #[] }, { accessFlags := 16, nameIndex := 552, descriptorIndex := 403, attributes := #[] }, { accessFlags := 16, nameIndex := 85, descriptorIndex := 86, attributes := #[] }, { accessFlags := 2, nameIndex := 217, descriptorIndex := 69, attributes := #[] }, { accessFlags := 2, nameIndex := 210, descriptorIndex := 211, attributes := #[] }] 1056 4 #[444, 48] #[{ accessFlags := 0, nameIndex := 17, descriptorIndex := 14, attributes := #[] }, { accessFlags := 0, nameIndex := 24, descriptorIndex := 25, attributes := #[] }, { accessFlags := 0, nameIndex := 75, descriptorIndex := 21, attributes := #[] }, { accessFlags := 0, nameIndex := 81, descriptorIndex := 82, attributes := #[] }, { accessFlags := 26, nameIndex := 13, descriptorIndex := 14, attributes := #[] }])
  fields := #[{ name := "value", type := (.array .byte), accessFlags := 0, slot := 0, constantValue := 0 }, { name := "coder", type := .byte, accessFlags := 0, slot := 1, constantValue := 0 }, { name := "maybeLatin1", type := .boolean, accessFlags := 0, slot := 2, constantValue := 0 }, { name := "count", type := .int, accessFlags := 0, slot := 3, constantValue := 0 }, { name := "EMPTYVALUE", type := (.array .byte), accessFlags := 26, slot := 0, constantValue := 0 }]
  methods := #[k5m0, k5m1, k5m2, k5m3, k5m4, k5m5, k5m6, k5m7, k5m8, k5m9, k5m10]
  instanceTypes := #[(.array .byte), .byte, .boolean, .int]
  staticTypes := #[(.array .byte)]
  resolved := Array.replicate 609 none
  statics := none }

def pool6 : Array CpInfo := pool [(1, .class_ 2), (0, u "java/io/Serializable"), (0, .class_ 4), (0, u "java/lang/Object")] 2

/-- java/io/Serializable -/
def k6 : Class := { plain "java/io/Serializable" (some 0) with
  accessFlags := 1537
  interfaces := #[]
  cf := some (fileOf pool6 1 #[] #[] 1537 3 #[] #[])
  fields := #[]
  methods := #[]
  instanceTypes := #[]
  staticTypes := #[]
  resolved := Array.replicate 7 none
  statics := none }

def pool7 : Array CpInfo := pool [(1, .class_ 2), (0, u "java/lang/Comparable"), (0, .class_ 4), (0, u "java/lang/Object")] 7

/-- java/lang/Comparable -/
def k7 : Class := { plain "java/lang/Comparable" (some 0) with
  accessFlags := 1537
  interfaces := #[]
  cf := some (fileOf pool7 1 #[] #[] 1537 3 #[] #[])
  fields := #[]
  methods := #[]
  instanceTypes := #[]
  staticTypes := #[]
  resolved := Array.replicate 12 none
  statics := none }

def pool8 : Array CpInfo := pool [(1, .methodref 2 3), (0, .class_ 4), (0, .nameAndType 5 6), (0, u "java/lang/AbstractStringBuilder"), (0, u "<init>"), (0, u "(I)V"), (11, .class_ 20), (1, u "java/lang/String"), (3, .class_ 26), (1, u "java/lang/StringBuilder"), (0, u "append"), (0, u "(Ljava/lang/String;)Ljava/lang/StringBuilder;"), (0, .methodref 2 30), (0, .nameAndType 27 31), (0, u "(Ljava/lang/String;)Ljava/lang/AbstractStringBuilder;"), (21, .methodref 2 54), (0, .nameAndType 27 55), (0, u "(I)Ljava/lang/AbstractStringBuilder;"), (81, .methodref 18 138), (0, .nameAndType 5 139), (0, u "(Ljava/lang/StringBuilder;)V"), (5, u "()V"), (10, u "()I"), (111, u "(I)Ljava/lang/StringBuilder;"), (74, .methodref 2 344), (0, .nameAndType 345 156), (0, u "length"), (3, .class_ 350), (0, u "java/lang/Appendable"), (0, .class_ 352), (0, u "java/io/Serializable"), (0, .class_ 354), (0, u "java/lang/Comparable"), (0, .class_ 356), (0, u "java/lang/CharSequence"), (0, u "serialVersionUID"), (0, u "J"), (40, u "toString"), (0, u "()Ljava/lang/String;")] 21

def k8c0 : Code := { maxStack := 2, maxLocals := 1, code := jdk_67_method_1_code, exceptionTable := #[], attributes := #[] }
def k8m0 : Method := { name := "<init>", desc := "()V", sig := { parameters := [], returnType := none }, accessFlags := 1, code := some k8c0 }
def k8c1 : Code := { maxStack := 2, maxLocals := 2, code := jdk_67_method_7_code, exceptionTable := #[], attributes := #[] }
def k8m1 : Method := { name := "append", desc := "(Ljava/lang/String;)Ljava/lang/StringBuilder;", sig := { parameters := [(.object "java/lang/String")], returnType := some (.object "java/lang/StringBuilder") }, accessFlags := 1, code := some k8c1 }
def k8c2 : Code := { maxStack := 2, maxLocals := 2, code := jdk_67_method_15_code, exceptionTable := #[], attributes := #[] }
def k8m2 : Method := { name := "append", desc := "(I)Ljava/lang/StringBuilder;", sig := { parameters := [.int], returnType := some (.object "java/lang/StringBuilder") }, accessFlags := 1, code := some k8c2 }
def k8c3 : Code := { maxStack := 3, maxLocals := 1, code := jdk_67_method_42_code, exceptionTable := #[], attributes := #[] }
def k8m3 : Method := { name := "toString", desc := "()Ljava/lang/String;", sig := { parameters := [], returnType := some (.object "java/lang/String") }, accessFlags := 1, code := some k8c3 }
def k8c4 : Code := { maxStack := 1, maxLocals := 1, code := jdk_67_method_93_code, exceptionTable := #[], attributes := #[] }
def k8m4 : Method := { name := "length", desc := "()I", sig := { parameters := [], returnType := some .int }, accessFlags := 4161, code := some k8c4 }
/-- java/lang/StringBuilder -/
def k8 : Class := { plain "java/lang/StringBuilder" (some 5) with
  accessFlags := 49
  interfaces := #[3, 6, 7, 4]
  cf := some (fileOf pool8 24 #[] #[{ accessFlags := 1, nameIndex := 5, descriptorIndex := 145, attributes := #[] }, { accessFlags := 1, nameIndex := 27, descriptorIndex := 28, attributes := #[] }, { accessFlags := 1, nameIndex := 27, descriptorIndex := 268, attributes := #[] }, { accessFlags := 1, nameIndex := 399, descriptorIndex := 400, attributes := #[] }, { accessFlags := 4161, nameIndex := 345, descriptorIndex := 156, attributes := #[] }] 49 2 #[349, 351, 353, 355] #[{ accessFlags := 24, nameIndex := 357, descriptorIndex := 358, attributes := #[] }])
  fields := #[{ name := "serialVersionUID", type := .long, accessFlags := 24, slot := 0, constantValue := 0 }]
  methods := #[k8m0, k8m1, k8m2, k8m3, k8m4]
  instanceTypes := #[(.array .byte), .byte, .boolean, .int]
  staticTypes := #[.long]
  resolved := Array.replicate 422 none
  statics := none }

def pool9 : Array CpInfo := pool [(1, .class_ 2), (0, u "java/lang/constant/Constable"), (0, .class_ 4), (0, u "java/lang/Object")] 6

/-- java/lang/constant/Constable -/
def k9 : Class := { plain "java/lang/constant/Constable" (some 0) with
  accessFlags := 1537
  interfaces := #[]
  cf := some (fileOf pool9 1 #[] #[] 1537 3 #[] #[])
  fields := #[]
  methods := #[]
  instanceTypes := #[]
  staticTypes := #[]
  resolved := Array.replicate 11 none
  statics := none }

def pool10 : Array CpInfo := pool [(1, .class_ 2), (0, u "java/lang/constant/ConstantDesc"), (0, .class_ 4), (0, u "java/lang/Object")] 32

/-- java/lang/constant/ConstantDesc -/
def k10 : Class := { plain "java/lang/constant/ConstantDesc" (some 0) with
  accessFlags := 1537
  interfaces := #[]
  cf := some (fileOf pool10 1 #[] #[] 1537 3 #[] #[])
  fields := #[]
  methods := #[]
  instanceTypes := #[]
  staticTypes := #[]
  resolved := Array.replicate 37 none
  statics := none }

def pool11 : Array CpInfo := pool [(1, .methodref 2 3), (0, .class_ 4), (0, .nameAndType 5 6), (0, u "java/lang/Object"), (0, u "<init>"), (0, u "()V"), (2, .fieldref 10 11), (0, .class_ 12), (0, .nameAndType 13 14), (0, u "java/lang/String"), (0, u "value"), (0, u "[B"), (0, .fieldref 10 16), (0, .nameAndType 17 18), (0, u "coder"), (0, u "B"), (2, u "hash"), (0, u "I"), (2, u "hashIsZero"), (0, u "Z"), (11, .fieldref 10 39), (0, .nameAndType 40 26), (0, u "COMPACT_STRINGS"), (13, .methodref 55 56), (0, .class_ 57), (0, .nameAndType 58 59), (0, u "java/util/Arrays"), (0, u "copyOfRange"), (0, u "([BII)[B"), (47, .class_ 109), (1, u "java/lang/StringLatin1"), (32, u "()Z"), (50, .class_ 195), (1, u "java/lang/System"), (16, .methodref 193 213), (0, .nameAndType 214 215), (0, u "arraycopy"), (0, u "(Ljava/lang/Object;ILjava/lang/Object;II)V"), (118, u "()I"), (0, .methodref 10 336), (0, .nameAndType 17 337), (0, u "()B"), (2, u "()[B"), (22, u "([BI)C"), (27, u "(II)V"), (35, u "(I)C"), (61, .methodref 10 490), (0, .nameAndType 5 491), (0, u "(Ljava/lang/AbstractStringBuilder;Ljava/lang/Void;)V"), (0, .methodref 10 493), (0, .nameAndType 494 142), (0, u "isLatin1"), (0, .methodref 107 496), (0, .nameAndType 497 363), (0, u "charAt"), (3, u "checkIndex"), (4, .nameAndType 507 334), (0, u "length"), (24, u "getBytes"), (16, .methodref 550 506), (0, .class_ 551), (0, u "java/lang/AbstractStringBuilder"), (0, .methodref 550 553), (0, .nameAndType 554 340), (0, u "getValue"), (20, .class_ 576), (0, u "java/lang/CharSequence"), (22, u "CASE_INSENSITIVE_ORDER"), (0, u "Ljava/util/Comparator;"), (220, u "([BIB)V"), (225, .methodref 550 493), (5, .fieldref 1054 1055), (0, .class_ 1056), (0, .nameAndType 1057 1058), (0, u "jdk/internal/util/Preconditions"), (0, u "SIOOBE_FORMATTER"), (0, u "Ljava/util/function/BiFunction;"), (0, .methodref 1054 1060), (0, .nameAndType 501 1061), (0, u "(IILjava/util/function/BiFunction;)I"), (39, u "serialPersistentFields"), (0, u "[Ljava/io/ObjectStreamField;"), (0, .class_ 1104), (0, u "java/lang/String$CaseInsensitiveComparator"), (1, .class_ 1107), (0, u "java/io/Serializable"), (0, .class_ 1109), (0, u "java/lang/Comparable"), (0, .class_ 1111), (0, u "java/lang/constant/Constable"), (0, .class_ 1113), (0, u "java/lang/constant/ConstantDesc"), (2, u "serialVersionUID"), (0, u "J"), (3, u "REPL"), (0, u "C"), (2, u "LATIN1"), (1, u "UTF16"), (105, u "(Ljava/lang/StringBuilder;)V")] 217

def k11m0 : Method := { name := "<init>", desc := "()V", sig := { parameters := [], returnType := none }, accessFlags := 1, code := none }
def k11c1 : Code := { maxStack := 3, maxLocals := 2, code := jdk_42_method_53_code, exceptionTable := #[], attributes := #[] }
def k11m1 : Method := { name := "<init>", desc := "(Ljava/lang/StringBuilder;)V", sig := { parameters := [(.object "java/lang/StringBuilder")], returnType := none }, accessFlags := 1, code := some k11c1 }
def k11c2 : Code := { maxStack := 2, maxLocals := 1, code := jdk_42_method_54_code, exceptionTable := #[], attributes := #[] }
def k11m2 : Method := { name := "length", desc := "()I", sig := { parameters := [], returnType := some .int }, accessFlags := 1, code := some k11c2 }
def k11c3 : Code := { maxStack := 2, maxLocals := 2, code := jdk_42_method_56_code, exceptionTable := #[], attributes := #[] }
def k11m3 : Method := { name := "charAt", desc := "(I)C", sig := { parameters := [.int], returnType := some .char }, accessFlags := 1, code := some k11c3 }
def k11c4 : Code := { maxStack := 5, maxLocals := 4, code := jdk_42_method_147_code, exceptionTable := #[], attributes := #[] }
def k11m4 : Method := { name := "getBytes", desc := "([BIB)V", sig := { parameters := [(.array .byte), .int, .byte], returnType := none }, accessFlags := 0, code := some k11c4 }
def k11c5 : Code := { maxStack := 5, maxLocals := 5, code := jdk_42_method_150_code, exceptionTable := #[], attributes := #[] }
def k11m5 : Method := { name := "<init>", desc := "(Ljava/lang/AbstractStringBuilder;Ljava/lang/Void;)V", sig := { parameters := [(.object "java/lang/AbstractStringBuilder"), (.object "java/lang/Void")], returnType := none }, accessFlags := 0, code := some k11c5 }
def k11c6 : Code := { maxStack := 1, maxLocals := 1, code := jdk_42_method_152_code, exceptionTable := #[], attributes := #[] }
def k11m6 : Method := { name := "coder", desc := "()B", sig := { parameters := [], returnType := some .byte }, accessFlags := 0, code := some k11c6 }
def k11c7 : Code := { maxStack := 1, maxLocals := 1, code := jdk_42_method_154_code, exceptionTable := #[], attributes := #[] }
def k11m7 : Method := { name := "isLatin1", desc := "()Z", sig := { parameters := [], returnType := some .boolean }, accessFlags := 0, code := some k11c7 }
def k11c8 : Code := { maxStack := 3, maxLocals := 2, code := jdk_42_method_155_code, exceptionTable := #[], attributes := #[] }
def k11m8 : Method := { name := "checkIndex", desc := "(II)V", sig := { parameters := [.int, .int], returnType := none }, accessFlags := 8, code := some k11c8 }
/-- java/lang/String -/
def k11 : Class := { plain "java/lang/String" (some 0) with
  accessFlags := 49
  interfaces := #[6, 7, 4, 9, 10]
  cf := some (fileOf pool11 10 #[.nestMembers #[1103]] #[{ accessFlags := 1, nameIndex := 5, descriptorIndex := 6, attributes := #[] }, { accessFlags := 1, nameIndex := 5, descriptorIndex := 1233, attributes := #[] }, { accessFlags := 1, nameIndex := 507, descriptorIndex := 334, attributes := #[] }, { accessFlags := 1, nameIndex := 497, descriptorIndex := 427, attributes := #[] }, { accessFlags := 0, nameIndex := 532, descriptorIndex := 821, attributes := #[] }, { accessFlags := 0, nameIndex := 5, descriptorIndex := 491, attributes := #[] }, { accessFlags := 0, nameIndex := 17, descriptorIndex := 337, attributes := #[] }, { accessFlags := 0, nameIndex := 494, descriptorIndex := 142, attributes := #[] }, { accessFlags := 8, nameIndex := 501, descriptorIndex := 391, attributes := #[] }] 49 2 #[1106, 1108, 575, 1110, 1112] #[{ accessFlags := 18, nameIndex := 13, descriptorIndex := 14, attributes := #[] }, { accessFlags := 18, nameIndex := 17, descriptorIndex := 18, attributes := #[] }, { accessFlags := 2, nameIndex := 21, descriptorIndex := 22, attributes := #[] }, { accessFlags := 2, nameIndex := 25, descriptorIndex := 26, attributes := #[] }, { accessFlags := 26, nameIndex := 1116, descriptorIndex := 1117, attributes := #[] }, { accessFlags := 24, nameIndex := 40, descriptorIndex := 26, attributes := #[] }, { accessFlags := 26, nameIndex := 1101, descriptorIndex := 1102, attributes := #[] }, { accessFlags := 26, nameIndex := 1121, descriptorIndex := 1122, attributes := #[] }, { accessFlags := 25, nameIndex := 599, descriptorIndex := 600, attributes := #[] }, { accessFlags := 24, nameIndex := 1125, descriptorIndex := 18, attributes := #[] }, { accessFlags := 24, nameIndex := 1127, descriptorIndex := 18, attributes := #[] }])
  fields := #[{ name := "value", type := (.array .byte), accessFlags := 18, slot := 0, constantValue := 0 }, { name := "coder", type := .byte, accessFlags := 18, slot := 1, constantValue := 0 }, { name := "hash", type := .int, accessFlags := 2, slot := 2, constantValue := 0 }, { name := "hashIsZero", type := .boolean, accessFlags := 2, slot := 3, constantValue := 0 }, { name := "serialVersionUID", type := .long, accessFlags := 26, slot := 0, constantValue := 0 }, { name := "COMPACT_STRINGS", type := .boolean, accessFlags := 24, slot := 1, constantValue := 0 }, { name := "serialPersistentFields", type := (.array (.object "java/io/ObjectStreamField")), accessFlags := 26, slot := 2, constantValue := 0 }, { name := "REPL", type := .char, accessFlags := 26, slot := 3, constantValue := 0 }, { name := "CASE_INSENSITIVE_ORDER", type := (.object "java/util/Comparator"), accessFlags := 25, slot := 4, constantValue := 0 }, { name := "LATIN1", type := .byte, accessFlags := 24, slot := 5, constantValue := 0 }, { name := "UTF16", type := .byte, accessFlags := 24, slot := 6, constantValue := 0 }]
  methods := #[k11m0, k11m1, k11m2, k11m3, k11m4, k11m5, k11m6, k11m7, k11m8]
  instanceTypes := #[(.array .byte), .byte, .int, .boolean]
  staticTypes := #[.long, .boolean, (.array (.object "java/io/ObjectStreamField")), .char, (.object "java/util/Comparator"), .byte, .byte]
  resolved := Array.replicate 1451 none
  statics := some 1 }

def pool12 : Array CpInfo := pool [(9, u "<init>"), (6, .class_ 18), (1, u "java/lang/Object"), (0, u "()V"), (1, .class_ 23), (1, u "jdk/internal/util/ArraysSupport"), (0, u "LOG2_ARRAY_LONG_INDEX_SCALE"), (0, u "I"), (2, u "U"), (0, u "Ljdk/internal/misc/Unsafe;"), (8, u "BIG_ENDIAN"), (0, u "Z"), (8, u "LOG2_BYTE_BIT_SIZE"), (4, u "LOG2_ARRAY_INT_INDEX_SCALE"), (54, u "JLA"), (0, u "Ljdk/internal/access/JavaLangAccess;"), (11, u "LOG2_ARRAY_BOOLEAN_INDEX_SCALE"), (9, u "LOG2_ARRAY_BYTE_INDEX_SCALE"), (5, u "LOG2_ARRAY_CHAR_INDEX_SCALE"), (5, u "LOG2_ARRAY_SHORT_INDEX_SCALE"), (18, u "LOG2_ARRAY_FLOAT_INDEX_SCALE"), (24, u "LOG2_ARRAY_DOUBLE_INDEX_SCALE"), (6, .methodref 195 196), (0, .class_ 197), (0, .nameAndType 198 199), (0, u "java/lang/Math"), (0, u "max"), (0, u "(II)I"), (0, .integer 2147483639), (76, u "T_BOOLEAN"), (2, u "T_CHAR"), (1, u "T_FLOAT"), (1, u "T_DOUBLE"), (1, u "T_BYTE"), (1, u "T_SHORT"), (1, u "T_INT"), (1, u "T_LONG"), (1, u "SOFT_MAX_ARRAY_LENGTH"), (56, u "newLength"), (0, u "(III)I")] 25

def k12m0 : Method := { name := "<init>", desc := "()V", sig := { parameters := [], returnType := none }, accessFlags := 2, code := none }
def k12c1 : Code := { maxStack := 3, maxLocals := 4, code := jdk_48_method_27_code, exceptionTable := #[], attributes := #[] }
def k12m1 : Method := { name := "newLength", desc := "(III)I", sig := { parameters := [.int, .int, .int], returnType := some .int }, accessFlags := 9, code := some k12c1 }
/-- jdk/internal/util/ArraysSupport -/
def k12 : Class := { plain "jdk/internal/util/ArraysSupport" (some 0) with
  accessFlags := 33
  interfaces := #[]
  cf := some (fileOf pool12 21 #[] #[{ accessFlags := 2, nameIndex := 9, descriptorIndex := 19, attributes := #[] }, { accessFlags := 9, nameIndex := 351, descriptorIndex := 352, attributes := #[] }] 33 16 #[] #[{ accessFlags := 24, nameIndex := 28, descriptorIndex := 29, attributes := #[] }, { accessFlags := 26, nameIndex := 38, descriptorIndex := 39, attributes := #[] }, { accessFlags := 25, nameIndex := 121, descriptorIndex := 25, attributes := #[] }, { accessFlags := 25, nameIndex := 131, descriptorIndex := 25, attributes := #[] }, { accessFlags := 25, nameIndex := 137, descriptorIndex := 25, attributes := #[] }, { accessFlags := 25, nameIndex := 143, descriptorIndex := 25, attributes := #[] }, { accessFlags := 25, nameIndex := 53, descriptorIndex := 25, attributes := #[] }, { accessFlags := 25, nameIndex := 24, descriptorIndex := 25, attributes := #[] }, { accessFlags := 25, nameIndex := 162, descriptorIndex := 25, attributes := #[] }, { accessFlags := 25, nameIndex := 187, descriptorIndex := 25, attributes := #[] }, { accessFlags := 26, nameIndex := 48, descriptorIndex := 25, attributes := #[] }, { accessFlags := 25, nameIndex := 277, descriptorIndex := 25, attributes := #[] }, { accessFlags := 25, nameIndex := 280, descriptorIndex := 25, attributes := #[] }, { accessFlags := 25, nameIndex := 282, descriptorIndex := 25, attributes := #[] }, { accessFlags := 25, nameIndex := 284, descriptorIndex := 25, attributes := #[] }, { accessFlags := 25, nameIndex := 286, descriptorIndex := 25, attributes := #[] }, { accessFlags := 25, nameIndex := 288, descriptorIndex := 25, attributes := #[] }, { accessFlags := 25, nameIndex := 290, descriptorIndex := 25, attributes := #[] }, { accessFlags := 25, nameIndex := 292, descriptorIndex := 25, attributes := #[] }, { accessFlags := 26, nameIndex := 108, descriptorIndex := 109, attributes := #[] }, { accessFlags := 25, nameIndex := 294, descriptorIndex := 25, attributes := #[] }])
  fields := #[{ name := "U", type := (.object "jdk/internal/misc/Unsafe"), accessFlags := 24, slot := 0, constantValue := 0 }, { name := "BIG_ENDIAN", type := .boolean, accessFlags := 26, slot := 1, constantValue := 0 }, { name := "LOG2_ARRAY_BOOLEAN_INDEX_SCALE", type := .int, accessFlags := 25, slot := 2, constantValue := 0 }, { name := "LOG2_ARRAY_BYTE_INDEX_SCALE", type := .int, accessFlags := 25, slot := 3, constantValue := 0 }, { name := "LOG2_ARRAY_CHAR_INDEX_SCALE", type := .int, accessFlags := 25, slot := 4, constantValue := 0 }, { name := "LOG2_ARRAY_SHORT_INDEX_SCALE", type := .int, accessFlags := 25, slot := 5, constantValue := 0 }, { name := "LOG2_ARRAY_INT_INDEX_SCALE", type := .int, accessFlags := 25, slot := 6, constantValue := 0 }, { name := "LOG2_ARRAY_LONG_INDEX_SCALE", type := .int, accessFlags := 25, slot := 7, constantValue := 0 }, { name := "LOG2_ARRAY_FLOAT_INDEX_SCALE", type := .int, accessFlags := 25, slot := 8, constantValue := 0 }, { name := "LOG2_ARRAY_DOUBLE_INDEX_SCALE", type := .int, accessFlags := 25, slot := 9, constantValue := 0 }, { name := "LOG2_BYTE_BIT_SIZE", type := .int, accessFlags := 26, slot := 10, constantValue := 0 }, { name := "T_BOOLEAN", type := .int, accessFlags := 25, slot := 11, constantValue := 0 }, { name := "T_CHAR", type := .int, accessFlags := 25, slot := 12, constantValue := 0 }, { name := "T_FLOAT", type := .int, accessFlags := 25, slot := 13, constantValue := 0 }, { name := "T_DOUBLE", type := .int, accessFlags := 25, slot := 14, constantValue := 0 }, { name := "T_BYTE", type := .int, accessFlags := 25, slot := 15, constantValue := 0 }, { name := "T_SHORT", type := .int, accessFlags := 25, slot := 16, constantValue := 0 }, { name := "T_INT", type := .int, accessFlags := 25, slot := 17, constantValue := 0 }, { name := "T_LONG", type := .int, accessFlags := 25, slot := 18, constantValue := 0 }, { name := "JLA", type := (.object "jdk/internal/access/JavaLangAccess"), accessFlags := 26, slot := 19, constantValue := 0 }, { name := "SOFT_MAX_ARRAY_LENGTH", type := .int, accessFlags := 25, slot := 20, constantValue := 0 }]
  methods := #[k12m0, k12m1]
  instanceTypes := #[]
  staticTypes := #[(.object "jdk/internal/misc/Unsafe"), .boolean, .int, .int, .int, .int, .int, .int, .int, .int, .int, .int, .int, .int, .int, .int, .int, .int, .int, (.object "jdk/internal/access/JavaLangAccess"), .int]
  resolved := Array.replicate 378 none
  statics := none }

def pool13 : Array CpInfo := pool [(1, .class_ 2), (0, u "java/lang/Math"), (1, .class_ 6), (1, u "java/lang/Object"), (0, u "<init>"), (0, u "()V"), (89, .class_ 100), (1, u "java/lang/Math$RandomNumberGeneratorHolder"), (71, u "negativeZeroFloatBits"), (0, u "J"), (2, u "negativeZeroDoubleBits"), (21, u "max"), (2, u "min"), (43, u "$assertionsDisabled"), (0, u "Z"), (88, u "(II)I"), (2, u "twoToTheDoubleScaleDown"), (0, u "D"), (4, u "twoToTheDoubleScaleUp"), (9, u "E"), (3, u "PI"), (2, u "TAU"), (2, u "DEGREES_TO_RADIANS"), (0, u "RADIANS_TO_DEGREES")] 94

def k13m0 : Method := { name := "<init>", desc := "()V", sig := { parameters := [], returnType := none }, accessFlags := 2, code := none }
def k13c1 : Code := { maxStack := 2, maxLocals := 2, code := jdk_29_method_65_code, exceptionTable := #[], attributes := #[] }
def k13m1 : Method := { name := "max", desc := "(II)I", sig := { parameters := [.int, .int], returnType := some .int }, accessFlags := 9, code := some k13c1 }
def k13c2 : Code := { maxStack := 2, maxLocals := 2, code := jdk_29_method_69_code, exceptionTable := #[], attributes := #[] }
def k13m2 : Method := { name := "min", desc := "(II)I", sig := { parameters := [.int, .int], returnType := some .int }, accessFlags := 9, code := some k13c2 }
/-- java/lang/Math -/
def k13 : Class := { plain "java/lang/Math" (some 0) with
  accessFlags := 49
  interfaces := #[]
  cf := some (fileOf pool13 1 #[.nestMembers #[98]] #[{ accessFlags := 2, nameIndex := 7, descriptorIndex := 8, attributes := #[] }, { accessFlags := 9, nameIndex := 198, descriptorIndex := 335, attributes := #[] }, { accessFlags := 9, nameIndex := 201, descriptorIndex := 335, attributes := #[] }] 49 4 #[] #[{ accessFlags := 25, nameIndex := 354, descriptorIndex := 339, attributes := #[] }, { accessFlags := 25, nameIndex := 358, descriptorIndex := 339, attributes := #[] }, { accessFlags := 25, nameIndex := 361, descriptorIndex := 339, attributes := #[] }, { accessFlags := 26, nameIndex := 364, descriptorIndex := 339, attributes := #[] }, { accessFlags := 26, nameIndex := 365, descriptorIndex := 339, attributes := #[] }, { accessFlags := 26, nameIndex := 172, descriptorIndex := 173, attributes := #[] }, { accessFlags := 26, nameIndex := 176, descriptorIndex := 173, attributes := #[] }, { accessFlags := 8, nameIndex := 344, descriptorIndex := 339, attributes := #[] }, { accessFlags := 8, nameIndex := 338, descriptorIndex := 339, attributes := #[] }, { accessFlags := 4120, nameIndex := 245, descriptorIndex := 246, attributes := #[] }])
  fields := #[{ name := "E", type := .double, accessFlags := 25, slot := 0, constantValue := 0 }, { name := "PI", type := .double, accessFlags := 25, slot := 1, constantValue := 0 }, { name := "TAU", type := .double, accessFlags := 25, slot := 2, constantValue := 0 }, { name := "DEGREES_TO_RADIANS", type := .double, accessFlags := 26, slot := 3, constantValue := 0 }, { name := "RADIANS_TO_DEGREES", type := .double, accessFlags := 26, slot := 4, constantValue := 0 }, { name := "negativeZeroFloatBits", type := .long, accessFlags := 26, slot := 5, constantValue := 0 }, { name := "negativeZeroDoubleBits", type := .long, accessFlags := 26, slot := 6, constantValue := 0 }, { name := "twoToTheDoubleScaleUp", type := .double, accessFlags := 8, slot := 7, constantValue := 0 }, { name := "twoToTheDoubleScaleDown", type := .double, accessFlags := 8, slot := 8, constantValue := 0 }, { name := "$assertionsDisabled", type := .boolean, accessFlags := 4120, slot := 9, constantValue := 0 }]
  methods := #[k13m0, k13m1, k13m2]
  instanceTypes := #[]
  staticTypes := #[.double, .double, .double, .double, .double, .long, .long, .double, .double, .boolean]
  resolved := Array.replicate 460 none
  statics := none }

def pool14 : Array CpInfo := pool [(2, .class_ 4), (1, u "java/lang/Object"), (0, u "<init>"), (0, u "()V"), (7, .class_ 16), (1, u "java/util/Arrays"), (57, .class_ 76), (1, u "java/util/Arrays$NaturalOrder"), (36, .class_ 115), (1, u "java/util/Arrays$LegacyMergeSort"), (1, u "Z"), (21, u "copyOfRange"), (10, .methodref 151 152), (0, .class_ 153), (0, .nameAndType 154 155), (0, u "java/lang/System"), (0, u "arraycopy"), (0, u "(Ljava/lang/Object;ILjava/lang/Object;II)V"), (146, u "copyOf"), (1, .methodref 305 306), (0, .class_ 307), (0, .nameAndType 308 309), (0, u "java/lang/Math"), (0, u "min"), (0, u "(II)I"), (29, .methodref 14 340), (0, .nameAndType 341 342), (0, u "copyOfRangeByte"), (0, u "([BII)[B"), (0, .methodref 14 344), (0, .nameAndType 345 346), (0, u "checkLength"), (0, u "(II)V"), (28, .class_ 376), (0, u "java/util/Arrays$ArrayList"), (68, u "$assertionsDisabled"), (269, u "MIN_ARRAY_SORT_GRAN"), (0, u "I"), (2, u "INSERTIONSORT_THRESHOLD"), (149, u "([BI)[B"), (105, .class_ 976), (0, u "java/util/Arrays$ArrayItr")] 52

def k14m0 : Method := { name := "<init>", desc := "()V", sig := { parameters := [], returnType := none }, accessFlags := 2, code := none }
def k14c1 : Code := { maxStack := 6, maxLocals := 3, code := jdk_65_method_121_code, exceptionTable := #[], attributes := #[] }
def k14m1 : Method := { name := "copyOf", desc := "([BI)[B", sig := { parameters := [(.array .byte), .int], returnType := some (.array .byte) }, accessFlags := 9, code := some k14c1 }
def k14c2 : Code := { maxStack := 4, maxLocals := 2, code := jdk_65_method_131_code, exceptionTable := #[], attributes := #[] }
def k14m2 : Method := { name := "checkLength", desc := "(II)V", sig := { parameters := [.int, .int], returnType := none }, accessFlags := 10, code := some k14c2 }
def k14c3 : Code := { maxStack := 3, maxLocals := 3, code := jdk_65_method_132_code, exceptionTable := #[], attributes := #[] }
def k14m3 : Method := { name := "copyOfRange", desc := "([BII)[B", sig := { parameters := [(.array .byte), .int, .int], returnType := some (.array .byte) }, accessFlags := 9, code := some k14c3 }
def k14c4 : Code := { maxStack := 6, maxLocals := 5, code := jdk_65_method_133_code, exceptionTable := #[], attributes := #[] }
def k14m4 : Method := { name := "copyOfRangeByte", desc := "([BII)[B", sig := { parameters := [(.array .byte), .int, .int], returnType := some (.array .byte) }, accessFlags := 10, code := some k14c4 }
/-- java/util/Arrays -/
def k14 : Class := { plain "java/util/Arrays" (some 0) with
  accessFlags := 49
  interfaces := #[]
  cf := some (fileOf pool14 14 #[.nestMembers #[975, 375, 113, 74]] #[{ accessFlags := 2, nameIndex := 5, descriptorIndex := 6, attributes := #[] }, { accessFlags := 9, nameIndex := 302, descriptorIndex := 869, attributes := #[] }, { accessFlags := 10, nameIndex := 345, descriptorIndex := 346, attributes := #[] }, { accessFlags := 9, nameIndex := 139, descriptorIndex := 342, attributes := #[] }, { accessFlags := 10, nameIndex := 341, descriptorIndex := 342, attributes := #[] }] 49 2 #[] #[{ accessFlags := 26, nameIndex := 715, descriptorIndex := 716, attributes := #[] }, { accessFlags := 26, nameIndex := 719, descriptorIndex := 716, attributes := #[] }, { accessFlags := 4120, nameIndex := 445, descriptorIndex := 117, attributes := #[] }])
  fields := #[{ name := "MIN_ARRAY_SORT_GRAN", type := .int, accessFlags := 26, slot := 0, constantValue := 0 }, { name := "INSERTIONSORT_THRESHOLD", type := .int, accessFlags := 26, slot := 1, constantValue := 0 }, { name := "$assertionsDisabled", type := .boolean, accessFlags := 4120, slot := 2, constantValue := 0 }]
  methods := #[k14m0, k14m1, k14m2, k14m3, k14m4]
  instanceTypes := #[]
  staticTypes := #[.int, .int, .boolean]
  resolved := Array.replicate 1029 none
  statics := none }

def pool15 : Array CpInfo := pool [(2, .class_ 4), (1, u "java/lang/Object"), (0, u "<init>"), (0, u "()V"), (1, .class_ 10), (1, u "java/lang/System"), (0, u "allowSecurityManager"), (0, u "I"), (16, u "cons"), (0, u "Ljava/io/Console;"), (77, .class_ 110), (1, u "java/lang/System$CallersHolder"), (43, u "initialErrStream"), (0, u "Ljava/io/PrintStream;"), (19, u "security"), (0, u "Ljava/lang/SecurityManager;"), (31, .class_ 209), (0, u "java/lang/System$1"), (7, u "props"), (0, u "Ljava/util/Properties;"), (2, u "lineSeparator"), (0, u "Ljava/lang/String;"), (96, .class_ 321), (1, u "java/lang/System$LoggerFinder"), (5, .class_ 328), (0, u "java/lang/System$Logger"), (67, u "err"), (2, u "out"), (91, u "notSupportedJnuEncoding"), (15, u "in"), (17, u "initialIn"), (0, u "Ljava/io/InputStream;"), (35, u "bootLayer"), (0, u "Ljava/lang/ModuleLayer;"), (99, .class_ 664), (0, u "java/lang/System$2"), (9, u "NEVER"), (2, u "MAYBE"), (49, u "arraycopy"), (0, u "(Ljava/lang/Object;ILjava/lang/Object;II)V"), (72, .class_ 802), (0, u "java/lang/System$Logger$Level")] 31

def k15m0 : Method := { name := "<init>", desc := "()V", sig := { parameters := [], returnType := none }, accessFlags := 2, code := none }
def k15m1 : Method := { name := "arraycopy", desc := "(Ljava/lang/Object;ILjava/lang/Object;II)V", sig := { parameters := [(.object "java/lang/Object"), .int, (.object "java/lang/Object"), .int, .int], returnType := none }, accessFlags := 265, code := none }
/-- java/lang/System -/
def k15 : Class := { plain "java/lang/System" (some 0) with
  accessFlags := 49
  interfaces := #[]
  cf := some (fileOf pool15 8 #[.nestMembers #[319, 327, 801, 108, 663, 208]] #[{ accessFlags := 2, nameIndex := 5, descriptorIndex := 6, attributes := #[] }, { accessFlags := 265, nameIndex := 727, descriptorIndex := 728, attributes := #[] }] 49 2 #[] #[{ accessFlags := 25, nameIndex := 507, descriptorIndex := 526, attributes := #[] }, { accessFlags := 25, nameIndex := 399, descriptorIndex := 155, attributes := #[] }, { accessFlags := 25, nameIndex := 396, descriptorIndex := 155, attributes := #[] }, { accessFlags := 10, nameIndex := 525, descriptorIndex := 526, attributes := #[] }, { accessFlags := 26, nameIndex := 674, descriptorIndex := 12, attributes := #[] }, { accessFlags := 26, nameIndex := 677, descriptorIndex := 12, attributes := #[] }, { accessFlags := 10, nameIndex := 11, descriptorIndex := 12, attributes := #[] }, { accessFlags := 74, nameIndex := 175, descriptorIndex := 176, attributes := #[] }, { accessFlags := 10, nameIndex := 491, descriptorIndex := 222, attributes := #[] }, { accessFlags := 74, nameIndex := 29, descriptorIndex := 30, attributes := #[] }, { accessFlags := 74, nameIndex := 154, descriptorIndex := 155, attributes := #[] }, { accessFlags := 10, nameIndex := 217, descriptorIndex := 218, attributes := #[] }, { accessFlags := 10, nameIndex := 221, descriptorIndex := 222, attributes := #[] }, { accessFlags := 8, nameIndex := 562, descriptorIndex := 563, attributes := #[] }])
  fields := #[{ name := "in", type := (.object "java/io/InputStream"), accessFlags := 25, slot := 0, constantValue := 0 }, { name := "out", type := (.object "java/io/PrintStream"), accessFlags := 25, slot := 1, constantValue := 0 }, { name := "err", type := (.object "java/io/PrintStream"), accessFlags := 25, slot := 2, constantValue := 0 }, { name := "initialIn", type := (.object "java/io/InputStream"), accessFlags := 10, slot := 3, constantValue := 0 }, { name := "NEVER", type := .int, accessFlags := 26, slot := 4, constantValue := 0 }, { name := "MAYBE", type := .int, accessFlags := 26, slot := 5, constantValue := 0 }, { name := "allowSecurityManager", type := .int, accessFlags := 10, slot := 6, constantValue := 0 }, { name := "security", type := (.object "java/lang/SecurityManager"), accessFlags := 74, slot := 7, constantValue := 0 }, { name := "notSupportedJnuEncoding", type := (.object "java/lang/String"), accessFlags := 10, slot := 8, constantValue := 0 }, { name := "cons", type := (.object "java/io/Console"), accessFlags := 74, slot := 9, constantValue := 0 }, { name := "initialErrStream", type := (.object "java/io/PrintStream"), accessFlags := 74, slot := 10, constantValue := 0 }, { name := "props", type := (.object "java/util/Properties"), accessFlags := 10, slot := 11, constantValue := 0 }, { name := "lineSeparator", type := (.object "java/lang/String"), accessFlags := 10, slot := 12, constantValue := 0 }, { name := "bootLayer", type := (.object "java/lang/ModuleLayer"), accessFlags := 8, slot := 13, constantValue := 0 }]
  methods := #[k15m0, k15m1]
  instanceTypes := #[]
  staticTypes := #[(.object "java/io/InputStream"), (.object "java/io/PrintStream"), (.object "java/io/PrintStream"), (.object "java/io/InputStream"), .int, .int, .int, (.object "java/lang/SecurityManager"), (.object "java/lang/String"), (.object "java/io/Console"), (.object "java/io/PrintStream"), (.object "java/util/Properties"), (.object "java/lang/String"), (.object "java/lang/ModuleLayer")]
  resolved := Array.replicate 834 none
  statics := none }

def pool16 : Array CpInfo := pool [(2, .class_ 4), (1, u "java/lang/Object"), (0, u "<init>"), (0, u "()V"), (1, .class_ 10), (1, u "java/lang/Number"), (2, .class_ 14), (0, u "java/io/Serializable"), (0, u "serialVersionUID"), (0, u "J")] 20

def k16m0 : Method := { name := "<init>", desc := "()V", sig := { parameters := [], returnType := none }, accessFlags := 1, code := none }
/-- java/lang/Number -/
def k16 : Class := { plain "java/lang/Number" (some 0) with
  accessFlags := 1057
  interfaces := #[6]
  cf := some (fileOf pool16 8 #[] #[{ accessFlags := 1, nameIndex := 5, descriptorIndex := 6, attributes := #[] }] 1057 2 #[13] #[{ accessFlags := 26, nameIndex := 15, descriptorIndex := 16, attributes := #[] }])
  fields := #[{ name := "serialVersionUID", type := .long, accessFlags := 26, slot := 0, constantValue := 0 }]
  methods := #[k16m0]
  instanceTypes := #[]
  staticTypes := #[.long]
  resolved := Array.replicate 37 none
  statics := none }

def pool17 : Array CpInfo := pool [(1, .class_ 2), (0, u "java/lang/Integer"), (16, u "digits"), (0, u "[C"), (33, u "(I)I"), (19, u "stringSize"), (2, u "getChars"), (0, u "(II[B)I"), (4, .fieldref 1 84), (0, .nameAndType 85 86), (0, u "DigitOnes"), (0, u "[B"), (0, .fieldref 1 88), (0, .nameAndType 89 86), (0, u "DigitTens"), (99, .class_ 190), (0, u "java/lang/Integer$IntegerCache"), (3, u "I"), (8, .class_ 204), (0, u "java/lang/Number"), (2, u "value"), (94, u "TYPE"), (0, u "Ljava/lang/Class;"), (0, .class_ 305), (0, u "java/lang/Comparable"), (0, .class_ 307), (0, u "java/lang/constant/Constable"), (0, .class_ 309), (0, u "java/lang/constant/ConstantDesc"), (0, u "MIN_VALUE"), (1, u "MAX_VALUE"), (3, u "SIZE"), (1, u "BYTES"), (1, u "serialVersionUID"), (0, u "J")] 131

def k17c0 : Code := { maxStack := 4, maxLocals := 7, code := jdk_33_method_12_code, exceptionTable := #[], attributes := #[] }
def k17m0 : Method := { name := "getChars", desc := "(II[B)I", sig := { parameters := [.int, .int, (.array .byte)], returnType := some .int }, accessFlags := 8, code := some k17c0 }
def k17c1 : Code := { maxStack := 2, maxLocals := 4, code := jdk_33_method_13_code, exceptionTable := #[], attributes := #[] }
def k17m1 : Method := { name := "stringSize", desc := "(I)I", sig := { parameters := [.int], returnType := some .int }, accessFlags := 8, code := some k17c1 }
/-- java/lang/Integer -/
def k17 : Class := { plain "java/lang/Integer" (some 16) with
  accessFlags := 49
  interfaces := #[7, 9, 10]
  cf := some (fileOf pool17 1 #[.nestMembers #[189]] #[{ accessFlags := 8, nameIndex := 77, descriptorIndex := 78, attributes := #[] }, { accessFlags := 8, nameIndex := 74, descriptorIndex := 54, attributes := #[] }] 49 203 #[304, 306, 308] #[{ accessFlags := 25, nameIndex := 310, descriptorIndex := 194, attributes := #[] }, { accessFlags := 25, nameIndex := 312, descriptorIndex := 194, attributes := #[] }, { accessFlags := 25, nameIndex := 302, descriptorIndex := 303, attributes := #[] }, { accessFlags := 24, nameIndex := 19, descriptorIndex := 20, attributes := #[] }, { accessFlags := 24, nameIndex := 89, descriptorIndex := 86, attributes := #[] }, { accessFlags := 24, nameIndex := 85, descriptorIndex := 86, attributes := #[] }, { accessFlags := 18, nameIndex := 207, descriptorIndex := 194, attributes := #[] }, { accessFlags := 25, nameIndex := 316, descriptorIndex := 194, attributes := #[] }, { accessFlags := 25, nameIndex := 318, descriptorIndex := 194, attributes := #[] }, { accessFlags := 26, nameIndex := 320, descriptorIndex := 321, attributes := #[] }])
  fields := #[{ name := "MIN_VALUE", type := .int, accessFlags := 25, slot := 0, constantValue := 0 }, { name := "MAX_VALUE", type := .int, accessFlags := 25, slot := 1, constantValue := 0 }, { name := "TYPE", type := (.object "java/lang/Class"), accessFlags := 25, slot := 2, constantValue := 0 }, { name := "digits", type := (.array .char), accessFlags := 24, slot := 3, constantValue := 0 }, { name := "DigitTens", type := (.array .byte), accessFlags := 24, slot := 4, constantValue := 0 }, { name := "DigitOnes", type := (.array .byte), accessFlags := 24, slot := 5, constantValue := 0 }, { name := "value", type := .int, accessFlags := 18, slot := 0, constantValue := 0 }, { name := "SIZE", type := .int, accessFlags := 25, slot := 6, constantValue := 0 }, { name := "BYTES", type := .int, accessFlags := 25, slot := 7, constantValue := 0 }, { name := "serialVersionUID", type := .long, accessFlags := 26, slot := 8, constantValue := 0 }]
  methods := #[k17m0, k17m1]
  instanceTypes := #[.int]
  staticTypes := #[.int, .int, (.object "java/lang/Class"), (.array .char), (.array .byte), (.array .byte), .int, .int, .long]
  resolved := Array.replicate 453 none
  statics := some 2 }

def pool18 : Array CpInfo := pool [(1, .class_ 2), (0, u "java/lang/String"), (1, .class_ 6), (1, u "java/lang/Object"), (0, u "<init>"), (0, u "()V"), (0, .methodref 1 10), (0, .nameAndType 11 12), (0, u "checkIndex"), (0, u "(II)V"), (1, .class_ 16), (1, u "java/lang/StringLatin1"), (36, u "([BI)C"), (67, u "$assertionsDisabled"), (0, u "Z"), (98, .class_ 223), (1, u "java/lang/StringLatin1$LinesSpliterator"), (28, u "charAt"), (137, .class_ 391), (0, u "java/lang/StringLatin1$CharsSpliterator")] 3

def k18m0 : Method := { name := "<init>", desc := "()V", sig := { parameters := [], returnType := none }, accessFlags := 0, code := none }
def k18c1 : Code := { maxStack := 2, maxLocals := 2, code := jdk_43_method_2_code, exceptionTable := #[], attributes := #[] }
def k18m1 : Method := { name := "charAt", desc := "([BI)C", sig := { parameters := [(.array .byte), .int], returnType := some .char }, accessFlags := 9, code := some k18c1 }
/-- java/lang/StringLatin1 -/
def k18 : Class := { plain "java/lang/StringLatin1" (some 0) with
  accessFlags := 48
  interfaces := #[]
  cf := some (fileOf pool18 14 #[.nestMembers #[390, 221]] #[{ accessFlags := 0, nameIndex := 7, descriptorIndex := 8, attributes := #[] }, { accessFlags := 9, nameIndex := 252, descriptorIndex := 53, attributes := #[] }] 48 4 #[] #[{ accessFlags := 4120, nameIndex := 121, descriptorIndex := 122, attributes := #[] }])
  fields := #[{ name := "$assertionsDisabled", type := .boolean, accessFlags := 4120, slot := 0, constantValue := 0 }]
  methods := #[k18m0, k18m1]
  instanceTypes := #[]
  staticTypes := #[.boolean]
  resolved := Array.replicate 395 none
  statics := none }

def pool19 : Array CpInfo := pool [(2, .class_ 4), (1, u "java/lang/Object"), (0, u "<init>"), (0, u "()V"), (17, .class_ 26), (1, u "jdk/internal/util/Preconditions"), (6, u "checkIndex"), (21, .class_ 56), (0, u "jdk/internal/util/Preconditions$4"), (57, .class_ 115), (0, u "jdk/internal/util/Preconditions$1"), (7, u "SIOOBE_FORMATTER"), (0, u "Ljava/util/function/BiFunction;"), (0, .class_ 126), (0, u "jdk/internal/util/Preconditions$2"), (3, u "AIOOBE_FORMATTER"), (0, .class_ 132), (0, u "jdk/internal/util/Preconditions$3"), (3, u "IOOBE_FORMATTER"), (41, u "(IILjava/util/function/BiFunction;)I")] 15

def k19m0 : Method := { name := "<init>", desc := "()V", sig := { parameters := [], returnType := none }, accessFlags := 1, code := none }
def k19c1 : Code := { maxStack := 3, maxLocals := 3, code := jdk_41_method_11_code, exceptionTable := #[], attributes := #[] }
def k19m1 : Method := { name := "checkIndex", desc := "(IILjava/util/function/BiFunction;)I", sig := { parameters := [.int, .int, (.object "java/util/function/BiFunction")], returnType := some .int }, accessFlags := 9, code := some k19c1 }
/-- jdk/internal/util/Preconditions -/
def k19 : Class := { plain "jdk/internal/util/Preconditions" (some 0) with
  accessFlags := 33
  interfaces := #[]
  cf := some (fileOf pool19 24 #[.nestMembers #[55, 131, 125, 114]] #[{ accessFlags := 1, nameIndex := 5, descriptorIndex := 6, attributes := #[] }, { accessFlags := 9, nameIndex := 33, descriptorIndex := 178, attributes := #[] }] 33 2 #[] #[{ accessFlags := 25, nameIndex := 123, descriptorIndex := 124, attributes := #[] }, { accessFlags := 25, nameIndex := 130, descriptorIndex := 124, attributes := #[] }, { accessFlags := 25, nameIndex := 136, descriptorIndex := 124, attributes := #[] }])
  fields := #[{ name := "SIOOBE_FORMATTER", type := (.object "java/util/function/BiFunction"), accessFlags := 25, slot := 0, constantValue := 0 }, { name := "AIOOBE_FORMATTER", type := (.object "java/util/function/BiFunction"), accessFlags := 25, slot := 1, constantValue := 0 }, { name := "IOOBE_FORMATTER", type := (.object "java/util/function/BiFunction"), accessFlags := 25, slot := 2, constantValue := 0 }]
  methods := #[k19m0, k19m1]
  instanceTypes := #[]
  staticTypes := #[(.object "java/util/function/BiFunction"), (.object "java/util/function/BiFunction"), (.object "java/util/function/BiFunction")]
  resolved := Array.replicate 194 none
  statics := some 3 }

def pool20 : Array CpInfo := pool [(1, u "java/lang/Cloneable"), (0, .class_ 1), (0, u "java/lang/Object"), (0, .class_ 3)] 3

/-- java/lang/Cloneable -/
def k20 : Class := { plain "java/lang/Cloneable" (some 0) with
  accessFlags := 1537
  interfaces := #[]
  cf := some (fileOf pool20 2 #[] #[] 1537 4 #[] #[])
  fields := #[]
  methods := #[]
  instanceTypes := #[]
  staticTypes := #[]
  resolved := Array.replicate 8 none
  statics := none }

/-- the primitive byte -/
def k21 : Class := { plain "byte" none with kind := .primitive 'B', accessFlags := 0x411 }
/-- [B -/
def k22 : Class := { plain "[B" (some 0) with kind := .array 21 .byte, interfaces := #[20, 6], accessFlags := 1041 }

/-- the primitive int -/
def k23 : Class := { plain "int" none with kind := .primitive 'I', accessFlags := 0x411 }
/-- [I -/
def k24 : Class := { plain "[I" (some 0) with kind := .array 23 .int, interfaces := #[20, 6], accessFlags := 1041 }

def heap : Heap := #[{ cls := 2, slots := #[.int 0, .ref 5], vm := .statics 2 },
  { cls := 11, slots := #[.long 0, .int 1, .null, .int 0, .null, .int 0, .int 0], vm := .statics 11 },
  { cls := 17, slots := #[.int 0, .int 0, .null, .null, .ref 7, .ref 6, .int 0, .int 0, .long 0], vm := .statics 17 },
  { cls := 19, slots := #[.null, .null, .null], vm := .statics 19 },
  { cls := 22, slots := #[.int 99, .int 111, .int 109, .int 46, .int 101, .int 120, .int 97, .int 109, .int 112, .int 108, .int 101, .int 46, .int 116, .int 105, .int 100, .int 121, .int 95, .int 105, .int 110, .int 106, .int 101, .int 99, .int 116, .int 111, .int 114, .int 46, .int 116, .int 105, .int 100, .int 121, .int 105, .int 110, .int 106, .int 101, .int 99, .int 116, .int 111, .int 114, .int 46, .int 98, .int 101, .int 110, .int 99, .int 104, .int 46, .int 103, .int 114, .int 97, .int 112, .int 104], vm := .none },
  { cls := 11, slots := #[.ref 4, .int 0, .int 0, .int 0], vm := .none },
  { cls := 22, slots := #[.int 48, .int 49, .int 50, .int 51, .int 52, .int 53, .int 54, .int 55, .int 56, .int 57, .int 48, .int 49, .int 50, .int 51, .int 52, .int 53, .int 54, .int 55, .int 56, .int 57, .int 48, .int 49, .int 50, .int 51, .int 52, .int 53, .int 54, .int 55, .int 56, .int 57, .int 48, .int 49, .int 50, .int 51, .int 52, .int 53, .int 54, .int 55, .int 56, .int 57, .int 48, .int 49, .int 50, .int 51, .int 52, .int 53, .int 54, .int 55, .int 56, .int 57, .int 48, .int 49, .int 50, .int 51, .int 52, .int 53, .int 54, .int 55, .int 56, .int 57, .int 48, .int 49, .int 50, .int 51, .int 52, .int 53, .int 54, .int 55, .int 56, .int 57, .int 48, .int 49, .int 50, .int 51, .int 52, .int 53, .int 54, .int 55, .int 56, .int 57, .int 48, .int 49, .int 50, .int 51, .int 52, .int 53, .int 54, .int 55, .int 56, .int 57, .int 48, .int 49, .int 50, .int 51, .int 52, .int 53, .int 54, .int 55, .int 56, .int 57], vm := .none },
  { cls := 22, slots := #[.int 48, .int 48, .int 48, .int 48, .int 48, .int 48, .int 48, .int 48, .int 48, .int 48, .int 49, .int 49, .int 49, .int 49, .int 49, .int 49, .int 49, .int 49, .int 49, .int 49, .int 50, .int 50, .int 50, .int 50, .int 50, .int 50, .int 50, .int 50, .int 50, .int 50, .int 51, .int 51, .int 51, .int 51, .int 51, .int 51, .int 51, .int 51, .int 51, .int 51, .int 52, .int 52, .int 52, .int 52, .int 52, .int 52, .int 52, .int 52, .int 52, .int 52, .int 53, .int 53, .int 53, .int 53, .int 53, .int 53, .int 53, .int 53, .int 53, .int 53, .int 54, .int 54, .int 54, .int 54, .int 54, .int 54, .int 54, .int 54, .int 54, .int 54, .int 55, .int 55, .int 55, .int 55, .int 55, .int 55, .int 55, .int 55, .int 55, .int 55, .int 56, .int 56, .int 56, .int 56, .int 56, .int 56, .int 56, .int 56, .int 56, .int 56, .int 57, .int 57, .int 57, .int 57, .int 57, .int 57, .int 57, .int 57, .int 57, .int 57], vm := .none }]
def classes : Array Class := #[k0, k1, k2, k3, k4, k5, k6, k7, k8, k9, k10, k11, k12, k13, k14, k15, k16, k17, k18, k19, k20, k21, k22, k23, k24]
def interned : List (Array UInt16 × Addr) := []
def slotsUsed : Nat := 275
def theMethod : MethodId := ⟨1, 1⟩
def args0 : Array Value := #[.int 5]
def aboutOver (below : List Frame) : State where
  vm := { classes := classes, interned := interned.toArray }
  heap := heap
  slotsUsed := slotsUsed
  threads := #[{ frames := .invoking theMethod args0 :: below }]
def below0 : List Frame := [.native { method := ⟨0, 0⟩, args := #[] }]
def about1 : State := aboutOver below0
def p0 : Program := .bare "" "" ""
def e0 : Env := launch0.env 0 0 0
theorem w_frames : about1.frames = Frame.invoking theMethod args0 :: below0 := rfl
set_option maxRecDepth 65536 in
theorem w_args : argsFit about1.vm theMethod args0 = true := by decide +kernel
set_option maxRecDepth 65536 in
theorem w_heap : heapFits about1 = true := by decide +kernel
set_option maxRecDepth 65536 in
theorem w_runnable : about1.curStatus? = some .runnable := by decide +kernel
set_option maxRecDepth 65536 in
theorem w_alone : about1.alone = true := by decide +kernel
set_option maxRecDepth 65536 in
theorem w_named : about1.methodNamed? x = some theMethod := by decide +kernel
set_option maxRecDepth 65536 in
theorem w_hears : about1.hears theMethod below0 = true := by decide +kernel
set_option maxRecDepth 65536 in
theorem w_ripe : about1.ripe theMethod args0 below0 = true := by decide +kernel
theorem w_running : about1.status = .running := rfl
set_option maxRecDepth 65536 in
theorem w_room : about1.hasRoom e0.platform room_1 = true :=
  launch0.hasRoom_least _ room_1 (by decide +kernel) (by decide +kernel) (by decide +kernel) (by decide +kernel) (by decide +kernel) (by decide +kernel)
theorem allAtoms_all (ts : List Jvm.Cond) (a : Array Jvm.Value) (st : Jvm.State) : (allAtoms ts).before a st = ts.all (fun c => c.before a st) := by
  induction ts with
  | nil => rfl
  | cons c t ih =>
    show (Jvm.Cond.and c (allAtoms t)).before a st = _
    rw [Jvm.Cond.before_and, ih, List.all_cons]
def words1 : List Jvm.Cond := Jvm.Cond.code x code maxLocals ret :: tables_1
/-- a 'code' word, met by the world's own term for the bytes: nothing is compared byte by byte -/
theorem code_word {y : MethodName} {bytes : ByteArray} {mx : Nat} {rt : Option FieldType} {a : Array Value} {s : State} {m : MethodId} {meth : Method} {c : Code} (h1 : s.methodNamed? y = some m) (h2 : s.vm.method? m = some meth) (h3 : meth.code = some c) (h4 : c.code = bytes)
    (h5 : (c.maxLocals == mx && c.exceptionTable.isEmpty && decide (c.maxStack ≤ mostOperands) && decide (meth.sig.returnType = rt) && !meth.locks && decide (parseMethodDescriptor y.desc = some meth.sig)) = true) : (Jvm.Cond.code y bytes mx rt).before a s = true := by
  simp only [Bool.and_eq_true, beq_iff_eq, Bool.not_eq_true', decide_eq_true_eq] at h5
  obtain ⟨⟨⟨⟨⟨g1, g2⟩, g3⟩, g4⟩, g5⟩, g6⟩ := h5
  simp [Cond.before, Cond.holds, Cond.value, h1, h2, h3, h4, g1, g2, g3, g4, g5, g6]
def isCode : Jvm.Cond → Bool
  | .code _ _ _ _ => true
  | _ => false
theorem all_split {L : List Jvm.Cond} {P : Jvm.Cond → Bool} (h1 : L.all (fun c => isCode c || P c) = true) (h2 : ∀ c ∈ L.filter isCode, P c = true) : L.all P = true := by
  refine List.all_eq_true.mpr fun c hc => ?_
  have h := List.all_eq_true.mp h1 c hc
  rcases Bool.eq_false_or_eq_true (isCode c) with hi | hi
  · exact h2 c (List.mem_filter.mpr ⟨hc, hi⟩)
  · simpa [hi] using h
set_option maxRecDepth 65536 in
theorem w_c0 : (Jvm.Cond.code x code maxLocals ret).before args0 about1 = true := code_word (m := ⟨1, 1⟩) (meth := k1m1) (c := k1c1) (by decide +kernel) rfl rfl rfl (by decide +kernel)
set_option maxRecDepth 65536 in
theorem w_c1 : (Jvm.Cond.code ({ cls := "com/example/tidy_injector/tidyinjector/bench/StartupGraph", name := "className", desc := "(I)Ljava/lang/String;" } : Jvm.MethodName) prog_40_method_3_code (1 : Nat) (Option.some (Jvm.ClassFile.FieldType.object "java/lang/String"))).before args0 about1 = true := code_word (m := ⟨2, 2⟩) (meth := k2m2) (c := k2c2) (by decide +kernel) rfl rfl rfl (by decide +kernel)
set_option maxRecDepth 65536 in
theorem w_c2 : (Jvm.Cond.code ({ cls := "java/lang/StringBuilder", name := "<init>", desc := "()V" } : Jvm.MethodName) jdk_67_method_1_code (1 : Nat) (Option.none : Option Jvm.ClassFile.FieldType)).before args0 about1 = true := code_word (m := ⟨8, 0⟩) (meth := k8m0) (c := k8c0) (by decide +kernel) rfl rfl rfl (by decide +kernel)
set_option maxRecDepth 65536 in
theorem w_c3 : (Jvm.Cond.code ({ cls := "java/lang/AbstractStringBuilder", name := "<init>", desc := "(I)V" } : Jvm.MethodName) jdk_68_method_2_code (2 : Nat) (Option.none : Option Jvm.ClassFile.FieldType)).before args0 about1 = true := code_word (m := ⟨5, 1⟩) (meth := k5m1) (c := k5c1) (by decide +kernel) rfl rfl rfl (by decide +kernel)
set_option maxRecDepth 65536 in
theorem w_c4 : (Jvm.Cond.code ({ cls := "java/lang/Object", name := "<init>", desc := "()V" } : Jvm.MethodName) object_method_1_code (1 : Nat) (Option.none : Option Jvm.ClassFile.FieldType)).before args0 about1 = true := code_word (m := ⟨0, 0⟩) (meth := k0m0) (c := k0c0) (by decide +kernel) rfl rfl rfl (by decide +kernel)
set_option maxRecDepth 65536 in
theorem w_c5 : (Jvm.Cond.code ({ cls := "java/lang/StringBuilder", name := "append", desc := "(Ljava/lang/String;)Ljava/lang/StringBuilder;" } : Jvm.MethodName) jdk_67_method_7_code (2 : Nat) (Option.some (Jvm.ClassFile.FieldType.object "java/lang/StringBuilder"))).before args0 about1 = true := code_word (m := ⟨8, 1⟩) (meth := k8m1) (c := k8c1) (by decide +kernel) rfl rfl rfl (by decide +kernel)
set_option maxRecDepth 65536 in
theorem w_c6 : (Jvm.Cond.code ({ cls := "java/lang/AbstractStringBuilder", name := "append", desc := "(Ljava/lang/String;)Ljava/lang/AbstractStringBuilder;" } : Jvm.MethodName) jdk_68_method_22_code (3 : Nat) (Option.some (Jvm.ClassFile.FieldType.object "java/lang/AbstractStringBuilder"))).before args0 about1 = true := code_word (m := ⟨5, 5⟩) (meth := k5m5) (c := k5c5) (by decide +kernel) rfl rfl rfl (by decide +kernel)
set_option maxRecDepth 65536 in
theorem w_c7 : (Jvm.Cond.code ({ cls := "java/lang/String", name := "length", desc := "()I" } : Jvm.MethodName) jdk_42_method_54_code (1 : Nat) (Option.some Jvm.ClassFile.FieldType.int)).before args0 about1 = true := code_word (m := ⟨11, 2⟩) (meth := k11m2) (c := k11c2) (by decide +kernel) rfl rfl rfl (by decide +kernel)
set_option maxRecDepth 65536 in
theorem w_c8 : (Jvm.Cond.code ({ cls := "java/lang/String", name := "coder", desc := "()B" } : Jvm.MethodName) jdk_42_method_152_code (1 : Nat) (Option.some Jvm.ClassFile.FieldType.byte)).before args0 about1 = true := code_word (m := ⟨11, 6⟩) (meth := k11m6) (c := k11c6) (by decide +kernel) rfl rfl rfl (by decide +kernel)
set_option maxRecDepth 65536 in
theorem w_c9 : (Jvm.Cond.code ({ cls := "java/lang/AbstractStringBuilder", name := "ensureCapacityInternal", desc := "(I)V" } : Jvm.MethodName) jdk_68_method_9_code (3 : Nat) (Option.none : Option Jvm.ClassFile.FieldType)).before args0 about1 = true := code_word (m := ⟨5, 3⟩) (meth := k5m3) (c := k5c3) (by decide +kernel) rfl rfl rfl (by decide +kernel)
set_option maxRecDepth 65536 in
theorem w_c10 : (Jvm.Cond.code ({ cls := "java/lang/AbstractStringBuilder", name := "newCapacity", desc := "(I)I" } : Jvm.MethodName) jdk_68_method_10_code (6 : Nat) (Option.some Jvm.ClassFile.FieldType.int)).before args0 about1 = true := code_word (m := ⟨5, 4⟩) (meth := k5m4) (c := k5c4) (by decide +kernel) rfl rfl rfl (by decide +kernel)
set_option maxRecDepth 65536 in
theorem w_c11 : (Jvm.Cond.code ({ cls := "jdk/internal/util/ArraysSupport", name := "newLength", desc := "(III)I" } : Jvm.MethodName) jdk_48_method_27_code (4 : Nat) (Option.some Jvm.ClassFile.FieldType.int)).before args0 about1 = true := code_word (m := ⟨12, 1⟩) (meth := k12m1) (c := k12c1) (by decide +kernel) rfl rfl rfl (by decide +kernel)
set_option maxRecDepth 65536 in
theorem w_c12 : (Jvm.Cond.code ({ cls := "java/lang/Math", name := "max", desc := "(II)I" } : Jvm.MethodName) jdk_29_method_65_code (2 : Nat) (Option.some Jvm.ClassFile.FieldType.int)).before args0 about1 = true := code_word (m := ⟨13, 1⟩) (meth := k13m1) (c := k13c1) (by decide +kernel) rfl rfl rfl (by decide +kernel)
set_option maxRecDepth 65536 in
theorem w_c13 : (Jvm.Cond.code ({ cls := "java/util/Arrays", name := "copyOf", desc := "([BI)[B" } : Jvm.MethodName) jdk_65_method_121_code (3 : Nat) (Option.some (Jvm.ClassFile.FieldType.array Jvm.ClassFile.FieldType.byte))).before args0 about1 = true := code_word (m := ⟨14, 1⟩) (meth := k14m1) (c := k14c1) (by decide +kernel) rfl rfl rfl (by decide +kernel)
set_option maxRecDepth 65536 in
theorem w_c14 : (Jvm.Cond.code ({ cls := "java/lang/Math", name := "min", desc := "(II)I" } : Jvm.MethodName) jdk_29_method_69_code (2 : Nat) (Option.some Jvm.ClassFile.FieldType.int)).before args0 about1 = true := code_word (m := ⟨13, 2⟩) (meth := k13m2) (c := k13c2) (by decide +kernel) rfl rfl rfl (by decide +kernel)
set_option maxRecDepth 65536 in
theorem w_c15 : (Jvm.Cond.code ({ cls := "java/lang/AbstractStringBuilder", name := "putStringAt", desc := "(ILjava/lang/String;)V" } : Jvm.MethodName) jdk_68_method_73_code (3 : Nat) (Option.none : Option Jvm.ClassFile.FieldType)).before args0 about1 = true := code_word (m := ⟨5, 10⟩) (meth := k5m10) (c := k5c10) (by decide +kernel) rfl rfl rfl (by decide +kernel)
set_option maxRecDepth 65536 in
theorem w_c16 : (Jvm.Cond.code ({ cls := "java/lang/AbstractStringBuilder", name := "inflateIfNeededFor", desc := "(Ljava/lang/String;)V" } : Jvm.MethodName) jdk_68_method_71_code (2 : Nat) (Option.none : Option Jvm.ClassFile.FieldType)).before args0 about1 = true := code_word (m := ⟨5, 9⟩) (meth := k5m9) (c := k5c9) (by decide +kernel) rfl rfl rfl (by decide +kernel)
set_option maxRecDepth 65536 in
theorem w_c17 : (Jvm.Cond.code ({ cls := "java/lang/String", name := "getBytes", desc := "([BIB)V" } : Jvm.MethodName) jdk_42_method_147_code (4 : Nat) (Option.none : Option Jvm.ClassFile.FieldType)).before args0 about1 = true := code_word (m := ⟨11, 4⟩) (meth := k11m4) (c := k11c4) (by decide +kernel) rfl rfl rfl (by decide +kernel)
set_option maxRecDepth 65536 in
theorem w_c18 : (Jvm.Cond.code ({ cls := "com/example/tidy_injector/tidyinjector/bench/StartupGraph", name := "simpleName", desc := "(I)Ljava/lang/String;" } : Jvm.MethodName) prog_40_method_2_code (1 : Nat) (Option.some (Jvm.ClassFile.FieldType.object "java/lang/String"))).before args0 about1 = true := code_word (m := ⟨2, 1⟩) (meth := k2m1) (c := k2c1) (by decide +kernel) rfl rfl rfl (by decide +kernel)
set_option maxRecDepth 65536 in
theorem w_c19 : (Jvm.Cond.code ({ cls := "java/lang/StringBuilder", name := "append", desc := "(I)Ljava/lang/StringBuilder;" } : Jvm.MethodName) jdk_67_method_15_code (2 : Nat) (Option.some (Jvm.ClassFile.FieldType.object "java/lang/StringBuilder"))).before args0 about1 = true := code_word (m := ⟨8, 2⟩) (meth := k8m2) (c := k8c2) (by decide +kernel) rfl rfl rfl (by decide +kernel)
set_option maxRecDepth 65536 in
theorem w_c20 : (Jvm.Cond.code ({ cls := "java/lang/AbstractStringBuilder", name := "append", desc := "(I)Ljava/lang/AbstractStringBuilder;" } : Jvm.MethodName) jdk_68_method_32_code (4 : Nat) (Option.some (Jvm.ClassFile.FieldType.object "java/lang/AbstractStringBuilder"))).before args0 about1 = true := code_word (m := ⟨5, 6⟩) (meth := k5m6) (c := k5c6) (by decide +kernel) rfl rfl rfl (by decide +kernel)
set_option maxRecDepth 65536 in
theorem w_c21 : (Jvm.Cond.code ({ cls := "java/lang/Integer", name := "stringSize", desc := "(I)I" } : Jvm.MethodName) jdk_33_method_13_code (4 : Nat) (Option.some Jvm.ClassFile.FieldType.int)).before args0 about1 = true := code_word (m := ⟨17, 1⟩) (meth := k17m1) (c := k17c1) (by decide +kernel) rfl rfl rfl (by decide +kernel)
set_option maxRecDepth 65536 in
theorem w_c22 : (Jvm.Cond.code ({ cls := "java/lang/AbstractStringBuilder", name := "isLatin1", desc := "()Z" } : Jvm.MethodName) jdk_68_method_68_code (1 : Nat) (Option.some Jvm.ClassFile.FieldType.boolean)).before args0 about1 = true := code_word (m := ⟨5, 8⟩) (meth := k5m8) (c := k5c8) (by decide +kernel) rfl rfl rfl (by decide +kernel)
set_option maxRecDepth 65536 in
theorem w_c23 : (Jvm.Cond.code ({ cls := "java/lang/Integer", name := "getChars", desc := "(II[B)I" } : Jvm.MethodName) jdk_33_method_12_code (7 : Nat) (Option.some Jvm.ClassFile.FieldType.int)).before args0 about1 = true := code_word (m := ⟨17, 0⟩) (meth := k17m0) (c := k17c0) (by decide +kernel) rfl rfl rfl (by decide +kernel)
set_option maxRecDepth 65536 in
theorem w_c24 : (Jvm.Cond.code ({ cls := "java/lang/StringBuilder", name := "toString", desc := "()Ljava/lang/String;" } : Jvm.MethodName) jdk_67_method_42_code (1 : Nat) (Option.some (Jvm.ClassFile.FieldType.object "java/lang/String"))).before args0 about1 = true := code_word (m := ⟨8, 3⟩) (meth := k8m3) (c := k8c3) (by decide +kernel) rfl rfl rfl (by decide +kernel)
set_option maxRecDepth 65536 in
theorem w_c25 : (Jvm.Cond.code ({ cls := "java/lang/String", name := "<init>", desc := "(Ljava/lang/StringBuilder;)V" } : Jvm.MethodName) jdk_42_method_53_code (2 : Nat) (Option.none : Option Jvm.ClassFile.FieldType)).before args0 about1 = true := code_word (m := ⟨11, 1⟩) (meth := k11m1) (c := k11c1) (by decide +kernel) rfl rfl rfl (by decide +kernel)
set_option maxRecDepth 65536 in
theorem w_c26 : (Jvm.Cond.code ({ cls := "java/lang/String", name := "<init>", desc := "(Ljava/lang/AbstractStringBuilder;Ljava/lang/Void;)V" } : Jvm.MethodName) jdk_42_method_150_code (5 : Nat) (Option.none : Option Jvm.ClassFile.FieldType)).before args0 about1 = true := code_word (m := ⟨11, 5⟩) (meth := k11m5) (c := k11c5) (by decide +kernel) rfl rfl rfl (by decide +kernel)
set_option maxRecDepth 65536 in
theorem w_c27 : (Jvm.Cond.code ({ cls := "java/lang/AbstractStringBuilder", name := "getValue", desc := "()[B" } : Jvm.MethodName) jdk_68_method_64_code (1 : Nat) (Option.some (Jvm.ClassFile.FieldType.array Jvm.ClassFile.FieldType.byte))).before args0 about1 = true := code_word (m := ⟨5, 7⟩) (meth := k5m7) (c := k5c7) (by decide +kernel) rfl rfl rfl (by decide +kernel)
set_option maxRecDepth 65536 in
theorem w_c28 : (Jvm.Cond.code ({ cls := "java/lang/StringBuilder", name := "length", desc := "()I" } : Jvm.MethodName) jdk_67_method_93_code (1 : Nat) (Option.some Jvm.ClassFile.FieldType.int)).before args0 about1 = true := code_word (m := ⟨8, 4⟩) (meth := k8m4) (c := k8c4) (by decide +kernel) rfl rfl rfl (by decide +kernel)
set_option maxRecDepth 65536 in
theorem w_c29 : (Jvm.Cond.code ({ cls := "java/lang/AbstractStringBuilder", name := "length", desc := "()I" } : Jvm.MethodName) jdk_68_method_6_code (1 : Nat) (Option.some Jvm.ClassFile.FieldType.int)).before args0 about1 = true := code_word (m := ⟨5, 2⟩) (meth := k5m2) (c := k5c2) (by decide +kernel) rfl rfl rfl (by decide +kernel)
set_option maxRecDepth 65536 in
theorem w_c30 : (Jvm.Cond.code ({ cls := "java/util/Arrays", name := "copyOfRange", desc := "([BII)[B" } : Jvm.MethodName) jdk_65_method_132_code (3 : Nat) (Option.some (Jvm.ClassFile.FieldType.array Jvm.ClassFile.FieldType.byte))).before args0 about1 = true := code_word (m := ⟨14, 3⟩) (meth := k14m3) (c := k14c3) (by decide +kernel) rfl rfl rfl (by decide +kernel)
set_option maxRecDepth 65536 in
theorem w_c31 : (Jvm.Cond.code ({ cls := "java/util/Arrays", name := "copyOfRangeByte", desc := "([BII)[B" } : Jvm.MethodName) jdk_65_method_133_code (5 : Nat) (Option.some (Jvm.ClassFile.FieldType.array Jvm.ClassFile.FieldType.byte))).before args0 about1 = true := code_word (m := ⟨14, 4⟩) (meth := k14m4) (c := k14c4) (by decide +kernel) rfl rfl rfl (by decide +kernel)
set_option maxRecDepth 65536 in
theorem w_c32 : (Jvm.Cond.code ({ cls := "java/util/Arrays", name := "checkLength", desc := "(II)V" } : Jvm.MethodName) jdk_65_method_131_code (2 : Nat) (Option.none : Option Jvm.ClassFile.FieldType)).before args0 about1 = true := code_word (m := ⟨14, 2⟩) (meth := k14m2) (c := k14c2) (by decide +kernel) rfl rfl rfl (by decide +kernel)
set_option maxRecDepth 65536 in
theorem w_c33 : (Jvm.Cond.code ({ cls := "com/example/tidy_injector/tidyinjector/bench/StartupGraphClassNamePinLaw", name := "digits", desc := "(J)I" } : Jvm.MethodName) method_3_code (2 : Nat) (Option.some Jvm.ClassFile.FieldType.int)).before args0 about1 = true := code_word (m := ⟨1, 2⟩) (meth := k1m2) (c := k1c2) (by decide +kernel) rfl rfl rfl (by decide +kernel)
set_option maxRecDepth 65536 in
theorem w_c34 : (Jvm.Cond.code ({ cls := "com/example/tidy_injector/tidyinjector/bench/StartupGraphClassNamePinLaw", name := "prefix", desc := "(Ljava/lang/String;Ljava/lang/String;)Z" } : Jvm.MethodName) method_6_code (2 : Nat) (Option.some Jvm.ClassFile.FieldType.boolean)).before args0 about1 = true := code_word (m := ⟨1, 5⟩) (meth := k1m5) (c := k1c5) (by decide +kernel) rfl rfl rfl (by decide +kernel)
set_option maxRecDepth 65536 in
theorem w_c35 : (Jvm.Cond.code ({ cls := "com/example/tidy_injector/tidyinjector/bench/StartupGraphClassNamePinLaw", name := "e", desc := "(Ljava/lang/String;Ljava/lang/String;I)Z" } : Jvm.MethodName) method_5_code (3 : Nat) (Option.some Jvm.ClassFile.FieldType.boolean)).before args0 about1 = true := code_word (m := ⟨1, 4⟩) (meth := k1m4) (c := k1c4) (by decide +kernel) rfl rfl rfl (by decide +kernel)
set_option maxRecDepth 65536 in
theorem w_c36 : (Jvm.Cond.code ({ cls := "java/lang/String", name := "charAt", desc := "(I)C" } : Jvm.MethodName) jdk_42_method_56_code (2 : Nat) (Option.some Jvm.ClassFile.FieldType.char)).before args0 about1 = true := code_word (m := ⟨11, 3⟩) (meth := k11m3) (c := k11c3) (by decide +kernel) rfl rfl rfl (by decide +kernel)
set_option maxRecDepth 65536 in
theorem w_c37 : (Jvm.Cond.code ({ cls := "java/lang/String", name := "isLatin1", desc := "()Z" } : Jvm.MethodName) jdk_42_method_154_code (1 : Nat) (Option.some Jvm.ClassFile.FieldType.boolean)).before args0 about1 = true := code_word (m := ⟨11, 7⟩) (meth := k11m7) (c := k11c7) (by decide +kernel) rfl rfl rfl (by decide +kernel)
set_option maxRecDepth 65536 in
theorem w_c38 : (Jvm.Cond.code ({ cls := "java/lang/StringLatin1", name := "charAt", desc := "([BI)C" } : Jvm.MethodName) jdk_43_method_2_code (2 : Nat) (Option.some Jvm.ClassFile.FieldType.char)).before args0 about1 = true := code_word (m := ⟨18, 1⟩) (meth := k18m1) (c := k18c1) (by decide +kernel) rfl rfl rfl (by decide +kernel)
set_option maxRecDepth 65536 in
theorem w_c39 : (Jvm.Cond.code ({ cls := "java/lang/String", name := "checkIndex", desc := "(II)V" } : Jvm.MethodName) jdk_42_method_155_code (2 : Nat) (Option.none : Option Jvm.ClassFile.FieldType)).before args0 about1 = true := code_word (m := ⟨11, 8⟩) (meth := k11m8) (c := k11c8) (by decide +kernel) rfl rfl rfl (by decide +kernel)
set_option maxRecDepth 65536 in
theorem w_c40 : (Jvm.Cond.code ({ cls := "jdk/internal/util/Preconditions", name := "checkIndex", desc := "(IILjava/util/function/BiFunction;)I" } : Jvm.MethodName) jdk_41_method_11_code (3 : Nat) (Option.some Jvm.ClassFile.FieldType.int)).before args0 about1 = true := code_word (m := ⟨19, 1⟩) (meth := k19m1) (c := k19c1) (by decide +kernel) rfl rfl rfl (by decide +kernel)
set_option maxRecDepth 65536 in
theorem w_c41 : (Jvm.Cond.code ({ cls := "com/example/tidy_injector/tidyinjector/bench/StartupGraphClassNamePinLaw", name := "dig", desc := "(Ljava/lang/String;IIJIJ)Z" } : Jvm.MethodName) method_4_code (10 : Nat) (Option.some Jvm.ClassFile.FieldType.boolean)).before args0 about1 = true := code_word (m := ⟨1, 3⟩) (meth := k1m3) (c := k1c3) (by decide +kernel) rfl rfl rfl (by decide +kernel)
def codes1 : List Jvm.Cond := [Jvm.Cond.code x code maxLocals ret, Jvm.Cond.code ({ cls := "com/example/tidy_injector/tidyinjector/bench/StartupGraph", name := "className", desc := "(I)Ljava/lang/String;" } : Jvm.MethodName) prog_40_method_3_code (1 : Nat) (Option.some (Jvm.ClassFile.FieldType.object "java/lang/String")), Jvm.Cond.code ({ cls := "java/lang/StringBuilder", name := "<init>", desc := "()V" } : Jvm.MethodName) jdk_67_method_1_code (1 : Nat) (Option.none : Option Jvm.ClassFile.FieldType), Jvm.Cond.code ({ cls := "java/lang/AbstractStringBuilder", name := "<init>", desc := "(I)V" } : Jvm.MethodName) jdk_68_method_2_code (2 : Nat) (Option.none : Option Jvm.ClassFile.FieldType), Jvm.Cond.code ({ cls := "java/lang/Object", name := "<init>", desc := "()V" } : Jvm.MethodName) object_method_1_code (1 : Nat) (Option.none : Option Jvm.ClassFile.FieldType), Jvm.Cond.code ({ cls := "java/lang/StringBuilder", name := "append", desc := "(Ljava/lang/String;)Ljava/lang/StringBuilder;" } : Jvm.MethodName) jdk_67_method_7_code (2 : Nat) (Option.some (Jvm.ClassFile.FieldType.object "java/lang/StringBuilder")), Jvm.Cond.code ({ cls := "java/lang/AbstractStringBuilder", name := "append", desc := "(Ljava/lang/String;)Ljava/lang/AbstractStringBuilder;" } : Jvm.MethodName) jdk_68_method_22_code (3 : Nat) (Option.some (Jvm.ClassFile.FieldType.object "java/lang/AbstractStringBuilder")), Jvm.Cond.code ({ cls := "java/lang/String", name := "length", desc := "()I" } : Jvm.MethodName) jdk_42_method_54_code (1 : Nat) (Option.some Jvm.ClassFile.FieldType.int), Jvm.Cond.code ({ cls := "java/lang/String", name := "coder", desc := "()B" } : Jvm.MethodName) jdk_42_method_152_code (1 : Nat) (Option.some Jvm.ClassFile.FieldType.byte), Jvm.Cond.code ({ cls := "java/lang/AbstractStringBuilder", name := "ensureCapacityInternal", desc := "(I)V" } : Jvm.MethodName) jdk_68_method_9_code (3 : Nat) (Option.none : Option Jvm.ClassFile.FieldType), Jvm.Cond.code ({ cls := "java/lang/AbstractStringBuilder", name := "newCapacity", desc := "(I)I" } : Jvm.MethodName) jdk_68_method_10_code (6 : Nat) (Option.some Jvm.ClassFile.FieldType.int), Jvm.Cond.code ({ cls := "jdk/internal/util/ArraysSupport", name := "newLength", desc := "(III)I" } : Jvm.MethodName) jdk_48_method_27_code (4 : Nat) (Option.some Jvm.ClassFile.FieldType.int), Jvm.Cond.code ({ cls := "java/lang/Math", name := "max", desc := "(II)I" } : Jvm.MethodName) jdk_29_method_65_code (2 : Nat) (Option.some Jvm.ClassFile.FieldType.int), Jvm.Cond.code ({ cls := "java/util/Arrays", name := "copyOf", desc := "([BI)[B" } : Jvm.MethodName) jdk_65_method_121_code (3 : Nat) (Option.some (Jvm.ClassFile.FieldType.array Jvm.ClassFile.FieldType.byte)), Jvm.Cond.code ({ cls := "java/lang/Math", name := "min", desc := "(II)I" } : Jvm.MethodName) jdk_29_method_69_code (2 : Nat) (Option.some Jvm.ClassFile.FieldType.int), Jvm.Cond.code ({ cls := "java/lang/AbstractStringBuilder", name := "putStringAt", desc := "(ILjava/lang/String;)V" } : Jvm.MethodName) jdk_68_method_73_code (3 : Nat) (Option.none : Option Jvm.ClassFile.FieldType), Jvm.Cond.code ({ cls := "java/lang/AbstractStringBuilder", name := "inflateIfNeededFor", desc := "(Ljava/lang/String;)V" } : Jvm.MethodName) jdk_68_method_71_code (2 : Nat) (Option.none : Option Jvm.ClassFile.FieldType), Jvm.Cond.code ({ cls := "java/lang/String", name := "getBytes", desc := "([BIB)V" } : Jvm.MethodName) jdk_42_method_147_code (4 : Nat) (Option.none : Option Jvm.ClassFile.FieldType), Jvm.Cond.code ({ cls := "com/example/tidy_injector/tidyinjector/bench/StartupGraph", name := "simpleName", desc := "(I)Ljava/lang/String;" } : Jvm.MethodName) prog_40_method_2_code (1 : Nat) (Option.some (Jvm.ClassFile.FieldType.object "java/lang/String")), Jvm.Cond.code ({ cls := "java/lang/StringBuilder", name := "append", desc := "(I)Ljava/lang/StringBuilder;" } : Jvm.MethodName) jdk_67_method_15_code (2 : Nat) (Option.some (Jvm.ClassFile.FieldType.object "java/lang/StringBuilder")), Jvm.Cond.code ({ cls := "java/lang/AbstractStringBuilder", name := "append", desc := "(I)Ljava/lang/AbstractStringBuilder;" } : Jvm.MethodName) jdk_68_method_32_code (4 : Nat) (Option.some (Jvm.ClassFile.FieldType.object "java/lang/AbstractStringBuilder")), Jvm.Cond.code ({ cls := "java/lang/Integer", name := "stringSize", desc := "(I)I" } : Jvm.MethodName) jdk_33_method_13_code (4 : Nat) (Option.some Jvm.ClassFile.FieldType.int), Jvm.Cond.code ({ cls := "java/lang/AbstractStringBuilder", name := "isLatin1", desc := "()Z" } : Jvm.MethodName) jdk_68_method_68_code (1 : Nat) (Option.some Jvm.ClassFile.FieldType.boolean), Jvm.Cond.code ({ cls := "java/lang/Integer", name := "getChars", desc := "(II[B)I" } : Jvm.MethodName) jdk_33_method_12_code (7 : Nat) (Option.some Jvm.ClassFile.FieldType.int), Jvm.Cond.code ({ cls := "java/lang/StringBuilder", name := "toString", desc := "()Ljava/lang/String;" } : Jvm.MethodName) jdk_67_method_42_code (1 : Nat) (Option.some (Jvm.ClassFile.FieldType.object "java/lang/String")), Jvm.Cond.code ({ cls := "java/lang/String", name := "<init>", desc := "(Ljava/lang/StringBuilder;)V" } : Jvm.MethodName) jdk_42_method_53_code (2 : Nat) (Option.none : Option Jvm.ClassFile.FieldType), Jvm.Cond.code ({ cls := "java/lang/String", name := "<init>", desc := "(Ljava/lang/AbstractStringBuilder;Ljava/lang/Void;)V" } : Jvm.MethodName) jdk_42_method_150_code (5 : Nat) (Option.none : Option Jvm.ClassFile.FieldType), Jvm.Cond.code ({ cls := "java/lang/AbstractStringBuilder", name := "getValue", desc := "()[B" } : Jvm.MethodName) jdk_68_method_64_code (1 : Nat) (Option.some (Jvm.ClassFile.FieldType.array Jvm.ClassFile.FieldType.byte)), Jvm.Cond.code ({ cls := "java/lang/StringBuilder", name := "length", desc := "()I" } : Jvm.MethodName) jdk_67_method_93_code (1 : Nat) (Option.some Jvm.ClassFile.FieldType.int), Jvm.Cond.code ({ cls := "java/lang/AbstractStringBuilder", name := "length", desc := "()I" } : Jvm.MethodName) jdk_68_method_6_code (1 : Nat) (Option.some Jvm.ClassFile.FieldType.int), Jvm.Cond.code ({ cls := "java/util/Arrays", name := "copyOfRange", desc := "([BII)[B" } : Jvm.MethodName) jdk_65_method_132_code (3 : Nat) (Option.some (Jvm.ClassFile.FieldType.array Jvm.ClassFile.FieldType.byte)), Jvm.Cond.code ({ cls := "java/util/Arrays", name := "copyOfRangeByte", desc := "([BII)[B" } : Jvm.MethodName) jdk_65_method_133_code (5 : Nat) (Option.some (Jvm.ClassFile.FieldType.array Jvm.ClassFile.FieldType.byte)), Jvm.Cond.code ({ cls := "java/util/Arrays", name := "checkLength", desc := "(II)V" } : Jvm.MethodName) jdk_65_method_131_code (2 : Nat) (Option.none : Option Jvm.ClassFile.FieldType), Jvm.Cond.code ({ cls := "com/example/tidy_injector/tidyinjector/bench/StartupGraphClassNamePinLaw", name := "digits", desc := "(J)I" } : Jvm.MethodName) method_3_code (2 : Nat) (Option.some Jvm.ClassFile.FieldType.int), Jvm.Cond.code ({ cls := "com/example/tidy_injector/tidyinjector/bench/StartupGraphClassNamePinLaw", name := "prefix", desc := "(Ljava/lang/String;Ljava/lang/String;)Z" } : Jvm.MethodName) method_6_code (2 : Nat) (Option.some Jvm.ClassFile.FieldType.boolean), Jvm.Cond.code ({ cls := "com/example/tidy_injector/tidyinjector/bench/StartupGraphClassNamePinLaw", name := "e", desc := "(Ljava/lang/String;Ljava/lang/String;I)Z" } : Jvm.MethodName) method_5_code (3 : Nat) (Option.some Jvm.ClassFile.FieldType.boolean), Jvm.Cond.code ({ cls := "java/lang/String", name := "charAt", desc := "(I)C" } : Jvm.MethodName) jdk_42_method_56_code (2 : Nat) (Option.some Jvm.ClassFile.FieldType.char), Jvm.Cond.code ({ cls := "java/lang/String", name := "isLatin1", desc := "()Z" } : Jvm.MethodName) jdk_42_method_154_code (1 : Nat) (Option.some Jvm.ClassFile.FieldType.boolean), Jvm.Cond.code ({ cls := "java/lang/StringLatin1", name := "charAt", desc := "([BI)C" } : Jvm.MethodName) jdk_43_method_2_code (2 : Nat) (Option.some Jvm.ClassFile.FieldType.char), Jvm.Cond.code ({ cls := "java/lang/String", name := "checkIndex", desc := "(II)V" } : Jvm.MethodName) jdk_42_method_155_code (2 : Nat) (Option.none : Option Jvm.ClassFile.FieldType), Jvm.Cond.code ({ cls := "jdk/internal/util/Preconditions", name := "checkIndex", desc := "(IILjava/util/function/BiFunction;)I" } : Jvm.MethodName) jdk_41_method_11_code (3 : Nat) (Option.some Jvm.ClassFile.FieldType.int), Jvm.Cond.code ({ cls := "com/example/tidy_injector/tidyinjector/bench/StartupGraphClassNamePinLaw", name := "dig", desc := "(Ljava/lang/String;IIJIJ)Z" } : Jvm.MethodName) method_4_code (10 : Nat) (Option.some Jvm.ClassFile.FieldType.boolean)]
set_option maxRecDepth 65536 in
theorem codes_eq : words1.filter isCode = codes1 := rfl
theorem w_codes : ∀ c ∈ words1.filter isCode, c.before args0 about1 = true := by
  rw [codes_eq]
  intro c hc
  simp only [codes1, List.mem_cons, List.not_mem_nil, or_false] at hc
  rcases hc with rfl | rfl | rfl | rfl | rfl | rfl | rfl | rfl | rfl | rfl | rfl | rfl | rfl | rfl | rfl | rfl | rfl | rfl | rfl | rfl | rfl | rfl | rfl | rfl | rfl | rfl | rfl | rfl | rfl | rfl | rfl | rfl | rfl | rfl | rfl | rfl | rfl | rfl | rfl | rfl | rfl | rfl
  · exact w_c0
  · exact w_c1
  · exact w_c2
  · exact w_c3
  · exact w_c4
  · exact w_c5
  · exact w_c6
  · exact w_c7
  · exact w_c8
  · exact w_c9
  · exact w_c10
  · exact w_c11
  · exact w_c12
  · exact w_c13
  · exact w_c14
  · exact w_c15
  · exact w_c16
  · exact w_c17
  · exact w_c18
  · exact w_c19
  · exact w_c20
  · exact w_c21
  · exact w_c22
  · exact w_c23
  · exact w_c24
  · exact w_c25
  · exact w_c26
  · exact w_c27
  · exact w_c28
  · exact w_c29
  · exact w_c30
  · exact w_c31
  · exact w_c32
  · exact w_c33
  · exact w_c34
  · exact w_c35
  · exact w_c36
  · exact w_c37
  · exact w_c38
  · exact w_c39
  · exact w_c40
  · exact w_c41
set_option maxRecDepth 65536 in
theorem w_t1 : (words1.take 24).all (fun c => isCode c || c.before args0 about1) = true := by decide +kernel
set_option maxRecDepth 65536 in
theorem w_t2 : ((words1.drop 24).take 24).all (fun c => isCode c || c.before args0 about1) = true := by decide +kernel
set_option maxRecDepth 65536 in
theorem w_t3 : (((words1.drop 24).drop 24).take 24).all (fun c => isCode c || c.before args0 about1) = true := by decide +kernel
set_option maxRecDepth 65536 in
theorem w_t4 : ((((words1.drop 24).drop 24).drop 24).take 24).all (fun c => isCode c || c.before args0 about1) = true := by decide +kernel
set_option maxRecDepth 65536 in
theorem w_t5 : (((((words1.drop 24).drop 24).drop 24).drop 24).take 24).all (fun c => isCode c || c.before args0 about1) = true := by decide +kernel
set_option maxRecDepth 65536 in
theorem w_t6 : ((((((words1.drop 24).drop 24).drop 24).drop 24).drop 24).take 24).all (fun c => isCode c || c.before args0 about1) = true := by decide +kernel
set_option maxRecDepth 65536 in
theorem w_t7 : (((((((words1.drop 24).drop 24).drop 24).drop 24).drop 24).drop 24).take 24).all (fun c => isCode c || c.before args0 about1) = true := by decide +kernel
set_option maxRecDepth 65536 in
theorem w_t8 : ((((((((words1.drop 24).drop 24).drop 24).drop 24).drop 24).drop 24).drop 24).take 24).all (fun c => isCode c || c.before args0 about1) = true := by decide +kernel
set_option maxRecDepth 65536 in
theorem w_t9 : (((((((((words1.drop 24).drop 24).drop 24).drop 24).drop 24).drop 24).drop 24).drop 24).take 24).all (fun c => isCode c || c.before args0 about1) = true := by decide +kernel
set_option maxRecDepth 65536 in
theorem w_t10 : (((((((((words1.drop 24).drop 24).drop 24).drop 24).drop 24).drop 24).drop 24).drop 24).drop 24).all (fun c => isCode c || c.before args0 about1) = true := by decide +kernel
theorem w_tables : (allAtoms (Jvm.Cond.code x code maxLocals ret :: tables_1)).before args0 about1 = true := by
  rw [allAtoms_all]
  show words1.all (fun c => c.before args0 about1) = true
  refine all_split ?_ w_codes
  rw [← List.take_append_drop 24 words1, List.all_append, w_t1, ← List.take_append_drop 24 (words1.drop 24), List.all_append, w_t2, ← List.take_append_drop 24 ((words1.drop 24).drop 24), List.all_append, w_t3, ← List.take_append_drop 24 (((words1.drop 24).drop 24).drop 24), List.all_append, w_t4, ← List.take_append_drop 24 ((((words1.drop 24).drop 24).drop 24).drop 24), List.all_append, w_t5, ← List.take_append_drop 24 (((((words1.drop 24).drop 24).drop 24).drop 24).drop 24), List.all_append, w_t6, ← List.take_append_drop 24 ((((((words1.drop 24).drop 24).drop 24).drop 24).drop 24).drop 24), List.all_append, w_t7, ← List.take_append_drop 24 (((((((words1.drop 24).drop 24).drop 24).drop 24).drop 24).drop 24).drop 24), List.all_append, w_t8, ← List.take_append_drop 24 ((((((((words1.drop 24).drop 24).drop 24).drop 24).drop 24).drop 24).drop 24).drop 24), List.all_append, w_t9, w_t10]
  rfl
set_option maxRecDepth 65536 in
theorem w_rest : rest_1_c.before args0 about1 = true := by decide +kernel
set_option maxRecDepth 65536 in
theorem w_case : (Jvm.Cond.and given_1 narrow_1).before args0 about1 = true := by decide +kernel
set_option maxRecDepth 65536 in
theorem w_consts : constsHeld consts_1 about1 := Jvm.Lit.constsHeldB_iff.mp (by decide +kernel)
theorem w_applies : (headSpec (Jvm.Cond.code x code maxLocals ret :: tables_1) room_1).applies x e0.platform about1 = true :=
  (Spec.applies_iff w_frames).mpr ⟨w_running, w_runnable, w_alone, w_named, w_hears, w_ripe, w_room, w_tables⟩
theorem atStart : AtStart classFile x code maxLocals ret World_1 tables_1 room_1 Calls_1 rest_1 Pre_1 launch0 p0 e0 about1 theMethod args0 below0 :=
  ⟨lists_1, trivial, launch0.admits_env _ _ _, launch0.least_env, fairChoices_fair.cas, fairChoices_fair.clock, w_frames, w_args, w_heap, w_applies, ⟨w_consts, trivial⟩, w_rest, w_case⟩
end start1
theorem witness_1 : WitnessClaimed_1 := ⟨start1.p0, start1.e0, start1.about1, start1.theMethod, start1.args0, start1.below0, start1.atStart⟩
end Jvm.Pilot.@@N@@
