import JvmDerived
import JvmDerived.Pilot.@@N@@Statement
import JvmDerived.Pilot.@@N@@Code
set_option linter.unusedVariables false
set_option linter.unusedSimpArgs false
/- laws to paste: Road.lenW, Road.codOf, pair_says, narrow_ch, chr8_lo8, lo8_mask, Road.wide_hi, Road.wide_lo, shr1, shr0 (cut by pick.py; bodies as the Statement names them) -/
namespace Jvm.Pilot.@@N@@
namespace StrChars
open Jvm Sem ClassFile Op Lib Jvm.Stand Jvm.Free.XT Jvm.Free.ALB Jvm.Free.JM Jvm.Free
open Jvm.Lib.Cold (StaticIs)
def lo8 (x : Int32) : Int32 := x.toInt8.toInt32
theorem lo8_mask {x : Int32} (h0 : ¬ x < 0) (h1 : ¬ 255 < x) : lo8 x &&& 255 = x := by
  have t : ∀ k : Fin 256, lo8 (Int32.ofNat k.val) &&& 255 = Int32.ofNat k.val := by decide +kernel
  rw [Int32.lt_iff_toInt_lt] at h0 h1
  have e0 : (0 : Int32).toInt = 0 := rfl
  have e1 : (255 : Int32).toInt = 255 := rfl
  obtain ⟨k, hk⟩ : ∃ k : Nat, x.toInt = k := ⟨x.toInt.toNat, by omega⟩
  have hx : x = Int32.ofNat k := Int32.toInt_inj.mp (by rw [hk, Int32.toInt_ofNat_small (by omega)])
  rw [hx]
  exact t ⟨k, by omega⟩
end StrChars
namespace StrChars.Road
open Jvm Sem ClassFile Op Lib Jvm.Stand Jvm.Free Jvm.Free.XT
open Jvm.Lib.Cold (StaticIs)
abbrev ST : String := "java/lang/String"
end StrChars.Road
namespace StrChars
open Jvm Sem ClassFile Op Lib Jvm.Stand Jvm.Free.XT Jvm.Free.ALB Jvm.Free.JM Jvm.Free
open Jvm.Lib.Cold (StaticIs)
def hi8 (x : Int32) : Int32 := lo8 (x >>> ((8 : Int32) &&& 31))
def pairCh (u v : Int32) : Int32 := (((u &&& 255) <<< ((0 : Int32) &&& 31)) ||| ((v &&& 255) <<< ((8 : Int32) &&& 31))).toUInt32.toUInt16.toUInt32.toInt32
theorem shr0 (c : Int32) : c >>> ((0 : Int32) &&& 31) = c := by
  have e : ((0 : Int32) &&& 31) = 0 := by decide
  rw [e]
  apply Int32.toBitVec_inj.mp
  rw [Int32.toBitVec_shiftRight]
  have e1 : ((0 : Int32).toBitVec.smod 32) = 0#32 := by decide
  rw [e1, BitVec.sshiftRight_eq']
  exact BitVec.sshiftRight_zero
theorem lo8_and (x : Int32) : (lo8 x &&& 255).toBitVec.toNat = x.toBitVec.toNat % 256 := by
  have h : (lo8 x).toBitVec = (x.toBitVec.signExtend 8).signExtend 32 := by rw [lo8, Int8.toBitVec_toInt32, Int32.toBitVec_toInt8]
  rw [Int32.toBitVec_and, BitVec.toNat_and, h]
  have e : ((x.toBitVec.signExtend 8).signExtend 32).toNat % 256 = x.toBitVec.toNat % 256 := by
    rw [BitVec.toNat_signExtend]
    have hlt := x.toBitVec.isLt
    simp only [BitVec.toNat_setWidth, BitVec.toNat_signExtend]
    split <;> split <;> omega
  rw [← e]
  exact Nat.and_two_pow_sub_one_eq_mod _ 8
theorem pair_says {c : Int32} (h0 : ¬ c < 0) (h1 : ¬ 65535 < c) : pairCh (lo8 c) (hi8 c) = c := by
  rw [Int32.lt_iff_toInt_lt] at h0 h1
  have e0 : (0 : Int32).toInt = 0 := rfl
  have e1 : (65535 : Int32).toInt = 65535 := rfl
  have hc : c.toInt = c.toBitVec.toNat := by
    have := c.toBitVec.isLt
    have e : c.toInt = c.toBitVec.toInt := rfl
    rw [e] at h0 h1
    rw [e]
    rw [BitVec.toInt_eq_toNat_cond] at h0 h1 ⊢
    split at h0 <;> split <;> omega
  have hn : c.toBitVec.toNat < 65536 := by omega
  have a1 := lo8_and c
  have a2 : (hi8 c &&& 255).toBitVec.toNat = c.toBitVec.toNat / 256 := by
    rw [hi8, lo8_and]
    have e : ((8 : Int32) &&& 31) = 8 := by decide
    rw [e, Int32.toBitVec_shiftRight]
    have e2 : ((8 : Int32).toBitVec.smod 32) = 8#32 := by decide
    rw [e2, BitVec.sshiftRight_eq', BitVec.toNat_sshiftRight_of_msb_false (by rw [BitVec.msb_eq_false_iff_two_mul_lt]; omega)]
    show c.toBitVec.toNat >>> 8 % 256 = _
    rw [Nat.shiftRight_eq_div_pow]
    omega
  unfold pairCh
  apply Int32.toBitVec_inj.mp
  apply BitVec.eq_of_toNat_eq
  have f0 : ((0 : Int32) &&& 31) = 0 := by decide
  have f8 : ((8 : Int32) &&& 31) = 8 := by decide
  rw [f0, f8]
  have g : (((lo8 c &&& 255) <<< (0 : Int32)) ||| ((hi8 c &&& 255) <<< (8 : Int32))).toBitVec.toNat = c.toBitVec.toNat := by
    rw [Int32.toBitVec_or, Int32.toBitVec_shiftLeft, Int32.toBitVec_shiftLeft]
    have s0 : ((0 : Int32).toBitVec.smod 32) = 0#32 := by decide
    have s8 : ((8 : Int32).toBitVec.smod 32) = 8#32 := by decide
    rw [s0, s8, BitVec.toNat_or]
    simp only [BitVec.shiftLeft_eq', BitVec.toNat_shiftLeft, a1, a2]
    show (c.toBitVec.toNat % 256) <<< 0 % 2 ^ 32 ||| (c.toBitVec.toNat / 256) <<< 8 % 2 ^ 32 = _
    rw [Nat.shiftLeft_zero, Nat.mod_eq_of_lt (show c.toBitVec.toNat % 256 < 2 ^ 32 by omega), Nat.mod_eq_of_lt (show (c.toBitVec.toNat / 256) <<< 8 < 2 ^ 32 by rw [Nat.shiftLeft_eq]; omega), Nat.or_comm, ← Nat.shiftLeft_add_eq_or_of_lt (by omega), Nat.shiftLeft_eq]
    omega
  show BitVec.toNat (((((lo8 c &&& 255) <<< (0 : Int32)) ||| ((hi8 c &&& 255) <<< (8 : Int32))).toBitVec.setWidth 16).setWidth 32) = _
  rw [BitVec.toNat_setWidth, BitVec.toNat_setWidth, g]
  omega
end StrChars
namespace StrChars
open Jvm Sem ClassFile Op Lib Jvm.Stand Jvm.Free.XT Jvm.Free.ALB Jvm.Free.JM Jvm.Free
open Jvm.Lib.Cold (StaticIs)
theorem shr1 {n : Nat} (h : 2 * n < 2 ^ 31) : Int32.ofNat (2 * n) >>> ((1 : Int32) &&& 31) = Int32.ofNat n := by
  have e : ((1 : Int32) &&& 31) = 1 := by decide
  rw [e]
  apply Int32.toBitVec_inj.mp
  rw [Int32.toBitVec_shiftRight]
  have e1 : ((1 : Int32).toBitVec.smod 32) = 1#32 := by decide
  have hm : (BitVec.ofNat 32 (2 * n)).toNat = 2 * n := by rw [BitVec.toNat_ofNat, Nat.mod_eq_of_lt (by omega)]
  rw [e1, BitVec.sshiftRight_eq']
  apply BitVec.eq_of_toNat_eq
  show ((BitVec.ofNat 32 (2 * n)).sshiftRight 1).toNat = (BitVec.ofNat 32 n).toNat
  rw [BitVec.toNat_sshiftRight_of_msb_false (by rw [BitVec.msb_eq_false_iff_two_mul_lt, hm]; omega), hm, BitVec.toNat_ofNat, Nat.shiftRight_eq_div_pow]
  omega
def chr8 (u : Int32) : Int32 := (u &&& 255).toUInt32.toUInt16.toUInt32.toInt32
theorem chr8_lo8 {c : Int32} (h0 : ¬ c < 0) (h1 : ¬ 255 < c) : chr8 (lo8 c) = c := by
  have t : ∀ k : Fin 256, (Int32.ofNat k.val).toUInt32.toUInt16.toUInt32.toInt32 = Int32.ofNat k.val := by decide +kernel
  unfold chr8
  rw [lo8_mask h0 h1]
  rw [Int32.lt_iff_toInt_lt] at h0 h1
  have e0 : (0 : Int32).toInt = 0 := rfl
  have e1 : (255 : Int32).toInt = 255 := rfl
  obtain ⟨k, hk⟩ : ∃ k : Nat, c.toInt = k := ⟨c.toInt.toNat, by omega⟩
  have hx : c = Int32.ofNat k := Int32.toInt_inj.mp (by rw [hk, Int32.toInt_ofNat_small (by omega)])
  rw [hx]
  exact t ⟨k, by omega⟩
theorem narrow_ch {c : Int32} (h0 : ¬ c < 0) (h1 : ¬ 65535 < c) : narrow .char (.int c) = .int c := by
  have q : narrow .char (.int (pairCh (lo8 c) (hi8 c))) = .int (pairCh (lo8 c) (hi8 c)) := narrow_c _
  rwa [pair_says h0 h1] at q
def Cod (cd : Int32) (n : Nat) (f : Nat → Int32) (V : Cell) : Prop := (cd = 0 ∧ V.slots.size = n ∧ ∀ j, j < n → V.slots[j]? = some (.int (lo8 (f j))) ∧ ¬ 255 < f j) ∨ (cd = 1 ∧ V.slots.size = 2 * n ∧ (∀ j, j < n → V.slots[2 * j]? = some (.int (lo8 (f j))) ∧ V.slots[2 * j + 1]? = some (.int (hi8 (f j)))) ∧ ∃ j, j < n ∧ 255 < f j)
theorem Cod.cd {cd : Int32} {n : Nat} {f : Nat → Int32} {V : Cell} (h : Cod cd n f V) : cd = 0 ∨ cd = 1 := h.imp (fun q => q.1) fun q => q.1
theorem Cod.len {cd : Int32} {n : Nat} {f : Nat → Int32} {V : Cell} (h : Cod cd n f V) (hs : V.slots.size < 2 ^ 31) : Int32.ofNat V.slots.size >>> (cd &&& 31) = Int32.ofNat n := by
  rcases h with ⟨rfl, h, -⟩ | ⟨rfl, h, -⟩
  · rw [shr0, h]
  · rw [h, shr1 (by omega)]
def Txt (x t : Addr) (V : Cell) (cd : Int32) (n : Nat) (f : Nat → Int32) (U : State) : Prop := Exact "java/lang/String" x U ∧ Has x "java/lang/String" "value" "[B" (.ref t) U ∧ Has x "java/lang/String" "coder" "B" (.int cd) U ∧ XT.Arr .byte t V U ∧ Cod cd n f V ∧ ∀ j, j < n → ¬ f j < 0 ∧ ¬ 65535 < f j
theorem Txt.mv {x t : Addr} {V : Cell} {cd : Int32} {n : Nat} {f : Nat → Int32} {U U' : State} (h : Txt x t V cd n f U) (hal : U.vm.Alike U'.vm) (hh : U'.heap = U.heap) : Txt x t V cd n f U' := ⟨h.1.mv hal hh, h.2.1.mv hal hh, h.2.2.1.mv hal hh, h.2.2.2.1.mv hal hh, h.2.2.2.2⟩
namespace Cdr
def yN : MethodName := ⟨"java/lang/String", "coder", "()B"⟩
abbrev yB : ByteArray := jdk_42_method_152_code
theorem d0 : decode yB 0 = .ok (.getstatic 38, 3) := by decide +kernel
theorem d3 : decode yB 3 = .ok (.ifCond (.eq) 10, 3) := by decide +kernel
theorem d6 : decode yB 6 = .ok (.aload_n 0, 1) := by decide +kernel
theorem d7 : decode yB 7 = .ok (.getfield 15, 3) := by decide +kernel
theorem d10 : decode yB 10 = .ok (.goto 4, 3) := by decide +kernel
theorem d14 : decode yB 14 = .ok (.ireturn, 1) := by decide +kernel
def site : List Cond := [.fieldLink "java/lang/String" 38 "java/lang/String" "COMPACT_STRINGS" "Z", .fieldLink "java/lang/String" 15 "java/lang/String" "coder" "B"]
def tab : Cond := tabOf yN yB 1 (some .byte) site
def P (x : Addr) (cd z : Int32) (args : Array Value) (s : State) : Prop := args = #[.ref x] ∧ Has x "java/lang/String" "coder" "B" (.int cd) s ∧ (cd = 0 ∨ cd = 1) ∧ StaticIs s "java/lang/String" "COMPACT_STRINGS" "Z" (.int z) ∧ ¬ z = 0
def E (cd : Int32) (r : Option Value) (s u : State) : Prop := XT.PureE (some (.int cd)) r s u
theorem law (l : Launch) (x : Addr) (cd z : Int32) : Law l yN 1 0 0 0 yB 1 (some .byte) site (P x cd z) (E cd) [] 0 0 := by
  refine Law.of_walk (plainFor_of_name (by decide +kernel)) (by decide +kernel) (by decide +kernel) (by decide) (fun _ _ h => by rw [h.1]; rfl) (fun _ U U' hal hh h => ⟨h.1, h.2.1.mv hal hh, h.2.2.1, h.2.2.2.1.there hal hh, h.2.2.2.2⟩) (fun r U U' V V' h1 hal h2 h => XT.PureE.mv r U U' V V' h1 hal h2 h) ?_
  intro p e s m args below meth c s₁ X0 hexec hbytes hml hret hlk hnm hown hh0 W hP
  obtain ⟨rfl, hx, hc, s1, hz⟩ := hP
  have c1 : Steps p.tables e below (s₁.setTop (entryFrame m #[.ref x] 1)) (s₁.setTop (mkF m 0 #[.val (.ref x)] [])) := entry rfl
  obtain ⟨T2, X2, q2, st2⟩ := X0.sget hexec hown (wk W (.fieldLink "java/lang/String" 38 "java/lang/String" "COMPACT_STRINGS" "Z")) s1 (fun _ _ h => by rw [hh0]; exact h) (g := (mkF m 0 #[.val (.ref x)] [])) rfl (hb hbytes d0)
  have hh2 := q2.trans hh0
  have c3 : Steps p.tables e below (s₁.setTop (entryFrame m #[.ref x] 1)) (T2.setTop (mkF m 7 #[.val (.ref x)] [.ref x])) := (c1.trans (st2 _ (Steps.refl _))).trans (by
    refine XS.ifNo X2.here hexec rfl (hb hbytes d3) rfl (i0_eq_f hz) ?_
    refine XS.aloadN X2.here hexec rfl (hb hbytes d6) rfl rfl ?_
    exact Steps.refl _)
  obtain ⟨T4, X4, q4, st4⟩ := X2.hget hexec hown (wk W (.fieldLink "java/lang/String" 15 "java/lang/String" "coder" "B")) (hx.mv X2.warmed.alike hh2) (g := (mkF m 7 #[.val (.ref x)] [.ref x])) rfl (rest := []) rfl (hb hbytes d7)
  have c5 : Steps p.tables e below (s₁.setTop (entryFrame m #[.ref x] 1)) (T4.setTop (mkF m 14 #[.val (.ref x)] [.int cd])) := (c3.trans (st4 _ (Steps.refl _))).trans (by
    refine XS.goto X4.here hexec rfl (pc0 := 10) rfl (hb hbytes d10) (by decide) rfl ?_
    exact Steps.refl _)
  exact ⟨T4, some (.int cd), _, _, _, X4, rfl, rfl, rfl, (fun h => by cases h), ⟨rfl, q4.trans hh2⟩, fun fs hl => c5.trans (X4.ireturnOut hexec hret (by rcases hc with rfl | rfl <;> rfl) (Or.inr (Or.inr (Or.inl rfl))) (hb hbytes d14) hl)⟩
end Cdr
namespace Len
def yN : MethodName := ⟨"java/lang/String", "length", "()I"⟩
abbrev yB : ByteArray := jdk_42_method_54_code
theorem d0 : decode yB 0 = .ok (.aload_n 0, 1) := by decide +kernel
theorem d1 : decode yB 1 = .ok (.getfield 9, 3) := by decide +kernel
theorem d4 : decode yB 4 = .ok (.arraylength, 1) := by decide +kernel
theorem d5 : decode yB 5 = .ok (.aload_n 0, 1) := by decide +kernel
theorem d6 : decode yB 6 = .ok (.invokevirtual 335, 3) := by decide +kernel
theorem d9 : decode yB 9 = .ok (.ishr, 1) := by decide +kernel
theorem d10 : decode yB 10 = .ok (.ireturn, 1) := by decide +kernel
def site : List Cond := [.fieldLink "java/lang/String" 9 "java/lang/String" "value" "[B", Cdr.tab] ++ virtW "java/lang/String" 335 "java/lang/String" Cdr.yN Cdr.yN
def tab : Cond := tabOf yN yB 1 (some .int) site
def P (x t : Addr) (V : Cell) (cd : Int32) (n : Nat) (f : Nat → Int32) (z : Int32) (args : Array Value) (s : State) : Prop := args = #[.ref x] ∧ Txt x t V cd n f s ∧ StaticIs s "java/lang/String" "COMPACT_STRINGS" "Z" (.int z) ∧ ¬ z = 0
def E (n : Nat) (r : Option Value) (s u : State) : Prop := XT.PureE (some (.int (Int32.ofNat n))) r s u
theorem law (l : Launch) (x t : Addr) (V : Cell) (cd : Int32) (n : Nat) (f : Nat → Int32) (z : Int32) : Law l yN 1 0 1 13 yB 1 (some .int) site (P x t V cd n f z) (E n) [] 0 0 := by
  refine Law.of_walk (plainFor_of_name (by decide +kernel)) (by decide +kernel) (by decide +kernel) (by decide) (fun _ _ h => by rw [h.1]; rfl) (fun _ U U' hal hh h => ⟨h.1, h.2.1.mv hal hh, h.2.2.1.there hal hh, h.2.2.2⟩) (fun r U U' V V' h1 hal h2 h => XT.PureE.mv r U U' V V' h1 hal h2 h) ?_
  intro p e s m args below meth c s₁ X0 hexec hbytes hml hret hlk hnm hown hh0 W hP
  obtain ⟨rfl, hx, s1, hz⟩ := hP
  have v31 := hx.2.2.2.1.2.2.2
  have c1 : Steps p.tables e below (s₁.setTop (entryFrame m #[.ref x] 1)) (s₁.setTop (mkF m 1 #[.val (.ref x)] [.ref x])) := Steps.trans (entry rfl) (by
    show Steps p.tables e below (s₁.setTop (mkF m 0 #[.val (.ref x)] [])) _
    refine XS.aloadN X0.here hexec rfl (hb hbytes d0) rfl rfl ?_
    exact Steps.refl _)
  obtain ⟨T2, X2, q2, st2⟩ := X0.hget hexec hown (wk W (.fieldLink "java/lang/String" 9 "java/lang/String" "value" "[B")) (hx.mv X0.warmed.alike hh0).2.1 (g := (mkF m 1 #[.val (.ref x)] [.ref x])) rfl (rest := []) rfl (hb hbytes d1)
  have hh2 := q2.trans hh0
  have hx2 := hx.mv X2.warmed.alike hh2
  have c3 : Steps p.tables e below (s₁.setTop (entryFrame m #[.ref x] 1)) (T2.setTop (mkF m 6 #[.val (.ref x)] [.ref x, .int (Int32.ofNat V.slots.size)])) := (c1.trans (st2 _ (Steps.refl _))).trans (by
    refine X2.alen hexec hx2.2.2.2.1 rfl rfl (hb hbytes d4) ?_
    refine XS.aloadN X2.here hexec rfl (hb hbytes d5) rfl rfl ?_
    exact Steps.refl _)
  obtain ⟨v4, T4, X4, E4, g4⟩ := X2.callV hexec (Cdr.law l x cd z) hown (wks W (virtW "java/lang/String" 335 "java/lang/String" Cdr.yN Cdr.yN)) rfl (by decide) (wk W Cdr.tab) (W := 1) (Nat.le_of_ble_eq_true rfl) (Nat.le_of_ble_eq_true rfl) (Nat.le_refl _) (Nat.le_refl _) (hx2.1.fc X2.warmed.alike) hx2.1.is (g := (mkF m 6 #[.val (.ref x)] [.ref x, .int (Int32.ofNat V.slots.size)])) rfl (by rw [hml]; rfl) c3 (argsL := []) (rest := [.int (Int32.ofNat V.slots.size)]) rfl rfl (by show 2 * 0 + (1 + 0) ≤ _; decide) (hb hbytes d6) (⟨rfl, hx2.2.2.1, hx.2.2.2.2.1.cd, s1.there X2.warmed.alike hh2, hz⟩)
  obtain ⟨rfl, q4⟩ := E4
  have c5 : Steps p.tables e below (s₁.setTop (entryFrame m #[.ref x] 1)) (T4.setTop (mkF m 10 #[.val (.ref x)] [.int (Int32.ofNat V.slots.size >>> (cd &&& 31))])) := Steps.trans g4 (by
    refine ishr X4.here hexec rfl (hb hbytes d9) rfl ?_
    exact Steps.refl _)
  rw [hx.2.2.2.2.1.len v31] at c5
  exact ⟨T4, some (.int (Int32.ofNat n)), _, _, _, X4, rfl, rfl, rfl, (fun h => by cases h), ⟨rfl, q4.trans hh2⟩, fun fs hl => c5.trans (X4.ireturnOut hexec hret rfl (Or.inl rfl) (hb hbytes d10) hl)⟩
theorem pays {l : Launch} {R : Room} {p : Program} {e : Env} {below : List Frame} {s : State} {sargs : Array Value} {len W : Nat} (x t : Addr) (V : Cell) (cd : Int32) (n : Nat) (f : Nat → Int32) (z : Int32) (htab : tab.before sargs s = true) (hfr : 2 ≤ R.frames) (hlo : W + 25 ≤ R.locals) :
    Back l R p e below s sargs yN len W (fun A₁ a₁ => A₁.cells + 0 ≤ R.cells ∧ A₁.slots + 0 ≤ R.slots ∧ P x t V cd n f z a₁ A₁.U) (fun A₁ _ v₁ B₁ => E n v₁ A₁.U B₁.U ∧ B₁.locs = A₁.locs ++ [] ∧ B₁.cells = A₁.cells + 0 ∧ B₁.slots = A₁.slots + 0) :=
  (law l x t V cd n f z).pays htab hfr (by omega)
end Len
end StrChars
namespace StrChars.Road
open Jvm Sem ClassFile Op Lib Jvm.Stand Jvm.Free Jvm.Free.XT
open Jvm.Lib.Cold (StaticIs)
theorem consq {a : Array Value} {s : State} {c : Jvm.Cond} {L : List Jvm.Cond} (h0 : c.before a s = true) (h : ∀ w ∈ L, w.before a s = true) : ∀ w ∈ c :: L, w.before a s = true := fun w hw => (List.mem_cons.mp hw).elim (fun e => e ▸ h0) (h w)
abbrev wordsLen : List Jvm.Cond := [.code Len.yN Len.yB 1 (some .int), .initialized ST, .fieldLink ST 9 ST "value" "[B", .fieldLink ST 38 ST "COMPACT_STRINGS" "Z", .fieldLink ST 15 ST "coder" "B", .code Cdr.yN Cdr.yB 1 (some .byte), .methodLink ST 335 Cdr.yN, .declares Cdr.yN, .selects ST Cdr.yN Cdr.yN, .instanceMethod Cdr.yN]
theorem tabLen_of {a : Array Value} {s : State} (h : ∀ w ∈ wordsLen, w.before a s = true) : Len.tab.before a s = true := by
  have hc : Cdr.tab.before a s = true := unparts (wk h (.code Cdr.yN Cdr.yB 1 (some .byte))) (wks h (.initialized Cdr.yN.cls :: Cdr.site))
  have q := consq hc h
  exact unparts (wk q (.code Len.yN Len.yB 1 (some .int))) (wks q (.initialized Len.yN.cls :: Len.site))
theorem movedLen {Z s : State} {a0 args : Array Value} (hZ : Z.Warmed39 s.vm) (hw : ∀ d ∈ wordsLen, d.before a0 Z = true) : ∀ d ∈ wordsLen, d.before args s = true := fun d hd => by
  have q := hw d hd
  have t : ∀ d ∈ wordsLen, d = .arrayClass .byte ∨ (d.onTables && d.keepsFace) = true := by decide +kernel
  rcases t d hd with rfl | t
  · exact RoadKit.mvA hZ q
  · exact RoadKit.mv hZ q t
def wideBytes : List Int32 → List Value
  | [] => []
  | c :: cs => .int (lo8 c) :: .int (hi8 c) :: wideBytes cs
theorem wide_lo (d : Value) : ∀ (cs : List Int32) (j : Nat), j < cs.length → (wideBytes cs).getD (2 * j) d = .int (lo8 (cs.getD j 0))
  | [], j, h => absurd h (Nat.not_lt_zero j)
  | c :: cs, 0, _ => rfl
  | c :: cs, j + 1, h => by
    have q := wide_lo d cs j (by simpa using h)
    rw [show 2 * (j + 1) = 2 * j + 1 + 1 from by omega]
    simpa [wideBytes] using q
theorem wide_hi (d : Value) : ∀ (cs : List Int32) (j : Nat), j < cs.length → (wideBytes cs).getD (2 * j + 1) d = .int (hi8 (cs.getD j 0))
  | [], j, h => absurd h (Nat.not_lt_zero j)
  | c :: cs, 0, _ => rfl
  | c :: cs, j + 1, h => by
    have q := wide_hi d cs j (by simpa using h)
    rw [show 2 * (j + 1) + 1 = 2 * j + 1 + 1 + 1 from by omega]
    simpa [wideBytes] using q
theorem low_at (d : Value) (cs : List Int32) (j : Nat) (h : j < cs.length) : (cs.map fun c => Value.int (lo8 c)).getD j d = .int (lo8 (cs.getD j 0)) := by
  simp [List.getD_eq_getElem?_getD, h]
def CodA (cs : List Int32) (cd N2 : Int32) (vs : List Value) : Prop := (cd = 0 ∧ N2 = Int32.ofNat cs.length ∧ vs = (cs.map fun c => Value.int (lo8 c)) ∧ ∀ c ∈ cs, ¬ 255 < c) ∨ (cd = 1 ∧ N2 = Int32.ofNat (2 * cs.length) ∧ vs = wideBytes cs ∧ ∃ c ∈ cs, 255 < c)
theorem CodA.cod {cs : List Int32} {cd N2 : Int32} {vs : List Value} {V : Cell} (h : CodA cs cd N2 vs) (hn : 2 * cs.length < 2 ^ 31) (hs : V.slots.size = N2.toNatClampNeg) (hv : RoadKit.Has V vs (.int 0)) : Cod cd cs.length (fun j => cs.getD j 0) V := by
  rcases h with ⟨rfl, rfl, rfl, h⟩ | ⟨rfl, rfl, rfl, c, hc, hw⟩
  · rw [n32 (by omega)] at hs
    exact Or.inl ⟨rfl, hs, fun j hj => ⟨by rw [hv j (by omega), low_at _ _ _ hj], by
      have e : cs.getD j 0 = cs[j] := by simp [List.getD_eq_getElem?_getD, hj]
      show ¬ 255 < cs.getD j 0
      rw [e]; exact h _ (List.getElem_mem _)⟩⟩
  · rw [n32 (by omega)] at hs
    obtain ⟨j, hj, rfl⟩ := List.getElem_of_mem hc
    exact Or.inr ⟨rfl, hs, fun j hj => ⟨by rw [hv _ (by omega), wide_lo _ _ _ hj], by rw [hv _ (by omega), wide_hi _ _ _ hj]⟩, j, hj, by
      have e : cs.getD j 0 = cs[j] := by simp [List.getD_eq_getElem?_getD, hj]
      show 255 < cs.getD j 0
      rw [e]; exact hw⟩
theorem strObj {Z U : State} {a0 : Array Value} {kI : Nat} (wi : (Jvm.Cond.instantiable ST kI).before a0 Z = true) (al : Z.vm.Alike U.vm) {x : Addr} {v0 c0 : Value} (E : RoadKit.Exa Z U.heap x ST) (V : RoadKit.Fld Z U.heap x ST "value" "[B" v0) (C : RoadKit.Fld Z U.heap x ST "coder" "B" c0) :
    ∃ (D : Cell) (fV fC : Field), Blank ST x D U ∧ Found ST "value" "[B" fV U ∧ Found ST "coder" "B" fC U ∧ D.slots[fV.slot]? = some v0 ∧ D.slots[fC.slot]? = some c0 ∧ RoadKit.slotOf Z ST "value" "[B" = fV.slot ∧ RoadKit.slotOf Z ST "coder" "B" = fC.slot := by
  obtain ⟨D, cfV, kV, iV, fV, hD, gV, stV, knV, obV, asV, slV⟩ := V
  obtain ⟨D', cfC, kC, iC, fC, hD', gC, stC, -, -, asC, slC⟩ := C
  cases hD.symm.trans hD'
  obtain ⟨D2, kD, e1, e2, e3, e4, e5⟩ := E
  cases hD.symm.trans e1
  obtain ⟨c2, k2, i1, i2, i3, -⟩ := Cond.instantiable_spec wi
  cases e2.symm.trans i1
  cases e3.symm.trans i2
  obtain ⟨kU, u1, u2⟩ := al.2.2 _ _ e3
  exact ⟨D, fV, fC, ⟨hD, ⟨knV, fun q hq => by rw [hq] at obV; cases obV⟩, by rw [al.findClass]; exact e2, kU, u1, by rw [u2]; exact i3, by rw [u2]; exact e5 i3⟩, ⟨SBG.found_only al ⟨cfV, kV, iV, gV⟩, stV⟩, ⟨SBG.found_only al ⟨cfC, kC, iC, gC⟩, stC⟩, slV, slC, by simp [RoadKit.slotOf, gV], by simp [RoadKit.slotOf, gC]⟩
theorem sta_is {Z U : State} (al : Z.vm.Alike U.vm) {C n d : String} {v : Value} (S : RoadKit.Sta Z U.heap C n d v) : StaticIs U C n d v := by
  obtain ⟨cfS, iS, kS, fS, st, cS, t1, t2, t3, t4, t5, t6, t7⟩ := S
  exact StaticIs.there (s := { Z with heap := U.heap }) ⟨cfS, iS, kS, fS, st, cS, t1, t2, t3, t4, t5, (fun q => by rw [q] at t6; cases t6), t7⟩ al rfl
theorem lenW {p : Program} {l : Launch} {e : Env} {R : Room} {s : State} {args : Array Value} {below : List Frame} {len W : Nat} {Z : State} {a0 : Array Value} {h : Heap} (hZ : Z.Warmed39 s.vm) (hw : ∀ d ∈ wordsLen, d.before a0 Z = true) {kI : Nat} (wi : (Jvm.Cond.instantiable ST kI).before a0 Z = true)
    {x t : Addr} {kb : ClassId} {cs : List Int32} {cd N2 z : Int32} {vs : List Value} (E : RoadKit.Exa Z h x ST) (V : RoadKit.Fld Z h x ST "value" "[B" (.ref t)) (C : RoadKit.Fld Z h x ST "coder" "B" (.int cd)) (K : RoadKit.Arv Z h t kb .byte N2 vs (.int 0)) (hc : CodA cs cd N2 vs) (hb : ∀ c ∈ cs, ¬ c < 0 ∧ ¬ (65535 : Int32) < c)
    (S : RoadKit.Sta Z h ST "COMPACT_STRINGS" "Z" (.int z)) (hz : ¬ z = 0) (l2 : cs.length ≤ 4000) (hfr : 2 ≤ R.frames) (hlo : W + 25 ≤ R.locals) :
    Back l R p e below s args (⟨"java/lang/String", "length", "()I"⟩ : MethodName) len W (fun P a => a = #[.ref x] ∧ P.U.heap = h ∧ P.cells + 0 ≤ R.cells ∧ P.slots + 0 ≤ R.slots)
      (fun P _ v B => ∃ L, (v = some (.int (Int32.ofNat cs.length)) ∧ L = [] ∧ B.U.heap = h) ∧ B.locs = P.locs ++ L ∧ B.cells = P.cells + 0 ∧ B.slots = P.slots + 0) := by
  obtain ⟨A, K1, K2, K3, K4, K5, K6⟩ := K
  have hcod := hc.cod (by omega) K3 K5
  intro m meth c P g ig mk a X hg hsize hdg hW hn hp'
  obtain ⟨rfl, rfl, r1, r2⟩ := hp'
  have al : Z.vm.Alike P.U.vm := hZ.alike.trans X.warmed.alike
  obtain ⟨D, fV, fC, hB, F1, F2, g1, g2, -, -⟩ := strObj wi al E V C
  have hx : Txt x t A cd cs.length (fun j => cs.getD j 0) P.U := ⟨⟨_, hB.2.2.1, D, hB.1, rfl, by cases q : D.vm <;> first | rfl | exact absurd q (hB.2.1.2 _)⟩, Has.of hB F1 g1, Has.of hB F2 g2, ⟨K1.1, State.isArrayOf_alike al K1.2.1, K1.2.2, by rcases hcod with ⟨-, q, -⟩ | ⟨-, q, -⟩ <;> omega⟩, hcod, fun j hj => by
    have e : cs.getD j 0 = cs[j] := by simp [List.getD_eq_getElem?_getD, hj]
    show ¬ cs.getD j 0 < 0 ∧ ¬ 65535 < cs.getD j 0
    rw [e]; exact hb _ (List.getElem_mem _)⟩
  obtain ⟨v, B, X', ⟨⟨hv, hh⟩, hl, hk, hs⟩, st⟩ := Len.pays x t A cd cs.length (fun j => cs.getD j 0) z (tabLen_of (movedLen hZ hw)) hfr hlo m meth c P g ig mk _ X hg hsize hdg hW hn ⟨r1, r2, rfl, hx, sta_is al S, hz⟩
  exact ⟨v, B, X', ⟨[], ⟨hv, rfl, hh⟩, hl, hk, hs⟩, st⟩
end StrChars.Road
namespace StrChars.Road
open Jvm Sem ClassFile Op Lib Jvm.Stand Jvm.Free Jvm.Free.XT
open Jvm.Lib.Cold (StaticIs)
theorem codOf {cs : List Int32} {n : Nat} (hn : cs.length = n) (hb : ∀ c ∈ cs, ¬ 255 < c) : CodA cs 0 (Int32.ofNat n) ((cs.map lo8).map Value.int) := Or.inl ⟨rfl, by rw [hn], by simp [List.map_map, Function.comp_def], hb⟩
end StrChars.Road
end Jvm.Pilot.@@N@@

namespace Jvm.Pilot.@@N@@
open Jvm Jvm.ClassFile Sem Op Lib Jvm.Free Jvm.Stand Jvm.LawKit Jvm.RoadKit Bundle Jvm.Pilot.@@N@@.Jvm.D
section Own
variable {p : Program} {l : Launch} {e : Env} {R : Room} {s : State} {m : MethodId} {args : Array Value} {below : List Frame} {meth : Method} {c : Code} {T : State} {locs : List Loc} {cells slots : Nat} {P : Outcome → State → Prop}
/-- from S the run comes to an end that answers -/
def own_Fin (p : Program) (e : Env) (below : List Frame) (P : Outcome → State → Prop) (S : State) : Prop := ∃ s₂ o, Steps p.tables e below S s₂ ∧ s₂.status = .running ∧ Ended s₂ below o ∧ P o s₂
def own_Ans (s : State) (Q : Option Value → Heap → List Loc → Prop) (k n : Nat) (o : Outcome) (t : State) : Prop := ∃ v L, o = .returned v ∧ Q v t.heap L ∧ FrameEnd s o t L k n
theorem own_on {A B : State} (k : ∀ t, Steps p.tables e below B t → Steps p.tables e below A t) (h : own_Fin p e below P B) : own_Fin p e below P A := by
  obtain ⟨s₂, o, h1, h2⟩ := h
  exact ⟨s₂, o, k _ h1, h2⟩
theorem own_via {A B : State} (k : Steps p.tables e below A B) (h : own_Fin p e below P B) : own_Fin p e below P A := own_on (fun _ r => k.trans r) h
theorem own_cast {g g' : JFrame} (q : g = g') (h : own_Fin p e below P (T.setTop g')) : own_Fin p e below P (T.setTop g) := q ▸ h
theorem own_ret {Q : Option Value → Heap → List Loc → Prop} {k n : Nat} (X : Stand p l e R s m args below meth c T locs cells slots) (hx : p.tables.exec = Jvm.exec) (hlk : meth.locks = false) {pc : Nat} {Ls : Array Slot} {w : Value} {t : FieldType} {i : Instr} {rest : List Value} (hret : meth.sig.returnType = some t) (hn : narrow t w = w)
    (hi : (i = .ireturn ∧ (t = .int ∨ t = .boolean ∨ t = .byte ∨ t = .char ∨ t = .short) ∧ ∃ z, w = .int z) ∨ (i = .lreturn ∧ t = .long ∧ ∃ z, w = .long z) ∨ (i = .dreturn ∧ t = .double ∧ ∃ z, w = .double z) ∨ (i = .freturn ∧ t = .float ∧ ∃ z, w = .float z) ∨ (i = .areturn ∧ t.isReference = true ∧ w.isRef = true))
    (hd : decode c.code pc = .ok (i, 1)) (hQ : Q (some w) T.heap locs) (hk : cells ≤ k) (hs : slots ≤ n) : own_Fin p e below (own_Ans s Q k n) (T.setTop (mkF m pc Ls (w :: rest))) := by
  obtain ⟨fs, hr, hrun, hended, hW, hsame⟩ := X.leave (v := some w) (fun h => by rw [hret] at h; cases h) hlk
  exact ⟨_, _, retOut X hx hret hn hi hd hr, hrun, hended, _, _, rfl, hQ, ⟨_, rfl⟩, hW, hsame.mono hk hs⟩
theorem own_retV {Q : Option Value → Heap → List Loc → Prop} {k n : Nat} (X : Stand p l e R s m args below meth c T locs cells slots) (hx : p.tables.exec = Jvm.exec) (hlk : meth.locks = false) {pc : Nat} {Ls : Array Slot} (hret : meth.sig.returnType = none)
    (hd : decode c.code pc = .ok (.return_, 1)) (hQ : Q none T.heap locs) (hk : cells ≤ k) (hs : slots ≤ n) : own_Fin p e below (own_Ans s Q k n) (T.setTop (mkF m pc Ls [])) := by
  obtain ⟨fs, hr, hrun, hended, hW, hsame⟩ := X.leave (v := none) (fun _ => rfl) hlk
  exact ⟨_, _, X.returnOut hx hret hd hr, hrun, hended, _, _, rfl, hQ, ⟨_, rfl⟩, hW, hsame.mono hk hs⟩
theorem own_b1 {P : Prop} [Decidable P] (h : P) : ¬ ((if P then (1 : Int32) else 0) = 0) := by simp [h]
theorem own_b0 {P : Prop} [Decidable P] (h : ¬ P) : (if P then (1 : Int32) else 0) = 0 := by simp [h]
theorem own_nb {P : Prop} [Decidable P] : narrow .boolean (.int (if P then (1 : Int32) else 0)) = .int (if P then (1 : Int32) else 0) := by split <;> rfl
theorem own_iI {t : FieldType} (h : t = .int ∨ t = .boolean ∨ t = .byte ∨ t = .char ∨ t = .short) {w : Value} {z : Int32} (hw : w = .int z) : ((Instr.ireturn = .ireturn ∧ (t = .int ∨ t = .boolean ∨ t = .byte ∨ t = .char ∨ t = .short) ∧ ∃ z, w = .int z) ∨ (Instr.ireturn = .lreturn ∧ t = .long ∧ ∃ z, w = .long z) ∨ (Instr.ireturn = .dreturn ∧ t = .double ∧ ∃ z, w = .double z) ∨ (Instr.ireturn = .freturn ∧ t = .float ∧ ∃ z, w = .float z) ∨ (Instr.ireturn = .areturn ∧ t.isReference = true ∧ w.isRef = true)) := Or.inl ⟨rfl, h, z, hw⟩
theorem own_ne_of {Z : State} {h : Heap} {x : Addr} (q : x < h.size) {b : Addr} (g : b = h.size) : x ≠ b := Nat.ne_of_lt (Nat.lt_of_lt_of_le q (Nat.le_of_eq g.symm))
theorem own_eqf {a0 : Array Value} {C n d : String} {t : Term} {a : Addr} {k : Int32} (ev : t.eval a0 s none [] s = some (.ref a)) (h : (Jvm.Cond.eq (.field t C n d) (.int k)).value a0 s none s [] = some true) : Fld s s.heap a C n d (.int k) := by
  obtain ⟨x, y, h1, h2, h3, -⟩ := cmp_v (Or.inl h)
  have hy : y = .int k := (Option.some.inj ((show (Term.int k).eval a0 s none [] s = some (.int k) from rfl).symm.trans h2)).symm
  subst hy
  cases x <;> simp [Kin, Value.isRef] at h3
  rename_i z
  have hz : z = k := by
    have q := h
    simp only [Cond.value, h1, show (Term.int k).eval a0 s none [] s = some (.int k) from rfl] at q
    simpa using q
  subst hz
  exact Fld.start ((fld_at ev).symm.trans h1)
theorem own_nf {a0 : Array Value} {C : String} {y z y' : MethodName} (hsel : (Jvm.Cond.selects C y z).before a0 s = true) (hc : y'.cls = z.cls) : NotFace s y' := fun r0 h0 => by
  obtain ⟨c2, r2, m2, q1, q2, q3, q4, kP, hkP, hkPi⟩ := Cond.selects_spec hsel
  have e1 := findClass_of_methodNamed h0
  have e2 := findClass_of_methodNamed q3
  rw [hc] at e1
  have e3 : r0.cls = m2.cls := Option.some.inj (e1.symm.trans e2)
  exact ⟨kP, by rw [e3]; exact hkP, hkPi⟩
theorem own_len {a0 : Array Value} {t : Term} {a : Addr} {cl : Cell} {z : Int32} (ht : t.eval a0 s none [] s = some (.ref a)) (ha : s.arrayAt? a = some cl) (h : (Term.length t).eval a0 s none [] s = some (.int z)) : cl.slots.size < 2 ^ 31 ∧ cl.slots.size.toInt32 = z := by
  by_cases hl : cl.slots.size < 2 ^ 31
  · rw [len_f ht ha hl] at h
    exact ⟨hl, by simpa using h⟩
  · have hl' : ¬ cl.slots.size < 2147483648 := hl
    simp [Term.eval, ht, ha, hl'] at h
theorem own_sub {a0 : Array Value} {t u : Term} {idx : List Nat} {x y : Int32} (h1 : t.eval a0 s none idx s = some (.int x)) (h2 : u.eval a0 s none idx s = some (.int y)) : (Term.sub t u).eval a0 s none idx s = some (.int (x - y)) := by simp [Term.eval, h1, h2]
theorem own_eqx {a0 : Array Value} {t u : Term} {b : Addr} (eu : u.eval a0 s none [] s = some (.ref b)) (h : (Jvm.Cond.eq t u).value a0 s none s [] = some true) : t.eval a0 s none [] s = some (.ref b) := by
  obtain ⟨x, y, h1, h2, h3, -⟩ := cmp_v (Or.inl h)
  cases eu.symm.trans h2
  have hr : x.isRef = true := by cases x <;> simp [Kin, Value.isRef] at h3 ⊢
  have q := gotT (eq_R h1 eu hr rfl) h
  subst q
  exact h1
theorem own_eqr {a0 : Array Value} {C n d : String} {t u : Term} {a b : Addr} (ev : t.eval a0 s none [] s = some (.ref a)) (eu : u.eval a0 s none [] s = some (.ref b)) (h : (Jvm.Cond.eq (.field t C n d) u).value a0 s none s [] = some true) : Fld s s.heap a C n d (.ref b) := by
  obtain ⟨x, y, h1, h2, h3, -⟩ := cmp_v (Or.inl h)
  cases eu.symm.trans h2
  have hr : x.isRef = true := by cases x <;> simp [Kin, Value.isRef] at h3 ⊢
  have q := gotT (eq_R h1 eu hr rfl) h
  subst q
  exact Fld.start ((fld_at ev).symm.trans h1)
end Own
abbrev own_M (l : Launch) (y : MethodName) (code : ByteArray) (ml : Nat) (ret : Option FieldType) (ws : List Jvm.Cond) (rm : Room) (a1 : Array Value) (Z : State) (h0 : Heap) (Q : Option Value → Heap → List Loc → Prop) : Prop := MetFree l y (head1 (Jvm.Cond.code y code ml ret :: ws) rm) (fun as_ U => as_ = a1 ∧ Z.Warmed39 U.vm ∧ U.heap = h0) (fun _ _ _ _ _ => True) (fun _ U out_ U' => ∃ v L, out_ = .returned v ∧ Q v U'.heap L ∧ FrameEnd U out_ U' L rm.cells rm.slots)
def oL (c : ByteArray) (l : List (Nat × Instr × Nat)) : Prop := ∀ x ∈ l, decode c x.1 = .ok (x.2.1, x.2.2)
theorem od {c : ByteArray} {l : List (Nat × Instr × Nat)} (h : oL c l) (i : Nat) {pc n : Nat} {q : Instr} (e : l[i]? = some (pc, q, n)) : decode c pc = .ok (q, n) := h (pc, q, n) (List.mem_of_getElem? e)
theorem own_start {p : Program} {l : Launch} {x : MethodName} {S : Spec} {code : ByteArray} {maxL : Nat} {ret : Option FieldType} {e : Env} {s : State} {m : MethodId} {args : Array Value} {below : List Frame} {meth : Method} {c : Code} {s₁ : State} {h0 : Heap} {R : Room} (Bd : BodyLoose p l x S code maxL ret e s m args below meth c s₁) (hh : s.heap = h0) (hR : S.room = R) : Stand p l e R s m args below meth c s₁ [] 0 0 ∧ s₁.heap = h0 ∧ (p.tables.exec = Jvm.exec ∧ c.code = code) ∧ meth.locks = false ∧ s.vm.findClass x.cls = some m.cls ∧ meth.sig.returnType = ret := ⟨hR ▸ Stand.of_body Bd, by rw [← hh, Bd.state]; rfl, ⟨Bd.exec, Bd.bytes⟩, BodyLoose.notSynchronized Bd, findClass_of_methodNamed Bd.named, Bd.returns⟩
section OwnX
variable {p : Program} {l : Launch} {e : Env} {R : Room} {s : State} {m : MethodId} {args : Array Value} {below : List Frame} {meth : Method} {c : Code} {T : State} {locs : List Loc} {cells slots : Nat} {P : Outcome → State → Prop} {code : ByteArray} {pc : Nat} {L : Array Slot} {S : List Value}
theorem o_ildN (X : Stand p l e R s m args below meth c T locs cells slots) (H : p.tables.exec = Jvm.exec ∧ c.code = code) {k : Fin 4} {v : Int32} (d : decode code pc = .ok (.iload_n k, 1)) (hl : L[k.val]? = some (.val (.int v))) (h : own_Fin p e below P (T.setTop (mkF m (pc + 1) L (.int v :: S)))) : own_Fin p e below P (T.setTop (mkF m pc L (S))) := own_on (fun _ q => XS.iloadN X.here H.1 rfl (hb H.2 d) hl q) h
theorem o_ild (X : Stand p l e R s m args below meth c T locs cells slots) (H : p.tables.exec = Jvm.exec ∧ c.code = code) {k : Nat} {v : Int32} (d : decode code pc = .ok (.iload k, 2)) (hl : L[k]? = some (.val (.int v))) (h : own_Fin p e below P (T.setTop (mkF m (pc + 2) L (.int v :: S)))) : own_Fin p e below P (T.setTop (mkF m pc L (S))) := own_on (fun _ q => XS.iload X.here H.1 rfl (hb H.2 d) hl q) h
theorem o_istN (X : Stand p l e R s m args below meth c T locs cells slots) (H : p.tables.exec = Jvm.exec ∧ c.code = code) {k : Fin 4} {v : Int32} {L' : Array Slot} (d : decode code pc = .ok (.istore_n k, 1)) (hl : storeLocals L k.val (.int v) = some L') (h : own_Fin p e below P (T.setTop (mkF m (pc + 1) L' (S)))) : own_Fin p e below P (T.setTop (mkF m pc L (.int v :: S))) := own_on (fun _ q => XS.istoreN X.here H.1 rfl (hb H.2 d) rfl hl q) h
theorem o_ist (X : Stand p l e R s m args below meth c T locs cells slots) (H : p.tables.exec = Jvm.exec ∧ c.code = code) {k : Nat} {v : Int32} {L' : Array Slot} (d : decode code pc = .ok (.istore k, 2)) (hl : storeLocals L k (.int v) = some L') (h : own_Fin p e below P (T.setTop (mkF m (pc + 2) L' (S)))) : own_Fin p e below P (T.setTop (mkF m pc L (.int v :: S))) := own_on (fun _ q => XS.istore X.here H.1 rfl (hb H.2 d) rfl hl q) h
theorem o_lldN (X : Stand p l e R s m args below meth c T locs cells slots) (H : p.tables.exec = Jvm.exec ∧ c.code = code) {k : Fin 4} {v : Int64} (d : decode code pc = .ok (.lload_n k, 1)) (hl : L[k.val]? = some (.val (.long v))) (h : own_Fin p e below P (T.setTop (mkF m (pc + 1) L (.long v :: S)))) : own_Fin p e below P (T.setTop (mkF m pc L (S))) := own_on (fun _ q => XS.lloadN X.here H.1 rfl (hb H.2 d) hl q) h
theorem o_lld (X : Stand p l e R s m args below meth c T locs cells slots) (H : p.tables.exec = Jvm.exec ∧ c.code = code) {k : Nat} {v : Int64} (d : decode code pc = .ok (.lload k, 2)) (hl : L[k]? = some (.val (.long v))) (h : own_Fin p e below P (T.setTop (mkF m (pc + 2) L (.long v :: S)))) : own_Fin p e below P (T.setTop (mkF m pc L (S))) := own_on (fun _ q => XS.lload X.here H.1 rfl (hb H.2 d) hl q) h
theorem o_lstN (X : Stand p l e R s m args below meth c T locs cells slots) (H : p.tables.exec = Jvm.exec ∧ c.code = code) {k : Fin 4} {v : Int64} {L' : Array Slot} (d : decode code pc = .ok (.lstore_n k, 1)) (hl : storeLocals L k.val (.long v) = some L') (h : own_Fin p e below P (T.setTop (mkF m (pc + 1) L' (S)))) : own_Fin p e below P (T.setTop (mkF m pc L (.long v :: S))) := own_on (fun _ q => XS.lstoreN X.here H.1 rfl (hb H.2 d) rfl hl q) h
theorem o_lst (X : Stand p l e R s m args below meth c T locs cells slots) (H : p.tables.exec = Jvm.exec ∧ c.code = code) {k : Nat} {v : Int64} {L' : Array Slot} (d : decode code pc = .ok (.lstore k, 2)) (hl : storeLocals L k (.long v) = some L') (h : own_Fin p e below P (T.setTop (mkF m (pc + 2) L' (S)))) : own_Fin p e below P (T.setTop (mkF m pc L (.long v :: S))) := own_on (fun _ q => XS.lstore X.here H.1 rfl (hb H.2 d) rfl hl q) h
theorem o_aldN (X : Stand p l e R s m args below meth c T locs cells slots) (H : p.tables.exec = Jvm.exec ∧ c.code = code) {k : Fin 4} {v : Value} (d : decode code pc = .ok (.aload_n k, 1)) (hl : L[k.val]? = some (.val v)) (hv : v.isRef = true) (h : own_Fin p e below P (T.setTop (mkF m (pc + 1) L (v :: S)))) : own_Fin p e below P (T.setTop (mkF m pc L (S))) := own_on (fun _ q => XS.aloadN X.here H.1 rfl (hb H.2 d) hl hv q) h
theorem o_ald (X : Stand p l e R s m args below meth c T locs cells slots) (H : p.tables.exec = Jvm.exec ∧ c.code = code) {k : Nat} {v : Value} (d : decode code pc = .ok (.aload k, 2)) (hl : L[k]? = some (.val v)) (hv : v.isRef = true) (h : own_Fin p e below P (T.setTop (mkF m (pc + 2) L (v :: S)))) : own_Fin p e below P (T.setTop (mkF m pc L (S))) := own_on (fun _ q => XS.aload X.here H.1 rfl (hb H.2 d) hl hv q) h
theorem o_astN (X : Stand p l e R s m args below meth c T locs cells slots) (H : p.tables.exec = Jvm.exec ∧ c.code = code) {k : Fin 4} {v : Value} {L' : Array Slot} (d : decode code pc = .ok (.astore_n k, 1)) (hv : v.isRef = true) (hl : storeLocals L k.val v = some L') (h : own_Fin p e below P (T.setTop (mkF m (pc + 1) L' (S)))) : own_Fin p e below P (T.setTop (mkF m pc L (v :: S))) := own_on (fun _ q => XS.astoreN X.here H.1 rfl (hb H.2 d) rfl hv hl q) h
theorem o_ast (X : Stand p l e R s m args below meth c T locs cells slots) (H : p.tables.exec = Jvm.exec ∧ c.code = code) {k : Nat} {v : Value} {L' : Array Slot} (d : decode code pc = .ok (.astore k, 2)) (hv : v.isRef = true) (hl : storeLocals L k v = some L') (h : own_Fin p e below P (T.setTop (mkF m (pc + 2) L' (S)))) : own_Fin p e below P (T.setTop (mkF m pc L (v :: S))) := own_on (fun _ q => XS.astore X.here H.1 rfl (hb H.2 d) rfl hv hl q) h
theorem o_ic (X : Stand p l e R s m args below meth c T locs cells slots) (H : p.tables.exec = Jvm.exec ∧ c.code = code) {i : Int} {v : Int32} (d : decode code pc = .ok (.iconst i, 1)) (hv : Int32.ofInt i = v) (h : own_Fin p e below P (T.setTop (mkF m (pc + 1) L (.int v :: S)))) : own_Fin p e below P (T.setTop (mkF m pc L S)) := by subst hv; exact own_on (fun _ q => XS.iconst X.here H.1 rfl (hb H.2 d) q) h
theorem o_bi (X : Stand p l e R s m args below meth c T locs cells slots) (H : p.tables.exec = Jvm.exec ∧ c.code = code) {i : Int} {v : Int32} (d : decode code pc = .ok (.bipush i, 2)) (hv : (Int8.ofInt i).toInt32 = v) (h : own_Fin p e below P (T.setTop (mkF m (pc + 2) L (.int v :: S)))) : own_Fin p e below P (T.setTop (mkF m pc L S)) := by subst hv; exact own_on (fun _ q => XS.bipush X.here H.1 rfl (hb H.2 d) q) h
theorem o_si (X : Stand p l e R s m args below meth c T locs cells slots) (H : p.tables.exec = Jvm.exec ∧ c.code = code) {i : Int} {v : Int32} (d : decode code pc = .ok (.sipush i, 3)) (hv : (Int16.ofInt i).toInt32 = v) (h : own_Fin p e below P (T.setTop (mkF m (pc + 3) L (.int v :: S)))) : own_Fin p e below P (T.setTop (mkF m pc L S)) := by subst hv; exact own_on (fun _ q => XS.sipush X.here H.1 rfl (hb H.2 d) q) h
theorem o_nul (X : Stand p l e R s m args below meth c T locs cells slots) (H : p.tables.exec = Jvm.exec ∧ c.code = code)  (d : decode code pc = .ok (.aconst_null, 1))  (h : own_Fin p e below P (T.setTop (mkF m (pc + 1) L (.null :: S)))) : own_Fin p e below P (T.setTop (mkF m pc L (S))) := own_on (fun _ q => XS.aconstNull X.here H.1 rfl (hb H.2 d) q) h
theorem o_iadd (X : Stand p l e R s m args below meth c T locs cells slots) (H : p.tables.exec = Jvm.exec ∧ c.code = code) {x y : Int32} (d : decode code pc = .ok (.iadd, 1))  (h : own_Fin p e below P (T.setTop (mkF m (pc + 1) L (.int (x + y) :: S)))) : own_Fin p e below P (T.setTop (mkF m pc L (.int y :: .int x :: S))) := own_on (fun _ q => XS.iadd X.here H.1 rfl (hb H.2 d) rfl q) h
theorem o_isub (X : Stand p l e R s m args below meth c T locs cells slots) (H : p.tables.exec = Jvm.exec ∧ c.code = code) {x y : Int32} (d : decode code pc = .ok (.isub, 1))  (h : own_Fin p e below P (T.setTop (mkF m (pc + 1) L (.int (x - y) :: S)))) : own_Fin p e below P (T.setTop (mkF m pc L (.int y :: .int x :: S))) := own_on (fun _ q => XS.isub X.here H.1 rfl (hb H.2 d) rfl q) h
theorem o_iand (X : Stand p l e R s m args below meth c T locs cells slots) (H : p.tables.exec = Jvm.exec ∧ c.code = code) {x y : Int32} (d : decode code pc = .ok (.iand, 1))  (h : own_Fin p e below P (T.setTop (mkF m (pc + 1) L (.int (x &&& y) :: S)))) : own_Fin p e below P (T.setTop (mkF m pc L (.int y :: .int x :: S))) := own_on (fun _ q => XS.iand X.here H.1 rfl (hb H.2 d) rfl q) h
theorem o_dup (X : Stand p l e R s m args below meth c T locs cells slots) (H : p.tables.exec = Jvm.exec ∧ c.code = code) {x : Value} (d : decode code pc = .ok (.dup, 1)) (hc : x.category = 1) (h : own_Fin p e below P (T.setTop (mkF m (pc + 1) L (x :: x :: S)))) : own_Fin p e below P (T.setTop (mkF m pc L (x :: S))) := own_on (fun _ q => XS.dup X.here H.1 rfl (hb H.2 d) rfl hc q) h
theorem o_pop (X : Stand p l e R s m args below meth c T locs cells slots) (H : p.tables.exec = Jvm.exec ∧ c.code = code) {x : Value} (d : decode code pc = .ok (.pop, 1)) (hc : x.category = 1) (h : own_Fin p e below P (T.setTop (mkF m (pc + 1) L (S)))) : own_Fin p e below P (T.setTop (mkF m pc L (x :: S))) := own_on (fun _ q => XS.pop X.here H.1 rfl (hb H.2 d) rfl hc q) h
theorem o_go (X : Stand p l e R s m args below meth c T locs cells slots) (H : p.tables.exec = Jvm.exec ∧ c.code = code)  {o : Int} {pc' : Nat} (d : decode code pc = .ok (.goto o, 3))  (ho : 0 ≤ (pc : Int) + o) (hp : ((pc : Int) + o).toNat = pc') (h : own_Fin p e below P (T.setTop (mkF m pc' L S))) : own_Fin p e below P (T.setTop (mkF m pc L (S))) := own_on (fun _ q => XS.goto X.here H.1 rfl rfl (hb H.2 d) ho hp q) h
theorem o_ifY (X : Stand p l e R s m args below meth c T locs cells slots) (H : p.tables.exec = Jvm.exec ∧ c.code = code) {cc : ClassFile.Cond} {x : Int32} {o : Int} {pc' : Nat} (d : decode code pc = .ok (.ifCond cc o, 3)) (hc : ifCond.holds cc x = true) (ho : 0 ≤ (pc : Int) + o) (hp : ((pc : Int) + o).toNat = pc') (h : own_Fin p e below P (T.setTop (mkF m pc' L S))) : own_Fin p e below P (T.setTop (mkF m pc L (.int x :: S))) := own_on (fun _ q => XS.ifYes X.here H.1 rfl rfl (hb H.2 d) rfl hc ho hp q) h
theorem o_icY (X : Stand p l e R s m args below meth c T locs cells slots) (H : p.tables.exec = Jvm.exec ∧ c.code = code) {cc : ClassFile.Cond} {x y : Int32} {o : Int} {pc' : Nat} (d : decode code pc = .ok (.if_icmp cc o, 3)) (hc : if_icmp.holds cc x y = true) (ho : 0 ≤ (pc : Int) + o) (hp : ((pc : Int) + o).toNat = pc') (h : own_Fin p e below P (T.setTop (mkF m pc' L S))) : own_Fin p e below P (T.setTop (mkF m pc L (.int y :: .int x :: S))) := own_on (fun _ q => XS.icmpYes X.here H.1 rfl rfl (hb H.2 d) rfl hc ho hp q) h
theorem o_ifN (X : Stand p l e R s m args below meth c T locs cells slots) (H : p.tables.exec = Jvm.exec ∧ c.code = code) {cc : ClassFile.Cond} {o : Int} {x : Int32} (d : decode code pc = .ok (.ifCond cc o, 3)) (hc : ifCond.holds cc x = false) (h : own_Fin p e below P (T.setTop (mkF m (pc + 3) L (S)))) : own_Fin p e below P (T.setTop (mkF m pc L (.int x :: S))) := own_on (fun _ q => XS.ifNo X.here H.1 rfl (hb H.2 d) rfl hc q) h
theorem o_icN (X : Stand p l e R s m args below meth c T locs cells slots) (H : p.tables.exec = Jvm.exec ∧ c.code = code) {cc : ClassFile.Cond} {o : Int} {x y : Int32} (d : decode code pc = .ok (.if_icmp cc o, 3)) (hc : if_icmp.holds cc x y = false) (h : own_Fin p e below P (T.setTop (mkF m (pc + 3) L (S)))) : own_Fin p e below P (T.setTop (mkF m pc L (.int y :: .int x :: S))) := own_on (fun _ q => XS.icmpNo X.here H.1 rfl (hb H.2 d) rfl hc q) h
theorem o_gf (X : Stand p l e R s m args below meth c T locs cells slots) (H : p.tables.exec = Jvm.exec ∧ c.code = code) {Z : State} {a0 : Array Value} {hp : Heap} (hZ : Z.Warmed39 s.vm) {own R0 O n d0 : String} {index : Nat} (hown : s.vm.findClass own = some m.cls) (w : (Cond.fieldLink own index R0 n d0).before a0 Z = true) (via : Via Z R0 O n d0) (eT : T.heap = hp) {a : Addr} {v : Value} (F : Fld Z hp a O n d0 v) (d : decode code pc = .ok (.getfield index, 3)) (h : ∀ T' : State, Stand p l e R s m args below meth c T' locs cells slots → T'.heap = hp → own_Fin p e below P (T'.setTop (mkF m (pc + 3) L (v :: S)))) : own_Fin p e below P (T.setTop (mkF m pc L (.ref a :: S))) := by
  obtain ⟨T', X', e', st⟩ := getF X H.1 hZ hown (host := "") (Or.inl w) via eT F (g := mkF m pc L (.ref a :: S)) rfl rfl (hb H.2 d)
  exact own_on st (h T' X' e')
theorem o_gs (X : Stand p l e R s m args below meth c T locs cells slots) (H : p.tables.exec = Jvm.exec ∧ c.code = code) {Z : State} {a0 : Array Value} {hp : Heap} (hZ : Z.Warmed39 s.vm) {own R0 O n d0 : String} {index : Nat} (hown : s.vm.findClass own = some m.cls) (w : (Cond.fieldLink own index R0 n d0).before a0 Z = true) (via : Via Z R0 O n d0) (eT : T.heap = hp) {v : Value} (F : Sta Z hp O n d0 v) (d : decode code pc = .ok (.getstatic index, 3)) (h : ∀ T' : State, Stand p l e R s m args below meth c T' locs cells slots → T'.heap = hp → own_Fin p e below P (T'.setTop (mkF m (pc + 3) L (v :: S)))) : own_Fin p e below P (T.setTop (mkF m pc L S)) := by
  obtain ⟨T', X', e', st⟩ := getS2 X H.1 hZ hown (host := "") (Or.inl w) via eT F (g := mkF m pc L S) rfl (hb H.2 d)
  exact own_on st (h T' X' e')
theorem o_bk {Q : Option Value → Heap → List Loc → Prop} {k j : Nat} {stk rest : List Value} {Sw : Vm → Prop} (R1 : ∃ (v : Option Value) (vm₁ : Vm) (B : Pt), Sw vm₁ ∧ Stand p l e R s m args below meth c B.U B.locs B.cells B.slots ∧ (∃ Lc, Q v B.U.heap Lc ∧ B.locs = locs ++ Lc ∧ B.cells = cells + k ∧ B.slots = slots + j) ∧ Steps p.tables e below (T.setTop (mkF m pc L stk)) (B.U.setTop { (mkF m pc L stk) with pc := (mkF m pc L stk).pc + 3, stack := v.toList ++ rest }))
    (h : ∀ (v : Option Value) (T' : State) (Lc : List Loc), Stand p l e R s m args below meth c T' (locs ++ Lc) (cells + k) (slots + j) → Q v T'.heap Lc → own_Fin p e below P (T'.setTop (mkF m (pc + 3) L (v.toList ++ rest)))) : own_Fin p e below P (T.setTop (mkF m pc L stk)) := by
  obtain ⟨v, vm₁, ⟨T', L', k', j'⟩, -, X', ⟨Lc, hQ, l1, y1, z1⟩, st⟩ := R1
  dsimp only [Pt.U, Pt.locs, Pt.cells, Pt.slots] at X' l1 y1 z1 st hQ
  subst l1 y1 z1
  exact own_via st (h v T' Lc X' hQ)
theorem o_bs {Q : Option Value → Heap → List Loc → Prop} {k j : Nat} {stk rest : List Value} {Sw : Vm → Prop} (R1 : ∃ (v : Option Value) (vm₁ : Vm) (B : Pt), Sw vm₁ ∧ Stand p l e R s m args below meth c B.U B.locs B.cells B.slots ∧ (∃ Lc, Q v B.U.heap Lc ∧ B.locs = locs ++ Lc ∧ B.cells = cells + k ∧ B.slots = slots + j) ∧ ∀ target, Steps p.tables e below (B.U.setTop { (mkF m pc L stk) with pc := (mkF m pc L stk).pc + 3, stack := v.toList ++ rest }) target → Steps p.tables e below (T.setTop (mkF m pc L stk)) target)
    (h : ∀ (v : Option Value) (T' : State) (Lc : List Loc), Stand p l e R s m args below meth c T' (locs ++ Lc) (cells + k) (slots + j) → Q v T'.heap Lc → own_Fin p e below P (T'.setTop (mkF m (pc + 3) L (v.toList ++ rest)))) : own_Fin p e below P (T.setTop (mkF m pc L stk)) := by
  obtain ⟨v, vm₁, ⟨T', L', k', j'⟩, hs, X', q, st⟩ := R1
  exact o_bk ⟨v, vm₁, ⟨T', L', k', j'⟩, hs, X', q, st _ (Steps.refl _)⟩ h
theorem o_mr {m0 : MethodId} {rest : List Value} {W : Nat} (h : (rest.map fun v => v.category).sum = W) : 2 * (mkF m0 pc L S).monitorRoom + (rest.map fun v => v.category).sum ≤ W := by
  show 2 * 0 + _ ≤ _; rw [h, Nat.mul_zero, Nat.zero_add]; exact Nat.le_refl _
end OwnX
section OwnY
variable {p : Program} {l : Launch} {e : Env} {R : Room} {s : State} {m : MethodId} {args : Array Value} {below : List Frame} {meth : Method} {c : Code} {T : State} {locs : List Loc} {cells slots : Nat} {P : Outcome → State → Prop} {code : ByteArray} {pc n : Nat} {L : Array Slot} {stk : List Value} {Z : State} {a0 : Array Value} {hp : Heap} {own : String} {index : Nat} {y z : MethodName} {as' : Array Value} {W k j : Nat} {Q : Option Value → Heap → List Loc → Prop} {argsL rest : List Value} {sig : MethodDescriptor}
theorem o_vc {C : String} {b : Addr} (X : Stand p l e R s m args below meth c T locs cells slots) (H : p.tables.exec = Jvm.exec ∧ c.code = code) (hml : c.maxLocals = n) (hZ : Z.Warmed39 s.vm) (hown : s.vm.findClass own = some m.cls) (w1 : (Cond.methodLink own index y).before a0 Z = true) (w2 : (Cond.declares y).before a0 Z = true) (nf : NotFace s y) (w3 : (Cond.selects C y z).before a0 Z = true) (w4 : (Cond.instanceMethod z).before a0 Z = true)
    (back : Back l R p e below s args z 3 W (fun A a => a = as' ∧ A.U.heap = hp ∧ A.cells + k ≤ R.cells ∧ A.slots + j ≤ R.slots) (fun A _ v B => ∃ Lc, Q v B.U.heap Lc ∧ B.locs = A.locs ++ Lc ∧ B.cells = A.cells + k ∧ B.slots = A.slots + j)) (hy : y.cls ≠ "java/lang/invoke/MethodHandle" ∧ y.cls ≠ "java/lang/invoke/VarHandle")
    (E : Exa Z hp b C) (eT : T.heap = hp) (hpd : parseMethodDescriptor y.desc = some sig) (d : decode code pc = .ok (.invokevirtual index, 3)) (hlen : argsL.length = sig.parameters.length) (hs : stk = argsL.reverse ++ .ref b :: rest) (ha : (.ref b :: argsL).toArray = as') (hL : L.size = n) (hW : (rest.map fun v => v.category).sum = W) (hc : cells + k ≤ R.cells) (hsl : slots + j ≤ R.slots)
    (h : ∀ (v : Option Value) (T' : State) (Lc : List Loc), Stand p l e R s m args below meth c T' (locs ++ Lc) (cells + k) (slots + j) → Q v T'.heap Lc → own_Fin p e below P (T'.setTop (mkF m (pc + 3) L (v.toList ++ rest)))) : own_Fin p e below P (T.setTop (mkF m pc L stk)) := by
  obtain ⟨cq, kq, qa, qb, qc⟩ := isOf hZ eT E
  refine o_bk (X.virtualBack H.1 hown (mvT hZ w1) (mvT hZ w2) nf (mvT hZ w3) (mvT hZ w4) hy back qa qc (g := mkF m pc L stk) rfl (hL.trans hml.symm) (Steps.refl _) (argsL := argsL) (rest := rest) (lenOf hpd hlen) hs (o_mr hW) (hb H.2 d) (fun _ _ => ⟨ha, eT, hc, hsl⟩)) h
theorem o_vs {C : String} {b : Addr} (X : Stand p l e R s m args below meth c T locs cells slots) (H : p.tables.exec = Jvm.exec ∧ c.code = code) (hml : c.maxLocals = n) (hZ : Z.Warmed39 s.vm) (hown : s.vm.findClass own = some m.cls) (w1 : (Cond.methodLink own index y).before a0 Z = true) (w2 : (Cond.declares y).before a0 Z = true) (w3 : (Cond.selects C y y).before a0 Z = true) (w4 : (Cond.instanceMethod y).before a0 Z = true)
    (back : Back l R p e below s args y 3 W (fun A a => a = as' ∧ A.U.heap = hp ∧ A.cells + k ≤ R.cells ∧ A.slots + j ≤ R.slots) (fun A _ v B => ∃ Lc, Q v B.U.heap Lc ∧ B.locs = A.locs ++ Lc ∧ B.cells = A.cells + k ∧ B.slots = A.slots + j)) (hy : y.cls ≠ "java/lang/invoke/MethodHandle" ∧ y.cls ≠ "java/lang/invoke/VarHandle")
    (E : Exa Z hp b C) (eT : T.heap = hp) (hpd : parseMethodDescriptor y.desc = some sig) (d : decode code pc = .ok (.invokevirtual index, 3)) (hlen : argsL.length = sig.parameters.length) (hs : stk = argsL.reverse ++ .ref b :: rest) (ha : (.ref b :: argsL).toArray = as') (hL : L.size = n) (hW : (rest.map fun v => v.category).sum = W) (hc : cells + k ≤ R.cells) (hsl : slots + j ≤ R.slots)
    (h : ∀ (v : Option Value) (T' : State) (Lc : List Loc), Stand p l e R s m args below meth c T' (locs ++ Lc) (cells + k) (slots + j) → Q v T'.heap Lc → own_Fin p e below P (T'.setTop (mkF m (pc + 3) L (v.toList ++ rest)))) : own_Fin p e below P (T.setTop (mkF m pc L stk)) := o_vc X H hml hZ hown w1 w2 (notFace_of_selects (args := #[]) (mvT hZ w3)) w3 w4 back hy E eT hpd d hlen hs ha hL hW hc hsl h
theorem o_pc {bytes : ByteArray} {maxL : Nat} {ret : Option FieldType} {C : String} {b : Addr} (X : Stand p l e R s m args below meth c T locs cells slots) (H : p.tables.exec = Jvm.exec ∧ c.code = code) (hml : c.maxLocals = n) (hZ : Z.Warmed39 s.vm) (hown : s.vm.findClass own = some m.cls) (w1 : (Cond.methodLink own index y).before a0 Z = true) (w2 : (Cond.instanceMethod y).before a0 Z = true) (w3 : (Cond.selects y.cls y y).before args s = true) (w4 : (Cond.privateMethod y).before a0 Z = true) (w5 : (Cond.code y bytes maxL ret).before a0 Z = true)
    (back : Back l R p e below s args y 3 W (fun A a => a = as' ∧ A.U.heap = hp ∧ A.cells + k ≤ R.cells ∧ A.slots + j ≤ R.slots) (fun A _ v B => ∃ Lc, Q v B.U.heap Lc ∧ B.locs = A.locs ++ Lc ∧ B.cells = A.cells + k ∧ B.slots = A.slots + j)) (hy : y.cls ≠ "java/lang/invoke/MethodHandle" ∧ y.cls ≠ "java/lang/invoke/VarHandle")
    (E : Exa Z hp b C) (eT : T.heap = hp) (hpd : parseMethodDescriptor y.desc = some sig) (d : decode code pc = .ok (.invokevirtual index, 3)) (hlen : argsL.length = sig.parameters.length) (hs : stk = argsL.reverse ++ .ref b :: rest) (ha : (.ref b :: argsL).toArray = as') (hL : L.size = n) (hW : (rest.map fun v => v.category).sum = W) (hc : cells + k ≤ R.cells) (hsl : slots + j ≤ R.slots)
    (h : ∀ (v : Option Value) (T' : State) (Lc : List Loc), Stand p l e R s m args below meth c T' (locs ++ Lc) (cells + k) (slots + j) → Q v T'.heap Lc → own_Fin p e below P (T'.setTop (mkF m (pc + 3) L (v.toList ++ rest)))) : own_Fin p e below P (T.setTop (mkF m pc L stk)) := by
  obtain ⟨cq, q, q'⟩ := E.cell
  refine o_bk (X.privateBack H.1 hown (mvT hZ w1) (mvT hZ w2) w3 (Cond.privateMethod_at (mvP hZ w4 (args := #[]))) (mvT hZ w5) hy back (g := mkF m pc L stk) rfl (hL.trans hml.symm) (Steps.refl _) (a := b) (by rw [eT]; exact q) q' (argsL := argsL) (rest := rest) (lenOf hpd hlen) hs (o_mr hW) (hb H.2 d) (fun _ _ => ⟨ha, eT, hc, hsl⟩)) h
theorem o_sc {bytes : ByteArray} {maxL : Nat} {b : Addr} (X : Stand p l e R s m args below meth c T locs cells slots) (H : p.tables.exec = Jvm.exec ∧ c.code = code) (hml : c.maxLocals = n) (hZ : Z.Warmed39 s.vm) (hown : s.vm.findClass own = some m.cls) (w1 : (Cond.methodLink own index y).before a0 Z = true) (w2 : (Cond.instanceMethod y).before a0 Z = true) (w5 : (Cond.code y bytes maxL none).before a0 Z = true)
    (back : Back l R p e below s args y 3 W (fun A a => a = as' ∧ A.U.heap = hp ∧ A.cells + k ≤ R.cells ∧ A.slots + j ≤ R.slots) (fun A _ v B => ∃ Lc, Q v B.U.heap Lc ∧ B.locs = A.locs ++ Lc ∧ B.cells = A.cells + k ∧ B.slots = A.slots + j)) (hy0 : y.name = "<init>") (hy : y.cls ≠ "java/lang/invoke/MethodHandle" ∧ y.cls ≠ "java/lang/invoke/VarHandle")
    (eT : T.heap = hp) (hpd : parseMethodDescriptor y.desc = some sig) (d : decode code pc = .ok (.invokespecial index, 3)) (hlen : argsL.length = sig.parameters.length) (hs : stk = argsL.reverse ++ .ref b :: rest) (ha : (.ref b :: argsL).toArray = as') (hL : L.size = n) (hW : (rest.map fun v => v.category).sum = W) (hc : cells + k ≤ R.cells) (hsl : slots + j ≤ R.slots)
    (h : ∀ (v : Option Value) (T' : State) (Lc : List Loc), Stand p l e R s m args below meth c T' (locs ++ Lc) (cells + k) (slots + j) → Q v T'.heap Lc → own_Fin p e below P (T'.setTop (mkF m (pc + 3) L (v.toList ++ rest)))) : own_Fin p e below P (T.setTop (mkF m pc L stk)) := by
  refine o_bk (X.specialBack H.1 hy0 hown (mvT hZ w1) (mvT hZ w2) (mvT hZ w5) hy back (g := mkF m pc L stk) rfl (hL.trans hml.symm) (Steps.refl _) (a := b) (argsL := argsL) (rest := rest) (lenOf hpd hlen) hs (o_mr hW) (hb H.2 d) (fun _ _ => ⟨ha, eT, hc, hsl⟩)) h
theorem o_tc {bytes : ByteArray} {maxL : Nat} {ret : Option FieldType} (X : Stand p l e R s m args below meth c T locs cells slots) (H : p.tables.exec = Jvm.exec ∧ c.code = code) (hml : c.maxLocals = n) (hZ : Z.Warmed39 s.vm) (hown : s.vm.findClass own = some m.cls) (w1 : (Cond.methodLink own index y).before a0 Z = true) (w2 : (Cond.static y).before a0 Z = true) (w3 : (Cond.initialized y.cls).before a0 Z = true) (w5 : (Cond.code y bytes maxL ret).before a0 Z = true)
    (back : Back l R p e below s args y 3 W (fun A a => a = as' ∧ A.U.heap = hp ∧ A.cells + k ≤ R.cells ∧ A.slots + j ≤ R.slots) (fun A _ v B => ∃ Lc, Q v B.U.heap Lc ∧ B.locs = A.locs ++ Lc ∧ B.cells = A.cells + k ∧ B.slots = A.slots + j)) (hy : y.cls ≠ "java/lang/invoke/MethodHandle" ∧ y.cls ≠ "java/lang/invoke/VarHandle")
    (eT : T.heap = hp) (hpd : parseMethodDescriptor y.desc = some sig) (d : decode code pc = .ok (.invokestatic index, 3)) (hlen : argsL.length = sig.parameters.length) (hs : stk = argsL.reverse ++ rest) (ha : argsL.toArray = as') (hL : L.size = n) (hW : (rest.map fun v => v.category).sum = W) (hc : cells + k ≤ R.cells) (hsl : slots + j ≤ R.slots)
    (h : ∀ (v : Option Value) (T' : State) (Lc : List Loc), Stand p l e R s m args below meth c T' (locs ++ Lc) (cells + k) (slots + j) → Q v T'.heap Lc → own_Fin p e below P (T'.setTop (mkF m (pc + 3) L (v.toList ++ rest)))) : own_Fin p e below P (T.setTop (mkF m pc L stk)) := by
  refine o_bs (Jvm.LawKit.callS X H.1 hown (mvT hZ w1) (mvT hZ w2) (mvT hZ w3) (mvT hZ w5) hy back (g := mkF m pc L stk) rfl (hL.trans hml.symm) (argsL := argsL) (rest := rest) (lenOf hpd hlen) hs (o_mr hW) (hb H.2 d) (fun _ _ => ⟨ha, eT, hc, hsl⟩)) h
theorem o_pk {n0 : Nat} {w : Value} (hq : ∀ v h L, Q v h L → v = some w ∧ Fr n0 L ∧ h = hp) (N : Fr n0 locs) (h : ∀ (T' : State) (Lc : List Loc), Stand p l e R s m args below meth c T' (locs ++ Lc) (cells + k) (slots + j) → Fr n0 (locs ++ Lc) → T'.heap = hp → own_Fin p e below P (T'.setTop (mkF m (pc + 3) L (w :: rest)))) : ∀ (v : Option Value) (T' : State) (Lc : List Loc), Stand p l e R s m args below meth c T' (locs ++ Lc) (cells + k) (slots + j) → Q v T'.heap Lc → own_Fin p e below P (T'.setTop (mkF m (pc + 3) L (v.toList ++ rest))) := fun v T' Lc X' q => by
  obtain ⟨rfl, N', e'⟩ := hq _ _ _ q
  exact h T' Lc X' (Fr.app N N') e'
theorem o_pv {n0 : Nat} (hq : ∀ v h L, Q v h L → v = none ∧ Fr n0 L ∧ h = hp) (N : Fr n0 locs) (h : ∀ (T' : State) (Lc : List Loc), Stand p l e R s m args below meth c T' (locs ++ Lc) (cells + k) (slots + j) → Fr n0 (locs ++ Lc) → T'.heap = hp → own_Fin p e below P (T'.setTop (mkF m (pc + 3) L rest))) : ∀ (v : Option Value) (T' : State) (Lc : List Loc), Stand p l e R s m args below meth c T' (locs ++ Lc) (cells + k) (slots + j) → Q v T'.heap Lc → own_Fin p e below P (T'.setTop (mkF m (pc + 3) L (v.toList ++ rest))) := fun v T' Lc X' q => by
  obtain ⟨rfl, N', e'⟩ := hq _ _ _ q
  exact h T' Lc X' (Fr.app N N') e'
end OwnY
theorem ow {Z : State} {a0 : Array Value} (hw : ∀ d ∈ tables_1, d.before a0 Z = true) (i : Nat) {d : Jvm.Cond} (h : tables_1[i]? = some d) : d.before a0 Z = true := hw _ (List.mem_of_getElem? h)
section OwnW
variable {p : Program} {l : Launch} {e : Env} {R : Room} {s : State} {m : MethodId} {args : Array Value} {below : List Frame} {meth : Method} {c : Code} {T : State} {locs : List Loc} {cells slots : Nat} {P : Outcome → State → Prop} {Z : State} {EL : List (String × Nat)} {a0 : Array Value} {vm0 : Vm}
def own_AnsW (s Z : State) (EL : List (String × Nat)) (Q : Option Value → Heap → List Loc → Prop) (k n : Nat) (o : Outcome) (t : State) : Prop := ∃ v L, o = .returned v ∧ Q v t.heap L ∧ CHr Z EL s.vm s.heap t.vm t.heap ∧ ReturnedEndW s o t L k n
theorem own_monoW {o : Outcome} {t : State} {L : List Loc} {k n k' n' : Nat} (h : ReturnedEndW s o t L k n) (hk : k ≤ k') (hn : n ≤ n') : ReturnedEndW s o t L k' n' := ⟨h.1, h.2.1, h.2.2.1, h.2.2.2.mono hk hn⟩
theorem own_retW {Q : Option Value → Heap → List Loc → Prop} {k n k0 : Nat} (X : Stand p l e R (s.setVm vm0) m args below meth c T locs cells slots) (hx : p.tables.exec = Jvm.exec) (hlk : meth.locks = false) {pc : Nat} {Ls : Array Slot} {w : Value} {t : FieldType} {i : Instr} {rest : List Value} (hret : meth.sig.returnType = some t) (hn : narrow t w = w)
    (hi : (i = .ireturn ∧ (t = .int ∨ t = .boolean ∨ t = .byte ∨ t = .char ∨ t = .short) ∧ ∃ z, w = .int z) ∨ (i = .lreturn ∧ t = .long ∧ ∃ z, w = .long z) ∨ (i = .dreturn ∧ t = .double ∧ ∃ z, w = .double z) ∨ (i = .freturn ∧ t = .float ∧ ∃ z, w = .float z) ∨ (i = .areturn ∧ t.isReference = true ∧ w.isRef = true))
    (hd : decode c.code pc = .ok (i, 1)) (hS : s.Since vm0 k0) (hk0 : k0 ≤ T.heap.size) (hZ : Z.Warmed39 vm0) (hEL : EW Z a0 EL) (hC : CHr Z EL s.vm s.heap vm0 T.heap) (hQ : Q (some w) T.heap locs) (hk : cells ≤ k) (hs : slots ≤ n) : own_Fin p e below (own_AnsW s Z EL Q k n) (T.setTop (mkF m pc Ls (w :: rest))) := by
  obtain ⟨fs, hr, hrun, hended, hE⟩ := X.leaveW hS hk0 (v := some w) (fun h => by rw [hret] at h; cases h) hlk
  exact ⟨_, _, retOut X hx hret hn hi hd hr, hrun, hended, _, _, rfl, hQ, (show CHr Z EL s.vm s.heap T.vm T.heap from hC.trans (CHv.at X hZ hEL hC.1)), own_monoW hE hk hs⟩
theorem own_retVW {Q : Option Value → Heap → List Loc → Prop} {k n k0 : Nat} (X : Stand p l e R (s.setVm vm0) m args below meth c T locs cells slots) (hx : p.tables.exec = Jvm.exec) (hlk : meth.locks = false) {pc : Nat} {Ls : Array Slot} (hret : meth.sig.returnType = none)
    (hd : decode c.code pc = .ok (.return_, 1)) (hS : s.Since vm0 k0) (hk0 : k0 ≤ T.heap.size) (hZ : Z.Warmed39 vm0) (hEL : EW Z a0 EL) (hC : CHr Z EL s.vm s.heap vm0 T.heap) (hQ : Q none T.heap locs) (hk : cells ≤ k) (hs : slots ≤ n) : own_Fin p e below (own_AnsW s Z EL Q k n) (T.setTop (mkF m pc Ls [])) := by
  obtain ⟨fs, hr, hrun, hended, hE⟩ := X.leaveW hS hk0 (v := none) (fun _ => rfl) hlk
  exact ⟨_, _, X.returnOut hx hret hd hr, hrun, hended, _, _, rfl, hQ, (show CHr Z EL s.vm s.heap T.vm T.heap from hC.trans (CHv.at X hZ hEL hC.1)), own_monoW hE hk hs⟩
theorem own_backX {y : MethodName} {bytes : ByteArray} {maxL : Nat} {ret : Option FieldType} {rm : Room} {len W : Nat} {as' : Array Value} {h : Heap} {Q : Option Value → Heap → List Loc → Prop} (Ex : Vm → Prop)
    (hM : MetFree l y (head1 [Jvm.Cond.code y bytes maxL ret] rm) (fun a U => a = as' ∧ Z.Warmed39 U.vm ∧ U.heap = h ∧ CHv Z EL U.vm h ∧ Ex U.vm) (fun _ _ _ _ _ => True) (fun _ U o U' => ∃ v L, o = .returned v ∧ Q v U'.heap L ∧ CHr Z EL U.vm U.heap U'.vm U'.heap ∧ ReturnedEndW U o U' L rm.cells rm.slots))
    (hZ : Z.Warmed39 vm0) (wc : (Jvm.Cond.code y bytes maxL ret).before a0 Z = true) (wz : (Jvm.Cond.initialized y.cls).before a0 Z = true) (hf : rm.frames + 1 ≤ R.frames) (hl : W + (maxL + 11) + rm.locals ≤ R.locals) (hEL : EW Z a0 EL) (H : CHv Z EL vm0 h) (hEx : ∀ vm1, CHr Z EL vm0 h vm1 h → Ex vm1) :
    BackS l R p e below (s.setVm vm0) args y len W (fun A a => a = as' ∧ A.U.heap = h ∧ A.cells + rm.cells ≤ R.cells ∧ A.slots + rm.slots ≤ R.slots)
      (fun A _ v B => ∃ L, Q v B.U.heap L ∧ B.locs = A.locs ++ L ∧ B.cells = A.cells + rm.cells ∧ B.slots = A.slots + rm.slots ∧ CHr Z EL vm0 h B.U.vm B.U.heap) := by
  refine BackS.of_freeW (bytes := bytes) (maxL := maxL) (ret := ret) (E := fun _ first o t L k n => (∃ v, o = .returned v ∧ Q v t.heap L) ∧ k = rm.cells ∧ n = rm.slots ∧ CHr Z EL first.vm first.heap t.vm t.heap) hM hf hl ?_ ?_ (fun _ _ _ _ _ _ _ _ _ => trivial) ?_ ?_
  · intro m meth c A a Y hp
    have hU : Z.Warmed39 A.U.vm := wtrans (s := s.setVm vm0) hZ Y.warmed
    exact ⟨by show (Jvm.Cond.and _ .tt).before a A.U = true; rw [Cond.before_and, mv hU wc]; rfl, mv hU wc, mv hU wz, hp.2.2.1, hp.2.2.2⟩
  · intro m meth c A a g mk Y hp
    have hA := CHv.at Y hZ hEL H
    exact ⟨hp.1, wtrans (s := s.setVm vm0) hZ Y.warmed, hp.2.1, hA.1, hEx _ hA⟩
  · intro a first o t hq
    obtain ⟨v, L, h1, h2, h3, h4⟩ := hq
    exact ⟨L, _, _, h4, ⟨v, h1, h2⟩, rfl, rfl, h3⟩
  · intro m meth c A a g mk v t L k n Y hp _ _ hE
    obtain ⟨⟨v', e3, e4⟩, e1, e2, e5⟩ := hE
    cases e3
    subst e1 e2
    refine ⟨L, e4, rfl, rfl, rfl, (CHv.at Y hZ hEL H).trans ?_⟩
    rw [← hp.2.1]
    exact e5
end OwnW
theorem own_narc {x : Int32} (h : ¬ x < 0 ∧ ¬ (255 : Int32) < x) : nar .char x = x := by
  have b := c_i2c x
  have z0 : (0 : Int32).toInt = 0 := by decide
  have z1 : (255 : Int32).toInt = 255 := by decide
  rw [Int32.lt_iff_toInt_lt, Int32.lt_iff_toInt_lt] at h
  rw [← Int32.toInt_inj]
  show x.toUInt32.toUInt16.toUInt32.toInt32.toInt = _
  omega
theorem own_c255 (x : Int32) : ¬ (x &&& (255 : Int32)).toUInt32.toUInt16.toUInt32.toInt32 < 0 ∧ ¬ (255 : Int32) < (x &&& (255 : Int32)).toUInt32.toUInt16.toUInt32.toInt32 := by
  have a := c_i2c (x &&& (255 : Int32))
  have m := c_mask x 255 8 (by decide) (by decide)
  have z0 : (0 : Int32).toInt = 0 := by decide
  have z1 : (255 : Int32).toInt = 255 := by decide
  rw [Int32.lt_iff_toInt_lt, Int32.lt_iff_toInt_lt]
  omega
theorem own_r16 {cs : List Int32} (h : ∀ c ∈ cs, ¬ c < 0 ∧ ¬ (255 : Int32) < c) : ∀ c ∈ cs, ¬ c < 0 ∧ ¬ (65535 : Int32) < c := fun c q => ⟨(h c q).1, fun z => (h c q).2 (by
  have z1 : (255 : Int32).toInt = 255 := by decide
  have z2 : (65535 : Int32).toInt = 65535 := by decide
  rw [Int32.lt_iff_toInt_lt] at z ⊢
  omega)⟩
theorem own_and3 (x : Int32) : x &&& 3 = 0 ∨ x &&& 3 = 1 ∨ x &&& 3 = 2 ∨ x &&& 3 = 3 := by
  have m := c_mask x 3 2 (by decide) (by decide)
  have z0 : (0 : Int32).toInt = 0 := by decide
  have z1 : (1 : Int32).toInt = 1 := by decide
  have z2 : (2 : Int32).toInt = 2 := by decide
  have z3 : (3 : Int32).toInt = 3 := by decide
  rw [← Int32.toInt_inj, ← Int32.toInt_inj, ← Int32.toInt_inj, ← Int32.toInt_inj]
  omega
theorem own_cod {cs : List Int32} {n : Nat} (hn : cs.length = n) (hb : ∀ c ∈ cs, ¬ (255 : Int32) < c) : StrChars.Road.CodA cs 0 (Int32.ofNat n) ((cs.map StrChars.lo8).map Value.int) := by
  subst hn
  exact Or.inl ⟨rfl, rfl, by rw [List.map_map]; rfl, hb⟩
theorem own_selfsel {s : State} {args : Array Value} {K : String} {y : MethodName} (hs : (Cond.selects K y y).before args s = true) (hp : s.PrivateAt y) (hi : (Cond.instanceMethod y).before args s = true) (hy : y.cls ≠ "java/lang/invoke/MethodHandle" ∧ y.cls ≠ "java/lang/invoke/VarHandle") : (Cond.selects y.cls y y).before args s = true := by
  obtain ⟨c, r, m, h1, h2, h3, h4, k, hk, hni⟩ := Cond.selects_spec hs
  exact Jvm.Stand.selects_self_of_private (findClass_of_methodNamed h3) hk hni hp hi hy
theorem own_same {a0 : Array Value} {Z : State} {y x z : MethodName} {K : String} (hd : (Cond.declares y).before a0 Z = true) (hs : (Cond.selects K x z).before a0 Z = true) (hz : z.cls = y.cls) (hy : y.cls ≠ "java/lang/invoke/MethodHandle" ∧ y.cls ≠ "java/lang/invoke/VarHandle") : (Cond.sameMethod y.cls y.cls y.name y.desc).before a0 Z = true := by
  obtain ⟨m, meth, h1, h2, h3, h4⟩ := Cond.declares_spec hd
  obtain ⟨c, r, m', g1, g2, g3, g4, k, hk, hni⟩ := Cond.selects_spec hs
  have h5 : Z.methodFound? y.cls y.name y.desc = some m := State.methodFound?_of_named h1 hy
  have h6 : Z.methodNamed? ⟨y.cls, y.name, y.desc⟩ = some m := h1
  have h7 : Z.vm.findClass y.cls = some m'.cls := by rw [← hz]; exact findClass_of_methodNamed g3
  simp only [Cond.before, Cond.holds, Cond.value, h5, h6, h7, hk]
  simp [hni]
theorem own_narb (x : Int32) : nar .byte x.toInt8.toInt32 = StrChars.lo8 x := by
  show x.toInt8.toInt32.toInt8.toInt32 = x.toInt8.toInt32
  simp
theorem own_toN {n : Nat} (h : n < 2147483648) : (Int32.ofNat n).toInt = n := by
  rw [Int32.toInt_ofNat_of_lt (by simpa using h)]
theorem own_clampN {n : Nat} (h : n < 2147483648) : (Int32.ofNat n).toNatClampNeg = n := by
  simp only [Int32.toNatClampNeg, own_toN h]; rfl
theorem own_nneg {n : Nat} (h : n < 2147483648) : ¬ Int32.ofNat n < 0 := by
  rw [Int32.lt_iff_toInt_lt, own_toN h]
  show ¬ (n : Int) < 0
  omega
theorem own_olt {a b : Nat} (h : a < b) (hb : b < 2147483648) : Int32.ofNat a < Int32.ofNat b := by
  rw [Int32.lt_iff_toInt_lt, own_toN (by omega), own_toN (by omega)]; omega
theorem own_onlt {a b : Nat} (h : b ≤ a) (hb : a < 2147483648) : ¬ Int32.ofNat a < Int32.ofNat b := by
  rw [Int32.lt_iff_toInt_lt, own_toN (by omega), own_toN (by omega)]; omega
theorem own_one {a b : Nat} (h : a ≠ b) (ha : a < 2147483648) (hb : b < 2147483648) : ¬ Int32.ofNat a = Int32.ofNat b := fun e => by
  have := congrArg Int32.toInt e
  rw [own_toN (by omega), own_toN (by omega)] at this; omega
theorem own_add (a b : Nat) : Int32.ofNat a + Int32.ofNat b = Int32.ofNat (a + b) := (Int32.ofNat_add a b).symm
theorem own_subn {a b : Nat} (h : b ≤ a) (ha : a < 2147483648) : Int32.ofNat a - Int32.ofNat b = Int32.ofNat (a - b) := by
  apply Int32.toInt_inj.mp
  rw [Int32.toInt_sub, own_toN ha, own_toN (by omega), own_toN (by omega), Int.bmod_eq_of_le (by omega) (by omega)]
  omega
theorem own_shr0 (x : Int32) : x >>> ((0 : Int32) &&& 31) = x := by
  rw [show ((0 : Int32) &&& 31) = 0 by decide]; simp
theorem own_shl0 (x : Int32) : x <<< ((0 : Int32) &&& 31) = x := by
  rw [show ((0 : Int32) &&& 31) = 0 by decide]; simp
theorem own_ns {a b : Nat} (h : a ≤ b) (hb : b < 2147483648) : ¬ (0 : Int32) < Int32.ofNat a - Int32.ofNat b := by
  rw [Int32.lt_iff_toInt_lt, Int32.toInt_sub, own_toN (by omega), own_toN (by omega), Int.bmod_eq_of_le (by omega) (by omega)]
  show ¬ (0 : Int) < _
  omega
theorem own_vl (cs : List Int32) : ((cs.map StrChars.lo8).map Value.int).length = cs.length := by simp
theorem own_la {cs ds : List Int32} {k n : Nat} (h1 : cs.length = k) (h2 : ds.length = n) : (cs ++ ds).length = k + n := by rw [List.length_append, h1, h2]
theorem own_us {cs : List Int32} {n : Nat} {d : Value} (h : cs.length = n) : ((cs.map StrChars.lo8).map Value.int) = (List.range n).map fun i => ((cs.map StrChars.lo8).map Value.int).getD (0 + i) d := by
  apply List.ext_getElem
  · simp [h]
  · intro i h1 h2
    simp at h1
    simp [h1]
theorem own_cpB {cs as : List Int32} {k n m : Nat} {d : Value} (hk : cs.length = k) (hn : as.length = n) : ∀ i, (((cs ++ as).map StrChars.lo8).map Value.int).getD i d = ((((cs.map StrChars.lo8).map Value.int) ++ List.replicate m d).take k ++ ((as.map StrChars.lo8).map Value.int) ++ (((cs.map StrChars.lo8).map Value.int) ++ List.replicate m d).drop (k + n)).getD i d := by
  intro i
  have e1 : (((cs.map StrChars.lo8).map Value.int) ++ List.replicate m d).take k = ((cs.map StrChars.lo8).map Value.int) := List.take_left' (by simp [hk])
  have e2 : (((cs.map StrChars.lo8).map Value.int) ++ List.replicate m d).drop (k + n) = List.replicate (m - n) d := by
    rw [← List.drop_drop, List.drop_left' (by simp [hk]), List.drop_replicate]
  rw [e1, e2, pad_rep]
  simp
theorem own_cpC {vs : List Value} {q c : Nat} {d : Value} (h : vs.length ≤ q) : ∀ i, vs.getD i d = ((List.replicate c d).take 0 ++ ((List.range q).map fun i => vs.getD (0 + i) d) ++ (List.replicate c d).drop (0 + q)).getD i d := by
  intro i
  rw [List.take_zero, List.nil_append, List.drop_replicate, pad_rep]
  simp only [List.getD_eq_getElem?_getD, List.getElem?_map, Nat.zero_add]
  by_cases hi : i < q
  · rw [List.getElem?_range hi]; rfl
  · rw [List.getElem?_eq_none (by omega), List.getElem?_eq_none (by simp; omega)]; rfl
section OwnCp
variable {p : Program} {l : Launch} {e : Env} {R : Room} {s : State} {m : MethodId} {args : Array Value} {below : List Frame} {meth : Method} {c : Code} {T : State} {locs : List Loc} {cells slots : Nat} {Z : State} {h : Heap} {a b : Addr}
theorem own_cpPut (X : Stand p l e R s m args below meth c T locs cells slots) (hx : p.tables.exec = Jvm.exec) (hZ : Z.Warmed39 s.vm) {a0 : Array Value} {own : String} {index : Nat} (hown : s.vm.findClass own = some m.cls)
    (w1 : (Cond.methodLink own index Jvm.Stand.acN).before a0 Z = true) (w2 : (Cond.native Jvm.Stand.acN).before a0 Z = true) (w3 : (Cond.static Jvm.Stand.acN).before a0 Z = true) (w4 : (Cond.initialized "java/lang/System").before a0 Z = true) (eT : T.heap = h)
    {ka kb : ClassId} {cs ds : List Int32} {k n q : Nat} (A : Arv Z h a ka .byte (Int32.ofNat n) ((ds.map StrChars.lo8).map Value.int) (.int 0)) (B : Arv Z h b kb .byte (Int32.ofNat q) ((cs.map StrChars.lo8).map Value.int) (.int 0)) (hk : cs.length = k) (hn : ds.length = n) (hq : k + n ≤ q) (hq' : q < 2147483648)
    {n0 : Nat} (N : Fr n0 locs) (ge : n0 ≤ b) {g : JFrame} (hg : g.method = m) (hsize : g.locals.size = c.maxLocals) {rest : List Value} (hs : g.stack = .int (Int32.ofNat n) :: .int (Int32.ofNat k) :: .ref b :: .int (Int32.ofNat 0) :: .ref a :: rest) (hd : decode c.code g.pc = .ok (.invokestatic index, 3))
    (hf : 1 ≤ R.frames) {W : Nat} (hW : 2 * g.monitorRoom + (rest.map fun v => v.category).sum ≤ W) (hlo : W + (nativeFrameWords "java/lang/System" "arraycopy" 5 + 11) ≤ R.locals) :
    ∃ T' h' L, Stand p l e R s m args below meth c T' L cells slots ∧ T'.heap = h' ∧ Fr n0 L ∧ Keep h h' [b] ∧ Arv Z h' b kb .byte (Int32.ofNat q) (((cs ++ ds).map StrChars.lo8).map Value.int) (.int 0) ∧
      ∀ target, Steps p.tables e below (T'.setTop { g with pc := g.pc + 3, stack := rest }) target → Steps p.tables e below (T.setTop g) target := by
  have c0 : (Int32.ofNat 0).toNatClampNeg = 0 := rfl
  have ck : (Int32.ofNat k).toNatClampNeg = k := own_clampN (by omega)
  have cn : (Int32.ofNat n).toNatClampNeg = n := own_clampN (by omega)
  have cq : (Int32.ofNat q).toNatClampNeg = q := own_clampN (by omega)
  obtain ⟨T', h', L, X', e', N', K', A', st⟩ := cpA X hx hZ hown w1 w2 w3 w4 eT A (B.pad (pad_rep _ _ (q - k))) (Or.inl ⟨rfl, rfl⟩) (sp := Int32.ofNat 0) (dp := Int32.ofNat k) (nn := Int32.ofNat n) (own_nneg (by omega)) (own_nneg (by omega)) (own_nneg (by omega))
    (by rw [c0, cn]; omega) (by rw [ck, cn, cq]; exact hq) (us := ((ds.map StrChars.lo8).map Value.int)) (by rw [c0, cn]; exact own_us hn) (by rw [ck, cn, List.length_append, own_vl, List.length_replicate]; omega) N ge hg hsize hs hd hf hW hlo
  refine ⟨T', h', L, X', e', N', K', ?_, st⟩
  rw [ck, cn] at A'
  exact A'.pad (own_cpB hk hn)
theorem own_cpNew (X : Stand p l e R s m args below meth c T locs cells slots) (hx : p.tables.exec = Jvm.exec) (hZ : Z.Warmed39 s.vm) {a0 : Array Value} {own : String} {index : Nat} (hown : s.vm.findClass own = some m.cls)
    (w1 : (Cond.methodLink own index Jvm.Stand.acN).before a0 Z = true) (w2 : (Cond.native Jvm.Stand.acN).before a0 Z = true) (w3 : (Cond.static Jvm.Stand.acN).before a0 Z = true) (w4 : (Cond.initialized "java/lang/System").before a0 Z = true) (eT : T.heap = h)
    {ka kb : ClassId} {vs : List Value} {q c1 c2 : Nat} (A : Arv Z h a ka .byte (Int32.ofNat c1) vs (.int 0)) (B : Arv Z h b kb .byte (Int32.ofNat c2) [] (.int 0)) (hv : vs.length ≤ q) (h1 : q ≤ c1) (h2 : q ≤ c2) (h1' : c1 < 2147483648) (h2' : c2 < 2147483648)
    {n0 : Nat} (N : Fr n0 locs) (ge : n0 ≤ b) {g : JFrame} (hg : g.method = m) (hsize : g.locals.size = c.maxLocals) {rest : List Value} (hs : g.stack = .int (Int32.ofNat q) :: .int (Int32.ofNat 0) :: .ref b :: .int (Int32.ofNat 0) :: .ref a :: rest) (hd : decode c.code g.pc = .ok (.invokestatic index, 3))
    (hf : 1 ≤ R.frames) {W : Nat} (hW : 2 * g.monitorRoom + (rest.map fun v => v.category).sum ≤ W) (hlo : W + (nativeFrameWords "java/lang/System" "arraycopy" 5 + 11) ≤ R.locals) :
    ∃ T' h' L, Stand p l e R s m args below meth c T' L cells slots ∧ T'.heap = h' ∧ Fr n0 L ∧ Keep h h' [b] ∧ Arv Z h' b kb .byte (Int32.ofNat c2) vs (.int 0) ∧
      ∀ target, Steps p.tables e below (T'.setTop { g with pc := g.pc + 3, stack := rest }) target → Steps p.tables e below (T.setTop g) target := by
  have c0 : (Int32.ofNat 0).toNatClampNeg = 0 := rfl
  have cq : (Int32.ofNat q).toNatClampNeg = q := own_clampN (by omega)
  have d1 : (Int32.ofNat c1).toNatClampNeg = c1 := own_clampN h1'
  have d2 : (Int32.ofNat c2).toNatClampNeg = c2 := own_clampN h2'
  obtain ⟨T', h', L, X', e', N', K', A', st⟩ := cpA X hx hZ hown w1 w2 w3 w4 eT A (B.pad (pad_rep [] _ c2)) (Or.inl ⟨rfl, rfl⟩) (sp := Int32.ofNat 0) (dp := Int32.ofNat 0) (nn := Int32.ofNat q) (own_nneg (by omega)) (own_nneg (by omega)) (own_nneg (by omega))
    (by rw [c0, cq, d1]; omega) (by rw [c0, cq, d2]; omega) (us := (List.range q).map fun i => vs.getD (0 + i) (.int 0)) (by rw [c0, cq]) (by rw [c0, cq, List.nil_append, List.length_replicate]; omega) N ge hg hsize hs hd hf hW hlo
  refine ⟨T', h', L, X', e', N', K', ?_, st⟩
  rw [c0, cq] at A'
  exact A'.pad (own_cpC hv)
end OwnCp
theorem own_wl : ∀ cs : List Int32, (StrChars.Road.wideBytes cs).length = 2 * cs.length
  | [] => rfl
  | c :: cs => by simp only [StrChars.Road.wideBytes, List.length_cons, own_wl cs]; omega
theorem own_wapp : ∀ cs ds : List Int32, StrChars.Road.wideBytes (cs ++ ds) = StrChars.Road.wideBytes cs ++ StrChars.Road.wideBytes ds
  | [], ds => rfl
  | c :: cs, ds => by simp only [StrChars.Road.wideBytes, List.cons_append, own_wapp cs ds]
theorem own_setE {vs : List Value} {k m : Nat} {d : Value} (v : Value) (hk : vs.length = k) (hm : 1 ≤ m) : ∀ i, (vs ++ [v]).getD i d = ((vs ++ List.replicate m d).set k v).getD i d := by
  intro i
  obtain ⟨m', rfl⟩ : ∃ m', m = m' + 1 := ⟨m - 1, by omega⟩
  have e : (vs ++ List.replicate (m' + 1) d).set k v = (vs ++ [v]) ++ List.replicate m' d := by
    subst hk
    rw [List.set_append_right _ _ (Nat.le_refl _), Nat.sub_self, List.replicate_succ, List.set_cons_zero, List.append_assoc]; rfl
  rw [e, pad_rep]
theorem own_setW {cs : List Int32} {k m : Nat} {d : Value} (c : Int32) (hk : cs.length = k) (hm : 2 ≤ m) : ∀ i, (StrChars.Road.wideBytes (cs ++ [c])).getD i d = (((StrChars.Road.wideBytes cs ++ List.replicate m d).set (2 * k) (.int (StrChars.lo8 c))).set (2 * k + 1) (.int (StrChars.hi8 c))).getD i d := by
  intro i
  obtain ⟨m', rfl⟩ : ∃ m', m = m' + 2 := ⟨m - 2, by omega⟩
  have hl : (StrChars.Road.wideBytes cs).length = 2 * k := by rw [own_wl, hk]
  have e : ((StrChars.Road.wideBytes cs ++ List.replicate (m' + 2) d).set (2 * k) (.int (StrChars.lo8 c))).set (2 * k + 1) (.int (StrChars.hi8 c)) = (StrChars.Road.wideBytes (cs ++ [c])) ++ List.replicate m' d := by
    rw [List.set_append_right _ _ (by omega), List.set_append_right _ _ (by omega), hl, Nat.sub_self, Nat.add_sub_cancel_left, List.replicate_succ, List.replicate_succ, List.set_cons_zero, List.set_cons_succ, List.set_cons_zero, own_wapp]
    simp [StrChars.Road.wideBytes]
  rw [e, pad_rep]
def own_BC (cs : List Int32) (cd : Int32) (c : Nat) (N2 : Int32) (vs : List Value) : Prop := (cd = 0 ∧ N2 = Int32.ofNat c ∧ vs = ((cs.map StrChars.lo8).map Value.int) ∧ ∀ x ∈ cs, ¬ 255 < x) ∨ (cd = 1 ∧ N2 = Int32.ofNat (2 * c) ∧ vs = StrChars.Road.wideBytes cs ∧ ∃ x ∈ cs, 255 < x)
theorem own_BCc {cs : List Int32} {cd N2 : Int32} {vs : List Value} : own_BC cs cd cs.length N2 vs ↔ StrChars.Road.CodA cs cd N2 vs := by
  unfold own_BC StrChars.Road.CodA
  rw [List.map_map]; exact Iff.rfl
def own_esc (c : Int32) : List Int32 := if c = 38 then [38, 97, 109, 112, 59] else if c = 60 then [38, 108, 116, 59] else if c = 62 then [38, 103, 116, 59] else if c = 34 then [38, 113, 117, 111, 116, 59] else if c = 39 then [38, 35, 51, 57, 59] else [c]
theorem own_escl (c : Int32) : 1 ≤ (own_esc c).length ∧ (own_esc c).length ≤ 6 := by
  unfold own_esc
  repeat' split
  all_goals simp
theorem own_escw {c : Int32} : (∃ x ∈ own_esc c, (255 : Int32) < x) ↔ (255 : Int32) < c := by
  unfold own_esc
  split
  · next h => subst h; decide
  split
  · next h => subst h; decide
  split
  · next h => subst h; decide
  split
  · next h => subst h; decide
  split
  · next h => subst h; decide
  · simp
theorem own_escr {c : Int32} (h : ¬ c < 0 ∧ ¬ (65535 : Int32) < c) : ∀ x ∈ own_esc c, ¬ x < 0 ∧ ¬ (65535 : Int32) < x := by
  unfold own_esc
  repeat' split
  all_goals first | decide | (intro x hx; rw [List.mem_singleton.mp hx]; exact h)
theorem own_shl1 {n : Nat} (h : n < 1073741824) : Int32.ofNat n <<< ((1 : Int32) &&& 31) = Int32.ofNat (2 * n) := by
  rw [show ((1 : Int32) &&& 31) = 1 by decide]
  apply Int32.toBitVec_inj.mp
  rw [Int32.toBitVec_shiftLeft]
  have e1 : ((1 : Int32).toBitVec.smod 32) = 1#32 := by decide
  rw [e1]
  apply BitVec.eq_of_toNat_eq
  rw [BitVec.shiftLeft_eq', BitVec.toNat_shiftLeft]
  show (BitVec.ofNat 32 n).toNat <<< 1 % 2 ^ 32 = (BitVec.ofNat 32 (2 * n)).toNat
  rw [BitVec.toNat_ofNat, BitVec.toNat_ofNat, Nat.shiftLeft_eq]
  omega
theorem own_neT {t tb x : Nat} {n : Nat} (ht : t = tb ∨ n ≤ t) (h1 : x ≠ tb) (h2 : x < n) : x ≠ t := by
  rcases ht with h | h
  · rw [h]; exact h1
  · omega
theorem own_or0 {a b c : Nat} (ha : a < 2147483648) (hb : b < 2147483648) (hc : c < 2147483648) : ¬ ((Int32.ofNat a ||| Int32.ofNat b) ||| Int32.ofNat c) < 0 := by
  have key : ∀ x : Int32, x.toBitVec.msb = false → ¬ x < 0 := by
    intro x h q
    rw [Int32.lt_iff_toInt_lt] at q
    have e : x.toInt = x.toBitVec.toInt := rfl
    rw [e, BitVec.toInt_eq_msb_cond, h] at q
    have z : (0 : Int32).toInt = 0 := by decide
    simp at q
    omega
  have m : ∀ n : Nat, n < 2147483648 → (Int32.ofNat n).toBitVec.msb = false := by
    intro n hn
    show (BitVec.ofNat 32 n).msb = false
    rw [BitVec.msb_eq_false_iff_two_mul_lt, BitVec.toNat_ofNat]
    omega
  apply key
  rw [Int32.toBitVec_or, Int32.toBitVec_or, BitVec.msb_or, BitVec.msb_or, m a ha, m b hb, m c hc]
  rfl
theorem own_usr {n : Nat} (h : 1 ≤ n) (hn : n < 1000) : ((Int32.ofNat n - Int32.ofNat (2 * n)).toUInt32 >>> ((31 : Int32) &&& 31).toUInt32).toInt32.toInt8.toInt32 = 1 := by
  have : ∀ k : Fin 1000, 1 ≤ k.1 → ((Int32.ofNat k.1 - Int32.ofNat (2 * k.1)).toUInt32 >>> ((31 : Int32) &&& 31).toUInt32).toInt32.toInt8.toInt32 = 1 := by decide +kernel
  exact this ⟨n, hn⟩ h
theorem own_nb2 (x : Int32) : x.toInt8.toInt32.toInt8.toInt32 = StrChars.lo8 x := by
  show _ = x.toInt8.toInt32
  simp
def own_PU (Z : State) (n0 : Nat) (h0 : Heap) (z : Int32) (fm : Value) : Prop := (¬ z = (0 : Int32)) ∧ (Old Z n0 h0) ∧ (Sta Z Z.heap "java/lang/String" "COMPACT_STRINGS" "Z" (.int z)) ∧ (Sta Z Z.heap "java/lang/StringUTF16" "$assertionsDisabled" "Z" (.int 1)) ∧ (Sta Z Z.heap "java/lang/StringUTF16" "HI_BYTE_SHIFT" "I" (.int 0)) ∧ (Sta Z Z.heap "java/lang/StringUTF16" "LO_BYTE_SHIFT" "I" (.int 8)) ∧ (Sta Z Z.heap "jdk/internal/util/Preconditions" "SIOOBE_FORMATTER" "Ljava/util/function/BiFunction;" fm) ∧ (fm.isRef = true)
theorem pn_0 : plainName "jdk/internal/util/Preconditions" = true := by first | (simp [plainName, overriddenIn]; done) | decide +kernel
theorem dB27 : oL jdk_41_method_11_code [(0, .iload_n 0, 1), (1, .ifCond .lt 8, 3), (4, .iload_n 0, 1), (5, .iload_n 1, 1), (6, .if_icmp .lt 10, 3), (9, .aload_n 2, 1), (10, .iload_n 0, 1), (11, .iload_n 1, 1), (12, .invokestatic 95, 3), (15, .athrow, 1), (16, .iload_n 0, 1), (17, .ireturn, 1)] := by unfold oL; decide +kernel
theorem ef_rm27 (m : MethodId) (x0 : Int32) (x1 : Int32) (x2 : Value) (hr2 : x2.isRef = true) : entryFrame m #[(.int x0), (.int x1), x2] 3 = mkF m 0 #[.val (.int x0), .val (.int x1), .val x2] [] := by
  rcases ref_cases hr2 with rfl | ⟨_, rfl⟩ <;> first | (simp [entryFrame, mkF, argsToLocals, Value.category]; done) | rfl
def Q27 (Z : State) (fm : Value) (j : Nat) (n : Nat) (h0 : Heap) (n0 : Nat) (v : Option Value) (h : Heap) (L : List Loc) : Prop := v = some (.int (Int32.ofNat j)) ∧ Fr n0 L ∧ h = h0
set_option maxRecDepth 65536 in
set_option maxHeartbeats 40000000 in
theorem rm27 (l : Launch) (Z : State) (a0 : Array Value) (hw : ∀ d ∈ tables_1, d.before a0 Z = true) (ws : List Jvm.Cond) (fm : Value) (j : Nat) (n : Nat) (h0 : Heap) (n0 : Nat) (Z0 : n0 ≤ h0.size) (hfm : fm.isRef = true) (hj : j < n) (hn : n < 1000) :
    own_M l (⟨"jdk/internal/util/Preconditions", "checkIndex", "(IILjava/util/function/BiFunction;)I"⟩ : MethodName) jdk_41_method_11_code 3 (some .int) ws ({ frames := 0, cells := 0, slots := 0, locals := 0 } : Room) #[(.int (Int32.ofNat j)), (.int (Int32.ofNat n)), fm] Z h0 (Q27 Z fm j n h0 n0) := by
  refine MetFree.of_bodySF (plainFor_of_name pn_0) hisR ?_
  intro p e s m args below meth cd s₁ Bd hml hP hK
  obtain ⟨rfl, hZ, hh⟩ := hP
  obtain ⟨X0, e0, H, hlk, hown, hret⟩ := own_start (R := ({ frames := 0, cells := 0, slots := 0, locals := 0 } : Room)) Bd hh rfl
  have hx := H.1; have hby := H.2; have N0 := Fr.nil n0
  show own_Fin p e below (own_Ans s (Q27 Z fm j n h0 n0) ({ frames := 0, cells := 0, slots := 0, locals := 0 } : Room).cells ({ frames := 0, cells := 0, slots := 0, locals := 0 } : Room).slots) (s₁.setTop (entryFrame m #[(.int (Int32.ofNat j)), (.int (Int32.ofNat n)), fm] 3))
  refine own_cast (ef_rm27 m (Int32.ofNat j) (Int32.ofNat n) fm hfm) ?_
  show own_Fin p e below _ (s₁.setTop (mkF m 0 #[.val (.int (Int32.ofNat j)), .val (.int (Int32.ofNat n)), .val fm] []))
  refine o_ildN X0 H (od dB27 0 rfl) rfl ?_
  refine o_ifN X0 H (od dB27 1 rfl) ((if0 _ _).trans (flt (own_nneg (by omega))).1) ?_
  refine o_ildN X0 H (od dB27 2 rfl) rfl ?_
  refine o_ildN X0 H (od dB27 3 rfl) rfl ?_
  refine o_icY X0 H (od dB27 4 rfl) (tlt (own_olt hj (by omega))).1 (pc' := 16) (by decide) (by decide) ?_
  refine o_ildN X0 H (od dB27 10 rfl) rfl ?_
  exact own_ret (t := .int) X0 hx hlk hret rfl (Or.inl ⟨rfl, (by simp), _, rfl⟩) (hb hby (od dB27 11 rfl)) (⟨rfl, N0, e0⟩) (by decide) (by decide)
theorem pn_1 : plainName "java/lang/String" = true := by first | (simp [plainName, overriddenIn]; done) | decide +kernel
theorem dB26 : oL jdk_42_method_155_code [(0, .iload_n 0, 1), (1, .iload_n 1, 1), (2, .getstatic 1053, 3), (5, .invokestatic 1059, 3), (8, .pop, 1), (9, .return_, 1)] := by unfold oL; decide +kernel
theorem pd_0 : parseMethodDescriptor "(IILjava/util/function/BiFunction;)I" = some ⟨[.int, .int, (.object "java/util/function/BiFunction")], some .int⟩ := by decide +kernel
theorem ef_rm26 (m : MethodId) (x0 : Int32) (x1 : Int32) : entryFrame m #[(.int x0), (.int x1)] 2 = mkF m 0 #[.val (.int x0), .val (.int x1)] [] := by first | (simp [entryFrame, mkF, argsToLocals, Value.category]; done) | rfl
def Q26 (Z : State) (j : Nat) (n : Nat) (z : Int32) (fm : Value) (h0 : Heap) (n0 : Nat) (v : Option Value) (h : Heap) (L : List Loc) : Prop := v = none ∧ Fr n0 L ∧ h = h0
set_option maxRecDepth 65536 in
set_option maxHeartbeats 40000000 in
theorem rm26 (l : Launch) (Z : State) (a0 : Array Value) (hw : ∀ d ∈ tables_1, d.before a0 Z = true) (ws : List Jvm.Cond) (j : Nat) (n : Nat) (z : Int32) (fm : Value) (h0 : Heap) (n0 : Nat) (Z0 : n0 ≤ h0.size) (PU : own_PU Z n0 h0 z fm) (hj : j < n) (hn : n < 1000) :
    own_M l (⟨"java/lang/String", "checkIndex", "(II)V"⟩ : MethodName) jdk_42_method_155_code 2 none ws ({ frames := 1, cells := 0, slots := 0, locals := 14 } : Room) #[(.int (Int32.ofNat j)), (.int (Int32.ofNat n))] Z h0 (Q26 Z j n z fm h0 n0) := by
  refine MetFree.of_bodySF (plainFor_of_name pn_1) hisR ?_
  intro p e s m args below meth cd s₁ Bd hml hP hK
  obtain ⟨rfl, hZ, hh⟩ := hP
  obtain ⟨X0, e0, H, hlk, hown, hret⟩ := own_start (R := ({ frames := 1, cells := 0, slots := 0, locals := 14 } : Room)) Bd hh rfl
  have hx := H.1; have hby := H.2; have N0 := Fr.nil n0
  obtain ⟨hz, O, SC, SA, SH, SL, SF, hfm⟩ := PU
  show own_Fin p e below (own_Ans s (Q26 Z j n z fm h0 n0) ({ frames := 1, cells := 0, slots := 0, locals := 14 } : Room).cells ({ frames := 1, cells := 0, slots := 0, locals := 14 } : Room).slots) (s₁.setTop (entryFrame m #[(.int (Int32.ofNat j)), (.int (Int32.ofNat n))] 2))
  refine own_cast (ef_rm26 m (Int32.ofNat j) (Int32.ofNat n)) ?_
  show own_Fin p e below _ (s₁.setTop (mkF m 0 #[.val (.int (Int32.ofNat j)), .val (.int (Int32.ofNat n))] []))
  refine o_ildN X0 H (od dB26 0 rfl) rfl ?_
  refine o_ildN X0 H (od dB26 1 rfl) rfl ?_
  refine o_gs X0 H hZ hown (ow hw 140 rfl) Via.refl e0 (SF.ext O.2) (od dB26 2 rfl) fun T1 X1 e1 => ?_
  refine o_tc (argsL := [(.int (Int32.ofNat j)), (.int (Int32.ofNat n)), fm]) (rest := []) X1 H hml hZ hown (ow hw 142 rfl) (ow hw 143 rfl) (ow hw 141 rfl) (ow hw 144 rfl) (backOf (W := 0) (rm27 l Z a0 hw [] fm j n h0 n0 (by exact Z0) hfm hj hn) hZ (ow hw 144 rfl) (ow hw 141 rfl) (by decide) (by decide)) (by decide) e1 pd_0 (od dB26 3 rfl) rfl rfl rfl rfl rfl (by decide) (by decide) (o_pk (fun _ _ _ q => q) N0 fun T2 Lc2 X2 N2 e2 => ?_)
  refine o_pop X2 H (od dB26 4 rfl) rfl ?_
  exact own_retV X2 hx hlk hret (hb hby (od dB26 5 rfl)) (⟨rfl, N2, e2⟩) (by decide) (by decide)
theorem pn_2 : plainName "java/lang/StringUTF16" = true := by first | (simp [plainName, overriddenIn]; done) | decide +kernel
theorem dB51 : oL jdk_52_method_6_code [(0, .aload_n 0, 1), (1, .arraylength, 1), (2, .iconst 1, 1), (3, .ishr, 1), (4, .ireturn, 1)] := by unfold oL; decide +kernel
theorem ef_rm51 (m : MethodId) (x0 : Addr) : entryFrame m #[(.ref x0)] 1 = mkF m 0 #[.val (.ref x0)] [] := by first | (simp [entryFrame, mkF, argsToLocals, Value.category]; done) | rfl
def Q51 (Z : State) (t : Addr) (kt : ClassId) (c : Nat) (vs : List Value) (h0 : Heap) (n0 : Nat) (v : Option Value) (h : Heap) (L : List Loc) : Prop := v = some (.int (Int32.ofNat c)) ∧ Fr n0 L ∧ h = h0
set_option maxRecDepth 65536 in
set_option maxHeartbeats 40000000 in
theorem rm51 (l : Launch) (Z : State) (a0 : Array Value) (hw : ∀ d ∈ tables_1, d.before a0 Z = true) (ws : List Jvm.Cond) (t : Addr) (kt : ClassId) (c : Nat) (vs : List Value) (h0 : Heap) (n0 : Nat) (Z0 : n0 ≤ h0.size) (At : Arv Z h0 t kt .byte (Int32.ofNat (2 * c)) vs (.int 0)) (hc : c < 1000) :
    own_M l (⟨"java/lang/StringUTF16", "length", "([B)I"⟩ : MethodName) jdk_52_method_6_code 1 (some .int) ws ({ frames := 0, cells := 0, slots := 0, locals := 0 } : Room) #[(.ref t)] Z h0 (Q51 Z t kt c vs h0 n0) := by
  refine MetFree.of_bodySF (plainFor_of_name pn_2) hisR ?_
  intro p e s m args below meth cd s₁ Bd hml hP hK
  obtain ⟨rfl, hZ, hh⟩ := hP
  obtain ⟨X0, e0, H, hlk, hown, hret⟩ := own_start (R := ({ frames := 0, cells := 0, slots := 0, locals := 0 } : Room)) Bd hh rfl
  have hx := H.1; have hby := H.2; have N0 := Fr.nil n0
  show own_Fin p e below (own_Ans s (Q51 Z t kt c vs h0 n0) ({ frames := 0, cells := 0, slots := 0, locals := 0 } : Room).cells ({ frames := 0, cells := 0, slots := 0, locals := 0 } : Room).slots) (s₁.setTop (entryFrame m #[(.ref t)] 1))
  refine own_cast (ef_rm51 m t) ?_
  show own_Fin p e below _ (s₁.setTop (mkF m 0 #[.val (.ref t)] []))
  refine o_aldN X0 H (od dB51 0 rfl) rfl rfl ?_
  have cp3 := At
  obtain ⟨cl3, Ar3, q3, S3, G3, H3, F3⟩ := cp3
  refine own_on (fun tq => X0.arraylength hx (by rw [e0]; exact Ar3.1) (State.isArrayOf_alike hZ.alike Ar3.2.1) (g := (mkF m 1 #[.val (.ref t)] [(.ref t)])) rfl rfl (hb hby (od dB51 1 rfl)) tq) ?_
  rw [len_of S3 G3]
  show own_Fin p e below _ (s₁.setTop (mkF m 2 #[.val (.ref t)] [(.int (Int32.ofNat (2 * c)))]))
  refine o_ic X0 H (od dB51 2 rfl) (v := 1) rfl ?_
  refine own_on (fun tq => XS.ishr X0.here hx rfl (hb hby (od dB51 3 rfl)) rfl) ?_
  show own_Fin p e below _ (s₁.setTop (mkF m 4 #[.val (.ref t)] [(.int ((Int32.ofNat (2 * c)) >>> ((1 : Int32) &&& 31)))]))
  rw [StrChars.shr1 (by omega)]
  show own_Fin p e below _ (s₁.setTop (mkF m 4 #[.val (.ref t)] [(.int (Int32.ofNat c))]))
  exact own_ret (t := .int) X0 hx hlk hret rfl (Or.inl ⟨rfl, (by simp), _, rfl⟩) (hb hby (od dB51 4 rfl)) (⟨rfl, N0, e0⟩) (by decide) (by decide)
theorem dB50 : oL jdk_52_method_91_code [(0, .iload_n 0, 1), (1, .aload_n 1, 1), (2, .invokestatic 48, 3), (5, .invokestatic 414, 3), (8, .return_, 1)] := by unfold oL; decide +kernel
theorem pd_1 : parseMethodDescriptor "([B)I" = some ⟨[(.array .byte)], some .int⟩ := by decide +kernel
theorem pd_2 : parseMethodDescriptor "(II)V" = some ⟨[.int, .int], none⟩ := by decide +kernel
theorem ef_rm50 (m : MethodId) (x0 : Int32) (x1 : Addr) : entryFrame m #[(.int x0), (.ref x1)] 2 = mkF m 0 #[.val (.int x0), .val (.ref x1)] [] := by first | (simp [entryFrame, mkF, argsToLocals, Value.category]; done) | rfl
def Q50 (Z : State) (t : Addr) (j : Nat) (kt : ClassId) (c : Nat) (vs : List Value) (z : Int32) (fm : Value) (h0 : Heap) (n0 : Nat) (v : Option Value) (h : Heap) (L : List Loc) : Prop := v = none ∧ Fr n0 L ∧ h = h0
set_option maxRecDepth 65536 in
set_option maxHeartbeats 40000000 in
theorem rm50 (l : Launch) (Z : State) (a0 : Array Value) (hw : ∀ d ∈ tables_1, d.before a0 Z = true) (ws : List Jvm.Cond) (t : Addr) (j : Nat) (kt : ClassId) (c : Nat) (vs : List Value) (z : Int32) (fm : Value) (h0 : Heap) (n0 : Nat) (Z0 : n0 ≤ h0.size) (PU : own_PU Z n0 h0 z fm) (At : Arv Z h0 t kt .byte (Int32.ofNat (2 * c)) vs (.int 0)) (hc : c < 1000) (hj : j < c) :
    own_M l (⟨"java/lang/StringUTF16", "checkIndex", "(I[B)V"⟩ : MethodName) jdk_52_method_91_code 2 none ws ({ frames := 2, cells := 0, slots := 0, locals := 27 } : Room) #[(.int (Int32.ofNat j)), (.ref t)] Z h0 (Q50 Z t j kt c vs z fm h0 n0) := by
  refine MetFree.of_bodySF (plainFor_of_name pn_2) hisR ?_
  intro p e s m args below meth cd s₁ Bd hml hP hK
  obtain ⟨rfl, hZ, hh⟩ := hP
  obtain ⟨X0, e0, H, hlk, hown, hret⟩ := own_start (R := ({ frames := 2, cells := 0, slots := 0, locals := 27 } : Room)) Bd hh rfl
  have hx := H.1; have hby := H.2; have N0 := Fr.nil n0
  obtain ⟨hz, O, SC, SA, SH, SL, SF, hfm⟩ := PU
  show own_Fin p e below (own_Ans s (Q50 Z t j kt c vs z fm h0 n0) ({ frames := 2, cells := 0, slots := 0, locals := 27 } : Room).cells ({ frames := 2, cells := 0, slots := 0, locals := 27 } : Room).slots) (s₁.setTop (entryFrame m #[(.int (Int32.ofNat j)), (.ref t)] 2))
  refine own_cast (ef_rm50 m (Int32.ofNat j) t) ?_
  show own_Fin p e below _ (s₁.setTop (mkF m 0 #[.val (.int (Int32.ofNat j)), .val (.ref t)] []))
  refine o_ildN X0 H (od dB50 0 rfl) rfl ?_
  refine o_aldN X0 H (od dB50 1 rfl) rfl rfl ?_
  refine o_tc (argsL := [(.ref t)]) (rest := [(.int (Int32.ofNat j))]) X0 H hml hZ hown (ow hw 250 rfl) (ow hw 251 rfl) (ow hw 112 rfl) (ow hw 252 rfl) (backOf (W := 1) (rm51 l Z a0 hw [] t kt c _ h0 n0 (by exact Z0) At (by omega)) hZ (ow hw 252 rfl) (ow hw 112 rfl) (by decide) (by decide)) (by decide) e0 pd_1 (od dB50 2 rfl) rfl rfl rfl rfl rfl (by decide) (by decide) (o_pk (fun _ _ _ q => q) N0 fun T4 Lc4 X4 N4 e4 => ?_)
  refine o_tc (argsL := [(.int (Int32.ofNat j)), (.int (Int32.ofNat c))]) (rest := []) X4 H hml hZ hown (ow hw 253 rfl) (ow hw 138 rfl) (ow hw 7 rfl) (ow hw 139 rfl) (backOf (W := 0) (rm26 l Z a0 hw [] j c z fm h0 n0 (by exact Z0) ⟨hz, O, SC, SA, SH, SL, SF, hfm⟩ (by omega) (by omega)) hZ (ow hw 139 rfl) (ow hw 7 rfl) (by decide) (by decide)) (by decide) e4 pd_2 (od dB50 3 rfl) rfl rfl rfl rfl rfl (by decide) (by decide) (o_pv (fun _ _ _ q => q) N4 fun T5 Lc5 X5 N5 e5 => ?_)
  exact own_retV X5 hx hlk hret (hb hby (od dB50 4 rfl)) (⟨rfl, N5, e5⟩) (by decide) (by decide)
theorem dB57 : oL jdk_41_method_13_code [(0, .iload_n 2, 1), (1, .iload_n 0, 1), (2, .ior, 1), (3, .iload_n 1, 1), (4, .ior, 1), (5, .ifCond .lt 10, 3), (8, .iload_n 1, 1), (9, .iload_n 2, 1), (10, .iload_n 0, 1), (11, .isub, 1), (12, .if_icmp .le 11, 3), (15, .aload_n 3, 1), (16, .iload_n 0, 1), (17, .iload_n 1, 1), (18, .iload_n 2, 1), (19, .invokestatic 103, 3), (22, .athrow, 1), (23, .iload_n 0, 1), (24, .ireturn, 1)] := by unfold oL; decide +kernel
theorem ef_rm57 (m : MethodId) (x0 : Int32) (x1 : Int32) (x2 : Int32) (x3 : Value) (hr3 : x3.isRef = true) : entryFrame m #[(.int x0), (.int x1), (.int x2), x3] 4 = mkF m 0 #[.val (.int x0), .val (.int x1), .val (.int x2), .val x3] [] := by
  rcases ref_cases hr3 with rfl | ⟨_, rfl⟩ <;> first | (simp [entryFrame, mkF, argsToLocals, Value.category]; done) | rfl
def Q57 (Z : State) (fm : Value) (a : Nat) (n : Nat) (c : Nat) (h0 : Heap) (n0 : Nat) (v : Option Value) (h : Heap) (L : List Loc) : Prop := v = some (.int (Int32.ofNat a)) ∧ Fr n0 L ∧ h = h0
set_option maxRecDepth 65536 in
set_option maxHeartbeats 40000000 in
theorem rm57 (l : Launch) (Z : State) (a0 : Array Value) (hw : ∀ d ∈ tables_1, d.before a0 Z = true) (ws : List Jvm.Cond) (fm : Value) (a : Nat) (n : Nat) (c : Nat) (h0 : Heap) (n0 : Nat) (Z0 : n0 ≤ h0.size) (hfm : fm.isRef = true) (hac : a + n ≤ c) (hc : c < 1000) :
    own_M l (⟨"jdk/internal/util/Preconditions", "checkFromIndexSize", "(IIILjava/util/function/BiFunction;)I"⟩ : MethodName) jdk_41_method_13_code 4 (some .int) ws ({ frames := 0, cells := 0, slots := 0, locals := 0 } : Room) #[(.int (Int32.ofNat a)), (.int (Int32.ofNat n)), (.int (Int32.ofNat c)), fm] Z h0 (Q57 Z fm a n c h0 n0) := by
  refine MetFree.of_bodySF (plainFor_of_name pn_0) hisR ?_
  intro p e s m args below meth cd s₁ Bd hml hP hK
  obtain ⟨rfl, hZ, hh⟩ := hP
  obtain ⟨X0, e0, H, hlk, hown, hret⟩ := own_start (R := ({ frames := 0, cells := 0, slots := 0, locals := 0 } : Room)) Bd hh rfl
  have hx := H.1; have hby := H.2; have N0 := Fr.nil n0
  show own_Fin p e below (own_Ans s (Q57 Z fm a n c h0 n0) ({ frames := 0, cells := 0, slots := 0, locals := 0 } : Room).cells ({ frames := 0, cells := 0, slots := 0, locals := 0 } : Room).slots) (s₁.setTop (entryFrame m #[(.int (Int32.ofNat a)), (.int (Int32.ofNat n)), (.int (Int32.ofNat c)), fm] 4))
  refine own_cast (ef_rm57 m (Int32.ofNat a) (Int32.ofNat n) (Int32.ofNat c) fm hfm) ?_
  show own_Fin p e below _ (s₁.setTop (mkF m 0 #[.val (.int (Int32.ofNat a)), .val (.int (Int32.ofNat n)), .val (.int (Int32.ofNat c)), .val fm] []))
  refine o_ildN X0 H (od dB57 0 rfl) rfl ?_
  refine o_ildN X0 H (od dB57 1 rfl) rfl ?_
  refine own_on (fun tq => XS.ior X0.here hx rfl (hb hby (od dB57 2 rfl)) rfl) ?_
  show own_Fin p e below _ (s₁.setTop (mkF m 3 #[.val (.int (Int32.ofNat a)), .val (.int (Int32.ofNat n)), .val (.int (Int32.ofNat c)), .val fm] [(.int ((Int32.ofNat c) ||| (Int32.ofNat a)))]))
  refine o_ildN X0 H (od dB57 3 rfl) rfl ?_
  refine own_on (fun tq => XS.ior X0.here hx rfl (hb hby (od dB57 4 rfl)) rfl) ?_
  show own_Fin p e below _ (s₁.setTop (mkF m 5 #[.val (.int (Int32.ofNat a)), .val (.int (Int32.ofNat n)), .val (.int (Int32.ofNat c)), .val fm] [(.int (((Int32.ofNat c) ||| (Int32.ofNat a)) ||| (Int32.ofNat n)))]))
  refine o_ifN X0 H (od dB57 5 rfl) ((if0 _ _).trans (flt (own_or0 (by omega) (by omega) (by omega))).1) ?_
  refine o_ildN X0 H (od dB57 6 rfl) rfl ?_
  refine o_ildN X0 H (od dB57 7 rfl) rfl ?_
  refine o_ildN X0 H (od dB57 8 rfl) rfl ?_
  refine o_isub X0 H (od dB57 9 rfl) ?_
  rw [own_subn (by omega) (by omega)]
  show own_Fin p e below _ (s₁.setTop (mkF m 12 #[.val (.int (Int32.ofNat a)), .val (.int (Int32.ofNat n)), .val (.int (Int32.ofNat c)), .val fm] [(.int (Int32.ofNat (c - a))), (.int (Int32.ofNat n))]))
  refine o_icY X0 H (od dB57 10 rfl) (flt (own_onlt (by omega) (by omega))).2.2.2 (pc' := 23) (by decide) (by decide) ?_
  refine o_ildN X0 H (od dB57 17 rfl) rfl ?_
  exact own_ret (t := .int) X0 hx hlk hret rfl (Or.inl ⟨rfl, (by simp), _, rfl⟩) (hb hby (od dB57 18 rfl)) (⟨rfl, N0, e0⟩) (by decide) (by decide)
theorem dB56 : oL jdk_42_method_157_code [(0, .iload_n 0, 1), (1, .iload_n 1, 1), (2, .iload_n 2, 1), (3, .getstatic 1053, 3), (6, .invokestatic 1065, 3), (9, .ireturn, 1)] := by unfold oL; decide +kernel
theorem pd_3 : parseMethodDescriptor "(IIILjava/util/function/BiFunction;)I" = some ⟨[.int, .int, .int, (.object "java/util/function/BiFunction")], some .int⟩ := by decide +kernel
theorem ef_rm56 (m : MethodId) (x0 : Int32) (x1 : Int32) (x2 : Int32) : entryFrame m #[(.int x0), (.int x1), (.int x2)] 3 = mkF m 0 #[.val (.int x0), .val (.int x1), .val (.int x2)] [] := by first | (simp [entryFrame, mkF, argsToLocals, Value.category]; done) | rfl
def Q56 (Z : State) (a : Nat) (n : Nat) (c : Nat) (z : Int32) (fm : Value) (h0 : Heap) (n0 : Nat) (v : Option Value) (h : Heap) (L : List Loc) : Prop := v = some (.int (Int32.ofNat a)) ∧ Fr n0 L ∧ h = h0
set_option maxRecDepth 65536 in
set_option maxHeartbeats 40000000 in
theorem rm56 (l : Launch) (Z : State) (a0 : Array Value) (hw : ∀ d ∈ tables_1, d.before a0 Z = true) (ws : List Jvm.Cond) (a : Nat) (n : Nat) (c : Nat) (z : Int32) (fm : Value) (h0 : Heap) (n0 : Nat) (Z0 : n0 ≤ h0.size) (PU : own_PU Z n0 h0 z fm) (hac : a + n ≤ c) (hc : c < 1000) :
    own_M l (⟨"java/lang/String", "checkBoundsOffCount", "(III)I"⟩ : MethodName) jdk_42_method_157_code 3 (some .int) ws ({ frames := 1, cells := 0, slots := 0, locals := 15 } : Room) #[(.int (Int32.ofNat a)), (.int (Int32.ofNat n)), (.int (Int32.ofNat c))] Z h0 (Q56 Z a n c z fm h0 n0) := by
  refine MetFree.of_bodySF (plainFor_of_name pn_1) hisR ?_
  intro p e s m args below meth cd s₁ Bd hml hP hK
  obtain ⟨rfl, hZ, hh⟩ := hP
  obtain ⟨X0, e0, H, hlk, hown, hret⟩ := own_start (R := ({ frames := 1, cells := 0, slots := 0, locals := 15 } : Room)) Bd hh rfl
  have hx := H.1; have hby := H.2; have N0 := Fr.nil n0
  obtain ⟨hz, O, SC, SA, SH, SL, SF, hfm⟩ := PU
  show own_Fin p e below (own_Ans s (Q56 Z a n c z fm h0 n0) ({ frames := 1, cells := 0, slots := 0, locals := 15 } : Room).cells ({ frames := 1, cells := 0, slots := 0, locals := 15 } : Room).slots) (s₁.setTop (entryFrame m #[(.int (Int32.ofNat a)), (.int (Int32.ofNat n)), (.int (Int32.ofNat c))] 3))
  refine own_cast (ef_rm56 m (Int32.ofNat a) (Int32.ofNat n) (Int32.ofNat c)) ?_
  show own_Fin p e below _ (s₁.setTop (mkF m 0 #[.val (.int (Int32.ofNat a)), .val (.int (Int32.ofNat n)), .val (.int (Int32.ofNat c))] []))
  refine o_ildN X0 H (od dB56 0 rfl) rfl ?_
  refine o_ildN X0 H (od dB56 1 rfl) rfl ?_
  refine o_ildN X0 H (od dB56 2 rfl) rfl ?_
  refine o_gs X0 H hZ hown (ow hw 140 rfl) Via.refl e0 (SF.ext O.2) (od dB56 3 rfl) fun T6 X6 e6 => ?_
  refine o_tc (argsL := [(.int (Int32.ofNat a)), (.int (Int32.ofNat n)), (.int (Int32.ofNat c)), fm]) (rest := []) X6 H hml hZ hown (ow hw 272 rfl) (ow hw 273 rfl) (ow hw 141 rfl) (ow hw 274 rfl) (backOf (W := 0) (rm57 l Z a0 hw [] fm a n c h0 n0 (by exact Z0) hfm hac hc) hZ (ow hw 274 rfl) (ow hw 141 rfl) (by decide) (by decide)) (by decide) e6 pd_3 (od dB56 4 rfl) rfl rfl rfl rfl rfl (by decide) (by decide) (o_pk (fun _ _ _ q => q) N0 fun T7 Lc7 X7 N7 e7 => ?_)
  exact own_ret (t := .int) X7 hx hlk hret rfl (Or.inl ⟨rfl, (by simp), _, rfl⟩) (hb hby (od dB56 5 rfl)) (⟨rfl, N7, e7⟩) (by decide) (by decide)
theorem dB55 : oL jdk_52_method_94_code [(0, .iload_n 0, 1), (1, .iload_n 1, 1), (2, .aload_n 2, 1), (3, .invokestatic 48, 3), (6, .invokestatic 419, 3), (9, .pop, 1), (10, .return_, 1)] := by unfold oL; decide +kernel
theorem pd_4 : parseMethodDescriptor "(III)I" = some ⟨[.int, .int, .int], some .int⟩ := by decide +kernel
theorem ef_rm55 (m : MethodId) (x0 : Int32) (x1 : Int32) (x2 : Addr) : entryFrame m #[(.int x0), (.int x1), (.ref x2)] 3 = mkF m 0 #[.val (.int x0), .val (.int x1), .val (.ref x2)] [] := by first | (simp [entryFrame, mkF, argsToLocals, Value.category]; done) | rfl
def Q55 (Z : State) (t : Addr) (a : Nat) (n : Nat) (c : Nat) (kt : ClassId) (vs : List Value) (z : Int32) (fm : Value) (h0 : Heap) (n0 : Nat) (v : Option Value) (h : Heap) (L : List Loc) : Prop := v = none ∧ Fr n0 L ∧ h = h0
set_option maxRecDepth 65536 in
set_option maxHeartbeats 40000000 in
theorem rm55 (l : Launch) (Z : State) (a0 : Array Value) (hw : ∀ d ∈ tables_1, d.before a0 Z = true) (ws : List Jvm.Cond) (t : Addr) (a : Nat) (n : Nat) (c : Nat) (kt : ClassId) (vs : List Value) (z : Int32) (fm : Value) (h0 : Heap) (n0 : Nat) (Z0 : n0 ≤ h0.size) (PU : own_PU Z n0 h0 z fm) (hac : a + n ≤ c) (hc : c < 1000) (At : Arv Z h0 t kt .byte (Int32.ofNat (2 * c)) vs (.int 0)) :
    own_M l (⟨"java/lang/StringUTF16", "checkBoundsOffCount", "(II[B)V"⟩ : MethodName) jdk_52_method_94_code 3 none ws ({ frames := 2, cells := 0, slots := 0, locals := 29 } : Room) #[(.int (Int32.ofNat a)), (.int (Int32.ofNat n)), (.ref t)] Z h0 (Q55 Z t a n c kt vs z fm h0 n0) := by
  refine MetFree.of_bodySF (plainFor_of_name pn_2) hisR ?_
  intro p e s m args below meth cd s₁ Bd hml hP hK
  obtain ⟨rfl, hZ, hh⟩ := hP
  obtain ⟨X0, e0, H, hlk, hown, hret⟩ := own_start (R := ({ frames := 2, cells := 0, slots := 0, locals := 29 } : Room)) Bd hh rfl
  have hx := H.1; have hby := H.2; have N0 := Fr.nil n0
  obtain ⟨hz, O, SC, SA, SH, SL, SF, hfm⟩ := PU
  show own_Fin p e below (own_Ans s (Q55 Z t a n c kt vs z fm h0 n0) ({ frames := 2, cells := 0, slots := 0, locals := 29 } : Room).cells ({ frames := 2, cells := 0, slots := 0, locals := 29 } : Room).slots) (s₁.setTop (entryFrame m #[(.int (Int32.ofNat a)), (.int (Int32.ofNat n)), (.ref t)] 3))
  refine own_cast (ef_rm55 m (Int32.ofNat a) (Int32.ofNat n) t) ?_
  show own_Fin p e below _ (s₁.setTop (mkF m 0 #[.val (.int (Int32.ofNat a)), .val (.int (Int32.ofNat n)), .val (.ref t)] []))
  refine o_ildN X0 H (od dB55 0 rfl) rfl ?_
  refine o_ildN X0 H (od dB55 1 rfl) rfl ?_
  refine o_aldN X0 H (od dB55 2 rfl) rfl rfl ?_
  refine o_tc (argsL := [(.ref t)]) (rest := [(.int (Int32.ofNat n)), (.int (Int32.ofNat a))]) X0 H hml hZ hown (ow hw 250 rfl) (ow hw 251 rfl) (ow hw 112 rfl) (ow hw 252 rfl) (backOf (W := 2) (rm51 l Z a0 hw [] t kt c _ h0 n0 (by exact Z0) At (by omega)) hZ (ow hw 252 rfl) (ow hw 112 rfl) (by decide) (by decide)) (by decide) e0 pd_1 (od dB55 3 rfl) rfl rfl rfl rfl rfl (by decide) (by decide) (o_pk (fun _ _ _ q => q) N0 fun T8 Lc8 X8 N8 e8 => ?_)
  refine o_tc (argsL := [(.int (Int32.ofNat a)), (.int (Int32.ofNat n)), (.int (Int32.ofNat c))]) (rest := []) X8 H hml hZ hown (ow hw 269 rfl) (ow hw 270 rfl) (ow hw 7 rfl) (ow hw 271 rfl) (backOf (W := 0) (rm56 l Z a0 hw [] a n c z fm h0 n0 (by exact Z0) ⟨hz, O, SC, SA, SH, SL, SF, hfm⟩ hac hc) hZ (ow hw 271 rfl) (ow hw 7 rfl) (by decide) (by decide)) (by decide) e8 pd_4 (od dB55 4 rfl) rfl rfl rfl rfl rfl (by decide) (by decide) (o_pk (fun _ _ _ q => q) N8 fun T9 Lc9 X9 N9 e9 => ?_)
  refine o_pop X9 H (od dB55 5 rfl) rfl ?_
  exact own_retV X9 hx hlk hret (hb hby (od dB55 6 rfl)) (⟨rfl, N9, e9⟩) (by decide) (by decide)
theorem dB48 : oL jdk_52_method_5_code [(0, .getstatic 44, 3), (3, .ifCond .ne 25, 3), (6, .iload_n 1, 1), (7, .ifCond .lt 11, 3), (10, .iload_n 1, 1), (11, .aload_n 0, 1), (12, .invokestatic 48, 3), (15, .if_icmp .lt 13, 3), (18, .new 52, 3), (21, .dup, 1), (22, .ldc 54, 2), (24, .invokespecial 56, 3), (27, .athrow, 1), (28, .iload_n 1, 1), (29, .iconst 1, 1), (30, .ishl, 1), (31, .istore_n 1, 1), (32, .aload_n 0, 1), (33, .iload_n 1, 1), (34, .iinc 1 1, 3), (37, .baload, 1), (38, .sipush 255, 3), (41, .iand, 1), (42, .getstatic 59, 3), (45, .ishl, 1), (46, .aload_n 0, 1), (47, .iload_n 1, 1), (48, .baload, 1), (49, .sipush 255, 3), (52, .iand, 1), (53, .getstatic 63, 3), (56, .ishl, 1), (57, .ior, 1), (58, .i2c, 1), (59, .ireturn, 1)] := by unfold oL; decide +kernel
theorem ef_rm48 (m : MethodId) (x0 : Addr) (x1 : Int32) : entryFrame m #[(.ref x0), (.int x1)] 2 = mkF m 0 #[.val (.ref x0), .val (.int x1)] [] := by first | (simp [entryFrame, mkF, argsToLocals, Value.category]; done) | rfl
def Q48 (Z : State) (t : Addr) (kt : ClassId) (c : Nat) (cs : List Int32) (j : Nat) (z : Int32) (fm : Value) (h0 : Heap) (n0 : Nat) (v : Option Value) (h : Heap) (L : List Loc) : Prop := v = some (.int (cs.getD j 0)) ∧ Fr n0 L ∧ h = h0
set_option maxRecDepth 65536 in
set_option maxHeartbeats 40000000 in
theorem rm48 (l : Launch) (Z : State) (a0 : Array Value) (hw : ∀ d ∈ tables_1, d.before a0 Z = true) (ws : List Jvm.Cond) (t : Addr) (kt : ClassId) (c : Nat) (cs : List Int32) (j : Nat) (z : Int32) (fm : Value) (h0 : Heap) (n0 : Nat) (Z0 : n0 ≤ h0.size) (PU : own_PU Z n0 h0 z fm) (At : Arv Z h0 t kt .byte (Int32.ofNat (2 * c)) (StrChars.Road.wideBytes cs) (.int 0)) (hj : j < cs.length) (hl : cs.length ≤ c) (hc : c < 1000) (hr : ¬ (cs.getD j 0) < 0 ∧ ¬ (65535 : Int32) < (cs.getD j 0)) :
    own_M l (⟨"java/lang/StringUTF16", "getChar", "([BI)C"⟩ : MethodName) jdk_52_method_5_code 2 (some .char) ws ({ frames := 0, cells := 0, slots := 0, locals := 0 } : Room) #[(.ref t), (.int (Int32.ofNat j))] Z h0 (Q48 Z t kt c cs j z fm h0 n0) := by
  refine MetFree.of_bodySF (plainFor_of_name pn_2) hisR ?_
  intro p e s m args below meth cd s₁ Bd hml hP hK
  obtain ⟨rfl, hZ, hh⟩ := hP
  obtain ⟨X0, e0, H, hlk, hown, hret⟩ := own_start (R := ({ frames := 0, cells := 0, slots := 0, locals := 0 } : Room)) Bd hh rfl
  have hx := H.1; have hby := H.2; have N0 := Fr.nil n0
  obtain ⟨hz, O, SC, SA, SH, SL, SF, hfm⟩ := PU
  show own_Fin p e below (own_Ans s (Q48 Z t kt c cs j z fm h0 n0) ({ frames := 0, cells := 0, slots := 0, locals := 0 } : Room).cells ({ frames := 0, cells := 0, slots := 0, locals := 0 } : Room).slots) (s₁.setTop (entryFrame m #[(.ref t), (.int (Int32.ofNat j))] 2))
  refine own_cast (ef_rm48 m t (Int32.ofNat j)) ?_
  show own_Fin p e below _ (s₁.setTop (mkF m 0 #[.val (.ref t), .val (.int (Int32.ofNat j))] []))
  refine o_gs X0 H hZ hown (ow hw 238 rfl) Via.refl e0 (SA.ext O.2) (od dB48 0 rfl) fun T10 X10 e10 => ?_
  refine o_ifY X10 H (od dB48 1 rfl) ((if0 _ _).trans (feq (by decide : ¬ ((1 : Int32) = (0 : Int32)))).2) (pc' := 28) (by decide) (by decide) ?_
  refine o_ildN X10 H (od dB48 13 rfl) rfl ?_
  refine o_ic X10 H (od dB48 14 rfl) (v := 1) rfl ?_
  refine own_on (fun tq => XS.ishl X10.here hx rfl (hb hby (od dB48 15 rfl)) rfl) ?_
  show own_Fin p e below _ (T10.setTop (mkF m 31 #[.val (.ref t), .val (.int (Int32.ofNat j))] [(.int ((Int32.ofNat j) <<< ((1 : Int32) &&& 31)))]))
  rw [own_shl1 (by omega)]
  show own_Fin p e below _ (T10.setTop (mkF m 31 #[.val (.ref t), .val (.int (Int32.ofNat j))] [(.int (Int32.ofNat (2 * j)))]))
  refine o_istN X10 H (od dB48 16 rfl) (L' := #[.val (.ref t), .val (.int (Int32.ofNat (2 * j)))]) rfl ?_
  refine o_aldN X10 H (od dB48 17 rfl) rfl rfl ?_
  refine o_ildN X10 H (od dB48 18 rfl) rfl ?_
  refine own_on (fun tq => XS.iinc X10.here hx rfl (hb hby (od dB48 19 rfl)) rfl (l' := #[.val (.ref t), .val (.int ((Int32.ofNat (2 * j)) + (1 : Int32)))]) rfl) ?_
  show own_Fin p e below _ (T10.setTop (mkF m 37 #[.val (.ref t), .val (.int ((Int32.ofNat (2 * j)) + (1 : Int32)))] [(.int (Int32.ofNat (2 * j))), (.ref t)]))
  have cp11 := At
  obtain ⟨cl11, Ar11, q11, S11, G11, H11, F11⟩ := cp11
  have hin11 : ¬ ((Int32.ofNat (2 * j)) < 0 ∨ cl11.slots.size ≤ ((Int32.ofNat (2 * j))).toNatClampNeg) := inb_of S11 ⟨own_nneg (by omega), own_olt (by omega) (by omega)⟩
  have hat11 : cl11.slots[((Int32.ofNat (2 * j))).toNatClampNeg]? = some (.int (StrChars.lo8 (cs.getD j 0))) := H11.at hin11 (by rw [own_clampN (by omega)]; exact StrChars.Road.wide_lo _ _ _ hj)
  refine own_on (fun tq => X10.baloadBytes hx (j := (Int32.ofNat (2 * j))) (v := (.int (StrChars.lo8 (cs.getD j 0)))) (by rw [e10]; exact Ar11.1) (State.isArrayOf_alike hZ.alike Ar11.2.1) Ar11.2.2 hin11 hat11 (g := (mkF m 37 #[.val (.ref t), .val (.int ((Int32.ofNat (2 * j)) + (1 : Int32)))] [(.int (Int32.ofNat (2 * j))), (.ref t)])) rfl rfl (hb hby (od dB48 20 rfl)) tq) ?_
  show own_Fin p e below _ (T10.setTop (mkF m 38 #[.val (.ref t), .val (.int ((Int32.ofNat (2 * j)) + (1 : Int32)))] [(.int (StrChars.lo8 (cs.getD j 0)))]))
  refine o_si X10 H (od dB48 21 rfl) (v := 255) rfl ?_
  refine o_iand X10 H (od dB48 22 rfl) ?_
  refine o_gs X10 H hZ hown (ow hw 239 rfl) Via.refl e10 (SH.ext O.2) (od dB48 23 rfl) fun T12 X12 e12 => ?_
  refine own_on (fun tq => XS.ishl X12.here hx rfl (hb hby (od dB48 24 rfl)) rfl) ?_
  show own_Fin p e below _ (T12.setTop (mkF m 46 #[.val (.ref t), .val (.int ((Int32.ofNat (2 * j)) + (1 : Int32)))] [(.int (((StrChars.lo8 (cs.getD j 0)) &&& (255 : Int32)) <<< ((0 : Int32) &&& 31)))]))
  refine o_aldN X12 H (od dB48 25 rfl) rfl rfl ?_
  refine o_ildN X12 H (od dB48 26 rfl) rfl ?_
  rw [show Int32.ofNat (2 * j) + (1 : Int32) = Int32.ofNat (2 * j + 1) from own_add _ 1]
  show own_Fin p e below _ (T12.setTop (mkF m 48 #[.val (.ref t), .val (.int (Int32.ofNat (2 * j + 1)))] [(.int (Int32.ofNat (2 * j + 1))), (.ref t), (.int (((StrChars.lo8 (cs.getD j 0)) &&& (255 : Int32)) <<< ((0 : Int32) &&& 31)))]))
  have cp13 := At
  obtain ⟨cl13, Ar13, q13, S13, G13, H13, F13⟩ := cp13
  have hin13 : ¬ ((Int32.ofNat (2 * j + 1)) < 0 ∨ cl13.slots.size ≤ ((Int32.ofNat (2 * j + 1))).toNatClampNeg) := inb_of S13 ⟨own_nneg (by omega), own_olt (by omega) (by omega)⟩
  have hat13 : cl13.slots[((Int32.ofNat (2 * j + 1))).toNatClampNeg]? = some (.int (StrChars.hi8 (cs.getD j 0))) := H13.at hin13 (by rw [own_clampN (by omega)]; exact StrChars.Road.wide_hi _ _ _ hj)
  refine own_on (fun tq => X12.baloadBytes hx (j := (Int32.ofNat (2 * j + 1))) (v := (.int (StrChars.hi8 (cs.getD j 0)))) (by rw [e12]; exact Ar13.1) (State.isArrayOf_alike hZ.alike Ar13.2.1) Ar13.2.2 hin13 hat13 (g := (mkF m 48 #[.val (.ref t), .val (.int (Int32.ofNat (2 * j + 1)))] [(.int (Int32.ofNat (2 * j + 1))), (.ref t), (.int (((StrChars.lo8 (cs.getD j 0)) &&& (255 : Int32)) <<< ((0 : Int32) &&& 31)))])) rfl rfl (hb hby (od dB48 27 rfl)) tq) ?_
  show own_Fin p e below _ (T12.setTop (mkF m 49 #[.val (.ref t), .val (.int (Int32.ofNat (2 * j + 1)))] [(.int (StrChars.hi8 (cs.getD j 0))), (.int (((StrChars.lo8 (cs.getD j 0)) &&& (255 : Int32)) <<< ((0 : Int32) &&& 31)))]))
  refine o_si X12 H (od dB48 28 rfl) (v := 255) rfl ?_
  refine o_iand X12 H (od dB48 29 rfl) ?_
  refine o_gs X12 H hZ hown (ow hw 240 rfl) Via.refl e12 (SL.ext O.2) (od dB48 30 rfl) fun T14 X14 e14 => ?_
  refine own_on (fun tq => XS.ishl X14.here hx rfl (hb hby (od dB48 31 rfl)) rfl) ?_
  show own_Fin p e below _ (T14.setTop (mkF m 57 #[.val (.ref t), .val (.int (Int32.ofNat (2 * j + 1)))] [(.int (((StrChars.hi8 (cs.getD j 0)) &&& (255 : Int32)) <<< ((8 : Int32) &&& 31))), (.int (((StrChars.lo8 (cs.getD j 0)) &&& (255 : Int32)) <<< ((0 : Int32) &&& 31)))]))
  refine own_on (fun tq => XS.ior X14.here hx rfl (hb hby (od dB48 32 rfl)) rfl) ?_
  show own_Fin p e below _ (T14.setTop (mkF m 58 #[.val (.ref t), .val (.int (Int32.ofNat (2 * j + 1)))] [(.int ((((StrChars.lo8 (cs.getD j 0)) &&& (255 : Int32)) <<< ((0 : Int32) &&& 31)) ||| (((StrChars.hi8 (cs.getD j 0)) &&& (255 : Int32)) <<< ((8 : Int32) &&& 31))))]))
  refine own_on (fun tq => XS.i2c X14.here hx rfl (hb hby (od dB48 33 rfl)) rfl) ?_
  show own_Fin p e below _ (T14.setTop (mkF m 59 #[.val (.ref t), .val (.int (Int32.ofNat (2 * j + 1)))] [(.int (((((StrChars.lo8 (cs.getD j 0)) &&& (255 : Int32)) <<< ((0 : Int32) &&& 31)) ||| (((StrChars.hi8 (cs.getD j 0)) &&& (255 : Int32)) <<< ((8 : Int32) &&& 31))).toUInt32.toUInt16.toUInt32.toInt32))]))
  rw [show (((((StrChars.lo8 (cs.getD j 0)) &&& (255 : Int32)) <<< ((0 : Int32) &&& 31)) ||| (((StrChars.hi8 (cs.getD j 0)) &&& (255 : Int32)) <<< ((8 : Int32) &&& 31))).toUInt32.toUInt16.toUInt32.toInt32) = (cs.getD j 0) from StrChars.pair_says hr.1 hr.2]
  show own_Fin p e below _ (T14.setTop (mkF m 59 #[.val (.ref t), .val (.int (Int32.ofNat (2 * j + 1)))] [(.int (cs.getD j 0))]))
  exact own_ret (t := .char) X14 hx hlk hret (StrChars.narrow_ch hr.1 hr.2) (Or.inl ⟨rfl, (by simp), _, rfl⟩) (hb hby (od dB48 34 rfl)) (⟨rfl, N0, e14⟩) (by decide) (by decide)
theorem dB47 : oL jdk_52_method_4_code [(0, .getstatic 44, 3), (3, .ifCond .ne 25, 3), (6, .iload_n 1, 1), (7, .ifCond .lt 11, 3), (10, .iload_n 1, 1), (11, .aload_n 0, 1), (12, .invokestatic 48, 3), (15, .if_icmp .lt 13, 3), (18, .new 52, 3), (21, .dup, 1), (22, .ldc 54, 2), (24, .invokespecial 56, 3), (27, .athrow, 1), (28, .iload_n 1, 1), (29, .iconst 1, 1), (30, .ishl, 1), (31, .istore_n 1, 1), (32, .aload_n 0, 1), (33, .iload_n 1, 1), (34, .iinc 1 1, 3), (37, .iload_n 2, 1), (38, .getstatic 59, 3), (41, .ishr, 1), (42, .i2b, 1), (43, .bastore, 1), (44, .aload_n 0, 1), (45, .iload_n 1, 1), (46, .iload_n 2, 1), (47, .getstatic 63, 3), (50, .ishr, 1), (51, .i2b, 1), (52, .bastore, 1), (53, .return_, 1)] := by unfold oL; decide +kernel
theorem ef_rm47 (m : MethodId) (x0 : Addr) (x1 : Int32) (x2 : Int32) : entryFrame m #[(.ref x0), (.int x1), (.int x2)] 3 = mkF m 0 #[.val (.ref x0), .val (.int x1), .val (.int x2)] [] := by first | (simp [entryFrame, mkF, argsToLocals, Value.category]; done) | rfl
def Q47 (Z : State) (t : Addr) (ch : Int32) (kt : ClassId) (c : Nat) (cs : List Int32) (k : Nat) (z : Int32) (fm : Value) (h0 : Heap) (n0 : Nat) (v : Option Value) (h : Heap) (L : List Loc) : Prop := v = none ∧ Fr n0 L ∧ Keep h0 h [t] ∧ Arv Z h t kt .byte (Int32.ofNat (2 * c)) (StrChars.Road.wideBytes (cs ++ [ch])) (.int 0)
set_option maxRecDepth 65536 in
set_option maxHeartbeats 40000000 in
theorem rm47 (l : Launch) (Z : State) (a0 : Array Value) (hw : ∀ d ∈ tables_1, d.before a0 Z = true) (ws : List Jvm.Cond) (t : Addr) (ch : Int32) (kt : ClassId) (c : Nat) (cs : List Int32) (k : Nat) (z : Int32) (fm : Value) (h0 : Heap) (n0 : Nat) (Z0 : n0 ≤ h0.size) (PU : own_PU Z n0 h0 z fm) (At : Arv Z h0 t kt .byte (Int32.ofNat (2 * c)) (StrChars.Road.wideBytes cs) (.int 0)) (gt : n0 ≤ t) (hk : cs.length = k) (hkc : k < c) (hc : c < 1000) :
    own_M l (⟨"java/lang/StringUTF16", "putChar", "([BII)V"⟩ : MethodName) jdk_52_method_4_code 3 none ws ({ frames := 0, cells := 0, slots := 0, locals := 0 } : Room) #[(.ref t), (.int (Int32.ofNat k)), (.int ch)] Z h0 (Q47 Z t ch kt c cs k z fm h0 n0) := by
  refine MetFree.of_bodySF (plainFor_of_name pn_2) hisR ?_
  intro p e s m args below meth cd s₁ Bd hml hP hK
  obtain ⟨rfl, hZ, hh⟩ := hP
  obtain ⟨X0, e0, H, hlk, hown, hret⟩ := own_start (R := ({ frames := 0, cells := 0, slots := 0, locals := 0 } : Room)) Bd hh rfl
  have hx := H.1; have hby := H.2; have N0 := Fr.nil n0
  obtain ⟨hz, O, SC, SA, SH, SL, SF, hfm⟩ := PU
  show own_Fin p e below (own_Ans s (Q47 Z t ch kt c cs k z fm h0 n0) ({ frames := 0, cells := 0, slots := 0, locals := 0 } : Room).cells ({ frames := 0, cells := 0, slots := 0, locals := 0 } : Room).slots) (s₁.setTop (entryFrame m #[(.ref t), (.int (Int32.ofNat k)), (.int ch)] 3))
  refine own_cast (ef_rm47 m t (Int32.ofNat k) ch) ?_
  show own_Fin p e below _ (s₁.setTop (mkF m 0 #[.val (.ref t), .val (.int (Int32.ofNat k)), .val (.int ch)] []))
  refine o_gs X0 H hZ hown (ow hw 238 rfl) Via.refl e0 (SA.ext O.2) (od dB47 0 rfl) fun T15 X15 e15 => ?_
  refine o_ifY X15 H (od dB47 1 rfl) ((if0 _ _).trans (feq (by decide : ¬ ((1 : Int32) = (0 : Int32)))).2) (pc' := 28) (by decide) (by decide) ?_
  refine o_ildN X15 H (od dB47 13 rfl) rfl ?_
  refine o_ic X15 H (od dB47 14 rfl) (v := 1) rfl ?_
  refine own_on (fun tq => XS.ishl X15.here hx rfl (hb hby (od dB47 15 rfl)) rfl) ?_
  show own_Fin p e below _ (T15.setTop (mkF m 31 #[.val (.ref t), .val (.int (Int32.ofNat k)), .val (.int ch)] [(.int ((Int32.ofNat k) <<< ((1 : Int32) &&& 31)))]))
  rw [own_shl1 (by omega)]
  show own_Fin p e below _ (T15.setTop (mkF m 31 #[.val (.ref t), .val (.int (Int32.ofNat k)), .val (.int ch)] [(.int (Int32.ofNat (2 * k)))]))
  refine o_istN X15 H (od dB47 16 rfl) (L' := #[.val (.ref t), .val (.int (Int32.ofNat (2 * k))), .val (.int ch)]) rfl ?_
  refine o_aldN X15 H (od dB47 17 rfl) rfl rfl ?_
  refine o_ildN X15 H (od dB47 18 rfl) rfl ?_
  refine own_on (fun tq => XS.iinc X15.here hx rfl (hb hby (od dB47 19 rfl)) rfl (l' := #[.val (.ref t), .val (.int ((Int32.ofNat (2 * k)) + (1 : Int32))), .val (.int ch)]) rfl) ?_
  show own_Fin p e below _ (T15.setTop (mkF m 37 #[.val (.ref t), .val (.int ((Int32.ofNat (2 * k)) + (1 : Int32))), .val (.int ch)] [(.int (Int32.ofNat (2 * k))), (.ref t)]))
  refine o_ildN X15 H (od dB47 20 rfl) rfl ?_
  refine o_gs X15 H hZ hown (ow hw 239 rfl) Via.refl e15 (SH.ext O.2) (od dB47 21 rfl) fun T16 X16 e16 => ?_
  refine own_on (fun tq => XS.ishr X16.here hx rfl (hb hby (od dB47 22 rfl)) rfl) ?_
  show own_Fin p e below _ (T16.setTop (mkF m 42 #[.val (.ref t), .val (.int ((Int32.ofNat (2 * k)) + (1 : Int32))), .val (.int ch)] [(.int (ch >>> ((0 : Int32) &&& 31))), (.int (Int32.ofNat (2 * k))), (.ref t)]))
  refine own_on (fun tq => XS.i2b X16.here hx rfl (hb hby (od dB47 23 rfl)) rfl) ?_
  show own_Fin p e below _ (T16.setTop (mkF m 43 #[.val (.ref t), .val (.int ((Int32.ofNat (2 * k)) + (1 : Int32))), .val (.int ch)] [(.int ((ch >>> ((0 : Int32) &&& 31)).toInt8.toInt32)), (.int (Int32.ofNat (2 * k))), (.ref t)]))
  have pd17 : Arv Z h0 t kt .byte (Int32.ofNat (2 * c)) (StrChars.Road.wideBytes cs ++ List.replicate (2 * c - 2 * k) (Value.int 0)) (.int 0) := At.pad (pad_rep _ _ _)
  have cp18 : Arv Z h0 t kt .byte (Int32.ofNat (2 * c)) (StrChars.Road.wideBytes cs ++ List.replicate (2 * c - 2 * k) (Value.int 0)) (.int 0) := pd17
  obtain ⟨cl18, Ar18, q18, S18, G18, H18, F18⟩ := cp18
  have hin18 : ¬ ((Int32.ofNat (2 * k)) < 0 ∨ cl18.slots.size ≤ ((Int32.ofNat (2 * k))).toNatClampNeg) := inb_of S18 ⟨own_nneg (by omega), own_olt (b := (2 * c)) (by omega) (by omega)⟩
  obtain ⟨T18, h18, X18, e18, W18, st18⟩ := stB X16 hx hZ e16 Ar18 (j := (Int32.ofNat (2 * k))) hin18 (g := (mkF m 43 #[.val (.ref t), .val (.int ((Int32.ofNat (2 * k)) + (1 : Int32))), .val (.int ch)] [(.int ((ch >>> ((0 : Int32) &&& 31)).toInt8.toInt32)), (.int (Int32.ofNat (2 * k))), (.ref t)])) rfl rfl (hb hby (od dB47 24 rfl))
  have V18 : Arv Z h18 t kt .byte (Int32.ofNat (2 * c)) ((StrChars.Road.wideBytes cs ++ List.replicate (2 * c - 2 * k) (Value.int 0)).set (2 * k) (.int (StrChars.lo8 ch))) (.int 0) := by have q := Arv.set Ar18 q18 S18 G18 H18 F18 (fits_nar_byte _) W18 (2 * k) (own_clampN (by omega)) (by rw [List.length_append, own_wl, List.length_replicate, hk]; omega); rw [own_nb2, StrChars.shr0] at q; exact q
  have N18 := Fr.snoc X18 N0 gt
  refine own_on st18 ?_
  show own_Fin p e below _ (T18.setTop (mkF m 44 #[.val (.ref t), .val (.int ((Int32.ofNat (2 * k)) + (1 : Int32))), .val (.int ch)] []))
  refine o_aldN X18 H (od dB47 25 rfl) rfl rfl ?_
  refine o_ildN X18 H (od dB47 26 rfl) rfl ?_
  rw [show Int32.ofNat (2 * k) + (1 : Int32) = Int32.ofNat (2 * k + 1) from own_add _ 1]
  show own_Fin p e below _ (T18.setTop (mkF m 46 #[.val (.ref t), .val (.int (Int32.ofNat (2 * k + 1))), .val (.int ch)] [(.int (Int32.ofNat (2 * k + 1))), (.ref t)]))
  refine o_ildN X18 H (od dB47 27 rfl) rfl ?_
  refine o_gs X18 H hZ hown (ow hw 240 rfl) Via.refl e18 (SL.ext (O.wr W18 gt).2) (od dB47 28 rfl) fun T19 X19 e19 => ?_
  refine own_on (fun tq => XS.ishr X19.here hx rfl (hb hby (od dB47 29 rfl)) rfl) ?_
  show own_Fin p e below _ (T19.setTop (mkF m 51 #[.val (.ref t), .val (.int (Int32.ofNat (2 * k + 1))), .val (.int ch)] [(.int (ch >>> ((8 : Int32) &&& 31))), (.int (Int32.ofNat (2 * k + 1))), (.ref t)]))
  refine own_on (fun tq => XS.i2b X19.here hx rfl (hb hby (od dB47 30 rfl)) rfl) ?_
  show own_Fin p e below _ (T19.setTop (mkF m 52 #[.val (.ref t), .val (.int (Int32.ofNat (2 * k + 1))), .val (.int ch)] [(.int ((ch >>> ((8 : Int32) &&& 31)).toInt8.toInt32)), (.int (Int32.ofNat (2 * k + 1))), (.ref t)]))
  have cp20 : Arv Z h18 t kt .byte (Int32.ofNat (2 * c)) ((StrChars.Road.wideBytes cs ++ List.replicate (2 * c - 2 * k) (Value.int 0)).set (2 * k) (.int (StrChars.lo8 ch))) (.int 0) := V18
  obtain ⟨cl20, Ar20, q20, S20, G20, H20, F20⟩ := cp20
  have hin20 : ¬ ((Int32.ofNat (2 * k + 1)) < 0 ∨ cl20.slots.size ≤ ((Int32.ofNat (2 * k + 1))).toNatClampNeg) := inb_of S20 ⟨own_nneg (by omega), own_olt (b := (2 * c)) (by omega) (by omega)⟩
  obtain ⟨T20, h20, X20, e20, W20, st20⟩ := stB X19 hx hZ e19 Ar20 (j := (Int32.ofNat (2 * k + 1))) hin20 (g := (mkF m 52 #[.val (.ref t), .val (.int (Int32.ofNat (2 * k + 1))), .val (.int ch)] [(.int ((ch >>> ((8 : Int32) &&& 31)).toInt8.toInt32)), (.int (Int32.ofNat (2 * k + 1))), (.ref t)])) rfl rfl (hb hby (od dB47 31 rfl))
  have V20 : Arv Z h20 t kt .byte (Int32.ofNat (2 * c)) (((StrChars.Road.wideBytes cs ++ List.replicate (2 * c - 2 * k) (Value.int 0)).set (2 * k) (.int (StrChars.lo8 ch))).set (2 * k + 1) (.int (StrChars.hi8 ch))) (.int 0) := by have q := Arv.set Ar20 q20 S20 G20 H20 F20 (fits_nar_byte _) W20 (2 * k + 1) (own_clampN (by omega)) (by rw [List.length_set, List.length_append, own_wl, List.length_replicate, hk]; omega); rw [own_nb2] at q; exact q
  have N20 := Fr.snoc X20 N18 gt
  have y21 := (((Keep.refl h0 [t]).wr W18 (Or.inl (List.mem_of_getElem? (i := 0) rfl))).wr W20 (Or.inl (List.mem_of_getElem? (i := 0) rfl)))
  have U20 : Arv Z h20 t kt .byte (Int32.ofNat (2 * c)) (StrChars.Road.wideBytes (cs ++ [ch])) (.int 0) := V20.pad (own_setW (m := 2 * c - 2 * k) ch hk (by omega))
  refine own_on st20 ?_
  show own_Fin p e below _ (T20.setTop (mkF m 53 #[.val (.ref t), .val (.int (Int32.ofNat (2 * k + 1))), .val (.int ch)] []))
  exact own_retV X20 hx hlk hret (hb hby (od dB47 32 rfl)) (by show Q47 Z t ch kt c cs k z fm h0 n0 _ T20.heap _; rw [e20]; exact ⟨rfl, N20, y21, U20⟩) (by decide) (by decide)
theorem dB58 : oL jdk_52_method_71_code [(0, .iload_n 1, 1), (1, .aload_n 0, 1), (2, .invokestatic 67, 3), (5, .aload_n 0, 1), (6, .iload_n 1, 1), (7, .iload_n 2, 1), (8, .invokestatic 111, 3), (11, .return_, 1)] := by unfold oL; decide +kernel
theorem pd_5 : parseMethodDescriptor "(I[B)V" = some ⟨[.int, (.array .byte)], none⟩ := by decide +kernel
theorem pd_6 : parseMethodDescriptor "([BII)V" = some ⟨[(.array .byte), .int, .int], none⟩ := by decide +kernel
theorem ef_rm58 (m : MethodId) (x0 : Addr) (x1 : Int32) (x2 : Int32) : entryFrame m #[(.ref x0), (.int x1), (.int x2)] 3 = mkF m 0 #[.val (.ref x0), .val (.int x1), .val (.int x2)] [] := by first | (simp [entryFrame, mkF, argsToLocals, Value.category]; done) | rfl
def Q58 (Z : State) (t : Addr) (ch : Int32) (kt : ClassId) (c : Nat) (cs : List Int32) (k : Nat) (z : Int32) (fm : Value) (h0 : Heap) (n0 : Nat) (v : Option Value) (h : Heap) (L : List Loc) : Prop := v = none ∧ Fr n0 L ∧ Keep h0 h [t] ∧ Arv Z h t kt .byte (Int32.ofNat (2 * c)) (StrChars.Road.wideBytes (cs ++ [ch])) (.int 0)
set_option maxRecDepth 65536 in
set_option maxHeartbeats 40000000 in
theorem rm58 (l : Launch) (Z : State) (a0 : Array Value) (hw : ∀ d ∈ tables_1, d.before a0 Z = true) (ws : List Jvm.Cond) (t : Addr) (ch : Int32) (kt : ClassId) (c : Nat) (cs : List Int32) (k : Nat) (z : Int32) (fm : Value) (h0 : Heap) (n0 : Nat) (Z0 : n0 ≤ h0.size) (PU : own_PU Z n0 h0 z fm) (At : Arv Z h0 t kt .byte (Int32.ofNat (2 * c)) (StrChars.Road.wideBytes cs) (.int 0)) (gt : n0 ≤ t) (hk : cs.length = k) (hkc : k < c) (hc : c < 1000) :
    own_M l (⟨"java/lang/StringUTF16", "putCharSB", "([BII)V"⟩ : MethodName) jdk_52_method_71_code 3 none ws ({ frames := 3, cells := 0, slots := 0, locals := 40 } : Room) #[(.ref t), (.int (Int32.ofNat k)), (.int ch)] Z h0 (Q58 Z t ch kt c cs k z fm h0 n0) := by
  refine MetFree.of_bodySF (plainFor_of_name pn_2) hisR ?_
  intro p e s m args below meth cd s₁ Bd hml hP hK
  obtain ⟨rfl, hZ, hh⟩ := hP
  obtain ⟨X0, e0, H, hlk, hown, hret⟩ := own_start (R := ({ frames := 3, cells := 0, slots := 0, locals := 40 } : Room)) Bd hh rfl
  have hx := H.1; have hby := H.2; have N0 := Fr.nil n0
  obtain ⟨hz, O, SC, SA, SH, SL, SF, hfm⟩ := PU
  show own_Fin p e below (own_Ans s (Q58 Z t ch kt c cs k z fm h0 n0) ({ frames := 3, cells := 0, slots := 0, locals := 40 } : Room).cells ({ frames := 3, cells := 0, slots := 0, locals := 40 } : Room).slots) (s₁.setTop (entryFrame m #[(.ref t), (.int (Int32.ofNat k)), (.int ch)] 3))
  refine own_cast (ef_rm58 m t (Int32.ofNat k) ch) ?_
  show own_Fin p e below _ (s₁.setTop (mkF m 0 #[.val (.ref t), .val (.int (Int32.ofNat k)), .val (.int ch)] []))
  refine o_ildN X0 H (od dB58 0 rfl) rfl ?_
  refine o_aldN X0 H (od dB58 1 rfl) rfl rfl ?_
  refine o_tc (argsL := [(.int (Int32.ofNat k)), (.ref t)]) (rest := []) X0 H hml hZ hown (ow hw 247 rfl) (ow hw 248 rfl) (ow hw 112 rfl) (ow hw 249 rfl) (backOf (W := 0) (rm50 l Z a0 hw [] t k kt c _ z fm h0 n0 (by exact Z0) ⟨hz, O, SC, SA, SH, SL, SF, hfm⟩ At (by omega) (by omega)) hZ (ow hw 249 rfl) (ow hw 112 rfl) (by decide) (by decide)) (by decide) e0 pd_5 (od dB58 2 rfl) rfl rfl rfl rfl rfl (by decide) (by decide) (o_pv (fun _ _ _ q => q) N0 fun T22 Lc22 X22 N22 e22 => ?_)
  refine o_aldN X22 H (od dB58 3 rfl) rfl rfl ?_
  refine o_ildN X22 H (od dB58 4 rfl) rfl ?_
  refine o_ildN X22 H (od dB58 5 rfl) rfl ?_
  refine o_tc (argsL := [(.ref t), (.int (Int32.ofNat k)), (.int ch)]) (rest := []) X22 H hml hZ hown (ow hw 235 rfl) (ow hw 236 rfl) (ow hw 112 rfl) (ow hw 237 rfl) (backOf (W := 0) (rm47 l Z a0 hw [] t ch kt c cs k z fm h0 n0 (by exact Z0) ⟨hz, O, SC, SA, SH, SL, SF, hfm⟩ At gt hk (by omega) (by omega)) hZ (ow hw 237 rfl) (ow hw 112 rfl) (by decide) (by decide)) (by decide) e22 pd_6 (od dB58 6 rfl) rfl rfl rfl rfl rfl (by decide) (by decide) fun _ T23 Lc23 X23 hQ23 => ?_
  obtain ⟨rfl, N23q, K23, Aq23⟩ := hQ23
  have N23 := Fr.app N22 N23q
  show own_Fin p e below _ (T23.setTop (mkF m 11 #[.val (.ref t), .val (.int (Int32.ofNat k)), .val (.int ch)] []))
  exact own_retV X23 hx hlk hret (hb hby (od dB58 7 rfl)) (by show Q58 Z t ch kt c cs k z fm h0 n0 _ T23.heap _; exact ⟨rfl, N23, ((Keep.refl h0 [t]).trans K23 (allS (Or.inl (List.mem_of_getElem? (i := 0) rfl)) all0)), Aq23⟩) (by decide) (by decide)
theorem dB46 : oL jdk_52_method_3_code [(0, .iload_n 0, 1), (1, .ifCond .ge 11, 3), (4, .new 17, 3), (7, .dup, 1), (8, .invokespecial 19, 3), (11, .athrow, 1), (12, .iload_n 0, 1), (13, .ldc 20, 2), (15, .if_icmp .lt 40, 3), (18, .new 21, 3), (21, .dup, 1), (22, .new 23, 3), (25, .dup, 1), (26, .invokespecial 25, 3), (29, .ldc 26, 2), (31, .invokevirtual 28, 3), (34, .iload_n 0, 1), (35, .invokevirtual 32, 3), (38, .ldc 35, 2), (40, .invokevirtual 28, 3), (43, .ldc 20, 2), (45, .invokevirtual 32, 3), (48, .invokevirtual 37, 3), (51, .invokespecial 41, 3), (54, .athrow, 1), (55, .iload_n 0, 1), (56, .iconst 1, 1), (57, .ishl, 1), (58, .ireturn, 1)] := by unfold oL; decide +kernel
theorem ef_rm46 (m : MethodId) (x0 : Int32) : entryFrame m #[(.int x0)] 1 = mkF m 0 #[.val (.int x0)] [] := by first | (simp [entryFrame, mkF, argsToLocals, Value.category]; done) | rfl
def Q46 (Z : State) (n : Nat) (h0 : Heap) (n0 : Nat) (v : Option Value) (h : Heap) (L : List Loc) : Prop := v = some (.int (Int32.ofNat (2 * n))) ∧ Fr n0 L ∧ h = h0
set_option maxRecDepth 65536 in
set_option maxHeartbeats 40000000 in
theorem rm46 (l : Launch) (Z : State) (a0 : Array Value) (hw : ∀ d ∈ tables_1, d.before a0 Z = true) (ws : List Jvm.Cond) (n : Nat) (h0 : Heap) (n0 : Nat) (Z0 : n0 ≤ h0.size) (hn : n < 1000) :
    own_M l (⟨"java/lang/StringUTF16", "newBytesLength", "(I)I"⟩ : MethodName) jdk_52_method_3_code 1 (some .int) ws ({ frames := 0, cells := 0, slots := 0, locals := 0 } : Room) #[(.int (Int32.ofNat n))] Z h0 (Q46 Z n h0 n0) := by
  refine MetFree.of_bodySF (plainFor_of_name pn_2) hisR ?_
  intro p e s m args below meth cd s₁ Bd hml hP hK
  obtain ⟨rfl, hZ, hh⟩ := hP
  obtain ⟨X0, e0, H, hlk, hown, hret⟩ := own_start (R := ({ frames := 0, cells := 0, slots := 0, locals := 0 } : Room)) Bd hh rfl
  have hx := H.1; have hby := H.2; have N0 := Fr.nil n0
  show own_Fin p e below (own_Ans s (Q46 Z n h0 n0) ({ frames := 0, cells := 0, slots := 0, locals := 0 } : Room).cells ({ frames := 0, cells := 0, slots := 0, locals := 0 } : Room).slots) (s₁.setTop (entryFrame m #[(.int (Int32.ofNat n))] 1))
  refine own_cast (ef_rm46 m (Int32.ofNat n)) ?_
  show own_Fin p e below _ (s₁.setTop (mkF m 0 #[.val (.int (Int32.ofNat n))] []))
  refine o_ildN X0 H (od dB46 0 rfl) rfl ?_
  refine o_ifY X0 H (od dB46 1 rfl) ((if0 _ _).trans (flt (own_nneg (by omega))).2.1) (pc' := 12) (by decide) (by decide) ?_
  refine o_ildN X0 H (od dB46 6 rfl) rfl ?_
  refine own_on (fun tq => X0.ldcInt hx hown (mvT hZ (ow hw 234 rfl)) (g := (mkF m 13 #[.val (.int (Int32.ofNat n))] [(.int (Int32.ofNat n))])) rfl (hb hby (od dB46 7 rfl)) tq) ?_
  show own_Fin p e below _ (s₁.setTop (mkF m 15 #[.val (.int (Int32.ofNat n))] [(.int (1073741823 : Int32)), (.int (Int32.ofNat n))]))
  refine o_icY X0 H (od dB46 8 rfl) (tlt (own_olt (b := 1073741823) (by omega) (by decide))).1 (pc' := 55) (by decide) (by decide) ?_
  refine o_ildN X0 H (od dB46 25 rfl) rfl ?_
  refine o_ic X0 H (od dB46 26 rfl) (v := 1) rfl ?_
  refine own_on (fun tq => XS.ishl X0.here hx rfl (hb hby (od dB46 27 rfl)) rfl) ?_
  show own_Fin p e below _ (s₁.setTop (mkF m 58 #[.val (.int (Int32.ofNat n))] [(.int ((Int32.ofNat n) <<< ((1 : Int32) &&& 31)))]))
  rw [own_shl1 (by omega)]
  show own_Fin p e below _ (s₁.setTop (mkF m 58 #[.val (.int (Int32.ofNat n))] [(.int (Int32.ofNat (2 * n)))]))
  exact own_ret (t := .int) X0 hx hlk hret rfl (Or.inl ⟨rfl, (by simp), _, rfl⟩) (hb hby (od dB46 28 rfl)) (⟨rfl, N0, e0⟩) (by decide) (by decide)
theorem dB45 : oL jdk_52_method_2_code [(0, .iload_n 0, 1), (1, .invokestatic 11, 3), (4, .newarray .byte, 2), (6, .areturn, 1)] := by unfold oL; decide +kernel
theorem pd_7 : parseMethodDescriptor "(I)I" = some ⟨[.int], some .int⟩ := by decide +kernel
theorem ef_rm45 (m : MethodId) (x0 : Int32) : entryFrame m #[(.int x0)] 1 = mkF m 0 #[.val (.int x0)] [] := by first | (simp [entryFrame, mkF, argsToLocals, Value.category]; done) | rfl
def Q45 (Z : State) (n : Nat) (h0 : Heap) (n0 : Nat) (v : Option Value) (h : Heap) (L : List Loc) : Prop := ∃ (x : Addr) (kx : ClassId), v = some (.ref x) ∧ Fr n0 L ∧ Keep h0 h [] ∧ n0 ≤ x ∧ h0.size ≤ x ∧ Exa Z h x "[B" ∧ Arv Z h x kx .byte (Int32.ofNat (2 * n)) (StrChars.Road.wideBytes ([] : List Int32)) (.int 0)
set_option maxRecDepth 65536 in
set_option maxHeartbeats 40000000 in
theorem rm45 (l : Launch) (Z : State) (a0 : Array Value) (hw : ∀ d ∈ tables_1, d.before a0 Z = true) (ws : List Jvm.Cond) (n : Nat) (h0 : Heap) (n0 : Nat) (Z0 : n0 ≤ h0.size) (hn : n ≤ 36) :
    own_M l (⟨"java/lang/StringUTF16", "newBytesFor", "(I)[B"⟩ : MethodName) jdk_52_method_2_code 1 (some (.array .byte)) ws ({ frames := 1, cells := 1, slots := 72, locals := 12 } : Room) #[(.int (Int32.ofNat n))] Z h0 (Q45 Z n h0 n0) := by
  refine MetFree.of_bodySF (plainFor_of_name pn_2) hisR ?_
  intro p e s m args below meth cd s₁ Bd hml hP hK
  obtain ⟨rfl, hZ, hh⟩ := hP
  obtain ⟨X0, e0, H, hlk, hown, hret⟩ := own_start (R := ({ frames := 1, cells := 1, slots := 72, locals := 12 } : Room)) Bd hh rfl
  have hx := H.1; have hby := H.2; have N0 := Fr.nil n0
  show own_Fin p e below (own_Ans s (Q45 Z n h0 n0) ({ frames := 1, cells := 1, slots := 72, locals := 12 } : Room).cells ({ frames := 1, cells := 1, slots := 72, locals := 12 } : Room).slots) (s₁.setTop (entryFrame m #[(.int (Int32.ofNat n))] 1))
  refine own_cast (ef_rm45 m (Int32.ofNat n)) ?_
  show own_Fin p e below _ (s₁.setTop (mkF m 0 #[.val (.int (Int32.ofNat n))] []))
  refine o_ildN X0 H (od dB45 0 rfl) rfl ?_
  refine o_tc (argsL := [(.int (Int32.ofNat n))]) (rest := []) X0 H hml hZ hown (ow hw 231 rfl) (ow hw 232 rfl) (ow hw 112 rfl) (ow hw 233 rfl) (backOf (W := 0) (rm46 l Z a0 hw [] n h0 n0 (by exact Z0) (by omega)) hZ (ow hw 233 rfl) (ow hw 112 rfl) (by decide) (by decide)) (by decide) e0 pd_7 (od dB45 1 rfl) rfl rfl rfl rfl rfl (by decide) (by decide) (o_pk (fun _ _ _ q => q) N0 fun T24 Lc24 X24 N24 e24 => ?_)
  obtain ⟨T25, h25, k25, X25, e25, E25, A25, D25, st25⟩ := newPE X24 hx hZ (ow hw 20 rfl) e24 (g := (mkF m 4 #[.val (.int (Int32.ofNat n))] [(.int (Int32.ofNat (2 * n)))])) rfl (hb hby (od dB45 2 rfl)) rfl (own_nneg (by omega)) (cap := 72) (by rw [own_clampN (by omega)]; omega) (by decide) (by decide) (by decide) (ad := "[B") (by decide)
  obtain ⟨b25, g25⟩ : ∃ z, z = h0.size := ⟨_, rfl⟩
  rw [← g25] at A25 D25 st25
  have gn25 : n0 ≤ b25 := Nat.le_trans Z0 (Nat.le_of_eq g25.symm)
  have gk25 : h0.size ≤ b25 := Nat.le_trans (Keep.refl h0 []).1 (Nat.le_of_eq g25.symm)
  have V25 : Arv Z h25 b25 k25 .byte (Int32.ofNat (2 * n)) [] (.int (0 : Int32)) := Arv.new A25 (own_nneg (by omega))
  refine own_on st25 ?_
  show own_Fin p e below _ (T25.setTop (mkF m 6 #[.val (.int (Int32.ofNat n))] [(.ref b25)]))
  exact own_ret (t := (.array .byte)) X25 hx hlk hret rfl (Or.inr (Or.inr (Or.inr (Or.inr ⟨rfl, rfl, rfl⟩)))) (hb hby (od dB45 3 rfl)) (by show Q45 Z n h0 n0 _ T25.heap _; rw [e25]; exact ⟨b25, k25, rfl, N24, ((Keep.refl h0 []).ext E25), gn25, gk25, D25, V25⟩) (by decide) (by decide)
theorem own_tk {cs ds : List Int32} {j : Nat} (h : j < ds.length) : (cs ++ ds.take j) ++ [ds.getD j 0] = cs ++ ds.take (j + 1) := by
  rw [List.append_assoc, List.take_add_one, List.getD_eq_getElem?_getD, List.getElem?_eq_getElem h]; rfl
theorem own_vd {ds : List Int32} {j : Nat} {d : Value} (h : j < ds.length) : ((ds.map StrChars.lo8).map Value.int).getD j d = .int (StrChars.lo8 (ds.getD j 0)) := by
  simp [List.getD_eq_getElem?_getD, h]
theorem own_mem {ds : List Int32} {j : Nat} (h : j < ds.length) : ds.getD j 0 ∈ ds := by
  rw [List.getD_eq_getElem?_getD, List.getElem?_eq_getElem h]; exact List.getElem_mem h
theorem own_ltof {a b : Nat} (h : Int32.ofNat a < Int32.ofNat b) (ha : a < 2147483648) (hb : b < 2147483648) : a < b := by
  rw [Int32.lt_iff_toInt_lt, own_toN ha, own_toN hb] at h; omega
theorem own_nltof {a b : Nat} (h : ¬ Int32.ofNat a < Int32.ofNat b) (ha : a < 2147483648) (hb : b < 2147483648) : b ≤ a := by
  rw [Int32.lt_iff_toInt_lt, own_toN ha, own_toN hb] at h; omega
theorem own_gtsub {a b : Nat} (h : (0 : Int32) < Int32.ofNat a - Int32.ofNat b) (ha : a < 1000000) (hb : b < 1000000) : b < a := by
  rw [Int32.lt_iff_toInt_lt, Int32.toInt_sub, own_toN (by omega), own_toN (by omega), Int.bmod_eq_of_le (by omega) (by omega)] at h
  have z : (0 : Int32).toInt = 0 := by decide
  omega
theorem own_ngtsub {a b : Nat} (h : ¬ (0 : Int32) < Int32.ofNat a - Int32.ofNat b) (ha : a < 1000000) (hb : b < 1000000) : a ≤ b := by
  rw [Int32.lt_iff_toInt_lt, Int32.toInt_sub, own_toN (by omega), own_toN (by omega), Int.bmod_eq_of_le (by omega) (by omega)] at h
  have z : (0 : Int32).toInt = 0 := by decide
  omega
theorem dB54 : oL jdk_52_method_86_code [(0, .iload_n 3, 1), (1, .iload 4, 2), (3, .aload_n 2, 1), (4, .invokestatic 173, 3), (7, .iconst 0, 1), (8, .istore 5, 2), (10, .iload 5, 2), (12, .iload 4, 2), (14, .if_icmp .ge 27, 3), (17, .aload_n 2, 1), (18, .iload_n 3, 1), (19, .iinc 3 1, 3), (22, .aload_n 0, 1), (23, .iload_n 1, 1), (24, .iinc 1 1, 3), (27, .baload, 1), (28, .sipush 255, 3), (31, .iand, 1), (32, .invokestatic 111, 3), (35, .iinc 5 1, 3), (38, .goto (-28), 3), (41, .return_, 1)] := by unfold oL; decide +kernel
theorem pd_8 : parseMethodDescriptor "(II[B)V" = some ⟨[.int, .int, (.array .byte)], none⟩ := by decide +kernel
theorem ef_rm54 (m : MethodId) (x0 : Addr) (x1 : Int32) (x2 : Addr) (x3 : Int32) (x4 : Int32) : entryFrame m #[(.ref x0), (.int x1), (.ref x2), (.int x3), (.int x4)] 6 = mkF m 0 #[.val (.ref x0), .val (.int x1), .val (.ref x2), .val (.int x3), .val (.int x4), .unset] [] := by first | (simp [entryFrame, mkF, argsToLocals, Value.category]; done) | rfl
def Q54 (Z : State) (ts : Addr) (t : Addr) (ks : ClassId) (cz : Nat) (ds : List Int32) (n : Nat) (kt : ClassId) (c : Nat) (cs : List Int32) (k : Nat) (z : Int32) (fm : Value) (h0 : Heap) (n0 : Nat) (v : Option Value) (h : Heap) (L : List Loc) : Prop := v = none ∧ Fr n0 L ∧ Keep h0 h [t] ∧ Arv Z h t kt .byte (Int32.ofNat (2 * c)) (StrChars.Road.wideBytes (cs ++ ds)) (.int 0)
set_option maxRecDepth 65536 in
set_option maxHeartbeats 40000000 in
theorem rm54 (l : Launch) (Z : State) (a0 : Array Value) (hw : ∀ d ∈ tables_1, d.before a0 Z = true) (ws : List Jvm.Cond) (ts : Addr) (t : Addr) (ks : ClassId) (cz : Nat) (ds : List Int32) (n : Nat) (kt : ClassId) (c : Nat) (cs : List Int32) (k : Nat) (z : Int32) (fm : Value) (h0 : Heap) (n0 : Nat) (Z0 : n0 ≤ h0.size) (PU : own_PU Z n0 h0 z fm) (As : Arv Z h0 ts ks .byte (Int32.ofNat cz) ((ds.map StrChars.lo8).map Value.int) (.int 0)) (hn : ds.length = n) (hnz : n ≤ cz) (hcz : cz < 1000) (rg : ∀ q_ ∈ ds, ¬ q_ < 0 ∧ ¬ (255 : Int32) < q_) (At : Arv Z h0 t kt .byte (Int32.ofNat (2 * c)) (StrChars.Road.wideBytes cs) (.int 0)) (gt : n0 ≤ t) (hk : cs.length = k) (hkn : k + n ≤ c) (hc : c < 1000) (nst : ts ≠ t) :
    own_M l (⟨"java/lang/StringUTF16", "inflate", "([BI[BII)V"⟩ : MethodName) jdk_52_method_86_code 6 none ws ({ frames := 3, cells := 0, slots := 0, locals := 43 } : Room) #[(.ref ts), (.int (0 : Int32)), (.ref t), (.int (Int32.ofNat k)), (.int (Int32.ofNat n))] Z h0 (Q54 Z ts t ks cz ds n kt c cs k z fm h0 n0) := by
  refine MetFree.of_bodySF (plainFor_of_name pn_2) hisR ?_
  intro p e s m args below meth cd s₁ Bd hml hP hK
  obtain ⟨rfl, hZ, hh⟩ := hP
  obtain ⟨X0, e0, H, hlk, hown, hret⟩ := own_start (R := ({ frames := 3, cells := 0, slots := 0, locals := 43 } : Room)) Bd hh rfl
  have hx := H.1; have hby := H.2; have N0 := Fr.nil n0
  obtain ⟨hz, O, SC, SA, SH, SL, SF, hfm⟩ := PU
  show own_Fin p e below (own_Ans s (Q54 Z ts t ks cz ds n kt c cs k z fm h0 n0) ({ frames := 3, cells := 0, slots := 0, locals := 43 } : Room).cells ({ frames := 3, cells := 0, slots := 0, locals := 43 } : Room).slots) (s₁.setTop (entryFrame m #[(.ref ts), (.int (0 : Int32)), (.ref t), (.int (Int32.ofNat k)), (.int (Int32.ofNat n))] 6))
  refine own_cast (ef_rm54 m ts (0 : Int32) t (Int32.ofNat k) (Int32.ofNat n)) ?_
  show own_Fin p e below _ (s₁.setTop (mkF m 0 #[.val (.ref ts), .val (.int (0 : Int32)), .val (.ref t), .val (.int (Int32.ofNat k)), .val (.int (Int32.ofNat n)), .unset] []))
  refine o_ildN X0 H (od dB54 0 rfl) rfl ?_
  refine o_ild X0 H (od dB54 1 rfl) rfl ?_
  refine o_aldN X0 H (od dB54 2 rfl) rfl rfl ?_
  refine o_tc (argsL := [(.int (Int32.ofNat k)), (.int (Int32.ofNat n)), (.ref t)]) (rest := []) X0 H hml hZ hown (ow hw 266 rfl) (ow hw 267 rfl) (ow hw 112 rfl) (ow hw 268 rfl) (backOf (W := 0) (rm55 l Z a0 hw [] t k n c kt _ z fm h0 n0 (by exact Z0) ⟨hz, O, SC, SA, SH, SL, SF, hfm⟩ (by omega) (by omega) At) hZ (ow hw 268 rfl) (ow hw 112 rfl) (by decide) (by decide)) (by decide) e0 pd_8 (od dB54 3 rfl) rfl rfl rfl rfl rfl (by decide) (by decide) (o_pv (fun _ _ _ q => q) N0 fun T26 Lc26 X26 N26 e26 => ?_)
  refine o_ic X26 H (od dB54 4 rfl) (v := 0) rfl ?_
  refine o_ist X26 H (od dB54 5 rfl) (L' := #[.val (.ref ts), .val (.int (0 : Int32)), .val (.ref t), .val (.int (Int32.ofNat k)), .val (.int (Int32.ofNat n)), .val (.int (0 : Int32))]) rfl ?_
  have PL : ∀ (r j : Nat) (hrj : r + j = n), ∀ (Tq : State) (Hq : Heap) (Loq : List Loc) (Xq : Stand p l e ({ frames := 3, cells := 0, slots := 0, locals := 43 } : Room) s m #[(.ref ts), (.int (0 : Int32)), (.ref t), (.int (Int32.ofNat k)), (.int (Int32.ofNat n))] below meth cd Tq Loq 0 0) (eq : Tq.heap = Hq) (Nq : Fr n0 Loq) (gq_0 : Keep h0 Hq [t]) (gq_1 : n0 ≤ Hq.size) (gq_2 : Old Z n0 Hq) (gq_3 : Arv Z Hq ts ks .byte (Int32.ofNat cz) ((ds.map StrChars.lo8).map Value.int) (.int 0)) (gq_4 : Arv Z Hq t kt .byte (Int32.ofNat (2 * c)) (StrChars.Road.wideBytes (cs ++ ds.take j)) (.int 0)), own_Fin p e below (own_Ans s (Q54 Z ts t ks cz ds n kt c cs k z fm h0 n0) ({ frames := 3, cells := 0, slots := 0, locals := 43 } : Room).cells ({ frames := 3, cells := 0, slots := 0, locals := 43 } : Room).slots) (Tq.setTop (mkF m 10 #[.val (.ref ts), .val (.int (Int32.ofNat j)), .val (.ref t), .val (.int (Int32.ofNat (k + j))), .val (.int (Int32.ofNat n)), .val (.int (Int32.ofNat j))] [])) := by
    intro r
    induction r with
    | zero =>
      intro j hrj Tq Hq Loq Xq eq Nq gq_0 gq_1 gq_2 gq_3 gq_4
      show own_Fin p e below _ (Tq.setTop (mkF m 10 #[.val (.ref ts), .val (.int (Int32.ofNat j)), .val (.ref t), .val (.int (Int32.ofNat (k + j))), .val (.int (Int32.ofNat n)), .val (.int (Int32.ofNat j))] []))
      refine o_ild Xq H (od dB54 6 rfl) rfl ?_
      refine o_ild Xq H (od dB54 7 rfl) rfl ?_
      refine o_icY Xq H (od dB54 8 rfl) (flt (own_onlt (by omega) (by omega))).2.1 (pc' := 41) (by decide) (by decide) ?_
      exact own_retV Xq hx hlk hret (hb hby (od dB54 21 rfl)) (by show Q54 Z ts t ks cz ds n kt c cs k z fm h0 n0 _ Tq.heap _; rw [eq]; exact ⟨rfl, Nq, gq_0, (by have q := gq_4; rw [show j = n by omega, ← hn, List.take_length] at q; exact q)⟩) (by decide) (by decide)
    | succ r ih =>
      intro j hrj Tq Hq Loq Xq eq Nq gq_0 gq_1 gq_2 gq_3 gq_4
      show own_Fin p e below _ (Tq.setTop (mkF m 10 #[.val (.ref ts), .val (.int (Int32.ofNat j)), .val (.ref t), .val (.int (Int32.ofNat (k + j))), .val (.int (Int32.ofNat n)), .val (.int (Int32.ofNat j))] []))
      refine o_ild Xq H (od dB54 6 rfl) rfl ?_
      refine o_ild Xq H (od dB54 7 rfl) rfl ?_
      refine o_icN Xq H (od dB54 8 rfl) (tlt (own_olt (by omega) (by omega))).2.1 ?_
      refine o_aldN Xq H (od dB54 9 rfl) rfl rfl ?_
      refine o_ildN Xq H (od dB54 10 rfl) rfl ?_
      refine own_on (fun tq => XS.iinc Xq.here hx rfl (hb hby (od dB54 11 rfl)) rfl (l' := #[.val (.ref ts), .val (.int (Int32.ofNat j)), .val (.ref t), .val (.int ((Int32.ofNat (k + j)) + (1 : Int32))), .val (.int (Int32.ofNat n)), .val (.int (Int32.ofNat j))]) rfl) ?_
      show own_Fin p e below _ (Tq.setTop (mkF m 22 #[.val (.ref ts), .val (.int (Int32.ofNat j)), .val (.ref t), .val (.int ((Int32.ofNat (k + j)) + (1 : Int32))), .val (.int (Int32.ofNat n)), .val (.int (Int32.ofNat j))] [(.int (Int32.ofNat (k + j))), (.ref t)]))
      refine o_aldN Xq H (od dB54 12 rfl) rfl rfl ?_
      refine o_ildN Xq H (od dB54 13 rfl) rfl ?_
      refine own_on (fun tq => XS.iinc Xq.here hx rfl (hb hby (od dB54 14 rfl)) rfl (l' := #[.val (.ref ts), .val (.int ((Int32.ofNat j) + (1 : Int32))), .val (.ref t), .val (.int ((Int32.ofNat (k + j)) + (1 : Int32))), .val (.int (Int32.ofNat n)), .val (.int (Int32.ofNat j))]) rfl) ?_
      show own_Fin p e below _ (Tq.setTop (mkF m 27 #[.val (.ref ts), .val (.int ((Int32.ofNat j) + (1 : Int32))), .val (.ref t), .val (.int ((Int32.ofNat (k + j)) + (1 : Int32))), .val (.int (Int32.ofNat n)), .val (.int (Int32.ofNat j))] [(.int (Int32.ofNat j)), (.ref ts), (.int (Int32.ofNat (k + j))), (.ref t)]))
      have cp27 := gq_3
      obtain ⟨cl27, Ar27, q27, S27, G27, H27, F27⟩ := cp27
      have hin27 : ¬ ((Int32.ofNat j) < 0 ∨ cl27.slots.size ≤ ((Int32.ofNat j)).toNatClampNeg) := inb_of S27 ⟨own_nneg (by omega), own_olt (by omega) (by omega)⟩
      have hat27 : cl27.slots[((Int32.ofNat j)).toNatClampNeg]? = some (.int (StrChars.lo8 (ds.getD j 0))) := H27.at hin27 (by rw [own_clampN (by omega)]; exact own_vd (by omega))
      refine own_on (fun tq => Xq.baloadBytes hx (j := (Int32.ofNat j)) (v := (.int (StrChars.lo8 (ds.getD j 0)))) (by rw [eq]; exact Ar27.1) (State.isArrayOf_alike hZ.alike Ar27.2.1) Ar27.2.2 hin27 hat27 (g := (mkF m 27 #[.val (.ref ts), .val (.int ((Int32.ofNat j) + (1 : Int32))), .val (.ref t), .val (.int ((Int32.ofNat (k + j)) + (1 : Int32))), .val (.int (Int32.ofNat n)), .val (.int (Int32.ofNat j))] [(.int (Int32.ofNat j)), (.ref ts), (.int (Int32.ofNat (k + j))), (.ref t)])) rfl rfl (hb hby (od dB54 15 rfl)) tq) ?_
      show own_Fin p e below _ (Tq.setTop (mkF m 28 #[.val (.ref ts), .val (.int ((Int32.ofNat j) + (1 : Int32))), .val (.ref t), .val (.int ((Int32.ofNat (k + j)) + (1 : Int32))), .val (.int (Int32.ofNat n)), .val (.int (Int32.ofNat j))] [(.int (StrChars.lo8 (ds.getD j 0))), (.int (Int32.ofNat (k + j))), (.ref t)]))
      refine o_si Xq H (od dB54 16 rfl) (v := 255) rfl ?_
      refine o_iand Xq H (od dB54 17 rfl) ?_
      rw [StrChars.lo8_mask (rg _ (own_mem (by omega))).1 (rg _ (own_mem (by omega))).2]
      show own_Fin p e below _ (Tq.setTop (mkF m 32 #[.val (.ref ts), .val (.int ((Int32.ofNat j) + (1 : Int32))), .val (.ref t), .val (.int ((Int32.ofNat (k + j)) + (1 : Int32))), .val (.int (Int32.ofNat n)), .val (.int (Int32.ofNat j))] [(.int (ds.getD j 0)), (.int (Int32.ofNat (k + j))), (.ref t)]))
      refine o_tc (argsL := [(.ref t), (.int (Int32.ofNat (k + j))), (.int (ds.getD j 0))]) (rest := []) Xq H hml hZ hown (ow hw 235 rfl) (ow hw 236 rfl) (ow hw 112 rfl) (ow hw 237 rfl) (backOf (W := 0) (rm47 l Z a0 hw [] t (ds.getD j 0) kt c (cs ++ ds.take j) (k + j) z fm Hq n0 (by exact gq_1) ⟨hz, gq_2, SC, SA, SH, SL, SF, hfm⟩ gq_4 gt (by rw [List.length_append, List.length_take, hk]; omega) (by omega) (by omega)) hZ (ow hw 237 rfl) (ow hw 112 rfl) (by decide) (by decide)) (by decide) eq pd_6 (od dB54 18 rfl) rfl rfl rfl rfl rfl (by decide) (by decide) fun _ T28 Lc28 X28 hQ28 => ?_
      obtain ⟨rfl, N28q, K28, Aq28⟩ := hQ28
      have N28 := Fr.app Nq N28q
      show own_Fin p e below _ (T28.setTop (mkF m 35 #[.val (.ref ts), .val (.int ((Int32.ofNat j) + (1 : Int32))), .val (.ref t), .val (.int ((Int32.ofNat (k + j)) + (1 : Int32))), .val (.int (Int32.ofNat n)), .val (.int (Int32.ofNat j))] []))
      refine own_on (fun tq => XS.iinc X28.here hx rfl (hb hby (od dB54 19 rfl)) rfl (l' := #[.val (.ref ts), .val (.int ((Int32.ofNat j) + (1 : Int32))), .val (.ref t), .val (.int ((Int32.ofNat (k + j)) + (1 : Int32))), .val (.int (Int32.ofNat n)), .val (.int ((Int32.ofNat j) + (1 : Int32)))]) rfl) ?_
      show own_Fin p e below _ (T28.setTop (mkF m 38 #[.val (.ref ts), .val (.int ((Int32.ofNat j) + (1 : Int32))), .val (.ref t), .val (.int ((Int32.ofNat (k + j)) + (1 : Int32))), .val (.int (Int32.ofNat n)), .val (.int ((Int32.ofNat j) + (1 : Int32)))] []))
      refine o_go X28 H (od dB54 20 rfl) (pc' := 10) (by decide) (by decide) ?_
      have tw29 : Arv Z T28.heap t kt .byte (Int32.ofNat (2 * c)) (StrChars.Road.wideBytes (cs ++ ds.take (j + 1))) (.int 0) := by have q := Aq28; rw [own_tk (by omega)] at q; exact q
      rw [show Int32.ofNat j + (1 : Int32) = Int32.ofNat (j + 1) from own_add _ 1, show Int32.ofNat (k + j) + (1 : Int32) = Int32.ofNat (k + (j + 1)) from own_add _ 1]
      exact ih (j + 1) (by omega) T28 _ _ X28 rfl N28 (gq_0.trans K28 (allS (Or.inl (List.mem_of_getElem? (i := 0) rfl)) all0)) (Nat.le_trans gq_1 K28.1) (gq_2.keep K28 (allS gt all0)) (gq_3.keep K28 (ninS nst nin0)) tw29
  exact PL n 0 (Nat.add_zero n) T26 _ _ X26 e26 N26 (Keep.refl h0 [t]) Z0 O As (by rw [List.take_zero, List.append_nil]; exact At)
theorem pn_3 : plainName "java/lang/StringLatin1" = true := by first | (simp [plainName, overriddenIn]; done) | decide +kernel
theorem dB53 : oL jdk_43_method_50_code [(0, .aload_n 0, 1), (1, .iload_n 1, 1), (2, .aload_n 2, 1), (3, .iload_n 3, 1), (4, .iload 4, 2), (6, .invokestatic 240, 3), (9, .return_, 1)] := by unfold oL; decide +kernel
theorem pd_9 : parseMethodDescriptor "([BI[BII)V" = some ⟨[(.array .byte), .int, (.array .byte), .int, .int], none⟩ := by decide +kernel
theorem ef_rm53 (m : MethodId) (x0 : Addr) (x1 : Int32) (x2 : Addr) (x3 : Int32) (x4 : Int32) : entryFrame m #[(.ref x0), (.int x1), (.ref x2), (.int x3), (.int x4)] 5 = mkF m 0 #[.val (.ref x0), .val (.int x1), .val (.ref x2), .val (.int x3), .val (.int x4)] [] := by first | (simp [entryFrame, mkF, argsToLocals, Value.category]; done) | rfl
def Q53 (Z : State) (ts : Addr) (t : Addr) (ks : ClassId) (cz : Nat) (ds : List Int32) (n : Nat) (kt : ClassId) (c : Nat) (cs : List Int32) (k : Nat) (z : Int32) (fm : Value) (h0 : Heap) (n0 : Nat) (v : Option Value) (h : Heap) (L : List Loc) : Prop := v = none ∧ Fr n0 L ∧ Keep h0 h [t] ∧ Arv Z h t kt .byte (Int32.ofNat (2 * c)) (StrChars.Road.wideBytes (cs ++ ds)) (.int 0)
set_option maxRecDepth 65536 in
set_option maxHeartbeats 40000000 in
theorem rm53 (l : Launch) (Z : State) (a0 : Array Value) (hw : ∀ d ∈ tables_1, d.before a0 Z = true) (ws : List Jvm.Cond) (ts : Addr) (t : Addr) (ks : ClassId) (cz : Nat) (ds : List Int32) (n : Nat) (kt : ClassId) (c : Nat) (cs : List Int32) (k : Nat) (z : Int32) (fm : Value) (h0 : Heap) (n0 : Nat) (Z0 : n0 ≤ h0.size) (PU : own_PU Z n0 h0 z fm) (As : Arv Z h0 ts ks .byte (Int32.ofNat cz) ((ds.map StrChars.lo8).map Value.int) (.int 0)) (hn : ds.length = n) (hnz : n ≤ cz) (hcz : cz < 1000) (rg : ∀ q_ ∈ ds, ¬ q_ < 0 ∧ ¬ (255 : Int32) < q_) (At : Arv Z h0 t kt .byte (Int32.ofNat (2 * c)) (StrChars.Road.wideBytes cs) (.int 0)) (gt : n0 ≤ t) (hk : cs.length = k) (hkn : k + n ≤ c) (hc : c < 1000) (nst : ts ≠ t) :
    own_M l (⟨"java/lang/StringLatin1", "inflate", "([BI[BII)V"⟩ : MethodName) jdk_43_method_50_code 5 none ws ({ frames := 4, cells := 0, slots := 0, locals := 60 } : Room) #[(.ref ts), (.int (0 : Int32)), (.ref t), (.int (Int32.ofNat k)), (.int (Int32.ofNat n))] Z h0 (Q53 Z ts t ks cz ds n kt c cs k z fm h0 n0) := by
  refine MetFree.of_bodySF (plainFor_of_name pn_3) hisR ?_
  intro p e s m args below meth cd s₁ Bd hml hP hK
  obtain ⟨rfl, hZ, hh⟩ := hP
  obtain ⟨X0, e0, H, hlk, hown, hret⟩ := own_start (R := ({ frames := 4, cells := 0, slots := 0, locals := 60 } : Room)) Bd hh rfl
  have hx := H.1; have hby := H.2; have N0 := Fr.nil n0
  obtain ⟨hz, O, SC, SA, SH, SL, SF, hfm⟩ := PU
  show own_Fin p e below (own_Ans s (Q53 Z ts t ks cz ds n kt c cs k z fm h0 n0) ({ frames := 4, cells := 0, slots := 0, locals := 60 } : Room).cells ({ frames := 4, cells := 0, slots := 0, locals := 60 } : Room).slots) (s₁.setTop (entryFrame m #[(.ref ts), (.int (0 : Int32)), (.ref t), (.int (Int32.ofNat k)), (.int (Int32.ofNat n))] 5))
  refine own_cast (ef_rm53 m ts (0 : Int32) t (Int32.ofNat k) (Int32.ofNat n)) ?_
  show own_Fin p e below _ (s₁.setTop (mkF m 0 #[.val (.ref ts), .val (.int (0 : Int32)), .val (.ref t), .val (.int (Int32.ofNat k)), .val (.int (Int32.ofNat n))] []))
  refine o_aldN X0 H (od dB53 0 rfl) rfl rfl ?_
  refine o_ildN X0 H (od dB53 1 rfl) rfl ?_
  refine o_aldN X0 H (od dB53 2 rfl) rfl rfl ?_
  refine o_ildN X0 H (od dB53 3 rfl) rfl ?_
  refine o_ild X0 H (od dB53 4 rfl) rfl ?_
  refine o_tc (argsL := [(.ref ts), (.int (0 : Int32)), (.ref t), (.int (Int32.ofNat k)), (.int (Int32.ofNat n))]) (rest := []) X0 H hml hZ hown (ow hw 263 rfl) (ow hw 264 rfl) (ow hw 112 rfl) (ow hw 265 rfl) (backOf (W := 0) (rm54 l Z a0 hw [] ts t ks cz ds n kt c cs k z fm h0 n0 (by exact Z0) ⟨hz, O, SC, SA, SH, SL, SF, hfm⟩ As hn (by omega) (by omega) rg At gt hk (by omega) (by omega) nst) hZ (ow hw 265 rfl) (ow hw 112 rfl) (by decide) (by decide)) (by decide) e0 pd_9 (od dB53 5 rfl) rfl rfl rfl rfl rfl (by decide) (by decide) fun _ T30 Lc30 X30 hQ30 => ?_
  obtain ⟨rfl, N30q, K30, Aq30⟩ := hQ30
  have N30 := Fr.app N0 N30q
  show own_Fin p e below _ (T30.setTop (mkF m 9 #[.val (.ref ts), .val (.int (0 : Int32)), .val (.ref t), .val (.int (Int32.ofNat k)), .val (.int (Int32.ofNat n))] []))
  exact own_retV X30 hx hlk hret (hb hby (od dB53 6 rfl)) (by show Q53 Z ts t ks cz ds n kt c cs k z fm h0 n0 _ T30.heap _; exact ⟨rfl, N30, ((Keep.refl h0 [t]).trans K30 (allS (Or.inl (List.mem_of_getElem? (i := 0) rfl)) all0)), Aq30⟩) (by decide) (by decide)
theorem pn_4 : plainName "java/lang/AbstractStringBuilder" = true := by first | (simp [plainName, overriddenIn]; done) | decide +kernel
theorem dB16 : oL jdk_68_method_68_code [(0, .getstatic 18, 3), (3, .ifCond .eq 14, 3), (6, .aload_n 0, 1), (7, .getfield 22, 3), (10, .ifCond .ne 7, 3), (13, .iconst 1, 1), (14, .goto 4, 3), (17, .iconst 0, 1), (18, .ireturn, 1)] := by unfold oL; decide +kernel
theorem ef_rmIl0 (m : MethodId) (x0 : Addr) : entryFrame m #[(.ref x0)] 1 = mkF m 0 #[.val (.ref x0)] [] := by first | (simp [entryFrame, mkF, argsToLocals, Value.category]; done) | rfl
def QIl0 (Z : State) (b : Addr) (z : Int32) (fm : Value) (h0 : Heap) (n0 : Nat) (v : Option Value) (h : Heap) (L : List Loc) : Prop := v = some (.int (1 : Int32)) ∧ Fr n0 L ∧ h = h0
set_option maxRecDepth 65536 in
set_option maxHeartbeats 40000000 in
theorem rmIl0 (l : Launch) (Z : State) (a0 : Array Value) (hw : ∀ d ∈ tables_1, d.before a0 Z = true) (ws : List Jvm.Cond) (b : Addr) (z : Int32) (fm : Value) (h0 : Heap) (n0 : Nat) (Z0 : n0 ≤ h0.size) (PU : own_PU Z n0 h0 z fm) (F : Fld Z h0 b "java/lang/AbstractStringBuilder" "coder" "B" (.int (0 : Int32))) :
    own_M l (⟨"java/lang/AbstractStringBuilder", "isLatin1", "()Z"⟩ : MethodName) jdk_68_method_68_code 1 (some .boolean) ws ({ frames := 0, cells := 0, slots := 0, locals := 0 } : Room) #[(.ref b)] Z h0 (QIl0 Z b z fm h0 n0) := by
  refine MetFree.of_bodySF (plainFor_of_name pn_4) hisR ?_
  intro p e s m args below meth cd s₁ Bd hml hP hK
  obtain ⟨rfl, hZ, hh⟩ := hP
  obtain ⟨X0, e0, H, hlk, hown, hret⟩ := own_start (R := ({ frames := 0, cells := 0, slots := 0, locals := 0 } : Room)) Bd hh rfl
  have hx := H.1; have hby := H.2; have N0 := Fr.nil n0
  obtain ⟨hz, O, SC, SA, SH, SL, SF, hfm⟩ := PU
  show own_Fin p e below (own_Ans s (QIl0 Z b z fm h0 n0) ({ frames := 0, cells := 0, slots := 0, locals := 0 } : Room).cells ({ frames := 0, cells := 0, slots := 0, locals := 0 } : Room).slots) (s₁.setTop (entryFrame m #[(.ref b)] 1))
  refine own_cast (ef_rmIl0 m b) ?_
  show own_Fin p e below _ (s₁.setTop (mkF m 0 #[.val (.ref b)] []))
  refine o_gs X0 H hZ hown (ow hw 55 rfl) Via.refl e0 (SC.ext O.2) (od dB16 0 rfl) fun T31 X31 e31 => ?_
  refine o_ifN X31 H (od dB16 1 rfl) ((if0 _ _).trans (feq hz).1) ?_
  refine o_aldN X31 H (od dB16 2 rfl) rfl rfl ?_
  refine o_gf X31 H hZ hown (ow hw 58 rfl) Via.refl e31 F (od dB16 3 rfl) fun T32 X32 e32 => ?_
  refine o_ifN X32 H (od dB16 4 rfl) ((if0 _ _).trans (teq (by decide : (0 : Int32) = (0 : Int32))).2) ?_
  refine o_ic X32 H (od dB16 5 rfl) (v := 1) rfl ?_
  refine o_go X32 H (od dB16 6 rfl) (pc' := 18) (by decide) (by decide) ?_
  exact own_ret (t := .boolean) X32 hx hlk hret rfl (Or.inl ⟨rfl, (by simp), _, rfl⟩) (hb hby (od dB16 8 rfl)) (⟨rfl, N0, e32⟩) (by decide) (by decide)
theorem ef_rmIl1 (m : MethodId) (x0 : Addr) : entryFrame m #[(.ref x0)] 1 = mkF m 0 #[.val (.ref x0)] [] := by first | (simp [entryFrame, mkF, argsToLocals, Value.category]; done) | rfl
def QIl1 (Z : State) (b : Addr) (z : Int32) (fm : Value) (h0 : Heap) (n0 : Nat) (v : Option Value) (h : Heap) (L : List Loc) : Prop := v = some (.int (0 : Int32)) ∧ Fr n0 L ∧ h = h0
set_option maxRecDepth 65536 in
set_option maxHeartbeats 40000000 in
theorem rmIl1 (l : Launch) (Z : State) (a0 : Array Value) (hw : ∀ d ∈ tables_1, d.before a0 Z = true) (ws : List Jvm.Cond) (b : Addr) (z : Int32) (fm : Value) (h0 : Heap) (n0 : Nat) (Z0 : n0 ≤ h0.size) (PU : own_PU Z n0 h0 z fm) (F : Fld Z h0 b "java/lang/AbstractStringBuilder" "coder" "B" (.int (1 : Int32))) :
    own_M l (⟨"java/lang/AbstractStringBuilder", "isLatin1", "()Z"⟩ : MethodName) jdk_68_method_68_code 1 (some .boolean) ws ({ frames := 0, cells := 0, slots := 0, locals := 0 } : Room) #[(.ref b)] Z h0 (QIl1 Z b z fm h0 n0) := by
  refine MetFree.of_bodySF (plainFor_of_name pn_4) hisR ?_
  intro p e s m args below meth cd s₁ Bd hml hP hK
  obtain ⟨rfl, hZ, hh⟩ := hP
  obtain ⟨X0, e0, H, hlk, hown, hret⟩ := own_start (R := ({ frames := 0, cells := 0, slots := 0, locals := 0 } : Room)) Bd hh rfl
  have hx := H.1; have hby := H.2; have N0 := Fr.nil n0
  obtain ⟨hz, O, SC, SA, SH, SL, SF, hfm⟩ := PU
  show own_Fin p e below (own_Ans s (QIl1 Z b z fm h0 n0) ({ frames := 0, cells := 0, slots := 0, locals := 0 } : Room).cells ({ frames := 0, cells := 0, slots := 0, locals := 0 } : Room).slots) (s₁.setTop (entryFrame m #[(.ref b)] 1))
  refine own_cast (ef_rmIl1 m b) ?_
  show own_Fin p e below _ (s₁.setTop (mkF m 0 #[.val (.ref b)] []))
  refine o_gs X0 H hZ hown (ow hw 55 rfl) Via.refl e0 (SC.ext O.2) (od dB16 0 rfl) fun T33 X33 e33 => ?_
  refine o_ifN X33 H (od dB16 1 rfl) ((if0 _ _).trans (feq hz).1) ?_
  refine o_aldN X33 H (od dB16 2 rfl) rfl rfl ?_
  refine o_gf X33 H hZ hown (ow hw 58 rfl) Via.refl e33 F (od dB16 3 rfl) fun T34 X34 e34 => ?_
  refine o_ifY X34 H (od dB16 4 rfl) ((if0 _ _).trans (feq (by decide : ¬ ((1 : Int32) = (0 : Int32)))).2) (pc' := 17) (by decide) (by decide) ?_
  refine o_ic X34 H (od dB16 7 rfl) (v := 0) rfl ?_
  exact own_ret (t := .boolean) X34 hx hlk hret rfl (Or.inl ⟨rfl, (by simp), _, rfl⟩) (hb hby (od dB16 8 rfl)) (⟨rfl, N0, e34⟩) (by decide) (by decide)
theorem dB13 : oL jdk_68_method_64_code [(0, .aload_n 0, 1), (1, .getfield 15, 3), (4, .areturn, 1)] := by unfold oL; decide +kernel
theorem ef_rm13 (m : MethodId) (x0 : Addr) : entryFrame m #[(.ref x0)] 1 = mkF m 0 #[.val (.ref x0)] [] := by first | (simp [entryFrame, mkF, argsToLocals, Value.category]; done) | rfl
def Q13 (Z : State) (b : Addr) (tb : Addr) (h0 : Heap) (n0 : Nat) (v : Option Value) (h : Heap) (L : List Loc) : Prop := v = some (.ref tb) ∧ Fr n0 L ∧ h = h0
set_option maxRecDepth 65536 in
set_option maxHeartbeats 40000000 in
theorem rm13 (l : Launch) (Z : State) (a0 : Array Value) (hw : ∀ d ∈ tables_1, d.before a0 Z = true) (ws : List Jvm.Cond) (b : Addr) (tb : Addr) (h0 : Heap) (n0 : Nat) (Z0 : n0 ≤ h0.size) (F : Fld Z h0 b "java/lang/AbstractStringBuilder" "value" "[B" (.ref tb)) :
    own_M l (⟨"java/lang/AbstractStringBuilder", "getValue", "()[B"⟩ : MethodName) jdk_68_method_64_code 1 (some (.array .byte)) ws ({ frames := 0, cells := 0, slots := 0, locals := 0 } : Room) #[(.ref b)] Z h0 (Q13 Z b tb h0 n0) := by
  refine MetFree.of_bodySF (plainFor_of_name pn_4) hisR ?_
  intro p e s m args below meth cd s₁ Bd hml hP hK
  obtain ⟨rfl, hZ, hh⟩ := hP
  obtain ⟨X0, e0, H, hlk, hown, hret⟩ := own_start (R := ({ frames := 0, cells := 0, slots := 0, locals := 0 } : Room)) Bd hh rfl
  have hx := H.1; have hby := H.2; have N0 := Fr.nil n0
  show own_Fin p e below (own_Ans s (Q13 Z b tb h0 n0) ({ frames := 0, cells := 0, slots := 0, locals := 0 } : Room).cells ({ frames := 0, cells := 0, slots := 0, locals := 0 } : Room).slots) (s₁.setTop (entryFrame m #[(.ref b)] 1))
  refine own_cast (ef_rm13 m b) ?_
  show own_Fin p e below _ (s₁.setTop (mkF m 0 #[.val (.ref b)] []))
  refine o_aldN X0 H (od dB13 0 rfl) rfl rfl ?_
  refine o_gf X0 H hZ hown (ow hw 56 rfl) Via.refl e0 F (od dB13 1 rfl) fun T35 X35 e35 => ?_
  exact own_ret (t := (.array .byte)) X35 hx hlk hret rfl (Or.inr (Or.inr (Or.inr (Or.inr ⟨rfl, rfl, rfl⟩)))) (hb hby (od dB13 2 rfl)) (⟨rfl, N0, e35⟩) (by decide) (by decide)
theorem dB15 : oL jdk_68_method_6_code [(0, .aload_n 0, 1), (1, .getfield 79, 3), (4, .ireturn, 1)] := by unfold oL; decide +kernel
theorem ef_rm15 (m : MethodId) (x0 : Addr) : entryFrame m #[(.ref x0)] 1 = mkF m 0 #[.val (.ref x0)] [] := by first | (simp [entryFrame, mkF, argsToLocals, Value.category]; done) | rfl
def Q15 (Z : State) (b : Addr) (k : Int32) (h0 : Heap) (n0 : Nat) (v : Option Value) (h : Heap) (L : List Loc) : Prop := v = some (.int k) ∧ Fr n0 L ∧ h = h0
set_option maxRecDepth 65536 in
set_option maxHeartbeats 40000000 in
theorem rm15 (l : Launch) (Z : State) (a0 : Array Value) (hw : ∀ d ∈ tables_1, d.before a0 Z = true) (ws : List Jvm.Cond) (b : Addr) (k : Int32) (h0 : Heap) (n0 : Nat) (Z0 : n0 ≤ h0.size) (E : Exa Z h0 b "java/lang/StringBuilder") (F : Fld Z h0 b "java/lang/AbstractStringBuilder" "count" "I" (.int k)) :
    own_M l (⟨"java/lang/AbstractStringBuilder", "length", "()I"⟩ : MethodName) jdk_68_method_6_code 1 (some .int) ws ({ frames := 0, cells := 0, slots := 0, locals := 0 } : Room) #[(.ref b)] Z h0 (Q15 Z b k h0 n0) := by
  refine MetFree.of_bodySF (plainFor_of_name pn_4) hisR ?_
  intro p e s m args below meth cd s₁ Bd hml hP hK
  obtain ⟨rfl, hZ, hh⟩ := hP
  obtain ⟨X0, e0, H, hlk, hown, hret⟩ := own_start (R := ({ frames := 0, cells := 0, slots := 0, locals := 0 } : Room)) Bd hh rfl
  have hx := H.1; have hby := H.2; have N0 := Fr.nil n0
  show own_Fin p e below (own_Ans s (Q15 Z b k h0 n0) ({ frames := 0, cells := 0, slots := 0, locals := 0 } : Room).cells ({ frames := 0, cells := 0, slots := 0, locals := 0 } : Room).slots) (s₁.setTop (entryFrame m #[(.ref b)] 1))
  refine own_cast (ef_rm15 m b) ?_
  show own_Fin p e below _ (s₁.setTop (mkF m 0 #[.val (.ref b)] []))
  refine o_aldN X0 H (od dB15 0 rfl) rfl rfl ?_
  refine o_gf X0 H hZ hown (ow hw 86 rfl) Via.refl e0 F (od dB15 1 rfl) fun T36 X36 e36 => ?_
  exact own_ret (t := .int) X36 hx hlk hret rfl (Or.inl ⟨rfl, (by simp), _, rfl⟩) (hb hby (od dB15 2 rfl)) (⟨rfl, N0, e36⟩) (by decide) (by decide)
theorem pn_5 : plainName "java/lang/StringBuilder" = true := by first | (simp [plainName, overriddenIn]; done) | decide +kernel
theorem dB14 : oL jdk_67_method_93_code [(0, .aload_n 0, 1), (1, .invokespecial 343, 3), (4, .ireturn, 1)] := by unfold oL; decide +kernel
theorem pd_10 : parseMethodDescriptor "()I" = some ⟨[], some .int⟩ := by decide +kernel
theorem ef_rm14 (m : MethodId) (x0 : Addr) : entryFrame m #[(.ref x0)] 1 = mkF m 0 #[.val (.ref x0)] [] := by first | (simp [entryFrame, mkF, argsToLocals, Value.category]; done) | rfl
def Q14 (Z : State) (b : Addr) (k : Int32) (h0 : Heap) (n0 : Nat) (v : Option Value) (h : Heap) (L : List Loc) : Prop := v = some (.int k) ∧ Fr n0 L ∧ h = h0
set_option maxRecDepth 65536 in
set_option maxHeartbeats 40000000 in
theorem rm14 (l : Launch) (Z : State) (a0 : Array Value) (hw : ∀ d ∈ tables_1, d.before a0 Z = true) (ws : List Jvm.Cond) (b : Addr) (k : Int32) (h0 : Heap) (n0 : Nat) (Z0 : n0 ≤ h0.size) (E : Exa Z h0 b "java/lang/StringBuilder") (F : Fld Z h0 b "java/lang/AbstractStringBuilder" "count" "I" (.int k)) :
    own_M l (⟨"java/lang/StringBuilder", "length", "()I"⟩ : MethodName) jdk_67_method_93_code 1 (some .int) ws ({ frames := 1, cells := 0, slots := 0, locals := 12 } : Room) #[(.ref b)] Z h0 (Q14 Z b k h0 n0) := by
  refine MetFree.of_bodySF (plainFor_of_name pn_5) hisR ?_
  intro p e s m args below meth cd s₁ Bd hml hP hK
  obtain ⟨rfl, hZ, hh⟩ := hP
  obtain ⟨X0, e0, H, hlk, hown, hret⟩ := own_start (R := ({ frames := 1, cells := 0, slots := 0, locals := 12 } : Room)) Bd hh rfl
  have hx := H.1; have hby := H.2; have N0 := Fr.nil n0
  show own_Fin p e below (own_Ans s (Q14 Z b k h0 n0) ({ frames := 1, cells := 0, slots := 0, locals := 12 } : Room).cells ({ frames := 1, cells := 0, slots := 0, locals := 12 } : Room).slots) (s₁.setTop (entryFrame m #[(.ref b)] 1))
  refine own_cast (ef_rm14 m b) ?_
  show own_Fin p e below _ (s₁.setTop (mkF m 0 #[.val (.ref b)] []))
  refine o_aldN X0 H (od dB14 0 rfl) rfl rfl ?_
  refine o_bk (superBack X0 hx hZ (y := (⟨"java/lang/AbstractStringBuilder", "length", "()I"⟩ : MethodName)) hown (ow hw 83 rfl) (own_same (ow hw 78 rfl) (ow hw 75 rfl) rfl (by decide)) (ow hw 79 rfl) (ow hw 84 rfl) (by decide) (backOf (W := 0) (rm15 l Z a0 hw [] b k h0 n0 (by exact Z0) E F) hZ (ow hw 85 rfl) (ow hw 52 rfl) (by decide) (by decide)) e0 (Ins.self E) rfl (by exact hml.symm) (ow hw 85 rfl) (argsL := []) (rest := []) (lenOf pd_10 rfl) rfl (o_mr rfl) (hb hby (od dB14 1 rfl)) (fun _ _ => ⟨rfl, e0, (by decide : 0 + 0 ≤ _), (by decide : 0 + 0 ≤ _)⟩)) fun _ T37 Lc37 X37 hQ37 => ?_
  obtain ⟨rfl, N37q, e37⟩ := hQ37
  have N37 := Fr.app N0 N37q
  show own_Fin p e below _ (T37.setTop (mkF m 4 #[.val (.ref b)] [(.int k)]))
  exact own_ret (t := .int) X37 hx hlk hret rfl (Or.inl ⟨rfl, (by simp), _, rfl⟩) (hb hby (od dB14 2 rfl)) (⟨rfl, N37, e37⟩) (by decide) (by decide)
theorem dB36 : oL jdk_29_method_65_code [(0, .iload_n 0, 1), (1, .iload_n 1, 1), (2, .if_icmp .lt 7, 3), (5, .iload_n 0, 1), (6, .goto 4, 3), (9, .iload_n 1, 1), (10, .ireturn, 1)] := by unfold oL; decide +kernel
theorem ef_rm36 (m : MethodId) (x0 : Int32) (x1 : Int32) : entryFrame m #[(.int x0), (.int x1)] 2 = mkF m 0 #[.val (.int x0), .val (.int x1)] [] := by first | (simp [entryFrame, mkF, argsToLocals, Value.category]; done) | rfl
def Q36 (Z : State) (g : Nat) (p2 : Nat) (h0 : Heap) (n0 : Nat) (v : Option Value) (h : Heap) (L : List Loc) : Prop := v = some (.int (Int32.ofNat (max g p2))) ∧ Fr n0 L ∧ h = h0
set_option maxRecDepth 65536 in
set_option maxHeartbeats 40000000 in
theorem rm36 (l : Launch) (Z : State) (a0 : Array Value) (hw : ∀ d ∈ tables_1, d.before a0 Z = true) (ws : List Jvm.Cond) (g : Nat) (p2 : Nat) (h0 : Heap) (n0 : Nat) (Z0 : n0 ≤ h0.size) (hg : g < 1000) (hp : p2 < 1000) :
    own_M l (⟨"java/lang/Math", "max", "(II)I"⟩ : MethodName) jdk_29_method_65_code 2 (some .int) ws ({ frames := 0, cells := 0, slots := 0, locals := 0 } : Room) #[(.int (Int32.ofNat g)), (.int (Int32.ofNat p2))] Z h0 (Q36 Z g p2 h0 n0) := by
  refine MetFree.of_bodySF (Jvm.Free.JP.mathPlain rfl (by decide +kernel)) hisR ?_
  intro p e s m args below meth cd s₁ Bd hml hP hK
  obtain ⟨rfl, hZ, hh⟩ := hP
  obtain ⟨X0, e0, H, hlk, hown, hret⟩ := own_start (R := ({ frames := 0, cells := 0, slots := 0, locals := 0 } : Room)) Bd hh rfl
  have hx := H.1; have hby := H.2; have N0 := Fr.nil n0
  show own_Fin p e below (own_Ans s (Q36 Z g p2 h0 n0) ({ frames := 0, cells := 0, slots := 0, locals := 0 } : Room).cells ({ frames := 0, cells := 0, slots := 0, locals := 0 } : Room).slots) (s₁.setTop (entryFrame m #[(.int (Int32.ofNat g)), (.int (Int32.ofNat p2))] 2))
  refine own_cast (ef_rm36 m (Int32.ofNat g) (Int32.ofNat p2)) ?_
  show own_Fin p e below _ (s₁.setTop (mkF m 0 #[.val (.int (Int32.ofNat g)), .val (.int (Int32.ofNat p2))] []))
  refine o_ildN X0 H (od dB36 0 rfl) rfl ?_
  refine o_ildN X0 H (od dB36 1 rfl) rfl ?_
  by_cases hc38 : (Int32.ofNat g) < (Int32.ofNat p2)
  · refine o_icY X0 H (od dB36 2 rfl) (tlt hc38).1 (pc' := 9) (by decide) (by decide) ?_
    refine o_ildN X0 H (od dB36 5 rfl) rfl ?_
    exact own_ret (t := .int) X0 hx hlk hret rfl (Or.inl ⟨rfl, (by simp), _, rfl⟩) (hb hby (od dB36 6 rfl)) (⟨(by rw [Nat.max_eq_right (Nat.le_of_lt (own_ltof hc38 (by omega) (by omega)))]), N0, e0⟩) (by decide) (by decide)
  · refine o_icN X0 H (od dB36 2 rfl) (flt hc38).1 ?_
    refine o_ildN X0 H (od dB36 3 rfl) rfl ?_
    refine o_go X0 H (od dB36 4 rfl) (pc' := 10) (by decide) (by decide) ?_
    exact own_ret (t := .int) X0 hx hlk hret rfl (Or.inl ⟨rfl, (by simp), _, rfl⟩) (hb hby (od dB36 6 rfl)) (⟨(by rw [Nat.max_eq_left (own_nltof hc38 (by omega) (by omega))]), N0, e0⟩) (by decide) (by decide)
theorem dB38 : oL jdk_29_method_69_code [(0, .iload_n 0, 1), (1, .iload_n 1, 1), (2, .if_icmp .gt 7, 3), (5, .iload_n 0, 1), (6, .goto 4, 3), (9, .iload_n 1, 1), (10, .ireturn, 1)] := by unfold oL; decide +kernel
theorem ef_rmMa (m : MethodId) (x0 : Int32) (x1 : Int32) : entryFrame m #[(.int x0), (.int x1)] 2 = mkF m 0 #[.val (.int x0), .val (.int x1)] [] := by first | (simp [entryFrame, mkF, argsToLocals, Value.category]; done) | rfl
def QMa (Z : State) (u1 : Int32) (u2 : Int32) (h0 : Heap) (n0 : Nat) (v : Option Value) (h : Heap) (L : List Loc) : Prop := v = some (.int u1) ∧ Fr n0 L ∧ h = h0
set_option maxRecDepth 65536 in
set_option maxHeartbeats 40000000 in
theorem rmMa (l : Launch) (Z : State) (a0 : Array Value) (hw : ∀ d ∈ tables_1, d.before a0 Z = true) (ws : List Jvm.Cond) (u1 : Int32) (u2 : Int32) (h0 : Heap) (n0 : Nat) (Z0 : n0 ≤ h0.size) (hm : ¬ u2 < u1) :
    own_M l (⟨"java/lang/Math", "min", "(II)I"⟩ : MethodName) jdk_29_method_69_code 2 (some .int) ws ({ frames := 0, cells := 0, slots := 0, locals := 0 } : Room) #[(.int u1), (.int u2)] Z h0 (QMa Z u1 u2 h0 n0) := by
  refine MetFree.of_bodySF (Jvm.Free.JP.mathPlain rfl (by decide +kernel)) hisR ?_
  intro p e s m args below meth cd s₁ Bd hml hP hK
  obtain ⟨rfl, hZ, hh⟩ := hP
  obtain ⟨X0, e0, H, hlk, hown, hret⟩ := own_start (R := ({ frames := 0, cells := 0, slots := 0, locals := 0 } : Room)) Bd hh rfl
  have hx := H.1; have hby := H.2; have N0 := Fr.nil n0
  show own_Fin p e below (own_Ans s (QMa Z u1 u2 h0 n0) ({ frames := 0, cells := 0, slots := 0, locals := 0 } : Room).cells ({ frames := 0, cells := 0, slots := 0, locals := 0 } : Room).slots) (s₁.setTop (entryFrame m #[(.int u1), (.int u2)] 2))
  refine own_cast (ef_rmMa m u1 u2) ?_
  show own_Fin p e below _ (s₁.setTop (mkF m 0 #[.val (.int u1), .val (.int u2)] []))
  refine o_ildN X0 H (od dB38 0 rfl) rfl ?_
  refine o_ildN X0 H (od dB38 1 rfl) rfl ?_
  refine o_icN X0 H (od dB38 2 rfl) (flt hm).2.2.1 ?_
  refine o_ildN X0 H (od dB38 3 rfl) rfl ?_
  refine o_go X0 H (od dB38 4 rfl) (pc' := 10) (by decide) (by decide) ?_
  exact own_ret (t := .int) X0 hx hlk hret rfl (Or.inl ⟨rfl, (by simp), _, rfl⟩) (hb hby (od dB38 6 rfl)) (⟨rfl, N0, e0⟩) (by decide) (by decide)
theorem ef_rmMb (m : MethodId) (x0 : Int32) (x1 : Int32) : entryFrame m #[(.int x0), (.int x1)] 2 = mkF m 0 #[.val (.int x0), .val (.int x1)] [] := by first | (simp [entryFrame, mkF, argsToLocals, Value.category]; done) | rfl
def QMb (Z : State) (u1 : Int32) (u2 : Int32) (h0 : Heap) (n0 : Nat) (v : Option Value) (h : Heap) (L : List Loc) : Prop := v = some (.int u2) ∧ Fr n0 L ∧ h = h0
set_option maxRecDepth 65536 in
set_option maxHeartbeats 40000000 in
theorem rmMb (l : Launch) (Z : State) (a0 : Array Value) (hw : ∀ d ∈ tables_1, d.before a0 Z = true) (ws : List Jvm.Cond) (u1 : Int32) (u2 : Int32) (h0 : Heap) (n0 : Nat) (Z0 : n0 ≤ h0.size) (hm : u2 < u1) :
    own_M l (⟨"java/lang/Math", "min", "(II)I"⟩ : MethodName) jdk_29_method_69_code 2 (some .int) ws ({ frames := 0, cells := 0, slots := 0, locals := 0 } : Room) #[(.int u1), (.int u2)] Z h0 (QMb Z u1 u2 h0 n0) := by
  refine MetFree.of_bodySF (Jvm.Free.JP.mathPlain rfl (by decide +kernel)) hisR ?_
  intro p e s m args below meth cd s₁ Bd hml hP hK
  obtain ⟨rfl, hZ, hh⟩ := hP
  obtain ⟨X0, e0, H, hlk, hown, hret⟩ := own_start (R := ({ frames := 0, cells := 0, slots := 0, locals := 0 } : Room)) Bd hh rfl
  have hx := H.1; have hby := H.2; have N0 := Fr.nil n0
  show own_Fin p e below (own_Ans s (QMb Z u1 u2 h0 n0) ({ frames := 0, cells := 0, slots := 0, locals := 0 } : Room).cells ({ frames := 0, cells := 0, slots := 0, locals := 0 } : Room).slots) (s₁.setTop (entryFrame m #[(.int u1), (.int u2)] 2))
  refine own_cast (ef_rmMb m u1 u2) ?_
  show own_Fin p e below _ (s₁.setTop (mkF m 0 #[.val (.int u1), .val (.int u2)] []))
  refine o_ildN X0 H (od dB38 0 rfl) rfl ?_
  refine o_ildN X0 H (od dB38 1 rfl) rfl ?_
  refine o_icY X0 H (od dB38 2 rfl) (tlt hm).2.2.1 (pc' := 9) (by decide) (by decide) ?_
  refine o_ildN X0 H (od dB38 5 rfl) rfl ?_
  exact own_ret (t := .int) X0 hx hlk hret rfl (Or.inl ⟨rfl, (by simp), _, rfl⟩) (hb hby (od dB38 6 rfl)) (⟨rfl, N0, e0⟩) (by decide) (by decide)
theorem pn_6 : plainName "jdk/internal/util/ArraysSupport" = true := by first | (simp [plainName, overriddenIn]; done) | decide +kernel
theorem dB35 : oL jdk_48_method_27_code [(0, .iload_n 0, 1), (1, .iload_n 1, 1), (2, .iload_n 2, 1), (3, .invokestatic 194, 3), (6, .iadd, 1), (7, .istore_n 3, 1), (8, .iconst 0, 1), (9, .iload_n 3, 1), (10, .if_icmp .ge 11, 3), (13, .iload_n 3, 1), (14, .ldc 200, 2), (16, .if_icmp .gt 5, 3), (19, .iload_n 3, 1), (20, .ireturn, 1), (21, .iload_n 0, 1), (22, .iload_n 1, 1), (23, .invokestatic 201, 3), (26, .ireturn, 1)] := by unfold oL; decide +kernel
theorem pd_11 : parseMethodDescriptor "(II)I" = some ⟨[.int, .int], some .int⟩ := by decide +kernel
theorem ef_rm35 (m : MethodId) (x0 : Int32) (x1 : Int32) (x2 : Int32) : entryFrame m #[(.int x0), (.int x1), (.int x2)] 4 = mkF m 0 #[.val (.int x0), .val (.int x1), .val (.int x2), .unset] [] := by first | (simp [entryFrame, mkF, argsToLocals, Value.category]; done) | rfl
def Q35 (Z : State) (a : Nat) (g : Nat) (p2 : Nat) (h0 : Heap) (n0 : Nat) (v : Option Value) (h : Heap) (L : List Loc) : Prop := v = some (.int (Int32.ofNat (a + max g p2))) ∧ Fr n0 L ∧ h = h0
set_option maxRecDepth 65536 in
set_option maxHeartbeats 40000000 in
theorem rm35 (l : Launch) (Z : State) (a0 : Array Value) (hw : ∀ d ∈ tables_1, d.before a0 Z = true) (ws : List Jvm.Cond) (a : Nat) (g : Nat) (p2 : Nat) (h0 : Heap) (n0 : Nat) (Z0 : n0 ≤ h0.size) (ha : a < 500) (hg : g < 500) (hp : p2 < 500) (hp0 : 0 < p2) :
    own_M l (⟨"jdk/internal/util/ArraysSupport", "newLength", "(III)I"⟩ : MethodName) jdk_48_method_27_code 4 (some .int) ws ({ frames := 1, cells := 0, slots := 0, locals := 14 } : Room) #[(.int (Int32.ofNat a)), (.int (Int32.ofNat g)), (.int (Int32.ofNat p2))] Z h0 (Q35 Z a g p2 h0 n0) := by
  refine MetFree.of_bodySF (plainFor_of_name pn_6) hisR ?_
  intro p e s m args below meth cd s₁ Bd hml hP hK
  obtain ⟨rfl, hZ, hh⟩ := hP
  obtain ⟨X0, e0, H, hlk, hown, hret⟩ := own_start (R := ({ frames := 1, cells := 0, slots := 0, locals := 14 } : Room)) Bd hh rfl
  have hx := H.1; have hby := H.2; have N0 := Fr.nil n0
  show own_Fin p e below (own_Ans s (Q35 Z a g p2 h0 n0) ({ frames := 1, cells := 0, slots := 0, locals := 14 } : Room).cells ({ frames := 1, cells := 0, slots := 0, locals := 14 } : Room).slots) (s₁.setTop (entryFrame m #[(.int (Int32.ofNat a)), (.int (Int32.ofNat g)), (.int (Int32.ofNat p2))] 4))
  refine own_cast (ef_rm35 m (Int32.ofNat a) (Int32.ofNat g) (Int32.ofNat p2)) ?_
  show own_Fin p e below _ (s₁.setTop (mkF m 0 #[.val (.int (Int32.ofNat a)), .val (.int (Int32.ofNat g)), .val (.int (Int32.ofNat p2)), .unset] []))
  refine o_ildN X0 H (od dB35 0 rfl) rfl ?_
  refine o_ildN X0 H (od dB35 1 rfl) rfl ?_
  refine o_ildN X0 H (od dB35 2 rfl) rfl ?_
  refine o_tc (argsL := [(.int (Int32.ofNat g)), (.int (Int32.ofNat p2))]) (rest := [(.int (Int32.ofNat a))]) X0 H hml hZ hown (ow hw 183 rfl) (ow hw 184 rfl) (ow hw 185 rfl) (ow hw 186 rfl) (backOf (W := 1) (rm36 l Z a0 hw [] g p2 h0 n0 (by exact Z0) (by omega) (by omega)) hZ (ow hw 186 rfl) (ow hw 185 rfl) (by decide) (by decide)) (by decide) e0 pd_11 (od dB35 3 rfl) rfl rfl rfl rfl rfl (by decide) (by decide) (o_pk (fun _ _ _ q => q) N0 fun T39 Lc39 X39 N39 e39 => ?_)
  refine o_iadd X39 H (od dB35 4 rfl) ?_
  rw [own_add]
  show own_Fin p e below _ (T39.setTop (mkF m 7 #[.val (.int (Int32.ofNat a)), .val (.int (Int32.ofNat g)), .val (.int (Int32.ofNat p2)), .unset] [(.int (Int32.ofNat (a + max g p2)))]))
  refine o_istN X39 H (od dB35 5 rfl) (L' := #[.val (.int (Int32.ofNat a)), .val (.int (Int32.ofNat g)), .val (.int (Int32.ofNat p2)), .val (.int (Int32.ofNat (a + max g p2)))]) rfl ?_
  refine o_ic X39 H (od dB35 6 rfl) (v := 0) rfl ?_
  refine o_ildN X39 H (od dB35 7 rfl) rfl ?_
  refine o_icN X39 H (od dB35 8 rfl) (tlt (own_olt (a := 0) (by omega) (by omega))).2.1 ?_
  refine o_ildN X39 H (od dB35 9 rfl) rfl ?_
  refine own_on (fun tq => X39.ldcInt hx hown (mvT hZ (ow hw 187 rfl)) (g := (mkF m 14 #[.val (.int (Int32.ofNat a)), .val (.int (Int32.ofNat g)), .val (.int (Int32.ofNat p2)), .val (.int (Int32.ofNat (a + max g p2)))] [(.int (Int32.ofNat (a + max g p2)))])) rfl (hb hby (od dB35 10 rfl)) tq) ?_
  show own_Fin p e below _ (T39.setTop (mkF m 16 #[.val (.int (Int32.ofNat a)), .val (.int (Int32.ofNat g)), .val (.int (Int32.ofNat p2)), .val (.int (Int32.ofNat (a + max g p2)))] [(.int (2147483639 : Int32)), (.int (Int32.ofNat (a + max g p2)))]))
  refine o_icN X39 H (od dB35 11 rfl) (flt (own_onlt (a := 2147483639) (by omega) (by decide))).2.2.1 ?_
  refine o_ildN X39 H (od dB35 12 rfl) rfl ?_
  exact own_ret (t := .int) X39 hx hlk hret rfl (Or.inl ⟨rfl, (by simp), _, rfl⟩) (hb hby (od dB35 13 rfl)) (⟨rfl, N39, e39⟩) (by decide) (by decide)
theorem dB34 : oL jdk_68_method_10_code [(0, .aload_n 0, 1), (1, .getfield 15, 3), (4, .arraylength, 1), (5, .istore_n 2, 1), (6, .iload_n 1, 1), (7, .aload_n 0, 1), (8, .getfield 22, 3), (11, .ishl, 1), (12, .istore_n 3, 1), (13, .iload_n 3, 1), (14, .iload_n 2, 1), (15, .isub, 1), (16, .istore 4, 2), (18, .iload_n 2, 1), (19, .iload 4, 2), (21, .iload_n 2, 1), (22, .iconst 2, 1), (23, .aload_n 0, 1), (24, .getfield 22, 3), (27, .ishl, 1), (28, .iadd, 1), (29, .invokestatic 114, 3), (32, .istore 5, 2), (34, .iload 5, 2), (36, .ldc 39, 2), (38, .if_icmp .ne 13, 3), (41, .new 120, 3), (44, .dup, 1), (45, .ldc 122, 2), (47, .invokespecial 124, 3), (50, .athrow, 1), (51, .iload 5, 2), (53, .aload_n 0, 1), (54, .getfield 22, 3), (57, .ishr, 1), (58, .ireturn, 1)] := by unfold oL; decide +kernel
theorem ef_rmNc0 (m : MethodId) (x0 : Addr) (x1 : Int32) : entryFrame m #[(.ref x0), (.int x1)] 6 = mkF m 0 #[.val (.ref x0), .val (.int x1), .unset, .unset, .unset, .unset] [] := by first | (simp [entryFrame, mkF, argsToLocals, Value.category]; done) | rfl
def QNc0 (Z : State) (b : Addr) (tb : Addr) (kt : ClassId) (vs : List Value) (c : Nat) (q : Nat) (h0 : Heap) (n0 : Nat) (v : Option Value) (h : Heap) (L : List Loc) : Prop := v = some (.int (Int32.ofNat (c + max (q - c) (c + 2)))) ∧ Fr n0 L ∧ h = h0
set_option maxRecDepth 65536 in
set_option maxHeartbeats 40000000 in
theorem rmNc0 (l : Launch) (Z : State) (a0 : Array Value) (hw : ∀ d ∈ tables_1, d.before a0 Z = true) (ws : List Jvm.Cond) (b : Addr) (tb : Addr) (kt : ClassId) (vs : List Value) (c : Nat) (q : Nat) (h0 : Heap) (n0 : Nat) (Z0 : n0 ≤ h0.size) (Fv : Fld Z h0 b "java/lang/AbstractStringBuilder" "value" "[B" (.ref tb)) (Fk : Fld Z h0 b "java/lang/AbstractStringBuilder" "coder" "B" (.int (0 : Int32))) (At : Arv Z h0 tb kt .byte (Int32.ofNat c) vs (.int 0)) (hc : c ≤ 36) (hcq : c < q) (hq : q ≤ 36) :
    own_M l (⟨"java/lang/AbstractStringBuilder", "newCapacity", "(I)I"⟩ : MethodName) jdk_68_method_10_code 6 (some .int) ws ({ frames := 2, cells := 0, slots := 0, locals := 29 } : Room) #[(.ref b), (.int (Int32.ofNat q))] Z h0 (QNc0 Z b tb kt vs c q h0 n0) := by
  refine MetFree.of_bodySF (plainFor_of_name pn_4) hisR ?_
  intro p e s m args below meth cd s₁ Bd hml hP hK
  obtain ⟨rfl, hZ, hh⟩ := hP
  obtain ⟨X0, e0, H, hlk, hown, hret⟩ := own_start (R := ({ frames := 2, cells := 0, slots := 0, locals := 29 } : Room)) Bd hh rfl
  have hx := H.1; have hby := H.2; have N0 := Fr.nil n0
  show own_Fin p e below (own_Ans s (QNc0 Z b tb kt vs c q h0 n0) ({ frames := 2, cells := 0, slots := 0, locals := 29 } : Room).cells ({ frames := 2, cells := 0, slots := 0, locals := 29 } : Room).slots) (s₁.setTop (entryFrame m #[(.ref b), (.int (Int32.ofNat q))] 6))
  refine own_cast (ef_rmNc0 m b (Int32.ofNat q)) ?_
  show own_Fin p e below _ (s₁.setTop (mkF m 0 #[.val (.ref b), .val (.int (Int32.ofNat q)), .unset, .unset, .unset, .unset] []))
  refine o_aldN X0 H (od dB34 0 rfl) rfl rfl ?_
  refine o_gf X0 H hZ hown (ow hw 56 rfl) Via.refl e0 Fv (od dB34 1 rfl) fun T40 X40 e40 => ?_
  have cp41 := At
  obtain ⟨cl41, Ar41, q41, S41, G41, H41, F41⟩ := cp41
  refine own_on (fun tq => X40.arraylength hx (by rw [e40]; exact Ar41.1) (State.isArrayOf_alike hZ.alike Ar41.2.1) (g := (mkF m 4 #[.val (.ref b), .val (.int (Int32.ofNat q)), .unset, .unset, .unset, .unset] [(.ref tb)])) rfl rfl (hb hby (od dB34 2 rfl)) tq) ?_
  rw [len_of S41 G41]
  show own_Fin p e below _ (T40.setTop (mkF m 5 #[.val (.ref b), .val (.int (Int32.ofNat q)), .unset, .unset, .unset, .unset] [(.int (Int32.ofNat c))]))
  refine o_istN X40 H (od dB34 3 rfl) (L' := #[.val (.ref b), .val (.int (Int32.ofNat q)), .val (.int (Int32.ofNat c)), .unset, .unset, .unset]) rfl ?_
  refine o_ildN X40 H (od dB34 4 rfl) rfl ?_
  refine o_aldN X40 H (od dB34 5 rfl) rfl rfl ?_
  refine o_gf X40 H hZ hown (ow hw 58 rfl) Via.refl e40 Fk (od dB34 6 rfl) fun T42 X42 e42 => ?_
  refine own_on (fun tq => XS.ishl X42.here hx rfl (hb hby (od dB34 7 rfl)) rfl) ?_
  show own_Fin p e below _ (T42.setTop (mkF m 12 #[.val (.ref b), .val (.int (Int32.ofNat q)), .val (.int (Int32.ofNat c)), .unset, .unset, .unset] [(.int ((Int32.ofNat q) <<< ((0 : Int32) &&& 31)))]))
  rw [own_shl0]
  show own_Fin p e below _ (T42.setTop (mkF m 12 #[.val (.ref b), .val (.int (Int32.ofNat q)), .val (.int (Int32.ofNat c)), .unset, .unset, .unset] [(.int (Int32.ofNat q))]))
  refine o_istN X42 H (od dB34 8 rfl) (L' := #[.val (.ref b), .val (.int (Int32.ofNat q)), .val (.int (Int32.ofNat c)), .val (.int (Int32.ofNat q)), .unset, .unset]) rfl ?_
  refine o_ildN X42 H (od dB34 9 rfl) rfl ?_
  refine o_ildN X42 H (od dB34 10 rfl) rfl ?_
  refine o_isub X42 H (od dB34 11 rfl) ?_
  rw [own_subn (by omega) (by omega)]
  show own_Fin p e below _ (T42.setTop (mkF m 16 #[.val (.ref b), .val (.int (Int32.ofNat q)), .val (.int (Int32.ofNat c)), .val (.int (Int32.ofNat q)), .unset, .unset] [(.int (Int32.ofNat (q - c)))]))
  refine o_ist X42 H (od dB34 12 rfl) (L' := #[.val (.ref b), .val (.int (Int32.ofNat q)), .val (.int (Int32.ofNat c)), .val (.int (Int32.ofNat q)), .val (.int (Int32.ofNat (q - c))), .unset]) rfl ?_
  refine o_ildN X42 H (od dB34 13 rfl) rfl ?_
  refine o_ild X42 H (od dB34 14 rfl) rfl ?_
  refine o_ildN X42 H (od dB34 15 rfl) rfl ?_
  refine o_ic X42 H (od dB34 16 rfl) (v := 2) rfl ?_
  refine o_aldN X42 H (od dB34 17 rfl) rfl rfl ?_
  refine o_gf X42 H hZ hown (ow hw 58 rfl) Via.refl e42 Fk (od dB34 18 rfl) fun T43 X43 e43 => ?_
  refine own_on (fun tq => XS.ishl X43.here hx rfl (hb hby (od dB34 19 rfl)) rfl) ?_
  show own_Fin p e below _ (T43.setTop (mkF m 28 #[.val (.ref b), .val (.int (Int32.ofNat q)), .val (.int (Int32.ofNat c)), .val (.int (Int32.ofNat q)), .val (.int (Int32.ofNat (q - c))), .unset] [(.int (2 : Int32)), (.int (Int32.ofNat c)), (.int (Int32.ofNat (q - c))), (.int (Int32.ofNat c))]))
  refine o_iadd X43 H (od dB34 20 rfl) ?_
  rw [show Int32.ofNat c + (2 : Int32) = Int32.ofNat (c + 2) from own_add _ 2]
  show own_Fin p e below _ (T43.setTop (mkF m 29 #[.val (.ref b), .val (.int (Int32.ofNat q)), .val (.int (Int32.ofNat c)), .val (.int (Int32.ofNat q)), .val (.int (Int32.ofNat (q - c))), .unset] [(.int (Int32.ofNat (c + 2))), (.int (Int32.ofNat (q - c))), (.int (Int32.ofNat c))]))
  refine o_tc (argsL := [(.int (Int32.ofNat c)), (.int (Int32.ofNat (q - c))), (.int (Int32.ofNat (c + 2)))]) (rest := []) X43 H hml hZ hown (ow hw 179 rfl) (ow hw 180 rfl) (ow hw 181 rfl) (ow hw 182 rfl) (backOf (W := 0) (rm35 l Z a0 hw [] c (q - c) (c + 2) h0 n0 (by exact Z0) (by omega) (by omega) (by omega) (by omega)) hZ (ow hw 182 rfl) (ow hw 181 rfl) (by decide) (by decide)) (by decide) e43 pd_4 (od dB34 21 rfl) rfl rfl rfl rfl rfl (by decide) (by decide) (o_pk (fun _ _ _ q => q) N0 fun T44 Lc44 X44 N44 e44 => ?_)
  refine o_ist X44 H (od dB34 22 rfl) (L' := #[.val (.ref b), .val (.int (Int32.ofNat q)), .val (.int (Int32.ofNat c)), .val (.int (Int32.ofNat q)), .val (.int (Int32.ofNat (q - c))), .val (.int (Int32.ofNat (c + max (q - c) (c + 2))))]) rfl ?_
  refine o_ild X44 H (od dB34 23 rfl) rfl ?_
  refine own_on (fun tq => X44.ldcInt hx hown (mvT hZ (ow hw 188 rfl)) (g := (mkF m 36 #[.val (.ref b), .val (.int (Int32.ofNat q)), .val (.int (Int32.ofNat c)), .val (.int (Int32.ofNat q)), .val (.int (Int32.ofNat (q - c))), .val (.int (Int32.ofNat (c + max (q - c) (c + 2))))] [(.int (Int32.ofNat (c + max (q - c) (c + 2))))])) rfl (hb hby (od dB34 24 rfl)) tq) ?_
  show own_Fin p e below _ (T44.setTop (mkF m 38 #[.val (.ref b), .val (.int (Int32.ofNat q)), .val (.int (Int32.ofNat c)), .val (.int (Int32.ofNat q)), .val (.int (Int32.ofNat (q - c))), .val (.int (Int32.ofNat (c + max (q - c) (c + 2))))] [(.int (2147483647 : Int32)), (.int (Int32.ofNat (c + max (q - c) (c + 2))))]))
  refine o_icY X44 H (od dB34 25 rfl) (feq (own_one (b := 2147483647) (by omega) (by omega) (by decide))).2 (pc' := 51) (by decide) (by decide) ?_
  refine o_ild X44 H (od dB34 31 rfl) rfl ?_
  refine o_aldN X44 H (od dB34 32 rfl) rfl rfl ?_
  refine o_gf X44 H hZ hown (ow hw 58 rfl) Via.refl e44 Fk (od dB34 33 rfl) fun T45 X45 e45 => ?_
  refine own_on (fun tq => XS.ishr X45.here hx rfl (hb hby (od dB34 34 rfl)) rfl) ?_
  show own_Fin p e below _ (T45.setTop (mkF m 58 #[.val (.ref b), .val (.int (Int32.ofNat q)), .val (.int (Int32.ofNat c)), .val (.int (Int32.ofNat q)), .val (.int (Int32.ofNat (q - c))), .val (.int (Int32.ofNat (c + max (q - c) (c + 2))))] [(.int ((Int32.ofNat (c + max (q - c) (c + 2))) >>> ((0 : Int32) &&& 31)))]))
  rw [own_shr0]
  show own_Fin p e below _ (T45.setTop (mkF m 58 #[.val (.ref b), .val (.int (Int32.ofNat q)), .val (.int (Int32.ofNat c)), .val (.int (Int32.ofNat q)), .val (.int (Int32.ofNat (q - c))), .val (.int (Int32.ofNat (c + max (q - c) (c + 2))))] [(.int (Int32.ofNat (c + max (q - c) (c + 2))))]))
  exact own_ret (t := .int) X45 hx hlk hret rfl (Or.inl ⟨rfl, (by simp), _, rfl⟩) (hb hby (od dB34 35 rfl)) (⟨rfl, N44, e45⟩) (by decide) (by decide)
theorem ef_rmNc1 (m : MethodId) (x0 : Addr) (x1 : Int32) : entryFrame m #[(.ref x0), (.int x1)] 6 = mkF m 0 #[.val (.ref x0), .val (.int x1), .unset, .unset, .unset, .unset] [] := by first | (simp [entryFrame, mkF, argsToLocals, Value.category]; done) | rfl
def QNc1 (Z : State) (b : Addr) (tb : Addr) (kt : ClassId) (vs : List Value) (c : Nat) (q : Nat) (h0 : Heap) (n0 : Nat) (v : Option Value) (h : Heap) (L : List Loc) : Prop := v = some (.int (Int32.ofNat (c + max (q - c) (c + 2)))) ∧ Fr n0 L ∧ h = h0
set_option maxRecDepth 65536 in
set_option maxHeartbeats 40000000 in
theorem rmNc1 (l : Launch) (Z : State) (a0 : Array Value) (hw : ∀ d ∈ tables_1, d.before a0 Z = true) (ws : List Jvm.Cond) (b : Addr) (tb : Addr) (kt : ClassId) (vs : List Value) (c : Nat) (q : Nat) (h0 : Heap) (n0 : Nat) (Z0 : n0 ≤ h0.size) (Fv : Fld Z h0 b "java/lang/AbstractStringBuilder" "value" "[B" (.ref tb)) (Fk : Fld Z h0 b "java/lang/AbstractStringBuilder" "coder" "B" (.int (1 : Int32))) (At : Arv Z h0 tb kt .byte (Int32.ofNat (2 * c)) vs (.int 0)) (hc : c ≤ 36) (hcq : c < q) (hq : q ≤ 36) :
    own_M l (⟨"java/lang/AbstractStringBuilder", "newCapacity", "(I)I"⟩ : MethodName) jdk_68_method_10_code 6 (some .int) ws ({ frames := 2, cells := 0, slots := 0, locals := 29 } : Room) #[(.ref b), (.int (Int32.ofNat q))] Z h0 (QNc1 Z b tb kt vs c q h0 n0) := by
  refine MetFree.of_bodySF (plainFor_of_name pn_4) hisR ?_
  intro p e s m args below meth cd s₁ Bd hml hP hK
  obtain ⟨rfl, hZ, hh⟩ := hP
  obtain ⟨X0, e0, H, hlk, hown, hret⟩ := own_start (R := ({ frames := 2, cells := 0, slots := 0, locals := 29 } : Room)) Bd hh rfl
  have hx := H.1; have hby := H.2; have N0 := Fr.nil n0
  show own_Fin p e below (own_Ans s (QNc1 Z b tb kt vs c q h0 n0) ({ frames := 2, cells := 0, slots := 0, locals := 29 } : Room).cells ({ frames := 2, cells := 0, slots := 0, locals := 29 } : Room).slots) (s₁.setTop (entryFrame m #[(.ref b), (.int (Int32.ofNat q))] 6))
  refine own_cast (ef_rmNc1 m b (Int32.ofNat q)) ?_
  show own_Fin p e below _ (s₁.setTop (mkF m 0 #[.val (.ref b), .val (.int (Int32.ofNat q)), .unset, .unset, .unset, .unset] []))
  refine o_aldN X0 H (od dB34 0 rfl) rfl rfl ?_
  refine o_gf X0 H hZ hown (ow hw 56 rfl) Via.refl e0 Fv (od dB34 1 rfl) fun T46 X46 e46 => ?_
  have cp47 := At
  obtain ⟨cl47, Ar47, q47, S47, G47, H47, F47⟩ := cp47
  refine own_on (fun tq => X46.arraylength hx (by rw [e46]; exact Ar47.1) (State.isArrayOf_alike hZ.alike Ar47.2.1) (g := (mkF m 4 #[.val (.ref b), .val (.int (Int32.ofNat q)), .unset, .unset, .unset, .unset] [(.ref tb)])) rfl rfl (hb hby (od dB34 2 rfl)) tq) ?_
  rw [len_of S47 G47]
  show own_Fin p e below _ (T46.setTop (mkF m 5 #[.val (.ref b), .val (.int (Int32.ofNat q)), .unset, .unset, .unset, .unset] [(.int (Int32.ofNat (2 * c)))]))
  refine o_istN X46 H (od dB34 3 rfl) (L' := #[.val (.ref b), .val (.int (Int32.ofNat q)), .val (.int (Int32.ofNat (2 * c))), .unset, .unset, .unset]) rfl ?_
  refine o_ildN X46 H (od dB34 4 rfl) rfl ?_
  refine o_aldN X46 H (od dB34 5 rfl) rfl rfl ?_
  refine o_gf X46 H hZ hown (ow hw 58 rfl) Via.refl e46 Fk (od dB34 6 rfl) fun T48 X48 e48 => ?_
  refine own_on (fun tq => XS.ishl X48.here hx rfl (hb hby (od dB34 7 rfl)) rfl) ?_
  show own_Fin p e below _ (T48.setTop (mkF m 12 #[.val (.ref b), .val (.int (Int32.ofNat q)), .val (.int (Int32.ofNat (2 * c))), .unset, .unset, .unset] [(.int ((Int32.ofNat q) <<< ((1 : Int32) &&& 31)))]))
  rw [own_shl1 (by omega)]
  show own_Fin p e below _ (T48.setTop (mkF m 12 #[.val (.ref b), .val (.int (Int32.ofNat q)), .val (.int (Int32.ofNat (2 * c))), .unset, .unset, .unset] [(.int (Int32.ofNat (2 * q)))]))
  refine o_istN X48 H (od dB34 8 rfl) (L' := #[.val (.ref b), .val (.int (Int32.ofNat q)), .val (.int (Int32.ofNat (2 * c))), .val (.int (Int32.ofNat (2 * q))), .unset, .unset]) rfl ?_
  refine o_ildN X48 H (od dB34 9 rfl) rfl ?_
  refine o_ildN X48 H (od dB34 10 rfl) rfl ?_
  refine o_isub X48 H (od dB34 11 rfl) ?_
  rw [own_subn (by omega) (by omega)]
  show own_Fin p e below _ (T48.setTop (mkF m 16 #[.val (.ref b), .val (.int (Int32.ofNat q)), .val (.int (Int32.ofNat (2 * c))), .val (.int (Int32.ofNat (2 * q))), .unset, .unset] [(.int (Int32.ofNat ((2 * q) - (2 * c))))]))
  refine o_ist X48 H (od dB34 12 rfl) (L' := #[.val (.ref b), .val (.int (Int32.ofNat q)), .val (.int (Int32.ofNat (2 * c))), .val (.int (Int32.ofNat (2 * q))), .val (.int (Int32.ofNat ((2 * q) - (2 * c)))), .unset]) rfl ?_
  refine o_ildN X48 H (od dB34 13 rfl) rfl ?_
  refine o_ild X48 H (od dB34 14 rfl) rfl ?_
  refine o_ildN X48 H (od dB34 15 rfl) rfl ?_
  refine o_ic X48 H (od dB34 16 rfl) (v := 2) rfl ?_
  refine o_aldN X48 H (od dB34 17 rfl) rfl rfl ?_
  refine o_gf X48 H hZ hown (ow hw 58 rfl) Via.refl e48 Fk (od dB34 18 rfl) fun T49 X49 e49 => ?_
  refine own_on (fun tq => XS.ishl X49.here hx rfl (hb hby (od dB34 19 rfl)) rfl) ?_
  show own_Fin p e below _ (T49.setTop (mkF m 28 #[.val (.ref b), .val (.int (Int32.ofNat q)), .val (.int (Int32.ofNat (2 * c))), .val (.int (Int32.ofNat (2 * q))), .val (.int (Int32.ofNat ((2 * q) - (2 * c)))), .unset] [(.int (4 : Int32)), (.int (Int32.ofNat (2 * c))), (.int (Int32.ofNat ((2 * q) - (2 * c)))), (.int (Int32.ofNat (2 * c)))]))
  refine o_iadd X49 H (od dB34 20 rfl) ?_
  rw [show Int32.ofNat (2 * c) + (4 : Int32) = Int32.ofNat (2 * c + 4) from own_add _ 4]
  show own_Fin p e below _ (T49.setTop (mkF m 29 #[.val (.ref b), .val (.int (Int32.ofNat q)), .val (.int (Int32.ofNat (2 * c))), .val (.int (Int32.ofNat (2 * q))), .val (.int (Int32.ofNat ((2 * q) - (2 * c)))), .unset] [(.int (Int32.ofNat ((2 * c) + 4))), (.int (Int32.ofNat ((2 * q) - (2 * c)))), (.int (Int32.ofNat (2 * c)))]))
  refine o_tc (argsL := [(.int (Int32.ofNat (2 * c))), (.int (Int32.ofNat ((2 * q) - (2 * c)))), (.int (Int32.ofNat ((2 * c) + 4)))]) (rest := []) X49 H hml hZ hown (ow hw 179 rfl) (ow hw 180 rfl) (ow hw 181 rfl) (ow hw 182 rfl) (backOf (W := 0) (rm35 l Z a0 hw [] (2 * c) ((2 * q) - (2 * c)) ((2 * c) + 4) h0 n0 (by exact Z0) (by omega) (by omega) (by omega) (by omega)) hZ (ow hw 182 rfl) (ow hw 181 rfl) (by decide) (by decide)) (by decide) e49 pd_4 (od dB34 21 rfl) rfl rfl rfl rfl rfl (by decide) (by decide) (o_pk (fun _ _ _ q => q) N0 fun T50 Lc50 X50 N50 e50 => ?_)
  refine o_ist X50 H (od dB34 22 rfl) (L' := #[.val (.ref b), .val (.int (Int32.ofNat q)), .val (.int (Int32.ofNat (2 * c))), .val (.int (Int32.ofNat (2 * q))), .val (.int (Int32.ofNat ((2 * q) - (2 * c)))), .val (.int (Int32.ofNat ((2 * c) + max ((2 * q) - (2 * c)) ((2 * c) + 4))))]) rfl ?_
  refine o_ild X50 H (od dB34 23 rfl) rfl ?_
  refine own_on (fun tq => X50.ldcInt hx hown (mvT hZ (ow hw 188 rfl)) (g := (mkF m 36 #[.val (.ref b), .val (.int (Int32.ofNat q)), .val (.int (Int32.ofNat (2 * c))), .val (.int (Int32.ofNat (2 * q))), .val (.int (Int32.ofNat ((2 * q) - (2 * c)))), .val (.int (Int32.ofNat ((2 * c) + max ((2 * q) - (2 * c)) ((2 * c) + 4))))] [(.int (Int32.ofNat ((2 * c) + max ((2 * q) - (2 * c)) ((2 * c) + 4))))])) rfl (hb hby (od dB34 24 rfl)) tq) ?_
  show own_Fin p e below _ (T50.setTop (mkF m 38 #[.val (.ref b), .val (.int (Int32.ofNat q)), .val (.int (Int32.ofNat (2 * c))), .val (.int (Int32.ofNat (2 * q))), .val (.int (Int32.ofNat ((2 * q) - (2 * c)))), .val (.int (Int32.ofNat ((2 * c) + max ((2 * q) - (2 * c)) ((2 * c) + 4))))] [(.int (2147483647 : Int32)), (.int (Int32.ofNat ((2 * c) + max ((2 * q) - (2 * c)) ((2 * c) + 4))))]))
  refine o_icY X50 H (od dB34 25 rfl) (feq (own_one (b := 2147483647) (by omega) (by omega) (by decide))).2 (pc' := 51) (by decide) (by decide) ?_
  refine o_ild X50 H (od dB34 31 rfl) rfl ?_
  refine o_aldN X50 H (od dB34 32 rfl) rfl rfl ?_
  refine o_gf X50 H hZ hown (ow hw 58 rfl) Via.refl e50 Fk (od dB34 33 rfl) fun T51 X51 e51 => ?_
  refine own_on (fun tq => XS.ishr X51.here hx rfl (hb hby (od dB34 34 rfl)) rfl) ?_
  show own_Fin p e below _ (T51.setTop (mkF m 58 #[.val (.ref b), .val (.int (Int32.ofNat q)), .val (.int (Int32.ofNat (2 * c))), .val (.int (Int32.ofNat (2 * q))), .val (.int (Int32.ofNat ((2 * q) - (2 * c)))), .val (.int (Int32.ofNat ((2 * c) + max ((2 * q) - (2 * c)) ((2 * c) + 4))))] [(.int ((Int32.ofNat ((2 * c) + max ((2 * q) - (2 * c)) ((2 * c) + 4))) >>> ((1 : Int32) &&& 31)))]))
  rw [show ((2 * c) + max ((2 * q) - (2 * c)) ((2 * c) + 4)) = 2 * (c + max (q - c) (c + 2)) by omega, StrChars.shr1 (by omega)]
  show own_Fin p e below _ (T51.setTop (mkF m 58 #[.val (.ref b), .val (.int (Int32.ofNat q)), .val (.int (Int32.ofNat (2 * c))), .val (.int (Int32.ofNat (2 * q))), .val (.int (Int32.ofNat ((2 * q) - (2 * c)))), .val (.int (Int32.ofNat (2 * (c + max (q - c) (c + 2)))))] [(.int (Int32.ofNat (c + max (q - c) (c + 2))))]))
  exact own_ret (t := .int) X51 hx hlk hret rfl (Or.inl ⟨rfl, (by simp), _, rfl⟩) (hb hby (od dB34 35 rfl)) (⟨rfl, N50, e51⟩) (by decide) (by decide)
theorem pn_7 : plainName "java/util/Arrays" = true := by first | (simp [plainName, overriddenIn]; done) | decide +kernel
theorem dB37 : oL jdk_65_method_121_code [(0, .iload_n 1, 1), (1, .aload_n 0, 1), (2, .arraylength, 1), (3, .if_icmp .ne 11, 3), (6, .aload_n 0, 1), (7, .invokevirtual 310, 3), (10, .checkcast 311, 3), (13, .areturn, 1), (14, .iload_n 1, 1), (15, .newarray .byte, 2), (17, .astore_n 2, 1), (18, .aload_n 0, 1), (19, .iconst 0, 1), (20, .aload_n 2, 1), (21, .iconst 0, 1), (22, .aload_n 0, 1), (23, .arraylength, 1), (24, .iload_n 1, 1), (25, .invokestatic 304, 3), (28, .invokestatic 150, 3), (31, .aload_n 2, 1), (32, .areturn, 1)] := by unfold oL; decide +kernel
theorem ef_rm37 (m : MethodId) (x0 : Addr) (x1 : Int32) : entryFrame m #[(.ref x0), (.int x1)] 3 = mkF m 0 #[.val (.ref x0), .val (.int x1), .unset] [] := by first | (simp [entryFrame, mkF, argsToLocals, Value.category]; done) | rfl
def Q37 (Z : State) (tb : Addr) (kt : ClassId) (c1 : Nat) (c2 : Nat) (vs : List Value) (h0 : Heap) (n0 : Nat) (v : Option Value) (h : Heap) (L : List Loc) : Prop := ∃ (x : Addr) (kx : ClassId), v = some (.ref x) ∧ Fr n0 L ∧ Keep h0 h [] ∧ n0 ≤ x ∧ h0.size ≤ x ∧ Exa Z h x "[B" ∧ Arv Z h x kx .byte (Int32.ofNat c2) vs (.int 0)
set_option maxRecDepth 65536 in
set_option maxHeartbeats 40000000 in
theorem rm37 (l : Launch) (Z : State) (a0 : Array Value) (hw : ∀ d ∈ tables_1, d.before a0 Z = true) (ws : List Jvm.Cond) (tb : Addr) (kt : ClassId) (c1 : Nat) (c2 : Nat) (vs : List Value) (h0 : Heap) (n0 : Nat) (Z0 : n0 ≤ h0.size) (At : Arv Z h0 tb kt .byte (Int32.ofNat c1) vs (.int 0)) (hv : vs.length ≤ c1) (h12 : c1 < c2) (hc2 : c2 ≤ 72) :
    own_M l (⟨"java/util/Arrays", "copyOf", "([BI)[B"⟩ : MethodName) jdk_65_method_121_code 3 (some (.array .byte)) ws ({ frames := 1, cells := 1, slots := 72, locals := 18 } : Room) #[(.ref tb), (.int (Int32.ofNat c2))] Z h0 (Q37 Z tb kt c1 c2 vs h0 n0) := by
  refine MetFree.of_bodySF (plainFor_of_name pn_7) hisR ?_
  intro p e s m args below meth cd s₁ Bd hml hP hK
  obtain ⟨rfl, hZ, hh⟩ := hP
  obtain ⟨X0, e0, H, hlk, hown, hret⟩ := own_start (R := ({ frames := 1, cells := 1, slots := 72, locals := 18 } : Room)) Bd hh rfl
  have hx := H.1; have hby := H.2; have N0 := Fr.nil n0
  show own_Fin p e below (own_Ans s (Q37 Z tb kt c1 c2 vs h0 n0) ({ frames := 1, cells := 1, slots := 72, locals := 18 } : Room).cells ({ frames := 1, cells := 1, slots := 72, locals := 18 } : Room).slots) (s₁.setTop (entryFrame m #[(.ref tb), (.int (Int32.ofNat c2))] 3))
  refine own_cast (ef_rm37 m tb (Int32.ofNat c2)) ?_
  show own_Fin p e below _ (s₁.setTop (mkF m 0 #[.val (.ref tb), .val (.int (Int32.ofNat c2)), .unset] []))
  refine o_ildN X0 H (od dB37 0 rfl) rfl ?_
  refine o_aldN X0 H (od dB37 1 rfl) rfl rfl ?_
  have cp52 := At
  obtain ⟨cl52, Ar52, q52, S52, G52, H52, F52⟩ := cp52
  refine own_on (fun tq => X0.arraylength hx (by rw [e0]; exact Ar52.1) (State.isArrayOf_alike hZ.alike Ar52.2.1) (g := (mkF m 2 #[.val (.ref tb), .val (.int (Int32.ofNat c2)), .unset] [(.ref tb), (.int (Int32.ofNat c2))])) rfl rfl (hb hby (od dB37 2 rfl)) tq) ?_
  rw [len_of S52 G52]
  show own_Fin p e below _ (s₁.setTop (mkF m 3 #[.val (.ref tb), .val (.int (Int32.ofNat c2)), .unset] [(.int (Int32.ofNat c1)), (.int (Int32.ofNat c2))]))
  refine o_icY X0 H (od dB37 3 rfl) (feq (own_one (by omega) (by omega) (by omega))).2 (pc' := 14) (by decide) (by decide) ?_
  refine o_ildN X0 H (od dB37 8 rfl) rfl ?_
  obtain ⟨T53, h53, k53, X53, e53, E53, A53, D53, st53⟩ := newPE X0 hx hZ (ow hw 20 rfl) e0 (g := (mkF m 15 #[.val (.ref tb), .val (.int (Int32.ofNat c2)), .unset] [(.int (Int32.ofNat c2))])) rfl (hb hby (od dB37 9 rfl)) rfl (own_nneg (by omega)) (cap := 72) (by rw [own_clampN (by omega)]; omega) (by decide) (by decide) (by decide) (ad := "[B") (by decide)
  obtain ⟨b53, g53⟩ : ∃ z, z = h0.size := ⟨_, rfl⟩
  rw [← g53] at A53 D53 st53
  have ne53_tb : tb ≠ b53 := own_ne_of (Z := Z) At.lt g53
  have gn53 : n0 ≤ b53 := Nat.le_trans Z0 (Nat.le_of_eq g53.symm)
  have gk53 : h0.size ≤ b53 := Nat.le_trans (Keep.refl h0 []).1 (Nat.le_of_eq g53.symm)
  have V53 : Arv Z h53 b53 k53 .byte (Int32.ofNat c2) [] (.int (0 : Int32)) := Arv.new A53 (own_nneg (by omega))
  refine own_on st53 ?_
  show own_Fin p e below _ (T53.setTop (mkF m 17 #[.val (.ref tb), .val (.int (Int32.ofNat c2)), .unset] [(.ref b53)]))
  refine o_astN X53 H (od dB37 10 rfl) (L' := #[.val (.ref tb), .val (.int (Int32.ofNat c2)), .val (.ref b53)]) rfl rfl ?_
  refine o_aldN X53 H (od dB37 11 rfl) rfl rfl ?_
  refine o_ic X53 H (od dB37 12 rfl) (v := 0) rfl ?_
  refine o_aldN X53 H (od dB37 13 rfl) rfl rfl ?_
  refine o_ic X53 H (od dB37 14 rfl) (v := 0) rfl ?_
  refine o_aldN X53 H (od dB37 15 rfl) rfl rfl ?_
  have cp54 := (At.ext E53)
  obtain ⟨cl54, Ar54, q54, S54, G54, H54, F54⟩ := cp54
  refine own_on (fun tq => X53.arraylength hx (by rw [e53]; exact Ar54.1) (State.isArrayOf_alike hZ.alike Ar54.2.1) (g := (mkF m 23 #[.val (.ref tb), .val (.int (Int32.ofNat c2)), .val (.ref b53)] [(.ref tb), (.int (0 : Int32)), (.ref b53), (.int (0 : Int32)), (.ref tb)])) rfl rfl (hb hby (od dB37 16 rfl)) tq) ?_
  rw [len_of S54 G54]
  show own_Fin p e below _ (T53.setTop (mkF m 24 #[.val (.ref tb), .val (.int (Int32.ofNat c2)), .val (.ref b53)] [(.int (Int32.ofNat c1)), (.int (0 : Int32)), (.ref b53), (.int (0 : Int32)), (.ref tb)]))
  refine o_ildN X53 H (od dB37 17 rfl) rfl ?_
  refine o_tc (argsL := [(.int (Int32.ofNat c1)), (.int (Int32.ofNat c2))]) (rest := [(.int (0 : Int32)), (.ref b53), (.int (0 : Int32)), (.ref tb)]) X53 H hml hZ hown (ow hw 192 rfl) (ow hw 193 rfl) (ow hw 185 rfl) (ow hw 194 rfl) (backOf (W := 4) (rmMa l Z a0 hw [] (Int32.ofNat c1) (Int32.ofNat c2) h53 n0 (by exact (Nat.le_trans Z0 E53.1)) (own_onlt (by omega) (by omega))) hZ (ow hw 194 rfl) (ow hw 185 rfl) (by decide) (by decide)) (by decide) e53 pd_11 (od dB37 18 rfl) rfl rfl rfl rfl rfl (by decide) (by decide) (o_pk (fun _ _ _ q => q) N0 fun T55 Lc55 X55 N55 e55 => ?_)
  obtain ⟨T56, h56, L56, X56, e56, N56, K56, A56, st56⟩ := own_cpNew X55 hx hZ hown (ow hw 195 rfl) (ow hw 198 rfl) (ow hw 196 rfl) (ow hw 197 rfl) e55 (At.ext E53) V53 (q := c1) (c1 := c1) (c2 := c2) hv (Nat.le_refl _) (by omega) (by omega) (by omega) N55 gn53 (g := (mkF m 28 #[.val (.ref tb), .val (.int (Int32.ofNat c2)), .val (.ref b53)] [(.int (Int32.ofNat c1)), (.int (0 : Int32)), (.ref b53), (.int (0 : Int32)), (.ref tb)])) rfl (by rw [hml]; rfl) rfl (hb hby (od dB37 19 rfl)) (by decide) (W := 0) (by show 2 * 0 + _ ≤ _; exact Nat.le_of_eq rfl) (by decide)
  refine own_on st56 ?_
  show own_Fin p e below _ (T56.setTop (mkF m 31 #[.val (.ref tb), .val (.int (Int32.ofNat c2)), .val (.ref b53)] []))
  refine o_aldN X56 H (od dB37 20 rfl) rfl rfl ?_
  exact own_ret (t := (.array .byte)) X56 hx hlk hret rfl (Or.inr (Or.inr (Or.inr (Or.inr ⟨rfl, rfl, rfl⟩)))) (hb hby (od dB37 21 rfl)) (by show Q37 Z tb kt c1 c2 vs h0 n0 _ T56.heap _; rw [e56]; exact ⟨b53, k53, rfl, N56, (((Keep.refl h0 []).ext E53).trans K56 (allS (Or.inr gk53) all0)), gn53, gk53, (D53.keep K56), A56⟩) (by decide) (by decide)
theorem dB30 : oL jdk_68_method_9_code [(0, .aload_n 0, 1), (1, .getfield 15, 3), (4, .arraylength, 1), (5, .aload_n 0, 1), (6, .getfield 22, 3), (9, .ishr, 1), (10, .istore_n 2, 1), (11, .iload_n 1, 1), (12, .iload_n 2, 1), (13, .isub, 1), (14, .ifCond .le 24, 3), (17, .aload_n 0, 1), (18, .aload_n 0, 1), (19, .getfield 15, 3), (22, .aload_n 0, 1), (23, .iload_n 1, 1), (24, .invokevirtual 104, 3), (27, .aload_n 0, 1), (28, .getfield 22, 3), (31, .ishl, 1), (32, .invokestatic 108, 3), (35, .putfield 15, 3), (38, .return_, 1)] := by unfold oL; decide +kernel
theorem pd_12 : parseMethodDescriptor "([BI)[B" = some ⟨[(.array .byte), .int], some (.array .byte)⟩ := by decide +kernel
theorem ef_rmEn0 (m : MethodId) (x0 : Addr) (x1 : Int32) : entryFrame m #[(.ref x0), (.int x1)] 3 = mkF m 0 #[.val (.ref x0), .val (.int x1), .unset] [] := by first | (simp [entryFrame, mkF, argsToLocals, Value.category]; done) | rfl
def QEn0 (Z : State) (b : Addr) (tb : Addr) (kt : ClassId) (k : Nat) (cs : List Int32) (c : Nat) (q : Nat) (h0 : Heap) (n0 : Nat) (v : Option Value) (h : Heap) (L : List Loc) : Prop := ∃ (t : Addr) (kx : ClassId) (c2 : Nat), v = none ∧ Fr n0 L ∧ Keep h0 h [b] ∧ (t = tb ∨ h0.size ≤ t) ∧ n0 ≤ t ∧ b ≠ t ∧ q ≤ c2 ∧ c2 ≤ 36 ∧ Exa Z h b "java/lang/StringBuilder" ∧ Fld Z h b "java/lang/AbstractStringBuilder" "value" "[B" (.ref t) ∧ Fld Z h b "java/lang/AbstractStringBuilder" "count" "I" (.int (Int32.ofNat k)) ∧ Fld Z h b "java/lang/AbstractStringBuilder" "coder" "B" (.int (0 : Int32)) ∧ Fld Z h b "java/lang/AbstractStringBuilder" "maybeLatin1" "Z" (.int (0 : Int32)) ∧ Exa Z h t "[B" ∧ Arv Z h t kx .byte (Int32.ofNat c2) ((cs.map StrChars.lo8).map Value.int) (.int 0)
set_option maxRecDepth 65536 in
set_option maxHeartbeats 40000000 in
theorem rmEn0 (l : Launch) (Z : State) (a0 : Array Value) (hw : ∀ d ∈ tables_1, d.before a0 Z = true) (ws : List Jvm.Cond) (b : Addr) (tb : Addr) (kt : ClassId) (k : Nat) (cs : List Int32) (c : Nat) (q : Nat) (h0 : Heap) (n0 : Nat) (Z0 : n0 ≤ h0.size) (Eb : Exa Z h0 b "java/lang/StringBuilder") (Fv : Fld Z h0 b "java/lang/AbstractStringBuilder" "value" "[B" (.ref tb)) (Fc : Fld Z h0 b "java/lang/AbstractStringBuilder" "count" "I" (.int (Int32.ofNat k))) (Fk : Fld Z h0 b "java/lang/AbstractStringBuilder" "coder" "B" (.int (0 : Int32))) (Fm : Fld Z h0 b "java/lang/AbstractStringBuilder" "maybeLatin1" "Z" (.int (0 : Int32))) (Et : Exa Z h0 tb "[B") (At : Arv Z h0 tb kt .byte (Int32.ofNat c) ((cs.map StrChars.lo8).map Value.int) (.int 0)) (gb : n0 ≤ b) (gt : n0 ≤ tb) (nbt : b ≠ tb) (hk : cs.length = k) (hkc : k ≤ c) (hc : c ≤ 36) (hq : q ≤ 18) :
    own_M l (⟨"java/lang/AbstractStringBuilder", "ensureCapacityInternal", "(I)V"⟩ : MethodName) jdk_68_method_9_code 3 none ws ({ frames := 3, cells := 1, slots := 72, locals := 48 } : Room) #[(.ref b), (.int (Int32.ofNat q))] Z h0 (QEn0 Z b tb kt k cs c q h0 n0) := by
  refine MetFree.of_bodySF (plainFor_of_name pn_4) hisR ?_
  intro p e s m args below meth cd s₁ Bd hml hP hK
  obtain ⟨rfl, hZ, hh⟩ := hP
  obtain ⟨X0, e0, H, hlk, hown, hret⟩ := own_start (R := ({ frames := 3, cells := 1, slots := 72, locals := 48 } : Room)) Bd hh rfl
  have hx := H.1; have hby := H.2; have N0 := Fr.nil n0
  show own_Fin p e below (own_Ans s (QEn0 Z b tb kt k cs c q h0 n0) ({ frames := 3, cells := 1, slots := 72, locals := 48 } : Room).cells ({ frames := 3, cells := 1, slots := 72, locals := 48 } : Room).slots) (s₁.setTop (entryFrame m #[(.ref b), (.int (Int32.ofNat q))] 3))
  refine own_cast (ef_rmEn0 m b (Int32.ofNat q)) ?_
  show own_Fin p e below _ (s₁.setTop (mkF m 0 #[.val (.ref b), .val (.int (Int32.ofNat q)), .unset] []))
  refine o_aldN X0 H (od dB30 0 rfl) rfl rfl ?_
  refine o_gf X0 H hZ hown (ow hw 56 rfl) Via.refl e0 Fv (od dB30 1 rfl) fun T57 X57 e57 => ?_
  have cp58 := At
  obtain ⟨cl58, Ar58, q58, S58, G58, H58, F58⟩ := cp58
  refine own_on (fun tq => X57.arraylength hx (by rw [e57]; exact Ar58.1) (State.isArrayOf_alike hZ.alike Ar58.2.1) (g := (mkF m 4 #[.val (.ref b), .val (.int (Int32.ofNat q)), .unset] [(.ref tb)])) rfl rfl (hb hby (od dB30 2 rfl)) tq) ?_
  rw [len_of S58 G58]
  show own_Fin p e below _ (T57.setTop (mkF m 5 #[.val (.ref b), .val (.int (Int32.ofNat q)), .unset] [(.int (Int32.ofNat c))]))
  refine o_aldN X57 H (od dB30 3 rfl) rfl rfl ?_
  refine o_gf X57 H hZ hown (ow hw 58 rfl) Via.refl e57 Fk (od dB30 4 rfl) fun T59 X59 e59 => ?_
  refine own_on (fun tq => XS.ishr X59.here hx rfl (hb hby (od dB30 5 rfl)) rfl) ?_
  show own_Fin p e below _ (T59.setTop (mkF m 10 #[.val (.ref b), .val (.int (Int32.ofNat q)), .unset] [(.int ((Int32.ofNat c) >>> ((0 : Int32) &&& 31)))]))
  rw [own_shr0]
  show own_Fin p e below _ (T59.setTop (mkF m 10 #[.val (.ref b), .val (.int (Int32.ofNat q)), .unset] [(.int (Int32.ofNat c))]))
  refine o_istN X59 H (od dB30 6 rfl) (L' := #[.val (.ref b), .val (.int (Int32.ofNat q)), .val (.int (Int32.ofNat c))]) rfl ?_
  refine o_ildN X59 H (od dB30 7 rfl) rfl ?_
  refine o_ildN X59 H (od dB30 8 rfl) rfl ?_
  refine o_isub X59 H (od dB30 9 rfl) ?_
  by_cases hc60 : (0 : Int32) < ((Int32.ofNat q) - (Int32.ofNat c))
  · refine o_ifN X59 H (od dB30 10 rfl) ((if0 _ _).trans (tlt hc60).2.2.2) ?_
    have hcq : c < q := own_gtsub hc60 (by omega) (by omega)
    refine o_aldN X59 H (od dB30 11 rfl) rfl rfl ?_
    refine o_aldN X59 H (od dB30 12 rfl) rfl rfl ?_
    refine o_gf X59 H hZ hown (ow hw 56 rfl) Via.refl e59 Fv (od dB30 13 rfl) fun T61 X61 e61 => ?_
    refine o_aldN X61 H (od dB30 14 rfl) rfl rfl ?_
    refine o_ildN X61 H (od dB30 15 rfl) rfl ?_
    refine o_pc (argsL := [(.int (Int32.ofNat q))]) (rest := [(.ref tb), (.ref b)]) X61 H hml hZ hown (ow hw 174 rfl) (ow hw 175 rfl) (own_selfsel (mvT hZ (ow hw 177 rfl)) (Cond.privateMethod_at (mvP hZ (ow hw 176 rfl) (args := #[]))) (mvT hZ (ow hw 175 rfl)) (by decide)) (ow hw 176 rfl) (ow hw 178 rfl) (backOf (W := 2) (rmNc0 l Z a0 hw [] b tb kt _ c q h0 n0 (by exact Z0) Fv Fk At (by omega) (by omega) (by omega)) hZ (ow hw 178 rfl) (ow hw 52 rfl) (by decide) (by decide)) (by decide) Eb e61 pd_7 (od dB30 16 rfl) rfl rfl rfl rfl rfl (by decide) (by decide) (o_pk (fun _ _ _ q => q) N0 fun T62 Lc62 X62 N62 e62 => ?_)
    refine o_aldN X62 H (od dB30 17 rfl) rfl rfl ?_
    refine o_gf X62 H hZ hown (ow hw 58 rfl) Via.refl e62 Fk (od dB30 18 rfl) fun T63 X63 e63 => ?_
    refine own_on (fun tq => XS.ishl X63.here hx rfl (hb hby (od dB30 19 rfl)) rfl) ?_
    show own_Fin p e below _ (T63.setTop (mkF m 32 #[.val (.ref b), .val (.int (Int32.ofNat q)), .val (.int (Int32.ofNat c))] [(.int ((Int32.ofNat (c + max (q - c) (c + 2))) <<< ((0 : Int32) &&& 31))), (.ref tb), (.ref b)]))
    rw [own_shl0]
    show own_Fin p e below _ (T63.setTop (mkF m 32 #[.val (.ref b), .val (.int (Int32.ofNat q)), .val (.int (Int32.ofNat c))] [(.int (Int32.ofNat (c + max (q - c) (c + 2)))), (.ref tb), (.ref b)]))
    refine o_tc (argsL := [(.ref tb), (.int (Int32.ofNat (c + max (q - c) (c + 2))))]) (rest := [(.ref b)]) X63 H hml hZ hown (ow hw 189 rfl) (ow hw 190 rfl) (ow hw 95 rfl) (ow hw 191 rfl) (backOf (W := 1) (rm37 l Z a0 hw [] tb kt c (c + max (q - c) (c + 2)) _ h0 n0 (by exact Z0) At (by rw [own_vl, hk]; exact hkc) (by omega) (by omega)) hZ (ow hw 191 rfl) (ow hw 95 rfl) (by decide) (by decide)) (by decide) e63 pd_12 (od dB30 20 rfl) rfl rfl rfl rfl rfl (by decide) (by decide) fun _ T64 Lc64 X64 hQ64 => ?_
    obtain ⟨x64, kx64, rfl, N64q, K64, gn64, gk64, Ex64, Aq64⟩ := hQ64
    have ne64_b : b ≠ x64 := Nat.ne_of_lt (Nat.lt_of_lt_of_le Eb.lt gk64)
    have ne64_tb : tb ≠ x64 := Nat.ne_of_lt (Nat.lt_of_lt_of_le Et.lt gk64)
    have N64 := Fr.app N62 N64q
    show own_Fin p e below _ (T64.setTop (mkF m 35 #[.val (.ref b), .val (.int (Int32.ofNat q)), .val (.int (Int32.ofNat c))] [(.ref x64), (.ref b)]))
    obtain ⟨T65, h65, X65, e65, W65, st65⟩ := putF X64 hx hZ hown (host := "") (Or.inl (ow hw 56 rfl)) Via.refl rfl (Fv.keep K64 nin0) (Eb.keep K64) (Or.inl (ow hw 57 rfl)) (ow hw 32 rfl) (ty := (.array .byte)) (by decide) rfl rfl (g := (mkF m 35 #[.val (.ref b), .val (.int (Int32.ofNat q)), .val (.int (Int32.ofNat c))] [(.ref x64), (.ref b)])) rfl rfl (hb hby (od dB30 21 rfl))
    have N65 := Fr.snoc X65 N64 gb
    have y66 := ((Fc.keep K64 nin0).other W65 (Or.inr (slot_ne (Or.inl (ow hw 87 rfl)) (Or.inl (ow hw 57 rfl)) (by decide) (t := .int) (t' := (.array .byte)) (by decide) (by decide))))
    have y67 := ((Fk.keep K64 nin0).other W65 (Or.inr (slot_ne (Or.inl (ow hw 59 rfl)) (Or.inl (ow hw 57 rfl)) (by decide) (t := .byte) (t' := (.array .byte)) (by decide) (by decide))))
    have y68 := ((Fm.keep K64 nin0).other W65 (Or.inr (slot_ne (Or.inl (ow hw 279 rfl)) (Or.inl (ow hw 57 rfl)) (by decide) (t := .boolean) (t' := (.array .byte)) (by decide) (by decide))))
    refine own_on st65 ?_
    show own_Fin p e below _ (T65.setTop (mkF m 38 #[.val (.ref b), .val (.int (Int32.ofNat q)), .val (.int (Int32.ofNat c))] []))
    exact own_retV X65 hx hlk hret (hb hby (od dB30 22 rfl)) (by show QEn0 Z b tb kt k cs c q h0 n0 _ T65.heap _; rw [e65]; exact ⟨x64, kx64, (c + max (q - c) (c + 2)), rfl, N65, (((Keep.refl h0 [b]).trans K64 all0).wr W65 (Or.inl (List.mem_of_getElem? (i := 0) rfl))), Or.inr (Nat.le_trans (Keep.refl h0 [b]).1 gk64), gn64, ne64_b, (by omega), (by omega), ((Eb.keep K64).wr W65), ((Fv.keep K64 nin0).same W65), y66, y67, y68, (Ex64.wr W65), (Aq64.other W65 (Ne.symm ne64_b))⟩) (by decide) (by decide)
  · refine o_ifY X59 H (od dB30 10 rfl) ((if0 _ _).trans (flt hc60).2.2.2) (pc' := 38) (by decide) (by decide) ?_
    have hcq : q ≤ c := own_ngtsub hc60 (by omega) (by omega)
    exact own_retV X59 hx hlk hret (hb hby (od dB30 22 rfl)) (by show QEn0 Z b tb kt k cs c q h0 n0 _ T59.heap _; rw [e59]; exact ⟨tb, kt, c, rfl, N0, (Keep.refl h0 [b]), Or.inl rfl, gt, nbt, (by omega), (by omega), Eb, Fv, Fc, Fk, Fm, Et, At⟩) (by decide) (by decide)
theorem ef_rmEn1 (m : MethodId) (x0 : Addr) (x1 : Int32) : entryFrame m #[(.ref x0), (.int x1)] 3 = mkF m 0 #[.val (.ref x0), .val (.int x1), .unset] [] := by first | (simp [entryFrame, mkF, argsToLocals, Value.category]; done) | rfl
def QEn1 (Z : State) (b : Addr) (tb : Addr) (kt : ClassId) (k : Nat) (cs : List Int32) (c : Nat) (q : Nat) (h0 : Heap) (n0 : Nat) (v : Option Value) (h : Heap) (L : List Loc) : Prop := ∃ (t : Addr) (kx : ClassId) (c2 : Nat), v = none ∧ Fr n0 L ∧ Keep h0 h [b] ∧ (t = tb ∨ h0.size ≤ t) ∧ n0 ≤ t ∧ b ≠ t ∧ q ≤ c2 ∧ c2 ≤ 36 ∧ Exa Z h b "java/lang/StringBuilder" ∧ Fld Z h b "java/lang/AbstractStringBuilder" "value" "[B" (.ref t) ∧ Fld Z h b "java/lang/AbstractStringBuilder" "count" "I" (.int (Int32.ofNat k)) ∧ Fld Z h b "java/lang/AbstractStringBuilder" "coder" "B" (.int (1 : Int32)) ∧ Fld Z h b "java/lang/AbstractStringBuilder" "maybeLatin1" "Z" (.int (0 : Int32)) ∧ Exa Z h t "[B" ∧ Arv Z h t kx .byte (Int32.ofNat (2 * c2)) (StrChars.Road.wideBytes cs) (.int 0)
set_option maxRecDepth 65536 in
set_option maxHeartbeats 40000000 in
theorem rmEn1 (l : Launch) (Z : State) (a0 : Array Value) (hw : ∀ d ∈ tables_1, d.before a0 Z = true) (ws : List Jvm.Cond) (b : Addr) (tb : Addr) (kt : ClassId) (k : Nat) (cs : List Int32) (c : Nat) (q : Nat) (h0 : Heap) (n0 : Nat) (Z0 : n0 ≤ h0.size) (Eb : Exa Z h0 b "java/lang/StringBuilder") (Fv : Fld Z h0 b "java/lang/AbstractStringBuilder" "value" "[B" (.ref tb)) (Fc : Fld Z h0 b "java/lang/AbstractStringBuilder" "count" "I" (.int (Int32.ofNat k))) (Fk : Fld Z h0 b "java/lang/AbstractStringBuilder" "coder" "B" (.int (1 : Int32))) (Fm : Fld Z h0 b "java/lang/AbstractStringBuilder" "maybeLatin1" "Z" (.int (0 : Int32))) (Et : Exa Z h0 tb "[B") (At : Arv Z h0 tb kt .byte (Int32.ofNat (2 * c)) (StrChars.Road.wideBytes cs) (.int 0)) (gb : n0 ≤ b) (gt : n0 ≤ tb) (nbt : b ≠ tb) (hk : cs.length = k) (hkc : k ≤ c) (hc : c ≤ 36) (hq : q ≤ 18) :
    own_M l (⟨"java/lang/AbstractStringBuilder", "ensureCapacityInternal", "(I)V"⟩ : MethodName) jdk_68_method_9_code 3 none ws ({ frames := 3, cells := 1, slots := 72, locals := 48 } : Room) #[(.ref b), (.int (Int32.ofNat q))] Z h0 (QEn1 Z b tb kt k cs c q h0 n0) := by
  refine MetFree.of_bodySF (plainFor_of_name pn_4) hisR ?_
  intro p e s m args below meth cd s₁ Bd hml hP hK
  obtain ⟨rfl, hZ, hh⟩ := hP
  obtain ⟨X0, e0, H, hlk, hown, hret⟩ := own_start (R := ({ frames := 3, cells := 1, slots := 72, locals := 48 } : Room)) Bd hh rfl
  have hx := H.1; have hby := H.2; have N0 := Fr.nil n0
  show own_Fin p e below (own_Ans s (QEn1 Z b tb kt k cs c q h0 n0) ({ frames := 3, cells := 1, slots := 72, locals := 48 } : Room).cells ({ frames := 3, cells := 1, slots := 72, locals := 48 } : Room).slots) (s₁.setTop (entryFrame m #[(.ref b), (.int (Int32.ofNat q))] 3))
  refine own_cast (ef_rmEn1 m b (Int32.ofNat q)) ?_
  show own_Fin p e below _ (s₁.setTop (mkF m 0 #[.val (.ref b), .val (.int (Int32.ofNat q)), .unset] []))
  refine o_aldN X0 H (od dB30 0 rfl) rfl rfl ?_
  refine o_gf X0 H hZ hown (ow hw 56 rfl) Via.refl e0 Fv (od dB30 1 rfl) fun T69 X69 e69 => ?_
  have cp70 := At
  obtain ⟨cl70, Ar70, q70, S70, G70, H70, F70⟩ := cp70
  refine own_on (fun tq => X69.arraylength hx (by rw [e69]; exact Ar70.1) (State.isArrayOf_alike hZ.alike Ar70.2.1) (g := (mkF m 4 #[.val (.ref b), .val (.int (Int32.ofNat q)), .unset] [(.ref tb)])) rfl rfl (hb hby (od dB30 2 rfl)) tq) ?_
  rw [len_of S70 G70]
  show own_Fin p e below _ (T69.setTop (mkF m 5 #[.val (.ref b), .val (.int (Int32.ofNat q)), .unset] [(.int (Int32.ofNat (2 * c)))]))
  refine o_aldN X69 H (od dB30 3 rfl) rfl rfl ?_
  refine o_gf X69 H hZ hown (ow hw 58 rfl) Via.refl e69 Fk (od dB30 4 rfl) fun T71 X71 e71 => ?_
  refine own_on (fun tq => XS.ishr X71.here hx rfl (hb hby (od dB30 5 rfl)) rfl) ?_
  show own_Fin p e below _ (T71.setTop (mkF m 10 #[.val (.ref b), .val (.int (Int32.ofNat q)), .unset] [(.int ((Int32.ofNat (2 * c)) >>> ((1 : Int32) &&& 31)))]))
  rw [StrChars.shr1 (by omega)]
  show own_Fin p e below _ (T71.setTop (mkF m 10 #[.val (.ref b), .val (.int (Int32.ofNat q)), .unset] [(.int (Int32.ofNat c))]))
  refine o_istN X71 H (od dB30 6 rfl) (L' := #[.val (.ref b), .val (.int (Int32.ofNat q)), .val (.int (Int32.ofNat c))]) rfl ?_
  refine o_ildN X71 H (od dB30 7 rfl) rfl ?_
  refine o_ildN X71 H (od dB30 8 rfl) rfl ?_
  refine o_isub X71 H (od dB30 9 rfl) ?_
  by_cases hc72 : (0 : Int32) < ((Int32.ofNat q) - (Int32.ofNat c))
  · refine o_ifN X71 H (od dB30 10 rfl) ((if0 _ _).trans (tlt hc72).2.2.2) ?_
    have hcq : c < q := own_gtsub hc72 (by omega) (by omega)
    refine o_aldN X71 H (od dB30 11 rfl) rfl rfl ?_
    refine o_aldN X71 H (od dB30 12 rfl) rfl rfl ?_
    refine o_gf X71 H hZ hown (ow hw 56 rfl) Via.refl e71 Fv (od dB30 13 rfl) fun T73 X73 e73 => ?_
    refine o_aldN X73 H (od dB30 14 rfl) rfl rfl ?_
    refine o_ildN X73 H (od dB30 15 rfl) rfl ?_
    refine o_pc (argsL := [(.int (Int32.ofNat q))]) (rest := [(.ref tb), (.ref b)]) X73 H hml hZ hown (ow hw 174 rfl) (ow hw 175 rfl) (own_selfsel (mvT hZ (ow hw 177 rfl)) (Cond.privateMethod_at (mvP hZ (ow hw 176 rfl) (args := #[]))) (mvT hZ (ow hw 175 rfl)) (by decide)) (ow hw 176 rfl) (ow hw 178 rfl) (backOf (W := 2) (rmNc1 l Z a0 hw [] b tb kt _ c q h0 n0 (by exact Z0) Fv Fk At (by omega) (by omega) (by omega)) hZ (ow hw 178 rfl) (ow hw 52 rfl) (by decide) (by decide)) (by decide) Eb e73 pd_7 (od dB30 16 rfl) rfl rfl rfl rfl rfl (by decide) (by decide) (o_pk (fun _ _ _ q => q) N0 fun T74 Lc74 X74 N74 e74 => ?_)
    refine o_aldN X74 H (od dB30 17 rfl) rfl rfl ?_
    refine o_gf X74 H hZ hown (ow hw 58 rfl) Via.refl e74 Fk (od dB30 18 rfl) fun T75 X75 e75 => ?_
    refine own_on (fun tq => XS.ishl X75.here hx rfl (hb hby (od dB30 19 rfl)) rfl) ?_
    show own_Fin p e below _ (T75.setTop (mkF m 32 #[.val (.ref b), .val (.int (Int32.ofNat q)), .val (.int (Int32.ofNat c))] [(.int ((Int32.ofNat (c + max (q - c) (c + 2))) <<< ((1 : Int32) &&& 31))), (.ref tb), (.ref b)]))
    rw [own_shl1 (by omega)]
    show own_Fin p e below _ (T75.setTop (mkF m 32 #[.val (.ref b), .val (.int (Int32.ofNat q)), .val (.int (Int32.ofNat c))] [(.int (Int32.ofNat (2 * (c + max (q - c) (c + 2))))), (.ref tb), (.ref b)]))
    refine o_tc (argsL := [(.ref tb), (.int (Int32.ofNat (2 * (c + max (q - c) (c + 2)))))]) (rest := [(.ref b)]) X75 H hml hZ hown (ow hw 189 rfl) (ow hw 190 rfl) (ow hw 95 rfl) (ow hw 191 rfl) (backOf (W := 1) (rm37 l Z a0 hw [] tb kt (2 * c) (2 * (c + max (q - c) (c + 2))) _ h0 n0 (by exact Z0) At (by rw [own_wl, hk]; omega) (by omega) (by omega)) hZ (ow hw 191 rfl) (ow hw 95 rfl) (by decide) (by decide)) (by decide) e75 pd_12 (od dB30 20 rfl) rfl rfl rfl rfl rfl (by decide) (by decide) fun _ T76 Lc76 X76 hQ76 => ?_
    obtain ⟨x76, kx76, rfl, N76q, K76, gn76, gk76, Ex76, Aq76⟩ := hQ76
    have ne76_b : b ≠ x76 := Nat.ne_of_lt (Nat.lt_of_lt_of_le Eb.lt gk76)
    have ne76_tb : tb ≠ x76 := Nat.ne_of_lt (Nat.lt_of_lt_of_le Et.lt gk76)
    have N76 := Fr.app N74 N76q
    show own_Fin p e below _ (T76.setTop (mkF m 35 #[.val (.ref b), .val (.int (Int32.ofNat q)), .val (.int (Int32.ofNat c))] [(.ref x76), (.ref b)]))
    obtain ⟨T77, h77, X77, e77, W77, st77⟩ := putF X76 hx hZ hown (host := "") (Or.inl (ow hw 56 rfl)) Via.refl rfl (Fv.keep K76 nin0) (Eb.keep K76) (Or.inl (ow hw 57 rfl)) (ow hw 32 rfl) (ty := (.array .byte)) (by decide) rfl rfl (g := (mkF m 35 #[.val (.ref b), .val (.int (Int32.ofNat q)), .val (.int (Int32.ofNat c))] [(.ref x76), (.ref b)])) rfl rfl (hb hby (od dB30 21 rfl))
    have N77 := Fr.snoc X77 N76 gb
    have y78 := ((Fc.keep K76 nin0).other W77 (Or.inr (slot_ne (Or.inl (ow hw 87 rfl)) (Or.inl (ow hw 57 rfl)) (by decide) (t := .int) (t' := (.array .byte)) (by decide) (by decide))))
    have y79 := ((Fk.keep K76 nin0).other W77 (Or.inr (slot_ne (Or.inl (ow hw 59 rfl)) (Or.inl (ow hw 57 rfl)) (by decide) (t := .byte) (t' := (.array .byte)) (by decide) (by decide))))
    have y80 := ((Fm.keep K76 nin0).other W77 (Or.inr (slot_ne (Or.inl (ow hw 279 rfl)) (Or.inl (ow hw 57 rfl)) (by decide) (t := .boolean) (t' := (.array .byte)) (by decide) (by decide))))
    refine own_on st77 ?_
    show own_Fin p e below _ (T77.setTop (mkF m 38 #[.val (.ref b), .val (.int (Int32.ofNat q)), .val (.int (Int32.ofNat c))] []))
    exact own_retV X77 hx hlk hret (hb hby (od dB30 22 rfl)) (by show QEn1 Z b tb kt k cs c q h0 n0 _ T77.heap _; rw [e77]; exact ⟨x76, kx76, (c + max (q - c) (c + 2)), rfl, N77, (((Keep.refl h0 [b]).trans K76 all0).wr W77 (Or.inl (List.mem_of_getElem? (i := 0) rfl))), Or.inr (Nat.le_trans (Keep.refl h0 [b]).1 gk76), gn76, ne76_b, (by omega), (by omega), ((Eb.keep K76).wr W77), ((Fv.keep K76 nin0).same W77), y78, y79, y80, (Ex76.wr W77), (Aq76.other W77 (Ne.symm ne76_b))⟩) (by decide) (by decide)
  · refine o_ifY X71 H (od dB30 10 rfl) ((if0 _ _).trans (flt hc72).2.2.2) (pc' := 38) (by decide) (by decide) ?_
    have hcq : q ≤ c := own_ngtsub hc72 (by omega) (by omega)
    exact own_retV X71 hx hlk hret (hb hby (od dB30 22 rfl)) (by show QEn1 Z b tb kt k cs c q h0 n0 _ T71.heap _; rw [e71]; exact ⟨tb, kt, c, rfl, N0, (Keep.refl h0 [b]), Or.inl rfl, gt, nbt, (by omega), (by omega), Eb, Fv, Fc, Fk, Fm, Et, At⟩) (by decide) (by decide)
theorem own_wL {Z : State} {a0 : Array Value} (hw : ∀ d ∈ tables_1, d.before a0 Z = true) : ∀ d ∈ StrChars.Road.wordsLen, d.before a0 Z = true := by
  intro d hd
  simp only [StrChars.Road.wordsLen, List.mem_cons, List.not_mem_nil, or_false] at hd
  rcases hd with rfl | rfl | rfl | rfl | rfl | rfl | rfl | rfl | rfl | rfl
  · exact (ow hw 38 rfl)
  · exact (ow hw 7 rfl)
  · exact (ow hw 25 rfl)
  · exact (ow hw 44 rfl)
  · exact (ow hw 26 rfl)
  · exact (ow hw 43 rfl)
  · exact (ow hw 39 rfl)
  · exact (ow hw 40 rfl)
  · exact (ow hw 42 rfl)
  · exact (ow hw 41 rfl)
theorem dB7 : oL jdk_42_method_152_code [(0, .getstatic 38, 3), (3, .ifCond .eq 10, 3), (6, .aload_n 0, 1), (7, .getfield 15, 3), (10, .goto 4, 3), (13, .iconst 1, 1), (14, .ireturn, 1)] := by unfold oL; decide +kernel
theorem ef_rm7 (m : MethodId) (x0 : Addr) : entryFrame m #[(.ref x0)] 1 = mkF m 0 #[.val (.ref x0)] [] := by first | (simp [entryFrame, mkF, argsToLocals, Value.category]; done) | rfl
def Q7 (Z : State) (x : Addr) (co : Int32) (z : Int32) (fm : Value) (h0 : Heap) (n0 : Nat) (v : Option Value) (h : Heap) (L : List Loc) : Prop := v = some (.int co) ∧ Fr n0 L ∧ h = h0
set_option maxRecDepth 65536 in
set_option maxHeartbeats 40000000 in
theorem rm7 (l : Launch) (Z : State) (a0 : Array Value) (hw : ∀ d ∈ tables_1, d.before a0 Z = true) (ws : List Jvm.Cond) (x : Addr) (co : Int32) (z : Int32) (fm : Value) (h0 : Heap) (n0 : Nat) (Z0 : n0 ≤ h0.size) (PU : own_PU Z n0 h0 z fm) (Cx : Fld Z h0 x "java/lang/String" "coder" "B" (.int co)) (hcd : co = 0 ∨ co = 1) :
    own_M l (⟨"java/lang/String", "coder", "()B"⟩ : MethodName) jdk_42_method_152_code 1 (some .byte) ws ({ frames := 0, cells := 0, slots := 0, locals := 0 } : Room) #[(.ref x)] Z h0 (Q7 Z x co z fm h0 n0) := by
  refine MetFree.of_bodySF (plainFor_of_name pn_1) hisR ?_
  intro p e s m args below meth cd s₁ Bd hml hP hK
  obtain ⟨rfl, hZ, hh⟩ := hP
  obtain ⟨X0, e0, H, hlk, hown, hret⟩ := own_start (R := ({ frames := 0, cells := 0, slots := 0, locals := 0 } : Room)) Bd hh rfl
  have hx := H.1; have hby := H.2; have N0 := Fr.nil n0
  obtain ⟨hz, O, SC, SA, SH, SL, SF, hfm⟩ := PU
  show own_Fin p e below (own_Ans s (Q7 Z x co z fm h0 n0) ({ frames := 0, cells := 0, slots := 0, locals := 0 } : Room).cells ({ frames := 0, cells := 0, slots := 0, locals := 0 } : Room).slots) (s₁.setTop (entryFrame m #[(.ref x)] 1))
  refine own_cast (ef_rm7 m x) ?_
  show own_Fin p e below _ (s₁.setTop (mkF m 0 #[.val (.ref x)] []))
  refine o_gs X0 H hZ hown (ow hw 44 rfl) Via.refl e0 (SC.ext O.2) (od dB7 0 rfl) fun T81 X81 e81 => ?_
  refine o_ifN X81 H (od dB7 1 rfl) ((if0 _ _).trans (feq hz).1) ?_
  refine o_aldN X81 H (od dB7 2 rfl) rfl rfl ?_
  refine o_gf X81 H hZ hown (ow hw 26 rfl) Via.refl e81 Cx (od dB7 3 rfl) fun T82 X82 e82 => ?_
  refine o_go X82 H (od dB7 4 rfl) (pc' := 14) (by decide) (by decide) ?_
  exact own_ret (t := .byte) X82 hx hlk hret (by rcases hcd with h | h <;> rw [h] <;> rfl) (Or.inl ⟨rfl, (by simp), _, rfl⟩) (hb hby (od dB7 6 rfl)) (⟨rfl, N0, e82⟩) (by decide) (by decide)
theorem dB52 : oL jdk_68_method_11_code [(0, .aload_n 0, 1), (1, .invokevirtual 83, 3), (4, .ifCond .ne 4, 3), (7, .return_, 1), (8, .aload_n 0, 1), (9, .getfield 15, 3), (12, .arraylength, 1), (13, .invokestatic 26, 3), (16, .astore_n 1, 1), (17, .aload_n 0, 1), (18, .getfield 15, 3), (21, .iconst 0, 1), (22, .aload_n 1, 1), (23, .iconst 0, 1), (24, .aload_n 0, 1), (25, .getfield 79, 3), (28, .invokestatic 125, 3), (31, .aload_n 0, 1), (32, .aload_n 1, 1), (33, .putfield 15, 3), (36, .aload_n 0, 1), (37, .iconst 1, 1), (38, .putfield 22, 3), (41, .return_, 1)] := by unfold oL; decide +kernel
theorem pd_13 : parseMethodDescriptor "()Z" = some ⟨[], some .boolean⟩ := by decide +kernel
theorem ef_rmIf1 (m : MethodId) (x0 : Addr) : entryFrame m #[(.ref x0)] 2 = mkF m 0 #[.val (.ref x0), .unset] [] := by first | (simp [entryFrame, mkF, argsToLocals, Value.category]; done) | rfl
def QIf1 (Z : State) (b : Addr) (z : Int32) (fm : Value) (h0 : Heap) (n0 : Nat) (v : Option Value) (h : Heap) (L : List Loc) : Prop := v = none ∧ Fr n0 L ∧ h = h0
set_option maxRecDepth 65536 in
set_option maxHeartbeats 40000000 in
theorem rmIf1 (l : Launch) (Z : State) (a0 : Array Value) (hw : ∀ d ∈ tables_1, d.before a0 Z = true) (ws : List Jvm.Cond) (b : Addr) (z : Int32) (fm : Value) (h0 : Heap) (n0 : Nat) (Z0 : n0 ≤ h0.size) (PU : own_PU Z n0 h0 z fm) (Eb : Exa Z h0 b "java/lang/StringBuilder") (Fk : Fld Z h0 b "java/lang/AbstractStringBuilder" "coder" "B" (.int (1 : Int32))) :
    own_M l (⟨"java/lang/AbstractStringBuilder", "inflate", "()V"⟩ : MethodName) jdk_68_method_11_code 2 none ws ({ frames := 1, cells := 0, slots := 0, locals := 12 } : Room) #[(.ref b)] Z h0 (QIf1 Z b z fm h0 n0) := by
  refine MetFree.of_bodySF (plainFor_of_name pn_4) hisR ?_
  intro p e s m args below meth cd s₁ Bd hml hP hK
  obtain ⟨rfl, hZ, hh⟩ := hP
  obtain ⟨X0, e0, H, hlk, hown, hret⟩ := own_start (R := ({ frames := 1, cells := 0, slots := 0, locals := 12 } : Room)) Bd hh rfl
  have hx := H.1; have hby := H.2; have N0 := Fr.nil n0
  obtain ⟨hz, O, SC, SA, SH, SL, SF, hfm⟩ := PU
  show own_Fin p e below (own_Ans s (QIf1 Z b z fm h0 n0) ({ frames := 1, cells := 0, slots := 0, locals := 12 } : Room).cells ({ frames := 1, cells := 0, slots := 0, locals := 12 } : Room).slots) (s₁.setTop (entryFrame m #[(.ref b)] 2))
  refine own_cast (ef_rmIf1 m b) ?_
  show own_Fin p e below _ (s₁.setTop (mkF m 0 #[.val (.ref b), .unset] []))
  refine o_aldN X0 H (od dB52 0 rfl) rfl rfl ?_
  refine o_vs (argsL := []) (rest := []) X0 H hml hZ hown (ow hw 159 rfl) (ow hw 89 rfl) (ow hw 91 rfl) (ow hw 90 rfl) (backOf (W := 0) (rmIl1 l Z a0 hw [] b z fm h0 n0 (by exact Z0) ⟨hz, O, SC, SA, SH, SL, SF, hfm⟩ Fk) hZ (ow hw 92 rfl) (ow hw 52 rfl) (by decide) (by decide)) (by decide) Eb e0 pd_13 (od dB52 1 rfl) rfl rfl rfl rfl rfl (by decide) (by decide) (o_pk (fun _ _ _ q => q) N0 fun T83 Lc83 X83 N83 e83 => ?_)
  refine o_ifN X83 H (od dB52 2 rfl) ((if0 _ _).trans (teq (by decide : (0 : Int32) = (0 : Int32))).2) ?_
  exact own_retV X83 hx hlk hret (hb hby (od dB52 3 rfl)) (⟨rfl, N83, e83⟩) (by decide) (by decide)
theorem pd_14 : parseMethodDescriptor "(I)[B" = some ⟨[.int], some (.array .byte)⟩ := by decide +kernel
theorem ef_rmIf0 (m : MethodId) (x0 : Addr) : entryFrame m #[(.ref x0)] 2 = mkF m 0 #[.val (.ref x0), .unset] [] := by first | (simp [entryFrame, mkF, argsToLocals, Value.category]; done) | rfl
def QIf0 (Z : State) (b : Addr) (tb : Addr) (kt : ClassId) (k : Nat) (cs : List Int32) (c : Nat) (z : Int32) (fm : Value) (h0 : Heap) (n0 : Nat) (v : Option Value) (h : Heap) (L : List Loc) : Prop := ∃ (t : Addr) (kx : ClassId), v = none ∧ Fr n0 L ∧ Keep h0 h [b] ∧ n0 ≤ t ∧ h0.size ≤ t ∧ Exa Z h b "java/lang/StringBuilder" ∧ Fld Z h b "java/lang/AbstractStringBuilder" "value" "[B" (.ref t) ∧ Fld Z h b "java/lang/AbstractStringBuilder" "count" "I" (.int (Int32.ofNat k)) ∧ Fld Z h b "java/lang/AbstractStringBuilder" "coder" "B" (.int (1 : Int32)) ∧ Fld Z h b "java/lang/AbstractStringBuilder" "maybeLatin1" "Z" (.int (0 : Int32)) ∧ Exa Z h t "[B" ∧ Arv Z h t kx .byte (Int32.ofNat (2 * c)) (StrChars.Road.wideBytes cs) (.int 0)
set_option maxRecDepth 65536 in
set_option maxHeartbeats 40000000 in
theorem rmIf0 (l : Launch) (Z : State) (a0 : Array Value) (hw : ∀ d ∈ tables_1, d.before a0 Z = true) (ws : List Jvm.Cond) (b : Addr) (tb : Addr) (kt : ClassId) (k : Nat) (cs : List Int32) (c : Nat) (z : Int32) (fm : Value) (h0 : Heap) (n0 : Nat) (Z0 : n0 ≤ h0.size) (PU : own_PU Z n0 h0 z fm) (Eb : Exa Z h0 b "java/lang/StringBuilder") (Fv : Fld Z h0 b "java/lang/AbstractStringBuilder" "value" "[B" (.ref tb)) (Fc : Fld Z h0 b "java/lang/AbstractStringBuilder" "count" "I" (.int (Int32.ofNat k))) (Fk : Fld Z h0 b "java/lang/AbstractStringBuilder" "coder" "B" (.int (0 : Int32))) (Fm : Fld Z h0 b "java/lang/AbstractStringBuilder" "maybeLatin1" "Z" (.int (0 : Int32))) (Et : Exa Z h0 tb "[B") (At : Arv Z h0 tb kt .byte (Int32.ofNat c) ((cs.map StrChars.lo8).map Value.int) (.int 0)) (gb : n0 ≤ b) (gt : n0 ≤ tb) (nbt : b ≠ tb) (hk : cs.length = k) (hkc : k ≤ c) (hc : c ≤ 36) (rg : ∀ q_ ∈ cs, ¬ q_ < 0 ∧ ¬ (255 : Int32) < q_) :
    own_M l (⟨"java/lang/AbstractStringBuilder", "inflate", "()V"⟩ : MethodName) jdk_68_method_11_code 2 none ws ({ frames := 5, cells := 1, slots := 72, locals := 76 } : Room) #[(.ref b)] Z h0 (QIf0 Z b tb kt k cs c z fm h0 n0) := by
  refine MetFree.of_bodySF (plainFor_of_name pn_4) hisR ?_
  intro p e s m args below meth cd s₁ Bd hml hP hK
  obtain ⟨rfl, hZ, hh⟩ := hP
  obtain ⟨X0, e0, H, hlk, hown, hret⟩ := own_start (R := ({ frames := 5, cells := 1, slots := 72, locals := 76 } : Room)) Bd hh rfl
  have hx := H.1; have hby := H.2; have N0 := Fr.nil n0
  obtain ⟨hz, O, SC, SA, SH, SL, SF, hfm⟩ := PU
  show own_Fin p e below (own_Ans s (QIf0 Z b tb kt k cs c z fm h0 n0) ({ frames := 5, cells := 1, slots := 72, locals := 76 } : Room).cells ({ frames := 5, cells := 1, slots := 72, locals := 76 } : Room).slots) (s₁.setTop (entryFrame m #[(.ref b)] 2))
  refine own_cast (ef_rmIf0 m b) ?_
  show own_Fin p e below _ (s₁.setTop (mkF m 0 #[.val (.ref b), .unset] []))
  refine o_aldN X0 H (od dB52 0 rfl) rfl rfl ?_
  refine o_vs (argsL := []) (rest := []) X0 H hml hZ hown (ow hw 159 rfl) (ow hw 89 rfl) (ow hw 91 rfl) (ow hw 90 rfl) (backOf (W := 0) (rmIl0 l Z a0 hw [] b z fm h0 n0 (by exact Z0) ⟨hz, O, SC, SA, SH, SL, SF, hfm⟩ Fk) hZ (ow hw 92 rfl) (ow hw 52 rfl) (by decide) (by decide)) (by decide) Eb e0 pd_13 (od dB52 1 rfl) rfl rfl rfl rfl rfl (by decide) (by decide) (o_pk (fun _ _ _ q => q) N0 fun T84 Lc84 X84 N84 e84 => ?_)
  refine o_ifY X84 H (od dB52 2 rfl) ((if0 _ _).trans (feq (by decide : ¬ ((1 : Int32) = (0 : Int32)))).2) (pc' := 8) (by decide) (by decide) ?_
  refine o_aldN X84 H (od dB52 4 rfl) rfl rfl ?_
  refine o_gf X84 H hZ hown (ow hw 56 rfl) Via.refl e84 Fv (od dB52 5 rfl) fun T85 X85 e85 => ?_
  have cp86 := At
  obtain ⟨cl86, Ar86, q86, S86, G86, H86, F86⟩ := cp86
  refine own_on (fun tq => X85.arraylength hx (by rw [e85]; exact Ar86.1) (State.isArrayOf_alike hZ.alike Ar86.2.1) (g := (mkF m 12 #[.val (.ref b), .unset] [(.ref tb)])) rfl rfl (hb hby (od dB52 6 rfl)) tq) ?_
  rw [len_of S86 G86]
  show own_Fin p e below _ (T85.setTop (mkF m 13 #[.val (.ref b), .unset] [(.int (Int32.ofNat c))]))
  refine o_tc (argsL := [(.int (Int32.ofNat c))]) (rest := []) X85 H hml hZ hown (ow hw 259 rfl) (ow hw 229 rfl) (ow hw 112 rfl) (ow hw 230 rfl) (backOf (W := 0) (rm45 l Z a0 hw [] c h0 n0 (by exact Z0) (by omega)) hZ (ow hw 230 rfl) (ow hw 112 rfl) (by decide) (by decide)) (by decide) e85 pd_14 (od dB52 7 rfl) rfl rfl rfl rfl rfl (by decide) (by decide) fun _ T87 Lc87 X87 hQ87 => ?_
  obtain ⟨x87, kx87, rfl, N87q, K87, gn87, gk87, Ex87, Aq87⟩ := hQ87
  have ne87_b : b ≠ x87 := Nat.ne_of_lt (Nat.lt_of_lt_of_le Eb.lt gk87)
  have ne87_tb : tb ≠ x87 := Nat.ne_of_lt (Nat.lt_of_lt_of_le Et.lt gk87)
  have N87 := Fr.app N84 N87q
  show own_Fin p e below _ (T87.setTop (mkF m 16 #[.val (.ref b), .unset] [(.ref x87)]))
  refine o_astN X87 H (od dB52 8 rfl) (L' := #[.val (.ref b), .val (.ref x87)]) rfl rfl ?_
  refine o_aldN X87 H (od dB52 9 rfl) rfl rfl ?_
  refine o_gf X87 H hZ hown (ow hw 56 rfl) Via.refl rfl (Fv.keep K87 nin0) (od dB52 10 rfl) fun T88 X88 e88 => ?_
  refine o_ic X88 H (od dB52 11 rfl) (v := 0) rfl ?_
  refine o_aldN X88 H (od dB52 12 rfl) rfl rfl ?_
  refine o_ic X88 H (od dB52 13 rfl) (v := 0) rfl ?_
  refine o_aldN X88 H (od dB52 14 rfl) rfl rfl ?_
  refine o_gf X88 H hZ hown (ow hw 86 rfl) Via.refl e88 (Fc.keep K87 nin0) (od dB52 15 rfl) fun T89 X89 e89 => ?_
  refine o_tc (argsL := [(.ref tb), (.int (0 : Int32)), (.ref x87), (.int (0 : Int32)), (.int (Int32.ofNat k))]) (rest := []) X89 H hml hZ hown (ow hw 260 rfl) (ow hw 261 rfl) (ow hw 135 rfl) (ow hw 262 rfl) (backOf (W := 0) (rm53 l Z a0 hw [] tb x87 kt c cs k kx87 c ([] : List Int32) 0 z fm T87.heap n0 (by exact (Nat.le_trans Z0 K87.1)) ⟨hz, (O.keep K87 all0), SC, SA, SH, SL, SF, hfm⟩ (At.keep K87 nin0) hk (by omega) (by omega) rg Aq87 gn87 (rfl : ([] : List Int32).length = 0) (by omega) (by omega) ne87_tb) hZ (ow hw 262 rfl) (ow hw 135 rfl) (by decide) (by decide)) (by decide) e89 pd_9 (od dB52 16 rfl) rfl rfl rfl rfl rfl (by decide) (by decide) fun _ T90 Lc90 X90 hQ90 => ?_
  obtain ⟨rfl, N90q, K90, Aq90⟩ := hQ90
  have N90 := Fr.app N87 N90q
  show own_Fin p e below _ (T90.setTop (mkF m 31 #[.val (.ref b), .val (.ref x87)] []))
  refine o_aldN X90 H (od dB52 17 rfl) rfl rfl ?_
  refine o_aldN X90 H (od dB52 18 rfl) rfl rfl ?_
  obtain ⟨T91, h91, X91, e91, W91, st91⟩ := putF X90 hx hZ hown (host := "") (Or.inl (ow hw 56 rfl)) Via.refl rfl ((Fv.keep K87 nin0).keep K90 (ninS ne87_b nin0)) ((Eb.keep K87).keep K90) (Or.inl (ow hw 57 rfl)) (ow hw 32 rfl) (ty := (.array .byte)) (by decide) rfl rfl (g := (mkF m 33 #[.val (.ref b), .val (.ref x87)] [(.ref x87), (.ref b)])) rfl rfl (hb hby (od dB52 19 rfl))
  have N91 := Fr.snoc X91 N90 gb
  have y92 := ((((Keep.refl h0 [b]).trans K87 all0).trans K90 (allS (Or.inr (Nat.le_trans (Keep.refl h0 [b]).1 gk87)) all0)).wr W91 (Or.inl (List.mem_of_getElem? (i := 0) rfl)))
  have y93 := (((Fc.keep K87 nin0).keep K90 (ninS ne87_b nin0)).other W91 (Or.inr (slot_ne (Or.inl (ow hw 87 rfl)) (Or.inl (ow hw 57 rfl)) (by decide) (t := .int) (t' := (.array .byte)) (by decide) (by decide))))
  have y94 := (((Fk.keep K87 nin0).keep K90 (ninS ne87_b nin0)).other W91 (Or.inr (slot_ne (Or.inl (ow hw 59 rfl)) (Or.inl (ow hw 57 rfl)) (by decide) (t := .byte) (t' := (.array .byte)) (by decide) (by decide))))
  have y95 := (((Fm.keep K87 nin0).keep K90 (ninS ne87_b nin0)).other W91 (Or.inr (slot_ne (Or.inl (ow hw 279 rfl)) (Or.inl (ow hw 57 rfl)) (by decide) (t := .boolean) (t' := (.array .byte)) (by decide) (by decide))))
  refine own_on st91 ?_
  show own_Fin p e below _ (T91.setTop (mkF m 36 #[.val (.ref b), .val (.ref x87)] []))
  refine o_aldN X91 H (od dB52 20 rfl) rfl rfl ?_
  refine o_ic X91 H (od dB52 21 rfl) (v := 1) rfl ?_
  obtain ⟨T96, h96, X96, e96, W96, st96⟩ := putFN X91 hx hZ hown (ow hw 58 rfl) Via.refl e91 y94 (((Eb.keep K87).keep K90).wr W91) (Or.inl (ow hw 59 rfl)) (ow hw 32 rfl) (ty := .byte) (v' := (.int (1 : Int32))) (by decide) rfl (by decide) (g := (mkF m 38 #[.val (.ref b), .val (.ref x87)] [(.int (1 : Int32)), (.ref b)])) rfl rfl (hb hby (od dB52 22 rfl))
  have N96 := Fr.snoc X96 N91 gb
  have y97 := (Nat.le_trans (Nat.le_trans (Nat.le_trans (Nat.le_trans Z0 K87.1) K90.1) (Keep.of_wr W91).1) (Keep.of_wr W96).1)
  have y98 := ((((Fv.keep K87 nin0).keep K90 (ninS ne87_b nin0)).same W91).other W96 (Or.inr (slot_ne (Or.inl (ow hw 57 rfl)) (Or.inl (ow hw 59 rfl)) (by decide) (t := (.array .byte)) (t' := .byte) (by decide) (by decide))))
  have y99 := (y93.other W96 (Or.inr (slot_ne (Or.inl (ow hw 87 rfl)) (Or.inl (ow hw 59 rfl)) (by decide) (t := .int) (t' := .byte) (by decide) (by decide))))
  have y100 := (y95.other W96 (Or.inr (slot_ne (Or.inl (ow hw 279 rfl)) (Or.inl (ow hw 59 rfl)) (by decide) (t := .boolean) (t' := .byte) (by decide) (by decide))))
  refine own_on st96 ?_
  show own_Fin p e below _ (T96.setTop (mkF m 41 #[.val (.ref b), .val (.ref x87)] []))
  exact own_retV X96 hx hlk hret (hb hby (od dB52 23 rfl)) (by show QIf0 Z b tb kt k cs c z fm h0 n0 _ T96.heap _; rw [e96]; exact ⟨x87, kx87, rfl, N96, (y92.wr W96 (Or.inl (List.mem_of_getElem? (i := 0) rfl))), gn87, (Nat.le_trans (Keep.refl h0 [b]).1 gk87), ((((Eb.keep K87).keep K90).wr W91).wr W96), y98, y99, (y94.same W96), y100, (((Ex87.keep K90).wr W91).wr W96), ((Aq90.other W91 (Ne.symm ne87_b)).other W96 (Ne.symm ne87_b))⟩) (by decide) (by decide)
theorem dB40 : oL jdk_68_method_71_code [(0, .getstatic 18, 3), (3, .ifCond .eq 18, 3), (6, .aload_n 0, 1), (7, .getfield 22, 3), (10, .aload_n 1, 1), (11, .invokevirtual 40, 3), (14, .if_icmp .eq 7, 3), (17, .aload_n 0, 1), (18, .invokevirtual 195, 3), (21, .return_, 1)] := by unfold oL; decide +kernel
theorem pd_15 : parseMethodDescriptor "()B" = some ⟨[], some .byte⟩ := by decide +kernel
theorem ef_rmIn0 (m : MethodId) (x0 : Addr) (x1 : Addr) : entryFrame m #[(.ref x0), (.ref x1)] 2 = mkF m 0 #[.val (.ref x0), .val (.ref x1)] [] := by first | (simp [entryFrame, mkF, argsToLocals, Value.category]; done) | rfl
def QIn0 (Z : State) (b : Addr) (x : Addr) (z : Int32) (fm : Value) (h0 : Heap) (n0 : Nat) (v : Option Value) (h : Heap) (L : List Loc) : Prop := v = none ∧ Fr n0 L ∧ h = h0
set_option maxRecDepth 65536 in
set_option maxHeartbeats 40000000 in
theorem rmIn0 (l : Launch) (Z : State) (a0 : Array Value) (hw : ∀ d ∈ tables_1, d.before a0 Z = true) (ws : List Jvm.Cond) (b : Addr) (x : Addr) (z : Int32) (fm : Value) (h0 : Heap) (n0 : Nat) (Z0 : n0 ≤ h0.size) (PU : own_PU Z n0 h0 z fm) (Eb : Exa Z h0 b "java/lang/StringBuilder") (Fk : Fld Z h0 b "java/lang/AbstractStringBuilder" "coder" "B" (.int (0 : Int32))) (Ex : Exa Z h0 x "java/lang/String") (Cx : Fld Z h0 x "java/lang/String" "coder" "B" (.int (0 : Int32))) :
    own_M l (⟨"java/lang/AbstractStringBuilder", "inflateIfNeededFor", "(Ljava/lang/String;)V"⟩ : MethodName) jdk_68_method_71_code 2 none ws ({ frames := 1, cells := 0, slots := 0, locals := 13 } : Room) #[(.ref b), (.ref x)] Z h0 (QIn0 Z b x z fm h0 n0) := by
  refine MetFree.of_bodySF (plainFor_of_name pn_4) hisR ?_
  intro p e s m args below meth cd s₁ Bd hml hP hK
  obtain ⟨rfl, hZ, hh⟩ := hP
  obtain ⟨X0, e0, H, hlk, hown, hret⟩ := own_start (R := ({ frames := 1, cells := 0, slots := 0, locals := 13 } : Room)) Bd hh rfl
  have hx := H.1; have hby := H.2; have N0 := Fr.nil n0
  obtain ⟨hz, O, SC, SA, SH, SL, SF, hfm⟩ := PU
  show own_Fin p e below (own_Ans s (QIn0 Z b x z fm h0 n0) ({ frames := 1, cells := 0, slots := 0, locals := 13 } : Room).cells ({ frames := 1, cells := 0, slots := 0, locals := 13 } : Room).slots) (s₁.setTop (entryFrame m #[(.ref b), (.ref x)] 2))
  refine own_cast (ef_rmIn0 m b x) ?_
  show own_Fin p e below _ (s₁.setTop (mkF m 0 #[.val (.ref b), .val (.ref x)] []))
  refine o_gs X0 H hZ hown (ow hw 55 rfl) Via.refl e0 (SC.ext O.2) (od dB40 0 rfl) fun T101 X101 e101 => ?_
  refine o_ifN X101 H (od dB40 1 rfl) ((if0 _ _).trans (feq hz).1) ?_
  refine o_aldN X101 H (od dB40 2 rfl) rfl rfl ?_
  refine o_gf X101 H hZ hown (ow hw 58 rfl) Via.refl e101 Fk (od dB40 3 rfl) fun T102 X102 e102 => ?_
  refine o_aldN X102 H (od dB40 4 rfl) rfl rfl ?_
  refine o_vs (argsL := []) (rest := [(.int (0 : Int32))]) X102 H hml hZ hown (ow hw 209 rfl) (ow hw 40 rfl) (ow hw 42 rfl) (ow hw 41 rfl) (backOf (W := 1) (rm7 l Z a0 hw [] x (0 : Int32) z fm h0 n0 (by exact Z0) ⟨hz, O, SC, SA, SH, SL, SF, hfm⟩ Cx (by decide)) hZ (ow hw 43 rfl) (ow hw 7 rfl) (by decide) (by decide)) (by decide) Ex e102 pd_15 (od dB40 5 rfl) rfl rfl rfl rfl rfl (by decide) (by decide) (o_pk (fun _ _ _ q => q) N0 fun T103 Lc103 X103 N103 e103 => ?_)
  refine o_icY X103 H (od dB40 6 rfl) (teq (by decide : (0 : Int32) = (0 : Int32))).1 (pc' := 21) (by decide) (by decide) ?_
  exact own_retV X103 hx hlk hret (hb hby (od dB40 9 rfl)) (⟨rfl, N103, e103⟩) (by decide) (by decide)
theorem pd_16 : parseMethodDescriptor "()V" = some ⟨[], none⟩ := by decide +kernel
theorem ef_rmIn1 (m : MethodId) (x0 : Addr) (x1 : Addr) : entryFrame m #[(.ref x0), (.ref x1)] 2 = mkF m 0 #[.val (.ref x0), .val (.ref x1)] [] := by first | (simp [entryFrame, mkF, argsToLocals, Value.category]; done) | rfl
def QIn1 (Z : State) (b : Addr) (x : Addr) (z : Int32) (fm : Value) (h0 : Heap) (n0 : Nat) (v : Option Value) (h : Heap) (L : List Loc) : Prop := v = none ∧ Fr n0 L ∧ h = h0
set_option maxRecDepth 65536 in
set_option maxHeartbeats 40000000 in
theorem rmIn1 (l : Launch) (Z : State) (a0 : Array Value) (hw : ∀ d ∈ tables_1, d.before a0 Z = true) (ws : List Jvm.Cond) (b : Addr) (x : Addr) (z : Int32) (fm : Value) (h0 : Heap) (n0 : Nat) (Z0 : n0 ≤ h0.size) (PU : own_PU Z n0 h0 z fm) (Eb : Exa Z h0 b "java/lang/StringBuilder") (Fk : Fld Z h0 b "java/lang/AbstractStringBuilder" "coder" "B" (.int (1 : Int32))) (Ex : Exa Z h0 x "java/lang/String") (Cx : Fld Z h0 x "java/lang/String" "coder" "B" (.int (0 : Int32))) :
    own_M l (⟨"java/lang/AbstractStringBuilder", "inflateIfNeededFor", "(Ljava/lang/String;)V"⟩ : MethodName) jdk_68_method_71_code 2 none ws ({ frames := 2, cells := 0, slots := 0, locals := 25 } : Room) #[(.ref b), (.ref x)] Z h0 (QIn1 Z b x z fm h0 n0) := by
  refine MetFree.of_bodySF (plainFor_of_name pn_4) hisR ?_
  intro p e s m args below meth cd s₁ Bd hml hP hK
  obtain ⟨rfl, hZ, hh⟩ := hP
  obtain ⟨X0, e0, H, hlk, hown, hret⟩ := own_start (R := ({ frames := 2, cells := 0, slots := 0, locals := 25 } : Room)) Bd hh rfl
  have hx := H.1; have hby := H.2; have N0 := Fr.nil n0
  obtain ⟨hz, O, SC, SA, SH, SL, SF, hfm⟩ := PU
  show own_Fin p e below (own_Ans s (QIn1 Z b x z fm h0 n0) ({ frames := 2, cells := 0, slots := 0, locals := 25 } : Room).cells ({ frames := 2, cells := 0, slots := 0, locals := 25 } : Room).slots) (s₁.setTop (entryFrame m #[(.ref b), (.ref x)] 2))
  refine own_cast (ef_rmIn1 m b x) ?_
  show own_Fin p e below _ (s₁.setTop (mkF m 0 #[.val (.ref b), .val (.ref x)] []))
  refine o_gs X0 H hZ hown (ow hw 55 rfl) Via.refl e0 (SC.ext O.2) (od dB40 0 rfl) fun T104 X104 e104 => ?_
  refine o_ifN X104 H (od dB40 1 rfl) ((if0 _ _).trans (feq hz).1) ?_
  refine o_aldN X104 H (od dB40 2 rfl) rfl rfl ?_
  refine o_gf X104 H hZ hown (ow hw 58 rfl) Via.refl e104 Fk (od dB40 3 rfl) fun T105 X105 e105 => ?_
  refine o_aldN X105 H (od dB40 4 rfl) rfl rfl ?_
  refine o_vs (argsL := []) (rest := [(.int (1 : Int32))]) X105 H hml hZ hown (ow hw 209 rfl) (ow hw 40 rfl) (ow hw 42 rfl) (ow hw 41 rfl) (backOf (W := 1) (rm7 l Z a0 hw [] x (0 : Int32) z fm h0 n0 (by exact Z0) ⟨hz, O, SC, SA, SH, SL, SF, hfm⟩ Cx (by decide)) hZ (ow hw 43 rfl) (ow hw 7 rfl) (by decide) (by decide)) (by decide) Ex e105 pd_15 (od dB40 5 rfl) rfl rfl rfl rfl rfl (by decide) (by decide) (o_pk (fun _ _ _ q => q) N0 fun T106 Lc106 X106 N106 e106 => ?_)
  refine o_icN X106 H (od dB40 6 rfl) (feq (by decide : ¬ ((1 : Int32) = (0 : Int32)))).1 ?_
  refine o_aldN X106 H (od dB40 7 rfl) rfl rfl ?_
  refine o_pc (argsL := []) (rest := []) X106 H hml hZ hown (ow hw 254 rfl) (ow hw 255 rfl) (own_selfsel (mvT hZ (ow hw 257 rfl)) (Cond.privateMethod_at (mvP hZ (ow hw 256 rfl) (args := #[]))) (mvT hZ (ow hw 255 rfl)) (by decide)) (ow hw 256 rfl) (ow hw 258 rfl) (backOf (W := 0) (rmIf1 l Z a0 hw [] b z fm h0 n0 (by exact Z0) ⟨hz, O, SC, SA, SH, SL, SF, hfm⟩ Eb Fk) hZ (ow hw 258 rfl) (ow hw 52 rfl) (by decide) (by decide)) (by decide) Eb e106 pd_16 (od dB40 8 rfl) rfl rfl rfl rfl rfl (by decide) (by decide) (o_pv (fun _ _ _ q => q) N106 fun T107 Lc107 X107 N107 e107 => ?_)
  exact own_retV X107 hx hlk hret (hb hby (od dB40 9 rfl)) (⟨rfl, N107, e107⟩) (by decide) (by decide)
theorem dB41 : oL jdk_42_method_147_code [(0, .aload_n 0, 1), (1, .invokevirtual 335, 3), (4, .iload_n 3, 1), (5, .if_icmp .ne 23, 3), (8, .aload_n 0, 1), (9, .getfield 9, 3), (12, .iconst 0, 1), (13, .aload_n 1, 1), (14, .iload_n 2, 1), (15, .iload_n 3, 1), (16, .ishl, 1), (17, .aload_n 0, 1), (18, .getfield 9, 3), (21, .arraylength, 1), (22, .invokestatic 212, 3), (25, .goto 18, 3), (28, .aload_n 0, 1), (29, .getfield 9, 3), (32, .iconst 0, 1), (33, .aload_n 1, 1), (34, .iload_n 2, 1), (35, .aload_n 0, 1), (36, .getfield 9, 3), (39, .arraylength, 1), (40, .invokestatic 106, 3), (43, .return_, 1)] := by unfold oL; decide +kernel
theorem ef_rmGb0 (m : MethodId) (x0 : Addr) (x1 : Addr) (x2 : Int32) (x3 : Int32) : entryFrame m #[(.ref x0), (.ref x1), (.int x2), (.int x3)] 4 = mkF m 0 #[.val (.ref x0), .val (.ref x1), .val (.int x2), .val (.int x3)] [] := by first | (simp [entryFrame, mkF, argsToLocals, Value.category]; done) | rfl
def QGb0 (Z : State) (x : Addr) (tb : Addr) (kt : ClassId) (k : Nat) (cs : List Int32) (c : Nat) (tx : Addr) (kx : ClassId) (n : Nat) (ds : List Int32) (z : Int32) (fm : Value) (h0 : Heap) (n0 : Nat) (v : Option Value) (h : Heap) (L : List Loc) : Prop := v = none ∧ Fr n0 L ∧ Keep h0 h [tb] ∧ Arv Z h tb kt .byte (Int32.ofNat c) (((cs ++ ds).map StrChars.lo8).map Value.int) (.int 0)
set_option maxRecDepth 65536 in
set_option maxHeartbeats 40000000 in
theorem rmGb0 (l : Launch) (Z : State) (a0 : Array Value) (hw : ∀ d ∈ tables_1, d.before a0 Z = true) (ws : List Jvm.Cond) (x : Addr) (tb : Addr) (kt : ClassId) (k : Nat) (cs : List Int32) (c : Nat) (tx : Addr) (kx : ClassId) (n : Nat) (ds : List Int32) (z : Int32) (fm : Value) (h0 : Heap) (n0 : Nat) (Z0 : n0 ≤ h0.size) (PU : own_PU Z n0 h0 z fm) (At : Arv Z h0 tb kt .byte (Int32.ofNat c) ((cs.map StrChars.lo8).map Value.int) (.int 0)) (gt : n0 ≤ tb) (hk : cs.length = k) (hc : c ≤ 36) (Ex : Exa Z h0 x "java/lang/String") (Cx : Fld Z h0 x "java/lang/String" "coder" "B" (.int (0 : Int32))) (Vx : Fld Z h0 x "java/lang/String" "value" "[B" (.ref tx)) (Kx : Arv Z h0 tx kx .byte (Int32.ofNat n) ((ds.map StrChars.lo8).map Value.int) (.int 0)) (hnx : ds.length = n) (rgx : ∀ q_ ∈ ds, ¬ q_ < 0 ∧ ¬ (255 : Int32) < q_) (nxt : tx ≠ tb) (nyt : x ≠ tb) (hkn : k + n ≤ c) :
    own_M l (⟨"java/lang/String", "getBytes", "([BIB)V"⟩ : MethodName) jdk_42_method_147_code 4 none ws ({ frames := 1, cells := 0, slots := 0, locals := 18 } : Room) #[(.ref x), (.ref tb), (.int (Int32.ofNat k)), (.int (0 : Int32))] Z h0 (QGb0 Z x tb kt k cs c tx kx n ds z fm h0 n0) := by
  refine MetFree.of_bodySF (plainFor_of_name pn_1) hisR ?_
  intro p e s m args below meth cd s₁ Bd hml hP hK
  obtain ⟨rfl, hZ, hh⟩ := hP
  obtain ⟨X0, e0, H, hlk, hown, hret⟩ := own_start (R := ({ frames := 1, cells := 0, slots := 0, locals := 18 } : Room)) Bd hh rfl
  have hx := H.1; have hby := H.2; have N0 := Fr.nil n0
  obtain ⟨hz, O, SC, SA, SH, SL, SF, hfm⟩ := PU
  show own_Fin p e below (own_Ans s (QGb0 Z x tb kt k cs c tx kx n ds z fm h0 n0) ({ frames := 1, cells := 0, slots := 0, locals := 18 } : Room).cells ({ frames := 1, cells := 0, slots := 0, locals := 18 } : Room).slots) (s₁.setTop (entryFrame m #[(.ref x), (.ref tb), (.int (Int32.ofNat k)), (.int (0 : Int32))] 4))
  refine own_cast (ef_rmGb0 m x tb (Int32.ofNat k) (0 : Int32)) ?_
  show own_Fin p e below _ (s₁.setTop (mkF m 0 #[.val (.ref x), .val (.ref tb), .val (.int (Int32.ofNat k)), .val (.int (0 : Int32))] []))
  refine o_aldN X0 H (od dB41 0 rfl) rfl rfl ?_
  refine o_vs (argsL := []) (rest := []) X0 H hml hZ hown (ow hw 39 rfl) (ow hw 40 rfl) (ow hw 42 rfl) (ow hw 41 rfl) (backOf (W := 0) (rm7 l Z a0 hw [] x (0 : Int32) z fm h0 n0 (by exact Z0) ⟨hz, O, SC, SA, SH, SL, SF, hfm⟩ Cx (by decide)) hZ (ow hw 43 rfl) (ow hw 7 rfl) (by decide) (by decide)) (by decide) Ex e0 pd_15 (od dB41 1 rfl) rfl rfl rfl rfl rfl (by decide) (by decide) (o_pk (fun _ _ _ q => q) N0 fun T108 Lc108 X108 N108 e108 => ?_)
  refine o_ildN X108 H (od dB41 2 rfl) rfl ?_
  refine o_icN X108 H (od dB41 3 rfl) (teq (by decide : (0 : Int32) = (0 : Int32))).2 ?_
  refine o_aldN X108 H (od dB41 4 rfl) rfl rfl ?_
  refine o_gf X108 H hZ hown (ow hw 25 rfl) Via.refl e108 Vx (od dB41 5 rfl) fun T109 X109 e109 => ?_
  refine o_ic X109 H (od dB41 6 rfl) (v := 0) rfl ?_
  refine o_aldN X109 H (od dB41 7 rfl) rfl rfl ?_
  refine o_ildN X109 H (od dB41 8 rfl) rfl ?_
  refine o_ildN X109 H (od dB41 9 rfl) rfl ?_
  refine own_on (fun tq => XS.ishl X109.here hx rfl (hb hby (od dB41 10 rfl)) rfl) ?_
  show own_Fin p e below _ (T109.setTop (mkF m 17 #[.val (.ref x), .val (.ref tb), .val (.int (Int32.ofNat k)), .val (.int (0 : Int32))] [(.int ((Int32.ofNat k) <<< ((0 : Int32) &&& 31))), (.ref tb), (.int (0 : Int32)), (.ref tx)]))
  rw [own_shl0]
  show own_Fin p e below _ (T109.setTop (mkF m 17 #[.val (.ref x), .val (.ref tb), .val (.int (Int32.ofNat k)), .val (.int (0 : Int32))] [(.int (Int32.ofNat k)), (.ref tb), (.int (0 : Int32)), (.ref tx)]))
  refine o_aldN X109 H (od dB41 11 rfl) rfl rfl ?_
  refine o_gf X109 H hZ hown (ow hw 25 rfl) Via.refl e109 Vx (od dB41 12 rfl) fun T110 X110 e110 => ?_
  have cp111 := Kx
  obtain ⟨cl111, Ar111, q111, S111, G111, H111, F111⟩ := cp111
  refine own_on (fun tq => X110.arraylength hx (by rw [e110]; exact Ar111.1) (State.isArrayOf_alike hZ.alike Ar111.2.1) (g := (mkF m 21 #[.val (.ref x), .val (.ref tb), .val (.int (Int32.ofNat k)), .val (.int (0 : Int32))] [(.ref tx), (.int (Int32.ofNat k)), (.ref tb), (.int (0 : Int32)), (.ref tx)])) rfl rfl (hb hby (od dB41 13 rfl)) tq) ?_
  rw [len_of S111 G111]
  show own_Fin p e below _ (T110.setTop (mkF m 22 #[.val (.ref x), .val (.ref tb), .val (.int (Int32.ofNat k)), .val (.int (0 : Int32))] [(.int (Int32.ofNat n)), (.int (Int32.ofNat k)), (.ref tb), (.int (0 : Int32)), (.ref tx)]))
  obtain ⟨T112, h112, L112, X112, e112, N112, K112, A112, st112⟩ := own_cpPut X110 hx hZ hown (ow hw 215 rfl) (ow hw 198 rfl) (ow hw 196 rfl) (ow hw 197 rfl) e110 Kx At hk hnx (by omega) (by omega) N108 gt (g := (mkF m 22 #[.val (.ref x), .val (.ref tb), .val (.int (Int32.ofNat k)), .val (.int (0 : Int32))] [(.int (Int32.ofNat n)), (.int (Int32.ofNat k)), (.ref tb), (.int (0 : Int32)), (.ref tx)])) rfl (by rw [hml]; rfl) rfl (hb hby (od dB41 14 rfl)) (by decide) (W := 0) (by show 2 * 0 + _ ≤ _; exact Nat.le_of_eq rfl) (by decide)
  refine own_on st112 ?_
  show own_Fin p e below _ (T112.setTop (mkF m 25 #[.val (.ref x), .val (.ref tb), .val (.int (Int32.ofNat k)), .val (.int (0 : Int32))] []))
  refine o_go X112 H (od dB41 15 rfl) (pc' := 43) (by decide) (by decide) ?_
  exact own_retV X112 hx hlk hret (hb hby (od dB41 25 rfl)) (by show QGb0 Z x tb kt k cs c tx kx n ds z fm h0 n0 _ T112.heap _; rw [e112]; exact ⟨rfl, N112, ((Keep.refl h0 [tb]).trans K112 (allS (Or.inl (List.mem_of_getElem? (i := 0) rfl)) all0)), A112⟩) (by decide) (by decide)
theorem ef_rmGb1 (m : MethodId) (x0 : Addr) (x1 : Addr) (x2 : Int32) (x3 : Int32) : entryFrame m #[(.ref x0), (.ref x1), (.int x2), (.int x3)] 4 = mkF m 0 #[.val (.ref x0), .val (.ref x1), .val (.int x2), .val (.int x3)] [] := by first | (simp [entryFrame, mkF, argsToLocals, Value.category]; done) | rfl
def QGb1 (Z : State) (x : Addr) (tb : Addr) (kt : ClassId) (k : Nat) (cs : List Int32) (c : Nat) (tx : Addr) (kx : ClassId) (n : Nat) (ds : List Int32) (z : Int32) (fm : Value) (h0 : Heap) (n0 : Nat) (v : Option Value) (h : Heap) (L : List Loc) : Prop := v = none ∧ Fr n0 L ∧ Keep h0 h [tb] ∧ Arv Z h tb kt .byte (Int32.ofNat (2 * c)) (StrChars.Road.wideBytes (cs ++ ds)) (.int 0)
set_option maxRecDepth 65536 in
set_option maxHeartbeats 40000000 in
theorem rmGb1 (l : Launch) (Z : State) (a0 : Array Value) (hw : ∀ d ∈ tables_1, d.before a0 Z = true) (ws : List Jvm.Cond) (x : Addr) (tb : Addr) (kt : ClassId) (k : Nat) (cs : List Int32) (c : Nat) (tx : Addr) (kx : ClassId) (n : Nat) (ds : List Int32) (z : Int32) (fm : Value) (h0 : Heap) (n0 : Nat) (Z0 : n0 ≤ h0.size) (PU : own_PU Z n0 h0 z fm) (At : Arv Z h0 tb kt .byte (Int32.ofNat (2 * c)) (StrChars.Road.wideBytes cs) (.int 0)) (gt : n0 ≤ tb) (hk : cs.length = k) (hc : c ≤ 36) (Ex : Exa Z h0 x "java/lang/String") (Cx : Fld Z h0 x "java/lang/String" "coder" "B" (.int (0 : Int32))) (Vx : Fld Z h0 x "java/lang/String" "value" "[B" (.ref tx)) (Kx : Arv Z h0 tx kx .byte (Int32.ofNat n) ((ds.map StrChars.lo8).map Value.int) (.int 0)) (hnx : ds.length = n) (rgx : ∀ q_ ∈ ds, ¬ q_ < 0 ∧ ¬ (255 : Int32) < q_) (nxt : tx ≠ tb) (nyt : x ≠ tb) (hkn : k + n ≤ c) :
    own_M l (⟨"java/lang/String", "getBytes", "([BIB)V"⟩ : MethodName) jdk_42_method_147_code 4 none ws ({ frames := 5, cells := 0, slots := 0, locals := 76 } : Room) #[(.ref x), (.ref tb), (.int (Int32.ofNat k)), (.int (1 : Int32))] Z h0 (QGb1 Z x tb kt k cs c tx kx n ds z fm h0 n0) := by
  refine MetFree.of_bodySF (plainFor_of_name pn_1) hisR ?_
  intro p e s m args below meth cd s₁ Bd hml hP hK
  obtain ⟨rfl, hZ, hh⟩ := hP
  obtain ⟨X0, e0, H, hlk, hown, hret⟩ := own_start (R := ({ frames := 5, cells := 0, slots := 0, locals := 76 } : Room)) Bd hh rfl
  have hx := H.1; have hby := H.2; have N0 := Fr.nil n0
  obtain ⟨hz, O, SC, SA, SH, SL, SF, hfm⟩ := PU
  show own_Fin p e below (own_Ans s (QGb1 Z x tb kt k cs c tx kx n ds z fm h0 n0) ({ frames := 5, cells := 0, slots := 0, locals := 76 } : Room).cells ({ frames := 5, cells := 0, slots := 0, locals := 76 } : Room).slots) (s₁.setTop (entryFrame m #[(.ref x), (.ref tb), (.int (Int32.ofNat k)), (.int (1 : Int32))] 4))
  refine own_cast (ef_rmGb1 m x tb (Int32.ofNat k) (1 : Int32)) ?_
  show own_Fin p e below _ (s₁.setTop (mkF m 0 #[.val (.ref x), .val (.ref tb), .val (.int (Int32.ofNat k)), .val (.int (1 : Int32))] []))
  refine o_aldN X0 H (od dB41 0 rfl) rfl rfl ?_
  refine o_vs (argsL := []) (rest := []) X0 H hml hZ hown (ow hw 39 rfl) (ow hw 40 rfl) (ow hw 42 rfl) (ow hw 41 rfl) (backOf (W := 0) (rm7 l Z a0 hw [] x (0 : Int32) z fm h0 n0 (by exact Z0) ⟨hz, O, SC, SA, SH, SL, SF, hfm⟩ Cx (by decide)) hZ (ow hw 43 rfl) (ow hw 7 rfl) (by decide) (by decide)) (by decide) Ex e0 pd_15 (od dB41 1 rfl) rfl rfl rfl rfl rfl (by decide) (by decide) (o_pk (fun _ _ _ q => q) N0 fun T113 Lc113 X113 N113 e113 => ?_)
  refine o_ildN X113 H (od dB41 2 rfl) rfl ?_
  refine o_icY X113 H (od dB41 3 rfl) (feq (by decide : ¬ ((0 : Int32) = (1 : Int32)))).2 (pc' := 28) (by decide) (by decide) ?_
  refine o_aldN X113 H (od dB41 16 rfl) rfl rfl ?_
  refine o_gf X113 H hZ hown (ow hw 25 rfl) Via.refl e113 Vx (od dB41 17 rfl) fun T114 X114 e114 => ?_
  refine o_ic X114 H (od dB41 18 rfl) (v := 0) rfl ?_
  refine o_aldN X114 H (od dB41 19 rfl) rfl rfl ?_
  refine o_ildN X114 H (od dB41 20 rfl) rfl ?_
  refine o_aldN X114 H (od dB41 21 rfl) rfl rfl ?_
  refine o_gf X114 H hZ hown (ow hw 25 rfl) Via.refl e114 Vx (od dB41 22 rfl) fun T115 X115 e115 => ?_
  have cp116 := Kx
  obtain ⟨cl116, Ar116, q116, S116, G116, H116, F116⟩ := cp116
  refine own_on (fun tq => X115.arraylength hx (by rw [e115]; exact Ar116.1) (State.isArrayOf_alike hZ.alike Ar116.2.1) (g := (mkF m 39 #[.val (.ref x), .val (.ref tb), .val (.int (Int32.ofNat k)), .val (.int (1 : Int32))] [(.ref tx), (.int (Int32.ofNat k)), (.ref tb), (.int (0 : Int32)), (.ref tx)])) rfl rfl (hb hby (od dB41 23 rfl)) tq) ?_
  rw [len_of S116 G116]
  show own_Fin p e below _ (T115.setTop (mkF m 40 #[.val (.ref x), .val (.ref tb), .val (.int (Int32.ofNat k)), .val (.int (1 : Int32))] [(.int (Int32.ofNat n)), (.int (Int32.ofNat k)), (.ref tb), (.int (0 : Int32)), (.ref tx)]))
  refine o_tc (argsL := [(.ref tx), (.int (0 : Int32)), (.ref tb), (.int (Int32.ofNat k)), (.int (Int32.ofNat n))]) (rest := []) X115 H hml hZ hown (ow hw 283 rfl) (ow hw 261 rfl) (ow hw 135 rfl) (ow hw 262 rfl) (backOf (W := 0) (rm53 l Z a0 hw [] tx tb kx n ds n kt c cs k z fm h0 n0 (by exact Z0) ⟨hz, O, SC, SA, SH, SL, SF, hfm⟩ Kx hnx (by omega) (by omega) rgx At gt hk (by omega) (by omega) nxt) hZ (ow hw 262 rfl) (ow hw 135 rfl) (by decide) (by decide)) (by decide) e115 pd_9 (od dB41 24 rfl) rfl rfl rfl rfl rfl (by decide) (by decide) fun _ T117 Lc117 X117 hQ117 => ?_
  obtain ⟨rfl, N117q, K117, Aq117⟩ := hQ117
  have N117 := Fr.app N113 N117q
  show own_Fin p e below _ (T117.setTop (mkF m 43 #[.val (.ref x), .val (.ref tb), .val (.int (Int32.ofNat k)), .val (.int (1 : Int32))] []))
  exact own_retV X117 hx hlk hret (hb hby (od dB41 25 rfl)) (by show QGb1 Z x tb kt k cs c tx kx n ds z fm h0 n0 _ T117.heap _; exact ⟨rfl, N117, ((Keep.refl h0 [tb]).trans K117 (allS (Or.inl (List.mem_of_getElem? (i := 0) rfl)) all0)), Aq117⟩) (by decide) (by decide)
theorem dB39 : oL jdk_68_method_73_code [(0, .aload_n 0, 1), (1, .aload_n 2, 1), (2, .invokevirtual 397, 3), (5, .aload_n 2, 1), (6, .aload_n 0, 1), (7, .getfield 15, 3), (10, .iload_n 1, 1), (11, .aload_n 0, 1), (12, .getfield 22, 3), (15, .invokevirtual 399, 3), (18, .return_, 1)] := by unfold oL; decide +kernel
theorem pd_17 : parseMethodDescriptor "(Ljava/lang/String;)V" = some ⟨[(.object "java/lang/String")], none⟩ := by decide +kernel
theorem pd_18 : parseMethodDescriptor "([BIB)V" = some ⟨[(.array .byte), .int, .byte], none⟩ := by decide +kernel
theorem ef_rmPs0 (m : MethodId) (x0 : Addr) (x1 : Int32) (x2 : Addr) : entryFrame m #[(.ref x0), (.int x1), (.ref x2)] 3 = mkF m 0 #[.val (.ref x0), .val (.int x1), .val (.ref x2)] [] := by first | (simp [entryFrame, mkF, argsToLocals, Value.category]; done) | rfl
def QPs0 (Z : State) (b : Addr) (x : Addr) (tb : Addr) (kt : ClassId) (k : Nat) (cs : List Int32) (c : Nat) (tx : Addr) (kx : ClassId) (n : Nat) (ds : List Int32) (z : Int32) (fm : Value) (h0 : Heap) (n0 : Nat) (v : Option Value) (h : Heap) (L : List Loc) : Prop := v = none ∧ Fr n0 L ∧ Keep h0 h [tb] ∧ Arv Z h tb kt .byte (Int32.ofNat c) (((cs ++ ds).map StrChars.lo8).map Value.int) (.int 0)
set_option maxRecDepth 65536 in
set_option maxHeartbeats 40000000 in
theorem rmPs0 (l : Launch) (Z : State) (a0 : Array Value) (hw : ∀ d ∈ tables_1, d.before a0 Z = true) (ws : List Jvm.Cond) (b : Addr) (x : Addr) (tb : Addr) (kt : ClassId) (k : Nat) (cs : List Int32) (c : Nat) (tx : Addr) (kx : ClassId) (n : Nat) (ds : List Int32) (z : Int32) (fm : Value) (h0 : Heap) (n0 : Nat) (Z0 : n0 ≤ h0.size) (PU : own_PU Z n0 h0 z fm) (Eb : Exa Z h0 b "java/lang/StringBuilder") (Fv : Fld Z h0 b "java/lang/AbstractStringBuilder" "value" "[B" (.ref tb)) (Fc : Fld Z h0 b "java/lang/AbstractStringBuilder" "count" "I" (.int (Int32.ofNat k))) (Fk : Fld Z h0 b "java/lang/AbstractStringBuilder" "coder" "B" (.int (0 : Int32))) (Fm : Fld Z h0 b "java/lang/AbstractStringBuilder" "maybeLatin1" "Z" (.int (0 : Int32))) (Et : Exa Z h0 tb "[B") (At : Arv Z h0 tb kt .byte (Int32.ofNat c) ((cs.map StrChars.lo8).map Value.int) (.int 0)) (gb : n0 ≤ b) (gt : n0 ≤ tb) (nbt : b ≠ tb) (hk : cs.length = k) (hkc : k ≤ c) (hc : c ≤ 36) (Ex : Exa Z h0 x "java/lang/String") (Cx : Fld Z h0 x "java/lang/String" "coder" "B" (.int (0 : Int32))) (Vx : Fld Z h0 x "java/lang/String" "value" "[B" (.ref tx)) (Kx : Arv Z h0 tx kx .byte (Int32.ofNat n) ((ds.map StrChars.lo8).map Value.int) (.int 0)) (hnx : ds.length = n) (rgx : ∀ q_ ∈ ds, ¬ q_ < 0 ∧ ¬ (255 : Int32) < q_) (nxt : tx ≠ tb) (nxb : tx ≠ b) (nyt : x ≠ tb) (nyb : x ≠ b) (hkn : k + n ≤ c) :
    own_M l (⟨"java/lang/AbstractStringBuilder", "putStringAt", "(ILjava/lang/String;)V"⟩ : MethodName) jdk_68_method_73_code 3 none ws ({ frames := 2, cells := 0, slots := 0, locals := 33 } : Room) #[(.ref b), (.int (Int32.ofNat k)), (.ref x)] Z h0 (QPs0 Z b x tb kt k cs c tx kx n ds z fm h0 n0) := by
  refine MetFree.of_bodySF (plainFor_of_name pn_4) hisR ?_
  intro p e s m args below meth cd s₁ Bd hml hP hK
  obtain ⟨rfl, hZ, hh⟩ := hP
  obtain ⟨X0, e0, H, hlk, hown, hret⟩ := own_start (R := ({ frames := 2, cells := 0, slots := 0, locals := 33 } : Room)) Bd hh rfl
  have hx := H.1; have hby := H.2; have N0 := Fr.nil n0
  obtain ⟨hz, O, SC, SA, SH, SL, SF, hfm⟩ := PU
  show own_Fin p e below (own_Ans s (QPs0 Z b x tb kt k cs c tx kx n ds z fm h0 n0) ({ frames := 2, cells := 0, slots := 0, locals := 33 } : Room).cells ({ frames := 2, cells := 0, slots := 0, locals := 33 } : Room).slots) (s₁.setTop (entryFrame m #[(.ref b), (.int (Int32.ofNat k)), (.ref x)] 3))
  refine own_cast (ef_rmPs0 m b (Int32.ofNat k) x) ?_
  show own_Fin p e below _ (s₁.setTop (mkF m 0 #[.val (.ref b), .val (.int (Int32.ofNat k)), .val (.ref x)] []))
  refine o_aldN X0 H (od dB39 0 rfl) rfl rfl ?_
  refine o_aldN X0 H (od dB39 1 rfl) rfl rfl ?_
  refine o_pc (argsL := [(.ref x)]) (rest := []) X0 H hml hZ hown (ow hw 204 rfl) (ow hw 205 rfl) (own_selfsel (mvT hZ (ow hw 207 rfl)) (Cond.privateMethod_at (mvP hZ (ow hw 206 rfl) (args := #[]))) (mvT hZ (ow hw 205 rfl)) (by decide)) (ow hw 206 rfl) (ow hw 208 rfl) (backOf (W := 0) (rmIn0 l Z a0 hw [] b x z fm h0 n0 (by exact Z0) ⟨hz, O, SC, SA, SH, SL, SF, hfm⟩ Eb Fk Ex Cx) hZ (ow hw 208 rfl) (ow hw 52 rfl) (by decide) (by decide)) (by decide) Eb e0 pd_17 (od dB39 2 rfl) rfl rfl rfl rfl rfl (by decide) (by decide) (o_pv (fun _ _ _ q => q) N0 fun T118 Lc118 X118 N118 e118 => ?_)
  refine o_aldN X118 H (od dB39 3 rfl) rfl rfl ?_
  refine o_aldN X118 H (od dB39 4 rfl) rfl rfl ?_
  refine o_gf X118 H hZ hown (ow hw 56 rfl) Via.refl e118 Fv (od dB39 5 rfl) fun T119 X119 e119 => ?_
  refine o_ildN X119 H (od dB39 6 rfl) rfl ?_
  refine o_aldN X119 H (od dB39 7 rfl) rfl rfl ?_
  refine o_gf X119 H hZ hown (ow hw 58 rfl) Via.refl e119 Fk (od dB39 8 rfl) fun T120 X120 e120 => ?_
  refine o_vs (argsL := [(.ref tb), (.int (Int32.ofNat k)), (.int (0 : Int32))]) (rest := []) X120 H hml hZ hown (ow hw 210 rfl) (ow hw 211 rfl) (ow hw 213 rfl) (ow hw 212 rfl) (backOf (W := 0) (rmGb0 l Z a0 hw [] x tb kt k cs c tx kx n ds z fm h0 n0 (by exact Z0) ⟨hz, O, SC, SA, SH, SL, SF, hfm⟩ At gt hk (by omega) Ex Cx Vx Kx hnx rgx nxt nyt (by omega)) hZ (ow hw 214 rfl) (ow hw 7 rfl) (by decide) (by decide)) (by decide) Ex e120 pd_18 (od dB39 9 rfl) rfl rfl rfl rfl rfl (by decide) (by decide) fun _ T121 Lc121 X121 hQ121 => ?_
  obtain ⟨rfl, N121q, K121, Aq121⟩ := hQ121
  have N121 := Fr.app N118 N121q
  show own_Fin p e below _ (T121.setTop (mkF m 18 #[.val (.ref b), .val (.int (Int32.ofNat k)), .val (.ref x)] []))
  exact own_retV X121 hx hlk hret (hb hby (od dB39 10 rfl)) (by show QPs0 Z b x tb kt k cs c tx kx n ds z fm h0 n0 _ T121.heap _; exact ⟨rfl, N121, ((Keep.refl h0 [tb]).trans K121 (allS (Or.inl (List.mem_of_getElem? (i := 0) rfl)) all0)), Aq121⟩) (by decide) (by decide)
theorem ef_rmPs1 (m : MethodId) (x0 : Addr) (x1 : Int32) (x2 : Addr) : entryFrame m #[(.ref x0), (.int x1), (.ref x2)] 3 = mkF m 0 #[.val (.ref x0), .val (.int x1), .val (.ref x2)] [] := by first | (simp [entryFrame, mkF, argsToLocals, Value.category]; done) | rfl
def QPs1 (Z : State) (b : Addr) (x : Addr) (tb : Addr) (kt : ClassId) (k : Nat) (cs : List Int32) (c : Nat) (tx : Addr) (kx : ClassId) (n : Nat) (ds : List Int32) (z : Int32) (fm : Value) (h0 : Heap) (n0 : Nat) (v : Option Value) (h : Heap) (L : List Loc) : Prop := v = none ∧ Fr n0 L ∧ Keep h0 h [tb] ∧ Arv Z h tb kt .byte (Int32.ofNat (2 * c)) (StrChars.Road.wideBytes (cs ++ ds)) (.int 0)
set_option maxRecDepth 65536 in
set_option maxHeartbeats 40000000 in
theorem rmPs1 (l : Launch) (Z : State) (a0 : Array Value) (hw : ∀ d ∈ tables_1, d.before a0 Z = true) (ws : List Jvm.Cond) (b : Addr) (x : Addr) (tb : Addr) (kt : ClassId) (k : Nat) (cs : List Int32) (c : Nat) (tx : Addr) (kx : ClassId) (n : Nat) (ds : List Int32) (z : Int32) (fm : Value) (h0 : Heap) (n0 : Nat) (Z0 : n0 ≤ h0.size) (PU : own_PU Z n0 h0 z fm) (Eb : Exa Z h0 b "java/lang/StringBuilder") (Fv : Fld Z h0 b "java/lang/AbstractStringBuilder" "value" "[B" (.ref tb)) (Fc : Fld Z h0 b "java/lang/AbstractStringBuilder" "count" "I" (.int (Int32.ofNat k))) (Fk : Fld Z h0 b "java/lang/AbstractStringBuilder" "coder" "B" (.int (1 : Int32))) (Fm : Fld Z h0 b "java/lang/AbstractStringBuilder" "maybeLatin1" "Z" (.int (0 : Int32))) (Et : Exa Z h0 tb "[B") (At : Arv Z h0 tb kt .byte (Int32.ofNat (2 * c)) (StrChars.Road.wideBytes cs) (.int 0)) (gb : n0 ≤ b) (gt : n0 ≤ tb) (nbt : b ≠ tb) (hk : cs.length = k) (hkc : k ≤ c) (hc : c ≤ 36) (Ex : Exa Z h0 x "java/lang/String") (Cx : Fld Z h0 x "java/lang/String" "coder" "B" (.int (0 : Int32))) (Vx : Fld Z h0 x "java/lang/String" "value" "[B" (.ref tx)) (Kx : Arv Z h0 tx kx .byte (Int32.ofNat n) ((ds.map StrChars.lo8).map Value.int) (.int 0)) (hnx : ds.length = n) (rgx : ∀ q_ ∈ ds, ¬ q_ < 0 ∧ ¬ (255 : Int32) < q_) (nxt : tx ≠ tb) (nxb : tx ≠ b) (nyt : x ≠ tb) (nyb : x ≠ b) (hkn : k + n ≤ c) :
    own_M l (⟨"java/lang/AbstractStringBuilder", "putStringAt", "(ILjava/lang/String;)V"⟩ : MethodName) jdk_68_method_73_code 3 none ws ({ frames := 6, cells := 0, slots := 0, locals := 91 } : Room) #[(.ref b), (.int (Int32.ofNat k)), (.ref x)] Z h0 (QPs1 Z b x tb kt k cs c tx kx n ds z fm h0 n0) := by
  refine MetFree.of_bodySF (plainFor_of_name pn_4) hisR ?_
  intro p e s m args below meth cd s₁ Bd hml hP hK
  obtain ⟨rfl, hZ, hh⟩ := hP
  obtain ⟨X0, e0, H, hlk, hown, hret⟩ := own_start (R := ({ frames := 6, cells := 0, slots := 0, locals := 91 } : Room)) Bd hh rfl
  have hx := H.1; have hby := H.2; have N0 := Fr.nil n0
  obtain ⟨hz, O, SC, SA, SH, SL, SF, hfm⟩ := PU
  show own_Fin p e below (own_Ans s (QPs1 Z b x tb kt k cs c tx kx n ds z fm h0 n0) ({ frames := 6, cells := 0, slots := 0, locals := 91 } : Room).cells ({ frames := 6, cells := 0, slots := 0, locals := 91 } : Room).slots) (s₁.setTop (entryFrame m #[(.ref b), (.int (Int32.ofNat k)), (.ref x)] 3))
  refine own_cast (ef_rmPs1 m b (Int32.ofNat k) x) ?_
  show own_Fin p e below _ (s₁.setTop (mkF m 0 #[.val (.ref b), .val (.int (Int32.ofNat k)), .val (.ref x)] []))
  refine o_aldN X0 H (od dB39 0 rfl) rfl rfl ?_
  refine o_aldN X0 H (od dB39 1 rfl) rfl rfl ?_
  refine o_pc (argsL := [(.ref x)]) (rest := []) X0 H hml hZ hown (ow hw 204 rfl) (ow hw 205 rfl) (own_selfsel (mvT hZ (ow hw 207 rfl)) (Cond.privateMethod_at (mvP hZ (ow hw 206 rfl) (args := #[]))) (mvT hZ (ow hw 205 rfl)) (by decide)) (ow hw 206 rfl) (ow hw 208 rfl) (backOf (W := 0) (rmIn1 l Z a0 hw [] b x z fm h0 n0 (by exact Z0) ⟨hz, O, SC, SA, SH, SL, SF, hfm⟩ Eb Fk Ex Cx) hZ (ow hw 208 rfl) (ow hw 52 rfl) (by decide) (by decide)) (by decide) Eb e0 pd_17 (od dB39 2 rfl) rfl rfl rfl rfl rfl (by decide) (by decide) (o_pv (fun _ _ _ q => q) N0 fun T122 Lc122 X122 N122 e122 => ?_)
  refine o_aldN X122 H (od dB39 3 rfl) rfl rfl ?_
  refine o_aldN X122 H (od dB39 4 rfl) rfl rfl ?_
  refine o_gf X122 H hZ hown (ow hw 56 rfl) Via.refl e122 Fv (od dB39 5 rfl) fun T123 X123 e123 => ?_
  refine o_ildN X123 H (od dB39 6 rfl) rfl ?_
  refine o_aldN X123 H (od dB39 7 rfl) rfl rfl ?_
  refine o_gf X123 H hZ hown (ow hw 58 rfl) Via.refl e123 Fk (od dB39 8 rfl) fun T124 X124 e124 => ?_
  refine o_vs (argsL := [(.ref tb), (.int (Int32.ofNat k)), (.int (1 : Int32))]) (rest := []) X124 H hml hZ hown (ow hw 210 rfl) (ow hw 211 rfl) (ow hw 213 rfl) (ow hw 212 rfl) (backOf (W := 0) (rmGb1 l Z a0 hw [] x tb kt k cs c tx kx n ds z fm h0 n0 (by exact Z0) ⟨hz, O, SC, SA, SH, SL, SF, hfm⟩ At gt hk (by omega) Ex Cx Vx Kx hnx rgx nxt nyt (by omega)) hZ (ow hw 214 rfl) (ow hw 7 rfl) (by decide) (by decide)) (by decide) Ex e124 pd_18 (od dB39 9 rfl) rfl rfl rfl rfl rfl (by decide) (by decide) fun _ T125 Lc125 X125 hQ125 => ?_
  obtain ⟨rfl, N125q, K125, Aq125⟩ := hQ125
  have N125 := Fr.app N122 N125q
  show own_Fin p e below _ (T125.setTop (mkF m 18 #[.val (.ref b), .val (.int (Int32.ofNat k)), .val (.ref x)] []))
  exact own_retV X125 hx hlk hret (hb hby (od dB39 10 rfl)) (by show QPs1 Z b x tb kt k cs c tx kx n ds z fm h0 n0 _ T125.heap _; exact ⟨rfl, N125, ((Keep.refl h0 [tb]).trans K125 (allS (Or.inl (List.mem_of_getElem? (i := 0) rfl)) all0)), Aq125⟩) (by decide) (by decide)
theorem dB33 : oL jdk_68_method_22_code [(0, .aload_n 1, 1), (1, .ifnonnull 8, 3), (4, .aload_n 0, 1), (5, .invokevirtual 204, 3), (8, .areturn, 1), (9, .aload_n 1, 1), (10, .invokevirtual 32, 3), (13, .istore_n 2, 1), (14, .aload_n 0, 1), (15, .aload_n 0, 1), (16, .getfield 79, 3), (19, .iload_n 2, 1), (20, .iadd, 1), (21, .invokevirtual 100, 3), (24, .aload_n 0, 1), (25, .aload_n 0, 1), (26, .getfield 79, 3), (29, .aload_n 1, 1), (30, .invokevirtual 208, 3), (33, .aload_n 0, 1), (34, .dup, 1), (35, .getfield 79, 3), (38, .iload_n 2, 1), (39, .iadd, 1), (40, .putfield 79, 3), (43, .aload_n 0, 1), (44, .areturn, 1)] := by unfold oL; decide +kernel
theorem pd_19 : parseMethodDescriptor "(I)V" = some ⟨[.int], none⟩ := by decide +kernel
theorem pd_20 : parseMethodDescriptor "(ILjava/lang/String;)V" = some ⟨[.int, (.object "java/lang/String")], none⟩ := by decide +kernel
theorem ef_rmAs0 (m : MethodId) (x0 : Addr) (x1 : Addr) : entryFrame m #[(.ref x0), (.ref x1)] 3 = mkF m 0 #[.val (.ref x0), .val (.ref x1), .unset] [] := by first | (simp [entryFrame, mkF, argsToLocals, Value.category]; done) | rfl
def QAs0 (Z : State) (b : Addr) (x : Addr) (tb : Addr) (kt : ClassId) (k : Nat) (cs : List Int32) (c : Nat) (tx : Addr) (kx : ClassId) (n : Nat) (ds : List Int32) (z : Int32) (fm : Value) (h0 : Heap) (n0 : Nat) (v : Option Value) (h : Heap) (L : List Loc) : Prop := ∃ (t : Addr) (kx2 : ClassId) (c2 : Nat), v = some (.ref b) ∧ Fr n0 L ∧ Keep h0 h [b, tb] ∧ (t = tb ∨ h0.size ≤ t) ∧ n0 ≤ t ∧ b ≠ t ∧ (k + n) ≤ c2 ∧ c2 ≤ 36 ∧ Exa Z h b "java/lang/StringBuilder" ∧ Fld Z h b "java/lang/AbstractStringBuilder" "value" "[B" (.ref t) ∧ Fld Z h b "java/lang/AbstractStringBuilder" "count" "I" (.int (Int32.ofNat (k + n))) ∧ Fld Z h b "java/lang/AbstractStringBuilder" "coder" "B" (.int (0 : Int32)) ∧ Fld Z h b "java/lang/AbstractStringBuilder" "maybeLatin1" "Z" (.int (0 : Int32)) ∧ Exa Z h t "[B" ∧ Arv Z h t kx2 .byte (Int32.ofNat c2) (((cs ++ ds).map StrChars.lo8).map Value.int) (.int 0)
set_option maxRecDepth 65536 in
set_option maxHeartbeats 40000000 in
theorem rmAs0 (l : Launch) (Z : State) (a0 : Array Value) (hw : ∀ d ∈ tables_1, d.before a0 Z = true) (ws : List Jvm.Cond) (b : Addr) (x : Addr) (tb : Addr) (kt : ClassId) (k : Nat) (cs : List Int32) (c : Nat) (tx : Addr) (kx : ClassId) (n : Nat) (ds : List Int32) (z : Int32) (fm : Value) (h0 : Heap) (n0 : Nat) (Z0 : n0 ≤ h0.size) (PU : own_PU Z n0 h0 z fm) (Eb : Exa Z h0 b "java/lang/StringBuilder") (Fv : Fld Z h0 b "java/lang/AbstractStringBuilder" "value" "[B" (.ref tb)) (Fc : Fld Z h0 b "java/lang/AbstractStringBuilder" "count" "I" (.int (Int32.ofNat k))) (Fk : Fld Z h0 b "java/lang/AbstractStringBuilder" "coder" "B" (.int (0 : Int32))) (Fm : Fld Z h0 b "java/lang/AbstractStringBuilder" "maybeLatin1" "Z" (.int (0 : Int32))) (Et : Exa Z h0 tb "[B") (At : Arv Z h0 tb kt .byte (Int32.ofNat c) ((cs.map StrChars.lo8).map Value.int) (.int 0)) (gb : n0 ≤ b) (gt : n0 ≤ tb) (nbt : b ≠ tb) (hk : cs.length = k) (hkc : k ≤ c) (hc : c ≤ 36) (Ex : Exa Z h0 x "java/lang/String") (Cx : Fld Z h0 x "java/lang/String" "coder" "B" (.int (0 : Int32))) (Vx : Fld Z h0 x "java/lang/String" "value" "[B" (.ref tx)) (Kx : Arv Z h0 tx kx .byte (Int32.ofNat n) ((ds.map StrChars.lo8).map Value.int) (.int 0)) (hnx : ds.length = n) (rgx : ∀ q_ ∈ ds, ¬ q_ < 0 ∧ ¬ (255 : Int32) < q_) (nxt : tx ≠ tb) (nxb : tx ≠ b) (nyt : x ≠ tb) (nyb : x ≠ b) (h18 : k + n ≤ 18) :
    own_M l (⟨"java/lang/AbstractStringBuilder", "append", "(Ljava/lang/String;)Ljava/lang/AbstractStringBuilder;"⟩ : MethodName) jdk_68_method_22_code 3 (some (.object "java/lang/AbstractStringBuilder")) ws ({ frames := 4, cells := 1, slots := 72, locals := 62 } : Room) #[(.ref b), (.ref x)] Z h0 (QAs0 Z b x tb kt k cs c tx kx n ds z fm h0 n0) := by
  refine MetFree.of_bodySF (plainFor_of_name pn_4) hisR ?_
  intro p e s m args below meth cd s₁ Bd hml hP hK
  obtain ⟨rfl, hZ, hh⟩ := hP
  obtain ⟨X0, e0, H, hlk, hown, hret⟩ := own_start (R := ({ frames := 4, cells := 1, slots := 72, locals := 62 } : Room)) Bd hh rfl
  have hx := H.1; have hby := H.2; have N0 := Fr.nil n0
  obtain ⟨hz, O, SC, SA, SH, SL, SF, hfm⟩ := PU
  show own_Fin p e below (own_Ans s (QAs0 Z b x tb kt k cs c tx kx n ds z fm h0 n0) ({ frames := 4, cells := 1, slots := 72, locals := 62 } : Room).cells ({ frames := 4, cells := 1, slots := 72, locals := 62 } : Room).slots) (s₁.setTop (entryFrame m #[(.ref b), (.ref x)] 3))
  refine own_cast (ef_rmAs0 m b x) ?_
  show own_Fin p e below _ (s₁.setTop (mkF m 0 #[.val (.ref b), .val (.ref x), .unset] []))
  refine o_aldN X0 H (od dB33 0 rfl) rfl rfl ?_
  refine own_on (fun tq => XS.ifnonnullYes X0.here hx rfl (pc0 := 1) (pc' := 9) rfl (hb hby (od dB33 1 rfl)) rfl (by decide) (by decide)) ?_
  show own_Fin p e below _ (s₁.setTop (mkF m 9 #[.val (.ref b), .val (.ref x), .unset] []))
  refine o_aldN X0 H (od dB33 5 rfl) rfl rfl ?_
  obtain ⟨cq126, kq126, q126a, q126b, q126c⟩ := isOf hZ e0 Ex
  obtain ⟨_, _, ⟨T126, L126, k126, n126⟩, -, X126, ⟨Lc126, hQ126, l126, y126, z126⟩, st126⟩ := X0.virtualBack hx (y := (⟨"java/lang/String", "length", "()I"⟩ : MethodName)) (z := (⟨"java/lang/String", "length", "()I"⟩ : MethodName)) hown (mvT hZ (ow hw 173 rfl)) (mvT hZ (ow hw 35 rfl)) (notFace_of_selects (args := #[]) (mvT hZ (ow hw 37 rfl))) (mvT hZ (ow hw 37 rfl)) (mvT hZ (ow hw 36 rfl)) (by decide) (StrChars.Road.lenW (W := 0) hZ (own_wL hw) (ow hw 6 rfl) Ex Vx Cx Kx (own_cod hnx (fun c q => (rgx c q).2)) (own_r16 rgx) (SC.ext O.2) hz (by rw [hnx]; omega) (by decide) (by decide)) q126a q126c (g := (mkF m 10 #[.val (.ref b), .val (.ref x), .unset] [(.ref x)])) rfl hml.symm (Steps.refl _) (argsL := []) (rest := []) (lenOf pd_10 rfl) rfl (o_mr rfl) (hb hby (od dB33 6 rfl)) (fun _ _ => ⟨rfl, e0, (by decide : 0 + 0 ≤ _), (by decide : 0 + 0 ≤ _)⟩)
  dsimp only [Pt.U, Pt.locs, Pt.cells, Pt.slots] at X126 l126 y126 z126 st126 hQ126
  replace l126 := l126.symm; replace y126 := y126.symm; replace z126 := z126.symm; subst l126 y126 z126
  obtain ⟨rfl, rfl, e126⟩ := hQ126
  have N126 := Fr.app N0 (Fr.nil n0)
  rw [hnx] at st126
  refine own_via st126 ?_
  show own_Fin p e below _ (T126.setTop (mkF m 13 #[.val (.ref b), .val (.ref x), .unset] [(.int (Int32.ofNat n))]))
  refine o_istN X126 H (od dB33 7 rfl) (L' := #[.val (.ref b), .val (.ref x), .val (.int (Int32.ofNat n))]) rfl ?_
  refine o_aldN X126 H (od dB33 8 rfl) rfl rfl ?_
  refine o_aldN X126 H (od dB33 9 rfl) rfl rfl ?_
  refine o_gf X126 H hZ hown (ow hw 86 rfl) Via.refl e126 Fc (od dB33 10 rfl) fun T127 X127 e127 => ?_
  refine o_ildN X127 H (od dB33 11 rfl) rfl ?_
  refine o_iadd X127 H (od dB33 12 rfl) ?_
  rw [own_add]
  show own_Fin p e below _ (T127.setTop (mkF m 21 #[.val (.ref b), .val (.ref x), .val (.int (Int32.ofNat n))] [(.int (Int32.ofNat (k + n))), (.ref b)]))
  refine o_pc (argsL := [(.int (Int32.ofNat (k + n)))]) (rest := []) X127 H hml hZ hown (ow hw 154 rfl) (ow hw 155 rfl) (own_selfsel (mvT hZ (ow hw 157 rfl)) (Cond.privateMethod_at (mvP hZ (ow hw 156 rfl) (args := #[]))) (mvT hZ (ow hw 155 rfl)) (by decide)) (ow hw 156 rfl) (ow hw 158 rfl) (backOf (W := 0) (rmEn0 l Z a0 hw [] b tb kt k cs c (k + n) h0 n0 (by exact Z0) Eb Fv Fc Fk Fm Et At gb gt nbt hk (by omega) (by omega) (by omega)) hZ (ow hw 158 rfl) (ow hw 52 rfl) (by decide) (by decide)) (by decide) Eb e127 pd_19 (od dB33 13 rfl) rfl rfl rfl rfl rfl (by decide) (by decide) fun _ T128 Lc128 X128 hQ128 => ?_
  obtain ⟨tg128, kt128, c128, rfl, N128q, K128, ht128, gt128, nb128, hq128, hc128, Eq128, Vq128, Cq128, Dq128, Mq128, Xq128, Aq128⟩ := hQ128
  have ne128_x : x ≠ tg128 := own_neT ht128 nyt Ex.lt
  have ne128_tx : tx ≠ tg128 := own_neT ht128 nxt Kx.lt
  have kk128 : tg128 ∈ [b, tb] ∨ h0.size ≤ tg128 := by rcases ht128 with h | h; exact Or.inl (h ▸ List.mem_of_getElem? (i := 1) rfl); exact Or.inr (Nat.le_trans (Keep.refl h0 [b, tb]).1 h)
  have N128 := Fr.app N126 N128q
  show own_Fin p e below _ (T128.setTop (mkF m 24 #[.val (.ref b), .val (.ref x), .val (.int (Int32.ofNat n))] []))
  refine o_aldN X128 H (od dB33 14 rfl) rfl rfl ?_
  refine o_aldN X128 H (od dB33 15 rfl) rfl rfl ?_
  refine o_gf X128 H hZ hown (ow hw 86 rfl) Via.refl rfl Cq128 (od dB33 16 rfl) fun T129 X129 e129 => ?_
  refine o_aldN X129 H (od dB33 17 rfl) rfl rfl ?_
  refine o_pc (argsL := [(.int (Int32.ofNat k)), (.ref x)]) (rest := []) X129 H hml hZ hown (ow hw 199 rfl) (ow hw 200 rfl) (own_selfsel (mvT hZ (ow hw 202 rfl)) (Cond.privateMethod_at (mvP hZ (ow hw 201 rfl) (args := #[]))) (mvT hZ (ow hw 200 rfl)) (by decide)) (ow hw 201 rfl) (ow hw 203 rfl) (backOf (W := 0) (rmPs0 l Z a0 hw [] b x tg128 kt128 k cs c128 tx kx n ds z fm T128.heap n0 (by exact (Nat.le_trans Z0 K128.1)) ⟨hz, (O.keep K128 (allS gb all0)), SC, SA, SH, SL, SF, hfm⟩ Eq128 Vq128 Cq128 Dq128 Mq128 Xq128 Aq128 gb gt128 nb128 hk (by omega) (by omega) (Ex.keep K128) (Cx.keep K128 (ninS nyb nin0)) (Vx.keep K128 (ninS nyb nin0)) (Kx.keep K128 (ninS nxb nin0)) hnx rgx ne128_tx nxb ne128_x nyb (by omega)) hZ (ow hw 203 rfl) (ow hw 52 rfl) (by decide) (by decide)) (by decide) Eq128 e129 pd_20 (od dB33 18 rfl) rfl rfl rfl rfl rfl (by decide) (by decide) fun _ T130 Lc130 X130 hQ130 => ?_
  obtain ⟨rfl, N130q, K130, Aq130⟩ := hQ130
  have N130 := Fr.app N128 N130q
  have y131 := (((Keep.refl h0 [b, tb]).trans K128 (allS (Or.inl (List.mem_of_getElem? (i := 0) rfl)) all0)).trans K130 (allS kk128 all0))
  show own_Fin p e below _ (T130.setTop (mkF m 33 #[.val (.ref b), .val (.ref x), .val (.int (Int32.ofNat n))] []))
  refine o_aldN X130 H (od dB33 19 rfl) rfl rfl ?_
  refine o_dup X130 H (od dB33 20 rfl) rfl ?_
  refine o_gf X130 H hZ hown (ow hw 86 rfl) Via.refl rfl (Cq128.keep K130 (ninS nb128 nin0)) (od dB33 21 rfl) fun T132 X132 e132 => ?_
  refine o_ildN X132 H (od dB33 22 rfl) rfl ?_
  refine o_iadd X132 H (od dB33 23 rfl) ?_
  rw [own_add]
  show own_Fin p e below _ (T132.setTop (mkF m 40 #[.val (.ref b), .val (.ref x), .val (.int (Int32.ofNat n))] [(.int (Int32.ofNat (k + n))), (.ref b)]))
  obtain ⟨T133, h133, X133, e133, W133, st133⟩ := putF X132 hx hZ hown (host := "") (Or.inl (ow hw 86 rfl)) Via.refl e132 (Cq128.keep K130 (ninS nb128 nin0)) (Eq128.keep K130) (Or.inl (ow hw 87 rfl)) (ow hw 32 rfl) (ty := .int) (by decide) rfl rfl (g := (mkF m 40 #[.val (.ref b), .val (.ref x), .val (.int (Int32.ofNat n))] [(.int (Int32.ofNat (k + n))), (.ref b)])) rfl rfl (hb hby (od dB33 24 rfl))
  have N133 := Fr.snoc X133 N130 gb
  have y134 := ((Vq128.keep K130 (ninS nb128 nin0)).other W133 (Or.inr (slot_ne (Or.inl (ow hw 57 rfl)) (Or.inl (ow hw 87 rfl)) (by decide) (t := (.array .byte)) (t' := .int) (by decide) (by decide))))
  have y135 := ((Dq128.keep K130 (ninS nb128 nin0)).other W133 (Or.inr (slot_ne (Or.inl (ow hw 59 rfl)) (Or.inl (ow hw 87 rfl)) (by decide) (t := .byte) (t' := .int) (by decide) (by decide))))
  have y136 := ((Mq128.keep K130 (ninS nb128 nin0)).other W133 (Or.inr (slot_ne (Or.inl (ow hw 279 rfl)) (Or.inl (ow hw 87 rfl)) (by decide) (t := .boolean) (t' := .int) (by decide) (by decide))))
  refine own_on st133 ?_
  show own_Fin p e below _ (T133.setTop (mkF m 43 #[.val (.ref b), .val (.ref x), .val (.int (Int32.ofNat n))] []))
  refine o_aldN X133 H (od dB33 25 rfl) rfl rfl ?_
  exact own_ret (t := (.object "java/lang/AbstractStringBuilder")) X133 hx hlk hret rfl (Or.inr (Or.inr (Or.inr (Or.inr ⟨rfl, rfl, rfl⟩)))) (hb hby (od dB33 26 rfl)) (by show QAs0 Z b x tb kt k cs c tx kx n ds z fm h0 n0 _ T133.heap _; rw [e133]; exact ⟨tg128, kt128, c128, rfl, N133, (y131.wr W133 (Or.inl (List.mem_of_getElem? (i := 0) rfl))), ht128, gt128, nb128, (by omega), (by omega), ((Eq128.keep K130).wr W133), y134, ((Cq128.keep K130 (ninS nb128 nin0)).same W133), y135, y136, ((Xq128.keep K130).wr W133), (Aq130.other W133 (Ne.symm nb128))⟩) (by decide) (by decide)
theorem ef_rmAs1 (m : MethodId) (x0 : Addr) (x1 : Addr) : entryFrame m #[(.ref x0), (.ref x1)] 3 = mkF m 0 #[.val (.ref x0), .val (.ref x1), .unset] [] := by first | (simp [entryFrame, mkF, argsToLocals, Value.category]; done) | rfl
def QAs1 (Z : State) (b : Addr) (x : Addr) (tb : Addr) (kt : ClassId) (k : Nat) (cs : List Int32) (c : Nat) (tx : Addr) (kx : ClassId) (n : Nat) (ds : List Int32) (z : Int32) (fm : Value) (h0 : Heap) (n0 : Nat) (v : Option Value) (h : Heap) (L : List Loc) : Prop := ∃ (t : Addr) (kx2 : ClassId) (c2 : Nat), v = some (.ref b) ∧ Fr n0 L ∧ Keep h0 h [b, tb] ∧ (t = tb ∨ h0.size ≤ t) ∧ n0 ≤ t ∧ b ≠ t ∧ (k + n) ≤ c2 ∧ c2 ≤ 36 ∧ Exa Z h b "java/lang/StringBuilder" ∧ Fld Z h b "java/lang/AbstractStringBuilder" "value" "[B" (.ref t) ∧ Fld Z h b "java/lang/AbstractStringBuilder" "count" "I" (.int (Int32.ofNat (k + n))) ∧ Fld Z h b "java/lang/AbstractStringBuilder" "coder" "B" (.int (1 : Int32)) ∧ Fld Z h b "java/lang/AbstractStringBuilder" "maybeLatin1" "Z" (.int (0 : Int32)) ∧ Exa Z h t "[B" ∧ Arv Z h t kx2 .byte (Int32.ofNat (2 * c2)) (StrChars.Road.wideBytes (cs ++ ds)) (.int 0)
set_option maxRecDepth 65536 in
set_option maxHeartbeats 40000000 in
theorem rmAs1 (l : Launch) (Z : State) (a0 : Array Value) (hw : ∀ d ∈ tables_1, d.before a0 Z = true) (ws : List Jvm.Cond) (b : Addr) (x : Addr) (tb : Addr) (kt : ClassId) (k : Nat) (cs : List Int32) (c : Nat) (tx : Addr) (kx : ClassId) (n : Nat) (ds : List Int32) (z : Int32) (fm : Value) (h0 : Heap) (n0 : Nat) (Z0 : n0 ≤ h0.size) (PU : own_PU Z n0 h0 z fm) (Eb : Exa Z h0 b "java/lang/StringBuilder") (Fv : Fld Z h0 b "java/lang/AbstractStringBuilder" "value" "[B" (.ref tb)) (Fc : Fld Z h0 b "java/lang/AbstractStringBuilder" "count" "I" (.int (Int32.ofNat k))) (Fk : Fld Z h0 b "java/lang/AbstractStringBuilder" "coder" "B" (.int (1 : Int32))) (Fm : Fld Z h0 b "java/lang/AbstractStringBuilder" "maybeLatin1" "Z" (.int (0 : Int32))) (Et : Exa Z h0 tb "[B") (At : Arv Z h0 tb kt .byte (Int32.ofNat (2 * c)) (StrChars.Road.wideBytes cs) (.int 0)) (gb : n0 ≤ b) (gt : n0 ≤ tb) (nbt : b ≠ tb) (hk : cs.length = k) (hkc : k ≤ c) (hc : c ≤ 36) (Ex : Exa Z h0 x "java/lang/String") (Cx : Fld Z h0 x "java/lang/String" "coder" "B" (.int (0 : Int32))) (Vx : Fld Z h0 x "java/lang/String" "value" "[B" (.ref tx)) (Kx : Arv Z h0 tx kx .byte (Int32.ofNat n) ((ds.map StrChars.lo8).map Value.int) (.int 0)) (hnx : ds.length = n) (rgx : ∀ q_ ∈ ds, ¬ q_ < 0 ∧ ¬ (255 : Int32) < q_) (nxt : tx ≠ tb) (nxb : tx ≠ b) (nyt : x ≠ tb) (nyb : x ≠ b) (h18 : k + n ≤ 18) :
    own_M l (⟨"java/lang/AbstractStringBuilder", "append", "(Ljava/lang/String;)Ljava/lang/AbstractStringBuilder;"⟩ : MethodName) jdk_68_method_22_code 3 (some (.object "java/lang/AbstractStringBuilder")) ws ({ frames := 7, cells := 1, slots := 72, locals := 105 } : Room) #[(.ref b), (.ref x)] Z h0 (QAs1 Z b x tb kt k cs c tx kx n ds z fm h0 n0) := by
  refine MetFree.of_bodySF (plainFor_of_name pn_4) hisR ?_
  intro p e s m args below meth cd s₁ Bd hml hP hK
  obtain ⟨rfl, hZ, hh⟩ := hP
  obtain ⟨X0, e0, H, hlk, hown, hret⟩ := own_start (R := ({ frames := 7, cells := 1, slots := 72, locals := 105 } : Room)) Bd hh rfl
  have hx := H.1; have hby := H.2; have N0 := Fr.nil n0
  obtain ⟨hz, O, SC, SA, SH, SL, SF, hfm⟩ := PU
  show own_Fin p e below (own_Ans s (QAs1 Z b x tb kt k cs c tx kx n ds z fm h0 n0) ({ frames := 7, cells := 1, slots := 72, locals := 105 } : Room).cells ({ frames := 7, cells := 1, slots := 72, locals := 105 } : Room).slots) (s₁.setTop (entryFrame m #[(.ref b), (.ref x)] 3))
  refine own_cast (ef_rmAs1 m b x) ?_
  show own_Fin p e below _ (s₁.setTop (mkF m 0 #[.val (.ref b), .val (.ref x), .unset] []))
  refine o_aldN X0 H (od dB33 0 rfl) rfl rfl ?_
  refine own_on (fun tq => XS.ifnonnullYes X0.here hx rfl (pc0 := 1) (pc' := 9) rfl (hb hby (od dB33 1 rfl)) rfl (by decide) (by decide)) ?_
  show own_Fin p e below _ (s₁.setTop (mkF m 9 #[.val (.ref b), .val (.ref x), .unset] []))
  refine o_aldN X0 H (od dB33 5 rfl) rfl rfl ?_
  obtain ⟨cq137, kq137, q137a, q137b, q137c⟩ := isOf hZ e0 Ex
  obtain ⟨_, _, ⟨T137, L137, k137, n137⟩, -, X137, ⟨Lc137, hQ137, l137, y137, z137⟩, st137⟩ := X0.virtualBack hx (y := (⟨"java/lang/String", "length", "()I"⟩ : MethodName)) (z := (⟨"java/lang/String", "length", "()I"⟩ : MethodName)) hown (mvT hZ (ow hw 173 rfl)) (mvT hZ (ow hw 35 rfl)) (notFace_of_selects (args := #[]) (mvT hZ (ow hw 37 rfl))) (mvT hZ (ow hw 37 rfl)) (mvT hZ (ow hw 36 rfl)) (by decide) (StrChars.Road.lenW (W := 0) hZ (own_wL hw) (ow hw 6 rfl) Ex Vx Cx Kx (own_cod hnx (fun c q => (rgx c q).2)) (own_r16 rgx) (SC.ext O.2) hz (by rw [hnx]; omega) (by decide) (by decide)) q137a q137c (g := (mkF m 10 #[.val (.ref b), .val (.ref x), .unset] [(.ref x)])) rfl hml.symm (Steps.refl _) (argsL := []) (rest := []) (lenOf pd_10 rfl) rfl (o_mr rfl) (hb hby (od dB33 6 rfl)) (fun _ _ => ⟨rfl, e0, (by decide : 0 + 0 ≤ _), (by decide : 0 + 0 ≤ _)⟩)
  dsimp only [Pt.U, Pt.locs, Pt.cells, Pt.slots] at X137 l137 y137 z137 st137 hQ137
  replace l137 := l137.symm; replace y137 := y137.symm; replace z137 := z137.symm; subst l137 y137 z137
  obtain ⟨rfl, rfl, e137⟩ := hQ137
  have N137 := Fr.app N0 (Fr.nil n0)
  rw [hnx] at st137
  refine own_via st137 ?_
  show own_Fin p e below _ (T137.setTop (mkF m 13 #[.val (.ref b), .val (.ref x), .unset] [(.int (Int32.ofNat n))]))
  refine o_istN X137 H (od dB33 7 rfl) (L' := #[.val (.ref b), .val (.ref x), .val (.int (Int32.ofNat n))]) rfl ?_
  refine o_aldN X137 H (od dB33 8 rfl) rfl rfl ?_
  refine o_aldN X137 H (od dB33 9 rfl) rfl rfl ?_
  refine o_gf X137 H hZ hown (ow hw 86 rfl) Via.refl e137 Fc (od dB33 10 rfl) fun T138 X138 e138 => ?_
  refine o_ildN X138 H (od dB33 11 rfl) rfl ?_
  refine o_iadd X138 H (od dB33 12 rfl) ?_
  rw [own_add]
  show own_Fin p e below _ (T138.setTop (mkF m 21 #[.val (.ref b), .val (.ref x), .val (.int (Int32.ofNat n))] [(.int (Int32.ofNat (k + n))), (.ref b)]))
  refine o_pc (argsL := [(.int (Int32.ofNat (k + n)))]) (rest := []) X138 H hml hZ hown (ow hw 154 rfl) (ow hw 155 rfl) (own_selfsel (mvT hZ (ow hw 157 rfl)) (Cond.privateMethod_at (mvP hZ (ow hw 156 rfl) (args := #[]))) (mvT hZ (ow hw 155 rfl)) (by decide)) (ow hw 156 rfl) (ow hw 158 rfl) (backOf (W := 0) (rmEn1 l Z a0 hw [] b tb kt k cs c (k + n) h0 n0 (by exact Z0) Eb Fv Fc Fk Fm Et At gb gt nbt hk (by omega) (by omega) (by omega)) hZ (ow hw 158 rfl) (ow hw 52 rfl) (by decide) (by decide)) (by decide) Eb e138 pd_19 (od dB33 13 rfl) rfl rfl rfl rfl rfl (by decide) (by decide) fun _ T139 Lc139 X139 hQ139 => ?_
  obtain ⟨tg139, kt139, c139, rfl, N139q, K139, ht139, gt139, nb139, hq139, hc139, Eq139, Vq139, Cq139, Dq139, Mq139, Xq139, Aq139⟩ := hQ139
  have ne139_x : x ≠ tg139 := own_neT ht139 nyt Ex.lt
  have ne139_tx : tx ≠ tg139 := own_neT ht139 nxt Kx.lt
  have kk139 : tg139 ∈ [b, tb] ∨ h0.size ≤ tg139 := by rcases ht139 with h | h; exact Or.inl (h ▸ List.mem_of_getElem? (i := 1) rfl); exact Or.inr (Nat.le_trans (Keep.refl h0 [b, tb]).1 h)
  have N139 := Fr.app N137 N139q
  show own_Fin p e below _ (T139.setTop (mkF m 24 #[.val (.ref b), .val (.ref x), .val (.int (Int32.ofNat n))] []))
  refine o_aldN X139 H (od dB33 14 rfl) rfl rfl ?_
  refine o_aldN X139 H (od dB33 15 rfl) rfl rfl ?_
  refine o_gf X139 H hZ hown (ow hw 86 rfl) Via.refl rfl Cq139 (od dB33 16 rfl) fun T140 X140 e140 => ?_
  refine o_aldN X140 H (od dB33 17 rfl) rfl rfl ?_
  refine o_pc (argsL := [(.int (Int32.ofNat k)), (.ref x)]) (rest := []) X140 H hml hZ hown (ow hw 199 rfl) (ow hw 200 rfl) (own_selfsel (mvT hZ (ow hw 202 rfl)) (Cond.privateMethod_at (mvP hZ (ow hw 201 rfl) (args := #[]))) (mvT hZ (ow hw 200 rfl)) (by decide)) (ow hw 201 rfl) (ow hw 203 rfl) (backOf (W := 0) (rmPs1 l Z a0 hw [] b x tg139 kt139 k cs c139 tx kx n ds z fm T139.heap n0 (by exact (Nat.le_trans Z0 K139.1)) ⟨hz, (O.keep K139 (allS gb all0)), SC, SA, SH, SL, SF, hfm⟩ Eq139 Vq139 Cq139 Dq139 Mq139 Xq139 Aq139 gb gt139 nb139 hk (by omega) (by omega) (Ex.keep K139) (Cx.keep K139 (ninS nyb nin0)) (Vx.keep K139 (ninS nyb nin0)) (Kx.keep K139 (ninS nxb nin0)) hnx rgx ne139_tx nxb ne139_x nyb (by omega)) hZ (ow hw 203 rfl) (ow hw 52 rfl) (by decide) (by decide)) (by decide) Eq139 e140 pd_20 (od dB33 18 rfl) rfl rfl rfl rfl rfl (by decide) (by decide) fun _ T141 Lc141 X141 hQ141 => ?_
  obtain ⟨rfl, N141q, K141, Aq141⟩ := hQ141
  have N141 := Fr.app N139 N141q
  have y142 := (((Keep.refl h0 [b, tb]).trans K139 (allS (Or.inl (List.mem_of_getElem? (i := 0) rfl)) all0)).trans K141 (allS kk139 all0))
  show own_Fin p e below _ (T141.setTop (mkF m 33 #[.val (.ref b), .val (.ref x), .val (.int (Int32.ofNat n))] []))
  refine o_aldN X141 H (od dB33 19 rfl) rfl rfl ?_
  refine o_dup X141 H (od dB33 20 rfl) rfl ?_
  refine o_gf X141 H hZ hown (ow hw 86 rfl) Via.refl rfl (Cq139.keep K141 (ninS nb139 nin0)) (od dB33 21 rfl) fun T143 X143 e143 => ?_
  refine o_ildN X143 H (od dB33 22 rfl) rfl ?_
  refine o_iadd X143 H (od dB33 23 rfl) ?_
  rw [own_add]
  show own_Fin p e below _ (T143.setTop (mkF m 40 #[.val (.ref b), .val (.ref x), .val (.int (Int32.ofNat n))] [(.int (Int32.ofNat (k + n))), (.ref b)]))
  obtain ⟨T144, h144, X144, e144, W144, st144⟩ := putF X143 hx hZ hown (host := "") (Or.inl (ow hw 86 rfl)) Via.refl e143 (Cq139.keep K141 (ninS nb139 nin0)) (Eq139.keep K141) (Or.inl (ow hw 87 rfl)) (ow hw 32 rfl) (ty := .int) (by decide) rfl rfl (g := (mkF m 40 #[.val (.ref b), .val (.ref x), .val (.int (Int32.ofNat n))] [(.int (Int32.ofNat (k + n))), (.ref b)])) rfl rfl (hb hby (od dB33 24 rfl))
  have N144 := Fr.snoc X144 N141 gb
  have y145 := ((Vq139.keep K141 (ninS nb139 nin0)).other W144 (Or.inr (slot_ne (Or.inl (ow hw 57 rfl)) (Or.inl (ow hw 87 rfl)) (by decide) (t := (.array .byte)) (t' := .int) (by decide) (by decide))))
  have y146 := ((Dq139.keep K141 (ninS nb139 nin0)).other W144 (Or.inr (slot_ne (Or.inl (ow hw 59 rfl)) (Or.inl (ow hw 87 rfl)) (by decide) (t := .byte) (t' := .int) (by decide) (by decide))))
  have y147 := ((Mq139.keep K141 (ninS nb139 nin0)).other W144 (Or.inr (slot_ne (Or.inl (ow hw 279 rfl)) (Or.inl (ow hw 87 rfl)) (by decide) (t := .boolean) (t' := .int) (by decide) (by decide))))
  refine own_on st144 ?_
  show own_Fin p e below _ (T144.setTop (mkF m 43 #[.val (.ref b), .val (.ref x), .val (.int (Int32.ofNat n))] []))
  refine o_aldN X144 H (od dB33 25 rfl) rfl rfl ?_
  exact own_ret (t := (.object "java/lang/AbstractStringBuilder")) X144 hx hlk hret rfl (Or.inr (Or.inr (Or.inr (Or.inr ⟨rfl, rfl, rfl⟩)))) (hb hby (od dB33 26 rfl)) (by show QAs1 Z b x tb kt k cs c tx kx n ds z fm h0 n0 _ T144.heap _; rw [e144]; exact ⟨tg139, kt139, c139, rfl, N144, (y142.wr W144 (Or.inl (List.mem_of_getElem? (i := 0) rfl))), ht139, gt139, nb139, (by omega), (by omega), ((Eq139.keep K141).wr W144), y145, ((Cq139.keep K141 (ninS nb139 nin0)).same W144), y146, y147, ((Xq139.keep K141).wr W144), (Aq141.other W144 (Ne.symm nb139))⟩) (by decide) (by decide)
theorem dB31 : oL jdk_43_method_3_code [(0, .iload_n 0, 1), (1, .sipush 255, 3), (4, .if_icmp .gt 7, 3), (7, .iconst 1, 1), (8, .goto 4, 3), (11, .iconst 0, 1), (12, .ireturn, 1)] := by unfold oL; decide +kernel
theorem ef_rmCe0 (m : MethodId) (x0 : Int32) : entryFrame m #[(.int x0)] 1 = mkF m 0 #[.val (.int x0)] [] := by first | (simp [entryFrame, mkF, argsToLocals, Value.category]; done) | rfl
def QCe0 (Z : State) (ch : Int32) (h0 : Heap) (n0 : Nat) (v : Option Value) (h : Heap) (L : List Loc) : Prop := v = some (.int (0 : Int32)) ∧ Fr n0 L ∧ h = h0
set_option maxRecDepth 65536 in
set_option maxHeartbeats 40000000 in
theorem rmCe0 (l : Launch) (Z : State) (a0 : Array Value) (hw : ∀ d ∈ tables_1, d.before a0 Z = true) (ws : List Jvm.Cond) (ch : Int32) (h0 : Heap) (n0 : Nat) (Z0 : n0 ≤ h0.size) (hce : (255 : Int32) < ch) :
    own_M l (⟨"java/lang/StringLatin1", "canEncode", "(C)Z"⟩ : MethodName) jdk_43_method_3_code 1 (some .boolean) ws ({ frames := 0, cells := 0, slots := 0, locals := 0 } : Room) #[(.int ch)] Z h0 (QCe0 Z ch h0 n0) := by
  refine MetFree.of_bodySF (plainFor_of_name pn_3) hisR ?_
  intro p e s m args below meth cd s₁ Bd hml hP hK
  obtain ⟨rfl, hZ, hh⟩ := hP
  obtain ⟨X0, e0, H, hlk, hown, hret⟩ := own_start (R := ({ frames := 0, cells := 0, slots := 0, locals := 0 } : Room)) Bd hh rfl
  have hx := H.1; have hby := H.2; have N0 := Fr.nil n0
  show own_Fin p e below (own_Ans s (QCe0 Z ch h0 n0) ({ frames := 0, cells := 0, slots := 0, locals := 0 } : Room).cells ({ frames := 0, cells := 0, slots := 0, locals := 0 } : Room).slots) (s₁.setTop (entryFrame m #[(.int ch)] 1))
  refine own_cast (ef_rmCe0 m ch) ?_
  show own_Fin p e below _ (s₁.setTop (mkF m 0 #[.val (.int ch)] []))
  refine o_ildN X0 H (od dB31 0 rfl) rfl ?_
  refine o_si X0 H (od dB31 1 rfl) (v := 255) rfl ?_
  refine o_icY X0 H (od dB31 2 rfl) (tlt hce).2.2.1 (pc' := 11) (by decide) (by decide) ?_
  refine o_ic X0 H (od dB31 5 rfl) (v := 0) rfl ?_
  exact own_ret (t := .boolean) X0 hx hlk hret rfl (Or.inl ⟨rfl, (by simp), _, rfl⟩) (hb hby (od dB31 6 rfl)) (⟨rfl, N0, e0⟩) (by decide) (by decide)
theorem ef_rmCe1 (m : MethodId) (x0 : Int32) : entryFrame m #[(.int x0)] 1 = mkF m 0 #[.val (.int x0)] [] := by first | (simp [entryFrame, mkF, argsToLocals, Value.category]; done) | rfl
def QCe1 (Z : State) (ch : Int32) (h0 : Heap) (n0 : Nat) (v : Option Value) (h : Heap) (L : List Loc) : Prop := v = some (.int (1 : Int32)) ∧ Fr n0 L ∧ h = h0
set_option maxRecDepth 65536 in
set_option maxHeartbeats 40000000 in
theorem rmCe1 (l : Launch) (Z : State) (a0 : Array Value) (hw : ∀ d ∈ tables_1, d.before a0 Z = true) (ws : List Jvm.Cond) (ch : Int32) (h0 : Heap) (n0 : Nat) (Z0 : n0 ≤ h0.size) (hce : ¬ (255 : Int32) < ch) :
    own_M l (⟨"java/lang/StringLatin1", "canEncode", "(C)Z"⟩ : MethodName) jdk_43_method_3_code 1 (some .boolean) ws ({ frames := 0, cells := 0, slots := 0, locals := 0 } : Room) #[(.int ch)] Z h0 (QCe1 Z ch h0 n0) := by
  refine MetFree.of_bodySF (plainFor_of_name pn_3) hisR ?_
  intro p e s m args below meth cd s₁ Bd hml hP hK
  obtain ⟨rfl, hZ, hh⟩ := hP
  obtain ⟨X0, e0, H, hlk, hown, hret⟩ := own_start (R := ({ frames := 0, cells := 0, slots := 0, locals := 0 } : Room)) Bd hh rfl
  have hx := H.1; have hby := H.2; have N0 := Fr.nil n0
  show own_Fin p e below (own_Ans s (QCe1 Z ch h0 n0) ({ frames := 0, cells := 0, slots := 0, locals := 0 } : Room).cells ({ frames := 0, cells := 0, slots := 0, locals := 0 } : Room).slots) (s₁.setTop (entryFrame m #[(.int ch)] 1))
  refine own_cast (ef_rmCe1 m ch) ?_
  show own_Fin p e below _ (s₁.setTop (mkF m 0 #[.val (.int ch)] []))
  refine o_ildN X0 H (od dB31 0 rfl) rfl ?_
  refine o_si X0 H (od dB31 1 rfl) (v := 255) rfl ?_
  refine o_icN X0 H (od dB31 2 rfl) (flt hce).2.2.1 ?_
  refine o_ic X0 H (od dB31 3 rfl) (v := 1) rfl ?_
  refine o_go X0 H (od dB31 4 rfl) (pc' := 12) (by decide) (by decide) ?_
  exact own_ret (t := .boolean) X0 hx hlk hret rfl (Or.inl ⟨rfl, (by simp), _, rfl⟩) (hb hby (od dB31 6 rfl)) (⟨rfl, N0, e0⟩) (by decide) (by decide)
theorem dB29 : oL jdk_68_method_31_code [(0, .aload_n 0, 1), (1, .aload_n 0, 1), (2, .getfield 79, 3), (5, .iconst 1, 1), (6, .iadd, 1), (7, .invokevirtual 100, 3), (10, .aload_n 0, 1), (11, .invokevirtual 83, 3), (14, .ifCond .eq 31, 3), (17, .iload_n 1, 1), (18, .invokestatic 191, 3), (21, .ifCond .eq 24, 3), (24, .aload_n 0, 1), (25, .getfield 15, 3), (28, .aload_n 0, 1), (29, .dup, 1), (30, .getfield 79, 3), (33, .dup_x1, 1), (34, .iconst 1, 1), (35, .iadd, 1), (36, .putfield 79, 3), (39, .iload_n 1, 1), (40, .i2b, 1), (41, .bastore, 1), (42, .goto 33, 3), (45, .aload_n 0, 1), (46, .invokevirtual 83, 3), (49, .ifCond .eq 7, 3), (52, .aload_n 0, 1), (53, .invokevirtual 195, 3), (56, .aload_n 0, 1), (57, .getfield 15, 3), (60, .aload_n 0, 1), (61, .dup, 1), (62, .getfield 79, 3), (65, .dup_x1, 1), (66, .iconst 1, 1), (67, .iadd, 1), (68, .putfield 79, 3), (71, .iload_n 1, 1), (72, .invokestatic 197, 3), (75, .aload_n 0, 1), (76, .areturn, 1)] := by unfold oL; decide +kernel
theorem pd_21 : parseMethodDescriptor "(C)Z" = some ⟨[.char], some .boolean⟩ := by decide +kernel
theorem ef_rmAc0 (m : MethodId) (x0 : Addr) (x1 : Int32) : entryFrame m #[(.ref x0), (.int x1)] 2 = mkF m 0 #[.val (.ref x0), .val (.int x1)] [] := by first | (simp [entryFrame, mkF, argsToLocals, Value.category]; done) | rfl
def QAc0 (Z : State) (b : Addr) (ch : Int32) (tb : Addr) (kt : ClassId) (k : Nat) (cs : List Int32) (c : Nat) (z : Int32) (fm : Value) (h0 : Heap) (n0 : Nat) (v : Option Value) (h : Heap) (L : List Loc) : Prop := ∃ (t : Addr) (kx : ClassId) (c2 : Nat), v = some (.ref b) ∧ Fr n0 L ∧ Keep h0 h [b, tb] ∧ (t = tb ∨ h0.size ≤ t) ∧ n0 ≤ t ∧ b ≠ t ∧ (k + 1) ≤ c2 ∧ c2 ≤ 36 ∧ Exa Z h b "java/lang/StringBuilder" ∧ Fld Z h b "java/lang/AbstractStringBuilder" "value" "[B" (.ref t) ∧ Fld Z h b "java/lang/AbstractStringBuilder" "count" "I" (.int (Int32.ofNat (k + 1))) ∧ Fld Z h b "java/lang/AbstractStringBuilder" "coder" "B" (.int (0 : Int32)) ∧ Fld Z h b "java/lang/AbstractStringBuilder" "maybeLatin1" "Z" (.int (0 : Int32)) ∧ Exa Z h t "[B" ∧ Arv Z h t kx .byte (Int32.ofNat c2) (((cs ++ [ch]).map StrChars.lo8).map Value.int) (.int 0)
set_option maxRecDepth 65536 in
set_option maxHeartbeats 40000000 in
theorem rmAc0 (l : Launch) (Z : State) (a0 : Array Value) (hw : ∀ d ∈ tables_1, d.before a0 Z = true) (ws : List Jvm.Cond) (b : Addr) (ch : Int32) (tb : Addr) (kt : ClassId) (k : Nat) (cs : List Int32) (c : Nat) (z : Int32) (fm : Value) (h0 : Heap) (n0 : Nat) (Z0 : n0 ≤ h0.size) (PU : own_PU Z n0 h0 z fm) (Eb : Exa Z h0 b "java/lang/StringBuilder") (Fv : Fld Z h0 b "java/lang/AbstractStringBuilder" "value" "[B" (.ref tb)) (Fc : Fld Z h0 b "java/lang/AbstractStringBuilder" "count" "I" (.int (Int32.ofNat k))) (Fk : Fld Z h0 b "java/lang/AbstractStringBuilder" "coder" "B" (.int (0 : Int32))) (Fm : Fld Z h0 b "java/lang/AbstractStringBuilder" "maybeLatin1" "Z" (.int (0 : Int32))) (Et : Exa Z h0 tb "[B") (At : Arv Z h0 tb kt .byte (Int32.ofNat c) ((cs.map StrChars.lo8).map Value.int) (.int 0)) (gb : n0 ≤ b) (gt : n0 ≤ tb) (nbt : b ≠ tb) (hk : cs.length = k) (hkc : k ≤ c) (hc : c ≤ 36) (hce : ¬ (255 : Int32) < ch) (rg : ∀ q_ ∈ cs, ¬ q_ < 0 ∧ ¬ (255 : Int32) < q_) (h18 : k + 1 ≤ 18) :
    own_M l (⟨"java/lang/AbstractStringBuilder", "append", "(C)Ljava/lang/AbstractStringBuilder;"⟩ : MethodName) jdk_68_method_31_code 2 (some (.object "java/lang/AbstractStringBuilder")) ws ({ frames := 4, cells := 1, slots := 72, locals := 62 } : Room) #[(.ref b), (.int ch)] Z h0 (QAc0 Z b ch tb kt k cs c z fm h0 n0) := by
  refine MetFree.of_bodySF (plainFor_of_name pn_4) hisR ?_
  intro p e s m args below meth cd s₁ Bd hml hP hK
  obtain ⟨rfl, hZ, hh⟩ := hP
  obtain ⟨X0, e0, H, hlk, hown, hret⟩ := own_start (R := ({ frames := 4, cells := 1, slots := 72, locals := 62 } : Room)) Bd hh rfl
  have hx := H.1; have hby := H.2; have N0 := Fr.nil n0
  obtain ⟨hz, O, SC, SA, SH, SL, SF, hfm⟩ := PU
  show own_Fin p e below (own_Ans s (QAc0 Z b ch tb kt k cs c z fm h0 n0) ({ frames := 4, cells := 1, slots := 72, locals := 62 } : Room).cells ({ frames := 4, cells := 1, slots := 72, locals := 62 } : Room).slots) (s₁.setTop (entryFrame m #[(.ref b), (.int ch)] 2))
  refine own_cast (ef_rmAc0 m b ch) ?_
  show own_Fin p e below _ (s₁.setTop (mkF m 0 #[.val (.ref b), .val (.int ch)] []))
  refine o_aldN X0 H (od dB29 0 rfl) rfl rfl ?_
  refine o_aldN X0 H (od dB29 1 rfl) rfl rfl ?_
  refine o_gf X0 H hZ hown (ow hw 86 rfl) Via.refl e0 Fc (od dB29 2 rfl) fun T148 X148 e148 => ?_
  refine o_ic X148 H (od dB29 3 rfl) (v := 1) rfl ?_
  refine o_iadd X148 H (od dB29 4 rfl) ?_
  rw [show Int32.ofNat k + (1 : Int32) = Int32.ofNat (k + 1) from own_add _ 1]
  show own_Fin p e below _ (T148.setTop (mkF m 7 #[.val (.ref b), .val (.int ch)] [(.int (Int32.ofNat (k + 1))), (.ref b)]))
  refine o_pc (argsL := [(.int (Int32.ofNat (k + 1)))]) (rest := []) X148 H hml hZ hown (ow hw 154 rfl) (ow hw 155 rfl) (own_selfsel (mvT hZ (ow hw 157 rfl)) (Cond.privateMethod_at (mvP hZ (ow hw 156 rfl) (args := #[]))) (mvT hZ (ow hw 155 rfl)) (by decide)) (ow hw 156 rfl) (ow hw 158 rfl) (backOf (W := 0) (rmEn0 l Z a0 hw [] b tb kt k cs c (k + 1) h0 n0 (by exact Z0) Eb Fv Fc Fk Fm Et At gb gt nbt hk (by omega) (by omega) (by omega)) hZ (ow hw 158 rfl) (ow hw 52 rfl) (by decide) (by decide)) (by decide) Eb e148 pd_19 (od dB29 5 rfl) rfl rfl rfl rfl rfl (by decide) (by decide) fun _ T149 Lc149 X149 hQ149 => ?_
  obtain ⟨tg149, kt149, c149, rfl, N149q, K149, ht149, gt149, nb149, hq149, hc149, Eq149, Vq149, Cq149, Dq149, Mq149, Xq149, Aq149⟩ := hQ149
  have kk149 : tg149 ∈ [b, tb] ∨ h0.size ≤ tg149 := by rcases ht149 with h | h; exact Or.inl (h ▸ List.mem_of_getElem? (i := 1) rfl); exact Or.inr (Nat.le_trans (Keep.refl h0 [b, tb]).1 h)
  have N149 := Fr.app N0 N149q
  show own_Fin p e below _ (T149.setTop (mkF m 10 #[.val (.ref b), .val (.int ch)] []))
  refine o_aldN X149 H (od dB29 6 rfl) rfl rfl ?_
  refine o_vs (argsL := []) (rest := []) X149 H hml hZ hown (ow hw 159 rfl) (ow hw 89 rfl) (ow hw 91 rfl) (ow hw 90 rfl) (backOf (W := 0) (rmIl0 l Z a0 hw [] b z fm T149.heap n0 (by exact (Nat.le_trans Z0 K149.1)) ⟨hz, (O.keep K149 (allS gb all0)), SC, SA, SH, SL, SF, hfm⟩ Dq149) hZ (ow hw 92 rfl) (ow hw 52 rfl) (by decide) (by decide)) (by decide) Eq149 rfl pd_13 (od dB29 7 rfl) rfl rfl rfl rfl rfl (by decide) (by decide) (o_pk (fun _ _ _ q => q) N149 fun T150 Lc150 X150 N150 e150 => ?_)
  refine o_ifN X150 H (od dB29 8 rfl) ((if0 _ _).trans (feq (by decide : ¬ ((1 : Int32) = (0 : Int32)))).1) ?_
  refine o_ildN X150 H (od dB29 9 rfl) rfl ?_
  refine o_tc (argsL := [(.int ch)]) (rest := []) X150 H hml hZ hown (ow hw 160 rfl) (ow hw 161 rfl) (ow hw 135 rfl) (ow hw 162 rfl) (backOf (W := 0) (rmCe1 l Z a0 hw [] ch T149.heap n0 (by exact (Nat.le_trans Z0 K149.1)) hce) hZ (ow hw 162 rfl) (ow hw 135 rfl) (by decide) (by decide)) (by decide) e150 pd_21 (od dB29 10 rfl) rfl rfl rfl rfl rfl (by decide) (by decide) (o_pk (fun _ _ _ q => q) N150 fun T151 Lc151 X151 N151 e151 => ?_)
  refine o_ifN X151 H (od dB29 11 rfl) ((if0 _ _).trans (feq (by decide : ¬ ((1 : Int32) = (0 : Int32)))).1) ?_
  refine o_aldN X151 H (od dB29 12 rfl) rfl rfl ?_
  refine o_gf X151 H hZ hown (ow hw 56 rfl) Via.refl e151 Vq149 (od dB29 13 rfl) fun T152 X152 e152 => ?_
  refine o_aldN X152 H (od dB29 14 rfl) rfl rfl ?_
  refine o_dup X152 H (od dB29 15 rfl) rfl ?_
  refine o_gf X152 H hZ hown (ow hw 86 rfl) Via.refl e152 Cq149 (od dB29 16 rfl) fun T153 X153 e153 => ?_
  refine own_on (fun tq => XS.dupX1 X153.here hx rfl (hb hby (od dB29 17 rfl)) rfl rfl rfl) ?_
  show own_Fin p e below _ (T153.setTop (mkF m 34 #[.val (.ref b), .val (.int ch)] [(.int (Int32.ofNat k)), (.ref b), (.int (Int32.ofNat k)), (.ref tg149)]))
  refine o_ic X153 H (od dB29 18 rfl) (v := 1) rfl ?_
  refine o_iadd X153 H (od dB29 19 rfl) ?_
  rw [show Int32.ofNat k + (1 : Int32) = Int32.ofNat (k + 1) from own_add _ 1]
  show own_Fin p e below _ (T153.setTop (mkF m 36 #[.val (.ref b), .val (.int ch)] [(.int (Int32.ofNat (k + 1))), (.ref b), (.int (Int32.ofNat k)), (.ref tg149)]))
  obtain ⟨T154, h154, X154, e154, W154, st154⟩ := putF X153 hx hZ hown (host := "") (Or.inl (ow hw 86 rfl)) Via.refl e153 Cq149 Eq149 (Or.inl (ow hw 87 rfl)) (ow hw 32 rfl) (ty := .int) (by decide) rfl rfl (g := (mkF m 36 #[.val (.ref b), .val (.int ch)] [(.int (Int32.ofNat (k + 1))), (.ref b), (.int (Int32.ofNat k)), (.ref tg149)])) rfl rfl (hb hby (od dB29 20 rfl))
  have N154 := Fr.snoc X154 N151 gb
  have y155 := (((Keep.refl h0 [b, tb]).trans K149 (allS (Or.inl (List.mem_of_getElem? (i := 0) rfl)) all0)).wr W154 (Or.inl (List.mem_of_getElem? (i := 0) rfl)))
  have y156 := (Vq149.other W154 (Or.inr (slot_ne (Or.inl (ow hw 57 rfl)) (Or.inl (ow hw 87 rfl)) (by decide) (t := (.array .byte)) (t' := .int) (by decide) (by decide))))
  have y157 := (Dq149.other W154 (Or.inr (slot_ne (Or.inl (ow hw 59 rfl)) (Or.inl (ow hw 87 rfl)) (by decide) (t := .byte) (t' := .int) (by decide) (by decide))))
  have y158 := (Mq149.other W154 (Or.inr (slot_ne (Or.inl (ow hw 279 rfl)) (Or.inl (ow hw 87 rfl)) (by decide) (t := .boolean) (t' := .int) (by decide) (by decide))))
  refine own_on st154 ?_
  show own_Fin p e below _ (T154.setTop (mkF m 39 #[.val (.ref b), .val (.int ch)] [(.int (Int32.ofNat k)), (.ref tg149)]))
  refine o_ildN X154 H (od dB29 21 rfl) rfl ?_
  refine own_on (fun tq => XS.i2b X154.here hx rfl (hb hby (od dB29 22 rfl)) rfl) ?_
  show own_Fin p e below _ (T154.setTop (mkF m 41 #[.val (.ref b), .val (.int ch)] [(.int (ch.toInt8.toInt32)), (.int (Int32.ofNat k)), (.ref tg149)]))
  have pd159 : Arv Z h154 tg149 kt149 .byte (Int32.ofNat c149) (((cs.map StrChars.lo8).map Value.int) ++ List.replicate (c149 - k) (Value.int 0)) (.int 0) := (Aq149.other W154 (Ne.symm nb149)).pad (pad_rep _ _ _)
  have cp160 : Arv Z h154 tg149 kt149 .byte (Int32.ofNat c149) (((cs.map StrChars.lo8).map Value.int) ++ List.replicate (c149 - k) (Value.int 0)) (.int 0) := pd159
  obtain ⟨cl160, Ar160, q160, S160, G160, H160, F160⟩ := cp160
  have hin160 : ¬ ((Int32.ofNat k) < 0 ∨ cl160.slots.size ≤ ((Int32.ofNat k)).toNatClampNeg) := inb_of S160 ⟨own_nneg (by omega), own_olt (b := c149) (by omega) (by omega)⟩
  obtain ⟨T160, h160, X160, e160, W160, st160⟩ := stB X154 hx hZ e154 Ar160 (j := (Int32.ofNat k)) hin160 (g := (mkF m 41 #[.val (.ref b), .val (.int ch)] [(.int (ch.toInt8.toInt32)), (.int (Int32.ofNat k)), (.ref tg149)])) rfl rfl (hb hby (od dB29 23 rfl))
  have V160 : Arv Z h160 tg149 kt149 .byte (Int32.ofNat c149) ((((cs.map StrChars.lo8).map Value.int) ++ List.replicate (c149 - k) (Value.int 0)).set k (.int (StrChars.lo8 ch))) (.int 0) := by have q := Arv.set Ar160 q160 S160 G160 H160 F160 (fits_nar_byte _) W160 k (own_clampN (by omega)) (by rw [List.length_append, own_vl, List.length_replicate, hk]; omega); rw [own_nb2] at q; exact q
  have N160 := Fr.snoc X160 N154 gt149
  have U160 : Arv Z h160 tg149 kt149 .byte (Int32.ofNat c149) (((cs ++ [ch]).map StrChars.lo8).map Value.int) (.int 0) := V160.pad (fun i => by rw [List.map_append, List.map_append]; exact own_setE (.int (StrChars.lo8 ch)) (by rw [own_vl, hk]) (by omega) i)
  refine own_on st160 ?_
  show own_Fin p e below _ (T160.setTop (mkF m 42 #[.val (.ref b), .val (.int ch)] []))
  refine o_go X160 H (od dB29 24 rfl) (pc' := 75) (by decide) (by decide) ?_
  refine o_aldN X160 H (od dB29 41 rfl) rfl rfl ?_
  exact own_ret (t := (.object "java/lang/AbstractStringBuilder")) X160 hx hlk hret rfl (Or.inr (Or.inr (Or.inr (Or.inr ⟨rfl, rfl, rfl⟩)))) (hb hby (od dB29 42 rfl)) (by show QAc0 Z b ch tb kt k cs c z fm h0 n0 _ T160.heap _; rw [e160]; exact ⟨tg149, kt149, c149, rfl, N160, (y155.wr W160 kk149), ht149, gt149, nb149, (by omega), (by omega), ((Eq149.wr W154).wr W160), (y156.other W160 (Or.inl nb149)), ((Cq149.same W154).other W160 (Or.inl nb149)), (y157.other W160 (Or.inl nb149)), (y158.other W160 (Or.inl nb149)), ((Xq149.wr W154).wr W160), U160⟩) (by decide) (by decide)
theorem ef_rmAcw (m : MethodId) (x0 : Addr) (x1 : Int32) : entryFrame m #[(.ref x0), (.int x1)] 2 = mkF m 0 #[.val (.ref x0), .val (.int x1)] [] := by first | (simp [entryFrame, mkF, argsToLocals, Value.category]; done) | rfl
def QAcw (Z : State) (b : Addr) (ch : Int32) (tb : Addr) (kt : ClassId) (k : Nat) (cs : List Int32) (c : Nat) (z : Int32) (fm : Value) (h0 : Heap) (n0 : Nat) (v : Option Value) (h : Heap) (L : List Loc) : Prop := ∃ (t : Addr) (kx : ClassId) (c2 : Nat), v = some (.ref b) ∧ Fr n0 L ∧ Keep h0 h [b, tb] ∧ (t = tb ∨ h0.size ≤ t) ∧ n0 ≤ t ∧ b ≠ t ∧ (k + 1) ≤ c2 ∧ c2 ≤ 36 ∧ Exa Z h b "java/lang/StringBuilder" ∧ Fld Z h b "java/lang/AbstractStringBuilder" "value" "[B" (.ref t) ∧ Fld Z h b "java/lang/AbstractStringBuilder" "count" "I" (.int (Int32.ofNat (k + 1))) ∧ Fld Z h b "java/lang/AbstractStringBuilder" "coder" "B" (.int (1 : Int32)) ∧ Fld Z h b "java/lang/AbstractStringBuilder" "maybeLatin1" "Z" (.int (0 : Int32)) ∧ Exa Z h t "[B" ∧ Arv Z h t kx .byte (Int32.ofNat (2 * c2)) (StrChars.Road.wideBytes (cs ++ [ch])) (.int 0)
set_option maxRecDepth 65536 in
set_option maxHeartbeats 40000000 in
theorem rmAcw (l : Launch) (Z : State) (a0 : Array Value) (hw : ∀ d ∈ tables_1, d.before a0 Z = true) (ws : List Jvm.Cond) (b : Addr) (ch : Int32) (tb : Addr) (kt : ClassId) (k : Nat) (cs : List Int32) (c : Nat) (z : Int32) (fm : Value) (h0 : Heap) (n0 : Nat) (Z0 : n0 ≤ h0.size) (PU : own_PU Z n0 h0 z fm) (Eb : Exa Z h0 b "java/lang/StringBuilder") (Fv : Fld Z h0 b "java/lang/AbstractStringBuilder" "value" "[B" (.ref tb)) (Fc : Fld Z h0 b "java/lang/AbstractStringBuilder" "count" "I" (.int (Int32.ofNat k))) (Fk : Fld Z h0 b "java/lang/AbstractStringBuilder" "coder" "B" (.int (0 : Int32))) (Fm : Fld Z h0 b "java/lang/AbstractStringBuilder" "maybeLatin1" "Z" (.int (0 : Int32))) (Et : Exa Z h0 tb "[B") (At : Arv Z h0 tb kt .byte (Int32.ofNat c) ((cs.map StrChars.lo8).map Value.int) (.int 0)) (gb : n0 ≤ b) (gt : n0 ≤ tb) (nbt : b ≠ tb) (hk : cs.length = k) (hkc : k ≤ c) (hc : c ≤ 36) (hce : (255 : Int32) < ch) (rg : ∀ q_ ∈ cs, ¬ q_ < 0 ∧ ¬ (255 : Int32) < q_) (h18 : k + 1 ≤ 18) :
    own_M l (⟨"java/lang/AbstractStringBuilder", "append", "(C)Ljava/lang/AbstractStringBuilder;"⟩ : MethodName) jdk_68_method_31_code 2 (some (.object "java/lang/AbstractStringBuilder")) ws ({ frames := 6, cells := 2, slots := 144, locals := 89 } : Room) #[(.ref b), (.int ch)] Z h0 (QAcw Z b ch tb kt k cs c z fm h0 n0) := by
  refine MetFree.of_bodySF (plainFor_of_name pn_4) hisR ?_
  intro p e s m args below meth cd s₁ Bd hml hP hK
  obtain ⟨rfl, hZ, hh⟩ := hP
  obtain ⟨X0, e0, H, hlk, hown, hret⟩ := own_start (R := ({ frames := 6, cells := 2, slots := 144, locals := 89 } : Room)) Bd hh rfl
  have hx := H.1; have hby := H.2; have N0 := Fr.nil n0
  obtain ⟨hz, O, SC, SA, SH, SL, SF, hfm⟩ := PU
  show own_Fin p e below (own_Ans s (QAcw Z b ch tb kt k cs c z fm h0 n0) ({ frames := 6, cells := 2, slots := 144, locals := 89 } : Room).cells ({ frames := 6, cells := 2, slots := 144, locals := 89 } : Room).slots) (s₁.setTop (entryFrame m #[(.ref b), (.int ch)] 2))
  refine own_cast (ef_rmAcw m b ch) ?_
  show own_Fin p e below _ (s₁.setTop (mkF m 0 #[.val (.ref b), .val (.int ch)] []))
  refine o_aldN X0 H (od dB29 0 rfl) rfl rfl ?_
  refine o_aldN X0 H (od dB29 1 rfl) rfl rfl ?_
  refine o_gf X0 H hZ hown (ow hw 86 rfl) Via.refl e0 Fc (od dB29 2 rfl) fun T161 X161 e161 => ?_
  refine o_ic X161 H (od dB29 3 rfl) (v := 1) rfl ?_
  refine o_iadd X161 H (od dB29 4 rfl) ?_
  rw [show Int32.ofNat k + (1 : Int32) = Int32.ofNat (k + 1) from own_add _ 1]
  show own_Fin p e below _ (T161.setTop (mkF m 7 #[.val (.ref b), .val (.int ch)] [(.int (Int32.ofNat (k + 1))), (.ref b)]))
  refine o_pc (argsL := [(.int (Int32.ofNat (k + 1)))]) (rest := []) X161 H hml hZ hown (ow hw 154 rfl) (ow hw 155 rfl) (own_selfsel (mvT hZ (ow hw 157 rfl)) (Cond.privateMethod_at (mvP hZ (ow hw 156 rfl) (args := #[]))) (mvT hZ (ow hw 155 rfl)) (by decide)) (ow hw 156 rfl) (ow hw 158 rfl) (backOf (W := 0) (rmEn0 l Z a0 hw [] b tb kt k cs c (k + 1) h0 n0 (by exact Z0) Eb Fv Fc Fk Fm Et At gb gt nbt hk (by omega) (by omega) (by omega)) hZ (ow hw 158 rfl) (ow hw 52 rfl) (by decide) (by decide)) (by decide) Eb e161 pd_19 (od dB29 5 rfl) rfl rfl rfl rfl rfl (by decide) (by decide) fun _ T162 Lc162 X162 hQ162 => ?_
  obtain ⟨tg162, kt162, c162, rfl, N162q, K162, ht162, gt162, nb162, hq162, hc162, Eq162, Vq162, Cq162, Dq162, Mq162, Xq162, Aq162⟩ := hQ162
  have kk162 : tg162 ∈ [b, tb] ∨ h0.size ≤ tg162 := by rcases ht162 with h | h; exact Or.inl (h ▸ List.mem_of_getElem? (i := 1) rfl); exact Or.inr (Nat.le_trans (Keep.refl h0 [b, tb]).1 h)
  have N162 := Fr.app N0 N162q
  show own_Fin p e below _ (T162.setTop (mkF m 10 #[.val (.ref b), .val (.int ch)] []))
  refine o_aldN X162 H (od dB29 6 rfl) rfl rfl ?_
  refine o_vs (argsL := []) (rest := []) X162 H hml hZ hown (ow hw 159 rfl) (ow hw 89 rfl) (ow hw 91 rfl) (ow hw 90 rfl) (backOf (W := 0) (rmIl0 l Z a0 hw [] b z fm T162.heap n0 (by exact (Nat.le_trans Z0 K162.1)) ⟨hz, (O.keep K162 (allS gb all0)), SC, SA, SH, SL, SF, hfm⟩ Dq162) hZ (ow hw 92 rfl) (ow hw 52 rfl) (by decide) (by decide)) (by decide) Eq162 rfl pd_13 (od dB29 7 rfl) rfl rfl rfl rfl rfl (by decide) (by decide) (o_pk (fun _ _ _ q => q) N162 fun T163 Lc163 X163 N163 e163 => ?_)
  refine o_ifN X163 H (od dB29 8 rfl) ((if0 _ _).trans (feq (by decide : ¬ ((1 : Int32) = (0 : Int32)))).1) ?_
  refine o_ildN X163 H (od dB29 9 rfl) rfl ?_
  refine o_tc (argsL := [(.int ch)]) (rest := []) X163 H hml hZ hown (ow hw 160 rfl) (ow hw 161 rfl) (ow hw 135 rfl) (ow hw 162 rfl) (backOf (W := 0) (rmCe0 l Z a0 hw [] ch T162.heap n0 (by exact (Nat.le_trans Z0 K162.1)) hce) hZ (ow hw 162 rfl) (ow hw 135 rfl) (by decide) (by decide)) (by decide) e163 pd_21 (od dB29 10 rfl) rfl rfl rfl rfl rfl (by decide) (by decide) (o_pk (fun _ _ _ q => q) N163 fun T164 Lc164 X164 N164 e164 => ?_)
  refine o_ifY X164 H (od dB29 11 rfl) ((if0 _ _).trans (teq (by decide : (0 : Int32) = (0 : Int32))).1) (pc' := 45) (by decide) (by decide) ?_
  refine o_aldN X164 H (od dB29 25 rfl) rfl rfl ?_
  refine o_vs (argsL := []) (rest := []) X164 H hml hZ hown (ow hw 159 rfl) (ow hw 89 rfl) (ow hw 91 rfl) (ow hw 90 rfl) (backOf (W := 0) (rmIl0 l Z a0 hw [] b z fm T162.heap n0 (by exact (Nat.le_trans Z0 K162.1)) ⟨hz, (O.keep K162 (allS gb all0)), SC, SA, SH, SL, SF, hfm⟩ Dq162) hZ (ow hw 92 rfl) (ow hw 52 rfl) (by decide) (by decide)) (by decide) Eq162 e164 pd_13 (od dB29 26 rfl) rfl rfl rfl rfl rfl (by decide) (by decide) (o_pk (fun _ _ _ q => q) N164 fun T165 Lc165 X165 N165 e165 => ?_)
  refine o_ifN X165 H (od dB29 27 rfl) ((if0 _ _).trans (feq (by decide : ¬ ((1 : Int32) = (0 : Int32)))).1) ?_
  refine o_aldN X165 H (od dB29 28 rfl) rfl rfl ?_
  refine o_pc (argsL := []) (rest := []) X165 H hml hZ hown (ow hw 254 rfl) (ow hw 255 rfl) (own_selfsel (mvT hZ (ow hw 257 rfl)) (Cond.privateMethod_at (mvP hZ (ow hw 256 rfl) (args := #[]))) (mvT hZ (ow hw 255 rfl)) (by decide)) (ow hw 256 rfl) (ow hw 258 rfl) (backOf (W := 0) (rmIf0 l Z a0 hw [] b tg162 kt162 k cs c162 z fm T162.heap n0 (by exact (Nat.le_trans Z0 K162.1)) ⟨hz, (O.keep K162 (allS gb all0)), SC, SA, SH, SL, SF, hfm⟩ Eq162 Vq162 Cq162 Dq162 Mq162 Xq162 Aq162 gb gt162 nb162 hk (by omega) (by omega) rg) hZ (ow hw 258 rfl) (ow hw 52 rfl) (by decide) (by decide)) (by decide) Eq162 e165 pd_16 (od dB29 29 rfl) rfl rfl rfl rfl rfl (by decide) (by decide) fun _ T166 Lc166 X166 hQ166 => ?_
  obtain ⟨ti166, kt166, rfl, N166q, K166, gt166, gk166, Eq166, Vq166, Cq166, Dq166, Mq166, Xq166, Aq166⟩ := hQ166
  have ne166_b : b ≠ ti166 := Nat.ne_of_lt (Nat.lt_of_lt_of_le Eq162.lt gk166)
  have ne166_tg162 : tg162 ≠ ti166 := Nat.ne_of_lt (Nat.lt_of_lt_of_le Xq162.lt gk166)
  have N166 := Fr.app N165 N166q
  have y167 := (((Keep.refl h0 [b, tb]).trans K162 (allS (Or.inl (List.mem_of_getElem? (i := 0) rfl)) all0)).trans K166 (allS (Or.inl (List.mem_of_getElem? (i := 0) rfl)) all0))
  show own_Fin p e below _ (T166.setTop (mkF m 56 #[.val (.ref b), .val (.int ch)] []))
  refine o_aldN X166 H (od dB29 30 rfl) rfl rfl ?_
  refine o_gf X166 H hZ hown (ow hw 56 rfl) Via.refl rfl Vq166 (od dB29 31 rfl) fun T168 X168 e168 => ?_
  refine o_aldN X168 H (od dB29 32 rfl) rfl rfl ?_
  refine o_dup X168 H (od dB29 33 rfl) rfl ?_
  refine o_gf X168 H hZ hown (ow hw 86 rfl) Via.refl e168 Cq166 (od dB29 34 rfl) fun T169 X169 e169 => ?_
  refine own_on (fun tq => XS.dupX1 X169.here hx rfl (hb hby (od dB29 35 rfl)) rfl rfl rfl) ?_
  show own_Fin p e below _ (T169.setTop (mkF m 66 #[.val (.ref b), .val (.int ch)] [(.int (Int32.ofNat k)), (.ref b), (.int (Int32.ofNat k)), (.ref ti166)]))
  refine o_ic X169 H (od dB29 36 rfl) (v := 1) rfl ?_
  refine o_iadd X169 H (od dB29 37 rfl) ?_
  rw [show Int32.ofNat k + (1 : Int32) = Int32.ofNat (k + 1) from own_add _ 1]
  show own_Fin p e below _ (T169.setTop (mkF m 68 #[.val (.ref b), .val (.int ch)] [(.int (Int32.ofNat (k + 1))), (.ref b), (.int (Int32.ofNat k)), (.ref ti166)]))
  obtain ⟨T170, h170, X170, e170, W170, st170⟩ := putF X169 hx hZ hown (host := "") (Or.inl (ow hw 86 rfl)) Via.refl e169 Cq166 Eq166 (Or.inl (ow hw 87 rfl)) (ow hw 32 rfl) (ty := .int) (by decide) rfl rfl (g := (mkF m 68 #[.val (.ref b), .val (.int ch)] [(.int (Int32.ofNat (k + 1))), (.ref b), (.int (Int32.ofNat k)), (.ref ti166)])) rfl rfl (hb hby (od dB29 38 rfl))
  have N170 := Fr.snoc X170 N166 gb
  have y171 := (Vq166.other W170 (Or.inr (slot_ne (Or.inl (ow hw 57 rfl)) (Or.inl (ow hw 87 rfl)) (by decide) (t := (.array .byte)) (t' := .int) (by decide) (by decide))))
  have y172 := (Dq166.other W170 (Or.inr (slot_ne (Or.inl (ow hw 59 rfl)) (Or.inl (ow hw 87 rfl)) (by decide) (t := .byte) (t' := .int) (by decide) (by decide))))
  have y173 := (Mq166.other W170 (Or.inr (slot_ne (Or.inl (ow hw 279 rfl)) (Or.inl (ow hw 87 rfl)) (by decide) (t := .boolean) (t' := .int) (by decide) (by decide))))
  have y174 := (Nat.le_trans ((Keep.refl h0 [b, tb]).trans K162 (allS (Or.inl (List.mem_of_getElem? (i := 0) rfl)) all0)).1 gk166)
  refine own_on st170 ?_
  show own_Fin p e below _ (T170.setTop (mkF m 71 #[.val (.ref b), .val (.int ch)] [(.int (Int32.ofNat k)), (.ref ti166)]))
  refine o_ildN X170 H (od dB29 39 rfl) rfl ?_
  refine o_tc (argsL := [(.ref ti166), (.int (Int32.ofNat k)), (.int ch)]) (rest := []) X170 H hml hZ hown (ow hw 275 rfl) (ow hw 276 rfl) (ow hw 112 rfl) (ow hw 277 rfl) (backOf (W := 0) (rm58 l Z a0 hw [] ti166 ch kt166 c162 cs k z fm h170 n0 (by exact (Nat.le_trans (Nat.le_trans (Nat.le_trans Z0 K162.1) K166.1) (Keep.of_wr W170).1)) ⟨hz, (((O.keep K162 (allS gb all0)).keep K166 (allS gb all0)).wr W170 gb), SC, SA, SH, SL, SF, hfm⟩ (Aq166.other W170 (Ne.symm ne166_b)) gt166 hk (by omega) (by omega)) hZ (ow hw 277 rfl) (ow hw 112 rfl) (by decide) (by decide)) (by decide) e170 pd_6 (od dB29 40 rfl) rfl rfl rfl rfl rfl (by decide) (by decide) fun _ T175 Lc175 X175 hQ175 => ?_
  obtain ⟨rfl, N175q, K175, Aq175⟩ := hQ175
  have N175 := Fr.app N170 N175q
  show own_Fin p e below _ (T175.setTop (mkF m 75 #[.val (.ref b), .val (.int ch)] []))
  refine o_aldN X175 H (od dB29 41 rfl) rfl rfl ?_
  exact own_ret (t := (.object "java/lang/AbstractStringBuilder")) X175 hx hlk hret rfl (Or.inr (Or.inr (Or.inr (Or.inr ⟨rfl, rfl, rfl⟩)))) (hb hby (od dB29 42 rfl)) (by show QAcw Z b ch tb kt k cs c z fm h0 n0 _ T175.heap _; exact ⟨ti166, kt166, c162, rfl, N175, ((y167.wr W170 (Or.inl (List.mem_of_getElem? (i := 0) rfl))).trans K175 (allS (Or.inr y174) all0)), (Or.inr y174), gt166, ne166_b, (by omega), (by omega), ((Eq166.wr W170).keep K175), (y171.keep K175 (ninS ne166_b nin0)), ((Cq166.same W170).keep K175 (ninS ne166_b nin0)), (y172.keep K175 (ninS ne166_b nin0)), (y173.keep K175 (ninS ne166_b nin0)), ((Xq166.wr W170).keep K175), Aq175⟩) (by decide) (by decide)
theorem ef_rmAc1 (m : MethodId) (x0 : Addr) (x1 : Int32) : entryFrame m #[(.ref x0), (.int x1)] 2 = mkF m 0 #[.val (.ref x0), .val (.int x1)] [] := by first | (simp [entryFrame, mkF, argsToLocals, Value.category]; done) | rfl
def QAc1 (Z : State) (b : Addr) (ch : Int32) (tb : Addr) (kt : ClassId) (k : Nat) (cs : List Int32) (c : Nat) (z : Int32) (fm : Value) (h0 : Heap) (n0 : Nat) (v : Option Value) (h : Heap) (L : List Loc) : Prop := ∃ (t : Addr) (kx : ClassId) (c2 : Nat), v = some (.ref b) ∧ Fr n0 L ∧ Keep h0 h [b, tb] ∧ (t = tb ∨ h0.size ≤ t) ∧ n0 ≤ t ∧ b ≠ t ∧ (k + 1) ≤ c2 ∧ c2 ≤ 36 ∧ Exa Z h b "java/lang/StringBuilder" ∧ Fld Z h b "java/lang/AbstractStringBuilder" "value" "[B" (.ref t) ∧ Fld Z h b "java/lang/AbstractStringBuilder" "count" "I" (.int (Int32.ofNat (k + 1))) ∧ Fld Z h b "java/lang/AbstractStringBuilder" "coder" "B" (.int (1 : Int32)) ∧ Fld Z h b "java/lang/AbstractStringBuilder" "maybeLatin1" "Z" (.int (0 : Int32)) ∧ Exa Z h t "[B" ∧ Arv Z h t kx .byte (Int32.ofNat (2 * c2)) (StrChars.Road.wideBytes (cs ++ [ch])) (.int 0)
set_option maxRecDepth 65536 in
set_option maxHeartbeats 40000000 in
theorem rmAc1 (l : Launch) (Z : State) (a0 : Array Value) (hw : ∀ d ∈ tables_1, d.before a0 Z = true) (ws : List Jvm.Cond) (b : Addr) (ch : Int32) (tb : Addr) (kt : ClassId) (k : Nat) (cs : List Int32) (c : Nat) (z : Int32) (fm : Value) (h0 : Heap) (n0 : Nat) (Z0 : n0 ≤ h0.size) (PU : own_PU Z n0 h0 z fm) (Eb : Exa Z h0 b "java/lang/StringBuilder") (Fv : Fld Z h0 b "java/lang/AbstractStringBuilder" "value" "[B" (.ref tb)) (Fc : Fld Z h0 b "java/lang/AbstractStringBuilder" "count" "I" (.int (Int32.ofNat k))) (Fk : Fld Z h0 b "java/lang/AbstractStringBuilder" "coder" "B" (.int (1 : Int32))) (Fm : Fld Z h0 b "java/lang/AbstractStringBuilder" "maybeLatin1" "Z" (.int (0 : Int32))) (Et : Exa Z h0 tb "[B") (At : Arv Z h0 tb kt .byte (Int32.ofNat (2 * c)) (StrChars.Road.wideBytes cs) (.int 0)) (gb : n0 ≤ b) (gt : n0 ≤ tb) (nbt : b ≠ tb) (hk : cs.length = k) (hkc : k ≤ c) (hc : c ≤ 36) (h18 : k + 1 ≤ 18) :
    own_M l (⟨"java/lang/AbstractStringBuilder", "append", "(C)Ljava/lang/AbstractStringBuilder;"⟩ : MethodName) jdk_68_method_31_code 2 (some (.object "java/lang/AbstractStringBuilder")) ws ({ frames := 4, cells := 1, slots := 72, locals := 62 } : Room) #[(.ref b), (.int ch)] Z h0 (QAc1 Z b ch tb kt k cs c z fm h0 n0) := by
  refine MetFree.of_bodySF (plainFor_of_name pn_4) hisR ?_
  intro p e s m args below meth cd s₁ Bd hml hP hK
  obtain ⟨rfl, hZ, hh⟩ := hP
  obtain ⟨X0, e0, H, hlk, hown, hret⟩ := own_start (R := ({ frames := 4, cells := 1, slots := 72, locals := 62 } : Room)) Bd hh rfl
  have hx := H.1; have hby := H.2; have N0 := Fr.nil n0
  obtain ⟨hz, O, SC, SA, SH, SL, SF, hfm⟩ := PU
  show own_Fin p e below (own_Ans s (QAc1 Z b ch tb kt k cs c z fm h0 n0) ({ frames := 4, cells := 1, slots := 72, locals := 62 } : Room).cells ({ frames := 4, cells := 1, slots := 72, locals := 62 } : Room).slots) (s₁.setTop (entryFrame m #[(.ref b), (.int ch)] 2))
  refine own_cast (ef_rmAc1 m b ch) ?_
  show own_Fin p e below _ (s₁.setTop (mkF m 0 #[.val (.ref b), .val (.int ch)] []))
  refine o_aldN X0 H (od dB29 0 rfl) rfl rfl ?_
  refine o_aldN X0 H (od dB29 1 rfl) rfl rfl ?_
  refine o_gf X0 H hZ hown (ow hw 86 rfl) Via.refl e0 Fc (od dB29 2 rfl) fun T176 X176 e176 => ?_
  refine o_ic X176 H (od dB29 3 rfl) (v := 1) rfl ?_
  refine o_iadd X176 H (od dB29 4 rfl) ?_
  rw [show Int32.ofNat k + (1 : Int32) = Int32.ofNat (k + 1) from own_add _ 1]
  show own_Fin p e below _ (T176.setTop (mkF m 7 #[.val (.ref b), .val (.int ch)] [(.int (Int32.ofNat (k + 1))), (.ref b)]))
  refine o_pc (argsL := [(.int (Int32.ofNat (k + 1)))]) (rest := []) X176 H hml hZ hown (ow hw 154 rfl) (ow hw 155 rfl) (own_selfsel (mvT hZ (ow hw 157 rfl)) (Cond.privateMethod_at (mvP hZ (ow hw 156 rfl) (args := #[]))) (mvT hZ (ow hw 155 rfl)) (by decide)) (ow hw 156 rfl) (ow hw 158 rfl) (backOf (W := 0) (rmEn1 l Z a0 hw [] b tb kt k cs c (k + 1) h0 n0 (by exact Z0) Eb Fv Fc Fk Fm Et At gb gt nbt hk (by omega) (by omega) (by omega)) hZ (ow hw 158 rfl) (ow hw 52 rfl) (by decide) (by decide)) (by decide) Eb e176 pd_19 (od dB29 5 rfl) rfl rfl rfl rfl rfl (by decide) (by decide) fun _ T177 Lc177 X177 hQ177 => ?_
  obtain ⟨tg177, kt177, c177, rfl, N177q, K177, ht177, gt177, nb177, hq177, hc177, Eq177, Vq177, Cq177, Dq177, Mq177, Xq177, Aq177⟩ := hQ177
  have kk177 : tg177 ∈ [b, tb] ∨ h0.size ≤ tg177 := by rcases ht177 with h | h; exact Or.inl (h ▸ List.mem_of_getElem? (i := 1) rfl); exact Or.inr (Nat.le_trans (Keep.refl h0 [b, tb]).1 h)
  have N177 := Fr.app N0 N177q
  show own_Fin p e below _ (T177.setTop (mkF m 10 #[.val (.ref b), .val (.int ch)] []))
  refine o_aldN X177 H (od dB29 6 rfl) rfl rfl ?_
  refine o_vs (argsL := []) (rest := []) X177 H hml hZ hown (ow hw 159 rfl) (ow hw 89 rfl) (ow hw 91 rfl) (ow hw 90 rfl) (backOf (W := 0) (rmIl1 l Z a0 hw [] b z fm T177.heap n0 (by exact (Nat.le_trans Z0 K177.1)) ⟨hz, (O.keep K177 (allS gb all0)), SC, SA, SH, SL, SF, hfm⟩ Dq177) hZ (ow hw 92 rfl) (ow hw 52 rfl) (by decide) (by decide)) (by decide) Eq177 rfl pd_13 (od dB29 7 rfl) rfl rfl rfl rfl rfl (by decide) (by decide) (o_pk (fun _ _ _ q => q) N177 fun T178 Lc178 X178 N178 e178 => ?_)
  refine o_ifY X178 H (od dB29 8 rfl) ((if0 _ _).trans (teq (by decide : (0 : Int32) = (0 : Int32))).1) (pc' := 45) (by decide) (by decide) ?_
  refine o_aldN X178 H (od dB29 25 rfl) rfl rfl ?_
  refine o_vs (argsL := []) (rest := []) X178 H hml hZ hown (ow hw 159 rfl) (ow hw 89 rfl) (ow hw 91 rfl) (ow hw 90 rfl) (backOf (W := 0) (rmIl1 l Z a0 hw [] b z fm T177.heap n0 (by exact (Nat.le_trans Z0 K177.1)) ⟨hz, (O.keep K177 (allS gb all0)), SC, SA, SH, SL, SF, hfm⟩ Dq177) hZ (ow hw 92 rfl) (ow hw 52 rfl) (by decide) (by decide)) (by decide) Eq177 e178 pd_13 (od dB29 26 rfl) rfl rfl rfl rfl rfl (by decide) (by decide) (o_pk (fun _ _ _ q => q) N178 fun T179 Lc179 X179 N179 e179 => ?_)
  refine o_ifY X179 H (od dB29 27 rfl) ((if0 _ _).trans (teq (by decide : (0 : Int32) = (0 : Int32))).1) (pc' := 56) (by decide) (by decide) ?_
  refine o_aldN X179 H (od dB29 30 rfl) rfl rfl ?_
  refine o_gf X179 H hZ hown (ow hw 56 rfl) Via.refl e179 Vq177 (od dB29 31 rfl) fun T180 X180 e180 => ?_
  refine o_aldN X180 H (od dB29 32 rfl) rfl rfl ?_
  refine o_dup X180 H (od dB29 33 rfl) rfl ?_
  refine o_gf X180 H hZ hown (ow hw 86 rfl) Via.refl e180 Cq177 (od dB29 34 rfl) fun T181 X181 e181 => ?_
  refine own_on (fun tq => XS.dupX1 X181.here hx rfl (hb hby (od dB29 35 rfl)) rfl rfl rfl) ?_
  show own_Fin p e below _ (T181.setTop (mkF m 66 #[.val (.ref b), .val (.int ch)] [(.int (Int32.ofNat k)), (.ref b), (.int (Int32.ofNat k)), (.ref tg177)]))
  refine o_ic X181 H (od dB29 36 rfl) (v := 1) rfl ?_
  refine o_iadd X181 H (od dB29 37 rfl) ?_
  rw [show Int32.ofNat k + (1 : Int32) = Int32.ofNat (k + 1) from own_add _ 1]
  show own_Fin p e below _ (T181.setTop (mkF m 68 #[.val (.ref b), .val (.int ch)] [(.int (Int32.ofNat (k + 1))), (.ref b), (.int (Int32.ofNat k)), (.ref tg177)]))
  obtain ⟨T182, h182, X182, e182, W182, st182⟩ := putF X181 hx hZ hown (host := "") (Or.inl (ow hw 86 rfl)) Via.refl e181 Cq177 Eq177 (Or.inl (ow hw 87 rfl)) (ow hw 32 rfl) (ty := .int) (by decide) rfl rfl (g := (mkF m 68 #[.val (.ref b), .val (.int ch)] [(.int (Int32.ofNat (k + 1))), (.ref b), (.int (Int32.ofNat k)), (.ref tg177)])) rfl rfl (hb hby (od dB29 38 rfl))
  have N182 := Fr.snoc X182 N179 gb
  have y183 := (((Keep.refl h0 [b, tb]).trans K177 (allS (Or.inl (List.mem_of_getElem? (i := 0) rfl)) all0)).wr W182 (Or.inl (List.mem_of_getElem? (i := 0) rfl)))
  have y184 := (Vq177.other W182 (Or.inr (slot_ne (Or.inl (ow hw 57 rfl)) (Or.inl (ow hw 87 rfl)) (by decide) (t := (.array .byte)) (t' := .int) (by decide) (by decide))))
  have y185 := (Dq177.other W182 (Or.inr (slot_ne (Or.inl (ow hw 59 rfl)) (Or.inl (ow hw 87 rfl)) (by decide) (t := .byte) (t' := .int) (by decide) (by decide))))
  have y186 := (Mq177.other W182 (Or.inr (slot_ne (Or.inl (ow hw 279 rfl)) (Or.inl (ow hw 87 rfl)) (by decide) (t := .boolean) (t' := .int) (by decide) (by decide))))
  refine own_on st182 ?_
  show own_Fin p e below _ (T182.setTop (mkF m 71 #[.val (.ref b), .val (.int ch)] [(.int (Int32.ofNat k)), (.ref tg177)]))
  refine o_ildN X182 H (od dB29 39 rfl) rfl ?_
  refine o_tc (argsL := [(.ref tg177), (.int (Int32.ofNat k)), (.int ch)]) (rest := []) X182 H hml hZ hown (ow hw 275 rfl) (ow hw 276 rfl) (ow hw 112 rfl) (ow hw 277 rfl) (backOf (W := 0) (rm58 l Z a0 hw [] tg177 ch kt177 c177 cs k z fm h182 n0 (by exact (Nat.le_trans (Nat.le_trans Z0 K177.1) (Keep.of_wr W182).1)) ⟨hz, ((O.keep K177 (allS gb all0)).wr W182 gb), SC, SA, SH, SL, SF, hfm⟩ (Aq177.other W182 (Ne.symm nb177)) gt177 hk (by omega) (by omega)) hZ (ow hw 277 rfl) (ow hw 112 rfl) (by decide) (by decide)) (by decide) e182 pd_6 (od dB29 40 rfl) rfl rfl rfl rfl rfl (by decide) (by decide) fun _ T187 Lc187 X187 hQ187 => ?_
  obtain ⟨rfl, N187q, K187, Aq187⟩ := hQ187
  have N187 := Fr.app N182 N187q
  show own_Fin p e below _ (T187.setTop (mkF m 75 #[.val (.ref b), .val (.int ch)] []))
  refine o_aldN X187 H (od dB29 41 rfl) rfl rfl ?_
  exact own_ret (t := (.object "java/lang/AbstractStringBuilder")) X187 hx hlk hret rfl (Or.inr (Or.inr (Or.inr (Or.inr ⟨rfl, rfl, rfl⟩)))) (hb hby (od dB29 42 rfl)) (by show QAc1 Z b ch tb kt k cs c z fm h0 n0 _ T187.heap _; exact ⟨tg177, kt177, c177, rfl, N187, (y183.trans K187 (allS kk177 all0)), ht177, gt177, nb177, (by omega), (by omega), ((Eq177.wr W182).keep K187), (y184.keep K187 (ninS nb177 nin0)), ((Cq177.same W182).keep K187 (ninS nb177 nin0)), (y185.keep K187 (ninS nb177 nin0)), (y186.keep K187 (ninS nb177 nin0)), ((Xq177.wr W182).keep K187), Aq187⟩) (by decide) (by decide)
theorem dB28 : oL jdk_67_method_14_code [(0, .aload_n 0, 1), (1, .iload_n 1, 1), (2, .invokespecial 50, 3), (5, .pop, 1), (6, .aload_n 0, 1), (7, .areturn, 1)] := by unfold oL; decide +kernel
theorem pd_22 : parseMethodDescriptor "(C)Ljava/lang/AbstractStringBuilder;" = some ⟨[.char], some (.object "java/lang/AbstractStringBuilder")⟩ := by decide +kernel
theorem ef_rm28 (m : MethodId) (x0 : Addr) (x1 : Int32) : entryFrame m #[(.ref x0), (.int x1)] 2 = mkF m 0 #[.val (.ref x0), .val (.int x1)] [] := by first | (simp [entryFrame, mkF, argsToLocals, Value.category]; done) | rfl
def Q28 (Z : State) (b : Addr) (ch : Int32) (tb : Addr) (kt : ClassId) (k : Nat) (cs : List Int32) (c : Nat) (co : Int32) (nb : Int32) (vs : List Value) (z : Int32) (fm : Value) (h0 : Heap) (n0 : Nat) (v : Option Value) (h : Heap) (L : List Loc) : Prop := ∃ (t : Addr) (kx2 : ClassId) (c2 : Nat) (cd2 n2 : Int32) (vs2 : List Value), v = some (.ref b) ∧ Fr n0 L ∧ Keep h0 h [b, tb] ∧ (t = tb ∨ h0.size ≤ t) ∧ n0 ≤ t ∧ b ≠ t ∧ (k + 1) ≤ c2 ∧ c2 ≤ 36 ∧ own_BC (cs ++ [ch]) cd2 c2 n2 vs2 ∧ Exa Z h b "java/lang/StringBuilder" ∧ Fld Z h b "java/lang/AbstractStringBuilder" "value" "[B" (.ref t) ∧ Fld Z h b "java/lang/AbstractStringBuilder" "count" "I" (.int (Int32.ofNat (k + 1))) ∧ Fld Z h b "java/lang/AbstractStringBuilder" "coder" "B" (.int cd2) ∧ Fld Z h b "java/lang/AbstractStringBuilder" "maybeLatin1" "Z" (.int (0 : Int32)) ∧ Exa Z h t "[B" ∧ Arv Z h t kx2 .byte n2 vs2 (.int 0)
set_option maxRecDepth 65536 in
set_option maxHeartbeats 40000000 in
theorem rm28 (l : Launch) (Z : State) (a0 : Array Value) (hw : ∀ d ∈ tables_1, d.before a0 Z = true) (ws : List Jvm.Cond) (b : Addr) (ch : Int32) (tb : Addr) (kt : ClassId) (k : Nat) (cs : List Int32) (c : Nat) (co : Int32) (nb : Int32) (vs : List Value) (z : Int32) (fm : Value) (h0 : Heap) (n0 : Nat) (Z0 : n0 ≤ h0.size) (PU : own_PU Z n0 h0 z fm) (Eb : Exa Z h0 b "java/lang/StringBuilder") (Fv : Fld Z h0 b "java/lang/AbstractStringBuilder" "value" "[B" (.ref tb)) (Fc : Fld Z h0 b "java/lang/AbstractStringBuilder" "count" "I" (.int (Int32.ofNat k))) (Fk : Fld Z h0 b "java/lang/AbstractStringBuilder" "coder" "B" (.int co)) (Fm : Fld Z h0 b "java/lang/AbstractStringBuilder" "maybeLatin1" "Z" (.int (0 : Int32))) (Et : Exa Z h0 tb "[B") (At : Arv Z h0 tb kt .byte nb vs (.int 0)) (gb : n0 ≤ b) (gt : n0 ≤ tb) (nbt : b ≠ tb) (hk : cs.length = k) (hkc : k ≤ c) (hc : c ≤ 36) (hBC : own_BC cs co c nb vs) (r16 : ∀ c ∈ cs, ¬ c < 0 ∧ ¬ (65535 : Int32) < c) (rch : ¬ ch < 0 ∧ ¬ (65535 : Int32) < ch) (h18 : k + 1 ≤ 18) :
    own_M l (⟨"java/lang/StringBuilder", "append", "(C)Ljava/lang/StringBuilder;"⟩ : MethodName) jdk_67_method_14_code 2 (some (.object "java/lang/StringBuilder")) ws ({ frames := 7, cells := 2, slots := 144, locals := 102 } : Room) #[(.ref b), (.int ch)] Z h0 (Q28 Z b ch tb kt k cs c co nb vs z fm h0 n0) := by
  refine MetFree.of_bodySF (plainFor_of_name pn_5) hisR ?_
  intro p e s m args below meth cd s₁ Bd hml hP hK
  obtain ⟨rfl, hZ, hh⟩ := hP
  obtain ⟨X0, e0, H, hlk, hown, hret⟩ := own_start (R := ({ frames := 7, cells := 2, slots := 144, locals := 102 } : Room)) Bd hh rfl
  have hx := H.1; have hby := H.2; have N0 := Fr.nil n0
  obtain ⟨hz, O, SC, SA, SH, SL, SF, hfm⟩ := PU
  show own_Fin p e below (own_Ans s (Q28 Z b ch tb kt k cs c co nb vs z fm h0 n0) ({ frames := 7, cells := 2, slots := 144, locals := 102 } : Room).cells ({ frames := 7, cells := 2, slots := 144, locals := 102 } : Room).slots) (s₁.setTop (entryFrame m #[(.ref b), (.int ch)] 2))
  refine own_cast (ef_rm28 m b ch) ?_
  show own_Fin p e below _ (s₁.setTop (mkF m 0 #[.val (.ref b), .val (.int ch)] []))
  rcases hBC with ⟨hcd, hnb, hvs, hb_⟩ | ⟨hcd, hnb, hvs, hb_⟩
  · have Fk0 : Fld Z h0 b "java/lang/AbstractStringBuilder" "coder" "B" (.int (0 : Int32)) := by have q := Fk; rw [hcd] at q; exact q
    have At0 : Arv Z h0 tb kt .byte (Int32.ofNat c) ((cs.map StrChars.lo8).map Value.int) (.int 0) := by have q := At; rw [hnb, hvs] at q; exact q
    have rg : ∀ q_ ∈ cs, ¬ q_ < 0 ∧ ¬ (255 : Int32) < q_ := fun q hq => ⟨(r16 q hq).1, hb_ q hq⟩
    by_cases hce : (255 : Int32) < ch
    · show own_Fin p e below _ (s₁.setTop (mkF m 0 #[.val (.ref b), .val (.int ch)] []))
      refine o_aldN X0 H (od dB28 0 rfl) rfl rfl ?_
      refine o_ildN X0 H (od dB28 1 rfl) rfl ?_
      refine o_bk (superBack X0 hx hZ (y := (⟨"java/lang/AbstractStringBuilder", "append", "(C)Ljava/lang/AbstractStringBuilder;"⟩ : MethodName)) hown (ow hw 150 rfl) (own_same (ow hw 152 rfl) (ow hw 75 rfl) rfl (by decide)) (ow hw 151 rfl) (ow hw 84 rfl) (by decide) (backOf (W := 0) (rmAcw l Z a0 hw [] b ch tb kt k cs c z fm h0 n0 (by exact Z0) ⟨hz, O, SC, SA, SH, SL, SF, hfm⟩ Eb Fv Fc Fk0 Fm Et At0 gb gt nbt hk (by omega) (by omega) hce rg (by omega)) hZ (ow hw 153 rfl) (ow hw 52 rfl) (by decide) (by decide)) e0 (Ins.self Eb) rfl (by exact hml.symm) (ow hw 153 rfl) (argsL := [(.int ch)]) (rest := []) (lenOf pd_22 rfl) rfl (o_mr rfl) (hb hby (od dB28 2 rfl)) (fun _ _ => ⟨rfl, e0, (by decide : 0 + 2 ≤ _), (by decide : 0 + 144 ≤ _)⟩)) fun _ T188 Lc188 X188 hQ188 => ?_
      obtain ⟨tg188, kt188, c188, rfl, N188q, K188, ht188, gt188, nb188, hq188, hc188, Eq188, Vq188, Cq188, Dq188, Mq188, Xq188, Aq188⟩ := hQ188
      have kk188 : tg188 ∈ [b, tb] ∨ h0.size ≤ tg188 := by rcases ht188 with h | h; exact Or.inl (h ▸ List.mem_of_getElem? (i := 1) rfl); exact Or.inr (Nat.le_trans (Keep.refl h0 [b, tb]).1 h)
      have N188 := Fr.app N0 N188q
      have y189 := ((Keep.refl h0 [b, tb]).trans K188 (allS (Or.inl (List.mem_of_getElem? (i := 0) rfl)) (allS (Or.inl (List.mem_of_getElem? (i := 1) rfl)) all0)))
      show own_Fin p e below _ (T188.setTop (mkF m 5 #[.val (.ref b), .val (.int ch)] [(.ref b)]))
      refine o_pop X188 H (od dB28 3 rfl) rfl ?_
      refine o_aldN X188 H (od dB28 4 rfl) rfl rfl ?_
      exact own_ret (t := (.object "java/lang/StringBuilder")) X188 hx hlk hret rfl (Or.inr (Or.inr (Or.inr (Or.inr ⟨rfl, rfl, rfl⟩)))) (hb hby (od dB28 5 rfl)) (by show Q28 Z b ch tb kt k cs c co nb vs z fm h0 n0 _ T188.heap _; exact ⟨tg188, kt188, c188, _, _, _, rfl, N188, y189, ht188, gt188, nb188, (by omega), (by omega), Or.inr ⟨rfl, rfl, rfl, ⟨ch, List.mem_append_right _ (List.mem_singleton.mpr rfl), hce⟩⟩, Eq188, Vq188, Cq188, Dq188, Mq188, Xq188, Aq188⟩) (by decide) (by decide)
    · show own_Fin p e below _ (s₁.setTop (mkF m 0 #[.val (.ref b), .val (.int ch)] []))
      refine o_aldN X0 H (od dB28 0 rfl) rfl rfl ?_
      refine o_ildN X0 H (od dB28 1 rfl) rfl ?_
      refine o_bk (superBack X0 hx hZ (y := (⟨"java/lang/AbstractStringBuilder", "append", "(C)Ljava/lang/AbstractStringBuilder;"⟩ : MethodName)) hown (ow hw 150 rfl) (own_same (ow hw 152 rfl) (ow hw 75 rfl) rfl (by decide)) (ow hw 151 rfl) (ow hw 84 rfl) (by decide) (backOf (W := 0) (rmAc0 l Z a0 hw [] b ch tb kt k cs c z fm h0 n0 (by exact Z0) ⟨hz, O, SC, SA, SH, SL, SF, hfm⟩ Eb Fv Fc Fk0 Fm Et At0 gb gt nbt hk (by omega) (by omega) hce rg (by omega)) hZ (ow hw 153 rfl) (ow hw 52 rfl) (by decide) (by decide)) e0 (Ins.self Eb) rfl (by exact hml.symm) (ow hw 153 rfl) (argsL := [(.int ch)]) (rest := []) (lenOf pd_22 rfl) rfl (o_mr rfl) (hb hby (od dB28 2 rfl)) (fun _ _ => ⟨rfl, e0, (by decide : 0 + 1 ≤ _), (by decide : 0 + 72 ≤ _)⟩)) fun _ T190 Lc190 X190 hQ190 => ?_
      obtain ⟨tg190, kt190, c190, rfl, N190q, K190, ht190, gt190, nb190, hq190, hc190, Eq190, Vq190, Cq190, Dq190, Mq190, Xq190, Aq190⟩ := hQ190
      have kk190 : tg190 ∈ [b, tb] ∨ h0.size ≤ tg190 := by rcases ht190 with h | h; exact Or.inl (h ▸ List.mem_of_getElem? (i := 1) rfl); exact Or.inr (Nat.le_trans (Keep.refl h0 [b, tb]).1 h)
      have N190 := Fr.app N0 N190q
      have y191 := ((Keep.refl h0 [b, tb]).trans K190 (allS (Or.inl (List.mem_of_getElem? (i := 0) rfl)) (allS (Or.inl (List.mem_of_getElem? (i := 1) rfl)) all0)))
      show own_Fin p e below _ (T190.setTop (mkF m 5 #[.val (.ref b), .val (.int ch)] [(.ref b)]))
      refine o_pop X190 H (od dB28 3 rfl) rfl ?_
      refine o_aldN X190 H (od dB28 4 rfl) rfl rfl ?_
      exact own_ret (t := (.object "java/lang/StringBuilder")) X190 hx hlk hret rfl (Or.inr (Or.inr (Or.inr (Or.inr ⟨rfl, rfl, rfl⟩)))) (hb hby (od dB28 5 rfl)) (by show Q28 Z b ch tb kt k cs c co nb vs z fm h0 n0 _ T190.heap _; exact ⟨tg190, kt190, c190, _, _, _, rfl, N190, y191, ht190, gt190, nb190, (by omega), (by omega), Or.inl ⟨rfl, rfl, rfl, (fun q hq => (List.mem_append.mp hq).elim (hb_ q) (fun h => by rw [List.mem_singleton.mp h]; exact hce))⟩, Eq190, Vq190, Cq190, Dq190, Mq190, Xq190, Aq190⟩) (by decide) (by decide)
  · have Fk1 : Fld Z h0 b "java/lang/AbstractStringBuilder" "coder" "B" (.int (1 : Int32)) := by have q := Fk; rw [hcd] at q; exact q
    have At1 : Arv Z h0 tb kt .byte (Int32.ofNat (2 * c)) (StrChars.Road.wideBytes cs) (.int 0) := by have q := At; rw [hnb, hvs] at q; exact q
    show own_Fin p e below _ (s₁.setTop (mkF m 0 #[.val (.ref b), .val (.int ch)] []))
    refine o_aldN X0 H (od dB28 0 rfl) rfl rfl ?_
    refine o_ildN X0 H (od dB28 1 rfl) rfl ?_
    refine o_bk (superBack X0 hx hZ (y := (⟨"java/lang/AbstractStringBuilder", "append", "(C)Ljava/lang/AbstractStringBuilder;"⟩ : MethodName)) hown (ow hw 150 rfl) (own_same (ow hw 152 rfl) (ow hw 75 rfl) rfl (by decide)) (ow hw 151 rfl) (ow hw 84 rfl) (by decide) (backOf (W := 0) (rmAc1 l Z a0 hw [] b ch tb kt k cs c z fm h0 n0 (by exact Z0) ⟨hz, O, SC, SA, SH, SL, SF, hfm⟩ Eb Fv Fc Fk1 Fm Et At1 gb gt nbt hk (by omega) (by omega) (by omega)) hZ (ow hw 153 rfl) (ow hw 52 rfl) (by decide) (by decide)) e0 (Ins.self Eb) rfl (by exact hml.symm) (ow hw 153 rfl) (argsL := [(.int ch)]) (rest := []) (lenOf pd_22 rfl) rfl (o_mr rfl) (hb hby (od dB28 2 rfl)) (fun _ _ => ⟨rfl, e0, (by decide : 0 + 1 ≤ _), (by decide : 0 + 72 ≤ _)⟩)) fun _ T192 Lc192 X192 hQ192 => ?_
    obtain ⟨tg192, kt192, c192, rfl, N192q, K192, ht192, gt192, nb192, hq192, hc192, Eq192, Vq192, Cq192, Dq192, Mq192, Xq192, Aq192⟩ := hQ192
    have kk192 : tg192 ∈ [b, tb] ∨ h0.size ≤ tg192 := by rcases ht192 with h | h; exact Or.inl (h ▸ List.mem_of_getElem? (i := 1) rfl); exact Or.inr (Nat.le_trans (Keep.refl h0 [b, tb]).1 h)
    have N192 := Fr.app N0 N192q
    have y193 := ((Keep.refl h0 [b, tb]).trans K192 (allS (Or.inl (List.mem_of_getElem? (i := 0) rfl)) (allS (Or.inl (List.mem_of_getElem? (i := 1) rfl)) all0)))
    show own_Fin p e below _ (T192.setTop (mkF m 5 #[.val (.ref b), .val (.int ch)] [(.ref b)]))
    refine o_pop X192 H (od dB28 3 rfl) rfl ?_
    refine o_aldN X192 H (od dB28 4 rfl) rfl rfl ?_
    exact own_ret (t := (.object "java/lang/StringBuilder")) X192 hx hlk hret rfl (Or.inr (Or.inr (Or.inr (Or.inr ⟨rfl, rfl, rfl⟩)))) (hb hby (od dB28 5 rfl)) (by show Q28 Z b ch tb kt k cs c co nb vs z fm h0 n0 _ T192.heap _; exact ⟨tg192, kt192, c192, _, _, _, rfl, N192, y193, ht192, gt192, nb192, (by omega), (by omega), Or.inr ⟨rfl, rfl, rfl, (by obtain ⟨q, hq, h⟩ := hb_; exact ⟨q, List.mem_append_left _ hq, h⟩)⟩, Eq192, Vq192, Cq192, Dq192, Mq192, Xq192, Aq192⟩) (by decide) (by decide)
theorem dB32 : oL jdk_67_method_7_code [(0, .aload_n 0, 1), (1, .aload_n 1, 1), (2, .invokespecial 29, 3), (5, .pop, 1), (6, .aload_n 0, 1), (7, .areturn, 1)] := by unfold oL; decide +kernel
theorem pd_23 : parseMethodDescriptor "(Ljava/lang/String;)Ljava/lang/AbstractStringBuilder;" = some ⟨[(.object "java/lang/String")], some (.object "java/lang/AbstractStringBuilder")⟩ := by decide +kernel
theorem ef_rm32 (m : MethodId) (x0 : Addr) (x1 : Addr) : entryFrame m #[(.ref x0), (.ref x1)] 2 = mkF m 0 #[.val (.ref x0), .val (.ref x1)] [] := by first | (simp [entryFrame, mkF, argsToLocals, Value.category]; done) | rfl
def Q32 (Z : State) (b : Addr) (x : Addr) (tb : Addr) (kt : ClassId) (k : Nat) (cs : List Int32) (c : Nat) (co : Int32) (nb : Int32) (vs : List Value) (tx : Addr) (kx : ClassId) (n : Nat) (ds : List Int32) (z : Int32) (fm : Value) (h0 : Heap) (n0 : Nat) (v : Option Value) (h : Heap) (L : List Loc) : Prop := ∃ (t : Addr) (kx2 : ClassId) (c2 : Nat) (cd2 n2 : Int32) (vs2 : List Value), v = some (.ref b) ∧ Fr n0 L ∧ Keep h0 h [b, tb] ∧ (t = tb ∨ h0.size ≤ t) ∧ n0 ≤ t ∧ b ≠ t ∧ (k + n) ≤ c2 ∧ c2 ≤ 36 ∧ own_BC (cs ++ ds) cd2 c2 n2 vs2 ∧ Exa Z h b "java/lang/StringBuilder" ∧ Fld Z h b "java/lang/AbstractStringBuilder" "value" "[B" (.ref t) ∧ Fld Z h b "java/lang/AbstractStringBuilder" "count" "I" (.int (Int32.ofNat (k + n))) ∧ Fld Z h b "java/lang/AbstractStringBuilder" "coder" "B" (.int cd2) ∧ Fld Z h b "java/lang/AbstractStringBuilder" "maybeLatin1" "Z" (.int (0 : Int32)) ∧ Exa Z h t "[B" ∧ Arv Z h t kx2 .byte n2 vs2 (.int 0)
set_option maxRecDepth 65536 in
set_option maxHeartbeats 40000000 in
theorem rm32 (l : Launch) (Z : State) (a0 : Array Value) (hw : ∀ d ∈ tables_1, d.before a0 Z = true) (ws : List Jvm.Cond) (b : Addr) (x : Addr) (tb : Addr) (kt : ClassId) (k : Nat) (cs : List Int32) (c : Nat) (co : Int32) (nb : Int32) (vs : List Value) (tx : Addr) (kx : ClassId) (n : Nat) (ds : List Int32) (z : Int32) (fm : Value) (h0 : Heap) (n0 : Nat) (Z0 : n0 ≤ h0.size) (PU : own_PU Z n0 h0 z fm) (Eb : Exa Z h0 b "java/lang/StringBuilder") (Fv : Fld Z h0 b "java/lang/AbstractStringBuilder" "value" "[B" (.ref tb)) (Fc : Fld Z h0 b "java/lang/AbstractStringBuilder" "count" "I" (.int (Int32.ofNat k))) (Fk : Fld Z h0 b "java/lang/AbstractStringBuilder" "coder" "B" (.int co)) (Fm : Fld Z h0 b "java/lang/AbstractStringBuilder" "maybeLatin1" "Z" (.int (0 : Int32))) (Et : Exa Z h0 tb "[B") (At : Arv Z h0 tb kt .byte nb vs (.int 0)) (gb : n0 ≤ b) (gt : n0 ≤ tb) (nbt : b ≠ tb) (hk : cs.length = k) (hkc : k ≤ c) (hc : c ≤ 36) (hBC : own_BC cs co c nb vs) (r16 : ∀ c ∈ cs, ¬ c < 0 ∧ ¬ (65535 : Int32) < c) (Ex : Exa Z h0 x "java/lang/String") (Cx : Fld Z h0 x "java/lang/String" "coder" "B" (.int (0 : Int32))) (Vx : Fld Z h0 x "java/lang/String" "value" "[B" (.ref tx)) (Kx : Arv Z h0 tx kx .byte (Int32.ofNat n) ((ds.map StrChars.lo8).map Value.int) (.int 0)) (hnx : ds.length = n) (rgx : ∀ q_ ∈ ds, ¬ q_ < 0 ∧ ¬ (255 : Int32) < q_) (nxt : tx ≠ tb) (nxb : tx ≠ b) (nyt : x ≠ tb) (nyb : x ≠ b) (h18 : k + n ≤ 18) :
    own_M l (⟨"java/lang/StringBuilder", "append", "(Ljava/lang/String;)Ljava/lang/StringBuilder;"⟩ : MethodName) jdk_67_method_7_code 2 (some (.object "java/lang/StringBuilder")) ws ({ frames := 8, cells := 1, slots := 72, locals := 119 } : Room) #[(.ref b), (.ref x)] Z h0 (Q32 Z b x tb kt k cs c co nb vs tx kx n ds z fm h0 n0) := by
  refine MetFree.of_bodySF (plainFor_of_name pn_5) hisR ?_
  intro p e s m args below meth cd s₁ Bd hml hP hK
  obtain ⟨rfl, hZ, hh⟩ := hP
  obtain ⟨X0, e0, H, hlk, hown, hret⟩ := own_start (R := ({ frames := 8, cells := 1, slots := 72, locals := 119 } : Room)) Bd hh rfl
  have hx := H.1; have hby := H.2; have N0 := Fr.nil n0
  obtain ⟨hz, O, SC, SA, SH, SL, SF, hfm⟩ := PU
  show own_Fin p e below (own_Ans s (Q32 Z b x tb kt k cs c co nb vs tx kx n ds z fm h0 n0) ({ frames := 8, cells := 1, slots := 72, locals := 119 } : Room).cells ({ frames := 8, cells := 1, slots := 72, locals := 119 } : Room).slots) (s₁.setTop (entryFrame m #[(.ref b), (.ref x)] 2))
  refine own_cast (ef_rm32 m b x) ?_
  show own_Fin p e below _ (s₁.setTop (mkF m 0 #[.val (.ref b), .val (.ref x)] []))
  rcases hBC with ⟨hcd, hnb, hvs, hb_⟩ | ⟨hcd, hnb, hvs, hb_⟩
  · have Fk0 : Fld Z h0 b "java/lang/AbstractStringBuilder" "coder" "B" (.int (0 : Int32)) := by have q := Fk; rw [hcd] at q; exact q
    have At0 : Arv Z h0 tb kt .byte (Int32.ofNat c) ((cs.map StrChars.lo8).map Value.int) (.int 0) := by have q := At; rw [hnb, hvs] at q; exact q
    have rg : ∀ q_ ∈ cs, ¬ q_ < 0 ∧ ¬ (255 : Int32) < q_ := fun q hq => ⟨(r16 q hq).1, hb_ q hq⟩
    show own_Fin p e below _ (s₁.setTop (mkF m 0 #[.val (.ref b), .val (.ref x)] []))
    refine o_aldN X0 H (od dB32 0 rfl) rfl rfl ?_
    refine o_aldN X0 H (od dB32 1 rfl) rfl rfl ?_
    refine o_bk (superBack X0 hx hZ (y := (⟨"java/lang/AbstractStringBuilder", "append", "(Ljava/lang/String;)Ljava/lang/AbstractStringBuilder;"⟩ : MethodName)) hown (ow hw 169 rfl) (own_same (ow hw 171 rfl) (ow hw 75 rfl) rfl (by decide)) (ow hw 170 rfl) (ow hw 84 rfl) (by decide) (backOf (W := 0) (rmAs0 l Z a0 hw [] b x tb kt k cs c tx kx n ds z fm h0 n0 (by exact Z0) ⟨hz, O, SC, SA, SH, SL, SF, hfm⟩ Eb Fv Fc Fk0 Fm Et At0 gb gt nbt hk (by omega) (by omega) Ex Cx Vx Kx hnx rgx nxt nxb nyt nyb (by omega)) hZ (ow hw 172 rfl) (ow hw 52 rfl) (by decide) (by decide)) e0 (Ins.self Eb) rfl (by exact hml.symm) (ow hw 172 rfl) (argsL := [(.ref x)]) (rest := []) (lenOf pd_23 rfl) rfl (o_mr rfl) (hb hby (od dB32 2 rfl)) (fun _ _ => ⟨rfl, e0, (by decide : 0 + 1 ≤ _), (by decide : 0 + 72 ≤ _)⟩)) fun _ T194 Lc194 X194 hQ194 => ?_
    obtain ⟨tg194, kt194, c194, rfl, N194q, K194, ht194, gt194, nb194, hq194, hc194, Eq194, Vq194, Cq194, Dq194, Mq194, Xq194, Aq194⟩ := hQ194
    have ne194_x : x ≠ tg194 := own_neT ht194 nyt Ex.lt
    have ne194_tx : tx ≠ tg194 := own_neT ht194 nxt Kx.lt
    have kk194 : tg194 ∈ [b, tb] ∨ h0.size ≤ tg194 := by rcases ht194 with h | h; exact Or.inl (h ▸ List.mem_of_getElem? (i := 1) rfl); exact Or.inr (Nat.le_trans (Keep.refl h0 [b, tb]).1 h)
    have N194 := Fr.app N0 N194q
    have y195 := ((Keep.refl h0 [b, tb]).trans K194 (allS (Or.inl (List.mem_of_getElem? (i := 0) rfl)) (allS (Or.inl (List.mem_of_getElem? (i := 1) rfl)) all0)))
    show own_Fin p e below _ (T194.setTop (mkF m 5 #[.val (.ref b), .val (.ref x)] [(.ref b)]))
    refine o_pop X194 H (od dB32 3 rfl) rfl ?_
    refine o_aldN X194 H (od dB32 4 rfl) rfl rfl ?_
    exact own_ret (t := (.object "java/lang/StringBuilder")) X194 hx hlk hret rfl (Or.inr (Or.inr (Or.inr (Or.inr ⟨rfl, rfl, rfl⟩)))) (hb hby (od dB32 5 rfl)) (by show Q32 Z b x tb kt k cs c co nb vs tx kx n ds z fm h0 n0 _ T194.heap _; exact ⟨tg194, kt194, c194, _, _, _, rfl, N194, y195, ht194, gt194, nb194, (by omega), (by omega), Or.inl ⟨rfl, rfl, rfl, (fun q hq => (List.mem_append.mp hq).elim (hb_ q) (fun h => (rgx q h).2))⟩, Eq194, Vq194, Cq194, Dq194, Mq194, Xq194, Aq194⟩) (by decide) (by decide)
  · have Fk1 : Fld Z h0 b "java/lang/AbstractStringBuilder" "coder" "B" (.int (1 : Int32)) := by have q := Fk; rw [hcd] at q; exact q
    have At1 : Arv Z h0 tb kt .byte (Int32.ofNat (2 * c)) (StrChars.Road.wideBytes cs) (.int 0) := by have q := At; rw [hnb, hvs] at q; exact q
    show own_Fin p e below _ (s₁.setTop (mkF m 0 #[.val (.ref b), .val (.ref x)] []))
    refine o_aldN X0 H (od dB32 0 rfl) rfl rfl ?_
    refine o_aldN X0 H (od dB32 1 rfl) rfl rfl ?_
    refine o_bk (superBack X0 hx hZ (y := (⟨"java/lang/AbstractStringBuilder", "append", "(Ljava/lang/String;)Ljava/lang/AbstractStringBuilder;"⟩ : MethodName)) hown (ow hw 169 rfl) (own_same (ow hw 171 rfl) (ow hw 75 rfl) rfl (by decide)) (ow hw 170 rfl) (ow hw 84 rfl) (by decide) (backOf (W := 0) (rmAs1 l Z a0 hw [] b x tb kt k cs c tx kx n ds z fm h0 n0 (by exact Z0) ⟨hz, O, SC, SA, SH, SL, SF, hfm⟩ Eb Fv Fc Fk1 Fm Et At1 gb gt nbt hk (by omega) (by omega) Ex Cx Vx Kx hnx rgx nxt nxb nyt nyb (by omega)) hZ (ow hw 172 rfl) (ow hw 52 rfl) (by decide) (by decide)) e0 (Ins.self Eb) rfl (by exact hml.symm) (ow hw 172 rfl) (argsL := [(.ref x)]) (rest := []) (lenOf pd_23 rfl) rfl (o_mr rfl) (hb hby (od dB32 2 rfl)) (fun _ _ => ⟨rfl, e0, (by decide : 0 + 1 ≤ _), (by decide : 0 + 72 ≤ _)⟩)) fun _ T196 Lc196 X196 hQ196 => ?_
    obtain ⟨tg196, kt196, c196, rfl, N196q, K196, ht196, gt196, nb196, hq196, hc196, Eq196, Vq196, Cq196, Dq196, Mq196, Xq196, Aq196⟩ := hQ196
    have ne196_x : x ≠ tg196 := own_neT ht196 nyt Ex.lt
    have ne196_tx : tx ≠ tg196 := own_neT ht196 nxt Kx.lt
    have kk196 : tg196 ∈ [b, tb] ∨ h0.size ≤ tg196 := by rcases ht196 with h | h; exact Or.inl (h ▸ List.mem_of_getElem? (i := 1) rfl); exact Or.inr (Nat.le_trans (Keep.refl h0 [b, tb]).1 h)
    have N196 := Fr.app N0 N196q
    have y197 := ((Keep.refl h0 [b, tb]).trans K196 (allS (Or.inl (List.mem_of_getElem? (i := 0) rfl)) (allS (Or.inl (List.mem_of_getElem? (i := 1) rfl)) all0)))
    show own_Fin p e below _ (T196.setTop (mkF m 5 #[.val (.ref b), .val (.ref x)] [(.ref b)]))
    refine o_pop X196 H (od dB32 3 rfl) rfl ?_
    refine o_aldN X196 H (od dB32 4 rfl) rfl rfl ?_
    exact own_ret (t := (.object "java/lang/StringBuilder")) X196 hx hlk hret rfl (Or.inr (Or.inr (Or.inr (Or.inr ⟨rfl, rfl, rfl⟩)))) (hb hby (od dB32 5 rfl)) (by show Q32 Z b x tb kt k cs c co nb vs tx kx n ds z fm h0 n0 _ T196.heap _; exact ⟨tg196, kt196, c196, _, _, _, rfl, N196, y197, ht196, gt196, nb196, (by omega), (by omega), Or.inr ⟨rfl, rfl, rfl, (by obtain ⟨q, hq, h⟩ := hb_; exact ⟨q, List.mem_append_left _ hq, h⟩)⟩, Eq196, Vq196, Cq196, Dq196, Mq196, Xq196, Aq196⟩) (by decide) (by decide)
theorem dB9 : oL jdk_68_method_2_code [(0, .aload_n 0, 1), (1, .invokespecial 3, 3), (4, .getstatic 18, 3), (7, .ifCond .eq 18, 3), (10, .aload_n 0, 1), (11, .iload_n 1, 1), (12, .newarray .byte, 2), (14, .putfield 15, 3), (17, .aload_n 0, 1), (18, .iconst 0, 1), (19, .putfield 22, 3), (22, .goto 16, 3), (25, .aload_n 0, 1), (26, .iload_n 1, 1), (27, .invokestatic 26, 3), (30, .putfield 15, 3), (33, .aload_n 0, 1), (34, .iconst 1, 1), (35, .putfield 22, 3), (38, .return_, 1)] := by unfold oL; decide +kernel
theorem ef_rm9 (m : MethodId) (x0 : Addr) (x1 : Int32) : entryFrame m #[(.ref x0), (.int x1)] 2 = mkF m 0 #[.val (.ref x0), .val (.int x1)] [] := by first | (simp [entryFrame, mkF, argsToLocals, Value.category]; done) | rfl
def Q9 (Z : State) (b : Addr) (n : Nat) (z : Int32) (fm : Value) (h0 : Heap) (n0 : Nat) (v : Option Value) (h : Heap) (L : List Loc) : Prop := ∃ (t : Addr) (kx : ClassId), v = none ∧ Fr n0 L ∧ Keep h0 h [b] ∧ n0 ≤ t ∧ h0.size ≤ t ∧ Exa Z h b "java/lang/StringBuilder" ∧ Fld Z h b "java/lang/AbstractStringBuilder" "value" "[B" (.ref t) ∧ Fld Z h b "java/lang/AbstractStringBuilder" "count" "I" (.int (Int32.ofNat 0)) ∧ Fld Z h b "java/lang/AbstractStringBuilder" "coder" "B" (.int (0 : Int32)) ∧ Fld Z h b "java/lang/AbstractStringBuilder" "maybeLatin1" "Z" (.int (0 : Int32)) ∧ Exa Z h t "[B" ∧ Arv Z h t kx .byte (Int32.ofNat n) ((([] : List Int32).map StrChars.lo8).map Value.int) (.int 0)
set_option maxRecDepth 65536 in
set_option maxHeartbeats 40000000 in
theorem rm9 (l : Launch) (Z : State) (a0 : Array Value) (hw : ∀ d ∈ tables_1, d.before a0 Z = true) (ws : List Jvm.Cond) (b : Addr) (n : Nat) (z : Int32) (fm : Value) (h0 : Heap) (n0 : Nat) (Z0 : n0 ≤ h0.size) (PU : own_PU Z n0 h0 z fm) (hn : n ≤ 36) (E : Exa Z h0 b "java/lang/StringBuilder") (F0 : Fld Z h0 b "java/lang/AbstractStringBuilder" "value" "[B" .null) (F1 : Fld Z h0 b "java/lang/AbstractStringBuilder" "count" "I" (.int (0 : Int32))) (F2 : Fld Z h0 b "java/lang/AbstractStringBuilder" "coder" "B" (.int (0 : Int32))) (F3 : Fld Z h0 b "java/lang/AbstractStringBuilder" "maybeLatin1" "Z" (.int (0 : Int32))) (gb : n0 ≤ b) :
    own_M l (⟨"java/lang/AbstractStringBuilder", "<init>", "(I)V"⟩ : MethodName) jdk_68_method_2_code 2 none ws ({ frames := 1, cells := 1, slots := 36, locals := 12 } : Room) #[(.ref b), (.int (Int32.ofNat n))] Z h0 (Q9 Z b n z fm h0 n0) := by
  refine MetFree.of_bodySF (plainFor_of_name pn_4) hisR ?_
  intro p e s m args below meth cd s₁ Bd hml hP hK
  obtain ⟨rfl, hZ, hh⟩ := hP
  obtain ⟨X0, e0, H, hlk, hown, hret⟩ := own_start (R := ({ frames := 1, cells := 1, slots := 36, locals := 12 } : Room)) Bd hh rfl
  have hx := H.1; have hby := H.2; have N0 := Fr.nil n0
  obtain ⟨hz, O, SC, SA, SH, SL, SF, hfm⟩ := PU
  show own_Fin p e below (own_Ans s (Q9 Z b n z fm h0 n0) ({ frames := 1, cells := 1, slots := 36, locals := 12 } : Room).cells ({ frames := 1, cells := 1, slots := 36, locals := 12 } : Room).slots) (s₁.setTop (entryFrame m #[(.ref b), (.int (Int32.ofNat n))] 2))
  refine own_cast (ef_rm9 m b (Int32.ofNat n)) ?_
  show own_Fin p e below _ (s₁.setTop (mkF m 0 #[.val (.ref b), .val (.int (Int32.ofNat n))] []))
  refine o_aldN X0 H (od dB9 0 rfl) rfl rfl ?_
  obtain ⟨T198, X198, e198, st198⟩ := initO X0 hx hZ hown (ow hw 54 rfl) (ow hw 17 rfl) (ow hw 18 rfl) e0 (g := (mkF m 1 #[.val (.ref b), .val (.int (Int32.ofNat n))] [(.ref b)])) rfl (by rw [hml]; rfl) rfl (hb hby (od dB9 1 rfl)) (by decide) (W := 0) (by show 2 * 0 + _ ≤ _; exact Nat.le_of_eq rfl) (by decide)
  refine own_on st198 ?_
  show own_Fin p e below _ (T198.setTop (mkF m 4 #[.val (.ref b), .val (.int (Int32.ofNat n))] []))
  refine o_gs X198 H hZ hown (ow hw 55 rfl) Via.refl e198 (SC.ext O.2) (od dB9 2 rfl) fun T199 X199 e199 => ?_
  refine o_ifN X199 H (od dB9 3 rfl) ((if0 _ _).trans (feq hz).1) ?_
  refine o_aldN X199 H (od dB9 4 rfl) rfl rfl ?_
  refine o_ildN X199 H (od dB9 5 rfl) rfl ?_
  obtain ⟨T200, h200, k200, X200, e200, E200, A200, D200, st200⟩ := newPE X199 hx hZ (ow hw 20 rfl) e199 (g := (mkF m 12 #[.val (.ref b), .val (.int (Int32.ofNat n))] [(.int (Int32.ofNat n)), (.ref b)])) rfl (hb hby (od dB9 6 rfl)) rfl (own_nneg (by omega)) (cap := 36) (by rw [own_clampN (by omega)]; omega) (by decide) (by decide) (by decide) (ad := "[B") (by decide)
  obtain ⟨b200, g200⟩ : ∃ z, z = h0.size := ⟨_, rfl⟩
  rw [← g200] at A200 D200 st200
  have ne200_b : b ≠ b200 := own_ne_of (Z := Z) E.lt g200
  have gn200 : n0 ≤ b200 := Nat.le_trans Z0 (Nat.le_of_eq g200.symm)
  have gk200 : h0.size ≤ b200 := Nat.le_trans (Keep.refl h0 [b]).1 (Nat.le_of_eq g200.symm)
  have V200 : Arv Z h200 b200 k200 .byte (Int32.ofNat n) [] (.int (0 : Int32)) := Arv.new A200 (own_nneg (by omega))
  refine own_on st200 ?_
  show own_Fin p e below _ (T200.setTop (mkF m 14 #[.val (.ref b), .val (.int (Int32.ofNat n))] [(.ref b200), (.ref b)]))
  obtain ⟨T201, h201, X201, e201, W201, st201⟩ := putF X200 hx hZ hown (host := "") (Or.inl (ow hw 56 rfl)) Via.refl e200 (F0.ext E200) (E.ext E200) (Or.inl (ow hw 57 rfl)) (ow hw 32 rfl) (ty := (.array .byte)) (by decide) rfl rfl (g := (mkF m 14 #[.val (.ref b), .val (.int (Int32.ofNat n))] [(.ref b200), (.ref b)])) rfl rfl (hb hby (od dB9 7 rfl))
  have N201 := Fr.snoc X201 N0 gb
  have y202 := ((F1.ext E200).other W201 (Or.inr (slot_ne (Or.inl (ow hw 87 rfl)) (Or.inl (ow hw 57 rfl)) (by decide) (t := .int) (t' := (.array .byte)) (by decide) (by decide))))
  have y203 := ((F2.ext E200).other W201 (Or.inr (slot_ne (Or.inl (ow hw 59 rfl)) (Or.inl (ow hw 57 rfl)) (by decide) (t := .byte) (t' := (.array .byte)) (by decide) (by decide))))
  have y204 := ((F3.ext E200).other W201 (Or.inr (slot_ne (Or.inl (ow hw 279 rfl)) (Or.inl (ow hw 57 rfl)) (by decide) (t := .boolean) (t' := (.array .byte)) (by decide) (by decide))))
  refine own_on st201 ?_
  show own_Fin p e below _ (T201.setTop (mkF m 17 #[.val (.ref b), .val (.int (Int32.ofNat n))] []))
  refine o_aldN X201 H (od dB9 8 rfl) rfl rfl ?_
  refine o_ic X201 H (od dB9 9 rfl) (v := 0) rfl ?_
  obtain ⟨T205, h205, X205, e205, W205, st205⟩ := putFN X201 hx hZ hown (ow hw 58 rfl) Via.refl e201 y203 ((E.ext E200).wr W201) (Or.inl (ow hw 59 rfl)) (ow hw 32 rfl) (ty := .byte) (v' := (.int (0 : Int32))) (by decide) rfl (by decide) (g := (mkF m 19 #[.val (.ref b), .val (.int (Int32.ofNat n))] [(.int (0 : Int32)), (.ref b)])) rfl rfl (hb hby (od dB9 10 rfl))
  have N205 := Fr.snoc X205 N201 gb
  have y206 := ((((Keep.refl h0 [b]).ext E200).wr W201 (Or.inl (List.mem_of_getElem? (i := 0) rfl))).wr W205 (Or.inl (List.mem_of_getElem? (i := 0) rfl)))
  have y207 := (((F0.ext E200).same W201).other W205 (Or.inr (slot_ne (Or.inl (ow hw 57 rfl)) (Or.inl (ow hw 59 rfl)) (by decide) (t := (.array .byte)) (t' := .byte) (by decide) (by decide))))
  have y208 := (y202.other W205 (Or.inr (slot_ne (Or.inl (ow hw 87 rfl)) (Or.inl (ow hw 59 rfl)) (by decide) (t := .int) (t' := .byte) (by decide) (by decide))))
  have y209 := (y204.other W205 (Or.inr (slot_ne (Or.inl (ow hw 279 rfl)) (Or.inl (ow hw 59 rfl)) (by decide) (t := .boolean) (t' := .byte) (by decide) (by decide))))
  refine own_on st205 ?_
  show own_Fin p e below _ (T205.setTop (mkF m 22 #[.val (.ref b), .val (.int (Int32.ofNat n))] []))
  refine o_go X205 H (od dB9 11 rfl) (pc' := 38) (by decide) (by decide) ?_
  exact own_retV X205 hx hlk hret (hb hby (od dB9 19 rfl)) (by show Q9 Z b n z fm h0 n0 _ T205.heap _; rw [e205]; exact ⟨b200, k200, rfl, N205, y206, gn200, gk200, (((E.ext E200).wr W201).wr W205), y207, y208, (y203.same W205), y209, ((D200.wr W201).wr W205), ((V200.other W201 (Ne.symm ne200_b)).other W205 (Ne.symm ne200_b))⟩) (by decide) (by decide)
theorem dB8 : oL jdk_67_method_2_code [(0, .aload_n 0, 1), (1, .iload_n 1, 1), (2, .invokespecial 1, 3), (5, .return_, 1)] := by unfold oL; decide +kernel
theorem ef_rm8 (m : MethodId) (x0 : Addr) (x1 : Int32) : entryFrame m #[(.ref x0), (.int x1)] 2 = mkF m 0 #[.val (.ref x0), .val (.int x1)] [] := by first | (simp [entryFrame, mkF, argsToLocals, Value.category]; done) | rfl
def Q8 (Z : State) (b : Addr) (n : Nat) (z : Int32) (fm : Value) (h0 : Heap) (n0 : Nat) (v : Option Value) (h : Heap) (L : List Loc) : Prop := ∃ (t : Addr) (kx : ClassId), v = none ∧ Fr n0 L ∧ Keep h0 h [b] ∧ n0 ≤ t ∧ h0.size ≤ t ∧ Exa Z h b "java/lang/StringBuilder" ∧ Fld Z h b "java/lang/AbstractStringBuilder" "value" "[B" (.ref t) ∧ Fld Z h b "java/lang/AbstractStringBuilder" "count" "I" (.int (Int32.ofNat 0)) ∧ Fld Z h b "java/lang/AbstractStringBuilder" "coder" "B" (.int (0 : Int32)) ∧ Fld Z h b "java/lang/AbstractStringBuilder" "maybeLatin1" "Z" (.int (0 : Int32)) ∧ Exa Z h t "[B" ∧ Arv Z h t kx .byte (Int32.ofNat n) ((([] : List Int32).map StrChars.lo8).map Value.int) (.int 0)
set_option maxRecDepth 65536 in
set_option maxHeartbeats 40000000 in
theorem rm8 (l : Launch) (Z : State) (a0 : Array Value) (hw : ∀ d ∈ tables_1, d.before a0 Z = true) (ws : List Jvm.Cond) (b : Addr) (n : Nat) (z : Int32) (fm : Value) (h0 : Heap) (n0 : Nat) (Z0 : n0 ≤ h0.size) (PU : own_PU Z n0 h0 z fm) (hn : n ≤ 36) (E : Exa Z h0 b "java/lang/StringBuilder") (F0 : Fld Z h0 b "java/lang/AbstractStringBuilder" "value" "[B" .null) (F1 : Fld Z h0 b "java/lang/AbstractStringBuilder" "count" "I" (.int (0 : Int32))) (F2 : Fld Z h0 b "java/lang/AbstractStringBuilder" "coder" "B" (.int (0 : Int32))) (F3 : Fld Z h0 b "java/lang/AbstractStringBuilder" "maybeLatin1" "Z" (.int (0 : Int32))) (gb : n0 ≤ b) :
    own_M l (⟨"java/lang/StringBuilder", "<init>", "(I)V"⟩ : MethodName) jdk_67_method_2_code 2 none ws ({ frames := 2, cells := 1, slots := 36, locals := 25 } : Room) #[(.ref b), (.int (Int32.ofNat n))] Z h0 (Q8 Z b n z fm h0 n0) := by
  refine MetFree.of_bodySF (plainFor_of_name pn_5) hisR ?_
  intro p e s m args below meth cd s₁ Bd hml hP hK
  obtain ⟨rfl, hZ, hh⟩ := hP
  obtain ⟨X0, e0, H, hlk, hown, hret⟩ := own_start (R := ({ frames := 2, cells := 1, slots := 36, locals := 25 } : Room)) Bd hh rfl
  have hx := H.1; have hby := H.2; have N0 := Fr.nil n0
  obtain ⟨hz, O, SC, SA, SH, SL, SF, hfm⟩ := PU
  show own_Fin p e below (own_Ans s (Q8 Z b n z fm h0 n0) ({ frames := 2, cells := 1, slots := 36, locals := 25 } : Room).cells ({ frames := 2, cells := 1, slots := 36, locals := 25 } : Room).slots) (s₁.setTop (entryFrame m #[(.ref b), (.int (Int32.ofNat n))] 2))
  refine own_cast (ef_rm8 m b (Int32.ofNat n)) ?_
  show own_Fin p e below _ (s₁.setTop (mkF m 0 #[.val (.ref b), .val (.int (Int32.ofNat n))] []))
  refine o_aldN X0 H (od dB8 0 rfl) rfl rfl ?_
  refine o_ildN X0 H (od dB8 1 rfl) rfl ?_
  refine o_sc (b := b) (argsL := [(.int (Int32.ofNat n))]) (rest := []) X0 H hml hZ hown (ow hw 48 rfl) (ow hw 49 rfl) (ow hw 53 rfl) (backOf (W := 0) (rm9 l Z a0 hw [] b n z fm h0 n0 (by exact Z0) ⟨hz, O, SC, SA, SH, SL, SF, hfm⟩ (by omega) E F0 F1 F2 F3 gb) hZ (ow hw 53 rfl) (ow hw 52 rfl) (by decide) (by decide)) rfl (by decide) e0 pd_19 (od dB8 2 rfl) rfl rfl rfl rfl rfl (by decide) (by decide) fun _ T210 Lc210 X210 hQ210 => ?_
  obtain ⟨ti210, kt210, rfl, N210q, K210, gt210, gk210, Eq210, Vq210, Cq210, Dq210, Mq210, Xq210, Aq210⟩ := hQ210
  have ne210_b : b ≠ ti210 := Nat.ne_of_lt (Nat.lt_of_lt_of_le E.lt gk210)
  have N210 := Fr.app N0 N210q
  show own_Fin p e below _ (T210.setTop (mkF m 5 #[.val (.ref b), .val (.int (Int32.ofNat n))] []))
  exact own_retV X210 hx hlk hret (hb hby (od dB8 3 rfl)) (by show Q8 Z b n z fm h0 n0 _ T210.heap _; exact ⟨ti210, kt210, rfl, N210, ((Keep.refl h0 [b]).trans K210 (allS (Or.inl (List.mem_of_getElem? (i := 0) rfl)) all0)), gt210, (Nat.le_trans (Keep.refl h0 [b]).1 gk210), Eq210, Vq210, Cq210, Dq210, Mq210, Xq210, Aq210⟩) (by decide) (by decide)
theorem own_fitc {Z : State} {h : Heap} {a : Addr} {cl : Cell} {vs : List Value} {d : Value} (A : Arr Z h a cl .byte) (H : Has cl vs d) (F : ∀ i, i < cl.slots.size → fits .byte (vs.getD i d) = true) : FitC Z cl := fun i v hv => by
  obtain ⟨hi, -⟩ := Array.getElem?_eq_some_iff.mp hv
  have e1 := H i hi
  rw [hv] at e1
  obtain ⟨hs, k, hk, comp, hkind⟩ := A.2.1
  have e : Z.slotType? cl.cls .none i = some .byte := by simp [State.slotType?, hk, hkind]
  have q := F i hi
  rw [← Option.some.inj e1] at q
  simpa [State.fitsSlot, e] using q
theorem dB43 : oL jdk_65_method_131_code [(0, .iload_n 1, 1), (1, .iload_n 0, 1), (2, .if_icmp .ge 35, 3), (5, .new 43, 3), (8, .dup, 1), (9, .new 45, 3), (12, .dup, 1), (13, .invokespecial 47, 3), (16, .iload_n 0, 1), (17, .invokevirtual 54, 3), (20, .ldc_w 337, 3), (23, .invokevirtual 50, 3), (26, .iload_n 1, 1), (27, .invokevirtual 54, 3), (30, .invokevirtual 61, 3), (33, .invokespecial 65, 3), (36, .athrow, 1), (37, .return_, 1)] := by unfold oL; decide +kernel
theorem ef_rm43 (m : MethodId) (x0 : Int32) (x1 : Int32) : entryFrame m #[(.int x0), (.int x1)] 2 = mkF m 0 #[.val (.int x0), .val (.int x1)] [] := by first | (simp [entryFrame, mkF, argsToLocals, Value.category]; done) | rfl
def Q43 (Z : State) (q : Nat) (h0 : Heap) (n0 : Nat) (v : Option Value) (h : Heap) (L : List Loc) : Prop := v = none ∧ Fr n0 L ∧ h = h0
set_option maxRecDepth 65536 in
set_option maxHeartbeats 40000000 in
theorem rm43 (l : Launch) (Z : State) (a0 : Array Value) (hw : ∀ d ∈ tables_1, d.before a0 Z = true) (ws : List Jvm.Cond) (q : Nat) (h0 : Heap) (n0 : Nat) (Z0 : n0 ≤ h0.size) (hq : q < 1000) :
    own_M l (⟨"java/util/Arrays", "checkLength", "(II)V"⟩ : MethodName) jdk_65_method_131_code 2 none ws ({ frames := 0, cells := 0, slots := 0, locals := 0 } : Room) #[(.int (0 : Int32)), (.int (Int32.ofNat q))] Z h0 (Q43 Z q h0 n0) := by
  refine MetFree.of_bodySF (plainFor_of_name pn_7) hisR ?_
  intro p e s m args below meth cd s₁ Bd hml hP hK
  obtain ⟨rfl, hZ, hh⟩ := hP
  obtain ⟨X0, e0, H, hlk, hown, hret⟩ := own_start (R := ({ frames := 0, cells := 0, slots := 0, locals := 0 } : Room)) Bd hh rfl
  have hx := H.1; have hby := H.2; have N0 := Fr.nil n0
  show own_Fin p e below (own_Ans s (Q43 Z q h0 n0) ({ frames := 0, cells := 0, slots := 0, locals := 0 } : Room).cells ({ frames := 0, cells := 0, slots := 0, locals := 0 } : Room).slots) (s₁.setTop (entryFrame m #[(.int (0 : Int32)), (.int (Int32.ofNat q))] 2))
  refine own_cast (ef_rm43 m (0 : Int32) (Int32.ofNat q)) ?_
  show own_Fin p e below _ (s₁.setTop (mkF m 0 #[.val (.int (0 : Int32)), .val (.int (Int32.ofNat q))] []))
  refine o_ildN X0 H (od dB43 0 rfl) rfl ?_
  refine o_ildN X0 H (od dB43 1 rfl) rfl ?_
  refine o_icY X0 H (od dB43 2 rfl) (flt (own_nneg (by omega))).2.1 (pc' := 37) (by decide) (by decide) ?_
  exact own_retV X0 hx hlk hret (hb hby (od dB43 17 rfl)) (⟨rfl, N0, e0⟩) (by decide) (by decide)
theorem dB42 : oL jdk_65_method_133_code [(0, .iload_n 1, 1), (1, .iload_n 2, 1), (2, .invokestatic 343, 3), (5, .iload_n 2, 1), (6, .iload_n 1, 1), (7, .isub, 1), (8, .istore_n 3, 1), (9, .iload_n 3, 1), (10, .newarray .byte, 2), (12, .astore 4, 2), (14, .aload_n 0, 1), (15, .iload_n 1, 1), (16, .aload 4, 2), (18, .iconst 0, 1), (19, .aload_n 0, 1), (20, .arraylength, 1), (21, .iload_n 1, 1), (22, .isub, 1), (23, .iload_n 3, 1), (24, .invokestatic 304, 3), (27, .invokestatic 150, 3), (30, .aload 4, 2), (32, .areturn, 1)] := by unfold oL; decide +kernel
theorem ef_rm42 (m : MethodId) (x0 : Addr) (x1 : Int32) (x2 : Int32) : entryFrame m #[(.ref x0), (.int x1), (.int x2)] 5 = mkF m 0 #[.val (.ref x0), .val (.int x1), .val (.int x2), .unset, .unset] [] := by first | (simp [entryFrame, mkF, argsToLocals, Value.category]; done) | rfl
def Q42 (Z : State) (tb : Addr) (kt : ClassId) (c : Nat) (q : Nat) (vs : List Value) (h0 : Heap) (n0 : Nat) (v : Option Value) (h : Heap) (L : List Loc) : Prop := ∃ (x : Addr) (kx : ClassId), v = some (.ref x) ∧ Fr n0 L ∧ Keep h0 h [] ∧ n0 ≤ x ∧ h0.size ≤ x ∧ Exa Z h x "[B" ∧ Arv Z h x kx .byte (Int32.ofNat q) vs (.int 0)
set_option maxRecDepth 65536 in
set_option maxHeartbeats 40000000 in
theorem rm42 (l : Launch) (Z : State) (a0 : Array Value) (hw : ∀ d ∈ tables_1, d.before a0 Z = true) (ws : List Jvm.Cond) (tb : Addr) (kt : ClassId) (c : Nat) (q : Nat) (vs : List Value) (h0 : Heap) (n0 : Nat) (Z0 : n0 ≤ h0.size) (At : Arv Z h0 tb kt .byte (Int32.ofNat c) vs (.int 0)) (Et : Exa Z h0 tb "[B") (hv : vs.length ≤ q) (hqc : q ≤ c) (hc : c ≤ 72) (hlt : q < c) :
    own_M l (⟨"java/util/Arrays", "copyOfRangeByte", "([BII)[B"⟩ : MethodName) jdk_65_method_133_code 5 (some (.array .byte)) ws ({ frames := 1, cells := 1, slots := 72, locals := 18 } : Room) #[(.ref tb), (.int (0 : Int32)), (.int (Int32.ofNat q))] Z h0 (Q42 Z tb kt c q vs h0 n0) := by
  refine MetFree.of_bodySF (plainFor_of_name pn_7) hisR ?_
  intro p e s m args below meth cd s₁ Bd hml hP hK
  obtain ⟨rfl, hZ, hh⟩ := hP
  obtain ⟨X0, e0, H, hlk, hown, hret⟩ := own_start (R := ({ frames := 1, cells := 1, slots := 72, locals := 18 } : Room)) Bd hh rfl
  have hx := H.1; have hby := H.2; have N0 := Fr.nil n0
  show own_Fin p e below (own_Ans s (Q42 Z tb kt c q vs h0 n0) ({ frames := 1, cells := 1, slots := 72, locals := 18 } : Room).cells ({ frames := 1, cells := 1, slots := 72, locals := 18 } : Room).slots) (s₁.setTop (entryFrame m #[(.ref tb), (.int (0 : Int32)), (.int (Int32.ofNat q))] 5))
  refine own_cast (ef_rm42 m tb (0 : Int32) (Int32.ofNat q)) ?_
  show own_Fin p e below _ (s₁.setTop (mkF m 0 #[.val (.ref tb), .val (.int (0 : Int32)), .val (.int (Int32.ofNat q)), .unset, .unset] []))
  refine o_ildN X0 H (od dB42 0 rfl) rfl ?_
  refine o_ildN X0 H (od dB42 1 rfl) rfl ?_
  refine o_tc (argsL := [(.int (0 : Int32)), (.int (Int32.ofNat q))]) (rest := []) X0 H hml hZ hown (ow hw 220 rfl) (ow hw 221 rfl) (ow hw 95 rfl) (ow hw 222 rfl) (backOf (W := 0) (rm43 l Z a0 hw [] q h0 n0 (by exact Z0) (by omega)) hZ (ow hw 222 rfl) (ow hw 95 rfl) (by decide) (by decide)) (by decide) e0 pd_2 (od dB42 2 rfl) rfl rfl rfl rfl rfl (by decide) (by decide) (o_pv (fun _ _ _ q => q) N0 fun T211 Lc211 X211 N211 e211 => ?_)
  refine o_ildN X211 H (od dB42 3 rfl) rfl ?_
  refine o_ildN X211 H (od dB42 4 rfl) rfl ?_
  refine o_isub X211 H (od dB42 5 rfl) ?_
  rw [Int32.sub_zero]
  show own_Fin p e below _ (T211.setTop (mkF m 8 #[.val (.ref tb), .val (.int (0 : Int32)), .val (.int (Int32.ofNat q)), .unset, .unset] [(.int (Int32.ofNat q))]))
  refine o_istN X211 H (od dB42 6 rfl) (L' := #[.val (.ref tb), .val (.int (0 : Int32)), .val (.int (Int32.ofNat q)), .val (.int (Int32.ofNat q)), .unset]) rfl ?_
  refine o_ildN X211 H (od dB42 7 rfl) rfl ?_
  obtain ⟨T212, h212, k212, X212, e212, E212, A212, D212, st212⟩ := newPE X211 hx hZ (ow hw 20 rfl) e211 (g := (mkF m 10 #[.val (.ref tb), .val (.int (0 : Int32)), .val (.int (Int32.ofNat q)), .val (.int (Int32.ofNat q)), .unset] [(.int (Int32.ofNat q))])) rfl (hb hby (od dB42 8 rfl)) rfl (own_nneg (by omega)) (cap := 72) (by rw [own_clampN (by omega)]; omega) (by decide) (by decide) (by decide) (ad := "[B") (by decide)
  obtain ⟨b212, g212⟩ : ∃ z, z = h0.size := ⟨_, rfl⟩
  rw [← g212] at A212 D212 st212
  have ne212_tb : tb ≠ b212 := own_ne_of (Z := Z) At.lt g212
  have gn212 : n0 ≤ b212 := Nat.le_trans Z0 (Nat.le_of_eq g212.symm)
  have gk212 : h0.size ≤ b212 := Nat.le_trans (Keep.refl h0 []).1 (Nat.le_of_eq g212.symm)
  have V212 : Arv Z h212 b212 k212 .byte (Int32.ofNat q) [] (.int (0 : Int32)) := Arv.new A212 (own_nneg (by omega))
  refine own_on st212 ?_
  show own_Fin p e below _ (T212.setTop (mkF m 12 #[.val (.ref tb), .val (.int (0 : Int32)), .val (.int (Int32.ofNat q)), .val (.int (Int32.ofNat q)), .unset] [(.ref b212)]))
  refine o_ast X212 H (od dB42 9 rfl) (L' := #[.val (.ref tb), .val (.int (0 : Int32)), .val (.int (Int32.ofNat q)), .val (.int (Int32.ofNat q)), .val (.ref b212)]) rfl rfl ?_
  refine o_aldN X212 H (od dB42 10 rfl) rfl rfl ?_
  refine o_ildN X212 H (od dB42 11 rfl) rfl ?_
  refine o_ald X212 H (od dB42 12 rfl) rfl rfl ?_
  refine o_ic X212 H (od dB42 13 rfl) (v := 0) rfl ?_
  refine o_aldN X212 H (od dB42 14 rfl) rfl rfl ?_
  have cp213 := (At.ext E212)
  obtain ⟨cl213, Ar213, q213, S213, G213, H213, F213⟩ := cp213
  refine own_on (fun tq => X212.arraylength hx (by rw [e212]; exact Ar213.1) (State.isArrayOf_alike hZ.alike Ar213.2.1) (g := (mkF m 20 #[.val (.ref tb), .val (.int (0 : Int32)), .val (.int (Int32.ofNat q)), .val (.int (Int32.ofNat q)), .val (.ref b212)] [(.ref tb), (.int (0 : Int32)), (.ref b212), (.int (0 : Int32)), (.ref tb)])) rfl rfl (hb hby (od dB42 15 rfl)) tq) ?_
  rw [len_of S213 G213]
  show own_Fin p e below _ (T212.setTop (mkF m 21 #[.val (.ref tb), .val (.int (0 : Int32)), .val (.int (Int32.ofNat q)), .val (.int (Int32.ofNat q)), .val (.ref b212)] [(.int (Int32.ofNat c)), (.int (0 : Int32)), (.ref b212), (.int (0 : Int32)), (.ref tb)]))
  refine o_ildN X212 H (od dB42 16 rfl) rfl ?_
  refine o_isub X212 H (od dB42 17 rfl) ?_
  rw [Int32.sub_zero]
  show own_Fin p e below _ (T212.setTop (mkF m 23 #[.val (.ref tb), .val (.int (0 : Int32)), .val (.int (Int32.ofNat q)), .val (.int (Int32.ofNat q)), .val (.ref b212)] [(.int (Int32.ofNat c)), (.int (0 : Int32)), (.ref b212), (.int (0 : Int32)), (.ref tb)]))
  refine o_ildN X212 H (od dB42 18 rfl) rfl ?_
  refine o_tc (argsL := [(.int (Int32.ofNat c)), (.int (Int32.ofNat q))]) (rest := [(.int (0 : Int32)), (.ref b212), (.int (0 : Int32)), (.ref tb)]) X212 H hml hZ hown (ow hw 192 rfl) (ow hw 193 rfl) (ow hw 185 rfl) (ow hw 194 rfl) (backOf (W := 4) (rmMb l Z a0 hw [] (Int32.ofNat c) (Int32.ofNat q) h212 n0 (by exact (Nat.le_trans Z0 E212.1)) (own_olt hlt (by omega))) hZ (ow hw 194 rfl) (ow hw 185 rfl) (by decide) (by decide)) (by decide) e212 pd_11 (od dB42 19 rfl) rfl rfl rfl rfl rfl (by decide) (by decide) (o_pk (fun _ _ _ q => q) N211 fun T214 Lc214 X214 N214 e214 => ?_)
  obtain ⟨T215, h215, L215, X215, e215, N215, K215, A215, st215⟩ := own_cpNew X214 hx hZ hown (ow hw 195 rfl) (ow hw 198 rfl) (ow hw 196 rfl) (ow hw 197 rfl) e214 (At.ext E212) V212 (q := q) (c1 := c) (c2 := q) hv hqc (Nat.le_refl _) (by omega) (by omega) N214 gn212 (g := (mkF m 27 #[.val (.ref tb), .val (.int (0 : Int32)), .val (.int (Int32.ofNat q)), .val (.int (Int32.ofNat q)), .val (.ref b212)] [(.int (Int32.ofNat q)), (.int (0 : Int32)), (.ref b212), (.int (0 : Int32)), (.ref tb)])) rfl (by rw [hml]; rfl) rfl (hb hby (od dB42 20 rfl)) (by decide) (W := 0) (by show 2 * 0 + _ ≤ _; exact Nat.le_of_eq rfl) (by decide)
  refine own_on st215 ?_
  show own_Fin p e below _ (T215.setTop (mkF m 30 #[.val (.ref tb), .val (.int (0 : Int32)), .val (.int (Int32.ofNat q)), .val (.int (Int32.ofNat q)), .val (.ref b212)] []))
  refine o_ald X215 H (od dB42 21 rfl) rfl rfl ?_
  exact own_ret (t := (.array .byte)) X215 hx hlk hret rfl (Or.inr (Or.inr (Or.inr (Or.inr ⟨rfl, rfl, rfl⟩)))) (hb hby (od dB42 22 rfl)) (by show Q42 Z tb kt c q vs h0 n0 _ T215.heap _; rw [e215]; exact ⟨b212, k212, rfl, N215, (((Keep.refl h0 []).ext E212).trans K215 (allS (Or.inr gk212) all0)), gn212, gk212, (D212.keep K215), A215⟩) (by decide) (by decide)
theorem dB17 : oL jdk_65_method_132_code [(0, .iload_n 1, 1), (1, .ifCond .ne 9, 3), (4, .iload_n 2, 1), (5, .aload_n 0, 1), (6, .arraylength, 1), (7, .if_icmp .eq 10, 3), (10, .aload_n 0, 1), (11, .iload_n 1, 1), (12, .iload_n 2, 1), (13, .invokestatic 339, 3), (16, .areturn, 1), (17, .aload_n 0, 1), (18, .invokevirtual 310, 3), (21, .checkcast 311, 3), (24, .areturn, 1)] := by unfold oL; decide +kernel
theorem pd_24 : parseMethodDescriptor "([BII)[B" = some ⟨[(.array .byte), .int, .int], some (.array .byte)⟩ := by decide +kernel
theorem ef_rm17 (m : MethodId) (x0 : Addr) (x1 : Int32) (x2 : Int32) : entryFrame m #[(.ref x0), (.int x1), (.int x2)] 3 = mkF m 0 #[.val (.ref x0), .val (.int x1), .val (.int x2)] [] := by first | (simp [entryFrame, mkF, argsToLocals, Value.category]; done) | rfl
def Q17 (Z : State) (tb : Addr) (kt : ClassId) (c : Nat) (q : Nat) (vs : List Value) (h0 : Heap) (n0 : Nat) (v : Option Value) (h : Heap) (L : List Loc) : Prop := ∃ (x : Addr) (kx : ClassId), v = some (.ref x) ∧ Fr n0 L ∧ Keep h0 h [] ∧ n0 ≤ x ∧ h0.size ≤ x ∧ Exa Z h x "[B" ∧ Arv Z h x kx .byte (Int32.ofNat q) vs (.int 0)
set_option maxRecDepth 65536 in
set_option maxHeartbeats 40000000 in
theorem rm17 (l : Launch) (Z : State) (a0 : Array Value) (hw : ∀ d ∈ tables_1, d.before a0 Z = true) (ws : List Jvm.Cond) (tb : Addr) (kt : ClassId) (c : Nat) (q : Nat) (vs : List Value) (h0 : Heap) (n0 : Nat) (Z0 : n0 ≤ h0.size) (At : Arv Z h0 tb kt .byte (Int32.ofNat c) vs (.int 0)) (Et : Exa Z h0 tb "[B") (hv : vs.length ≤ q) (hqc : q ≤ c) (hc : c ≤ 72) :
    own_M l (⟨"java/util/Arrays", "copyOfRange", "([BII)[B"⟩ : MethodName) jdk_65_method_132_code 3 (some (.array .byte)) ws ({ frames := 2, cells := 1, slots := 72, locals := 34 } : Room) #[(.ref tb), (.int (0 : Int32)), (.int (Int32.ofNat q))] Z h0 (Q17 Z tb kt c q vs h0 n0) := by
  refine MetFree.of_bodySF (plainFor_of_name pn_7) hisR ?_
  intro p e s m args below meth cd s₁ Bd hml hP hK
  obtain ⟨rfl, hZ, hh⟩ := hP
  obtain ⟨X0, e0, H, hlk, hown, hret⟩ := own_start (R := ({ frames := 2, cells := 1, slots := 72, locals := 34 } : Room)) Bd hh rfl
  have hx := H.1; have hby := H.2; have N0 := Fr.nil n0
  show own_Fin p e below (own_Ans s (Q17 Z tb kt c q vs h0 n0) ({ frames := 2, cells := 1, slots := 72, locals := 34 } : Room).cells ({ frames := 2, cells := 1, slots := 72, locals := 34 } : Room).slots) (s₁.setTop (entryFrame m #[(.ref tb), (.int (0 : Int32)), (.int (Int32.ofNat q))] 3))
  refine own_cast (ef_rm17 m tb (0 : Int32) (Int32.ofNat q)) ?_
  show own_Fin p e below _ (s₁.setTop (mkF m 0 #[.val (.ref tb), .val (.int (0 : Int32)), .val (.int (Int32.ofNat q))] []))
  refine o_ildN X0 H (od dB17 0 rfl) rfl ?_
  refine o_ifN X0 H (od dB17 1 rfl) ((if0 _ _).trans (teq (by decide : (0 : Int32) = (0 : Int32))).2) ?_
  refine o_ildN X0 H (od dB17 2 rfl) rfl ?_
  refine o_aldN X0 H (od dB17 3 rfl) rfl rfl ?_
  have cp216 := At
  obtain ⟨cl216, Ar216, q216, S216, G216, H216, F216⟩ := cp216
  refine own_on (fun tq => X0.arraylength hx (by rw [e0]; exact Ar216.1) (State.isArrayOf_alike hZ.alike Ar216.2.1) (g := (mkF m 6 #[.val (.ref tb), .val (.int (0 : Int32)), .val (.int (Int32.ofNat q))] [(.ref tb), (.int (Int32.ofNat q))])) rfl rfl (hb hby (od dB17 4 rfl)) tq) ?_
  rw [len_of S216 G216]
  show own_Fin p e below _ (s₁.setTop (mkF m 7 #[.val (.ref tb), .val (.int (0 : Int32)), .val (.int (Int32.ofNat q))] [(.int (Int32.ofNat c)), (.int (Int32.ofNat q))]))
  by_cases hc217 : (Int32.ofNat q) = (Int32.ofNat c)
  · refine o_icY X0 H (od dB17 5 rfl) (teq hc217).1 (pc' := 17) (by decide) (by decide) ?_
    refine o_aldN X0 H (od dB17 11 rfl) rfl rfl ?_
    have cp218 := At
    obtain ⟨cl218, Ar218, q218, S218, G218, H218, F218⟩ := cp218
    obtain ⟨T218, h218, X218, e218, E218, A218, D218, st218⟩ := cloneA X0 hx hZ (ad := "[B") hown (ow hw 97 rfl) (ow hw 98 rfl) (ow hw 102 rfl) (ow hw 100 rfl) (ow hw 101 rfl) (ow hw 103 rfl) e0 Ar218 Et (own_fitc Ar218 H218 F218) (g := (mkF m 18 #[.val (.ref tb), .val (.int (0 : Int32)), .val (.int (Int32.ofNat q))] [(.ref tb)])) rfl (by rw [hml]; rfl) rfl (hb hby (od dB17 12 rfl)) (by decide) (W := 0) (cap := 72) (by show 2 * 0 + _ ≤ _; exact Nat.le_of_eq rfl) (by decide) (by rw [S218, own_clampN (by omega)]; omega) (by decide) (by decide)
    obtain ⟨b218, g218⟩ : ∃ z, z = h0.size := ⟨_, rfl⟩
    rw [← g218] at A218 D218 st218
    have ne218_tb : tb ≠ b218 := own_ne_of (Z := Z) At.lt g218
    have gn218 : n0 ≤ b218 := Nat.le_trans Z0 (Nat.le_of_eq g218.symm)
    have gk218 : h0.size ≤ b218 := Nat.le_trans (Keep.refl h0 []).1 (Nat.le_of_eq g218.symm)
    have V218 : Arv Z h218 b218 cl218.cls .byte (Int32.ofNat c) vs (.int 0) := ⟨_, A218, rfl, S218, G218, H218, F218⟩
    refine own_on st218 ?_
    show own_Fin p e below _ (T218.setTop (mkF m 21 #[.val (.ref tb), .val (.int (0 : Int32)), .val (.int (Int32.ofNat q))] [(.ref b218)]))
    obtain ⟨T219, X219, e219, st219⟩ := castY X218 hx hZ hown (ow hw 104 rfl) e218 (Ins.self D218) (g := (mkF m 21 #[.val (.ref tb), .val (.int (0 : Int32)), .val (.int (Int32.ofNat q))] [(.ref b218)])) rfl rfl (hb hby (od dB17 13 rfl))
    refine own_on st219 ?_
    show own_Fin p e below _ (T219.setTop (mkF m 24 #[.val (.ref tb), .val (.int (0 : Int32)), .val (.int (Int32.ofNat q))] [(.ref b218)]))
    exact own_ret (t := (.array .byte)) X219 hx hlk hret rfl (Or.inr (Or.inr (Or.inr (Or.inr ⟨rfl, rfl, rfl⟩)))) (hb hby (od dB17 14 rfl)) (by show Q17 Z tb kt c q vs h0 n0 _ T219.heap _; rw [e219]; exact ⟨b218, cl218.cls, rfl, N0, ((Keep.refl h0 []).ext E218), gn218, gk218, D218, (by have q_ := V218; rw [← hc217] at q_; exact q_)⟩) (by decide) (by decide)
  · refine o_icN X0 H (od dB17 5 rfl) (feq hc217).1 ?_
    refine o_aldN X0 H (od dB17 6 rfl) rfl rfl ?_
    refine o_ildN X0 H (od dB17 7 rfl) rfl ?_
    refine o_ildN X0 H (od dB17 8 rfl) rfl ?_
    refine o_tc (argsL := [(.ref tb), (.int (0 : Int32)), (.int (Int32.ofNat q))]) (rest := []) X0 H hml hZ hown (ow hw 217 rfl) (ow hw 218 rfl) (ow hw 95 rfl) (ow hw 219 rfl) (backOf (W := 0) (rm42 l Z a0 hw [] tb kt c q vs h0 n0 (by exact Z0) At Et hv hqc hc (Nat.lt_of_le_of_ne hqc (fun e => hc217 (congrArg Int32.ofNat e)))) hZ (ow hw 219 rfl) (ow hw 95 rfl) (by decide) (by decide)) (by decide) e0 pd_24 (od dB17 9 rfl) rfl rfl rfl rfl rfl (by decide) (by decide) fun _ T220 Lc220 X220 hQ220 => ?_
    obtain ⟨x220, kx220, rfl, N220q, K220, gn220, gk220, Ex220, Aq220⟩ := hQ220
    have ne220_tb : tb ≠ x220 := Nat.ne_of_lt (Nat.lt_of_lt_of_le At.lt gk220)
    have N220 := Fr.app N0 N220q
    show own_Fin p e below _ (T220.setTop (mkF m 16 #[.val (.ref tb), .val (.int (0 : Int32)), .val (.int (Int32.ofNat q))] [(.ref x220)]))
    exact own_ret (t := (.array .byte)) X220 hx hlk hret rfl (Or.inr (Or.inr (Or.inr (Or.inr ⟨rfl, rfl, rfl⟩)))) (hb hby (od dB17 10 rfl)) (by show Q17 Z tb kt c q vs h0 n0 _ T220.heap _; exact ⟨x220, kx220, rfl, N220, ((Keep.refl h0 []).trans K220 all0), gn220, (Nat.le_trans (Keep.refl h0 []).1 gk220), Ex220, Aq220⟩) (by decide) (by decide)
theorem dB12 : oL jdk_42_method_150_code [(0, .aload_n 0, 1), (1, .invokespecial 1, 3), (4, .aload_n 1, 1), (5, .invokevirtual 552, 3), (8, .astore_n 3, 1), (9, .aload_n 1, 1), (10, .invokevirtual 549, 3), (13, .istore 4, 2), (15, .aload_n 1, 1), (16, .invokevirtual 1047, 3), (19, .ifCond .eq 22, 3), (22, .aload_n 0, 1), (23, .iconst 0, 1), (24, .putfield 15, 3), (27, .aload_n 0, 1), (28, .aload_n 3, 1), (29, .iconst 0, 1), (30, .iload 4, 2), (32, .invokestatic 54, 3), (35, .putfield 9, 3), (38, .goto 59, 3), (41, .getstatic 38, 3), (44, .ifCond .eq 35, 3), (47, .aload_n 1, 1), (48, .getfield 1048, 3), (51, .ifCond .eq 28, 3), (54, .aload_n 0, 1), (55, .aload_n 3, 1), (56, .iconst 0, 1), (57, .iload 4, 2), (59, .invokestatic 1051, 3), (62, .putfield 9, 3), (65, .aload_n 0, 1), (66, .aload_n 0, 1), (67, .getfield 9, 3), (70, .iload 4, 2), (72, .invokestatic 47, 3), (75, .putfield 15, 3), (78, .return_, 1), (79, .aload_n 0, 1), (80, .iconst 1, 1), (81, .putfield 15, 3), (84, .aload_n 0, 1), (85, .aload_n 3, 1), (86, .iconst 0, 1), (87, .iload 4, 2), (89, .iconst 1, 1), (90, .ishl, 1), (91, .invokestatic 54, 3), (94, .putfield 9, 3), (97, .return_, 1)] := by unfold oL; decide +kernel
theorem pd_25 : parseMethodDescriptor "()[B" = some ⟨[], some (.array .byte)⟩ := by decide +kernel
theorem ef_rmSv0 (m : MethodId) (x0 : Addr) (x1 : Addr) : entryFrame m #[(.ref x0), (.ref x1), .null] 5 = mkF m 0 #[.val (.ref x0), .val (.ref x1), .val .null, .unset, .unset] [] := by first | (simp [entryFrame, mkF, argsToLocals, Value.category]; done) | rfl
def QSv0 (Z : State) (a : Addr) (b : Addr) (tb : Addr) (kt : ClassId) (k : Nat) (cs : List Int32) (c : Nat) (z : Int32) (fm : Value) (h0 : Heap) (n0 : Nat) (v : Option Value) (h : Heap) (L : List Loc) : Prop := ∃ (x : Addr) (kx : ClassId), v = none ∧ Fr n0 L ∧ Keep h0 h [a] ∧ h0.size ≤ x ∧ Exa Z h a "java/lang/String" ∧ Fld Z h a "java/lang/String" "coder" "B" (.int (0 : Int32)) ∧ Fld Z h a "java/lang/String" "value" "[B" (.ref x) ∧ Arv Z h x kx .byte (Int32.ofNat k) ((cs.map StrChars.lo8).map Value.int) (.int 0)
set_option maxRecDepth 65536 in
set_option maxHeartbeats 40000000 in
theorem rmSv0 (l : Launch) (Z : State) (a0 : Array Value) (hw : ∀ d ∈ tables_1, d.before a0 Z = true) (ws : List Jvm.Cond) (a : Addr) (b : Addr) (tb : Addr) (kt : ClassId) (k : Nat) (cs : List Int32) (c : Nat) (z : Int32) (fm : Value) (h0 : Heap) (n0 : Nat) (Z0 : n0 ≤ h0.size) (PU : own_PU Z n0 h0 z fm) (Eb : Exa Z h0 b "java/lang/StringBuilder") (Fv : Fld Z h0 b "java/lang/AbstractStringBuilder" "value" "[B" (.ref tb)) (Fc : Fld Z h0 b "java/lang/AbstractStringBuilder" "count" "I" (.int (Int32.ofNat k))) (Fk : Fld Z h0 b "java/lang/AbstractStringBuilder" "coder" "B" (.int (0 : Int32))) (Fm : Fld Z h0 b "java/lang/AbstractStringBuilder" "maybeLatin1" "Z" (.int (0 : Int32))) (Et : Exa Z h0 tb "[B") (At : Arv Z h0 tb kt .byte (Int32.ofNat c) ((cs.map StrChars.lo8).map Value.int) (.int 0)) (gb : n0 ≤ b) (gt : n0 ≤ tb) (nbt : b ≠ tb) (hk : cs.length = k) (hkc : k ≤ c) (hc : c ≤ 36) (Ea : Exa Z h0 a "java/lang/String") (V0 : Fld Z h0 a "java/lang/String" "value" "[B" .null) (C0 : Fld Z h0 a "java/lang/String" "coder" "B" (.int (0 : Int32))) (ga : n0 ≤ a) (nab : a ≠ b) (nat : a ≠ tb) :
    own_M l (⟨"java/lang/String", "<init>", "(Ljava/lang/AbstractStringBuilder;Ljava/lang/Void;)V"⟩ : MethodName) jdk_42_method_150_code 5 none ws ({ frames := 3, cells := 1, slots := 72, locals := 49 } : Room) #[(.ref a), (.ref b), .null] Z h0 (QSv0 Z a b tb kt k cs c z fm h0 n0) := by
  refine MetFree.of_bodySF (plainFor_of_name pn_1) hisR ?_
  intro p e s m args below meth cd s₁ Bd hml hP hK
  obtain ⟨rfl, hZ, hh⟩ := hP
  obtain ⟨X0, e0, H, hlk, hown, hret⟩ := own_start (R := ({ frames := 3, cells := 1, slots := 72, locals := 49 } : Room)) Bd hh rfl
  have hx := H.1; have hby := H.2; have N0 := Fr.nil n0
  obtain ⟨hz, O, SC, SA, SH, SL, SF, hfm⟩ := PU
  have hnm := (name_of_methodNamed Bd.named Bd.method).1
  show own_Fin p e below (own_Ans s (QSv0 Z a b tb kt k cs c z fm h0 n0) ({ frames := 3, cells := 1, slots := 72, locals := 49 } : Room).cells ({ frames := 3, cells := 1, slots := 72, locals := 49 } : Room).slots) (s₁.setTop (entryFrame m #[(.ref a), (.ref b), .null] 5))
  refine own_cast (ef_rmSv0 m a b) ?_
  show own_Fin p e below _ (s₁.setTop (mkF m 0 #[.val (.ref a), .val (.ref b), .val .null, .unset, .unset] []))
  refine o_aldN X0 H (od dB12 0 rfl) rfl rfl ?_
  obtain ⟨T221, X221, e221, st221⟩ := initO X0 hx hZ hown (ow hw 16 rfl) (ow hw 17 rfl) (ow hw 18 rfl) e0 (g := (mkF m 1 #[.val (.ref a), .val (.ref b), .val .null, .unset, .unset] [(.ref a)])) rfl (by rw [hml]; rfl) rfl (hb hby (od dB12 1 rfl)) (by decide) (W := 0) (by show 2 * 0 + _ ≤ _; exact Nat.le_of_eq rfl) (by decide)
  refine own_on st221 ?_
  show own_Fin p e below _ (T221.setTop (mkF m 4 #[.val (.ref a), .val (.ref b), .val .null, .unset, .unset] []))
  refine o_aldN X221 H (od dB12 2 rfl) rfl rfl ?_
  refine o_vs (argsL := []) (rest := []) X221 H hml hZ hown (ow hw 72 rfl) (ow hw 73 rfl) (ow hw 75 rfl) (ow hw 74 rfl) (backOf (W := 0) (rm13 l Z a0 hw [] b tb h0 n0 (by exact Z0) Fv) hZ (ow hw 76 rfl) (ow hw 52 rfl) (by decide) (by decide)) (by decide) Eb e221 pd_25 (od dB12 3 rfl) rfl rfl rfl rfl rfl (by decide) (by decide) (o_pk (fun _ _ _ q => q) N0 fun T222 Lc222 X222 N222 e222 => ?_)
  refine o_astN X222 H (od dB12 4 rfl) (L' := #[.val (.ref a), .val (.ref b), .val .null, .val (.ref tb), .unset]) rfl rfl ?_
  refine o_aldN X222 H (od dB12 5 rfl) rfl rfl ?_
  refine o_vc (argsL := []) (rest := []) X222 H hml hZ hown (ow hw 77 rfl) (ow hw 78 rfl) (own_nf (a0 := #[]) (mvT hZ (ow hw 75 rfl)) rfl) (ow hw 80 rfl) (ow hw 81 rfl) (backOf (W := 0) (rm14 l Z a0 hw [] b (Int32.ofNat k) h0 n0 (by exact Z0) Eb Fc) hZ (ow hw 82 rfl) (ow hw 33 rfl) (by decide) (by decide)) (by decide) Eb e222 pd_10 (od dB12 6 rfl) rfl rfl rfl rfl rfl (by decide) (by decide) (o_pk (fun _ _ _ q => q) N222 fun T223 Lc223 X223 N223 e223 => ?_)
  refine o_ist X223 H (od dB12 7 rfl) (L' := #[.val (.ref a), .val (.ref b), .val .null, .val (.ref tb), .val (.int (Int32.ofNat k))]) rfl ?_
  refine o_aldN X223 H (od dB12 8 rfl) rfl rfl ?_
  refine o_vs (argsL := []) (rest := []) X223 H hml hZ hown (ow hw 88 rfl) (ow hw 89 rfl) (ow hw 91 rfl) (ow hw 90 rfl) (backOf (W := 0) (rmIl0 l Z a0 hw [] b z fm h0 n0 (by exact Z0) ⟨hz, O, SC, SA, SH, SL, SF, hfm⟩ Fk) hZ (ow hw 92 rfl) (ow hw 52 rfl) (by decide) (by decide)) (by decide) Eb e223 pd_13 (od dB12 9 rfl) rfl rfl rfl rfl rfl (by decide) (by decide) (o_pk (fun _ _ _ q => q) N223 fun T224 Lc224 X224 N224 e224 => ?_)
  refine o_ifN X224 H (od dB12 10 rfl) ((if0 _ _).trans (feq (by decide : ¬ ((1 : Int32) = (0 : Int32)))).1) ?_
  refine o_aldN X224 H (od dB12 11 rfl) rfl rfl ?_
  refine o_ic X224 H (od dB12 12 rfl) (v := 0) rfl ?_
  obtain ⟨T225, h225, X225, e225, W225, st225⟩ := putFN X224 hx hZ hown (ow hw 26 rfl) Via.refl e224 C0 Ea (Or.inr ⟨(ow hw 22 rfl), rfl, hnm⟩) (ow hw 6 rfl) (ty := .byte) (v' := (.int (0 : Int32))) (by decide) rfl (by decide) (g := (mkF m 24 #[.val (.ref a), .val (.ref b), .val .null, .val (.ref tb), .val (.int (Int32.ofNat k))] [(.int (0 : Int32)), (.ref a)])) rfl rfl (hb hby (od dB12 13 rfl))
  have N225 := Fr.snoc X225 N224 ga
  have y226 := (V0.other W225 (Or.inr (slot_ne (Or.inr (ow hw 21 rfl)) (Or.inr (ow hw 22 rfl)) (by decide) (t := (.array .byte)) (t' := .byte) (by decide) (by decide))))
  refine own_on st225 ?_
  show own_Fin p e below _ (T225.setTop (mkF m 27 #[.val (.ref a), .val (.ref b), .val .null, .val (.ref tb), .val (.int (Int32.ofNat k))] []))
  refine o_aldN X225 H (od dB12 14 rfl) rfl rfl ?_
  refine o_aldN X225 H (od dB12 15 rfl) rfl rfl ?_
  refine o_ic X225 H (od dB12 16 rfl) (v := 0) rfl ?_
  refine o_ild X225 H (od dB12 17 rfl) rfl ?_
  refine o_tc (argsL := [(.ref tb), (.int (0 : Int32)), (.int (Int32.ofNat k))]) (rest := [(.ref a)]) X225 H hml hZ hown (ow hw 93 rfl) (ow hw 94 rfl) (ow hw 95 rfl) (ow hw 96 rfl) (backOf (W := 1) (rm17 l Z a0 hw [] tb kt c k _ h225 n0 (by exact (Nat.le_trans Z0 (Keep.of_wr W225).1)) (At.other W225 (Ne.symm nat)) (Et.wr W225) (by rw [own_vl, hk]; exact Nat.le_refl _) (by omega) (by omega)) hZ (ow hw 96 rfl) (ow hw 95 rfl) (by decide) (by decide)) (by decide) e225 pd_24 (od dB12 18 rfl) rfl rfl rfl rfl rfl (by decide) (by decide) fun _ T227 Lc227 X227 hQ227 => ?_
  obtain ⟨x227, kx227, rfl, N227q, K227, gn227, gk227, Ex227, Aq227⟩ := hQ227
  have ne227_b : b ≠ x227 := Nat.ne_of_lt (Nat.lt_of_lt_of_le (Eb.wr W225).lt gk227)
  have ne227_tb : tb ≠ x227 := Nat.ne_of_lt (Nat.lt_of_lt_of_le (Et.wr W225).lt gk227)
  have ne227_a : a ≠ x227 := Nat.ne_of_lt (Nat.lt_of_lt_of_le (Ea.wr W225).lt gk227)
  have N227 := Fr.app N225 N227q
  show own_Fin p e below _ (T227.setTop (mkF m 35 #[.val (.ref a), .val (.ref b), .val .null, .val (.ref tb), .val (.int (Int32.ofNat k))] [(.ref x227), (.ref a)]))
  obtain ⟨T228, h228, X228, e228, W228, st228⟩ := putF X227 hx hZ hown (host := "") (Or.inl (ow hw 25 rfl)) Via.refl rfl (y226.keep K227 nin0) ((Ea.wr W225).keep K227) (Or.inr ⟨(ow hw 21 rfl), rfl, hnm⟩) (ow hw 6 rfl) (ty := (.array .byte)) (by decide) rfl rfl (g := (mkF m 35 #[.val (.ref a), .val (.ref b), .val .null, .val (.ref tb), .val (.int (Int32.ofNat k))] [(.ref x227), (.ref a)])) rfl rfl (hb hby (od dB12 19 rfl))
  have N228 := Fr.snoc X228 N227 ga
  have y229 := ((((Keep.refl h0 [a]).wr W225 (Or.inl (List.mem_of_getElem? (i := 0) rfl))).trans K227 all0).wr W228 (Or.inl (List.mem_of_getElem? (i := 0) rfl)))
  have y230 := (((C0.same W225).keep K227 nin0).other W228 (Or.inr (slot_ne (Or.inr (ow hw 22 rfl)) (Or.inr (ow hw 21 rfl)) (by decide) (t := .byte) (t' := (.array .byte)) (by decide) (by decide))))
  refine own_on st228 ?_
  show own_Fin p e below _ (T228.setTop (mkF m 38 #[.val (.ref a), .val (.ref b), .val .null, .val (.ref tb), .val (.int (Int32.ofNat k))] []))
  refine o_go X228 H (od dB12 20 rfl) (pc' := 97) (by decide) (by decide) ?_
  exact own_retV X228 hx hlk hret (hb hby (od dB12 50 rfl)) (by show QSv0 Z a b tb kt k cs c z fm h0 n0 _ T228.heap _; rw [e228]; exact ⟨x227, kx227, rfl, N228, y229, (Nat.le_trans ((Keep.refl h0 [a]).wr W225 (Or.inl (List.mem_of_getElem? (i := 0) rfl))).1 gk227), (((Ea.wr W225).keep K227).wr W228), y230, ((y226.keep K227 nin0).same W228), (Aq227.other W228 (Ne.symm ne227_a))⟩) (by decide) (by decide)
theorem ef_rmSv1 (m : MethodId) (x0 : Addr) (x1 : Addr) : entryFrame m #[(.ref x0), (.ref x1), .null] 5 = mkF m 0 #[.val (.ref x0), .val (.ref x1), .val .null, .unset, .unset] [] := by first | (simp [entryFrame, mkF, argsToLocals, Value.category]; done) | rfl
def QSv1 (Z : State) (a : Addr) (b : Addr) (tb : Addr) (kt : ClassId) (k : Nat) (cs : List Int32) (c : Nat) (z : Int32) (fm : Value) (h0 : Heap) (n0 : Nat) (v : Option Value) (h : Heap) (L : List Loc) : Prop := ∃ (x : Addr) (kx : ClassId), v = none ∧ Fr n0 L ∧ Keep h0 h [a] ∧ h0.size ≤ x ∧ Exa Z h a "java/lang/String" ∧ Fld Z h a "java/lang/String" "coder" "B" (.int (1 : Int32)) ∧ Fld Z h a "java/lang/String" "value" "[B" (.ref x) ∧ Arv Z h x kx .byte (Int32.ofNat (2 * k)) (StrChars.Road.wideBytes cs) (.int 0)
set_option maxRecDepth 65536 in
set_option maxHeartbeats 40000000 in
theorem rmSv1 (l : Launch) (Z : State) (a0 : Array Value) (hw : ∀ d ∈ tables_1, d.before a0 Z = true) (ws : List Jvm.Cond) (a : Addr) (b : Addr) (tb : Addr) (kt : ClassId) (k : Nat) (cs : List Int32) (c : Nat) (z : Int32) (fm : Value) (h0 : Heap) (n0 : Nat) (Z0 : n0 ≤ h0.size) (PU : own_PU Z n0 h0 z fm) (Eb : Exa Z h0 b "java/lang/StringBuilder") (Fv : Fld Z h0 b "java/lang/AbstractStringBuilder" "value" "[B" (.ref tb)) (Fc : Fld Z h0 b "java/lang/AbstractStringBuilder" "count" "I" (.int (Int32.ofNat k))) (Fk : Fld Z h0 b "java/lang/AbstractStringBuilder" "coder" "B" (.int (1 : Int32))) (Fm : Fld Z h0 b "java/lang/AbstractStringBuilder" "maybeLatin1" "Z" (.int (0 : Int32))) (Et : Exa Z h0 tb "[B") (At : Arv Z h0 tb kt .byte (Int32.ofNat (2 * c)) (StrChars.Road.wideBytes cs) (.int 0)) (gb : n0 ≤ b) (gt : n0 ≤ tb) (nbt : b ≠ tb) (hk : cs.length = k) (hkc : k ≤ c) (hc : c ≤ 36) (Ea : Exa Z h0 a "java/lang/String") (V0 : Fld Z h0 a "java/lang/String" "value" "[B" .null) (C0 : Fld Z h0 a "java/lang/String" "coder" "B" (.int (0 : Int32))) (ga : n0 ≤ a) (nab : a ≠ b) (nat : a ≠ tb) :
    own_M l (⟨"java/lang/String", "<init>", "(Ljava/lang/AbstractStringBuilder;Ljava/lang/Void;)V"⟩ : MethodName) jdk_42_method_150_code 5 none ws ({ frames := 3, cells := 1, slots := 72, locals := 49 } : Room) #[(.ref a), (.ref b), .null] Z h0 (QSv1 Z a b tb kt k cs c z fm h0 n0) := by
  refine MetFree.of_bodySF (plainFor_of_name pn_1) hisR ?_
  intro p e s m args below meth cd s₁ Bd hml hP hK
  obtain ⟨rfl, hZ, hh⟩ := hP
  obtain ⟨X0, e0, H, hlk, hown, hret⟩ := own_start (R := ({ frames := 3, cells := 1, slots := 72, locals := 49 } : Room)) Bd hh rfl
  have hx := H.1; have hby := H.2; have N0 := Fr.nil n0
  obtain ⟨hz, O, SC, SA, SH, SL, SF, hfm⟩ := PU
  have hnm := (name_of_methodNamed Bd.named Bd.method).1
  show own_Fin p e below (own_Ans s (QSv1 Z a b tb kt k cs c z fm h0 n0) ({ frames := 3, cells := 1, slots := 72, locals := 49 } : Room).cells ({ frames := 3, cells := 1, slots := 72, locals := 49 } : Room).slots) (s₁.setTop (entryFrame m #[(.ref a), (.ref b), .null] 5))
  refine own_cast (ef_rmSv1 m a b) ?_
  show own_Fin p e below _ (s₁.setTop (mkF m 0 #[.val (.ref a), .val (.ref b), .val .null, .unset, .unset] []))
  refine o_aldN X0 H (od dB12 0 rfl) rfl rfl ?_
  obtain ⟨T231, X231, e231, st231⟩ := initO X0 hx hZ hown (ow hw 16 rfl) (ow hw 17 rfl) (ow hw 18 rfl) e0 (g := (mkF m 1 #[.val (.ref a), .val (.ref b), .val .null, .unset, .unset] [(.ref a)])) rfl (by rw [hml]; rfl) rfl (hb hby (od dB12 1 rfl)) (by decide) (W := 0) (by show 2 * 0 + _ ≤ _; exact Nat.le_of_eq rfl) (by decide)
  refine own_on st231 ?_
  show own_Fin p e below _ (T231.setTop (mkF m 4 #[.val (.ref a), .val (.ref b), .val .null, .unset, .unset] []))
  refine o_aldN X231 H (od dB12 2 rfl) rfl rfl ?_
  refine o_vs (argsL := []) (rest := []) X231 H hml hZ hown (ow hw 72 rfl) (ow hw 73 rfl) (ow hw 75 rfl) (ow hw 74 rfl) (backOf (W := 0) (rm13 l Z a0 hw [] b tb h0 n0 (by exact Z0) Fv) hZ (ow hw 76 rfl) (ow hw 52 rfl) (by decide) (by decide)) (by decide) Eb e231 pd_25 (od dB12 3 rfl) rfl rfl rfl rfl rfl (by decide) (by decide) (o_pk (fun _ _ _ q => q) N0 fun T232 Lc232 X232 N232 e232 => ?_)
  refine o_astN X232 H (od dB12 4 rfl) (L' := #[.val (.ref a), .val (.ref b), .val .null, .val (.ref tb), .unset]) rfl rfl ?_
  refine o_aldN X232 H (od dB12 5 rfl) rfl rfl ?_
  refine o_vc (argsL := []) (rest := []) X232 H hml hZ hown (ow hw 77 rfl) (ow hw 78 rfl) (own_nf (a0 := #[]) (mvT hZ (ow hw 75 rfl)) rfl) (ow hw 80 rfl) (ow hw 81 rfl) (backOf (W := 0) (rm14 l Z a0 hw [] b (Int32.ofNat k) h0 n0 (by exact Z0) Eb Fc) hZ (ow hw 82 rfl) (ow hw 33 rfl) (by decide) (by decide)) (by decide) Eb e232 pd_10 (od dB12 6 rfl) rfl rfl rfl rfl rfl (by decide) (by decide) (o_pk (fun _ _ _ q => q) N232 fun T233 Lc233 X233 N233 e233 => ?_)
  refine o_ist X233 H (od dB12 7 rfl) (L' := #[.val (.ref a), .val (.ref b), .val .null, .val (.ref tb), .val (.int (Int32.ofNat k))]) rfl ?_
  refine o_aldN X233 H (od dB12 8 rfl) rfl rfl ?_
  refine o_vs (argsL := []) (rest := []) X233 H hml hZ hown (ow hw 88 rfl) (ow hw 89 rfl) (ow hw 91 rfl) (ow hw 90 rfl) (backOf (W := 0) (rmIl1 l Z a0 hw [] b z fm h0 n0 (by exact Z0) ⟨hz, O, SC, SA, SH, SL, SF, hfm⟩ Fk) hZ (ow hw 92 rfl) (ow hw 52 rfl) (by decide) (by decide)) (by decide) Eb e233 pd_13 (od dB12 9 rfl) rfl rfl rfl rfl rfl (by decide) (by decide) (o_pk (fun _ _ _ q => q) N233 fun T234 Lc234 X234 N234 e234 => ?_)
  refine o_ifY X234 H (od dB12 10 rfl) ((if0 _ _).trans (teq (by decide : (0 : Int32) = (0 : Int32))).1) (pc' := 41) (by decide) (by decide) ?_
  refine o_gs X234 H hZ hown (ow hw 44 rfl) Via.refl e234 (SC.ext O.2) (od dB12 21 rfl) fun T235 X235 e235 => ?_
  refine o_ifN X235 H (od dB12 22 rfl) ((if0 _ _).trans (feq hz).1) ?_
  refine o_aldN X235 H (od dB12 23 rfl) rfl rfl ?_
  refine o_gf X235 H hZ hown (ow hw 278 rfl) Via.refl e235 Fm (od dB12 24 rfl) fun T236 X236 e236 => ?_
  refine o_ifY X236 H (od dB12 25 rfl) ((if0 _ _).trans (teq (by decide : (0 : Int32) = (0 : Int32))).1) (pc' := 79) (by decide) (by decide) ?_
  refine o_aldN X236 H (od dB12 39 rfl) rfl rfl ?_
  refine o_ic X236 H (od dB12 40 rfl) (v := 1) rfl ?_
  obtain ⟨T237, h237, X237, e237, W237, st237⟩ := putFN X236 hx hZ hown (ow hw 26 rfl) Via.refl e236 C0 Ea (Or.inr ⟨(ow hw 22 rfl), rfl, hnm⟩) (ow hw 6 rfl) (ty := .byte) (v' := (.int (1 : Int32))) (by decide) rfl (by decide) (g := (mkF m 81 #[.val (.ref a), .val (.ref b), .val .null, .val (.ref tb), .val (.int (Int32.ofNat k))] [(.int (1 : Int32)), (.ref a)])) rfl rfl (hb hby (od dB12 41 rfl))
  have N237 := Fr.snoc X237 N234 ga
  have y238 := (V0.other W237 (Or.inr (slot_ne (Or.inr (ow hw 21 rfl)) (Or.inr (ow hw 22 rfl)) (by decide) (t := (.array .byte)) (t' := .byte) (by decide) (by decide))))
  refine own_on st237 ?_
  show own_Fin p e below _ (T237.setTop (mkF m 84 #[.val (.ref a), .val (.ref b), .val .null, .val (.ref tb), .val (.int (Int32.ofNat k))] []))
  refine o_aldN X237 H (od dB12 42 rfl) rfl rfl ?_
  refine o_aldN X237 H (od dB12 43 rfl) rfl rfl ?_
  refine o_ic X237 H (od dB12 44 rfl) (v := 0) rfl ?_
  refine o_ild X237 H (od dB12 45 rfl) rfl ?_
  refine o_ic X237 H (od dB12 46 rfl) (v := 1) rfl ?_
  refine own_on (fun tq => XS.ishl X237.here hx rfl (hb hby (od dB12 47 rfl)) rfl) ?_
  show own_Fin p e below _ (T237.setTop (mkF m 91 #[.val (.ref a), .val (.ref b), .val .null, .val (.ref tb), .val (.int (Int32.ofNat k))] [(.int ((Int32.ofNat k) <<< ((1 : Int32) &&& 31))), (.int (0 : Int32)), (.ref tb), (.ref a)]))
  rw [own_shl1 (by omega)]
  show own_Fin p e below _ (T237.setTop (mkF m 91 #[.val (.ref a), .val (.ref b), .val .null, .val (.ref tb), .val (.int (Int32.ofNat k))] [(.int (Int32.ofNat (2 * k))), (.int (0 : Int32)), (.ref tb), (.ref a)]))
  refine o_tc (argsL := [(.ref tb), (.int (0 : Int32)), (.int (Int32.ofNat (2 * k)))]) (rest := [(.ref a)]) X237 H hml hZ hown (ow hw 93 rfl) (ow hw 94 rfl) (ow hw 95 rfl) (ow hw 96 rfl) (backOf (W := 1) (rm17 l Z a0 hw [] tb kt (2 * c) (2 * k) _ h237 n0 (by exact (Nat.le_trans Z0 (Keep.of_wr W237).1)) (At.other W237 (Ne.symm nat)) (Et.wr W237) (by rw [own_wl, hk]; exact Nat.le_refl _) (by omega) (by omega)) hZ (ow hw 96 rfl) (ow hw 95 rfl) (by decide) (by decide)) (by decide) e237 pd_24 (od dB12 48 rfl) rfl rfl rfl rfl rfl (by decide) (by decide) fun _ T239 Lc239 X239 hQ239 => ?_
  obtain ⟨x239, kx239, rfl, N239q, K239, gn239, gk239, Ex239, Aq239⟩ := hQ239
  have ne239_b : b ≠ x239 := Nat.ne_of_lt (Nat.lt_of_lt_of_le (Eb.wr W237).lt gk239)
  have ne239_tb : tb ≠ x239 := Nat.ne_of_lt (Nat.lt_of_lt_of_le (Et.wr W237).lt gk239)
  have ne239_a : a ≠ x239 := Nat.ne_of_lt (Nat.lt_of_lt_of_le (Ea.wr W237).lt gk239)
  have N239 := Fr.app N237 N239q
  show own_Fin p e below _ (T239.setTop (mkF m 94 #[.val (.ref a), .val (.ref b), .val .null, .val (.ref tb), .val (.int (Int32.ofNat k))] [(.ref x239), (.ref a)]))
  obtain ⟨T240, h240, X240, e240, W240, st240⟩ := putF X239 hx hZ hown (host := "") (Or.inl (ow hw 25 rfl)) Via.refl rfl (y238.keep K239 nin0) ((Ea.wr W237).keep K239) (Or.inr ⟨(ow hw 21 rfl), rfl, hnm⟩) (ow hw 6 rfl) (ty := (.array .byte)) (by decide) rfl rfl (g := (mkF m 94 #[.val (.ref a), .val (.ref b), .val .null, .val (.ref tb), .val (.int (Int32.ofNat k))] [(.ref x239), (.ref a)])) rfl rfl (hb hby (od dB12 49 rfl))
  have N240 := Fr.snoc X240 N239 ga
  have y241 := ((((Keep.refl h0 [a]).wr W237 (Or.inl (List.mem_of_getElem? (i := 0) rfl))).trans K239 all0).wr W240 (Or.inl (List.mem_of_getElem? (i := 0) rfl)))
  have y242 := (((C0.same W237).keep K239 nin0).other W240 (Or.inr (slot_ne (Or.inr (ow hw 22 rfl)) (Or.inr (ow hw 21 rfl)) (by decide) (t := .byte) (t' := (.array .byte)) (by decide) (by decide))))
  refine own_on st240 ?_
  show own_Fin p e below _ (T240.setTop (mkF m 97 #[.val (.ref a), .val (.ref b), .val .null, .val (.ref tb), .val (.int (Int32.ofNat k))] []))
  exact own_retV X240 hx hlk hret (hb hby (od dB12 50 rfl)) (by show QSv1 Z a b tb kt k cs c z fm h0 n0 _ T240.heap _; rw [e240]; exact ⟨x239, kx239, rfl, N240, y241, (Nat.le_trans ((Keep.refl h0 [a]).wr W237 (Or.inl (List.mem_of_getElem? (i := 0) rfl))).1 gk239), (((Ea.wr W237).keep K239).wr W240), y242, ((y238.keep K239 nin0).same W240), (Aq239.other W240 (Ne.symm ne239_a))⟩) (by decide) (by decide)
theorem dB11 : oL jdk_42_method_53_code [(0, .aload_n 0, 1), (1, .aload_n 1, 1), (2, .aconst_null, 1), (3, .invokespecial 489, 3), (6, .return_, 1)] := by unfold oL; decide +kernel
theorem pd_26 : parseMethodDescriptor "(Ljava/lang/AbstractStringBuilder;Ljava/lang/Void;)V" = some ⟨[(.object "java/lang/AbstractStringBuilder"), (.object "java/lang/Void")], none⟩ := by decide +kernel
theorem ef_rmSw0 (m : MethodId) (x0 : Addr) (x1 : Addr) : entryFrame m #[(.ref x0), (.ref x1)] 2 = mkF m 0 #[.val (.ref x0), .val (.ref x1)] [] := by first | (simp [entryFrame, mkF, argsToLocals, Value.category]; done) | rfl
def QSw0 (Z : State) (a : Addr) (b : Addr) (tb : Addr) (kt : ClassId) (k : Nat) (cs : List Int32) (c : Nat) (z : Int32) (fm : Value) (h0 : Heap) (n0 : Nat) (v : Option Value) (h : Heap) (L : List Loc) : Prop := ∃ (x : Addr) (kx : ClassId), v = none ∧ Fr n0 L ∧ Keep h0 h [a] ∧ h0.size ≤ x ∧ Exa Z h a "java/lang/String" ∧ Fld Z h a "java/lang/String" "coder" "B" (.int (0 : Int32)) ∧ Fld Z h a "java/lang/String" "value" "[B" (.ref x) ∧ Arv Z h x kx .byte (Int32.ofNat k) ((cs.map StrChars.lo8).map Value.int) (.int 0)
set_option maxRecDepth 65536 in
set_option maxHeartbeats 40000000 in
theorem rmSw0 (l : Launch) (Z : State) (a0 : Array Value) (hw : ∀ d ∈ tables_1, d.before a0 Z = true) (ws : List Jvm.Cond) (a : Addr) (b : Addr) (tb : Addr) (kt : ClassId) (k : Nat) (cs : List Int32) (c : Nat) (z : Int32) (fm : Value) (h0 : Heap) (n0 : Nat) (Z0 : n0 ≤ h0.size) (PU : own_PU Z n0 h0 z fm) (Eb : Exa Z h0 b "java/lang/StringBuilder") (Fv : Fld Z h0 b "java/lang/AbstractStringBuilder" "value" "[B" (.ref tb)) (Fc : Fld Z h0 b "java/lang/AbstractStringBuilder" "count" "I" (.int (Int32.ofNat k))) (Fk : Fld Z h0 b "java/lang/AbstractStringBuilder" "coder" "B" (.int (0 : Int32))) (Fm : Fld Z h0 b "java/lang/AbstractStringBuilder" "maybeLatin1" "Z" (.int (0 : Int32))) (Et : Exa Z h0 tb "[B") (At : Arv Z h0 tb kt .byte (Int32.ofNat c) ((cs.map StrChars.lo8).map Value.int) (.int 0)) (gb : n0 ≤ b) (gt : n0 ≤ tb) (nbt : b ≠ tb) (hk : cs.length = k) (hkc : k ≤ c) (hc : c ≤ 36) (Ea : Exa Z h0 a "java/lang/String") (V0 : Fld Z h0 a "java/lang/String" "value" "[B" .null) (C0 : Fld Z h0 a "java/lang/String" "coder" "B" (.int (0 : Int32))) (ga : n0 ≤ a) (nab : a ≠ b) (nat : a ≠ tb) :
    own_M l (⟨"java/lang/String", "<init>", "(Ljava/lang/StringBuilder;)V"⟩ : MethodName) jdk_42_method_53_code 2 none ws ({ frames := 4, cells := 1, slots := 72, locals := 65 } : Room) #[(.ref a), (.ref b)] Z h0 (QSw0 Z a b tb kt k cs c z fm h0 n0) := by
  refine MetFree.of_bodySF (plainFor_of_name pn_1) hisR ?_
  intro p e s m args below meth cd s₁ Bd hml hP hK
  obtain ⟨rfl, hZ, hh⟩ := hP
  obtain ⟨X0, e0, H, hlk, hown, hret⟩ := own_start (R := ({ frames := 4, cells := 1, slots := 72, locals := 65 } : Room)) Bd hh rfl
  have hx := H.1; have hby := H.2; have N0 := Fr.nil n0
  obtain ⟨hz, O, SC, SA, SH, SL, SF, hfm⟩ := PU
  show own_Fin p e below (own_Ans s (QSw0 Z a b tb kt k cs c z fm h0 n0) ({ frames := 4, cells := 1, slots := 72, locals := 65 } : Room).cells ({ frames := 4, cells := 1, slots := 72, locals := 65 } : Room).slots) (s₁.setTop (entryFrame m #[(.ref a), (.ref b)] 2))
  refine own_cast (ef_rmSw0 m a b) ?_
  show own_Fin p e below _ (s₁.setTop (mkF m 0 #[.val (.ref a), .val (.ref b)] []))
  refine o_aldN X0 H (od dB11 0 rfl) rfl rfl ?_
  refine o_aldN X0 H (od dB11 1 rfl) rfl rfl ?_
  refine o_nul X0 H (od dB11 2 rfl) ?_
  refine o_sc (b := a) (argsL := [(.ref b), .null]) (rest := []) X0 H hml hZ hown (ow hw 69 rfl) (ow hw 70 rfl) (ow hw 71 rfl) (backOf (W := 0) (rmSv0 l Z a0 hw [] a b tb kt k cs c z fm h0 n0 (by exact Z0) ⟨hz, O, SC, SA, SH, SL, SF, hfm⟩ Eb Fv Fc Fk Fm Et At gb gt nbt hk (by omega) (by omega) Ea V0 C0 ga nab nat) hZ (ow hw 71 rfl) (ow hw 7 rfl) (by decide) (by decide)) rfl (by decide) e0 pd_26 (od dB11 3 rfl) rfl rfl rfl rfl rfl (by decide) (by decide) fun _ T243 Lc243 X243 hQ243 => ?_
  obtain ⟨x243, kx243, rfl, N243q, K243, gx243, Eq243, Cq243, Vq243, Aq243⟩ := hQ243
  have N243 := Fr.app N0 N243q
  show own_Fin p e below _ (T243.setTop (mkF m 6 #[.val (.ref a), .val (.ref b)] []))
  exact own_retV X243 hx hlk hret (hb hby (od dB11 4 rfl)) (by show QSw0 Z a b tb kt k cs c z fm h0 n0 _ T243.heap _; exact ⟨x243, kx243, rfl, N243, ((Keep.refl h0 [a]).trans K243 (allS (Or.inl (List.mem_of_getElem? (i := 0) rfl)) all0)), (Nat.le_trans (Keep.refl h0 [a]).1 gx243), Eq243, Cq243, Vq243, Aq243⟩) (by decide) (by decide)
theorem ef_rmSw1 (m : MethodId) (x0 : Addr) (x1 : Addr) : entryFrame m #[(.ref x0), (.ref x1)] 2 = mkF m 0 #[.val (.ref x0), .val (.ref x1)] [] := by first | (simp [entryFrame, mkF, argsToLocals, Value.category]; done) | rfl
def QSw1 (Z : State) (a : Addr) (b : Addr) (tb : Addr) (kt : ClassId) (k : Nat) (cs : List Int32) (c : Nat) (z : Int32) (fm : Value) (h0 : Heap) (n0 : Nat) (v : Option Value) (h : Heap) (L : List Loc) : Prop := ∃ (x : Addr) (kx : ClassId), v = none ∧ Fr n0 L ∧ Keep h0 h [a] ∧ h0.size ≤ x ∧ Exa Z h a "java/lang/String" ∧ Fld Z h a "java/lang/String" "coder" "B" (.int (1 : Int32)) ∧ Fld Z h a "java/lang/String" "value" "[B" (.ref x) ∧ Arv Z h x kx .byte (Int32.ofNat (2 * k)) (StrChars.Road.wideBytes cs) (.int 0)
set_option maxRecDepth 65536 in
set_option maxHeartbeats 40000000 in
theorem rmSw1 (l : Launch) (Z : State) (a0 : Array Value) (hw : ∀ d ∈ tables_1, d.before a0 Z = true) (ws : List Jvm.Cond) (a : Addr) (b : Addr) (tb : Addr) (kt : ClassId) (k : Nat) (cs : List Int32) (c : Nat) (z : Int32) (fm : Value) (h0 : Heap) (n0 : Nat) (Z0 : n0 ≤ h0.size) (PU : own_PU Z n0 h0 z fm) (Eb : Exa Z h0 b "java/lang/StringBuilder") (Fv : Fld Z h0 b "java/lang/AbstractStringBuilder" "value" "[B" (.ref tb)) (Fc : Fld Z h0 b "java/lang/AbstractStringBuilder" "count" "I" (.int (Int32.ofNat k))) (Fk : Fld Z h0 b "java/lang/AbstractStringBuilder" "coder" "B" (.int (1 : Int32))) (Fm : Fld Z h0 b "java/lang/AbstractStringBuilder" "maybeLatin1" "Z" (.int (0 : Int32))) (Et : Exa Z h0 tb "[B") (At : Arv Z h0 tb kt .byte (Int32.ofNat (2 * c)) (StrChars.Road.wideBytes cs) (.int 0)) (gb : n0 ≤ b) (gt : n0 ≤ tb) (nbt : b ≠ tb) (hk : cs.length = k) (hkc : k ≤ c) (hc : c ≤ 36) (Ea : Exa Z h0 a "java/lang/String") (V0 : Fld Z h0 a "java/lang/String" "value" "[B" .null) (C0 : Fld Z h0 a "java/lang/String" "coder" "B" (.int (0 : Int32))) (ga : n0 ≤ a) (nab : a ≠ b) (nat : a ≠ tb) :
    own_M l (⟨"java/lang/String", "<init>", "(Ljava/lang/StringBuilder;)V"⟩ : MethodName) jdk_42_method_53_code 2 none ws ({ frames := 4, cells := 1, slots := 72, locals := 65 } : Room) #[(.ref a), (.ref b)] Z h0 (QSw1 Z a b tb kt k cs c z fm h0 n0) := by
  refine MetFree.of_bodySF (plainFor_of_name pn_1) hisR ?_
  intro p e s m args below meth cd s₁ Bd hml hP hK
  obtain ⟨rfl, hZ, hh⟩ := hP
  obtain ⟨X0, e0, H, hlk, hown, hret⟩ := own_start (R := ({ frames := 4, cells := 1, slots := 72, locals := 65 } : Room)) Bd hh rfl
  have hx := H.1; have hby := H.2; have N0 := Fr.nil n0
  obtain ⟨hz, O, SC, SA, SH, SL, SF, hfm⟩ := PU
  show own_Fin p e below (own_Ans s (QSw1 Z a b tb kt k cs c z fm h0 n0) ({ frames := 4, cells := 1, slots := 72, locals := 65 } : Room).cells ({ frames := 4, cells := 1, slots := 72, locals := 65 } : Room).slots) (s₁.setTop (entryFrame m #[(.ref a), (.ref b)] 2))
  refine own_cast (ef_rmSw1 m a b) ?_
  show own_Fin p e below _ (s₁.setTop (mkF m 0 #[.val (.ref a), .val (.ref b)] []))
  refine o_aldN X0 H (od dB11 0 rfl) rfl rfl ?_
  refine o_aldN X0 H (od dB11 1 rfl) rfl rfl ?_
  refine o_nul X0 H (od dB11 2 rfl) ?_
  refine o_sc (b := a) (argsL := [(.ref b), .null]) (rest := []) X0 H hml hZ hown (ow hw 69 rfl) (ow hw 70 rfl) (ow hw 71 rfl) (backOf (W := 0) (rmSv1 l Z a0 hw [] a b tb kt k cs c z fm h0 n0 (by exact Z0) ⟨hz, O, SC, SA, SH, SL, SF, hfm⟩ Eb Fv Fc Fk Fm Et At gb gt nbt hk (by omega) (by omega) Ea V0 C0 ga nab nat) hZ (ow hw 71 rfl) (ow hw 7 rfl) (by decide) (by decide)) rfl (by decide) e0 pd_26 (od dB11 3 rfl) rfl rfl rfl rfl rfl (by decide) (by decide) fun _ T244 Lc244 X244 hQ244 => ?_
  obtain ⟨x244, kx244, rfl, N244q, K244, gx244, Eq244, Cq244, Vq244, Aq244⟩ := hQ244
  have N244 := Fr.app N0 N244q
  show own_Fin p e below _ (T244.setTop (mkF m 6 #[.val (.ref a), .val (.ref b)] []))
  exact own_retV X244 hx hlk hret (hb hby (od dB11 4 rfl)) (by show QSw1 Z a b tb kt k cs c z fm h0 n0 _ T244.heap _; exact ⟨x244, kx244, rfl, N244, ((Keep.refl h0 [a]).trans K244 (allS (Or.inl (List.mem_of_getElem? (i := 0) rfl)) all0)), (Nat.le_trans (Keep.refl h0 [a]).1 gx244), Eq244, Cq244, Vq244, Aq244⟩) (by decide) (by decide)
theorem dB10 : oL jdk_67_method_42_code [(0, .new 18, 3), (3, .dup, 1), (4, .aload_n 0, 1), (5, .invokespecial 137, 3), (8, .areturn, 1)] := by unfold oL; decide +kernel
theorem pd_27 : parseMethodDescriptor "(Ljava/lang/StringBuilder;)V" = some ⟨[(.object "java/lang/StringBuilder")], none⟩ := by decide +kernel
theorem ef_rm10 (m : MethodId) (x0 : Addr) : entryFrame m #[(.ref x0)] 1 = mkF m 0 #[.val (.ref x0)] [] := by first | (simp [entryFrame, mkF, argsToLocals, Value.category]; done) | rfl
def Q10 (Z : State) (b : Addr) (tb : Addr) (kt : ClassId) (k : Nat) (cs : List Int32) (c : Nat) (co : Int32) (nb : Int32) (vs : List Value) (z : Int32) (fm : Value) (h0 : Heap) (n0 : Nat) (v : Option Value) (h : Heap) (L : List Loc) : Prop := ∃ (y x : Addr) (kx : ClassId) (cd2 n2 : Int32) (vs2 : List Value), v = some (.ref y) ∧ Fr n0 L ∧ Keep h0 h [] ∧ StrChars.Road.CodA cs cd2 n2 vs2 ∧ Exa Z h y "java/lang/String" ∧ Fld Z h y "java/lang/String" "coder" "B" (.int cd2) ∧ Fld Z h y "java/lang/String" "value" "[B" (.ref x) ∧ Arv Z h x kx .byte n2 vs2 (.int 0)
set_option maxRecDepth 65536 in
set_option maxHeartbeats 40000000 in
theorem rm10 (l : Launch) (Z : State) (a0 : Array Value) (hw : ∀ d ∈ tables_1, d.before a0 Z = true) (ws : List Jvm.Cond) (b : Addr) (tb : Addr) (kt : ClassId) (k : Nat) (cs : List Int32) (c : Nat) (co : Int32) (nb : Int32) (vs : List Value) (z : Int32) (fm : Value) (h0 : Heap) (n0 : Nat) (Z0 : n0 ≤ h0.size) (PU : own_PU Z n0 h0 z fm) (Eb : Exa Z h0 b "java/lang/StringBuilder") (Fv : Fld Z h0 b "java/lang/AbstractStringBuilder" "value" "[B" (.ref tb)) (Fc : Fld Z h0 b "java/lang/AbstractStringBuilder" "count" "I" (.int (Int32.ofNat k))) (Fk : Fld Z h0 b "java/lang/AbstractStringBuilder" "coder" "B" (.int co)) (Fm : Fld Z h0 b "java/lang/AbstractStringBuilder" "maybeLatin1" "Z" (.int (0 : Int32))) (Et : Exa Z h0 tb "[B") (At : Arv Z h0 tb kt .byte nb vs (.int 0)) (gb : n0 ≤ b) (gt : n0 ≤ tb) (nbt : b ≠ tb) (hk : cs.length = k) (hkc : k ≤ c) (hc : c ≤ 36) (hBC : own_BC cs co c nb vs) (r16 : ∀ c ∈ cs, ¬ c < 0 ∧ ¬ (65535 : Int32) < c) :
    own_M l (⟨"java/lang/StringBuilder", "toString", "()Ljava/lang/String;"⟩ : MethodName) jdk_67_method_42_code 1 (some (.object "java/lang/String")) ws ({ frames := 5, cells := 2, slots := 76, locals := 79 } : Room) #[(.ref b)] Z h0 (Q10 Z b tb kt k cs c co nb vs z fm h0 n0) := by
  refine MetFree.of_bodySF (plainFor_of_name pn_5) hisR ?_
  intro p e s m args below meth cd s₁ Bd hml hP hK
  obtain ⟨rfl, hZ, hh⟩ := hP
  obtain ⟨X0, e0, H, hlk, hown, hret⟩ := own_start (R := ({ frames := 5, cells := 2, slots := 76, locals := 79 } : Room)) Bd hh rfl
  have hx := H.1; have hby := H.2; have N0 := Fr.nil n0
  obtain ⟨hz, O, SC, SA, SH, SL, SF, hfm⟩ := PU
  show own_Fin p e below (own_Ans s (Q10 Z b tb kt k cs c co nb vs z fm h0 n0) ({ frames := 5, cells := 2, slots := 76, locals := 79 } : Room).cells ({ frames := 5, cells := 2, slots := 76, locals := 79 } : Room).slots) (s₁.setTop (entryFrame m #[(.ref b)] 1))
  refine own_cast (ef_rm10 m b) ?_
  show own_Fin p e below _ (s₁.setTop (mkF m 0 #[.val (.ref b)] []))
  rcases hBC with ⟨hcd, hnb, hvs, hb_⟩ | ⟨hcd, hnb, hvs, hb_⟩
  · have Fk0 : Fld Z h0 b "java/lang/AbstractStringBuilder" "coder" "B" (.int (0 : Int32)) := by have q := Fk; rw [hcd] at q; exact q
    have At0 : Arv Z h0 tb kt .byte (Int32.ofNat c) ((cs.map StrChars.lo8).map Value.int) (.int 0) := by have q := At; rw [hnb, hvs] at q; exact q
    have rg : ∀ q_ ∈ cs, ¬ q_ < 0 ∧ ¬ (255 : Int32) < q_ := fun q hq => ⟨(r16 q hq).1, hb_ q hq⟩
    show own_Fin p e below _ (s₁.setTop (mkF m 0 #[.val (.ref b)] []))
    obtain ⟨T245, h245, X245, e245, E245, A245, D245, -, st245⟩ := newO X0 hx hZ hown (ow hw 65 rfl) (ow hw 6 rfl) (ow hw 7 rfl) e0 (g := (mkF m 0 #[.val (.ref b)] [])) rfl (hb hby (od dB10 0 rfl)) (by decide) (by decide)
    obtain ⟨b245, g245⟩ : ∃ z, z = h0.size := ⟨_, rfl⟩
    rw [← g245] at A245 D245 st245
    have ne245_b : b ≠ b245 := own_ne_of (Z := Z) Eb.lt g245
    have ne245_tb : tb ≠ b245 := own_ne_of (Z := Z) Et.lt g245
    have gn245 : n0 ≤ b245 := Nat.le_trans Z0 (Nat.le_of_eq g245.symm)
    have gk245 : h0.size ≤ b245 := Nat.le_trans (Keep.refl h0 []).1 (Nat.le_of_eq g245.symm)
    have F245_value : Fld Z h245 b245 "java/lang/String" "value" "[B" .null := D245 (Or.inr (ow hw 21 rfl)) (ty := (.array .byte)) (by decide)
    have F245_coder : Fld Z h245 b245 "java/lang/String" "coder" "B" (.int (0 : Int32)) := D245 (Or.inr (ow hw 22 rfl)) (ty := .byte) (by decide)
    refine own_on st245 ?_
    show own_Fin p e below _ (T245.setTop (mkF m 3 #[.val (.ref b)] [(.ref b245)]))
    refine o_dup X245 H (od dB10 1 rfl) rfl ?_
    refine o_aldN X245 H (od dB10 2 rfl) rfl rfl ?_
    refine o_sc (b := b245) (argsL := [(.ref b)]) (rest := [(.ref b245)]) X245 H hml hZ hown (ow hw 66 rfl) (ow hw 67 rfl) (ow hw 68 rfl) (backOf (W := 1) (rmSw0 l Z a0 hw [] b245 b tb kt k cs c z fm h245 n0 (by exact (Nat.le_trans Z0 E245.1)) ⟨hz, (O.ext E245), SC, SA, SH, SL, SF, hfm⟩ (Eb.ext E245) (Fv.ext E245) (Fc.ext E245) (Fk0.ext E245) (Fm.ext E245) (Et.ext E245) (At0.ext E245) gb gt nbt hk (by omega) (by omega) A245 F245_value F245_coder gn245 (Ne.symm ne245_b) (Ne.symm ne245_tb)) hZ (ow hw 68 rfl) (ow hw 7 rfl) (by decide) (by decide)) rfl (by decide) e245 pd_27 (od dB10 3 rfl) rfl rfl rfl rfl rfl (by decide) (by decide) fun _ T246 Lc246 X246 hQ246 => ?_
    obtain ⟨x246, kx246, rfl, N246q, K246, gx246, Eq246, Cq246, Vq246, Aq246⟩ := hQ246
    have N246 := Fr.app N0 N246q
    show own_Fin p e below _ (T246.setTop (mkF m 8 #[.val (.ref b)] [(.ref b245)]))
    exact own_ret (t := (.object "java/lang/String")) X246 hx hlk hret rfl (Or.inr (Or.inr (Or.inr (Or.inr ⟨rfl, rfl, rfl⟩)))) (hb hby (od dB10 4 rfl)) (by show Q10 Z b tb kt k cs c co nb vs z fm h0 n0 _ T246.heap _; exact ⟨b245, x246, kx246, _, _, _, rfl, N246, (((Keep.refl h0 []).ext E245).trans K246 (allS (Or.inr gk245) all0)), own_BCc.mp (Or.inl ⟨rfl, by rw [hk], rfl, hb_⟩), Eq246, Cq246, Vq246, Aq246⟩) (by decide) (by decide)
  · have Fk1 : Fld Z h0 b "java/lang/AbstractStringBuilder" "coder" "B" (.int (1 : Int32)) := by have q := Fk; rw [hcd] at q; exact q
    have At1 : Arv Z h0 tb kt .byte (Int32.ofNat (2 * c)) (StrChars.Road.wideBytes cs) (.int 0) := by have q := At; rw [hnb, hvs] at q; exact q
    show own_Fin p e below _ (s₁.setTop (mkF m 0 #[.val (.ref b)] []))
    obtain ⟨T247, h247, X247, e247, E247, A247, D247, -, st247⟩ := newO X0 hx hZ hown (ow hw 65 rfl) (ow hw 6 rfl) (ow hw 7 rfl) e0 (g := (mkF m 0 #[.val (.ref b)] [])) rfl (hb hby (od dB10 0 rfl)) (by decide) (by decide)
    obtain ⟨b247, g247⟩ : ∃ z, z = h0.size := ⟨_, rfl⟩
    rw [← g247] at A247 D247 st247
    have ne247_b : b ≠ b247 := own_ne_of (Z := Z) Eb.lt g247
    have ne247_tb : tb ≠ b247 := own_ne_of (Z := Z) Et.lt g247
    have gn247 : n0 ≤ b247 := Nat.le_trans Z0 (Nat.le_of_eq g247.symm)
    have gk247 : h0.size ≤ b247 := Nat.le_trans (Keep.refl h0 []).1 (Nat.le_of_eq g247.symm)
    have F247_value : Fld Z h247 b247 "java/lang/String" "value" "[B" .null := D247 (Or.inr (ow hw 21 rfl)) (ty := (.array .byte)) (by decide)
    have F247_coder : Fld Z h247 b247 "java/lang/String" "coder" "B" (.int (0 : Int32)) := D247 (Or.inr (ow hw 22 rfl)) (ty := .byte) (by decide)
    refine own_on st247 ?_
    show own_Fin p e below _ (T247.setTop (mkF m 3 #[.val (.ref b)] [(.ref b247)]))
    refine o_dup X247 H (od dB10 1 rfl) rfl ?_
    refine o_aldN X247 H (od dB10 2 rfl) rfl rfl ?_
    refine o_sc (b := b247) (argsL := [(.ref b)]) (rest := [(.ref b247)]) X247 H hml hZ hown (ow hw 66 rfl) (ow hw 67 rfl) (ow hw 68 rfl) (backOf (W := 1) (rmSw1 l Z a0 hw [] b247 b tb kt k cs c z fm h247 n0 (by exact (Nat.le_trans Z0 E247.1)) ⟨hz, (O.ext E247), SC, SA, SH, SL, SF, hfm⟩ (Eb.ext E247) (Fv.ext E247) (Fc.ext E247) (Fk1.ext E247) (Fm.ext E247) (Et.ext E247) (At1.ext E247) gb gt nbt hk (by omega) (by omega) A247 F247_value F247_coder gn247 (Ne.symm ne247_b) (Ne.symm ne247_tb)) hZ (ow hw 68 rfl) (ow hw 7 rfl) (by decide) (by decide)) rfl (by decide) e247 pd_27 (od dB10 3 rfl) rfl rfl rfl rfl rfl (by decide) (by decide) fun _ T248 Lc248 X248 hQ248 => ?_
    obtain ⟨x248, kx248, rfl, N248q, K248, gx248, Eq248, Cq248, Vq248, Aq248⟩ := hQ248
    have N248 := Fr.app N0 N248q
    show own_Fin p e below _ (T248.setTop (mkF m 8 #[.val (.ref b)] [(.ref b247)]))
    exact own_ret (t := (.object "java/lang/String")) X248 hx hlk hret rfl (Or.inr (Or.inr (Or.inr (Or.inr ⟨rfl, rfl, rfl⟩)))) (hb hby (od dB10 4 rfl)) (by show Q10 Z b tb kt k cs c co nb vs z fm h0 n0 _ T248.heap _; exact ⟨b247, x248, kx248, _, _, _, rfl, N248, (((Keep.refl h0 []).ext E247).trans K248 (allS (Or.inr gk247) all0)), own_BCc.mp (Or.inr ⟨rfl, by rw [hk], rfl, hb_⟩), Eq248, Cq248, Vq248, Aq248⟩) (by decide) (by decide)
theorem dB24 : oL jdk_42_method_154_code [(0, .getstatic 38, 3), (3, .ifCond .eq 14, 3), (6, .aload_n 0, 1), (7, .getfield 15, 3), (10, .ifCond .ne 7, 3), (13, .iconst 1, 1), (14, .goto 4, 3), (17, .iconst 0, 1), (18, .ireturn, 1)] := by unfold oL; decide +kernel
theorem ef_rmIL0 (m : MethodId) (x0 : Addr) : entryFrame m #[(.ref x0)] 1 = mkF m 0 #[.val (.ref x0)] [] := by first | (simp [entryFrame, mkF, argsToLocals, Value.category]; done) | rfl
def QIL0 (Z : State) (x : Addr) (z : Int32) (fm : Value) (h0 : Heap) (n0 : Nat) (v : Option Value) (h : Heap) (L : List Loc) : Prop := v = some (.int (1 : Int32)) ∧ Fr n0 L ∧ h = h0
set_option maxRecDepth 65536 in
set_option maxHeartbeats 40000000 in
theorem rmIL0 (l : Launch) (Z : State) (a0 : Array Value) (hw : ∀ d ∈ tables_1, d.before a0 Z = true) (ws : List Jvm.Cond) (x : Addr) (z : Int32) (fm : Value) (h0 : Heap) (n0 : Nat) (Z0 : n0 ≤ h0.size) (PU : own_PU Z n0 h0 z fm) (F : Fld Z h0 x "java/lang/String" "coder" "B" (.int (0 : Int32))) :
    own_M l (⟨"java/lang/String", "isLatin1", "()Z"⟩ : MethodName) jdk_42_method_154_code 1 (some .boolean) ws ({ frames := 0, cells := 0, slots := 0, locals := 0 } : Room) #[(.ref x)] Z h0 (QIL0 Z x z fm h0 n0) := by
  refine MetFree.of_bodySF (plainFor_of_name pn_1) hisR ?_
  intro p e s m args below meth cd s₁ Bd hml hP hK
  obtain ⟨rfl, hZ, hh⟩ := hP
  obtain ⟨X0, e0, H, hlk, hown, hret⟩ := own_start (R := ({ frames := 0, cells := 0, slots := 0, locals := 0 } : Room)) Bd hh rfl
  have hx := H.1; have hby := H.2; have N0 := Fr.nil n0
  obtain ⟨hz, O, SC, SA, SH, SL, SF, hfm⟩ := PU
  show own_Fin p e below (own_Ans s (QIL0 Z x z fm h0 n0) ({ frames := 0, cells := 0, slots := 0, locals := 0 } : Room).cells ({ frames := 0, cells := 0, slots := 0, locals := 0 } : Room).slots) (s₁.setTop (entryFrame m #[(.ref x)] 1))
  refine own_cast (ef_rmIL0 m x) ?_
  show own_Fin p e below _ (s₁.setTop (mkF m 0 #[.val (.ref x)] []))
  refine o_gs X0 H hZ hown (ow hw 44 rfl) Via.refl e0 (SC.ext O.2) (od dB24 0 rfl) fun T249 X249 e249 => ?_
  refine o_ifN X249 H (od dB24 1 rfl) ((if0 _ _).trans (feq hz).1) ?_
  refine o_aldN X249 H (od dB24 2 rfl) rfl rfl ?_
  refine o_gf X249 H hZ hown (ow hw 26 rfl) Via.refl e249 F (od dB24 3 rfl) fun T250 X250 e250 => ?_
  refine o_ifN X250 H (od dB24 4 rfl) ((if0 _ _).trans (teq (by decide : (0 : Int32) = (0 : Int32))).2) ?_
  refine o_ic X250 H (od dB24 5 rfl) (v := 1) rfl ?_
  refine o_go X250 H (od dB24 6 rfl) (pc' := 18) (by decide) (by decide) ?_
  exact own_ret (t := .boolean) X250 hx hlk hret rfl (Or.inl ⟨rfl, (by simp), _, rfl⟩) (hb hby (od dB24 8 rfl)) (⟨rfl, N0, e250⟩) (by decide) (by decide)
theorem ef_rmIL1 (m : MethodId) (x0 : Addr) : entryFrame m #[(.ref x0)] 1 = mkF m 0 #[.val (.ref x0)] [] := by first | (simp [entryFrame, mkF, argsToLocals, Value.category]; done) | rfl
def QIL1 (Z : State) (x : Addr) (z : Int32) (fm : Value) (h0 : Heap) (n0 : Nat) (v : Option Value) (h : Heap) (L : List Loc) : Prop := v = some (.int (0 : Int32)) ∧ Fr n0 L ∧ h = h0
set_option maxRecDepth 65536 in
set_option maxHeartbeats 40000000 in
theorem rmIL1 (l : Launch) (Z : State) (a0 : Array Value) (hw : ∀ d ∈ tables_1, d.before a0 Z = true) (ws : List Jvm.Cond) (x : Addr) (z : Int32) (fm : Value) (h0 : Heap) (n0 : Nat) (Z0 : n0 ≤ h0.size) (PU : own_PU Z n0 h0 z fm) (F : Fld Z h0 x "java/lang/String" "coder" "B" (.int (1 : Int32))) :
    own_M l (⟨"java/lang/String", "isLatin1", "()Z"⟩ : MethodName) jdk_42_method_154_code 1 (some .boolean) ws ({ frames := 0, cells := 0, slots := 0, locals := 0 } : Room) #[(.ref x)] Z h0 (QIL1 Z x z fm h0 n0) := by
  refine MetFree.of_bodySF (plainFor_of_name pn_1) hisR ?_
  intro p e s m args below meth cd s₁ Bd hml hP hK
  obtain ⟨rfl, hZ, hh⟩ := hP
  obtain ⟨X0, e0, H, hlk, hown, hret⟩ := own_start (R := ({ frames := 0, cells := 0, slots := 0, locals := 0 } : Room)) Bd hh rfl
  have hx := H.1; have hby := H.2; have N0 := Fr.nil n0
  obtain ⟨hz, O, SC, SA, SH, SL, SF, hfm⟩ := PU
  show own_Fin p e below (own_Ans s (QIL1 Z x z fm h0 n0) ({ frames := 0, cells := 0, slots := 0, locals := 0 } : Room).cells ({ frames := 0, cells := 0, slots := 0, locals := 0 } : Room).slots) (s₁.setTop (entryFrame m #[(.ref x)] 1))
  refine own_cast (ef_rmIL1 m x) ?_
  show own_Fin p e below _ (s₁.setTop (mkF m 0 #[.val (.ref x)] []))
  refine o_gs X0 H hZ hown (ow hw 44 rfl) Via.refl e0 (SC.ext O.2) (od dB24 0 rfl) fun T251 X251 e251 => ?_
  refine o_ifN X251 H (od dB24 1 rfl) ((if0 _ _).trans (feq hz).1) ?_
  refine o_aldN X251 H (od dB24 2 rfl) rfl rfl ?_
  refine o_gf X251 H hZ hown (ow hw 26 rfl) Via.refl e251 F (od dB24 3 rfl) fun T252 X252 e252 => ?_
  refine o_ifY X252 H (od dB24 4 rfl) ((if0 _ _).trans (feq (by decide : ¬ ((1 : Int32) = (0 : Int32)))).2) (pc' := 17) (by decide) (by decide) ?_
  refine o_ic X252 H (od dB24 7 rfl) (v := 0) rfl ?_
  exact own_ret (t := .boolean) X252 hx hlk hret rfl (Or.inl ⟨rfl, (by simp), _, rfl⟩) (hb hby (od dB24 8 rfl)) (⟨rfl, N0, e252⟩) (by decide) (by decide)
theorem dB25 : oL jdk_43_method_2_code [(0, .iload_n 1, 1), (1, .aload_n 0, 1), (2, .arraylength, 1), (3, .invokestatic 9, 3), (6, .aload_n 0, 1), (7, .iload_n 1, 1), (8, .baload, 1), (9, .sipush 255, 3), (12, .iand, 1), (13, .i2c, 1), (14, .ireturn, 1)] := by unfold oL; decide +kernel
theorem ef_rm25 (m : MethodId) (x0 : Addr) (x1 : Int32) : entryFrame m #[(.ref x0), (.int x1)] 2 = mkF m 0 #[.val (.ref x0), .val (.int x1)] [] := by first | (simp [entryFrame, mkF, argsToLocals, Value.category]; done) | rfl
def Q25 (Z : State) (t : Addr) (kt : ClassId) (cs : List Int32) (j : Nat) (z : Int32) (fm : Value) (h0 : Heap) (n0 : Nat) (v : Option Value) (h : Heap) (L : List Loc) : Prop := v = some (.int (cs.getD j 0)) ∧ Fr n0 L ∧ h = h0
set_option maxRecDepth 65536 in
set_option maxHeartbeats 40000000 in
theorem rm25 (l : Launch) (Z : State) (a0 : Array Value) (hw : ∀ d ∈ tables_1, d.before a0 Z = true) (ws : List Jvm.Cond) (t : Addr) (kt : ClassId) (cs : List Int32) (j : Nat) (z : Int32) (fm : Value) (h0 : Heap) (n0 : Nat) (Z0 : n0 ≤ h0.size) (PU : own_PU Z n0 h0 z fm) (At : Arv Z h0 t kt .byte (Int32.ofNat cs.length) ((cs.map StrChars.lo8).map Value.int) (.int 0)) (hj : j < cs.length) (hl : cs.length < 500) (r16 : ∀ c ∈ cs, ¬ c < 0 ∧ ¬ (65535 : Int32) < c) (h255 : ¬ (255 : Int32) < (cs.getD j 0)) :
    own_M l (⟨"java/lang/StringLatin1", "charAt", "([BI)C"⟩ : MethodName) jdk_43_method_2_code 2 (some .char) ws ({ frames := 2, cells := 0, slots := 0, locals := 27 } : Room) #[(.ref t), (.int (Int32.ofNat j))] Z h0 (Q25 Z t kt cs j z fm h0 n0) := by
  refine MetFree.of_bodySF (plainFor_of_name pn_3) hisR ?_
  intro p e s m args below meth cd s₁ Bd hml hP hK
  obtain ⟨rfl, hZ, hh⟩ := hP
  obtain ⟨X0, e0, H, hlk, hown, hret⟩ := own_start (R := ({ frames := 2, cells := 0, slots := 0, locals := 27 } : Room)) Bd hh rfl
  have hx := H.1; have hby := H.2; have N0 := Fr.nil n0
  obtain ⟨hz, O, SC, SA, SH, SL, SF, hfm⟩ := PU
  show own_Fin p e below (own_Ans s (Q25 Z t kt cs j z fm h0 n0) ({ frames := 2, cells := 0, slots := 0, locals := 27 } : Room).cells ({ frames := 2, cells := 0, slots := 0, locals := 27 } : Room).slots) (s₁.setTop (entryFrame m #[(.ref t), (.int (Int32.ofNat j))] 2))
  refine own_cast (ef_rm25 m t (Int32.ofNat j)) ?_
  show own_Fin p e below _ (s₁.setTop (mkF m 0 #[.val (.ref t), .val (.int (Int32.ofNat j))] []))
  refine o_ildN X0 H (od dB25 0 rfl) rfl ?_
  refine o_aldN X0 H (od dB25 1 rfl) rfl rfl ?_
  have cp253 := At
  obtain ⟨cl253, Ar253, q253, S253, G253, H253, F253⟩ := cp253
  refine own_on (fun tq => X0.arraylength hx (by rw [e0]; exact Ar253.1) (State.isArrayOf_alike hZ.alike Ar253.2.1) (g := (mkF m 2 #[.val (.ref t), .val (.int (Int32.ofNat j))] [(.ref t), (.int (Int32.ofNat j))])) rfl rfl (hb hby (od dB25 2 rfl)) tq) ?_
  rw [len_of S253 G253]
  show own_Fin p e below _ (s₁.setTop (mkF m 3 #[.val (.ref t), .val (.int (Int32.ofNat j))] [(.int (Int32.ofNat cs.length)), (.int (Int32.ofNat j))]))
  refine o_tc (argsL := [(.int (Int32.ofNat j)), (.int (Int32.ofNat cs.length))]) (rest := []) X0 H hml hZ hown (ow hw 137 rfl) (ow hw 138 rfl) (ow hw 7 rfl) (ow hw 139 rfl) (backOf (W := 0) (rm26 l Z a0 hw [] j (cs.length) z fm h0 n0 (by exact Z0) ⟨hz, O, SC, SA, SH, SL, SF, hfm⟩ (by omega) (by omega)) hZ (ow hw 139 rfl) (ow hw 7 rfl) (by decide) (by decide)) (by decide) e0 pd_2 (od dB25 3 rfl) rfl rfl rfl rfl rfl (by decide) (by decide) (o_pv (fun _ _ _ q => q) N0 fun T254 Lc254 X254 N254 e254 => ?_)
  refine o_aldN X254 H (od dB25 4 rfl) rfl rfl ?_
  refine o_ildN X254 H (od dB25 5 rfl) rfl ?_
  have cp255 := At
  obtain ⟨cl255, Ar255, q255, S255, G255, H255, F255⟩ := cp255
  have hin255 : ¬ ((Int32.ofNat j) < 0 ∨ cl255.slots.size ≤ ((Int32.ofNat j)).toNatClampNeg) := inb_of S255 ⟨own_nneg (by omega), own_olt (by omega) (by omega)⟩
  have hat255 : cl255.slots[((Int32.ofNat j)).toNatClampNeg]? = some (.int (StrChars.lo8 (cs.getD j 0))) := H255.at hin255 (by rw [own_clampN (by omega)]; exact own_vd hj)
  refine own_on (fun tq => X254.baloadBytes hx (j := (Int32.ofNat j)) (v := (.int (StrChars.lo8 (cs.getD j 0)))) (by rw [e254]; exact Ar255.1) (State.isArrayOf_alike hZ.alike Ar255.2.1) Ar255.2.2 hin255 hat255 (g := (mkF m 8 #[.val (.ref t), .val (.int (Int32.ofNat j))] [(.int (Int32.ofNat j)), (.ref t)])) rfl rfl (hb hby (od dB25 6 rfl)) tq) ?_
  show own_Fin p e below _ (T254.setTop (mkF m 9 #[.val (.ref t), .val (.int (Int32.ofNat j))] [(.int (StrChars.lo8 (cs.getD j 0)))]))
  refine o_si X254 H (od dB25 7 rfl) (v := 255) rfl ?_
  refine o_iand X254 H (od dB25 8 rfl) ?_
  refine own_on (fun tq => XS.i2c X254.here hx rfl (hb hby (od dB25 9 rfl)) rfl) ?_
  show own_Fin p e below _ (T254.setTop (mkF m 14 #[.val (.ref t), .val (.int (Int32.ofNat j))] [(.int (((StrChars.lo8 (cs.getD j 0)) &&& (255 : Int32)).toUInt32.toUInt16.toUInt32.toInt32))]))
  rw [show (((StrChars.lo8 (cs.getD j 0)) &&& (255 : Int32)).toUInt32.toUInt16.toUInt32.toInt32) = (cs.getD j 0) from StrChars.chr8_lo8 (r16 _ (own_mem hj)).1 h255]
  show own_Fin p e below _ (T254.setTop (mkF m 14 #[.val (.ref t), .val (.int (Int32.ofNat j))] [(.int (cs.getD j 0))]))
  exact own_ret (t := .char) X254 hx hlk hret (StrChars.narrow_ch (r16 _ (own_mem hj)).1 (r16 _ (own_mem hj)).2) (Or.inl ⟨rfl, (by simp), _, rfl⟩) (hb hby (od dB25 10 rfl)) (⟨rfl, N254, e254⟩) (by decide) (by decide)
theorem dB49 : oL jdk_52_method_83_code [(0, .iload_n 1, 1), (1, .aload_n 0, 1), (2, .invokestatic 67, 3), (5, .aload_n 0, 1), (6, .iload_n 1, 1), (7, .invokestatic 71, 3), (10, .ireturn, 1)] := by unfold oL; decide +kernel
theorem pd_28 : parseMethodDescriptor "([BI)C" = some ⟨[(.array .byte), .int], some .char⟩ := by decide +kernel
theorem ef_rm49 (m : MethodId) (x0 : Addr) (x1 : Int32) : entryFrame m #[(.ref x0), (.int x1)] 2 = mkF m 0 #[.val (.ref x0), .val (.int x1)] [] := by first | (simp [entryFrame, mkF, argsToLocals, Value.category]; done) | rfl
def Q49 (Z : State) (t : Addr) (kt : ClassId) (cs : List Int32) (j : Nat) (z : Int32) (fm : Value) (h0 : Heap) (n0 : Nat) (v : Option Value) (h : Heap) (L : List Loc) : Prop := v = some (.int (cs.getD j 0)) ∧ Fr n0 L ∧ h = h0
set_option maxRecDepth 65536 in
set_option maxHeartbeats 40000000 in
theorem rm49 (l : Launch) (Z : State) (a0 : Array Value) (hw : ∀ d ∈ tables_1, d.before a0 Z = true) (ws : List Jvm.Cond) (t : Addr) (kt : ClassId) (cs : List Int32) (j : Nat) (z : Int32) (fm : Value) (h0 : Heap) (n0 : Nat) (Z0 : n0 ≤ h0.size) (PU : own_PU Z n0 h0 z fm) (At : Arv Z h0 t kt .byte (Int32.ofNat (2 * cs.length)) (StrChars.Road.wideBytes cs) (.int 0)) (hj : j < cs.length) (hl : cs.length < 500) (r16 : ∀ c ∈ cs, ¬ c < 0 ∧ ¬ (65535 : Int32) < c) :
    own_M l (⟨"java/lang/StringUTF16", "charAt", "([BI)C"⟩ : MethodName) jdk_52_method_83_code 2 (some .char) ws ({ frames := 3, cells := 0, slots := 0, locals := 40 } : Room) #[(.ref t), (.int (Int32.ofNat j))] Z h0 (Q49 Z t kt cs j z fm h0 n0) := by
  refine MetFree.of_bodySF (plainFor_of_name pn_2) hisR ?_
  intro p e s m args below meth cd s₁ Bd hml hP hK
  obtain ⟨rfl, hZ, hh⟩ := hP
  obtain ⟨X0, e0, H, hlk, hown, hret⟩ := own_start (R := ({ frames := 3, cells := 0, slots := 0, locals := 40 } : Room)) Bd hh rfl
  have hx := H.1; have hby := H.2; have N0 := Fr.nil n0
  obtain ⟨hz, O, SC, SA, SH, SL, SF, hfm⟩ := PU
  show own_Fin p e below (own_Ans s (Q49 Z t kt cs j z fm h0 n0) ({ frames := 3, cells := 0, slots := 0, locals := 40 } : Room).cells ({ frames := 3, cells := 0, slots := 0, locals := 40 } : Room).slots) (s₁.setTop (entryFrame m #[(.ref t), (.int (Int32.ofNat j))] 2))
  refine own_cast (ef_rm49 m t (Int32.ofNat j)) ?_
  show own_Fin p e below _ (s₁.setTop (mkF m 0 #[.val (.ref t), .val (.int (Int32.ofNat j))] []))
  refine o_ildN X0 H (od dB49 0 rfl) rfl ?_
  refine o_aldN X0 H (od dB49 1 rfl) rfl rfl ?_
  refine o_tc (argsL := [(.int (Int32.ofNat j)), (.ref t)]) (rest := []) X0 H hml hZ hown (ow hw 247 rfl) (ow hw 248 rfl) (ow hw 112 rfl) (ow hw 249 rfl) (backOf (W := 0) (rm50 l Z a0 hw [] t j kt (cs.length) _ z fm h0 n0 (by exact Z0) ⟨hz, O, SC, SA, SH, SL, SF, hfm⟩ At (by omega) (by omega)) hZ (ow hw 249 rfl) (ow hw 112 rfl) (by decide) (by decide)) (by decide) e0 pd_5 (od dB49 2 rfl) rfl rfl rfl rfl rfl (by decide) (by decide) (o_pv (fun _ _ _ q => q) N0 fun T256 Lc256 X256 N256 e256 => ?_)
  refine o_aldN X256 H (od dB49 3 rfl) rfl rfl ?_
  refine o_ildN X256 H (od dB49 4 rfl) rfl ?_
  refine o_tc (argsL := [(.ref t), (.int (Int32.ofNat j))]) (rest := []) X256 H hml hZ hown (ow hw 241 rfl) (ow hw 242 rfl) (ow hw 112 rfl) (ow hw 243 rfl) (backOf (W := 0) (rm48 l Z a0 hw [] t kt (cs.length) cs j z fm h0 n0 (by exact Z0) ⟨hz, O, SC, SA, SH, SL, SF, hfm⟩ At hj (Nat.le_refl _) (by omega) (r16 _ (own_mem hj))) hZ (ow hw 243 rfl) (ow hw 112 rfl) (by decide) (by decide)) (by decide) e256 pd_28 (od dB49 5 rfl) rfl rfl rfl rfl rfl (by decide) (by decide) (o_pk (fun _ _ _ q => q) N256 fun T257 Lc257 X257 N257 e257 => ?_)
  exact own_ret (t := .char) X257 hx hlk hret (StrChars.narrow_ch (r16 _ (own_mem hj)).1 (r16 _ (own_mem hj)).2) (Or.inl ⟨rfl, (by simp), _, rfl⟩) (hb hby (od dB49 6 rfl)) (⟨rfl, N257, e257⟩) (by decide) (by decide)
theorem dB23 : oL jdk_42_method_56_code [(0, .aload_n 0, 1), (1, .invokevirtual 492, 3), (4, .ifCond .eq 12, 3), (7, .aload_n 0, 1), (8, .getfield 9, 3), (11, .iload_n 1, 1), (12, .invokestatic 495, 3), (15, .ireturn, 1), (16, .aload_n 0, 1), (17, .getfield 9, 3), (20, .iload_n 1, 1), (21, .invokestatic 498, 3), (24, .ireturn, 1)] := by unfold oL; decide +kernel
theorem ef_rm23 (m : MethodId) (x0 : Addr) (x1 : Int32) : entryFrame m #[(.ref x0), (.int x1)] 2 = mkF m 0 #[.val (.ref x0), .val (.int x1)] [] := by first | (simp [entryFrame, mkF, argsToLocals, Value.category]; done) | rfl
def Q23 (Z : State) (x : Addr) (tx : Addr) (kx : ClassId) (cs : List Int32) (co : Int32) (nx : Int32) (vs : List Value) (j : Nat) (z : Int32) (fm : Value) (h0 : Heap) (n0 : Nat) (v : Option Value) (h : Heap) (L : List Loc) : Prop := v = some (.int (cs.getD j 0)) ∧ Fr n0 L ∧ h = h0
set_option maxRecDepth 65536 in
set_option maxHeartbeats 40000000 in
theorem rm23 (l : Launch) (Z : State) (a0 : Array Value) (hw : ∀ d ∈ tables_1, d.before a0 Z = true) (ws : List Jvm.Cond) (x : Addr) (tx : Addr) (kx : ClassId) (cs : List Int32) (co : Int32) (nx : Int32) (vs : List Value) (j : Nat) (z : Int32) (fm : Value) (h0 : Heap) (n0 : Nat) (Z0 : n0 ≤ h0.size) (PU : own_PU Z n0 h0 z fm) (Ex : Exa Z h0 x "java/lang/String") (Cx : Fld Z h0 x "java/lang/String" "coder" "B" (.int co)) (Vx : Fld Z h0 x "java/lang/String" "value" "[B" (.ref tx)) (Kx : Arv Z h0 tx kx .byte nx vs (.int 0)) (cod : StrChars.Road.CodA cs co nx vs) (hj : j < cs.length) (hl : cs.length < 500) (r16 : ∀ c ∈ cs, ¬ c < 0 ∧ ¬ (65535 : Int32) < c) :
    own_M l (⟨"java/lang/String", "charAt", "(I)C"⟩ : MethodName) jdk_42_method_56_code 2 (some .char) ws ({ frames := 4, cells := 0, slots := 0, locals := 53 } : Room) #[(.ref x), (.int (Int32.ofNat j))] Z h0 (Q23 Z x tx kx cs co nx vs j z fm h0 n0) := by
  refine MetFree.of_bodySF (plainFor_of_name pn_1) hisR ?_
  intro p e s m args below meth cd s₁ Bd hml hP hK
  obtain ⟨rfl, hZ, hh⟩ := hP
  obtain ⟨X0, e0, H, hlk, hown, hret⟩ := own_start (R := ({ frames := 4, cells := 0, slots := 0, locals := 53 } : Room)) Bd hh rfl
  have hx := H.1; have hby := H.2; have N0 := Fr.nil n0
  obtain ⟨hz, O, SC, SA, SH, SL, SF, hfm⟩ := PU
  show own_Fin p e below (own_Ans s (Q23 Z x tx kx cs co nx vs j z fm h0 n0) ({ frames := 4, cells := 0, slots := 0, locals := 53 } : Room).cells ({ frames := 4, cells := 0, slots := 0, locals := 53 } : Room).slots) (s₁.setTop (entryFrame m #[(.ref x), (.int (Int32.ofNat j))] 2))
  refine own_cast (ef_rm23 m x (Int32.ofNat j)) ?_
  show own_Fin p e below _ (s₁.setTop (mkF m 0 #[.val (.ref x), .val (.int (Int32.ofNat j))] []))
  rcases cod with ⟨hcd, hnx, hvs, hb_⟩ | ⟨hcd, hnx, hvs, hb_⟩
  · have Cx0 : Fld Z h0 x "java/lang/String" "coder" "B" (.int (0 : Int32)) := by have q := Cx; rw [hcd] at q; exact q
    have Kx0 : Arv Z h0 tx kx .byte (Int32.ofNat cs.length) ((cs.map StrChars.lo8).map Value.int) (.int 0) := by have q := Kx; rw [hnx, hvs] at q; rw [List.map_map]; exact q
    show own_Fin p e below _ (s₁.setTop (mkF m 0 #[.val (.ref x), .val (.int (Int32.ofNat j))] []))
    refine o_aldN X0 H (od dB23 0 rfl) rfl rfl ?_
    refine o_vs (argsL := []) (rest := []) X0 H hml hZ hown (ow hw 128 rfl) (ow hw 129 rfl) (ow hw 131 rfl) (ow hw 130 rfl) (backOf (W := 0) (rmIL0 l Z a0 hw [] x z fm h0 n0 (by exact Z0) ⟨hz, O, SC, SA, SH, SL, SF, hfm⟩ Cx0) hZ (ow hw 132 rfl) (ow hw 7 rfl) (by decide) (by decide)) (by decide) Ex e0 pd_13 (od dB23 1 rfl) rfl rfl rfl rfl rfl (by decide) (by decide) (o_pk (fun _ _ _ q => q) N0 fun T258 Lc258 X258 N258 e258 => ?_)
    refine o_ifN X258 H (od dB23 2 rfl) ((if0 _ _).trans (feq (by decide : ¬ ((1 : Int32) = (0 : Int32)))).1) ?_
    refine o_aldN X258 H (od dB23 3 rfl) rfl rfl ?_
    refine o_gf X258 H hZ hown (ow hw 25 rfl) Via.refl e258 Vx (od dB23 4 rfl) fun T259 X259 e259 => ?_
    refine o_ildN X259 H (od dB23 5 rfl) rfl ?_
    refine o_tc (argsL := [(.ref tx), (.int (Int32.ofNat j))]) (rest := []) X259 H hml hZ hown (ow hw 133 rfl) (ow hw 134 rfl) (ow hw 135 rfl) (ow hw 136 rfl) (backOf (W := 0) (rm25 l Z a0 hw [] tx kx cs j z fm h0 n0 (by exact Z0) ⟨hz, O, SC, SA, SH, SL, SF, hfm⟩ Kx0 hj hl r16 (hb_ _ (own_mem hj))) hZ (ow hw 136 rfl) (ow hw 135 rfl) (by decide) (by decide)) (by decide) e259 pd_28 (od dB23 6 rfl) rfl rfl rfl rfl rfl (by decide) (by decide) (o_pk (fun _ _ _ q => q) N258 fun T260 Lc260 X260 N260 e260 => ?_)
    exact own_ret (t := .char) X260 hx hlk hret (StrChars.narrow_ch (r16 _ (own_mem hj)).1 (r16 _ (own_mem hj)).2) (Or.inl ⟨rfl, (by simp), _, rfl⟩) (hb hby (od dB23 7 rfl)) (⟨rfl, N260, e260⟩) (by decide) (by decide)
  · have Cx1 : Fld Z h0 x "java/lang/String" "coder" "B" (.int (1 : Int32)) := by have q := Cx; rw [hcd] at q; exact q
    have Kx1 : Arv Z h0 tx kx .byte (Int32.ofNat (2 * cs.length)) (StrChars.Road.wideBytes cs) (.int 0) := by have q := Kx; rw [hnx, hvs] at q; exact q
    show own_Fin p e below _ (s₁.setTop (mkF m 0 #[.val (.ref x), .val (.int (Int32.ofNat j))] []))
    refine o_aldN X0 H (od dB23 0 rfl) rfl rfl ?_
    refine o_vs (argsL := []) (rest := []) X0 H hml hZ hown (ow hw 128 rfl) (ow hw 129 rfl) (ow hw 131 rfl) (ow hw 130 rfl) (backOf (W := 0) (rmIL1 l Z a0 hw [] x z fm h0 n0 (by exact Z0) ⟨hz, O, SC, SA, SH, SL, SF, hfm⟩ Cx1) hZ (ow hw 132 rfl) (ow hw 7 rfl) (by decide) (by decide)) (by decide) Ex e0 pd_13 (od dB23 1 rfl) rfl rfl rfl rfl rfl (by decide) (by decide) (o_pk (fun _ _ _ q => q) N0 fun T261 Lc261 X261 N261 e261 => ?_)
    refine o_ifY X261 H (od dB23 2 rfl) ((if0 _ _).trans (teq (by decide : (0 : Int32) = (0 : Int32))).1) (pc' := 16) (by decide) (by decide) ?_
    refine o_aldN X261 H (od dB23 8 rfl) rfl rfl ?_
    refine o_gf X261 H hZ hown (ow hw 25 rfl) Via.refl e261 Vx (od dB23 9 rfl) fun T262 X262 e262 => ?_
    refine o_ildN X262 H (od dB23 10 rfl) rfl ?_
    refine o_tc (argsL := [(.ref tx), (.int (Int32.ofNat j))]) (rest := []) X262 H hml hZ hown (ow hw 244 rfl) (ow hw 245 rfl) (ow hw 112 rfl) (ow hw 246 rfl) (backOf (W := 0) (rm49 l Z a0 hw [] tx kx cs j z fm h0 n0 (by exact Z0) ⟨hz, O, SC, SA, SH, SL, SF, hfm⟩ Kx1 hj hl r16) hZ (ow hw 246 rfl) (ow hw 112 rfl) (by decide) (by decide)) (by decide) e262 pd_28 (od dB23 11 rfl) rfl rfl rfl rfl rfl (by decide) (by decide) (o_pk (fun _ _ _ q => q) N261 fun T263 Lc263 X263 N263 e263 => ?_)
    exact own_ret (t := .char) X263 hx hlk hret (StrChars.narrow_ch (r16 _ (own_mem hj)).1 (r16 _ (own_mem hj)).2) (Or.inl ⟨rfl, (by simp), _, rfl⟩) (hb hby (od dB23 12 rfl)) (⟨rfl, N263, e263⟩) (by decide) (by decide)
theorem own_nar16 {x : Int32} (h : ¬ x < 0 ∧ ¬ (65535 : Int32) < x) : nar .char x = x := by
  have b := c_i2c x
  have z0 : (0 : Int32).toInt = 0 := by decide
  have z1 : (65535 : Int32).toInt = 65535 := by decide
  rw [Int32.lt_iff_toInt_lt, Int32.lt_iff_toInt_lt] at h
  rw [← Int32.toInt_inj]
  show x.toUInt32.toUInt16.toUInt32.toInt32.toInt = _
  omega
theorem own_c16 (y : Int32) : ¬ y.toUInt32.toUInt16.toUInt32.toInt32 < 0 ∧ ¬ (65535 : Int32) < y.toUInt32.toUInt16.toUInt32.toInt32 := by
  have a := c_i2c y
  have z0 : (0 : Int32).toInt = 0 := by decide
  have z1 : (65535 : Int32).toInt = 65535 := by decide
  rw [Int32.lt_iff_toInt_lt, Int32.lt_iff_toInt_lt]
  omega
theorem own_usr0 (n : Nat) : ((Int32.ofNat n - Int32.ofNat n).toUInt32 >>> ((31 : Int32) &&& 31).toUInt32).toInt32.toInt8.toInt32 = 0 := by
  rw [Int32.sub_self]; decide
theorem own_cd01 {cs : List Int32} {co nx : Int32} {vs : List Value} (h : StrChars.Road.CodA cs co nx vs) : co = 0 ∨ co = 1 := h.imp (fun q => q.1) fun q => q.1
theorem own_narcd {co : Int32} (h : co = 0 ∨ co = 1) : nar .byte co = co := by rcases h with h | h <;> rw [h] <;> rfl
theorem dB20 : oL jdk_52_method_21_code [(0, .iconst 0, 1), (1, .istore 5, 2), (3, .iload 5, 2), (5, .iload 4, 2), (7, .if_icmp .ge 37, 3), (10, .aload_n 0, 1), (11, .iload_n 1, 1), (12, .caload, 1), (13, .istore 6, 2), (15, .iload 6, 2), (17, .sipush 255, 3), (20, .if_icmp .le 6, 3), (23, .iload 5, 2), (25, .ireturn, 1), (26, .aload_n 2, 1), (27, .iload_n 3, 1), (28, .iload 6, 2), (30, .i2b, 1), (31, .bastore, 1), (32, .iinc 1 1, 3), (35, .iinc 3 1, 3), (38, .iinc 5 1, 3), (41, .goto (-38), 3), (44, .iload 4, 2), (46, .ireturn, 1)] := by unfold oL; decide +kernel
theorem ef_rmC5_1_0 (m : MethodId) (x0 : Addr) (x1 : Int32) (x2 : Addr) (x3 : Int32) (x4 : Int32) : entryFrame m #[(.ref x0), (.int x1), (.ref x2), (.int x3), (.int x4)] 7 = mkF m 0 #[.val (.ref x0), .val (.int x1), .val (.ref x2), .val (.int x3), .val (.int x4), .unset, .unset] [] := by first | (simp [entryFrame, mkF, argsToLocals, Value.category]; done) | rfl
def QC5_1_0 (Z : State) (ca : Addr) (tb : Addr) (ka : ClassId) (kt : ClassId) (c0 : Int32) (h0 : Heap) (n0 : Nat) (v : Option Value) (h : Heap) (L : List Loc) : Prop := v = some (.int (0 : Int32)) ∧ Fr n0 L ∧ Keep h0 h [tb]
set_option maxRecDepth 65536 in
set_option maxHeartbeats 40000000 in
theorem rmC5_1_0 (l : Launch) (Z : State) (a0 : Array Value) (hw : ∀ d ∈ tables_1, d.before a0 Z = true) (ws : List Jvm.Cond) (ca : Addr) (tb : Addr) (ka : ClassId) (kt : ClassId) (c0 : Int32) (h0 : Heap) (n0 : Nat) (Z0 : n0 ≤ h0.size) (Ac : Arv Z h0 ca ka .char (1 : Int32) [(.int c0)] (.int 0)) (At : Arv Z h0 tb kt .byte (1 : Int32) [(.int 0)] (.int 0)) (gt : n0 ≤ tb) (nct : ca ≠ tb) (w0 : (255 : Int32) < c0) :
    own_M l (⟨"java/lang/StringUTF16", "compress", "([CI[BII)I"⟩ : MethodName) jdk_52_method_21_code 7 (some .int) ws ({ frames := 0, cells := 0, slots := 0, locals := 0 } : Room) #[(.ref ca), (.int (0 : Int32)), (.ref tb), (.int (0 : Int32)), (.int (1 : Int32))] Z h0 (QC5_1_0 Z ca tb ka kt c0 h0 n0) := by
  refine MetFree.of_bodySF (plainFor_of_name pn_2) hisR ?_
  intro p e s m args below meth cd s₁ Bd hml hP hK
  obtain ⟨rfl, hZ, hh⟩ := hP
  obtain ⟨X0, e0, H, hlk, hown, hret⟩ := own_start (R := ({ frames := 0, cells := 0, slots := 0, locals := 0 } : Room)) Bd hh rfl
  have hx := H.1; have hby := H.2; have N0 := Fr.nil n0
  show own_Fin p e below (own_Ans s (QC5_1_0 Z ca tb ka kt c0 h0 n0) ({ frames := 0, cells := 0, slots := 0, locals := 0 } : Room).cells ({ frames := 0, cells := 0, slots := 0, locals := 0 } : Room).slots) (s₁.setTop (entryFrame m #[(.ref ca), (.int (0 : Int32)), (.ref tb), (.int (0 : Int32)), (.int (1 : Int32))] 7))
  refine own_cast (ef_rmC5_1_0 m ca (0 : Int32) tb (0 : Int32) (1 : Int32)) ?_
  show own_Fin p e below _ (s₁.setTop (mkF m 0 #[.val (.ref ca), .val (.int (0 : Int32)), .val (.ref tb), .val (.int (0 : Int32)), .val (.int (1 : Int32)), .unset, .unset] []))
  refine o_ic X0 H (od dB20 0 rfl) (v := 0) rfl ?_
  refine o_ist X0 H (od dB20 1 rfl) (L' := #[.val (.ref ca), .val (.int (0 : Int32)), .val (.ref tb), .val (.int (0 : Int32)), .val (.int (1 : Int32)), .val (.int (0 : Int32)), .unset]) rfl ?_
  refine o_ild X0 H (od dB20 2 rfl) rfl ?_
  refine o_ild X0 H (od dB20 3 rfl) rfl ?_
  refine o_icN X0 H (od dB20 4 rfl) (tlt (by decide : (0 : Int32) < (1 : Int32))).2.1 ?_
  refine o_aldN X0 H (od dB20 5 rfl) rfl rfl ?_
  refine o_ildN X0 H (od dB20 6 rfl) rfl ?_
  have cp264 := Ac
  obtain ⟨cl264, Ar264, q264, S264, G264, H264, F264⟩ := cp264
  have hin264 : ¬ ((0 : Int32) < 0 ∨ cl264.slots.size ≤ ((0 : Int32)).toNatClampNeg) := inb_of S264 ⟨by decide, by decide⟩
  have hat264 : cl264.slots[((0 : Int32)).toNatClampNeg]? = some (.int c0) := H264.at hin264 rfl
  refine own_on (fun tq => X0.caload hx (j := (0 : Int32)) (v := (.int c0)) (by rw [e0]; exact Ar264.1) (State.isArrayOf_alike hZ.alike Ar264.2.1) Ar264.2.2 hin264 hat264 (g := (mkF m 12 #[.val (.ref ca), .val (.int (0 : Int32)), .val (.ref tb), .val (.int (0 : Int32)), .val (.int (1 : Int32)), .val (.int (0 : Int32)), .unset] [(.int (0 : Int32)), (.ref ca)])) rfl rfl (hb hby (od dB20 7 rfl)) tq) ?_
  show own_Fin p e below _ (s₁.setTop (mkF m 13 #[.val (.ref ca), .val (.int (0 : Int32)), .val (.ref tb), .val (.int (0 : Int32)), .val (.int (1 : Int32)), .val (.int (0 : Int32)), .unset] [(.int c0)]))
  refine o_ist X0 H (od dB20 8 rfl) (L' := #[.val (.ref ca), .val (.int (0 : Int32)), .val (.ref tb), .val (.int (0 : Int32)), .val (.int (1 : Int32)), .val (.int (0 : Int32)), .val (.int c0)]) rfl ?_
  refine o_ild X0 H (od dB20 9 rfl) rfl ?_
  refine o_si X0 H (od dB20 10 rfl) (v := 255) rfl ?_
  refine o_icN X0 H (od dB20 11 rfl) (tlt w0).2.2.2 ?_
  refine o_ild X0 H (od dB20 12 rfl) rfl ?_
  exact own_ret (t := .int) X0 hx hlk hret rfl (Or.inl ⟨rfl, (by simp), _, rfl⟩) (hb hby (od dB20 13 rfl)) (by show QC5_1_0 Z ca tb ka kt c0 h0 n0 _ s₁.heap _; rw [e0]; exact ⟨rfl, N0, (Keep.refl h0 [tb])⟩) (by decide) (by decide)
theorem ef_rmC5_1_1 (m : MethodId) (x0 : Addr) (x1 : Int32) (x2 : Addr) (x3 : Int32) (x4 : Int32) : entryFrame m #[(.ref x0), (.int x1), (.ref x2), (.int x3), (.int x4)] 7 = mkF m 0 #[.val (.ref x0), .val (.int x1), .val (.ref x2), .val (.int x3), .val (.int x4), .unset, .unset] [] := by first | (simp [entryFrame, mkF, argsToLocals, Value.category]; done) | rfl
def QC5_1_1 (Z : State) (ca : Addr) (tb : Addr) (ka : ClassId) (kt : ClassId) (c0 : Int32) (h0 : Heap) (n0 : Nat) (v : Option Value) (h : Heap) (L : List Loc) : Prop := v = some (.int (1 : Int32)) ∧ Fr n0 L ∧ Keep h0 h [tb] ∧ Arv Z h tb kt .byte (1 : Int32) (([c0].map StrChars.lo8).map Value.int) (.int 0)
set_option maxRecDepth 65536 in
set_option maxHeartbeats 40000000 in
theorem rmC5_1_1 (l : Launch) (Z : State) (a0 : Array Value) (hw : ∀ d ∈ tables_1, d.before a0 Z = true) (ws : List Jvm.Cond) (ca : Addr) (tb : Addr) (ka : ClassId) (kt : ClassId) (c0 : Int32) (h0 : Heap) (n0 : Nat) (Z0 : n0 ≤ h0.size) (Ac : Arv Z h0 ca ka .char (1 : Int32) [(.int c0)] (.int 0)) (At : Arv Z h0 tb kt .byte (1 : Int32) [(.int 0)] (.int 0)) (gt : n0 ≤ tb) (nct : ca ≠ tb) (w0 : ¬ (255 : Int32) < c0) :
    own_M l (⟨"java/lang/StringUTF16", "compress", "([CI[BII)I"⟩ : MethodName) jdk_52_method_21_code 7 (some .int) ws ({ frames := 0, cells := 0, slots := 0, locals := 0 } : Room) #[(.ref ca), (.int (0 : Int32)), (.ref tb), (.int (0 : Int32)), (.int (1 : Int32))] Z h0 (QC5_1_1 Z ca tb ka kt c0 h0 n0) := by
  refine MetFree.of_bodySF (plainFor_of_name pn_2) hisR ?_
  intro p e s m args below meth cd s₁ Bd hml hP hK
  obtain ⟨rfl, hZ, hh⟩ := hP
  obtain ⟨X0, e0, H, hlk, hown, hret⟩ := own_start (R := ({ frames := 0, cells := 0, slots := 0, locals := 0 } : Room)) Bd hh rfl
  have hx := H.1; have hby := H.2; have N0 := Fr.nil n0
  show own_Fin p e below (own_Ans s (QC5_1_1 Z ca tb ka kt c0 h0 n0) ({ frames := 0, cells := 0, slots := 0, locals := 0 } : Room).cells ({ frames := 0, cells := 0, slots := 0, locals := 0 } : Room).slots) (s₁.setTop (entryFrame m #[(.ref ca), (.int (0 : Int32)), (.ref tb), (.int (0 : Int32)), (.int (1 : Int32))] 7))
  refine own_cast (ef_rmC5_1_1 m ca (0 : Int32) tb (0 : Int32) (1 : Int32)) ?_
  show own_Fin p e below _ (s₁.setTop (mkF m 0 #[.val (.ref ca), .val (.int (0 : Int32)), .val (.ref tb), .val (.int (0 : Int32)), .val (.int (1 : Int32)), .unset, .unset] []))
  refine o_ic X0 H (od dB20 0 rfl) (v := 0) rfl ?_
  refine o_ist X0 H (od dB20 1 rfl) (L' := #[.val (.ref ca), .val (.int (0 : Int32)), .val (.ref tb), .val (.int (0 : Int32)), .val (.int (1 : Int32)), .val (.int (0 : Int32)), .unset]) rfl ?_
  refine o_ild X0 H (od dB20 2 rfl) rfl ?_
  refine o_ild X0 H (od dB20 3 rfl) rfl ?_
  refine o_icN X0 H (od dB20 4 rfl) (tlt (by decide : (0 : Int32) < (1 : Int32))).2.1 ?_
  refine o_aldN X0 H (od dB20 5 rfl) rfl rfl ?_
  refine o_ildN X0 H (od dB20 6 rfl) rfl ?_
  have cp265 := Ac
  obtain ⟨cl265, Ar265, q265, S265, G265, H265, F265⟩ := cp265
  have hin265 : ¬ ((0 : Int32) < 0 ∨ cl265.slots.size ≤ ((0 : Int32)).toNatClampNeg) := inb_of S265 ⟨by decide, by decide⟩
  have hat265 : cl265.slots[((0 : Int32)).toNatClampNeg]? = some (.int c0) := H265.at hin265 rfl
  refine own_on (fun tq => X0.caload hx (j := (0 : Int32)) (v := (.int c0)) (by rw [e0]; exact Ar265.1) (State.isArrayOf_alike hZ.alike Ar265.2.1) Ar265.2.2 hin265 hat265 (g := (mkF m 12 #[.val (.ref ca), .val (.int (0 : Int32)), .val (.ref tb), .val (.int (0 : Int32)), .val (.int (1 : Int32)), .val (.int (0 : Int32)), .unset] [(.int (0 : Int32)), (.ref ca)])) rfl rfl (hb hby (od dB20 7 rfl)) tq) ?_
  show own_Fin p e below _ (s₁.setTop (mkF m 13 #[.val (.ref ca), .val (.int (0 : Int32)), .val (.ref tb), .val (.int (0 : Int32)), .val (.int (1 : Int32)), .val (.int (0 : Int32)), .unset] [(.int c0)]))
  refine o_ist X0 H (od dB20 8 rfl) (L' := #[.val (.ref ca), .val (.int (0 : Int32)), .val (.ref tb), .val (.int (0 : Int32)), .val (.int (1 : Int32)), .val (.int (0 : Int32)), .val (.int c0)]) rfl ?_
  refine o_ild X0 H (od dB20 9 rfl) rfl ?_
  refine o_si X0 H (od dB20 10 rfl) (v := 255) rfl ?_
  refine o_icY X0 H (od dB20 11 rfl) (flt w0).2.2.2 (pc' := 26) (by decide) (by decide) ?_
  refine o_aldN X0 H (od dB20 14 rfl) rfl rfl ?_
  refine o_ildN X0 H (od dB20 15 rfl) rfl ?_
  refine o_ild X0 H (od dB20 16 rfl) rfl ?_
  refine own_on (fun tq => XS.i2b X0.here hx rfl (hb hby (od dB20 17 rfl)) rfl) ?_
  show own_Fin p e below _ (s₁.setTop (mkF m 31 #[.val (.ref ca), .val (.int (0 : Int32)), .val (.ref tb), .val (.int (0 : Int32)), .val (.int (1 : Int32)), .val (.int (0 : Int32)), .val (.int c0)] [(.int (c0.toInt8.toInt32)), (.int (0 : Int32)), (.ref tb)]))
  have cp266 := At
  obtain ⟨cl266, Ar266, q266, S266, G266, H266, F266⟩ := cp266
  have hin266 : ¬ ((0 : Int32) < 0 ∨ cl266.slots.size ≤ ((0 : Int32)).toNatClampNeg) := inb_of S266 ⟨by decide, by decide⟩
  obtain ⟨T266, h266, X266, e266, W266, st266⟩ := stB X0 hx hZ e0 Ar266 (j := (0 : Int32)) hin266 (g := (mkF m 31 #[.val (.ref ca), .val (.int (0 : Int32)), .val (.ref tb), .val (.int (0 : Int32)), .val (.int (1 : Int32)), .val (.int (0 : Int32)), .val (.int c0)] [(.int (c0.toInt8.toInt32)), (.int (0 : Int32)), (.ref tb)])) rfl rfl (hb hby (od dB20 18 rfl))
  have V266 : Arv Z h266 tb kt .byte (1 : Int32) [(.int (nar .byte (c0.toInt8.toInt32)))] (.int 0) := Arv.set Ar266 q266 S266 G266 H266 F266 (fits_nar_byte _) W266 0 rfl (Nat.le_of_ble_eq_true rfl)
  have N266 := Fr.snoc X266 N0 gt
  refine own_on st266 ?_
  show own_Fin p e below _ (T266.setTop (mkF m 32 #[.val (.ref ca), .val (.int (0 : Int32)), .val (.ref tb), .val (.int (0 : Int32)), .val (.int (1 : Int32)), .val (.int (0 : Int32)), .val (.int c0)] []))
  refine own_on (fun tq => XS.iinc X266.here hx rfl (hb hby (od dB20 19 rfl)) rfl (l' := #[.val (.ref ca), .val (.int (1 : Int32)), .val (.ref tb), .val (.int (0 : Int32)), .val (.int (1 : Int32)), .val (.int (0 : Int32)), .val (.int c0)]) rfl) ?_
  show own_Fin p e below _ (T266.setTop (mkF m 35 #[.val (.ref ca), .val (.int (1 : Int32)), .val (.ref tb), .val (.int (0 : Int32)), .val (.int (1 : Int32)), .val (.int (0 : Int32)), .val (.int c0)] []))
  refine own_on (fun tq => XS.iinc X266.here hx rfl (hb hby (od dB20 20 rfl)) rfl (l' := #[.val (.ref ca), .val (.int (1 : Int32)), .val (.ref tb), .val (.int (1 : Int32)), .val (.int (1 : Int32)), .val (.int (0 : Int32)), .val (.int c0)]) rfl) ?_
  show own_Fin p e below _ (T266.setTop (mkF m 38 #[.val (.ref ca), .val (.int (1 : Int32)), .val (.ref tb), .val (.int (1 : Int32)), .val (.int (1 : Int32)), .val (.int (0 : Int32)), .val (.int c0)] []))
  refine own_on (fun tq => XS.iinc X266.here hx rfl (hb hby (od dB20 21 rfl)) rfl (l' := #[.val (.ref ca), .val (.int (1 : Int32)), .val (.ref tb), .val (.int (1 : Int32)), .val (.int (1 : Int32)), .val (.int (1 : Int32)), .val (.int c0)]) rfl) ?_
  show own_Fin p e below _ (T266.setTop (mkF m 41 #[.val (.ref ca), .val (.int (1 : Int32)), .val (.ref tb), .val (.int (1 : Int32)), .val (.int (1 : Int32)), .val (.int (1 : Int32)), .val (.int c0)] []))
  refine o_go X266 H (od dB20 22 rfl) (pc' := 3) (by decide) (by decide) ?_
  refine o_ild X266 H (od dB20 2 rfl) rfl ?_
  refine o_ild X266 H (od dB20 3 rfl) rfl ?_
  refine o_icY X266 H (od dB20 4 rfl) (flt (by decide : ¬ ((1 : Int32) < (1 : Int32)))).2.1 (pc' := 44) (by decide) (by decide) ?_
  refine o_ild X266 H (od dB20 23 rfl) rfl ?_
  exact own_ret (t := .int) X266 hx hlk hret rfl (Or.inl ⟨rfl, (by simp), _, rfl⟩) (hb hby (od dB20 24 rfl)) (by show QC5_1_1 Z ca tb ka kt c0 h0 n0 _ T266.heap _; rw [e266]; exact ⟨rfl, N266, ((Keep.refl h0 [tb]).wr W266 (Or.inl (List.mem_of_getElem? (i := 0) rfl))), (by have q := V266; simp only [own_narb] at q; exact q)⟩) (by decide) (by decide)
theorem ef_rmC5_2_0 (m : MethodId) (x0 : Addr) (x1 : Int32) (x2 : Addr) (x3 : Int32) (x4 : Int32) : entryFrame m #[(.ref x0), (.int x1), (.ref x2), (.int x3), (.int x4)] 7 = mkF m 0 #[.val (.ref x0), .val (.int x1), .val (.ref x2), .val (.int x3), .val (.int x4), .unset, .unset] [] := by first | (simp [entryFrame, mkF, argsToLocals, Value.category]; done) | rfl
def QC5_2_0 (Z : State) (ca : Addr) (tb : Addr) (ka : ClassId) (kt : ClassId) (c0 : Int32) (c1 : Int32) (h0 : Heap) (n0 : Nat) (v : Option Value) (h : Heap) (L : List Loc) : Prop := v = some (.int (0 : Int32)) ∧ Fr n0 L ∧ Keep h0 h [tb]
set_option maxRecDepth 65536 in
set_option maxHeartbeats 40000000 in
theorem rmC5_2_0 (l : Launch) (Z : State) (a0 : Array Value) (hw : ∀ d ∈ tables_1, d.before a0 Z = true) (ws : List Jvm.Cond) (ca : Addr) (tb : Addr) (ka : ClassId) (kt : ClassId) (c0 : Int32) (c1 : Int32) (h0 : Heap) (n0 : Nat) (Z0 : n0 ≤ h0.size) (Ac : Arv Z h0 ca ka .char (2 : Int32) [(.int c0), (.int c1)] (.int 0)) (At : Arv Z h0 tb kt .byte (2 : Int32) [(.int 0), (.int 0)] (.int 0)) (gt : n0 ≤ tb) (nct : ca ≠ tb) (w0 : (255 : Int32) < c0) :
    own_M l (⟨"java/lang/StringUTF16", "compress", "([CI[BII)I"⟩ : MethodName) jdk_52_method_21_code 7 (some .int) ws ({ frames := 0, cells := 0, slots := 0, locals := 0 } : Room) #[(.ref ca), (.int (0 : Int32)), (.ref tb), (.int (0 : Int32)), (.int (2 : Int32))] Z h0 (QC5_2_0 Z ca tb ka kt c0 c1 h0 n0) := by
  refine MetFree.of_bodySF (plainFor_of_name pn_2) hisR ?_
  intro p e s m args below meth cd s₁ Bd hml hP hK
  obtain ⟨rfl, hZ, hh⟩ := hP
  obtain ⟨X0, e0, H, hlk, hown, hret⟩ := own_start (R := ({ frames := 0, cells := 0, slots := 0, locals := 0 } : Room)) Bd hh rfl
  have hx := H.1; have hby := H.2; have N0 := Fr.nil n0
  show own_Fin p e below (own_Ans s (QC5_2_0 Z ca tb ka kt c0 c1 h0 n0) ({ frames := 0, cells := 0, slots := 0, locals := 0 } : Room).cells ({ frames := 0, cells := 0, slots := 0, locals := 0 } : Room).slots) (s₁.setTop (entryFrame m #[(.ref ca), (.int (0 : Int32)), (.ref tb), (.int (0 : Int32)), (.int (2 : Int32))] 7))
  refine own_cast (ef_rmC5_2_0 m ca (0 : Int32) tb (0 : Int32) (2 : Int32)) ?_
  show own_Fin p e below _ (s₁.setTop (mkF m 0 #[.val (.ref ca), .val (.int (0 : Int32)), .val (.ref tb), .val (.int (0 : Int32)), .val (.int (2 : Int32)), .unset, .unset] []))
  refine o_ic X0 H (od dB20 0 rfl) (v := 0) rfl ?_
  refine o_ist X0 H (od dB20 1 rfl) (L' := #[.val (.ref ca), .val (.int (0 : Int32)), .val (.ref tb), .val (.int (0 : Int32)), .val (.int (2 : Int32)), .val (.int (0 : Int32)), .unset]) rfl ?_
  refine o_ild X0 H (od dB20 2 rfl) rfl ?_
  refine o_ild X0 H (od dB20 3 rfl) rfl ?_
  refine o_icN X0 H (od dB20 4 rfl) (tlt (by decide : (0 : Int32) < (2 : Int32))).2.1 ?_
  refine o_aldN X0 H (od dB20 5 rfl) rfl rfl ?_
  refine o_ildN X0 H (od dB20 6 rfl) rfl ?_
  have cp267 := Ac
  obtain ⟨cl267, Ar267, q267, S267, G267, H267, F267⟩ := cp267
  have hin267 : ¬ ((0 : Int32) < 0 ∨ cl267.slots.size ≤ ((0 : Int32)).toNatClampNeg) := inb_of S267 ⟨by decide, by decide⟩
  have hat267 : cl267.slots[((0 : Int32)).toNatClampNeg]? = some (.int c0) := H267.at hin267 rfl
  refine own_on (fun tq => X0.caload hx (j := (0 : Int32)) (v := (.int c0)) (by rw [e0]; exact Ar267.1) (State.isArrayOf_alike hZ.alike Ar267.2.1) Ar267.2.2 hin267 hat267 (g := (mkF m 12 #[.val (.ref ca), .val (.int (0 : Int32)), .val (.ref tb), .val (.int (0 : Int32)), .val (.int (2 : Int32)), .val (.int (0 : Int32)), .unset] [(.int (0 : Int32)), (.ref ca)])) rfl rfl (hb hby (od dB20 7 rfl)) tq) ?_
  show own_Fin p e below _ (s₁.setTop (mkF m 13 #[.val (.ref ca), .val (.int (0 : Int32)), .val (.ref tb), .val (.int (0 : Int32)), .val (.int (2 : Int32)), .val (.int (0 : Int32)), .unset] [(.int c0)]))
  refine o_ist X0 H (od dB20 8 rfl) (L' := #[.val (.ref ca), .val (.int (0 : Int32)), .val (.ref tb), .val (.int (0 : Int32)), .val (.int (2 : Int32)), .val (.int (0 : Int32)), .val (.int c0)]) rfl ?_
  refine o_ild X0 H (od dB20 9 rfl) rfl ?_
  refine o_si X0 H (od dB20 10 rfl) (v := 255) rfl ?_
  refine o_icN X0 H (od dB20 11 rfl) (tlt w0).2.2.2 ?_
  refine o_ild X0 H (od dB20 12 rfl) rfl ?_
  exact own_ret (t := .int) X0 hx hlk hret rfl (Or.inl ⟨rfl, (by simp), _, rfl⟩) (hb hby (od dB20 13 rfl)) (by show QC5_2_0 Z ca tb ka kt c0 c1 h0 n0 _ s₁.heap _; rw [e0]; exact ⟨rfl, N0, (Keep.refl h0 [tb])⟩) (by decide) (by decide)
theorem ef_rmC5_2_1 (m : MethodId) (x0 : Addr) (x1 : Int32) (x2 : Addr) (x3 : Int32) (x4 : Int32) : entryFrame m #[(.ref x0), (.int x1), (.ref x2), (.int x3), (.int x4)] 7 = mkF m 0 #[.val (.ref x0), .val (.int x1), .val (.ref x2), .val (.int x3), .val (.int x4), .unset, .unset] [] := by first | (simp [entryFrame, mkF, argsToLocals, Value.category]; done) | rfl
def QC5_2_1 (Z : State) (ca : Addr) (tb : Addr) (ka : ClassId) (kt : ClassId) (c0 : Int32) (c1 : Int32) (h0 : Heap) (n0 : Nat) (v : Option Value) (h : Heap) (L : List Loc) : Prop := v = some (.int (1 : Int32)) ∧ Fr n0 L ∧ Keep h0 h [tb]
set_option maxRecDepth 65536 in
set_option maxHeartbeats 40000000 in
theorem rmC5_2_1 (l : Launch) (Z : State) (a0 : Array Value) (hw : ∀ d ∈ tables_1, d.before a0 Z = true) (ws : List Jvm.Cond) (ca : Addr) (tb : Addr) (ka : ClassId) (kt : ClassId) (c0 : Int32) (c1 : Int32) (h0 : Heap) (n0 : Nat) (Z0 : n0 ≤ h0.size) (Ac : Arv Z h0 ca ka .char (2 : Int32) [(.int c0), (.int c1)] (.int 0)) (At : Arv Z h0 tb kt .byte (2 : Int32) [(.int 0), (.int 0)] (.int 0)) (gt : n0 ≤ tb) (nct : ca ≠ tb) (w0 : ¬ (255 : Int32) < c0) (w1 : (255 : Int32) < c1) :
    own_M l (⟨"java/lang/StringUTF16", "compress", "([CI[BII)I"⟩ : MethodName) jdk_52_method_21_code 7 (some .int) ws ({ frames := 0, cells := 0, slots := 0, locals := 0 } : Room) #[(.ref ca), (.int (0 : Int32)), (.ref tb), (.int (0 : Int32)), (.int (2 : Int32))] Z h0 (QC5_2_1 Z ca tb ka kt c0 c1 h0 n0) := by
  refine MetFree.of_bodySF (plainFor_of_name pn_2) hisR ?_
  intro p e s m args below meth cd s₁ Bd hml hP hK
  obtain ⟨rfl, hZ, hh⟩ := hP
  obtain ⟨X0, e0, H, hlk, hown, hret⟩ := own_start (R := ({ frames := 0, cells := 0, slots := 0, locals := 0 } : Room)) Bd hh rfl
  have hx := H.1; have hby := H.2; have N0 := Fr.nil n0
  show own_Fin p e below (own_Ans s (QC5_2_1 Z ca tb ka kt c0 c1 h0 n0) ({ frames := 0, cells := 0, slots := 0, locals := 0 } : Room).cells ({ frames := 0, cells := 0, slots := 0, locals := 0 } : Room).slots) (s₁.setTop (entryFrame m #[(.ref ca), (.int (0 : Int32)), (.ref tb), (.int (0 : Int32)), (.int (2 : Int32))] 7))
  refine own_cast (ef_rmC5_2_1 m ca (0 : Int32) tb (0 : Int32) (2 : Int32)) ?_
  show own_Fin p e below _ (s₁.setTop (mkF m 0 #[.val (.ref ca), .val (.int (0 : Int32)), .val (.ref tb), .val (.int (0 : Int32)), .val (.int (2 : Int32)), .unset, .unset] []))
  refine o_ic X0 H (od dB20 0 rfl) (v := 0) rfl ?_
  refine o_ist X0 H (od dB20 1 rfl) (L' := #[.val (.ref ca), .val (.int (0 : Int32)), .val (.ref tb), .val (.int (0 : Int32)), .val (.int (2 : Int32)), .val (.int (0 : Int32)), .unset]) rfl ?_
  refine o_ild X0 H (od dB20 2 rfl) rfl ?_
  refine o_ild X0 H (od dB20 3 rfl) rfl ?_
  refine o_icN X0 H (od dB20 4 rfl) (tlt (by decide : (0 : Int32) < (2 : Int32))).2.1 ?_
  refine o_aldN X0 H (od dB20 5 rfl) rfl rfl ?_
  refine o_ildN X0 H (od dB20 6 rfl) rfl ?_
  have cp268 := Ac
  obtain ⟨cl268, Ar268, q268, S268, G268, H268, F268⟩ := cp268
  have hin268 : ¬ ((0 : Int32) < 0 ∨ cl268.slots.size ≤ ((0 : Int32)).toNatClampNeg) := inb_of S268 ⟨by decide, by decide⟩
  have hat268 : cl268.slots[((0 : Int32)).toNatClampNeg]? = some (.int c0) := H268.at hin268 rfl
  refine own_on (fun tq => X0.caload hx (j := (0 : Int32)) (v := (.int c0)) (by rw [e0]; exact Ar268.1) (State.isArrayOf_alike hZ.alike Ar268.2.1) Ar268.2.2 hin268 hat268 (g := (mkF m 12 #[.val (.ref ca), .val (.int (0 : Int32)), .val (.ref tb), .val (.int (0 : Int32)), .val (.int (2 : Int32)), .val (.int (0 : Int32)), .unset] [(.int (0 : Int32)), (.ref ca)])) rfl rfl (hb hby (od dB20 7 rfl)) tq) ?_
  show own_Fin p e below _ (s₁.setTop (mkF m 13 #[.val (.ref ca), .val (.int (0 : Int32)), .val (.ref tb), .val (.int (0 : Int32)), .val (.int (2 : Int32)), .val (.int (0 : Int32)), .unset] [(.int c0)]))
  refine o_ist X0 H (od dB20 8 rfl) (L' := #[.val (.ref ca), .val (.int (0 : Int32)), .val (.ref tb), .val (.int (0 : Int32)), .val (.int (2 : Int32)), .val (.int (0 : Int32)), .val (.int c0)]) rfl ?_
  refine o_ild X0 H (od dB20 9 rfl) rfl ?_
  refine o_si X0 H (od dB20 10 rfl) (v := 255) rfl ?_
  refine o_icY X0 H (od dB20 11 rfl) (flt w0).2.2.2 (pc' := 26) (by decide) (by decide) ?_
  refine o_aldN X0 H (od dB20 14 rfl) rfl rfl ?_
  refine o_ildN X0 H (od dB20 15 rfl) rfl ?_
  refine o_ild X0 H (od dB20 16 rfl) rfl ?_
  refine own_on (fun tq => XS.i2b X0.here hx rfl (hb hby (od dB20 17 rfl)) rfl) ?_
  show own_Fin p e below _ (s₁.setTop (mkF m 31 #[.val (.ref ca), .val (.int (0 : Int32)), .val (.ref tb), .val (.int (0 : Int32)), .val (.int (2 : Int32)), .val (.int (0 : Int32)), .val (.int c0)] [(.int (c0.toInt8.toInt32)), (.int (0 : Int32)), (.ref tb)]))
  have cp269 := At
  obtain ⟨cl269, Ar269, q269, S269, G269, H269, F269⟩ := cp269
  have hin269 : ¬ ((0 : Int32) < 0 ∨ cl269.slots.size ≤ ((0 : Int32)).toNatClampNeg) := inb_of S269 ⟨by decide, by decide⟩
  obtain ⟨T269, h269, X269, e269, W269, st269⟩ := stB X0 hx hZ e0 Ar269 (j := (0 : Int32)) hin269 (g := (mkF m 31 #[.val (.ref ca), .val (.int (0 : Int32)), .val (.ref tb), .val (.int (0 : Int32)), .val (.int (2 : Int32)), .val (.int (0 : Int32)), .val (.int c0)] [(.int (c0.toInt8.toInt32)), (.int (0 : Int32)), (.ref tb)])) rfl rfl (hb hby (od dB20 18 rfl))
  have V269 : Arv Z h269 tb kt .byte (2 : Int32) [(.int (nar .byte (c0.toInt8.toInt32))), (.int 0)] (.int 0) := Arv.set Ar269 q269 S269 G269 H269 F269 (fits_nar_byte _) W269 0 rfl (Nat.le_of_ble_eq_true rfl)
  have N269 := Fr.snoc X269 N0 gt
  refine own_on st269 ?_
  show own_Fin p e below _ (T269.setTop (mkF m 32 #[.val (.ref ca), .val (.int (0 : Int32)), .val (.ref tb), .val (.int (0 : Int32)), .val (.int (2 : Int32)), .val (.int (0 : Int32)), .val (.int c0)] []))
  refine own_on (fun tq => XS.iinc X269.here hx rfl (hb hby (od dB20 19 rfl)) rfl (l' := #[.val (.ref ca), .val (.int (1 : Int32)), .val (.ref tb), .val (.int (0 : Int32)), .val (.int (2 : Int32)), .val (.int (0 : Int32)), .val (.int c0)]) rfl) ?_
  show own_Fin p e below _ (T269.setTop (mkF m 35 #[.val (.ref ca), .val (.int (1 : Int32)), .val (.ref tb), .val (.int (0 : Int32)), .val (.int (2 : Int32)), .val (.int (0 : Int32)), .val (.int c0)] []))
  refine own_on (fun tq => XS.iinc X269.here hx rfl (hb hby (od dB20 20 rfl)) rfl (l' := #[.val (.ref ca), .val (.int (1 : Int32)), .val (.ref tb), .val (.int (1 : Int32)), .val (.int (2 : Int32)), .val (.int (0 : Int32)), .val (.int c0)]) rfl) ?_
  show own_Fin p e below _ (T269.setTop (mkF m 38 #[.val (.ref ca), .val (.int (1 : Int32)), .val (.ref tb), .val (.int (1 : Int32)), .val (.int (2 : Int32)), .val (.int (0 : Int32)), .val (.int c0)] []))
  refine own_on (fun tq => XS.iinc X269.here hx rfl (hb hby (od dB20 21 rfl)) rfl (l' := #[.val (.ref ca), .val (.int (1 : Int32)), .val (.ref tb), .val (.int (1 : Int32)), .val (.int (2 : Int32)), .val (.int (1 : Int32)), .val (.int c0)]) rfl) ?_
  show own_Fin p e below _ (T269.setTop (mkF m 41 #[.val (.ref ca), .val (.int (1 : Int32)), .val (.ref tb), .val (.int (1 : Int32)), .val (.int (2 : Int32)), .val (.int (1 : Int32)), .val (.int c0)] []))
  refine o_go X269 H (od dB20 22 rfl) (pc' := 3) (by decide) (by decide) ?_
  refine o_ild X269 H (od dB20 2 rfl) rfl ?_
  refine o_ild X269 H (od dB20 3 rfl) rfl ?_
  refine o_icN X269 H (od dB20 4 rfl) (tlt (by decide : (1 : Int32) < (2 : Int32))).2.1 ?_
  refine o_aldN X269 H (od dB20 5 rfl) rfl rfl ?_
  refine o_ildN X269 H (od dB20 6 rfl) rfl ?_
  have cp270 := (Ac.other W269 nct)
  obtain ⟨cl270, Ar270, q270, S270, G270, H270, F270⟩ := cp270
  have hin270 : ¬ ((1 : Int32) < 0 ∨ cl270.slots.size ≤ ((1 : Int32)).toNatClampNeg) := inb_of S270 ⟨by decide, by decide⟩
  have hat270 : cl270.slots[((1 : Int32)).toNatClampNeg]? = some (.int c1) := H270.at hin270 rfl
  refine own_on (fun tq => X269.caload hx (j := (1 : Int32)) (v := (.int c1)) (by rw [e269]; exact Ar270.1) (State.isArrayOf_alike hZ.alike Ar270.2.1) Ar270.2.2 hin270 hat270 (g := (mkF m 12 #[.val (.ref ca), .val (.int (1 : Int32)), .val (.ref tb), .val (.int (1 : Int32)), .val (.int (2 : Int32)), .val (.int (1 : Int32)), .val (.int c0)] [(.int (1 : Int32)), (.ref ca)])) rfl rfl (hb hby (od dB20 7 rfl)) tq) ?_
  show own_Fin p e below _ (T269.setTop (mkF m 13 #[.val (.ref ca), .val (.int (1 : Int32)), .val (.ref tb), .val (.int (1 : Int32)), .val (.int (2 : Int32)), .val (.int (1 : Int32)), .val (.int c0)] [(.int c1)]))
  refine o_ist X269 H (od dB20 8 rfl) (L' := #[.val (.ref ca), .val (.int (1 : Int32)), .val (.ref tb), .val (.int (1 : Int32)), .val (.int (2 : Int32)), .val (.int (1 : Int32)), .val (.int c1)]) rfl ?_
  refine o_ild X269 H (od dB20 9 rfl) rfl ?_
  refine o_si X269 H (od dB20 10 rfl) (v := 255) rfl ?_
  refine o_icN X269 H (od dB20 11 rfl) (tlt w1).2.2.2 ?_
  refine o_ild X269 H (od dB20 12 rfl) rfl ?_
  exact own_ret (t := .int) X269 hx hlk hret rfl (Or.inl ⟨rfl, (by simp), _, rfl⟩) (hb hby (od dB20 13 rfl)) (by show QC5_2_1 Z ca tb ka kt c0 c1 h0 n0 _ T269.heap _; rw [e269]; exact ⟨rfl, N269, ((Keep.refl h0 [tb]).wr W269 (Or.inl (List.mem_of_getElem? (i := 0) rfl)))⟩) (by decide) (by decide)
theorem ef_rmC5_2_2 (m : MethodId) (x0 : Addr) (x1 : Int32) (x2 : Addr) (x3 : Int32) (x4 : Int32) : entryFrame m #[(.ref x0), (.int x1), (.ref x2), (.int x3), (.int x4)] 7 = mkF m 0 #[.val (.ref x0), .val (.int x1), .val (.ref x2), .val (.int x3), .val (.int x4), .unset, .unset] [] := by first | (simp [entryFrame, mkF, argsToLocals, Value.category]; done) | rfl
def QC5_2_2 (Z : State) (ca : Addr) (tb : Addr) (ka : ClassId) (kt : ClassId) (c0 : Int32) (c1 : Int32) (h0 : Heap) (n0 : Nat) (v : Option Value) (h : Heap) (L : List Loc) : Prop := v = some (.int (2 : Int32)) ∧ Fr n0 L ∧ Keep h0 h [tb] ∧ Arv Z h tb kt .byte (2 : Int32) (([c0, c1].map StrChars.lo8).map Value.int) (.int 0)
set_option maxRecDepth 65536 in
set_option maxHeartbeats 40000000 in
theorem rmC5_2_2 (l : Launch) (Z : State) (a0 : Array Value) (hw : ∀ d ∈ tables_1, d.before a0 Z = true) (ws : List Jvm.Cond) (ca : Addr) (tb : Addr) (ka : ClassId) (kt : ClassId) (c0 : Int32) (c1 : Int32) (h0 : Heap) (n0 : Nat) (Z0 : n0 ≤ h0.size) (Ac : Arv Z h0 ca ka .char (2 : Int32) [(.int c0), (.int c1)] (.int 0)) (At : Arv Z h0 tb kt .byte (2 : Int32) [(.int 0), (.int 0)] (.int 0)) (gt : n0 ≤ tb) (nct : ca ≠ tb) (w0 : ¬ (255 : Int32) < c0) (w1 : ¬ (255 : Int32) < c1) :
    own_M l (⟨"java/lang/StringUTF16", "compress", "([CI[BII)I"⟩ : MethodName) jdk_52_method_21_code 7 (some .int) ws ({ frames := 0, cells := 0, slots := 0, locals := 0 } : Room) #[(.ref ca), (.int (0 : Int32)), (.ref tb), (.int (0 : Int32)), (.int (2 : Int32))] Z h0 (QC5_2_2 Z ca tb ka kt c0 c1 h0 n0) := by
  refine MetFree.of_bodySF (plainFor_of_name pn_2) hisR ?_
  intro p e s m args below meth cd s₁ Bd hml hP hK
  obtain ⟨rfl, hZ, hh⟩ := hP
  obtain ⟨X0, e0, H, hlk, hown, hret⟩ := own_start (R := ({ frames := 0, cells := 0, slots := 0, locals := 0 } : Room)) Bd hh rfl
  have hx := H.1; have hby := H.2; have N0 := Fr.nil n0
  show own_Fin p e below (own_Ans s (QC5_2_2 Z ca tb ka kt c0 c1 h0 n0) ({ frames := 0, cells := 0, slots := 0, locals := 0 } : Room).cells ({ frames := 0, cells := 0, slots := 0, locals := 0 } : Room).slots) (s₁.setTop (entryFrame m #[(.ref ca), (.int (0 : Int32)), (.ref tb), (.int (0 : Int32)), (.int (2 : Int32))] 7))
  refine own_cast (ef_rmC5_2_2 m ca (0 : Int32) tb (0 : Int32) (2 : Int32)) ?_
  show own_Fin p e below _ (s₁.setTop (mkF m 0 #[.val (.ref ca), .val (.int (0 : Int32)), .val (.ref tb), .val (.int (0 : Int32)), .val (.int (2 : Int32)), .unset, .unset] []))
  refine o_ic X0 H (od dB20 0 rfl) (v := 0) rfl ?_
  refine o_ist X0 H (od dB20 1 rfl) (L' := #[.val (.ref ca), .val (.int (0 : Int32)), .val (.ref tb), .val (.int (0 : Int32)), .val (.int (2 : Int32)), .val (.int (0 : Int32)), .unset]) rfl ?_
  refine o_ild X0 H (od dB20 2 rfl) rfl ?_
  refine o_ild X0 H (od dB20 3 rfl) rfl ?_
  refine o_icN X0 H (od dB20 4 rfl) (tlt (by decide : (0 : Int32) < (2 : Int32))).2.1 ?_
  refine o_aldN X0 H (od dB20 5 rfl) rfl rfl ?_
  refine o_ildN X0 H (od dB20 6 rfl) rfl ?_
  have cp271 := Ac
  obtain ⟨cl271, Ar271, q271, S271, G271, H271, F271⟩ := cp271
  have hin271 : ¬ ((0 : Int32) < 0 ∨ cl271.slots.size ≤ ((0 : Int32)).toNatClampNeg) := inb_of S271 ⟨by decide, by decide⟩
  have hat271 : cl271.slots[((0 : Int32)).toNatClampNeg]? = some (.int c0) := H271.at hin271 rfl
  refine own_on (fun tq => X0.caload hx (j := (0 : Int32)) (v := (.int c0)) (by rw [e0]; exact Ar271.1) (State.isArrayOf_alike hZ.alike Ar271.2.1) Ar271.2.2 hin271 hat271 (g := (mkF m 12 #[.val (.ref ca), .val (.int (0 : Int32)), .val (.ref tb), .val (.int (0 : Int32)), .val (.int (2 : Int32)), .val (.int (0 : Int32)), .unset] [(.int (0 : Int32)), (.ref ca)])) rfl rfl (hb hby (od dB20 7 rfl)) tq) ?_
  show own_Fin p e below _ (s₁.setTop (mkF m 13 #[.val (.ref ca), .val (.int (0 : Int32)), .val (.ref tb), .val (.int (0 : Int32)), .val (.int (2 : Int32)), .val (.int (0 : Int32)), .unset] [(.int c0)]))
  refine o_ist X0 H (od dB20 8 rfl) (L' := #[.val (.ref ca), .val (.int (0 : Int32)), .val (.ref tb), .val (.int (0 : Int32)), .val (.int (2 : Int32)), .val (.int (0 : Int32)), .val (.int c0)]) rfl ?_
  refine o_ild X0 H (od dB20 9 rfl) rfl ?_
  refine o_si X0 H (od dB20 10 rfl) (v := 255) rfl ?_
  refine o_icY X0 H (od dB20 11 rfl) (flt w0).2.2.2 (pc' := 26) (by decide) (by decide) ?_
  refine o_aldN X0 H (od dB20 14 rfl) rfl rfl ?_
  refine o_ildN X0 H (od dB20 15 rfl) rfl ?_
  refine o_ild X0 H (od dB20 16 rfl) rfl ?_
  refine own_on (fun tq => XS.i2b X0.here hx rfl (hb hby (od dB20 17 rfl)) rfl) ?_
  show own_Fin p e below _ (s₁.setTop (mkF m 31 #[.val (.ref ca), .val (.int (0 : Int32)), .val (.ref tb), .val (.int (0 : Int32)), .val (.int (2 : Int32)), .val (.int (0 : Int32)), .val (.int c0)] [(.int (c0.toInt8.toInt32)), (.int (0 : Int32)), (.ref tb)]))
  have cp272 := At
  obtain ⟨cl272, Ar272, q272, S272, G272, H272, F272⟩ := cp272
  have hin272 : ¬ ((0 : Int32) < 0 ∨ cl272.slots.size ≤ ((0 : Int32)).toNatClampNeg) := inb_of S272 ⟨by decide, by decide⟩
  obtain ⟨T272, h272, X272, e272, W272, st272⟩ := stB X0 hx hZ e0 Ar272 (j := (0 : Int32)) hin272 (g := (mkF m 31 #[.val (.ref ca), .val (.int (0 : Int32)), .val (.ref tb), .val (.int (0 : Int32)), .val (.int (2 : Int32)), .val (.int (0 : Int32)), .val (.int c0)] [(.int (c0.toInt8.toInt32)), (.int (0 : Int32)), (.ref tb)])) rfl rfl (hb hby (od dB20 18 rfl))
  have V272 : Arv Z h272 tb kt .byte (2 : Int32) [(.int (nar .byte (c0.toInt8.toInt32))), (.int 0)] (.int 0) := Arv.set Ar272 q272 S272 G272 H272 F272 (fits_nar_byte _) W272 0 rfl (Nat.le_of_ble_eq_true rfl)
  have N272 := Fr.snoc X272 N0 gt
  refine own_on st272 ?_
  show own_Fin p e below _ (T272.setTop (mkF m 32 #[.val (.ref ca), .val (.int (0 : Int32)), .val (.ref tb), .val (.int (0 : Int32)), .val (.int (2 : Int32)), .val (.int (0 : Int32)), .val (.int c0)] []))
  refine own_on (fun tq => XS.iinc X272.here hx rfl (hb hby (od dB20 19 rfl)) rfl (l' := #[.val (.ref ca), .val (.int (1 : Int32)), .val (.ref tb), .val (.int (0 : Int32)), .val (.int (2 : Int32)), .val (.int (0 : Int32)), .val (.int c0)]) rfl) ?_
  show own_Fin p e below _ (T272.setTop (mkF m 35 #[.val (.ref ca), .val (.int (1 : Int32)), .val (.ref tb), .val (.int (0 : Int32)), .val (.int (2 : Int32)), .val (.int (0 : Int32)), .val (.int c0)] []))
  refine own_on (fun tq => XS.iinc X272.here hx rfl (hb hby (od dB20 20 rfl)) rfl (l' := #[.val (.ref ca), .val (.int (1 : Int32)), .val (.ref tb), .val (.int (1 : Int32)), .val (.int (2 : Int32)), .val (.int (0 : Int32)), .val (.int c0)]) rfl) ?_
  show own_Fin p e below _ (T272.setTop (mkF m 38 #[.val (.ref ca), .val (.int (1 : Int32)), .val (.ref tb), .val (.int (1 : Int32)), .val (.int (2 : Int32)), .val (.int (0 : Int32)), .val (.int c0)] []))
  refine own_on (fun tq => XS.iinc X272.here hx rfl (hb hby (od dB20 21 rfl)) rfl (l' := #[.val (.ref ca), .val (.int (1 : Int32)), .val (.ref tb), .val (.int (1 : Int32)), .val (.int (2 : Int32)), .val (.int (1 : Int32)), .val (.int c0)]) rfl) ?_
  show own_Fin p e below _ (T272.setTop (mkF m 41 #[.val (.ref ca), .val (.int (1 : Int32)), .val (.ref tb), .val (.int (1 : Int32)), .val (.int (2 : Int32)), .val (.int (1 : Int32)), .val (.int c0)] []))
  refine o_go X272 H (od dB20 22 rfl) (pc' := 3) (by decide) (by decide) ?_
  refine o_ild X272 H (od dB20 2 rfl) rfl ?_
  refine o_ild X272 H (od dB20 3 rfl) rfl ?_
  refine o_icN X272 H (od dB20 4 rfl) (tlt (by decide : (1 : Int32) < (2 : Int32))).2.1 ?_
  refine o_aldN X272 H (od dB20 5 rfl) rfl rfl ?_
  refine o_ildN X272 H (od dB20 6 rfl) rfl ?_
  have cp273 := (Ac.other W272 nct)
  obtain ⟨cl273, Ar273, q273, S273, G273, H273, F273⟩ := cp273
  have hin273 : ¬ ((1 : Int32) < 0 ∨ cl273.slots.size ≤ ((1 : Int32)).toNatClampNeg) := inb_of S273 ⟨by decide, by decide⟩
  have hat273 : cl273.slots[((1 : Int32)).toNatClampNeg]? = some (.int c1) := H273.at hin273 rfl
  refine own_on (fun tq => X272.caload hx (j := (1 : Int32)) (v := (.int c1)) (by rw [e272]; exact Ar273.1) (State.isArrayOf_alike hZ.alike Ar273.2.1) Ar273.2.2 hin273 hat273 (g := (mkF m 12 #[.val (.ref ca), .val (.int (1 : Int32)), .val (.ref tb), .val (.int (1 : Int32)), .val (.int (2 : Int32)), .val (.int (1 : Int32)), .val (.int c0)] [(.int (1 : Int32)), (.ref ca)])) rfl rfl (hb hby (od dB20 7 rfl)) tq) ?_
  show own_Fin p e below _ (T272.setTop (mkF m 13 #[.val (.ref ca), .val (.int (1 : Int32)), .val (.ref tb), .val (.int (1 : Int32)), .val (.int (2 : Int32)), .val (.int (1 : Int32)), .val (.int c0)] [(.int c1)]))
  refine o_ist X272 H (od dB20 8 rfl) (L' := #[.val (.ref ca), .val (.int (1 : Int32)), .val (.ref tb), .val (.int (1 : Int32)), .val (.int (2 : Int32)), .val (.int (1 : Int32)), .val (.int c1)]) rfl ?_
  refine o_ild X272 H (od dB20 9 rfl) rfl ?_
  refine o_si X272 H (od dB20 10 rfl) (v := 255) rfl ?_
  refine o_icY X272 H (od dB20 11 rfl) (flt w1).2.2.2 (pc' := 26) (by decide) (by decide) ?_
  refine o_aldN X272 H (od dB20 14 rfl) rfl rfl ?_
  refine o_ildN X272 H (od dB20 15 rfl) rfl ?_
  refine o_ild X272 H (od dB20 16 rfl) rfl ?_
  refine own_on (fun tq => XS.i2b X272.here hx rfl (hb hby (od dB20 17 rfl)) rfl) ?_
  show own_Fin p e below _ (T272.setTop (mkF m 31 #[.val (.ref ca), .val (.int (1 : Int32)), .val (.ref tb), .val (.int (1 : Int32)), .val (.int (2 : Int32)), .val (.int (1 : Int32)), .val (.int c1)] [(.int (c1.toInt8.toInt32)), (.int (1 : Int32)), (.ref tb)]))
  have cp274 := V272
  obtain ⟨cl274, Ar274, q274, S274, G274, H274, F274⟩ := cp274
  have hin274 : ¬ ((1 : Int32) < 0 ∨ cl274.slots.size ≤ ((1 : Int32)).toNatClampNeg) := inb_of S274 ⟨by decide, by decide⟩
  obtain ⟨T274, h274, X274, e274, W274, st274⟩ := stB X272 hx hZ e272 Ar274 (j := (1 : Int32)) hin274 (g := (mkF m 31 #[.val (.ref ca), .val (.int (1 : Int32)), .val (.ref tb), .val (.int (1 : Int32)), .val (.int (2 : Int32)), .val (.int (1 : Int32)), .val (.int c1)] [(.int (c1.toInt8.toInt32)), (.int (1 : Int32)), (.ref tb)])) rfl rfl (hb hby (od dB20 18 rfl))
  have V274 : Arv Z h274 tb kt .byte (2 : Int32) [(.int (nar .byte (c0.toInt8.toInt32))), (.int (nar .byte (c1.toInt8.toInt32)))] (.int 0) := Arv.set Ar274 q274 S274 G274 H274 F274 (fits_nar_byte _) W274 1 rfl (Nat.le_of_ble_eq_true rfl)
  have N274 := Fr.snoc X274 N272 gt
  have y275 := (((Keep.refl h0 [tb]).wr W272 (Or.inl (List.mem_of_getElem? (i := 0) rfl))).wr W274 (Or.inl (List.mem_of_getElem? (i := 0) rfl)))
  refine own_on st274 ?_
  show own_Fin p e below _ (T274.setTop (mkF m 32 #[.val (.ref ca), .val (.int (1 : Int32)), .val (.ref tb), .val (.int (1 : Int32)), .val (.int (2 : Int32)), .val (.int (1 : Int32)), .val (.int c1)] []))
  refine own_on (fun tq => XS.iinc X274.here hx rfl (hb hby (od dB20 19 rfl)) rfl (l' := #[.val (.ref ca), .val (.int (2 : Int32)), .val (.ref tb), .val (.int (1 : Int32)), .val (.int (2 : Int32)), .val (.int (1 : Int32)), .val (.int c1)]) rfl) ?_
  show own_Fin p e below _ (T274.setTop (mkF m 35 #[.val (.ref ca), .val (.int (2 : Int32)), .val (.ref tb), .val (.int (1 : Int32)), .val (.int (2 : Int32)), .val (.int (1 : Int32)), .val (.int c1)] []))
  refine own_on (fun tq => XS.iinc X274.here hx rfl (hb hby (od dB20 20 rfl)) rfl (l' := #[.val (.ref ca), .val (.int (2 : Int32)), .val (.ref tb), .val (.int (2 : Int32)), .val (.int (2 : Int32)), .val (.int (1 : Int32)), .val (.int c1)]) rfl) ?_
  show own_Fin p e below _ (T274.setTop (mkF m 38 #[.val (.ref ca), .val (.int (2 : Int32)), .val (.ref tb), .val (.int (2 : Int32)), .val (.int (2 : Int32)), .val (.int (1 : Int32)), .val (.int c1)] []))
  refine own_on (fun tq => XS.iinc X274.here hx rfl (hb hby (od dB20 21 rfl)) rfl (l' := #[.val (.ref ca), .val (.int (2 : Int32)), .val (.ref tb), .val (.int (2 : Int32)), .val (.int (2 : Int32)), .val (.int (2 : Int32)), .val (.int c1)]) rfl) ?_
  show own_Fin p e below _ (T274.setTop (mkF m 41 #[.val (.ref ca), .val (.int (2 : Int32)), .val (.ref tb), .val (.int (2 : Int32)), .val (.int (2 : Int32)), .val (.int (2 : Int32)), .val (.int c1)] []))
  refine o_go X274 H (od dB20 22 rfl) (pc' := 3) (by decide) (by decide) ?_
  refine o_ild X274 H (od dB20 2 rfl) rfl ?_
  refine o_ild X274 H (od dB20 3 rfl) rfl ?_
  refine o_icY X274 H (od dB20 4 rfl) (flt (by decide : ¬ ((2 : Int32) < (2 : Int32)))).2.1 (pc' := 44) (by decide) (by decide) ?_
  refine o_ild X274 H (od dB20 23 rfl) rfl ?_
  exact own_ret (t := .int) X274 hx hlk hret rfl (Or.inl ⟨rfl, (by simp), _, rfl⟩) (hb hby (od dB20 24 rfl)) (by show QC5_2_2 Z ca tb ka kt c0 c1 h0 n0 _ T274.heap _; rw [e274]; exact ⟨rfl, N274, y275, (by have q := V274; simp only [own_narb] at q; exact q)⟩) (by decide) (by decide)
theorem ef_rmC5_3_0 (m : MethodId) (x0 : Addr) (x1 : Int32) (x2 : Addr) (x3 : Int32) (x4 : Int32) : entryFrame m #[(.ref x0), (.int x1), (.ref x2), (.int x3), (.int x4)] 7 = mkF m 0 #[.val (.ref x0), .val (.int x1), .val (.ref x2), .val (.int x3), .val (.int x4), .unset, .unset] [] := by first | (simp [entryFrame, mkF, argsToLocals, Value.category]; done) | rfl
def QC5_3_0 (Z : State) (ca : Addr) (tb : Addr) (ka : ClassId) (kt : ClassId) (c0 : Int32) (c1 : Int32) (c2 : Int32) (h0 : Heap) (n0 : Nat) (v : Option Value) (h : Heap) (L : List Loc) : Prop := v = some (.int (0 : Int32)) ∧ Fr n0 L ∧ Keep h0 h [tb]
set_option maxRecDepth 65536 in
set_option maxHeartbeats 40000000 in
theorem rmC5_3_0 (l : Launch) (Z : State) (a0 : Array Value) (hw : ∀ d ∈ tables_1, d.before a0 Z = true) (ws : List Jvm.Cond) (ca : Addr) (tb : Addr) (ka : ClassId) (kt : ClassId) (c0 : Int32) (c1 : Int32) (c2 : Int32) (h0 : Heap) (n0 : Nat) (Z0 : n0 ≤ h0.size) (Ac : Arv Z h0 ca ka .char (3 : Int32) [(.int c0), (.int c1), (.int c2)] (.int 0)) (At : Arv Z h0 tb kt .byte (3 : Int32) [(.int 0), (.int 0), (.int 0)] (.int 0)) (gt : n0 ≤ tb) (nct : ca ≠ tb) (w0 : (255 : Int32) < c0) :
    own_M l (⟨"java/lang/StringUTF16", "compress", "([CI[BII)I"⟩ : MethodName) jdk_52_method_21_code 7 (some .int) ws ({ frames := 0, cells := 0, slots := 0, locals := 0 } : Room) #[(.ref ca), (.int (0 : Int32)), (.ref tb), (.int (0 : Int32)), (.int (3 : Int32))] Z h0 (QC5_3_0 Z ca tb ka kt c0 c1 c2 h0 n0) := by
  refine MetFree.of_bodySF (plainFor_of_name pn_2) hisR ?_
  intro p e s m args below meth cd s₁ Bd hml hP hK
  obtain ⟨rfl, hZ, hh⟩ := hP
  obtain ⟨X0, e0, H, hlk, hown, hret⟩ := own_start (R := ({ frames := 0, cells := 0, slots := 0, locals := 0 } : Room)) Bd hh rfl
  have hx := H.1; have hby := H.2; have N0 := Fr.nil n0
  show own_Fin p e below (own_Ans s (QC5_3_0 Z ca tb ka kt c0 c1 c2 h0 n0) ({ frames := 0, cells := 0, slots := 0, locals := 0 } : Room).cells ({ frames := 0, cells := 0, slots := 0, locals := 0 } : Room).slots) (s₁.setTop (entryFrame m #[(.ref ca), (.int (0 : Int32)), (.ref tb), (.int (0 : Int32)), (.int (3 : Int32))] 7))
  refine own_cast (ef_rmC5_3_0 m ca (0 : Int32) tb (0 : Int32) (3 : Int32)) ?_
  show own_Fin p e below _ (s₁.setTop (mkF m 0 #[.val (.ref ca), .val (.int (0 : Int32)), .val (.ref tb), .val (.int (0 : Int32)), .val (.int (3 : Int32)), .unset, .unset] []))
  refine o_ic X0 H (od dB20 0 rfl) (v := 0) rfl ?_
  refine o_ist X0 H (od dB20 1 rfl) (L' := #[.val (.ref ca), .val (.int (0 : Int32)), .val (.ref tb), .val (.int (0 : Int32)), .val (.int (3 : Int32)), .val (.int (0 : Int32)), .unset]) rfl ?_
  refine o_ild X0 H (od dB20 2 rfl) rfl ?_
  refine o_ild X0 H (od dB20 3 rfl) rfl ?_
  refine o_icN X0 H (od dB20 4 rfl) (tlt (by decide : (0 : Int32) < (3 : Int32))).2.1 ?_
  refine o_aldN X0 H (od dB20 5 rfl) rfl rfl ?_
  refine o_ildN X0 H (od dB20 6 rfl) rfl ?_
  have cp276 := Ac
  obtain ⟨cl276, Ar276, q276, S276, G276, H276, F276⟩ := cp276
  have hin276 : ¬ ((0 : Int32) < 0 ∨ cl276.slots.size ≤ ((0 : Int32)).toNatClampNeg) := inb_of S276 ⟨by decide, by decide⟩
  have hat276 : cl276.slots[((0 : Int32)).toNatClampNeg]? = some (.int c0) := H276.at hin276 rfl
  refine own_on (fun tq => X0.caload hx (j := (0 : Int32)) (v := (.int c0)) (by rw [e0]; exact Ar276.1) (State.isArrayOf_alike hZ.alike Ar276.2.1) Ar276.2.2 hin276 hat276 (g := (mkF m 12 #[.val (.ref ca), .val (.int (0 : Int32)), .val (.ref tb), .val (.int (0 : Int32)), .val (.int (3 : Int32)), .val (.int (0 : Int32)), .unset] [(.int (0 : Int32)), (.ref ca)])) rfl rfl (hb hby (od dB20 7 rfl)) tq) ?_
  show own_Fin p e below _ (s₁.setTop (mkF m 13 #[.val (.ref ca), .val (.int (0 : Int32)), .val (.ref tb), .val (.int (0 : Int32)), .val (.int (3 : Int32)), .val (.int (0 : Int32)), .unset] [(.int c0)]))
  refine o_ist X0 H (od dB20 8 rfl) (L' := #[.val (.ref ca), .val (.int (0 : Int32)), .val (.ref tb), .val (.int (0 : Int32)), .val (.int (3 : Int32)), .val (.int (0 : Int32)), .val (.int c0)]) rfl ?_
  refine o_ild X0 H (od dB20 9 rfl) rfl ?_
  refine o_si X0 H (od dB20 10 rfl) (v := 255) rfl ?_
  refine o_icN X0 H (od dB20 11 rfl) (tlt w0).2.2.2 ?_
  refine o_ild X0 H (od dB20 12 rfl) rfl ?_
  exact own_ret (t := .int) X0 hx hlk hret rfl (Or.inl ⟨rfl, (by simp), _, rfl⟩) (hb hby (od dB20 13 rfl)) (by show QC5_3_0 Z ca tb ka kt c0 c1 c2 h0 n0 _ s₁.heap _; rw [e0]; exact ⟨rfl, N0, (Keep.refl h0 [tb])⟩) (by decide) (by decide)
theorem ef_rmC5_3_1 (m : MethodId) (x0 : Addr) (x1 : Int32) (x2 : Addr) (x3 : Int32) (x4 : Int32) : entryFrame m #[(.ref x0), (.int x1), (.ref x2), (.int x3), (.int x4)] 7 = mkF m 0 #[.val (.ref x0), .val (.int x1), .val (.ref x2), .val (.int x3), .val (.int x4), .unset, .unset] [] := by first | (simp [entryFrame, mkF, argsToLocals, Value.category]; done) | rfl
def QC5_3_1 (Z : State) (ca : Addr) (tb : Addr) (ka : ClassId) (kt : ClassId) (c0 : Int32) (c1 : Int32) (c2 : Int32) (h0 : Heap) (n0 : Nat) (v : Option Value) (h : Heap) (L : List Loc) : Prop := v = some (.int (1 : Int32)) ∧ Fr n0 L ∧ Keep h0 h [tb]
set_option maxRecDepth 65536 in
set_option maxHeartbeats 40000000 in
theorem rmC5_3_1 (l : Launch) (Z : State) (a0 : Array Value) (hw : ∀ d ∈ tables_1, d.before a0 Z = true) (ws : List Jvm.Cond) (ca : Addr) (tb : Addr) (ka : ClassId) (kt : ClassId) (c0 : Int32) (c1 : Int32) (c2 : Int32) (h0 : Heap) (n0 : Nat) (Z0 : n0 ≤ h0.size) (Ac : Arv Z h0 ca ka .char (3 : Int32) [(.int c0), (.int c1), (.int c2)] (.int 0)) (At : Arv Z h0 tb kt .byte (3 : Int32) [(.int 0), (.int 0), (.int 0)] (.int 0)) (gt : n0 ≤ tb) (nct : ca ≠ tb) (w0 : ¬ (255 : Int32) < c0) (w1 : (255 : Int32) < c1) :
    own_M l (⟨"java/lang/StringUTF16", "compress", "([CI[BII)I"⟩ : MethodName) jdk_52_method_21_code 7 (some .int) ws ({ frames := 0, cells := 0, slots := 0, locals := 0 } : Room) #[(.ref ca), (.int (0 : Int32)), (.ref tb), (.int (0 : Int32)), (.int (3 : Int32))] Z h0 (QC5_3_1 Z ca tb ka kt c0 c1 c2 h0 n0) := by
  refine MetFree.of_bodySF (plainFor_of_name pn_2) hisR ?_
  intro p e s m args below meth cd s₁ Bd hml hP hK
  obtain ⟨rfl, hZ, hh⟩ := hP
  obtain ⟨X0, e0, H, hlk, hown, hret⟩ := own_start (R := ({ frames := 0, cells := 0, slots := 0, locals := 0 } : Room)) Bd hh rfl
  have hx := H.1; have hby := H.2; have N0 := Fr.nil n0
  show own_Fin p e below (own_Ans s (QC5_3_1 Z ca tb ka kt c0 c1 c2 h0 n0) ({ frames := 0, cells := 0, slots := 0, locals := 0 } : Room).cells ({ frames := 0, cells := 0, slots := 0, locals := 0 } : Room).slots) (s₁.setTop (entryFrame m #[(.ref ca), (.int (0 : Int32)), (.ref tb), (.int (0 : Int32)), (.int (3 : Int32))] 7))
  refine own_cast (ef_rmC5_3_1 m ca (0 : Int32) tb (0 : Int32) (3 : Int32)) ?_
  show own_Fin p e below _ (s₁.setTop (mkF m 0 #[.val (.ref ca), .val (.int (0 : Int32)), .val (.ref tb), .val (.int (0 : Int32)), .val (.int (3 : Int32)), .unset, .unset] []))
  refine o_ic X0 H (od dB20 0 rfl) (v := 0) rfl ?_
  refine o_ist X0 H (od dB20 1 rfl) (L' := #[.val (.ref ca), .val (.int (0 : Int32)), .val (.ref tb), .val (.int (0 : Int32)), .val (.int (3 : Int32)), .val (.int (0 : Int32)), .unset]) rfl ?_
  refine o_ild X0 H (od dB20 2 rfl) rfl ?_
  refine o_ild X0 H (od dB20 3 rfl) rfl ?_
  refine o_icN X0 H (od dB20 4 rfl) (tlt (by decide : (0 : Int32) < (3 : Int32))).2.1 ?_
  refine o_aldN X0 H (od dB20 5 rfl) rfl rfl ?_
  refine o_ildN X0 H (od dB20 6 rfl) rfl ?_
  have cp277 := Ac
  obtain ⟨cl277, Ar277, q277, S277, G277, H277, F277⟩ := cp277
  have hin277 : ¬ ((0 : Int32) < 0 ∨ cl277.slots.size ≤ ((0 : Int32)).toNatClampNeg) := inb_of S277 ⟨by decide, by decide⟩
  have hat277 : cl277.slots[((0 : Int32)).toNatClampNeg]? = some (.int c0) := H277.at hin277 rfl
  refine own_on (fun tq => X0.caload hx (j := (0 : Int32)) (v := (.int c0)) (by rw [e0]; exact Ar277.1) (State.isArrayOf_alike hZ.alike Ar277.2.1) Ar277.2.2 hin277 hat277 (g := (mkF m 12 #[.val (.ref ca), .val (.int (0 : Int32)), .val (.ref tb), .val (.int (0 : Int32)), .val (.int (3 : Int32)), .val (.int (0 : Int32)), .unset] [(.int (0 : Int32)), (.ref ca)])) rfl rfl (hb hby (od dB20 7 rfl)) tq) ?_
  show own_Fin p e below _ (s₁.setTop (mkF m 13 #[.val (.ref ca), .val (.int (0 : Int32)), .val (.ref tb), .val (.int (0 : Int32)), .val (.int (3 : Int32)), .val (.int (0 : Int32)), .unset] [(.int c0)]))
  refine o_ist X0 H (od dB20 8 rfl) (L' := #[.val (.ref ca), .val (.int (0 : Int32)), .val (.ref tb), .val (.int (0 : Int32)), .val (.int (3 : Int32)), .val (.int (0 : Int32)), .val (.int c0)]) rfl ?_
  refine o_ild X0 H (od dB20 9 rfl) rfl ?_
  refine o_si X0 H (od dB20 10 rfl) (v := 255) rfl ?_
  refine o_icY X0 H (od dB20 11 rfl) (flt w0).2.2.2 (pc' := 26) (by decide) (by decide) ?_
  refine o_aldN X0 H (od dB20 14 rfl) rfl rfl ?_
  refine o_ildN X0 H (od dB20 15 rfl) rfl ?_
  refine o_ild X0 H (od dB20 16 rfl) rfl ?_
  refine own_on (fun tq => XS.i2b X0.here hx rfl (hb hby (od dB20 17 rfl)) rfl) ?_
  show own_Fin p e below _ (s₁.setTop (mkF m 31 #[.val (.ref ca), .val (.int (0 : Int32)), .val (.ref tb), .val (.int (0 : Int32)), .val (.int (3 : Int32)), .val (.int (0 : Int32)), .val (.int c0)] [(.int (c0.toInt8.toInt32)), (.int (0 : Int32)), (.ref tb)]))
  have cp278 := At
  obtain ⟨cl278, Ar278, q278, S278, G278, H278, F278⟩ := cp278
  have hin278 : ¬ ((0 : Int32) < 0 ∨ cl278.slots.size ≤ ((0 : Int32)).toNatClampNeg) := inb_of S278 ⟨by decide, by decide⟩
  obtain ⟨T278, h278, X278, e278, W278, st278⟩ := stB X0 hx hZ e0 Ar278 (j := (0 : Int32)) hin278 (g := (mkF m 31 #[.val (.ref ca), .val (.int (0 : Int32)), .val (.ref tb), .val (.int (0 : Int32)), .val (.int (3 : Int32)), .val (.int (0 : Int32)), .val (.int c0)] [(.int (c0.toInt8.toInt32)), (.int (0 : Int32)), (.ref tb)])) rfl rfl (hb hby (od dB20 18 rfl))
  have V278 : Arv Z h278 tb kt .byte (3 : Int32) [(.int (nar .byte (c0.toInt8.toInt32))), (.int 0), (.int 0)] (.int 0) := Arv.set Ar278 q278 S278 G278 H278 F278 (fits_nar_byte _) W278 0 rfl (Nat.le_of_ble_eq_true rfl)
  have N278 := Fr.snoc X278 N0 gt
  refine own_on st278 ?_
  show own_Fin p e below _ (T278.setTop (mkF m 32 #[.val (.ref ca), .val (.int (0 : Int32)), .val (.ref tb), .val (.int (0 : Int32)), .val (.int (3 : Int32)), .val (.int (0 : Int32)), .val (.int c0)] []))
  refine own_on (fun tq => XS.iinc X278.here hx rfl (hb hby (od dB20 19 rfl)) rfl (l' := #[.val (.ref ca), .val (.int (1 : Int32)), .val (.ref tb), .val (.int (0 : Int32)), .val (.int (3 : Int32)), .val (.int (0 : Int32)), .val (.int c0)]) rfl) ?_
  show own_Fin p e below _ (T278.setTop (mkF m 35 #[.val (.ref ca), .val (.int (1 : Int32)), .val (.ref tb), .val (.int (0 : Int32)), .val (.int (3 : Int32)), .val (.int (0 : Int32)), .val (.int c0)] []))
  refine own_on (fun tq => XS.iinc X278.here hx rfl (hb hby (od dB20 20 rfl)) rfl (l' := #[.val (.ref ca), .val (.int (1 : Int32)), .val (.ref tb), .val (.int (1 : Int32)), .val (.int (3 : Int32)), .val (.int (0 : Int32)), .val (.int c0)]) rfl) ?_
  show own_Fin p e below _ (T278.setTop (mkF m 38 #[.val (.ref ca), .val (.int (1 : Int32)), .val (.ref tb), .val (.int (1 : Int32)), .val (.int (3 : Int32)), .val (.int (0 : Int32)), .val (.int c0)] []))
  refine own_on (fun tq => XS.iinc X278.here hx rfl (hb hby (od dB20 21 rfl)) rfl (l' := #[.val (.ref ca), .val (.int (1 : Int32)), .val (.ref tb), .val (.int (1 : Int32)), .val (.int (3 : Int32)), .val (.int (1 : Int32)), .val (.int c0)]) rfl) ?_
  show own_Fin p e below _ (T278.setTop (mkF m 41 #[.val (.ref ca), .val (.int (1 : Int32)), .val (.ref tb), .val (.int (1 : Int32)), .val (.int (3 : Int32)), .val (.int (1 : Int32)), .val (.int c0)] []))
  refine o_go X278 H (od dB20 22 rfl) (pc' := 3) (by decide) (by decide) ?_
  refine o_ild X278 H (od dB20 2 rfl) rfl ?_
  refine o_ild X278 H (od dB20 3 rfl) rfl ?_
  refine o_icN X278 H (od dB20 4 rfl) (tlt (by decide : (1 : Int32) < (3 : Int32))).2.1 ?_
  refine o_aldN X278 H (od dB20 5 rfl) rfl rfl ?_
  refine o_ildN X278 H (od dB20 6 rfl) rfl ?_
  have cp279 := (Ac.other W278 nct)
  obtain ⟨cl279, Ar279, q279, S279, G279, H279, F279⟩ := cp279
  have hin279 : ¬ ((1 : Int32) < 0 ∨ cl279.slots.size ≤ ((1 : Int32)).toNatClampNeg) := inb_of S279 ⟨by decide, by decide⟩
  have hat279 : cl279.slots[((1 : Int32)).toNatClampNeg]? = some (.int c1) := H279.at hin279 rfl
  refine own_on (fun tq => X278.caload hx (j := (1 : Int32)) (v := (.int c1)) (by rw [e278]; exact Ar279.1) (State.isArrayOf_alike hZ.alike Ar279.2.1) Ar279.2.2 hin279 hat279 (g := (mkF m 12 #[.val (.ref ca), .val (.int (1 : Int32)), .val (.ref tb), .val (.int (1 : Int32)), .val (.int (3 : Int32)), .val (.int (1 : Int32)), .val (.int c0)] [(.int (1 : Int32)), (.ref ca)])) rfl rfl (hb hby (od dB20 7 rfl)) tq) ?_
  show own_Fin p e below _ (T278.setTop (mkF m 13 #[.val (.ref ca), .val (.int (1 : Int32)), .val (.ref tb), .val (.int (1 : Int32)), .val (.int (3 : Int32)), .val (.int (1 : Int32)), .val (.int c0)] [(.int c1)]))
  refine o_ist X278 H (od dB20 8 rfl) (L' := #[.val (.ref ca), .val (.int (1 : Int32)), .val (.ref tb), .val (.int (1 : Int32)), .val (.int (3 : Int32)), .val (.int (1 : Int32)), .val (.int c1)]) rfl ?_
  refine o_ild X278 H (od dB20 9 rfl) rfl ?_
  refine o_si X278 H (od dB20 10 rfl) (v := 255) rfl ?_
  refine o_icN X278 H (od dB20 11 rfl) (tlt w1).2.2.2 ?_
  refine o_ild X278 H (od dB20 12 rfl) rfl ?_
  exact own_ret (t := .int) X278 hx hlk hret rfl (Or.inl ⟨rfl, (by simp), _, rfl⟩) (hb hby (od dB20 13 rfl)) (by show QC5_3_1 Z ca tb ka kt c0 c1 c2 h0 n0 _ T278.heap _; rw [e278]; exact ⟨rfl, N278, ((Keep.refl h0 [tb]).wr W278 (Or.inl (List.mem_of_getElem? (i := 0) rfl)))⟩) (by decide) (by decide)
theorem ef_rmC5_3_2 (m : MethodId) (x0 : Addr) (x1 : Int32) (x2 : Addr) (x3 : Int32) (x4 : Int32) : entryFrame m #[(.ref x0), (.int x1), (.ref x2), (.int x3), (.int x4)] 7 = mkF m 0 #[.val (.ref x0), .val (.int x1), .val (.ref x2), .val (.int x3), .val (.int x4), .unset, .unset] [] := by first | (simp [entryFrame, mkF, argsToLocals, Value.category]; done) | rfl
def QC5_3_2 (Z : State) (ca : Addr) (tb : Addr) (ka : ClassId) (kt : ClassId) (c0 : Int32) (c1 : Int32) (c2 : Int32) (h0 : Heap) (n0 : Nat) (v : Option Value) (h : Heap) (L : List Loc) : Prop := v = some (.int (2 : Int32)) ∧ Fr n0 L ∧ Keep h0 h [tb]
set_option maxRecDepth 65536 in
set_option maxHeartbeats 40000000 in
theorem rmC5_3_2 (l : Launch) (Z : State) (a0 : Array Value) (hw : ∀ d ∈ tables_1, d.before a0 Z = true) (ws : List Jvm.Cond) (ca : Addr) (tb : Addr) (ka : ClassId) (kt : ClassId) (c0 : Int32) (c1 : Int32) (c2 : Int32) (h0 : Heap) (n0 : Nat) (Z0 : n0 ≤ h0.size) (Ac : Arv Z h0 ca ka .char (3 : Int32) [(.int c0), (.int c1), (.int c2)] (.int 0)) (At : Arv Z h0 tb kt .byte (3 : Int32) [(.int 0), (.int 0), (.int 0)] (.int 0)) (gt : n0 ≤ tb) (nct : ca ≠ tb) (w0 : ¬ (255 : Int32) < c0) (w1 : ¬ (255 : Int32) < c1) (w2 : (255 : Int32) < c2) :
    own_M l (⟨"java/lang/StringUTF16", "compress", "([CI[BII)I"⟩ : MethodName) jdk_52_method_21_code 7 (some .int) ws ({ frames := 0, cells := 0, slots := 0, locals := 0 } : Room) #[(.ref ca), (.int (0 : Int32)), (.ref tb), (.int (0 : Int32)), (.int (3 : Int32))] Z h0 (QC5_3_2 Z ca tb ka kt c0 c1 c2 h0 n0) := by
  refine MetFree.of_bodySF (plainFor_of_name pn_2) hisR ?_
  intro p e s m args below meth cd s₁ Bd hml hP hK
  obtain ⟨rfl, hZ, hh⟩ := hP
  obtain ⟨X0, e0, H, hlk, hown, hret⟩ := own_start (R := ({ frames := 0, cells := 0, slots := 0, locals := 0 } : Room)) Bd hh rfl
  have hx := H.1; have hby := H.2; have N0 := Fr.nil n0
  show own_Fin p e below (own_Ans s (QC5_3_2 Z ca tb ka kt c0 c1 c2 h0 n0) ({ frames := 0, cells := 0, slots := 0, locals := 0 } : Room).cells ({ frames := 0, cells := 0, slots := 0, locals := 0 } : Room).slots) (s₁.setTop (entryFrame m #[(.ref ca), (.int (0 : Int32)), (.ref tb), (.int (0 : Int32)), (.int (3 : Int32))] 7))
  refine own_cast (ef_rmC5_3_2 m ca (0 : Int32) tb (0 : Int32) (3 : Int32)) ?_
  show own_Fin p e below _ (s₁.setTop (mkF m 0 #[.val (.ref ca), .val (.int (0 : Int32)), .val (.ref tb), .val (.int (0 : Int32)), .val (.int (3 : Int32)), .unset, .unset] []))
  refine o_ic X0 H (od dB20 0 rfl) (v := 0) rfl ?_
  refine o_ist X0 H (od dB20 1 rfl) (L' := #[.val (.ref ca), .val (.int (0 : Int32)), .val (.ref tb), .val (.int (0 : Int32)), .val (.int (3 : Int32)), .val (.int (0 : Int32)), .unset]) rfl ?_
  refine o_ild X0 H (od dB20 2 rfl) rfl ?_
  refine o_ild X0 H (od dB20 3 rfl) rfl ?_
  refine o_icN X0 H (od dB20 4 rfl) (tlt (by decide : (0 : Int32) < (3 : Int32))).2.1 ?_
  refine o_aldN X0 H (od dB20 5 rfl) rfl rfl ?_
  refine o_ildN X0 H (od dB20 6 rfl) rfl ?_
  have cp280 := Ac
  obtain ⟨cl280, Ar280, q280, S280, G280, H280, F280⟩ := cp280
  have hin280 : ¬ ((0 : Int32) < 0 ∨ cl280.slots.size ≤ ((0 : Int32)).toNatClampNeg) := inb_of S280 ⟨by decide, by decide⟩
  have hat280 : cl280.slots[((0 : Int32)).toNatClampNeg]? = some (.int c0) := H280.at hin280 rfl
  refine own_on (fun tq => X0.caload hx (j := (0 : Int32)) (v := (.int c0)) (by rw [e0]; exact Ar280.1) (State.isArrayOf_alike hZ.alike Ar280.2.1) Ar280.2.2 hin280 hat280 (g := (mkF m 12 #[.val (.ref ca), .val (.int (0 : Int32)), .val (.ref tb), .val (.int (0 : Int32)), .val (.int (3 : Int32)), .val (.int (0 : Int32)), .unset] [(.int (0 : Int32)), (.ref ca)])) rfl rfl (hb hby (od dB20 7 rfl)) tq) ?_
  show own_Fin p e below _ (s₁.setTop (mkF m 13 #[.val (.ref ca), .val (.int (0 : Int32)), .val (.ref tb), .val (.int (0 : Int32)), .val (.int (3 : Int32)), .val (.int (0 : Int32)), .unset] [(.int c0)]))
  refine o_ist X0 H (od dB20 8 rfl) (L' := #[.val (.ref ca), .val (.int (0 : Int32)), .val (.ref tb), .val (.int (0 : Int32)), .val (.int (3 : Int32)), .val (.int (0 : Int32)), .val (.int c0)]) rfl ?_
  refine o_ild X0 H (od dB20 9 rfl) rfl ?_
  refine o_si X0 H (od dB20 10 rfl) (v := 255) rfl ?_
  refine o_icY X0 H (od dB20 11 rfl) (flt w0).2.2.2 (pc' := 26) (by decide) (by decide) ?_
  refine o_aldN X0 H (od dB20 14 rfl) rfl rfl ?_
  refine o_ildN X0 H (od dB20 15 rfl) rfl ?_
  refine o_ild X0 H (od dB20 16 rfl) rfl ?_
  refine own_on (fun tq => XS.i2b X0.here hx rfl (hb hby (od dB20 17 rfl)) rfl) ?_
  show own_Fin p e below _ (s₁.setTop (mkF m 31 #[.val (.ref ca), .val (.int (0 : Int32)), .val (.ref tb), .val (.int (0 : Int32)), .val (.int (3 : Int32)), .val (.int (0 : Int32)), .val (.int c0)] [(.int (c0.toInt8.toInt32)), (.int (0 : Int32)), (.ref tb)]))
  have cp281 := At
  obtain ⟨cl281, Ar281, q281, S281, G281, H281, F281⟩ := cp281
  have hin281 : ¬ ((0 : Int32) < 0 ∨ cl281.slots.size ≤ ((0 : Int32)).toNatClampNeg) := inb_of S281 ⟨by decide, by decide⟩
  obtain ⟨T281, h281, X281, e281, W281, st281⟩ := stB X0 hx hZ e0 Ar281 (j := (0 : Int32)) hin281 (g := (mkF m 31 #[.val (.ref ca), .val (.int (0 : Int32)), .val (.ref tb), .val (.int (0 : Int32)), .val (.int (3 : Int32)), .val (.int (0 : Int32)), .val (.int c0)] [(.int (c0.toInt8.toInt32)), (.int (0 : Int32)), (.ref tb)])) rfl rfl (hb hby (od dB20 18 rfl))
  have V281 : Arv Z h281 tb kt .byte (3 : Int32) [(.int (nar .byte (c0.toInt8.toInt32))), (.int 0), (.int 0)] (.int 0) := Arv.set Ar281 q281 S281 G281 H281 F281 (fits_nar_byte _) W281 0 rfl (Nat.le_of_ble_eq_true rfl)
  have N281 := Fr.snoc X281 N0 gt
  refine own_on st281 ?_
  show own_Fin p e below _ (T281.setTop (mkF m 32 #[.val (.ref ca), .val (.int (0 : Int32)), .val (.ref tb), .val (.int (0 : Int32)), .val (.int (3 : Int32)), .val (.int (0 : Int32)), .val (.int c0)] []))
  refine own_on (fun tq => XS.iinc X281.here hx rfl (hb hby (od dB20 19 rfl)) rfl (l' := #[.val (.ref ca), .val (.int (1 : Int32)), .val (.ref tb), .val (.int (0 : Int32)), .val (.int (3 : Int32)), .val (.int (0 : Int32)), .val (.int c0)]) rfl) ?_
  show own_Fin p e below _ (T281.setTop (mkF m 35 #[.val (.ref ca), .val (.int (1 : Int32)), .val (.ref tb), .val (.int (0 : Int32)), .val (.int (3 : Int32)), .val (.int (0 : Int32)), .val (.int c0)] []))
  refine own_on (fun tq => XS.iinc X281.here hx rfl (hb hby (od dB20 20 rfl)) rfl (l' := #[.val (.ref ca), .val (.int (1 : Int32)), .val (.ref tb), .val (.int (1 : Int32)), .val (.int (3 : Int32)), .val (.int (0 : Int32)), .val (.int c0)]) rfl) ?_
  show own_Fin p e below _ (T281.setTop (mkF m 38 #[.val (.ref ca), .val (.int (1 : Int32)), .val (.ref tb), .val (.int (1 : Int32)), .val (.int (3 : Int32)), .val (.int (0 : Int32)), .val (.int c0)] []))
  refine own_on (fun tq => XS.iinc X281.here hx rfl (hb hby (od dB20 21 rfl)) rfl (l' := #[.val (.ref ca), .val (.int (1 : Int32)), .val (.ref tb), .val (.int (1 : Int32)), .val (.int (3 : Int32)), .val (.int (1 : Int32)), .val (.int c0)]) rfl) ?_
  show own_Fin p e below _ (T281.setTop (mkF m 41 #[.val (.ref ca), .val (.int (1 : Int32)), .val (.ref tb), .val (.int (1 : Int32)), .val (.int (3 : Int32)), .val (.int (1 : Int32)), .val (.int c0)] []))
  refine o_go X281 H (od dB20 22 rfl) (pc' := 3) (by decide) (by decide) ?_
  refine o_ild X281 H (od dB20 2 rfl) rfl ?_
  refine o_ild X281 H (od dB20 3 rfl) rfl ?_
  refine o_icN X281 H (od dB20 4 rfl) (tlt (by decide : (1 : Int32) < (3 : Int32))).2.1 ?_
  refine o_aldN X281 H (od dB20 5 rfl) rfl rfl ?_
  refine o_ildN X281 H (od dB20 6 rfl) rfl ?_
  have cp282 := (Ac.other W281 nct)
  obtain ⟨cl282, Ar282, q282, S282, G282, H282, F282⟩ := cp282
  have hin282 : ¬ ((1 : Int32) < 0 ∨ cl282.slots.size ≤ ((1 : Int32)).toNatClampNeg) := inb_of S282 ⟨by decide, by decide⟩
  have hat282 : cl282.slots[((1 : Int32)).toNatClampNeg]? = some (.int c1) := H282.at hin282 rfl
  refine own_on (fun tq => X281.caload hx (j := (1 : Int32)) (v := (.int c1)) (by rw [e281]; exact Ar282.1) (State.isArrayOf_alike hZ.alike Ar282.2.1) Ar282.2.2 hin282 hat282 (g := (mkF m 12 #[.val (.ref ca), .val (.int (1 : Int32)), .val (.ref tb), .val (.int (1 : Int32)), .val (.int (3 : Int32)), .val (.int (1 : Int32)), .val (.int c0)] [(.int (1 : Int32)), (.ref ca)])) rfl rfl (hb hby (od dB20 7 rfl)) tq) ?_
  show own_Fin p e below _ (T281.setTop (mkF m 13 #[.val (.ref ca), .val (.int (1 : Int32)), .val (.ref tb), .val (.int (1 : Int32)), .val (.int (3 : Int32)), .val (.int (1 : Int32)), .val (.int c0)] [(.int c1)]))
  refine o_ist X281 H (od dB20 8 rfl) (L' := #[.val (.ref ca), .val (.int (1 : Int32)), .val (.ref tb), .val (.int (1 : Int32)), .val (.int (3 : Int32)), .val (.int (1 : Int32)), .val (.int c1)]) rfl ?_
  refine o_ild X281 H (od dB20 9 rfl) rfl ?_
  refine o_si X281 H (od dB20 10 rfl) (v := 255) rfl ?_
  refine o_icY X281 H (od dB20 11 rfl) (flt w1).2.2.2 (pc' := 26) (by decide) (by decide) ?_
  refine o_aldN X281 H (od dB20 14 rfl) rfl rfl ?_
  refine o_ildN X281 H (od dB20 15 rfl) rfl ?_
  refine o_ild X281 H (od dB20 16 rfl) rfl ?_
  refine own_on (fun tq => XS.i2b X281.here hx rfl (hb hby (od dB20 17 rfl)) rfl) ?_
  show own_Fin p e below _ (T281.setTop (mkF m 31 #[.val (.ref ca), .val (.int (1 : Int32)), .val (.ref tb), .val (.int (1 : Int32)), .val (.int (3 : Int32)), .val (.int (1 : Int32)), .val (.int c1)] [(.int (c1.toInt8.toInt32)), (.int (1 : Int32)), (.ref tb)]))
  have cp283 := V281
  obtain ⟨cl283, Ar283, q283, S283, G283, H283, F283⟩ := cp283
  have hin283 : ¬ ((1 : Int32) < 0 ∨ cl283.slots.size ≤ ((1 : Int32)).toNatClampNeg) := inb_of S283 ⟨by decide, by decide⟩
  obtain ⟨T283, h283, X283, e283, W283, st283⟩ := stB X281 hx hZ e281 Ar283 (j := (1 : Int32)) hin283 (g := (mkF m 31 #[.val (.ref ca), .val (.int (1 : Int32)), .val (.ref tb), .val (.int (1 : Int32)), .val (.int (3 : Int32)), .val (.int (1 : Int32)), .val (.int c1)] [(.int (c1.toInt8.toInt32)), (.int (1 : Int32)), (.ref tb)])) rfl rfl (hb hby (od dB20 18 rfl))
  have V283 : Arv Z h283 tb kt .byte (3 : Int32) [(.int (nar .byte (c0.toInt8.toInt32))), (.int (nar .byte (c1.toInt8.toInt32))), (.int 0)] (.int 0) := Arv.set Ar283 q283 S283 G283 H283 F283 (fits_nar_byte _) W283 1 rfl (Nat.le_of_ble_eq_true rfl)
  have N283 := Fr.snoc X283 N281 gt
  have y284 := (((Keep.refl h0 [tb]).wr W281 (Or.inl (List.mem_of_getElem? (i := 0) rfl))).wr W283 (Or.inl (List.mem_of_getElem? (i := 0) rfl)))
  refine own_on st283 ?_
  show own_Fin p e below _ (T283.setTop (mkF m 32 #[.val (.ref ca), .val (.int (1 : Int32)), .val (.ref tb), .val (.int (1 : Int32)), .val (.int (3 : Int32)), .val (.int (1 : Int32)), .val (.int c1)] []))
  refine own_on (fun tq => XS.iinc X283.here hx rfl (hb hby (od dB20 19 rfl)) rfl (l' := #[.val (.ref ca), .val (.int (2 : Int32)), .val (.ref tb), .val (.int (1 : Int32)), .val (.int (3 : Int32)), .val (.int (1 : Int32)), .val (.int c1)]) rfl) ?_
  show own_Fin p e below _ (T283.setTop (mkF m 35 #[.val (.ref ca), .val (.int (2 : Int32)), .val (.ref tb), .val (.int (1 : Int32)), .val (.int (3 : Int32)), .val (.int (1 : Int32)), .val (.int c1)] []))
  refine own_on (fun tq => XS.iinc X283.here hx rfl (hb hby (od dB20 20 rfl)) rfl (l' := #[.val (.ref ca), .val (.int (2 : Int32)), .val (.ref tb), .val (.int (2 : Int32)), .val (.int (3 : Int32)), .val (.int (1 : Int32)), .val (.int c1)]) rfl) ?_
  show own_Fin p e below _ (T283.setTop (mkF m 38 #[.val (.ref ca), .val (.int (2 : Int32)), .val (.ref tb), .val (.int (2 : Int32)), .val (.int (3 : Int32)), .val (.int (1 : Int32)), .val (.int c1)] []))
  refine own_on (fun tq => XS.iinc X283.here hx rfl (hb hby (od dB20 21 rfl)) rfl (l' := #[.val (.ref ca), .val (.int (2 : Int32)), .val (.ref tb), .val (.int (2 : Int32)), .val (.int (3 : Int32)), .val (.int (2 : Int32)), .val (.int c1)]) rfl) ?_
  show own_Fin p e below _ (T283.setTop (mkF m 41 #[.val (.ref ca), .val (.int (2 : Int32)), .val (.ref tb), .val (.int (2 : Int32)), .val (.int (3 : Int32)), .val (.int (2 : Int32)), .val (.int c1)] []))
  refine o_go X283 H (od dB20 22 rfl) (pc' := 3) (by decide) (by decide) ?_
  refine o_ild X283 H (od dB20 2 rfl) rfl ?_
  refine o_ild X283 H (od dB20 3 rfl) rfl ?_
  refine o_icN X283 H (od dB20 4 rfl) (tlt (by decide : (2 : Int32) < (3 : Int32))).2.1 ?_
  refine o_aldN X283 H (od dB20 5 rfl) rfl rfl ?_
  refine o_ildN X283 H (od dB20 6 rfl) rfl ?_
  have cp285 := ((Ac.other W281 nct).other W283 nct)
  obtain ⟨cl285, Ar285, q285, S285, G285, H285, F285⟩ := cp285
  have hin285 : ¬ ((2 : Int32) < 0 ∨ cl285.slots.size ≤ ((2 : Int32)).toNatClampNeg) := inb_of S285 ⟨by decide, by decide⟩
  have hat285 : cl285.slots[((2 : Int32)).toNatClampNeg]? = some (.int c2) := H285.at hin285 rfl
  refine own_on (fun tq => X283.caload hx (j := (2 : Int32)) (v := (.int c2)) (by rw [e283]; exact Ar285.1) (State.isArrayOf_alike hZ.alike Ar285.2.1) Ar285.2.2 hin285 hat285 (g := (mkF m 12 #[.val (.ref ca), .val (.int (2 : Int32)), .val (.ref tb), .val (.int (2 : Int32)), .val (.int (3 : Int32)), .val (.int (2 : Int32)), .val (.int c1)] [(.int (2 : Int32)), (.ref ca)])) rfl rfl (hb hby (od dB20 7 rfl)) tq) ?_
  show own_Fin p e below _ (T283.setTop (mkF m 13 #[.val (.ref ca), .val (.int (2 : Int32)), .val (.ref tb), .val (.int (2 : Int32)), .val (.int (3 : Int32)), .val (.int (2 : Int32)), .val (.int c1)] [(.int c2)]))
  refine o_ist X283 H (od dB20 8 rfl) (L' := #[.val (.ref ca), .val (.int (2 : Int32)), .val (.ref tb), .val (.int (2 : Int32)), .val (.int (3 : Int32)), .val (.int (2 : Int32)), .val (.int c2)]) rfl ?_
  refine o_ild X283 H (od dB20 9 rfl) rfl ?_
  refine o_si X283 H (od dB20 10 rfl) (v := 255) rfl ?_
  refine o_icN X283 H (od dB20 11 rfl) (tlt w2).2.2.2 ?_
  refine o_ild X283 H (od dB20 12 rfl) rfl ?_
  exact own_ret (t := .int) X283 hx hlk hret rfl (Or.inl ⟨rfl, (by simp), _, rfl⟩) (hb hby (od dB20 13 rfl)) (by show QC5_3_2 Z ca tb ka kt c0 c1 c2 h0 n0 _ T283.heap _; rw [e283]; exact ⟨rfl, N283, y284⟩) (by decide) (by decide)
theorem ef_rmC5_3_3 (m : MethodId) (x0 : Addr) (x1 : Int32) (x2 : Addr) (x3 : Int32) (x4 : Int32) : entryFrame m #[(.ref x0), (.int x1), (.ref x2), (.int x3), (.int x4)] 7 = mkF m 0 #[.val (.ref x0), .val (.int x1), .val (.ref x2), .val (.int x3), .val (.int x4), .unset, .unset] [] := by first | (simp [entryFrame, mkF, argsToLocals, Value.category]; done) | rfl
def QC5_3_3 (Z : State) (ca : Addr) (tb : Addr) (ka : ClassId) (kt : ClassId) (c0 : Int32) (c1 : Int32) (c2 : Int32) (h0 : Heap) (n0 : Nat) (v : Option Value) (h : Heap) (L : List Loc) : Prop := v = some (.int (3 : Int32)) ∧ Fr n0 L ∧ Keep h0 h [tb] ∧ Arv Z h tb kt .byte (3 : Int32) (([c0, c1, c2].map StrChars.lo8).map Value.int) (.int 0)
set_option maxRecDepth 65536 in
set_option maxHeartbeats 40000000 in
theorem rmC5_3_3 (l : Launch) (Z : State) (a0 : Array Value) (hw : ∀ d ∈ tables_1, d.before a0 Z = true) (ws : List Jvm.Cond) (ca : Addr) (tb : Addr) (ka : ClassId) (kt : ClassId) (c0 : Int32) (c1 : Int32) (c2 : Int32) (h0 : Heap) (n0 : Nat) (Z0 : n0 ≤ h0.size) (Ac : Arv Z h0 ca ka .char (3 : Int32) [(.int c0), (.int c1), (.int c2)] (.int 0)) (At : Arv Z h0 tb kt .byte (3 : Int32) [(.int 0), (.int 0), (.int 0)] (.int 0)) (gt : n0 ≤ tb) (nct : ca ≠ tb) (w0 : ¬ (255 : Int32) < c0) (w1 : ¬ (255 : Int32) < c1) (w2 : ¬ (255 : Int32) < c2) :
    own_M l (⟨"java/lang/StringUTF16", "compress", "([CI[BII)I"⟩ : MethodName) jdk_52_method_21_code 7 (some .int) ws ({ frames := 0, cells := 0, slots := 0, locals := 0 } : Room) #[(.ref ca), (.int (0 : Int32)), (.ref tb), (.int (0 : Int32)), (.int (3 : Int32))] Z h0 (QC5_3_3 Z ca tb ka kt c0 c1 c2 h0 n0) := by
  refine MetFree.of_bodySF (plainFor_of_name pn_2) hisR ?_
  intro p e s m args below meth cd s₁ Bd hml hP hK
  obtain ⟨rfl, hZ, hh⟩ := hP
  obtain ⟨X0, e0, H, hlk, hown, hret⟩ := own_start (R := ({ frames := 0, cells := 0, slots := 0, locals := 0 } : Room)) Bd hh rfl
  have hx := H.1; have hby := H.2; have N0 := Fr.nil n0
  show own_Fin p e below (own_Ans s (QC5_3_3 Z ca tb ka kt c0 c1 c2 h0 n0) ({ frames := 0, cells := 0, slots := 0, locals := 0 } : Room).cells ({ frames := 0, cells := 0, slots := 0, locals := 0 } : Room).slots) (s₁.setTop (entryFrame m #[(.ref ca), (.int (0 : Int32)), (.ref tb), (.int (0 : Int32)), (.int (3 : Int32))] 7))
  refine own_cast (ef_rmC5_3_3 m ca (0 : Int32) tb (0 : Int32) (3 : Int32)) ?_
  show own_Fin p e below _ (s₁.setTop (mkF m 0 #[.val (.ref ca), .val (.int (0 : Int32)), .val (.ref tb), .val (.int (0 : Int32)), .val (.int (3 : Int32)), .unset, .unset] []))
  refine o_ic X0 H (od dB20 0 rfl) (v := 0) rfl ?_
  refine o_ist X0 H (od dB20 1 rfl) (L' := #[.val (.ref ca), .val (.int (0 : Int32)), .val (.ref tb), .val (.int (0 : Int32)), .val (.int (3 : Int32)), .val (.int (0 : Int32)), .unset]) rfl ?_
  refine o_ild X0 H (od dB20 2 rfl) rfl ?_
  refine o_ild X0 H (od dB20 3 rfl) rfl ?_
  refine o_icN X0 H (od dB20 4 rfl) (tlt (by decide : (0 : Int32) < (3 : Int32))).2.1 ?_
  refine o_aldN X0 H (od dB20 5 rfl) rfl rfl ?_
  refine o_ildN X0 H (od dB20 6 rfl) rfl ?_
  have cp286 := Ac
  obtain ⟨cl286, Ar286, q286, S286, G286, H286, F286⟩ := cp286
  have hin286 : ¬ ((0 : Int32) < 0 ∨ cl286.slots.size ≤ ((0 : Int32)).toNatClampNeg) := inb_of S286 ⟨by decide, by decide⟩
  have hat286 : cl286.slots[((0 : Int32)).toNatClampNeg]? = some (.int c0) := H286.at hin286 rfl
  refine own_on (fun tq => X0.caload hx (j := (0 : Int32)) (v := (.int c0)) (by rw [e0]; exact Ar286.1) (State.isArrayOf_alike hZ.alike Ar286.2.1) Ar286.2.2 hin286 hat286 (g := (mkF m 12 #[.val (.ref ca), .val (.int (0 : Int32)), .val (.ref tb), .val (.int (0 : Int32)), .val (.int (3 : Int32)), .val (.int (0 : Int32)), .unset] [(.int (0 : Int32)), (.ref ca)])) rfl rfl (hb hby (od dB20 7 rfl)) tq) ?_
  show own_Fin p e below _ (s₁.setTop (mkF m 13 #[.val (.ref ca), .val (.int (0 : Int32)), .val (.ref tb), .val (.int (0 : Int32)), .val (.int (3 : Int32)), .val (.int (0 : Int32)), .unset] [(.int c0)]))
  refine o_ist X0 H (od dB20 8 rfl) (L' := #[.val (.ref ca), .val (.int (0 : Int32)), .val (.ref tb), .val (.int (0 : Int32)), .val (.int (3 : Int32)), .val (.int (0 : Int32)), .val (.int c0)]) rfl ?_
  refine o_ild X0 H (od dB20 9 rfl) rfl ?_
  refine o_si X0 H (od dB20 10 rfl) (v := 255) rfl ?_
  refine o_icY X0 H (od dB20 11 rfl) (flt w0).2.2.2 (pc' := 26) (by decide) (by decide) ?_
  refine o_aldN X0 H (od dB20 14 rfl) rfl rfl ?_
  refine o_ildN X0 H (od dB20 15 rfl) rfl ?_
  refine o_ild X0 H (od dB20 16 rfl) rfl ?_
  refine own_on (fun tq => XS.i2b X0.here hx rfl (hb hby (od dB20 17 rfl)) rfl) ?_
  show own_Fin p e below _ (s₁.setTop (mkF m 31 #[.val (.ref ca), .val (.int (0 : Int32)), .val (.ref tb), .val (.int (0 : Int32)), .val (.int (3 : Int32)), .val (.int (0 : Int32)), .val (.int c0)] [(.int (c0.toInt8.toInt32)), (.int (0 : Int32)), (.ref tb)]))
  have cp287 := At
  obtain ⟨cl287, Ar287, q287, S287, G287, H287, F287⟩ := cp287
  have hin287 : ¬ ((0 : Int32) < 0 ∨ cl287.slots.size ≤ ((0 : Int32)).toNatClampNeg) := inb_of S287 ⟨by decide, by decide⟩
  obtain ⟨T287, h287, X287, e287, W287, st287⟩ := stB X0 hx hZ e0 Ar287 (j := (0 : Int32)) hin287 (g := (mkF m 31 #[.val (.ref ca), .val (.int (0 : Int32)), .val (.ref tb), .val (.int (0 : Int32)), .val (.int (3 : Int32)), .val (.int (0 : Int32)), .val (.int c0)] [(.int (c0.toInt8.toInt32)), (.int (0 : Int32)), (.ref tb)])) rfl rfl (hb hby (od dB20 18 rfl))
  have V287 : Arv Z h287 tb kt .byte (3 : Int32) [(.int (nar .byte (c0.toInt8.toInt32))), (.int 0), (.int 0)] (.int 0) := Arv.set Ar287 q287 S287 G287 H287 F287 (fits_nar_byte _) W287 0 rfl (Nat.le_of_ble_eq_true rfl)
  have N287 := Fr.snoc X287 N0 gt
  refine own_on st287 ?_
  show own_Fin p e below _ (T287.setTop (mkF m 32 #[.val (.ref ca), .val (.int (0 : Int32)), .val (.ref tb), .val (.int (0 : Int32)), .val (.int (3 : Int32)), .val (.int (0 : Int32)), .val (.int c0)] []))
  refine own_on (fun tq => XS.iinc X287.here hx rfl (hb hby (od dB20 19 rfl)) rfl (l' := #[.val (.ref ca), .val (.int (1 : Int32)), .val (.ref tb), .val (.int (0 : Int32)), .val (.int (3 : Int32)), .val (.int (0 : Int32)), .val (.int c0)]) rfl) ?_
  show own_Fin p e below _ (T287.setTop (mkF m 35 #[.val (.ref ca), .val (.int (1 : Int32)), .val (.ref tb), .val (.int (0 : Int32)), .val (.int (3 : Int32)), .val (.int (0 : Int32)), .val (.int c0)] []))
  refine own_on (fun tq => XS.iinc X287.here hx rfl (hb hby (od dB20 20 rfl)) rfl (l' := #[.val (.ref ca), .val (.int (1 : Int32)), .val (.ref tb), .val (.int (1 : Int32)), .val (.int (3 : Int32)), .val (.int (0 : Int32)), .val (.int c0)]) rfl) ?_
  show own_Fin p e below _ (T287.setTop (mkF m 38 #[.val (.ref ca), .val (.int (1 : Int32)), .val (.ref tb), .val (.int (1 : Int32)), .val (.int (3 : Int32)), .val (.int (0 : Int32)), .val (.int c0)] []))
  refine own_on (fun tq => XS.iinc X287.here hx rfl (hb hby (od dB20 21 rfl)) rfl (l' := #[.val (.ref ca), .val (.int (1 : Int32)), .val (.ref tb), .val (.int (1 : Int32)), .val (.int (3 : Int32)), .val (.int (1 : Int32)), .val (.int c0)]) rfl) ?_
  show own_Fin p e below _ (T287.setTop (mkF m 41 #[.val (.ref ca), .val (.int (1 : Int32)), .val (.ref tb), .val (.int (1 : Int32)), .val (.int (3 : Int32)), .val (.int (1 : Int32)), .val (.int c0)] []))
  refine o_go X287 H (od dB20 22 rfl) (pc' := 3) (by decide) (by decide) ?_
  refine o_ild X287 H (od dB20 2 rfl) rfl ?_
  refine o_ild X287 H (od dB20 3 rfl) rfl ?_
  refine o_icN X287 H (od dB20 4 rfl) (tlt (by decide : (1 : Int32) < (3 : Int32))).2.1 ?_
  refine o_aldN X287 H (od dB20 5 rfl) rfl rfl ?_
  refine o_ildN X287 H (od dB20 6 rfl) rfl ?_
  have cp288 := (Ac.other W287 nct)
  obtain ⟨cl288, Ar288, q288, S288, G288, H288, F288⟩ := cp288
  have hin288 : ¬ ((1 : Int32) < 0 ∨ cl288.slots.size ≤ ((1 : Int32)).toNatClampNeg) := inb_of S288 ⟨by decide, by decide⟩
  have hat288 : cl288.slots[((1 : Int32)).toNatClampNeg]? = some (.int c1) := H288.at hin288 rfl
  refine own_on (fun tq => X287.caload hx (j := (1 : Int32)) (v := (.int c1)) (by rw [e287]; exact Ar288.1) (State.isArrayOf_alike hZ.alike Ar288.2.1) Ar288.2.2 hin288 hat288 (g := (mkF m 12 #[.val (.ref ca), .val (.int (1 : Int32)), .val (.ref tb), .val (.int (1 : Int32)), .val (.int (3 : Int32)), .val (.int (1 : Int32)), .val (.int c0)] [(.int (1 : Int32)), (.ref ca)])) rfl rfl (hb hby (od dB20 7 rfl)) tq) ?_
  show own_Fin p e below _ (T287.setTop (mkF m 13 #[.val (.ref ca), .val (.int (1 : Int32)), .val (.ref tb), .val (.int (1 : Int32)), .val (.int (3 : Int32)), .val (.int (1 : Int32)), .val (.int c0)] [(.int c1)]))
  refine o_ist X287 H (od dB20 8 rfl) (L' := #[.val (.ref ca), .val (.int (1 : Int32)), .val (.ref tb), .val (.int (1 : Int32)), .val (.int (3 : Int32)), .val (.int (1 : Int32)), .val (.int c1)]) rfl ?_
  refine o_ild X287 H (od dB20 9 rfl) rfl ?_
  refine o_si X287 H (od dB20 10 rfl) (v := 255) rfl ?_
  refine o_icY X287 H (od dB20 11 rfl) (flt w1).2.2.2 (pc' := 26) (by decide) (by decide) ?_
  refine o_aldN X287 H (od dB20 14 rfl) rfl rfl ?_
  refine o_ildN X287 H (od dB20 15 rfl) rfl ?_
  refine o_ild X287 H (od dB20 16 rfl) rfl ?_
  refine own_on (fun tq => XS.i2b X287.here hx rfl (hb hby (od dB20 17 rfl)) rfl) ?_
  show own_Fin p e below _ (T287.setTop (mkF m 31 #[.val (.ref ca), .val (.int (1 : Int32)), .val (.ref tb), .val (.int (1 : Int32)), .val (.int (3 : Int32)), .val (.int (1 : Int32)), .val (.int c1)] [(.int (c1.toInt8.toInt32)), (.int (1 : Int32)), (.ref tb)]))
  have cp289 := V287
  obtain ⟨cl289, Ar289, q289, S289, G289, H289, F289⟩ := cp289
  have hin289 : ¬ ((1 : Int32) < 0 ∨ cl289.slots.size ≤ ((1 : Int32)).toNatClampNeg) := inb_of S289 ⟨by decide, by decide⟩
  obtain ⟨T289, h289, X289, e289, W289, st289⟩ := stB X287 hx hZ e287 Ar289 (j := (1 : Int32)) hin289 (g := (mkF m 31 #[.val (.ref ca), .val (.int (1 : Int32)), .val (.ref tb), .val (.int (1 : Int32)), .val (.int (3 : Int32)), .val (.int (1 : Int32)), .val (.int c1)] [(.int (c1.toInt8.toInt32)), (.int (1 : Int32)), (.ref tb)])) rfl rfl (hb hby (od dB20 18 rfl))
  have V289 : Arv Z h289 tb kt .byte (3 : Int32) [(.int (nar .byte (c0.toInt8.toInt32))), (.int (nar .byte (c1.toInt8.toInt32))), (.int 0)] (.int 0) := Arv.set Ar289 q289 S289 G289 H289 F289 (fits_nar_byte _) W289 1 rfl (Nat.le_of_ble_eq_true rfl)
  have N289 := Fr.snoc X289 N287 gt
  have y290 := (((Keep.refl h0 [tb]).wr W287 (Or.inl (List.mem_of_getElem? (i := 0) rfl))).wr W289 (Or.inl (List.mem_of_getElem? (i := 0) rfl)))
  refine own_on st289 ?_
  show own_Fin p e below _ (T289.setTop (mkF m 32 #[.val (.ref ca), .val (.int (1 : Int32)), .val (.ref tb), .val (.int (1 : Int32)), .val (.int (3 : Int32)), .val (.int (1 : Int32)), .val (.int c1)] []))
  refine own_on (fun tq => XS.iinc X289.here hx rfl (hb hby (od dB20 19 rfl)) rfl (l' := #[.val (.ref ca), .val (.int (2 : Int32)), .val (.ref tb), .val (.int (1 : Int32)), .val (.int (3 : Int32)), .val (.int (1 : Int32)), .val (.int c1)]) rfl) ?_
  show own_Fin p e below _ (T289.setTop (mkF m 35 #[.val (.ref ca), .val (.int (2 : Int32)), .val (.ref tb), .val (.int (1 : Int32)), .val (.int (3 : Int32)), .val (.int (1 : Int32)), .val (.int c1)] []))
  refine own_on (fun tq => XS.iinc X289.here hx rfl (hb hby (od dB20 20 rfl)) rfl (l' := #[.val (.ref ca), .val (.int (2 : Int32)), .val (.ref tb), .val (.int (2 : Int32)), .val (.int (3 : Int32)), .val (.int (1 : Int32)), .val (.int c1)]) rfl) ?_
  show own_Fin p e below _ (T289.setTop (mkF m 38 #[.val (.ref ca), .val (.int (2 : Int32)), .val (.ref tb), .val (.int (2 : Int32)), .val (.int (3 : Int32)), .val (.int (1 : Int32)), .val (.int c1)] []))
  refine own_on (fun tq => XS.iinc X289.here hx rfl (hb hby (od dB20 21 rfl)) rfl (l' := #[.val (.ref ca), .val (.int (2 : Int32)), .val (.ref tb), .val (.int (2 : Int32)), .val (.int (3 : Int32)), .val (.int (2 : Int32)), .val (.int c1)]) rfl) ?_
  show own_Fin p e below _ (T289.setTop (mkF m 41 #[.val (.ref ca), .val (.int (2 : Int32)), .val (.ref tb), .val (.int (2 : Int32)), .val (.int (3 : Int32)), .val (.int (2 : Int32)), .val (.int c1)] []))
  refine o_go X289 H (od dB20 22 rfl) (pc' := 3) (by decide) (by decide) ?_
  refine o_ild X289 H (od dB20 2 rfl) rfl ?_
  refine o_ild X289 H (od dB20 3 rfl) rfl ?_
  refine o_icN X289 H (od dB20 4 rfl) (tlt (by decide : (2 : Int32) < (3 : Int32))).2.1 ?_
  refine o_aldN X289 H (od dB20 5 rfl) rfl rfl ?_
  refine o_ildN X289 H (od dB20 6 rfl) rfl ?_
  have cp291 := ((Ac.other W287 nct).other W289 nct)
  obtain ⟨cl291, Ar291, q291, S291, G291, H291, F291⟩ := cp291
  have hin291 : ¬ ((2 : Int32) < 0 ∨ cl291.slots.size ≤ ((2 : Int32)).toNatClampNeg) := inb_of S291 ⟨by decide, by decide⟩
  have hat291 : cl291.slots[((2 : Int32)).toNatClampNeg]? = some (.int c2) := H291.at hin291 rfl
  refine own_on (fun tq => X289.caload hx (j := (2 : Int32)) (v := (.int c2)) (by rw [e289]; exact Ar291.1) (State.isArrayOf_alike hZ.alike Ar291.2.1) Ar291.2.2 hin291 hat291 (g := (mkF m 12 #[.val (.ref ca), .val (.int (2 : Int32)), .val (.ref tb), .val (.int (2 : Int32)), .val (.int (3 : Int32)), .val (.int (2 : Int32)), .val (.int c1)] [(.int (2 : Int32)), (.ref ca)])) rfl rfl (hb hby (od dB20 7 rfl)) tq) ?_
  show own_Fin p e below _ (T289.setTop (mkF m 13 #[.val (.ref ca), .val (.int (2 : Int32)), .val (.ref tb), .val (.int (2 : Int32)), .val (.int (3 : Int32)), .val (.int (2 : Int32)), .val (.int c1)] [(.int c2)]))
  refine o_ist X289 H (od dB20 8 rfl) (L' := #[.val (.ref ca), .val (.int (2 : Int32)), .val (.ref tb), .val (.int (2 : Int32)), .val (.int (3 : Int32)), .val (.int (2 : Int32)), .val (.int c2)]) rfl ?_
  refine o_ild X289 H (od dB20 9 rfl) rfl ?_
  refine o_si X289 H (od dB20 10 rfl) (v := 255) rfl ?_
  refine o_icY X289 H (od dB20 11 rfl) (flt w2).2.2.2 (pc' := 26) (by decide) (by decide) ?_
  refine o_aldN X289 H (od dB20 14 rfl) rfl rfl ?_
  refine o_ildN X289 H (od dB20 15 rfl) rfl ?_
  refine o_ild X289 H (od dB20 16 rfl) rfl ?_
  refine own_on (fun tq => XS.i2b X289.here hx rfl (hb hby (od dB20 17 rfl)) rfl) ?_
  show own_Fin p e below _ (T289.setTop (mkF m 31 #[.val (.ref ca), .val (.int (2 : Int32)), .val (.ref tb), .val (.int (2 : Int32)), .val (.int (3 : Int32)), .val (.int (2 : Int32)), .val (.int c2)] [(.int (c2.toInt8.toInt32)), (.int (2 : Int32)), (.ref tb)]))
  have cp292 := V289
  obtain ⟨cl292, Ar292, q292, S292, G292, H292, F292⟩ := cp292
  have hin292 : ¬ ((2 : Int32) < 0 ∨ cl292.slots.size ≤ ((2 : Int32)).toNatClampNeg) := inb_of S292 ⟨by decide, by decide⟩
  obtain ⟨T292, h292, X292, e292, W292, st292⟩ := stB X289 hx hZ e289 Ar292 (j := (2 : Int32)) hin292 (g := (mkF m 31 #[.val (.ref ca), .val (.int (2 : Int32)), .val (.ref tb), .val (.int (2 : Int32)), .val (.int (3 : Int32)), .val (.int (2 : Int32)), .val (.int c2)] [(.int (c2.toInt8.toInt32)), (.int (2 : Int32)), (.ref tb)])) rfl rfl (hb hby (od dB20 18 rfl))
  have V292 : Arv Z h292 tb kt .byte (3 : Int32) [(.int (nar .byte (c0.toInt8.toInt32))), (.int (nar .byte (c1.toInt8.toInt32))), (.int (nar .byte (c2.toInt8.toInt32)))] (.int 0) := Arv.set Ar292 q292 S292 G292 H292 F292 (fits_nar_byte _) W292 2 rfl (Nat.le_of_ble_eq_true rfl)
  have N292 := Fr.snoc X292 N289 gt
  refine own_on st292 ?_
  show own_Fin p e below _ (T292.setTop (mkF m 32 #[.val (.ref ca), .val (.int (2 : Int32)), .val (.ref tb), .val (.int (2 : Int32)), .val (.int (3 : Int32)), .val (.int (2 : Int32)), .val (.int c2)] []))
  refine own_on (fun tq => XS.iinc X292.here hx rfl (hb hby (od dB20 19 rfl)) rfl (l' := #[.val (.ref ca), .val (.int (3 : Int32)), .val (.ref tb), .val (.int (2 : Int32)), .val (.int (3 : Int32)), .val (.int (2 : Int32)), .val (.int c2)]) rfl) ?_
  show own_Fin p e below _ (T292.setTop (mkF m 35 #[.val (.ref ca), .val (.int (3 : Int32)), .val (.ref tb), .val (.int (2 : Int32)), .val (.int (3 : Int32)), .val (.int (2 : Int32)), .val (.int c2)] []))
  refine own_on (fun tq => XS.iinc X292.here hx rfl (hb hby (od dB20 20 rfl)) rfl (l' := #[.val (.ref ca), .val (.int (3 : Int32)), .val (.ref tb), .val (.int (3 : Int32)), .val (.int (3 : Int32)), .val (.int (2 : Int32)), .val (.int c2)]) rfl) ?_
  show own_Fin p e below _ (T292.setTop (mkF m 38 #[.val (.ref ca), .val (.int (3 : Int32)), .val (.ref tb), .val (.int (3 : Int32)), .val (.int (3 : Int32)), .val (.int (2 : Int32)), .val (.int c2)] []))
  refine own_on (fun tq => XS.iinc X292.here hx rfl (hb hby (od dB20 21 rfl)) rfl (l' := #[.val (.ref ca), .val (.int (3 : Int32)), .val (.ref tb), .val (.int (3 : Int32)), .val (.int (3 : Int32)), .val (.int (3 : Int32)), .val (.int c2)]) rfl) ?_
  show own_Fin p e below _ (T292.setTop (mkF m 41 #[.val (.ref ca), .val (.int (3 : Int32)), .val (.ref tb), .val (.int (3 : Int32)), .val (.int (3 : Int32)), .val (.int (3 : Int32)), .val (.int c2)] []))
  refine o_go X292 H (od dB20 22 rfl) (pc' := 3) (by decide) (by decide) ?_
  refine o_ild X292 H (od dB20 2 rfl) rfl ?_
  refine o_ild X292 H (od dB20 3 rfl) rfl ?_
  refine o_icY X292 H (od dB20 4 rfl) (flt (by decide : ¬ ((3 : Int32) < (3 : Int32)))).2.1 (pc' := 44) (by decide) (by decide) ?_
  refine o_ild X292 H (od dB20 23 rfl) rfl ?_
  exact own_ret (t := .int) X292 hx hlk hret rfl (Or.inl ⟨rfl, (by simp), _, rfl⟩) (hb hby (od dB20 24 rfl)) (by show QC5_3_3 Z ca tb ka kt c0 c1 c2 h0 n0 _ T292.heap _; rw [e292]; exact ⟨rfl, N292, (y290.wr W292 (Or.inl (List.mem_of_getElem? (i := 0) rfl))), (by have q := V292; simp only [own_narb] at q; exact q)⟩) (by decide) (by decide)
theorem dB44 : oL jdk_52_method_14_code [(0, .iload_n 2, 1), (1, .invokestatic 107, 3), (4, .astore_n 3, 1), (5, .iconst 0, 1), (6, .istore 4, 2), (8, .iload 4, 2), (10, .iload_n 2, 1), (11, .if_icmp .ge 21, 3), (14, .aload_n 3, 1), (15, .iload 4, 2), (17, .aload_n 0, 1), (18, .iload_n 1, 1), (19, .caload, 1), (20, .invokestatic 111, 3), (23, .iinc 1 1, 3), (26, .iinc 4 1, 3), (29, .goto (-21), 3), (32, .aload_n 3, 1), (33, .areturn, 1)] := by unfold oL; decide +kernel
theorem ef_rmTb1 (m : MethodId) (x0 : Addr) (x1 : Int32) (x2 : Int32) : entryFrame m #[(.ref x0), (.int x1), (.int x2)] 5 = mkF m 0 #[.val (.ref x0), .val (.int x1), .val (.int x2), .unset, .unset] [] := by first | (simp [entryFrame, mkF, argsToLocals, Value.category]; done) | rfl
def QTb1 (Z : State) (ca : Addr) (ka : ClassId) (c0 : Int32) (z : Int32) (fm : Value) (h0 : Heap) (n0 : Nat) (v : Option Value) (h : Heap) (L : List Loc) : Prop := ∃ (x : Addr) (kx : ClassId), v = some (.ref x) ∧ Fr n0 L ∧ Keep h0 h [] ∧ n0 ≤ x ∧ h0.size ≤ x ∧ Exa Z h x "[B" ∧ Arv Z h x kx .byte (Int32.ofNat (2 * 1)) (StrChars.Road.wideBytes [c0]) (.int 0)
set_option maxRecDepth 65536 in
set_option maxHeartbeats 40000000 in
theorem rmTb1 (l : Launch) (Z : State) (a0 : Array Value) (hw : ∀ d ∈ tables_1, d.before a0 Z = true) (ws : List Jvm.Cond) (ca : Addr) (ka : ClassId) (c0 : Int32) (z : Int32) (fm : Value) (h0 : Heap) (n0 : Nat) (Z0 : n0 ≤ h0.size) (PU : own_PU Z n0 h0 z fm) (Ac : Arv Z h0 ca ka .char (1 : Int32) [(.int c0)] (.int 0)) :
    own_M l (⟨"java/lang/StringUTF16", "toBytes", "([CII)[B"⟩ : MethodName) jdk_52_method_14_code 5 (some (.array .byte)) ws ({ frames := 2, cells := 1, slots := 72, locals := 24 } : Room) #[(.ref ca), (.int (0 : Int32)), (.int (1 : Int32))] Z h0 (QTb1 Z ca ka c0 z fm h0 n0) := by
  refine MetFree.of_bodySF (plainFor_of_name pn_2) hisR ?_
  intro p e s m args below meth cd s₁ Bd hml hP hK
  obtain ⟨rfl, hZ, hh⟩ := hP
  obtain ⟨X0, e0, H, hlk, hown, hret⟩ := own_start (R := ({ frames := 2, cells := 1, slots := 72, locals := 24 } : Room)) Bd hh rfl
  have hx := H.1; have hby := H.2; have N0 := Fr.nil n0
  obtain ⟨hz, O, SC, SA, SH, SL, SF, hfm⟩ := PU
  show own_Fin p e below (own_Ans s (QTb1 Z ca ka c0 z fm h0 n0) ({ frames := 2, cells := 1, slots := 72, locals := 24 } : Room).cells ({ frames := 2, cells := 1, slots := 72, locals := 24 } : Room).slots) (s₁.setTop (entryFrame m #[(.ref ca), (.int (0 : Int32)), (.int (1 : Int32))] 5))
  refine own_cast (ef_rmTb1 m ca (0 : Int32) (1 : Int32)) ?_
  show own_Fin p e below _ (s₁.setTop (mkF m 0 #[.val (.ref ca), .val (.int (0 : Int32)), .val (.int (1 : Int32)), .unset, .unset] []))
  refine o_ildN X0 H (od dB44 0 rfl) rfl ?_
  refine o_tc (argsL := [(.int (1 : Int32))]) (rest := []) X0 H hml hZ hown (ow hw 228 rfl) (ow hw 229 rfl) (ow hw 112 rfl) (ow hw 230 rfl) (backOf (W := 0) (rm45 l Z a0 hw [] 1 h0 n0 (by exact Z0) (by omega)) hZ (ow hw 230 rfl) (ow hw 112 rfl) (by decide) (by decide)) (by decide) e0 pd_14 (od dB44 1 rfl) rfl rfl rfl rfl rfl (by decide) (by decide) fun _ T293 Lc293 X293 hQ293 => ?_
  obtain ⟨x293, kx293, rfl, N293q, K293, gn293, gk293, Ex293, Aq293⟩ := hQ293
  have ne293_ca : ca ≠ x293 := Nat.ne_of_lt (Nat.lt_of_lt_of_le Ac.lt gk293)
  have N293 := Fr.app N0 N293q
  show own_Fin p e below _ (T293.setTop (mkF m 4 #[.val (.ref ca), .val (.int (0 : Int32)), .val (.int (1 : Int32)), .unset, .unset] [(.ref x293)]))
  refine o_astN X293 H (od dB44 2 rfl) (L' := #[.val (.ref ca), .val (.int (0 : Int32)), .val (.int (1 : Int32)), .val (.ref x293), .unset]) rfl rfl ?_
  refine o_ic X293 H (od dB44 3 rfl) (v := 0) rfl ?_
  refine o_ist X293 H (od dB44 4 rfl) (L' := #[.val (.ref ca), .val (.int (0 : Int32)), .val (.int (1 : Int32)), .val (.ref x293), .val (.int (0 : Int32))]) rfl ?_
  refine o_ild X293 H (od dB44 5 rfl) rfl ?_
  refine o_ildN X293 H (od dB44 6 rfl) rfl ?_
  refine o_icN X293 H (od dB44 7 rfl) (tlt (by decide : (0 : Int32) < (1 : Int32))).2.1 ?_
  refine o_aldN X293 H (od dB44 8 rfl) rfl rfl ?_
  refine o_ild X293 H (od dB44 9 rfl) rfl ?_
  refine o_aldN X293 H (od dB44 10 rfl) rfl rfl ?_
  refine o_ildN X293 H (od dB44 11 rfl) rfl ?_
  have cp294 := (Ac.keep K293 nin0)
  obtain ⟨cl294, Ar294, q294, S294, G294, H294, F294⟩ := cp294
  have hin294 : ¬ ((0 : Int32) < 0 ∨ cl294.slots.size ≤ ((0 : Int32)).toNatClampNeg) := inb_of S294 ⟨by decide, by decide⟩
  have hat294 : cl294.slots[((0 : Int32)).toNatClampNeg]? = some (.int c0) := H294.at hin294 rfl
  refine own_on (fun tq => X293.caload hx (j := (0 : Int32)) (v := (.int c0)) Ar294.1 (State.isArrayOf_alike hZ.alike Ar294.2.1) Ar294.2.2 hin294 hat294 (g := (mkF m 19 #[.val (.ref ca), .val (.int (0 : Int32)), .val (.int (1 : Int32)), .val (.ref x293), .val (.int (0 : Int32))] [(.int (0 : Int32)), (.ref ca), (.int (0 : Int32)), (.ref x293)])) rfl rfl (hb hby (od dB44 12 rfl)) tq) ?_
  show own_Fin p e below _ (T293.setTop (mkF m 20 #[.val (.ref ca), .val (.int (0 : Int32)), .val (.int (1 : Int32)), .val (.ref x293), .val (.int (0 : Int32))] [(.int c0), (.int (0 : Int32)), (.ref x293)]))
  refine o_tc (argsL := [(.ref x293), (.int (0 : Int32)), (.int c0)]) (rest := []) X293 H hml hZ hown (ow hw 235 rfl) (ow hw 236 rfl) (ow hw 112 rfl) (ow hw 237 rfl) (backOf (W := 0) (rm47 l Z a0 hw [] x293 c0 kx293 1 ([] : List Int32) 0 z fm T293.heap n0 (by exact (Nat.le_trans Z0 K293.1)) ⟨hz, (O.keep K293 all0), SC, SA, SH, SL, SF, hfm⟩ Aq293 gn293 rfl (by omega) (by omega)) hZ (ow hw 237 rfl) (ow hw 112 rfl) (by decide) (by decide)) (by decide) rfl pd_6 (od dB44 13 rfl) rfl rfl rfl rfl rfl (by decide) (by decide) fun _ T295 Lc295 X295 hQ295 => ?_
  obtain ⟨rfl, N295q, K295, Aq295⟩ := hQ295
  have N295 := Fr.app N293 N295q
  show own_Fin p e below _ (T295.setTop (mkF m 23 #[.val (.ref ca), .val (.int (0 : Int32)), .val (.int (1 : Int32)), .val (.ref x293), .val (.int (0 : Int32))] []))
  refine own_on (fun tq => XS.iinc X295.here hx rfl (hb hby (od dB44 14 rfl)) rfl (l' := #[.val (.ref ca), .val (.int (1 : Int32)), .val (.int (1 : Int32)), .val (.ref x293), .val (.int (0 : Int32))]) rfl) ?_
  show own_Fin p e below _ (T295.setTop (mkF m 26 #[.val (.ref ca), .val (.int (1 : Int32)), .val (.int (1 : Int32)), .val (.ref x293), .val (.int (0 : Int32))] []))
  refine own_on (fun tq => XS.iinc X295.here hx rfl (hb hby (od dB44 15 rfl)) rfl (l' := #[.val (.ref ca), .val (.int (1 : Int32)), .val (.int (1 : Int32)), .val (.ref x293), .val (.int (1 : Int32))]) rfl) ?_
  show own_Fin p e below _ (T295.setTop (mkF m 29 #[.val (.ref ca), .val (.int (1 : Int32)), .val (.int (1 : Int32)), .val (.ref x293), .val (.int (1 : Int32))] []))
  refine o_go X295 H (od dB44 16 rfl) (pc' := 8) (by decide) (by decide) ?_
  refine o_ild X295 H (od dB44 5 rfl) rfl ?_
  refine o_ildN X295 H (od dB44 6 rfl) rfl ?_
  refine o_icY X295 H (od dB44 7 rfl) (flt (by decide : ¬ ((1 : Int32) < (1 : Int32)))).2.1 (pc' := 32) (by decide) (by decide) ?_
  refine o_aldN X295 H (od dB44 17 rfl) rfl rfl ?_
  exact own_ret (t := (.array .byte)) X295 hx hlk hret rfl (Or.inr (Or.inr (Or.inr (Or.inr ⟨rfl, rfl, rfl⟩)))) (hb hby (od dB44 18 rfl)) (by show QTb1 Z ca ka c0 z fm h0 n0 _ T295.heap _; exact ⟨x293, kx293, rfl, N295, (((Keep.refl h0 []).trans K293 all0).trans K295 (allS (Or.inr (Nat.le_trans (Keep.refl h0 []).1 gk293)) all0)), gn293, (Nat.le_trans (Keep.refl h0 []).1 gk293), (Ex293.keep K295), Aq295⟩) (by decide) (by decide)
theorem ef_rmTb2 (m : MethodId) (x0 : Addr) (x1 : Int32) (x2 : Int32) : entryFrame m #[(.ref x0), (.int x1), (.int x2)] 5 = mkF m 0 #[.val (.ref x0), .val (.int x1), .val (.int x2), .unset, .unset] [] := by first | (simp [entryFrame, mkF, argsToLocals, Value.category]; done) | rfl
def QTb2 (Z : State) (ca : Addr) (ka : ClassId) (c0 : Int32) (c1 : Int32) (z : Int32) (fm : Value) (h0 : Heap) (n0 : Nat) (v : Option Value) (h : Heap) (L : List Loc) : Prop := ∃ (x : Addr) (kx : ClassId), v = some (.ref x) ∧ Fr n0 L ∧ Keep h0 h [] ∧ n0 ≤ x ∧ h0.size ≤ x ∧ Exa Z h x "[B" ∧ Arv Z h x kx .byte (Int32.ofNat (2 * 2)) (StrChars.Road.wideBytes [c0, c1]) (.int 0)
set_option maxRecDepth 65536 in
set_option maxHeartbeats 40000000 in
theorem rmTb2 (l : Launch) (Z : State) (a0 : Array Value) (hw : ∀ d ∈ tables_1, d.before a0 Z = true) (ws : List Jvm.Cond) (ca : Addr) (ka : ClassId) (c0 : Int32) (c1 : Int32) (z : Int32) (fm : Value) (h0 : Heap) (n0 : Nat) (Z0 : n0 ≤ h0.size) (PU : own_PU Z n0 h0 z fm) (Ac : Arv Z h0 ca ka .char (2 : Int32) [(.int c0), (.int c1)] (.int 0)) :
    own_M l (⟨"java/lang/StringUTF16", "toBytes", "([CII)[B"⟩ : MethodName) jdk_52_method_14_code 5 (some (.array .byte)) ws ({ frames := 2, cells := 1, slots := 72, locals := 24 } : Room) #[(.ref ca), (.int (0 : Int32)), (.int (2 : Int32))] Z h0 (QTb2 Z ca ka c0 c1 z fm h0 n0) := by
  refine MetFree.of_bodySF (plainFor_of_name pn_2) hisR ?_
  intro p e s m args below meth cd s₁ Bd hml hP hK
  obtain ⟨rfl, hZ, hh⟩ := hP
  obtain ⟨X0, e0, H, hlk, hown, hret⟩ := own_start (R := ({ frames := 2, cells := 1, slots := 72, locals := 24 } : Room)) Bd hh rfl
  have hx := H.1; have hby := H.2; have N0 := Fr.nil n0
  obtain ⟨hz, O, SC, SA, SH, SL, SF, hfm⟩ := PU
  show own_Fin p e below (own_Ans s (QTb2 Z ca ka c0 c1 z fm h0 n0) ({ frames := 2, cells := 1, slots := 72, locals := 24 } : Room).cells ({ frames := 2, cells := 1, slots := 72, locals := 24 } : Room).slots) (s₁.setTop (entryFrame m #[(.ref ca), (.int (0 : Int32)), (.int (2 : Int32))] 5))
  refine own_cast (ef_rmTb2 m ca (0 : Int32) (2 : Int32)) ?_
  show own_Fin p e below _ (s₁.setTop (mkF m 0 #[.val (.ref ca), .val (.int (0 : Int32)), .val (.int (2 : Int32)), .unset, .unset] []))
  refine o_ildN X0 H (od dB44 0 rfl) rfl ?_
  refine o_tc (argsL := [(.int (2 : Int32))]) (rest := []) X0 H hml hZ hown (ow hw 228 rfl) (ow hw 229 rfl) (ow hw 112 rfl) (ow hw 230 rfl) (backOf (W := 0) (rm45 l Z a0 hw [] 2 h0 n0 (by exact Z0) (by omega)) hZ (ow hw 230 rfl) (ow hw 112 rfl) (by decide) (by decide)) (by decide) e0 pd_14 (od dB44 1 rfl) rfl rfl rfl rfl rfl (by decide) (by decide) fun _ T296 Lc296 X296 hQ296 => ?_
  obtain ⟨x296, kx296, rfl, N296q, K296, gn296, gk296, Ex296, Aq296⟩ := hQ296
  have ne296_ca : ca ≠ x296 := Nat.ne_of_lt (Nat.lt_of_lt_of_le Ac.lt gk296)
  have N296 := Fr.app N0 N296q
  show own_Fin p e below _ (T296.setTop (mkF m 4 #[.val (.ref ca), .val (.int (0 : Int32)), .val (.int (2 : Int32)), .unset, .unset] [(.ref x296)]))
  refine o_astN X296 H (od dB44 2 rfl) (L' := #[.val (.ref ca), .val (.int (0 : Int32)), .val (.int (2 : Int32)), .val (.ref x296), .unset]) rfl rfl ?_
  refine o_ic X296 H (od dB44 3 rfl) (v := 0) rfl ?_
  refine o_ist X296 H (od dB44 4 rfl) (L' := #[.val (.ref ca), .val (.int (0 : Int32)), .val (.int (2 : Int32)), .val (.ref x296), .val (.int (0 : Int32))]) rfl ?_
  refine o_ild X296 H (od dB44 5 rfl) rfl ?_
  refine o_ildN X296 H (od dB44 6 rfl) rfl ?_
  refine o_icN X296 H (od dB44 7 rfl) (tlt (by decide : (0 : Int32) < (2 : Int32))).2.1 ?_
  refine o_aldN X296 H (od dB44 8 rfl) rfl rfl ?_
  refine o_ild X296 H (od dB44 9 rfl) rfl ?_
  refine o_aldN X296 H (od dB44 10 rfl) rfl rfl ?_
  refine o_ildN X296 H (od dB44 11 rfl) rfl ?_
  have cp297 := (Ac.keep K296 nin0)
  obtain ⟨cl297, Ar297, q297, S297, G297, H297, F297⟩ := cp297
  have hin297 : ¬ ((0 : Int32) < 0 ∨ cl297.slots.size ≤ ((0 : Int32)).toNatClampNeg) := inb_of S297 ⟨by decide, by decide⟩
  have hat297 : cl297.slots[((0 : Int32)).toNatClampNeg]? = some (.int c0) := H297.at hin297 rfl
  refine own_on (fun tq => X296.caload hx (j := (0 : Int32)) (v := (.int c0)) Ar297.1 (State.isArrayOf_alike hZ.alike Ar297.2.1) Ar297.2.2 hin297 hat297 (g := (mkF m 19 #[.val (.ref ca), .val (.int (0 : Int32)), .val (.int (2 : Int32)), .val (.ref x296), .val (.int (0 : Int32))] [(.int (0 : Int32)), (.ref ca), (.int (0 : Int32)), (.ref x296)])) rfl rfl (hb hby (od dB44 12 rfl)) tq) ?_
  show own_Fin p e below _ (T296.setTop (mkF m 20 #[.val (.ref ca), .val (.int (0 : Int32)), .val (.int (2 : Int32)), .val (.ref x296), .val (.int (0 : Int32))] [(.int c0), (.int (0 : Int32)), (.ref x296)]))
  refine o_tc (argsL := [(.ref x296), (.int (0 : Int32)), (.int c0)]) (rest := []) X296 H hml hZ hown (ow hw 235 rfl) (ow hw 236 rfl) (ow hw 112 rfl) (ow hw 237 rfl) (backOf (W := 0) (rm47 l Z a0 hw [] x296 c0 kx296 2 ([] : List Int32) 0 z fm T296.heap n0 (by exact (Nat.le_trans Z0 K296.1)) ⟨hz, (O.keep K296 all0), SC, SA, SH, SL, SF, hfm⟩ Aq296 gn296 rfl (by omega) (by omega)) hZ (ow hw 237 rfl) (ow hw 112 rfl) (by decide) (by decide)) (by decide) rfl pd_6 (od dB44 13 rfl) rfl rfl rfl rfl rfl (by decide) (by decide) fun _ T298 Lc298 X298 hQ298 => ?_
  obtain ⟨rfl, N298q, K298, Aq298⟩ := hQ298
  have N298 := Fr.app N296 N298q
  show own_Fin p e below _ (T298.setTop (mkF m 23 #[.val (.ref ca), .val (.int (0 : Int32)), .val (.int (2 : Int32)), .val (.ref x296), .val (.int (0 : Int32))] []))
  refine own_on (fun tq => XS.iinc X298.here hx rfl (hb hby (od dB44 14 rfl)) rfl (l' := #[.val (.ref ca), .val (.int (1 : Int32)), .val (.int (2 : Int32)), .val (.ref x296), .val (.int (0 : Int32))]) rfl) ?_
  show own_Fin p e below _ (T298.setTop (mkF m 26 #[.val (.ref ca), .val (.int (1 : Int32)), .val (.int (2 : Int32)), .val (.ref x296), .val (.int (0 : Int32))] []))
  refine own_on (fun tq => XS.iinc X298.here hx rfl (hb hby (od dB44 15 rfl)) rfl (l' := #[.val (.ref ca), .val (.int (1 : Int32)), .val (.int (2 : Int32)), .val (.ref x296), .val (.int (1 : Int32))]) rfl) ?_
  show own_Fin p e below _ (T298.setTop (mkF m 29 #[.val (.ref ca), .val (.int (1 : Int32)), .val (.int (2 : Int32)), .val (.ref x296), .val (.int (1 : Int32))] []))
  refine o_go X298 H (od dB44 16 rfl) (pc' := 8) (by decide) (by decide) ?_
  refine o_ild X298 H (od dB44 5 rfl) rfl ?_
  refine o_ildN X298 H (od dB44 6 rfl) rfl ?_
  refine o_icN X298 H (od dB44 7 rfl) (tlt (by decide : (1 : Int32) < (2 : Int32))).2.1 ?_
  refine o_aldN X298 H (od dB44 8 rfl) rfl rfl ?_
  refine o_ild X298 H (od dB44 9 rfl) rfl ?_
  refine o_aldN X298 H (od dB44 10 rfl) rfl rfl ?_
  refine o_ildN X298 H (od dB44 11 rfl) rfl ?_
  have cp299 := ((Ac.keep K296 nin0).keep K298 (ninS ne296_ca nin0))
  obtain ⟨cl299, Ar299, q299, S299, G299, H299, F299⟩ := cp299
  have hin299 : ¬ ((1 : Int32) < 0 ∨ cl299.slots.size ≤ ((1 : Int32)).toNatClampNeg) := inb_of S299 ⟨by decide, by decide⟩
  have hat299 : cl299.slots[((1 : Int32)).toNatClampNeg]? = some (.int c1) := H299.at hin299 rfl
  refine own_on (fun tq => X298.caload hx (j := (1 : Int32)) (v := (.int c1)) Ar299.1 (State.isArrayOf_alike hZ.alike Ar299.2.1) Ar299.2.2 hin299 hat299 (g := (mkF m 19 #[.val (.ref ca), .val (.int (1 : Int32)), .val (.int (2 : Int32)), .val (.ref x296), .val (.int (1 : Int32))] [(.int (1 : Int32)), (.ref ca), (.int (1 : Int32)), (.ref x296)])) rfl rfl (hb hby (od dB44 12 rfl)) tq) ?_
  show own_Fin p e below _ (T298.setTop (mkF m 20 #[.val (.ref ca), .val (.int (1 : Int32)), .val (.int (2 : Int32)), .val (.ref x296), .val (.int (1 : Int32))] [(.int c1), (.int (1 : Int32)), (.ref x296)]))
  refine o_tc (argsL := [(.ref x296), (.int (1 : Int32)), (.int c1)]) (rest := []) X298 H hml hZ hown (ow hw 235 rfl) (ow hw 236 rfl) (ow hw 112 rfl) (ow hw 237 rfl) (backOf (W := 0) (rm47 l Z a0 hw [] x296 c1 kx296 2 (([] : List Int32) ++ [c0]) 1 z fm T298.heap n0 (by exact (Nat.le_trans (Nat.le_trans Z0 K296.1) K298.1)) ⟨hz, ((O.keep K296 all0).keep K298 (allS gn296 all0)), SC, SA, SH, SL, SF, hfm⟩ Aq298 gn296 rfl (by omega) (by omega)) hZ (ow hw 237 rfl) (ow hw 112 rfl) (by decide) (by decide)) (by decide) rfl pd_6 (od dB44 13 rfl) rfl rfl rfl rfl rfl (by decide) (by decide) fun _ T300 Lc300 X300 hQ300 => ?_
  obtain ⟨rfl, N300q, K300, Aq300⟩ := hQ300
  have N300 := Fr.app N298 N300q
  have y301 := ((((Keep.refl h0 []).trans K296 all0).trans K298 (allS (Or.inr (Nat.le_trans (Keep.refl h0 []).1 gk296)) all0)).trans K300 (allS (Or.inr (Nat.le_trans (Keep.refl h0 []).1 gk296)) all0))
  show own_Fin p e below _ (T300.setTop (mkF m 23 #[.val (.ref ca), .val (.int (1 : Int32)), .val (.int (2 : Int32)), .val (.ref x296), .val (.int (1 : Int32))] []))
  refine own_on (fun tq => XS.iinc X300.here hx rfl (hb hby (od dB44 14 rfl)) rfl (l' := #[.val (.ref ca), .val (.int (2 : Int32)), .val (.int (2 : Int32)), .val (.ref x296), .val (.int (1 : Int32))]) rfl) ?_
  show own_Fin p e below _ (T300.setTop (mkF m 26 #[.val (.ref ca), .val (.int (2 : Int32)), .val (.int (2 : Int32)), .val (.ref x296), .val (.int (1 : Int32))] []))
  refine own_on (fun tq => XS.iinc X300.here hx rfl (hb hby (od dB44 15 rfl)) rfl (l' := #[.val (.ref ca), .val (.int (2 : Int32)), .val (.int (2 : Int32)), .val (.ref x296), .val (.int (2 : Int32))]) rfl) ?_
  show own_Fin p e below _ (T300.setTop (mkF m 29 #[.val (.ref ca), .val (.int (2 : Int32)), .val (.int (2 : Int32)), .val (.ref x296), .val (.int (2 : Int32))] []))
  refine o_go X300 H (od dB44 16 rfl) (pc' := 8) (by decide) (by decide) ?_
  refine o_ild X300 H (od dB44 5 rfl) rfl ?_
  refine o_ildN X300 H (od dB44 6 rfl) rfl ?_
  refine o_icY X300 H (od dB44 7 rfl) (flt (by decide : ¬ ((2 : Int32) < (2 : Int32)))).2.1 (pc' := 32) (by decide) (by decide) ?_
  refine o_aldN X300 H (od dB44 17 rfl) rfl rfl ?_
  exact own_ret (t := (.array .byte)) X300 hx hlk hret rfl (Or.inr (Or.inr (Or.inr (Or.inr ⟨rfl, rfl, rfl⟩)))) (hb hby (od dB44 18 rfl)) (by show QTb2 Z ca ka c0 c1 z fm h0 n0 _ T300.heap _; exact ⟨x296, kx296, rfl, N300, y301, gn296, (Nat.le_trans (Keep.refl h0 []).1 gk296), ((Ex296.keep K298).keep K300), Aq300⟩) (by decide) (by decide)
theorem ef_rmTb3 (m : MethodId) (x0 : Addr) (x1 : Int32) (x2 : Int32) : entryFrame m #[(.ref x0), (.int x1), (.int x2)] 5 = mkF m 0 #[.val (.ref x0), .val (.int x1), .val (.int x2), .unset, .unset] [] := by first | (simp [entryFrame, mkF, argsToLocals, Value.category]; done) | rfl
def QTb3 (Z : State) (ca : Addr) (ka : ClassId) (c0 : Int32) (c1 : Int32) (c2 : Int32) (z : Int32) (fm : Value) (h0 : Heap) (n0 : Nat) (v : Option Value) (h : Heap) (L : List Loc) : Prop := ∃ (x : Addr) (kx : ClassId), v = some (.ref x) ∧ Fr n0 L ∧ Keep h0 h [] ∧ n0 ≤ x ∧ h0.size ≤ x ∧ Exa Z h x "[B" ∧ Arv Z h x kx .byte (Int32.ofNat (2 * 3)) (StrChars.Road.wideBytes [c0, c1, c2]) (.int 0)
set_option maxRecDepth 65536 in
set_option maxHeartbeats 40000000 in
theorem rmTb3 (l : Launch) (Z : State) (a0 : Array Value) (hw : ∀ d ∈ tables_1, d.before a0 Z = true) (ws : List Jvm.Cond) (ca : Addr) (ka : ClassId) (c0 : Int32) (c1 : Int32) (c2 : Int32) (z : Int32) (fm : Value) (h0 : Heap) (n0 : Nat) (Z0 : n0 ≤ h0.size) (PU : own_PU Z n0 h0 z fm) (Ac : Arv Z h0 ca ka .char (3 : Int32) [(.int c0), (.int c1), (.int c2)] (.int 0)) :
    own_M l (⟨"java/lang/StringUTF16", "toBytes", "([CII)[B"⟩ : MethodName) jdk_52_method_14_code 5 (some (.array .byte)) ws ({ frames := 2, cells := 1, slots := 72, locals := 24 } : Room) #[(.ref ca), (.int (0 : Int32)), (.int (3 : Int32))] Z h0 (QTb3 Z ca ka c0 c1 c2 z fm h0 n0) := by
  refine MetFree.of_bodySF (plainFor_of_name pn_2) hisR ?_
  intro p e s m args below meth cd s₁ Bd hml hP hK
  obtain ⟨rfl, hZ, hh⟩ := hP
  obtain ⟨X0, e0, H, hlk, hown, hret⟩ := own_start (R := ({ frames := 2, cells := 1, slots := 72, locals := 24 } : Room)) Bd hh rfl
  have hx := H.1; have hby := H.2; have N0 := Fr.nil n0
  obtain ⟨hz, O, SC, SA, SH, SL, SF, hfm⟩ := PU
  show own_Fin p e below (own_Ans s (QTb3 Z ca ka c0 c1 c2 z fm h0 n0) ({ frames := 2, cells := 1, slots := 72, locals := 24 } : Room).cells ({ frames := 2, cells := 1, slots := 72, locals := 24 } : Room).slots) (s₁.setTop (entryFrame m #[(.ref ca), (.int (0 : Int32)), (.int (3 : Int32))] 5))
  refine own_cast (ef_rmTb3 m ca (0 : Int32) (3 : Int32)) ?_
  show own_Fin p e below _ (s₁.setTop (mkF m 0 #[.val (.ref ca), .val (.int (0 : Int32)), .val (.int (3 : Int32)), .unset, .unset] []))
  refine o_ildN X0 H (od dB44 0 rfl) rfl ?_
  refine o_tc (argsL := [(.int (3 : Int32))]) (rest := []) X0 H hml hZ hown (ow hw 228 rfl) (ow hw 229 rfl) (ow hw 112 rfl) (ow hw 230 rfl) (backOf (W := 0) (rm45 l Z a0 hw [] 3 h0 n0 (by exact Z0) (by omega)) hZ (ow hw 230 rfl) (ow hw 112 rfl) (by decide) (by decide)) (by decide) e0 pd_14 (od dB44 1 rfl) rfl rfl rfl rfl rfl (by decide) (by decide) fun _ T302 Lc302 X302 hQ302 => ?_
  obtain ⟨x302, kx302, rfl, N302q, K302, gn302, gk302, Ex302, Aq302⟩ := hQ302
  have ne302_ca : ca ≠ x302 := Nat.ne_of_lt (Nat.lt_of_lt_of_le Ac.lt gk302)
  have N302 := Fr.app N0 N302q
  show own_Fin p e below _ (T302.setTop (mkF m 4 #[.val (.ref ca), .val (.int (0 : Int32)), .val (.int (3 : Int32)), .unset, .unset] [(.ref x302)]))
  refine o_astN X302 H (od dB44 2 rfl) (L' := #[.val (.ref ca), .val (.int (0 : Int32)), .val (.int (3 : Int32)), .val (.ref x302), .unset]) rfl rfl ?_
  refine o_ic X302 H (od dB44 3 rfl) (v := 0) rfl ?_
  refine o_ist X302 H (od dB44 4 rfl) (L' := #[.val (.ref ca), .val (.int (0 : Int32)), .val (.int (3 : Int32)), .val (.ref x302), .val (.int (0 : Int32))]) rfl ?_
  refine o_ild X302 H (od dB44 5 rfl) rfl ?_
  refine o_ildN X302 H (od dB44 6 rfl) rfl ?_
  refine o_icN X302 H (od dB44 7 rfl) (tlt (by decide : (0 : Int32) < (3 : Int32))).2.1 ?_
  refine o_aldN X302 H (od dB44 8 rfl) rfl rfl ?_
  refine o_ild X302 H (od dB44 9 rfl) rfl ?_
  refine o_aldN X302 H (od dB44 10 rfl) rfl rfl ?_
  refine o_ildN X302 H (od dB44 11 rfl) rfl ?_
  have cp303 := (Ac.keep K302 nin0)
  obtain ⟨cl303, Ar303, q303, S303, G303, H303, F303⟩ := cp303
  have hin303 : ¬ ((0 : Int32) < 0 ∨ cl303.slots.size ≤ ((0 : Int32)).toNatClampNeg) := inb_of S303 ⟨by decide, by decide⟩
  have hat303 : cl303.slots[((0 : Int32)).toNatClampNeg]? = some (.int c0) := H303.at hin303 rfl
  refine own_on (fun tq => X302.caload hx (j := (0 : Int32)) (v := (.int c0)) Ar303.1 (State.isArrayOf_alike hZ.alike Ar303.2.1) Ar303.2.2 hin303 hat303 (g := (mkF m 19 #[.val (.ref ca), .val (.int (0 : Int32)), .val (.int (3 : Int32)), .val (.ref x302), .val (.int (0 : Int32))] [(.int (0 : Int32)), (.ref ca), (.int (0 : Int32)), (.ref x302)])) rfl rfl (hb hby (od dB44 12 rfl)) tq) ?_
  show own_Fin p e below _ (T302.setTop (mkF m 20 #[.val (.ref ca), .val (.int (0 : Int32)), .val (.int (3 : Int32)), .val (.ref x302), .val (.int (0 : Int32))] [(.int c0), (.int (0 : Int32)), (.ref x302)]))
  refine o_tc (argsL := [(.ref x302), (.int (0 : Int32)), (.int c0)]) (rest := []) X302 H hml hZ hown (ow hw 235 rfl) (ow hw 236 rfl) (ow hw 112 rfl) (ow hw 237 rfl) (backOf (W := 0) (rm47 l Z a0 hw [] x302 c0 kx302 3 ([] : List Int32) 0 z fm T302.heap n0 (by exact (Nat.le_trans Z0 K302.1)) ⟨hz, (O.keep K302 all0), SC, SA, SH, SL, SF, hfm⟩ Aq302 gn302 rfl (by omega) (by omega)) hZ (ow hw 237 rfl) (ow hw 112 rfl) (by decide) (by decide)) (by decide) rfl pd_6 (od dB44 13 rfl) rfl rfl rfl rfl rfl (by decide) (by decide) fun _ T304 Lc304 X304 hQ304 => ?_
  obtain ⟨rfl, N304q, K304, Aq304⟩ := hQ304
  have N304 := Fr.app N302 N304q
  show own_Fin p e below _ (T304.setTop (mkF m 23 #[.val (.ref ca), .val (.int (0 : Int32)), .val (.int (3 : Int32)), .val (.ref x302), .val (.int (0 : Int32))] []))
  refine own_on (fun tq => XS.iinc X304.here hx rfl (hb hby (od dB44 14 rfl)) rfl (l' := #[.val (.ref ca), .val (.int (1 : Int32)), .val (.int (3 : Int32)), .val (.ref x302), .val (.int (0 : Int32))]) rfl) ?_
  show own_Fin p e below _ (T304.setTop (mkF m 26 #[.val (.ref ca), .val (.int (1 : Int32)), .val (.int (3 : Int32)), .val (.ref x302), .val (.int (0 : Int32))] []))
  refine own_on (fun tq => XS.iinc X304.here hx rfl (hb hby (od dB44 15 rfl)) rfl (l' := #[.val (.ref ca), .val (.int (1 : Int32)), .val (.int (3 : Int32)), .val (.ref x302), .val (.int (1 : Int32))]) rfl) ?_
  show own_Fin p e below _ (T304.setTop (mkF m 29 #[.val (.ref ca), .val (.int (1 : Int32)), .val (.int (3 : Int32)), .val (.ref x302), .val (.int (1 : Int32))] []))
  refine o_go X304 H (od dB44 16 rfl) (pc' := 8) (by decide) (by decide) ?_
  refine o_ild X304 H (od dB44 5 rfl) rfl ?_
  refine o_ildN X304 H (od dB44 6 rfl) rfl ?_
  refine o_icN X304 H (od dB44 7 rfl) (tlt (by decide : (1 : Int32) < (3 : Int32))).2.1 ?_
  refine o_aldN X304 H (od dB44 8 rfl) rfl rfl ?_
  refine o_ild X304 H (od dB44 9 rfl) rfl ?_
  refine o_aldN X304 H (od dB44 10 rfl) rfl rfl ?_
  refine o_ildN X304 H (od dB44 11 rfl) rfl ?_
  have cp305 := ((Ac.keep K302 nin0).keep K304 (ninS ne302_ca nin0))
  obtain ⟨cl305, Ar305, q305, S305, G305, H305, F305⟩ := cp305
  have hin305 : ¬ ((1 : Int32) < 0 ∨ cl305.slots.size ≤ ((1 : Int32)).toNatClampNeg) := inb_of S305 ⟨by decide, by decide⟩
  have hat305 : cl305.slots[((1 : Int32)).toNatClampNeg]? = some (.int c1) := H305.at hin305 rfl
  refine own_on (fun tq => X304.caload hx (j := (1 : Int32)) (v := (.int c1)) Ar305.1 (State.isArrayOf_alike hZ.alike Ar305.2.1) Ar305.2.2 hin305 hat305 (g := (mkF m 19 #[.val (.ref ca), .val (.int (1 : Int32)), .val (.int (3 : Int32)), .val (.ref x302), .val (.int (1 : Int32))] [(.int (1 : Int32)), (.ref ca), (.int (1 : Int32)), (.ref x302)])) rfl rfl (hb hby (od dB44 12 rfl)) tq) ?_
  show own_Fin p e below _ (T304.setTop (mkF m 20 #[.val (.ref ca), .val (.int (1 : Int32)), .val (.int (3 : Int32)), .val (.ref x302), .val (.int (1 : Int32))] [(.int c1), (.int (1 : Int32)), (.ref x302)]))
  refine o_tc (argsL := [(.ref x302), (.int (1 : Int32)), (.int c1)]) (rest := []) X304 H hml hZ hown (ow hw 235 rfl) (ow hw 236 rfl) (ow hw 112 rfl) (ow hw 237 rfl) (backOf (W := 0) (rm47 l Z a0 hw [] x302 c1 kx302 3 (([] : List Int32) ++ [c0]) 1 z fm T304.heap n0 (by exact (Nat.le_trans (Nat.le_trans Z0 K302.1) K304.1)) ⟨hz, ((O.keep K302 all0).keep K304 (allS gn302 all0)), SC, SA, SH, SL, SF, hfm⟩ Aq304 gn302 rfl (by omega) (by omega)) hZ (ow hw 237 rfl) (ow hw 112 rfl) (by decide) (by decide)) (by decide) rfl pd_6 (od dB44 13 rfl) rfl rfl rfl rfl rfl (by decide) (by decide) fun _ T306 Lc306 X306 hQ306 => ?_
  obtain ⟨rfl, N306q, K306, Aq306⟩ := hQ306
  have N306 := Fr.app N304 N306q
  have y307 := ((((Keep.refl h0 []).trans K302 all0).trans K304 (allS (Or.inr (Nat.le_trans (Keep.refl h0 []).1 gk302)) all0)).trans K306 (allS (Or.inr (Nat.le_trans (Keep.refl h0 []).1 gk302)) all0))
  show own_Fin p e below _ (T306.setTop (mkF m 23 #[.val (.ref ca), .val (.int (1 : Int32)), .val (.int (3 : Int32)), .val (.ref x302), .val (.int (1 : Int32))] []))
  refine own_on (fun tq => XS.iinc X306.here hx rfl (hb hby (od dB44 14 rfl)) rfl (l' := #[.val (.ref ca), .val (.int (2 : Int32)), .val (.int (3 : Int32)), .val (.ref x302), .val (.int (1 : Int32))]) rfl) ?_
  show own_Fin p e below _ (T306.setTop (mkF m 26 #[.val (.ref ca), .val (.int (2 : Int32)), .val (.int (3 : Int32)), .val (.ref x302), .val (.int (1 : Int32))] []))
  refine own_on (fun tq => XS.iinc X306.here hx rfl (hb hby (od dB44 15 rfl)) rfl (l' := #[.val (.ref ca), .val (.int (2 : Int32)), .val (.int (3 : Int32)), .val (.ref x302), .val (.int (2 : Int32))]) rfl) ?_
  show own_Fin p e below _ (T306.setTop (mkF m 29 #[.val (.ref ca), .val (.int (2 : Int32)), .val (.int (3 : Int32)), .val (.ref x302), .val (.int (2 : Int32))] []))
  refine o_go X306 H (od dB44 16 rfl) (pc' := 8) (by decide) (by decide) ?_
  refine o_ild X306 H (od dB44 5 rfl) rfl ?_
  refine o_ildN X306 H (od dB44 6 rfl) rfl ?_
  refine o_icN X306 H (od dB44 7 rfl) (tlt (by decide : (2 : Int32) < (3 : Int32))).2.1 ?_
  refine o_aldN X306 H (od dB44 8 rfl) rfl rfl ?_
  refine o_ild X306 H (od dB44 9 rfl) rfl ?_
  refine o_aldN X306 H (od dB44 10 rfl) rfl rfl ?_
  refine o_ildN X306 H (od dB44 11 rfl) rfl ?_
  have cp308 := (((Ac.keep K302 nin0).keep K304 (ninS ne302_ca nin0)).keep K306 (ninS ne302_ca nin0))
  obtain ⟨cl308, Ar308, q308, S308, G308, H308, F308⟩ := cp308
  have hin308 : ¬ ((2 : Int32) < 0 ∨ cl308.slots.size ≤ ((2 : Int32)).toNatClampNeg) := inb_of S308 ⟨by decide, by decide⟩
  have hat308 : cl308.slots[((2 : Int32)).toNatClampNeg]? = some (.int c2) := H308.at hin308 rfl
  refine own_on (fun tq => X306.caload hx (j := (2 : Int32)) (v := (.int c2)) Ar308.1 (State.isArrayOf_alike hZ.alike Ar308.2.1) Ar308.2.2 hin308 hat308 (g := (mkF m 19 #[.val (.ref ca), .val (.int (2 : Int32)), .val (.int (3 : Int32)), .val (.ref x302), .val (.int (2 : Int32))] [(.int (2 : Int32)), (.ref ca), (.int (2 : Int32)), (.ref x302)])) rfl rfl (hb hby (od dB44 12 rfl)) tq) ?_
  show own_Fin p e below _ (T306.setTop (mkF m 20 #[.val (.ref ca), .val (.int (2 : Int32)), .val (.int (3 : Int32)), .val (.ref x302), .val (.int (2 : Int32))] [(.int c2), (.int (2 : Int32)), (.ref x302)]))
  refine o_tc (argsL := [(.ref x302), (.int (2 : Int32)), (.int c2)]) (rest := []) X306 H hml hZ hown (ow hw 235 rfl) (ow hw 236 rfl) (ow hw 112 rfl) (ow hw 237 rfl) (backOf (W := 0) (rm47 l Z a0 hw [] x302 c2 kx302 3 ((([] : List Int32) ++ [c0]) ++ [c1]) 2 z fm T306.heap n0 (by exact (Nat.le_trans (Nat.le_trans (Nat.le_trans Z0 K302.1) K304.1) K306.1)) ⟨hz, (((O.keep K302 all0).keep K304 (allS gn302 all0)).keep K306 (allS gn302 all0)), SC, SA, SH, SL, SF, hfm⟩ Aq306 gn302 rfl (by omega) (by omega)) hZ (ow hw 237 rfl) (ow hw 112 rfl) (by decide) (by decide)) (by decide) rfl pd_6 (od dB44 13 rfl) rfl rfl rfl rfl rfl (by decide) (by decide) fun _ T309 Lc309 X309 hQ309 => ?_
  obtain ⟨rfl, N309q, K309, Aq309⟩ := hQ309
  have N309 := Fr.app N306 N309q
  have y310 := ((((Ac.keep K302 nin0).keep K304 (ninS ne302_ca nin0)).keep K306 (ninS ne302_ca nin0)).keep K309 (ninS ne302_ca nin0))
  show own_Fin p e below _ (T309.setTop (mkF m 23 #[.val (.ref ca), .val (.int (2 : Int32)), .val (.int (3 : Int32)), .val (.ref x302), .val (.int (2 : Int32))] []))
  refine own_on (fun tq => XS.iinc X309.here hx rfl (hb hby (od dB44 14 rfl)) rfl (l' := #[.val (.ref ca), .val (.int (3 : Int32)), .val (.int (3 : Int32)), .val (.ref x302), .val (.int (2 : Int32))]) rfl) ?_
  show own_Fin p e below _ (T309.setTop (mkF m 26 #[.val (.ref ca), .val (.int (3 : Int32)), .val (.int (3 : Int32)), .val (.ref x302), .val (.int (2 : Int32))] []))
  refine own_on (fun tq => XS.iinc X309.here hx rfl (hb hby (od dB44 15 rfl)) rfl (l' := #[.val (.ref ca), .val (.int (3 : Int32)), .val (.int (3 : Int32)), .val (.ref x302), .val (.int (3 : Int32))]) rfl) ?_
  show own_Fin p e below _ (T309.setTop (mkF m 29 #[.val (.ref ca), .val (.int (3 : Int32)), .val (.int (3 : Int32)), .val (.ref x302), .val (.int (3 : Int32))] []))
  refine o_go X309 H (od dB44 16 rfl) (pc' := 8) (by decide) (by decide) ?_
  refine o_ild X309 H (od dB44 5 rfl) rfl ?_
  refine o_ildN X309 H (od dB44 6 rfl) rfl ?_
  refine o_icY X309 H (od dB44 7 rfl) (flt (by decide : ¬ ((3 : Int32) < (3 : Int32)))).2.1 (pc' := 32) (by decide) (by decide) ?_
  refine o_aldN X309 H (od dB44 17 rfl) rfl rfl ?_
  exact own_ret (t := (.array .byte)) X309 hx hlk hret rfl (Or.inr (Or.inr (Or.inr (Or.inr ⟨rfl, rfl, rfl⟩)))) (hb hby (od dB44 18 rfl)) (by show QTb3 Z ca ka c0 c1 c2 z fm h0 n0 _ T309.heap _; exact ⟨x302, kx302, rfl, N309, (y307.trans K309 (allS (Or.inr (Nat.le_trans (Keep.refl h0 []).1 gk302)) all0)), gn302, (Nat.le_trans (Keep.refl h0 []).1 gk302), (((Ex302.keep K304).keep K306).keep K309), Aq309⟩) (by decide) (by decide)
theorem dB19 : oL jdk_52_method_16_code [(0, .iload_n 2, 1), (1, .newarray .byte, 2), (3, .astore_n 3, 1), (4, .aload_n 0, 1), (5, .iload_n 1, 1), (6, .aload_n 3, 1), (7, .iconst 0, 1), (8, .iload_n 2, 1), (9, .invokestatic 115, 3), (12, .istore 4, 2), (14, .iload 4, 2), (16, .iload_n 2, 1), (17, .if_icmp .eq 40, 3), (20, .aload_n 0, 1), (21, .iload_n 1, 1), (22, .iload_n 2, 1), (23, .invokestatic 119, 3), (26, .astore 5, 2), (28, .aload 5, 2), (30, .iload 4, 2), (32, .invokestatic 71, 3), (35, .sipush 255, 3), (38, .if_icmp .gt 16, 3), (41, .aload 5, 2), (43, .iconst 0, 1), (44, .aload_n 3, 1), (45, .iconst 0, 1), (46, .iload_n 2, 1), (47, .invokestatic 123, 3), (50, .iload_n 2, 1), (51, .if_icmp .eq 6, 3), (54, .aload 5, 2), (56, .areturn, 1), (57, .aload_n 3, 1), (58, .areturn, 1)] := by unfold oL; decide +kernel
theorem pd_29 : parseMethodDescriptor "([CI[BII)I" = some ⟨[(.array .char), .int, (.array .byte), .int, .int], some .int⟩ := by decide +kernel
theorem pd_30 : parseMethodDescriptor "([CII)[B" = some ⟨[(.array .char), .int, .int], some (.array .byte)⟩ := by decide +kernel
theorem ef_rmC3_1 (m : MethodId) (x0 : Addr) (x1 : Int32) (x2 : Int32) : entryFrame m #[(.ref x0), (.int x1), (.int x2)] 6 = mkF m 0 #[.val (.ref x0), .val (.int x1), .val (.int x2), .unset, .unset, .unset] [] := by first | (simp [entryFrame, mkF, argsToLocals, Value.category]; done) | rfl
def QC3_1 (Z : State) (ca : Addr) (ka : ClassId) (c0 : Int32) (z : Int32) (fm : Value) (h0 : Heap) (n0 : Nat) (v : Option Value) (h : Heap) (L : List Loc) : Prop := ∃ (x : Addr) (kx : ClassId) (co nx : Int32) (vs : List Value), v = some (.ref x) ∧ Fr n0 L ∧ Keep h0 h [] ∧ n0 ≤ x ∧ h0.size ≤ x ∧ StrChars.Road.CodA [c0] co nx vs ∧ Arv Z h x kx .byte nx vs (.int 0)
set_option maxRecDepth 65536 in
set_option maxHeartbeats 40000000 in
theorem rmC3_1 (l : Launch) (Z : State) (a0 : Array Value) (hw : ∀ d ∈ tables_1, d.before a0 Z = true) (ws : List Jvm.Cond) (ca : Addr) (ka : ClassId) (c0 : Int32) (z : Int32) (fm : Value) (h0 : Heap) (n0 : Nat) (Z0 : n0 ≤ h0.size) (PU : own_PU Z n0 h0 z fm) (Ac : Arv Z h0 ca ka .char (1 : Int32) [(.int c0)] (.int 0)) (r16 : ∀ c ∈ [c0], ¬ c < 0 ∧ ¬ (65535 : Int32) < c) :
    own_M l (⟨"java/lang/StringUTF16", "compress", "([CII)[B"⟩ : MethodName) jdk_52_method_16_code 6 (some (.array .byte)) ws ({ frames := 3, cells := 2, slots := 73, locals := 40 } : Room) #[(.ref ca), (.int (0 : Int32)), (.int (1 : Int32))] Z h0 (QC3_1 Z ca ka c0 z fm h0 n0) := by
  refine MetFree.of_bodySF (plainFor_of_name pn_2) hisR ?_
  intro p e s m args below meth cd s₁ Bd hml hP hK
  obtain ⟨rfl, hZ, hh⟩ := hP
  obtain ⟨X0, e0, H, hlk, hown, hret⟩ := own_start (R := ({ frames := 3, cells := 2, slots := 73, locals := 40 } : Room)) Bd hh rfl
  have hx := H.1; have hby := H.2; have N0 := Fr.nil n0
  obtain ⟨hz, O, SC, SA, SH, SL, SF, hfm⟩ := PU
  show own_Fin p e below (own_Ans s (QC3_1 Z ca ka c0 z fm h0 n0) ({ frames := 3, cells := 2, slots := 73, locals := 40 } : Room).cells ({ frames := 3, cells := 2, slots := 73, locals := 40 } : Room).slots) (s₁.setTop (entryFrame m #[(.ref ca), (.int (0 : Int32)), (.int (1 : Int32))] 6))
  refine own_cast (ef_rmC3_1 m ca (0 : Int32) (1 : Int32)) ?_
  show own_Fin p e below _ (s₁.setTop (mkF m 0 #[.val (.ref ca), .val (.int (0 : Int32)), .val (.int (1 : Int32)), .unset, .unset, .unset] []))
  refine o_ildN X0 H (od dB19 0 rfl) rfl ?_
  obtain ⟨T311, h311, k311, X311, e311, E311, A311, D311, st311⟩ := newPE X0 hx hZ (ow hw 20 rfl) e0 (g := (mkF m 1 #[.val (.ref ca), .val (.int (0 : Int32)), .val (.int (1 : Int32)), .unset, .unset, .unset] [(.int (1 : Int32))])) rfl (hb hby (od dB19 1 rfl)) rfl (by decide) (cap := 1) (by decide) (by decide) (by decide) (by decide) (ad := "[B") (by decide)
  obtain ⟨b311, g311⟩ : ∃ z, z = h0.size := ⟨_, rfl⟩
  rw [← g311] at A311 D311 st311
  have ne311_ca : ca ≠ b311 := own_ne_of (Z := Z) Ac.lt g311
  have gn311 : n0 ≤ b311 := Nat.le_trans Z0 (Nat.le_of_eq g311.symm)
  have gk311 : h0.size ≤ b311 := Nat.le_trans (Keep.refl h0 []).1 (Nat.le_of_eq g311.symm)
  have V311 : Arv Z h311 b311 k311 .byte (1 : Int32) [(.int (0 : Int32))] (.int (0 : Int32)) := (Arv.new A311 (by decide)).pad (pad_rep [] (.int (0 : Int32)) 1)
  refine own_on st311 ?_
  show own_Fin p e below _ (T311.setTop (mkF m 3 #[.val (.ref ca), .val (.int (0 : Int32)), .val (.int (1 : Int32)), .unset, .unset, .unset] [(.ref b311)]))
  refine o_astN X311 H (od dB19 2 rfl) (L' := #[.val (.ref ca), .val (.int (0 : Int32)), .val (.int (1 : Int32)), .val (.ref b311), .unset, .unset]) rfl rfl ?_
  refine o_aldN X311 H (od dB19 3 rfl) rfl rfl ?_
  refine o_ildN X311 H (od dB19 4 rfl) rfl ?_
  refine o_aldN X311 H (od dB19 5 rfl) rfl rfl ?_
  refine o_ic X311 H (od dB19 6 rfl) (v := 0) rfl ?_
  refine o_ildN X311 H (od dB19 7 rfl) rfl ?_
  by_cases w0 : (255 : Int32) < c0
  · refine o_tc (argsL := [(.ref ca), (.int (0 : Int32)), (.ref b311), (.int (0 : Int32)), (.int (1 : Int32))]) (rest := []) X311 H hml hZ hown (ow hw 114 rfl) (ow hw 115 rfl) (ow hw 112 rfl) (ow hw 116 rfl) (backOf (W := 0) (rmC5_1_0 l Z a0 hw [] ca b311 ka k311 c0 h311 n0 (by exact (Nat.le_trans Z0 E311.1)) (Ac.ext E311) V311 gn311 ne311_ca w0) hZ (ow hw 116 rfl) (ow hw 112 rfl) (by decide) (by decide)) (by decide) e311 pd_29 (od dB19 8 rfl) rfl rfl rfl rfl rfl (by decide) (by decide) fun _ T312 Lc312 X312 hQ312 => ?_
    obtain ⟨rfl, N312q, K312⟩ := hQ312
    have N312 := Fr.app N0 N312q
    show own_Fin p e below _ (T312.setTop (mkF m 12 #[.val (.ref ca), .val (.int (0 : Int32)), .val (.int (1 : Int32)), .val (.ref b311), .unset, .unset] [(.int (0 : Int32))]))
    refine o_ist X312 H (od dB19 9 rfl) (L' := #[.val (.ref ca), .val (.int (0 : Int32)), .val (.int (1 : Int32)), .val (.ref b311), .val (.int (0 : Int32)), .unset]) rfl ?_
    refine o_ild X312 H (od dB19 10 rfl) rfl ?_
    refine o_ildN X312 H (od dB19 11 rfl) rfl ?_
    refine o_icN X312 H (od dB19 12 rfl) (feq (by decide : ¬ ((0 : Int32) = (1 : Int32)))).1 ?_
    refine o_aldN X312 H (od dB19 13 rfl) rfl rfl ?_
    refine o_ildN X312 H (od dB19 14 rfl) rfl ?_
    refine o_ildN X312 H (od dB19 15 rfl) rfl ?_
    refine o_tc (argsL := [(.ref ca), (.int (0 : Int32)), (.int (1 : Int32))]) (rest := []) X312 H hml hZ hown (ow hw 225 rfl) (ow hw 226 rfl) (ow hw 112 rfl) (ow hw 227 rfl) (backOf (W := 0) (rmTb1 l Z a0 hw [] ca ka c0 z fm T312.heap n0 (by exact (Nat.le_trans (Nat.le_trans Z0 E311.1) K312.1)) ⟨hz, ((O.ext E311).keep K312 (allS gn311 all0)), SC, SA, SH, SL, SF, hfm⟩ ((Ac.ext E311).keep K312 (ninS ne311_ca nin0))) hZ (ow hw 227 rfl) (ow hw 112 rfl) (by decide) (by decide)) (by decide) rfl pd_30 (od dB19 16 rfl) rfl rfl rfl rfl rfl (by decide) (by decide) fun _ T313 Lc313 X313 hQ313 => ?_
    obtain ⟨x313, kx313, rfl, N313q, K313, gn313, gk313, Ex313, Aq313⟩ := hQ313
    have ne313_ca : ca ≠ x313 := Nat.ne_of_lt (Nat.lt_of_lt_of_le ((Ac.ext E311).keep K312 (ninS ne311_ca nin0)).lt gk313)
    have ne313_b311 : b311 ≠ x313 := Nat.ne_of_lt (Nat.lt_of_lt_of_le (D311.keep K312).lt gk313)
    have N313 := Fr.app N312 N313q
    show own_Fin p e below _ (T313.setTop (mkF m 26 #[.val (.ref ca), .val (.int (0 : Int32)), .val (.int (1 : Int32)), .val (.ref b311), .val (.int (0 : Int32)), .unset] [(.ref x313)]))
    refine o_ast X313 H (od dB19 17 rfl) (L' := #[.val (.ref ca), .val (.int (0 : Int32)), .val (.int (1 : Int32)), .val (.ref b311), .val (.int (0 : Int32)), .val (.ref x313)]) rfl rfl ?_
    refine o_ald X313 H (od dB19 18 rfl) rfl rfl ?_
    refine o_ild X313 H (od dB19 19 rfl) rfl ?_
    refine o_tc (argsL := [(.ref x313), (.int (0 : Int32))]) (rest := []) X313 H hml hZ hown (ow hw 241 rfl) (ow hw 242 rfl) (ow hw 112 rfl) (ow hw 243 rfl) (backOf (W := 0) (rm48 l Z a0 hw [] x313 kx313 1 ([c0]) 0 z fm T313.heap n0 (by exact (Nat.le_trans (Nat.le_trans (Nat.le_trans Z0 E311.1) K312.1) K313.1)) ⟨hz, (((O.ext E311).keep K312 (allS gn311 all0)).keep K313 all0), SC, SA, SH, SL, SF, hfm⟩ Aq313 (Nat.le_of_ble_eq_true rfl) (Nat.le_of_ble_eq_true rfl) (by decide) (r16 _ (List.mem_of_getElem? (i := 0) rfl))) hZ (ow hw 243 rfl) (ow hw 112 rfl) (by decide) (by decide)) (by decide) rfl pd_28 (od dB19 20 rfl) rfl rfl rfl rfl rfl (by decide) (by decide) (o_pk (fun _ _ _ q => q) N313 fun T314 Lc314 X314 N314 e314 => ?_)
    refine o_si X314 H (od dB19 21 rfl) (v := 255) rfl ?_
    refine o_icY X314 H (od dB19 22 rfl) (tlt w0).2.2.1 (pc' := 54) (by decide) (by decide) ?_
    refine o_ald X314 H (od dB19 31 rfl) rfl rfl ?_
    exact own_ret (t := (.array .byte)) X314 hx hlk hret rfl (Or.inr (Or.inr (Or.inr (Or.inr ⟨rfl, rfl, rfl⟩)))) (hb hby (od dB19 32 rfl)) (by show QC3_1 Z ca ka c0 z fm h0 n0 _ T314.heap _; rw [e314]; exact ⟨x313, kx313, _, _, _, rfl, N314, ((((Keep.refl h0 []).ext E311).trans K312 (allS (Or.inr gk311) all0)).trans K313 all0), gn313, (Nat.le_trans (((Keep.refl h0 []).ext E311).trans K312 (allS (Or.inr gk311) all0)).1 gk313), Or.inr ⟨rfl, rfl, rfl, c0, List.mem_of_getElem? (i := 0) rfl, w0⟩, Aq313⟩) (by decide) (by decide)
  · refine o_tc (argsL := [(.ref ca), (.int (0 : Int32)), (.ref b311), (.int (0 : Int32)), (.int (1 : Int32))]) (rest := []) X311 H hml hZ hown (ow hw 114 rfl) (ow hw 115 rfl) (ow hw 112 rfl) (ow hw 116 rfl) (backOf (W := 0) (rmC5_1_1 l Z a0 hw [] ca b311 ka k311 c0 h311 n0 (by exact (Nat.le_trans Z0 E311.1)) (Ac.ext E311) V311 gn311 ne311_ca w0) hZ (ow hw 116 rfl) (ow hw 112 rfl) (by decide) (by decide)) (by decide) e311 pd_29 (od dB19 8 rfl) rfl rfl rfl rfl rfl (by decide) (by decide) fun _ T312 Lc312 X312 hQ312 => ?_
    obtain ⟨rfl, N312q, K312, Aq312⟩ := hQ312
    have N312 := Fr.app N0 N312q
    show own_Fin p e below _ (T312.setTop (mkF m 12 #[.val (.ref ca), .val (.int (0 : Int32)), .val (.int (1 : Int32)), .val (.ref b311), .unset, .unset] [(.int (1 : Int32))]))
    refine o_ist X312 H (od dB19 9 rfl) (L' := #[.val (.ref ca), .val (.int (0 : Int32)), .val (.int (1 : Int32)), .val (.ref b311), .val (.int (1 : Int32)), .unset]) rfl ?_
    refine o_ild X312 H (od dB19 10 rfl) rfl ?_
    refine o_ildN X312 H (od dB19 11 rfl) rfl ?_
    refine o_icY X312 H (od dB19 12 rfl) (teq (by decide : (1 : Int32) = (1 : Int32))).1 (pc' := 57) (by decide) (by decide) ?_
    refine o_aldN X312 H (od dB19 33 rfl) rfl rfl ?_
    exact own_ret (t := (.array .byte)) X312 hx hlk hret rfl (Or.inr (Or.inr (Or.inr (Or.inr ⟨rfl, rfl, rfl⟩)))) (hb hby (od dB19 34 rfl)) (by show QC3_1 Z ca ka c0 z fm h0 n0 _ T312.heap _; exact ⟨b311, k311, _, _, _, rfl, N312, (((Keep.refl h0 []).ext E311).trans K312 (allS (Or.inr gk311) all0)), gn311, gk311, own_cod (cs := [c0]) (n := 1) rfl (List.forall_mem_cons.mpr ⟨w0, fun _ q => nomatch q⟩), Aq312⟩) (by decide) (by decide)
theorem ef_rmC3_2 (m : MethodId) (x0 : Addr) (x1 : Int32) (x2 : Int32) : entryFrame m #[(.ref x0), (.int x1), (.int x2)] 6 = mkF m 0 #[.val (.ref x0), .val (.int x1), .val (.int x2), .unset, .unset, .unset] [] := by first | (simp [entryFrame, mkF, argsToLocals, Value.category]; done) | rfl
def QC3_2 (Z : State) (ca : Addr) (ka : ClassId) (c0 : Int32) (c1 : Int32) (z : Int32) (fm : Value) (h0 : Heap) (n0 : Nat) (v : Option Value) (h : Heap) (L : List Loc) : Prop := ∃ (x : Addr) (kx : ClassId) (co nx : Int32) (vs : List Value), v = some (.ref x) ∧ Fr n0 L ∧ Keep h0 h [] ∧ n0 ≤ x ∧ h0.size ≤ x ∧ StrChars.Road.CodA [c0, c1] co nx vs ∧ Arv Z h x kx .byte nx vs (.int 0)
set_option maxRecDepth 65536 in
set_option maxHeartbeats 40000000 in
theorem rmC3_2 (l : Launch) (Z : State) (a0 : Array Value) (hw : ∀ d ∈ tables_1, d.before a0 Z = true) (ws : List Jvm.Cond) (ca : Addr) (ka : ClassId) (c0 : Int32) (c1 : Int32) (z : Int32) (fm : Value) (h0 : Heap) (n0 : Nat) (Z0 : n0 ≤ h0.size) (PU : own_PU Z n0 h0 z fm) (Ac : Arv Z h0 ca ka .char (2 : Int32) [(.int c0), (.int c1)] (.int 0)) (r16 : ∀ c ∈ [c0, c1], ¬ c < 0 ∧ ¬ (65535 : Int32) < c) :
    own_M l (⟨"java/lang/StringUTF16", "compress", "([CII)[B"⟩ : MethodName) jdk_52_method_16_code 6 (some (.array .byte)) ws ({ frames := 3, cells := 2, slots := 74, locals := 40 } : Room) #[(.ref ca), (.int (0 : Int32)), (.int (2 : Int32))] Z h0 (QC3_2 Z ca ka c0 c1 z fm h0 n0) := by
  refine MetFree.of_bodySF (plainFor_of_name pn_2) hisR ?_
  intro p e s m args below meth cd s₁ Bd hml hP hK
  obtain ⟨rfl, hZ, hh⟩ := hP
  obtain ⟨X0, e0, H, hlk, hown, hret⟩ := own_start (R := ({ frames := 3, cells := 2, slots := 74, locals := 40 } : Room)) Bd hh rfl
  have hx := H.1; have hby := H.2; have N0 := Fr.nil n0
  obtain ⟨hz, O, SC, SA, SH, SL, SF, hfm⟩ := PU
  show own_Fin p e below (own_Ans s (QC3_2 Z ca ka c0 c1 z fm h0 n0) ({ frames := 3, cells := 2, slots := 74, locals := 40 } : Room).cells ({ frames := 3, cells := 2, slots := 74, locals := 40 } : Room).slots) (s₁.setTop (entryFrame m #[(.ref ca), (.int (0 : Int32)), (.int (2 : Int32))] 6))
  refine own_cast (ef_rmC3_2 m ca (0 : Int32) (2 : Int32)) ?_
  show own_Fin p e below _ (s₁.setTop (mkF m 0 #[.val (.ref ca), .val (.int (0 : Int32)), .val (.int (2 : Int32)), .unset, .unset, .unset] []))
  refine o_ildN X0 H (od dB19 0 rfl) rfl ?_
  obtain ⟨T315, h315, k315, X315, e315, E315, A315, D315, st315⟩ := newPE X0 hx hZ (ow hw 20 rfl) e0 (g := (mkF m 1 #[.val (.ref ca), .val (.int (0 : Int32)), .val (.int (2 : Int32)), .unset, .unset, .unset] [(.int (2 : Int32))])) rfl (hb hby (od dB19 1 rfl)) rfl (by decide) (cap := 2) (by decide) (by decide) (by decide) (by decide) (ad := "[B") (by decide)
  obtain ⟨b315, g315⟩ : ∃ z, z = h0.size := ⟨_, rfl⟩
  rw [← g315] at A315 D315 st315
  have ne315_ca : ca ≠ b315 := own_ne_of (Z := Z) Ac.lt g315
  have gn315 : n0 ≤ b315 := Nat.le_trans Z0 (Nat.le_of_eq g315.symm)
  have gk315 : h0.size ≤ b315 := Nat.le_trans (Keep.refl h0 []).1 (Nat.le_of_eq g315.symm)
  have V315 : Arv Z h315 b315 k315 .byte (2 : Int32) [(.int (0 : Int32)), (.int (0 : Int32))] (.int (0 : Int32)) := (Arv.new A315 (by decide)).pad (pad_rep [] (.int (0 : Int32)) 2)
  refine own_on st315 ?_
  show own_Fin p e below _ (T315.setTop (mkF m 3 #[.val (.ref ca), .val (.int (0 : Int32)), .val (.int (2 : Int32)), .unset, .unset, .unset] [(.ref b315)]))
  refine o_astN X315 H (od dB19 2 rfl) (L' := #[.val (.ref ca), .val (.int (0 : Int32)), .val (.int (2 : Int32)), .val (.ref b315), .unset, .unset]) rfl rfl ?_
  refine o_aldN X315 H (od dB19 3 rfl) rfl rfl ?_
  refine o_ildN X315 H (od dB19 4 rfl) rfl ?_
  refine o_aldN X315 H (od dB19 5 rfl) rfl rfl ?_
  refine o_ic X315 H (od dB19 6 rfl) (v := 0) rfl ?_
  refine o_ildN X315 H (od dB19 7 rfl) rfl ?_
  by_cases w0 : (255 : Int32) < c0
  · refine o_tc (argsL := [(.ref ca), (.int (0 : Int32)), (.ref b315), (.int (0 : Int32)), (.int (2 : Int32))]) (rest := []) X315 H hml hZ hown (ow hw 114 rfl) (ow hw 115 rfl) (ow hw 112 rfl) (ow hw 116 rfl) (backOf (W := 0) (rmC5_2_0 l Z a0 hw [] ca b315 ka k315 c0 c1 h315 n0 (by exact (Nat.le_trans Z0 E315.1)) (Ac.ext E315) V315 gn315 ne315_ca w0) hZ (ow hw 116 rfl) (ow hw 112 rfl) (by decide) (by decide)) (by decide) e315 pd_29 (od dB19 8 rfl) rfl rfl rfl rfl rfl (by decide) (by decide) fun _ T316 Lc316 X316 hQ316 => ?_
    obtain ⟨rfl, N316q, K316⟩ := hQ316
    have N316 := Fr.app N0 N316q
    show own_Fin p e below _ (T316.setTop (mkF m 12 #[.val (.ref ca), .val (.int (0 : Int32)), .val (.int (2 : Int32)), .val (.ref b315), .unset, .unset] [(.int (0 : Int32))]))
    refine o_ist X316 H (od dB19 9 rfl) (L' := #[.val (.ref ca), .val (.int (0 : Int32)), .val (.int (2 : Int32)), .val (.ref b315), .val (.int (0 : Int32)), .unset]) rfl ?_
    refine o_ild X316 H (od dB19 10 rfl) rfl ?_
    refine o_ildN X316 H (od dB19 11 rfl) rfl ?_
    refine o_icN X316 H (od dB19 12 rfl) (feq (by decide : ¬ ((0 : Int32) = (2 : Int32)))).1 ?_
    refine o_aldN X316 H (od dB19 13 rfl) rfl rfl ?_
    refine o_ildN X316 H (od dB19 14 rfl) rfl ?_
    refine o_ildN X316 H (od dB19 15 rfl) rfl ?_
    refine o_tc (argsL := [(.ref ca), (.int (0 : Int32)), (.int (2 : Int32))]) (rest := []) X316 H hml hZ hown (ow hw 225 rfl) (ow hw 226 rfl) (ow hw 112 rfl) (ow hw 227 rfl) (backOf (W := 0) (rmTb2 l Z a0 hw [] ca ka c0 c1 z fm T316.heap n0 (by exact (Nat.le_trans (Nat.le_trans Z0 E315.1) K316.1)) ⟨hz, ((O.ext E315).keep K316 (allS gn315 all0)), SC, SA, SH, SL, SF, hfm⟩ ((Ac.ext E315).keep K316 (ninS ne315_ca nin0))) hZ (ow hw 227 rfl) (ow hw 112 rfl) (by decide) (by decide)) (by decide) rfl pd_30 (od dB19 16 rfl) rfl rfl rfl rfl rfl (by decide) (by decide) fun _ T317 Lc317 X317 hQ317 => ?_
    obtain ⟨x317, kx317, rfl, N317q, K317, gn317, gk317, Ex317, Aq317⟩ := hQ317
    have ne317_ca : ca ≠ x317 := Nat.ne_of_lt (Nat.lt_of_lt_of_le ((Ac.ext E315).keep K316 (ninS ne315_ca nin0)).lt gk317)
    have ne317_b315 : b315 ≠ x317 := Nat.ne_of_lt (Nat.lt_of_lt_of_le (D315.keep K316).lt gk317)
    have N317 := Fr.app N316 N317q
    show own_Fin p e below _ (T317.setTop (mkF m 26 #[.val (.ref ca), .val (.int (0 : Int32)), .val (.int (2 : Int32)), .val (.ref b315), .val (.int (0 : Int32)), .unset] [(.ref x317)]))
    refine o_ast X317 H (od dB19 17 rfl) (L' := #[.val (.ref ca), .val (.int (0 : Int32)), .val (.int (2 : Int32)), .val (.ref b315), .val (.int (0 : Int32)), .val (.ref x317)]) rfl rfl ?_
    refine o_ald X317 H (od dB19 18 rfl) rfl rfl ?_
    refine o_ild X317 H (od dB19 19 rfl) rfl ?_
    refine o_tc (argsL := [(.ref x317), (.int (0 : Int32))]) (rest := []) X317 H hml hZ hown (ow hw 241 rfl) (ow hw 242 rfl) (ow hw 112 rfl) (ow hw 243 rfl) (backOf (W := 0) (rm48 l Z a0 hw [] x317 kx317 2 ([c0, c1]) 0 z fm T317.heap n0 (by exact (Nat.le_trans (Nat.le_trans (Nat.le_trans Z0 E315.1) K316.1) K317.1)) ⟨hz, (((O.ext E315).keep K316 (allS gn315 all0)).keep K317 all0), SC, SA, SH, SL, SF, hfm⟩ Aq317 (Nat.le_of_ble_eq_true rfl) (Nat.le_of_ble_eq_true rfl) (by decide) (r16 _ (List.mem_of_getElem? (i := 0) rfl))) hZ (ow hw 243 rfl) (ow hw 112 rfl) (by decide) (by decide)) (by decide) rfl pd_28 (od dB19 20 rfl) rfl rfl rfl rfl rfl (by decide) (by decide) (o_pk (fun _ _ _ q => q) N317 fun T318 Lc318 X318 N318 e318 => ?_)
    refine o_si X318 H (od dB19 21 rfl) (v := 255) rfl ?_
    refine o_icY X318 H (od dB19 22 rfl) (tlt w0).2.2.1 (pc' := 54) (by decide) (by decide) ?_
    refine o_ald X318 H (od dB19 31 rfl) rfl rfl ?_
    exact own_ret (t := (.array .byte)) X318 hx hlk hret rfl (Or.inr (Or.inr (Or.inr (Or.inr ⟨rfl, rfl, rfl⟩)))) (hb hby (od dB19 32 rfl)) (by show QC3_2 Z ca ka c0 c1 z fm h0 n0 _ T318.heap _; rw [e318]; exact ⟨x317, kx317, _, _, _, rfl, N318, ((((Keep.refl h0 []).ext E315).trans K316 (allS (Or.inr gk315) all0)).trans K317 all0), gn317, (Nat.le_trans (((Keep.refl h0 []).ext E315).trans K316 (allS (Or.inr gk315) all0)).1 gk317), Or.inr ⟨rfl, rfl, rfl, c0, List.mem_of_getElem? (i := 0) rfl, w0⟩, Aq317⟩) (by decide) (by decide)
  · by_cases w1 : (255 : Int32) < c1
    · refine o_tc (argsL := [(.ref ca), (.int (0 : Int32)), (.ref b315), (.int (0 : Int32)), (.int (2 : Int32))]) (rest := []) X315 H hml hZ hown (ow hw 114 rfl) (ow hw 115 rfl) (ow hw 112 rfl) (ow hw 116 rfl) (backOf (W := 0) (rmC5_2_1 l Z a0 hw [] ca b315 ka k315 c0 c1 h315 n0 (by exact (Nat.le_trans Z0 E315.1)) (Ac.ext E315) V315 gn315 ne315_ca w0 w1) hZ (ow hw 116 rfl) (ow hw 112 rfl) (by decide) (by decide)) (by decide) e315 pd_29 (od dB19 8 rfl) rfl rfl rfl rfl rfl (by decide) (by decide) fun _ T316 Lc316 X316 hQ316 => ?_
      obtain ⟨rfl, N316q, K316⟩ := hQ316
      have N316 := Fr.app N0 N316q
      show own_Fin p e below _ (T316.setTop (mkF m 12 #[.val (.ref ca), .val (.int (0 : Int32)), .val (.int (2 : Int32)), .val (.ref b315), .unset, .unset] [(.int (1 : Int32))]))
      refine o_ist X316 H (od dB19 9 rfl) (L' := #[.val (.ref ca), .val (.int (0 : Int32)), .val (.int (2 : Int32)), .val (.ref b315), .val (.int (1 : Int32)), .unset]) rfl ?_
      refine o_ild X316 H (od dB19 10 rfl) rfl ?_
      refine o_ildN X316 H (od dB19 11 rfl) rfl ?_
      refine o_icN X316 H (od dB19 12 rfl) (feq (by decide : ¬ ((1 : Int32) = (2 : Int32)))).1 ?_
      refine o_aldN X316 H (od dB19 13 rfl) rfl rfl ?_
      refine o_ildN X316 H (od dB19 14 rfl) rfl ?_
      refine o_ildN X316 H (od dB19 15 rfl) rfl ?_
      refine o_tc (argsL := [(.ref ca), (.int (0 : Int32)), (.int (2 : Int32))]) (rest := []) X316 H hml hZ hown (ow hw 225 rfl) (ow hw 226 rfl) (ow hw 112 rfl) (ow hw 227 rfl) (backOf (W := 0) (rmTb2 l Z a0 hw [] ca ka c0 c1 z fm T316.heap n0 (by exact (Nat.le_trans (Nat.le_trans Z0 E315.1) K316.1)) ⟨hz, ((O.ext E315).keep K316 (allS gn315 all0)), SC, SA, SH, SL, SF, hfm⟩ ((Ac.ext E315).keep K316 (ninS ne315_ca nin0))) hZ (ow hw 227 rfl) (ow hw 112 rfl) (by decide) (by decide)) (by decide) rfl pd_30 (od dB19 16 rfl) rfl rfl rfl rfl rfl (by decide) (by decide) fun _ T319 Lc319 X319 hQ319 => ?_
      obtain ⟨x319, kx319, rfl, N319q, K319, gn319, gk319, Ex319, Aq319⟩ := hQ319
      have ne319_ca : ca ≠ x319 := Nat.ne_of_lt (Nat.lt_of_lt_of_le ((Ac.ext E315).keep K316 (ninS ne315_ca nin0)).lt gk319)
      have ne319_b315 : b315 ≠ x319 := Nat.ne_of_lt (Nat.lt_of_lt_of_le (D315.keep K316).lt gk319)
      have N319 := Fr.app N316 N319q
      show own_Fin p e below _ (T319.setTop (mkF m 26 #[.val (.ref ca), .val (.int (0 : Int32)), .val (.int (2 : Int32)), .val (.ref b315), .val (.int (1 : Int32)), .unset] [(.ref x319)]))
      refine o_ast X319 H (od dB19 17 rfl) (L' := #[.val (.ref ca), .val (.int (0 : Int32)), .val (.int (2 : Int32)), .val (.ref b315), .val (.int (1 : Int32)), .val (.ref x319)]) rfl rfl ?_
      refine o_ald X319 H (od dB19 18 rfl) rfl rfl ?_
      refine o_ild X319 H (od dB19 19 rfl) rfl ?_
      refine o_tc (argsL := [(.ref x319), (.int (1 : Int32))]) (rest := []) X319 H hml hZ hown (ow hw 241 rfl) (ow hw 242 rfl) (ow hw 112 rfl) (ow hw 243 rfl) (backOf (W := 0) (rm48 l Z a0 hw [] x319 kx319 2 ([c0, c1]) 1 z fm T319.heap n0 (by exact (Nat.le_trans (Nat.le_trans (Nat.le_trans Z0 E315.1) K316.1) K319.1)) ⟨hz, (((O.ext E315).keep K316 (allS gn315 all0)).keep K319 all0), SC, SA, SH, SL, SF, hfm⟩ Aq319 (Nat.le_of_ble_eq_true rfl) (Nat.le_of_ble_eq_true rfl) (by decide) (r16 _ (List.mem_of_getElem? (i := 1) rfl))) hZ (ow hw 243 rfl) (ow hw 112 rfl) (by decide) (by decide)) (by decide) rfl pd_28 (od dB19 20 rfl) rfl rfl rfl rfl rfl (by decide) (by decide) (o_pk (fun _ _ _ q => q) N319 fun T320 Lc320 X320 N320 e320 => ?_)
      refine o_si X320 H (od dB19 21 rfl) (v := 255) rfl ?_
      refine o_icY X320 H (od dB19 22 rfl) (tlt w1).2.2.1 (pc' := 54) (by decide) (by decide) ?_
      refine o_ald X320 H (od dB19 31 rfl) rfl rfl ?_
      exact own_ret (t := (.array .byte)) X320 hx hlk hret rfl (Or.inr (Or.inr (Or.inr (Or.inr ⟨rfl, rfl, rfl⟩)))) (hb hby (od dB19 32 rfl)) (by show QC3_2 Z ca ka c0 c1 z fm h0 n0 _ T320.heap _; rw [e320]; exact ⟨x319, kx319, _, _, _, rfl, N320, ((((Keep.refl h0 []).ext E315).trans K316 (allS (Or.inr gk315) all0)).trans K319 all0), gn319, (Nat.le_trans (((Keep.refl h0 []).ext E315).trans K316 (allS (Or.inr gk315) all0)).1 gk319), Or.inr ⟨rfl, rfl, rfl, c1, List.mem_of_getElem? (i := 1) rfl, w1⟩, Aq319⟩) (by decide) (by decide)
    · refine o_tc (argsL := [(.ref ca), (.int (0 : Int32)), (.ref b315), (.int (0 : Int32)), (.int (2 : Int32))]) (rest := []) X315 H hml hZ hown (ow hw 114 rfl) (ow hw 115 rfl) (ow hw 112 rfl) (ow hw 116 rfl) (backOf (W := 0) (rmC5_2_2 l Z a0 hw [] ca b315 ka k315 c0 c1 h315 n0 (by exact (Nat.le_trans Z0 E315.1)) (Ac.ext E315) V315 gn315 ne315_ca w0 w1) hZ (ow hw 116 rfl) (ow hw 112 rfl) (by decide) (by decide)) (by decide) e315 pd_29 (od dB19 8 rfl) rfl rfl rfl rfl rfl (by decide) (by decide) fun _ T316 Lc316 X316 hQ316 => ?_
      obtain ⟨rfl, N316q, K316, Aq316⟩ := hQ316
      have N316 := Fr.app N0 N316q
      show own_Fin p e below _ (T316.setTop (mkF m 12 #[.val (.ref ca), .val (.int (0 : Int32)), .val (.int (2 : Int32)), .val (.ref b315), .unset, .unset] [(.int (2 : Int32))]))
      refine o_ist X316 H (od dB19 9 rfl) (L' := #[.val (.ref ca), .val (.int (0 : Int32)), .val (.int (2 : Int32)), .val (.ref b315), .val (.int (2 : Int32)), .unset]) rfl ?_
      refine o_ild X316 H (od dB19 10 rfl) rfl ?_
      refine o_ildN X316 H (od dB19 11 rfl) rfl ?_
      refine o_icY X316 H (od dB19 12 rfl) (teq (by decide : (2 : Int32) = (2 : Int32))).1 (pc' := 57) (by decide) (by decide) ?_
      refine o_aldN X316 H (od dB19 33 rfl) rfl rfl ?_
      exact own_ret (t := (.array .byte)) X316 hx hlk hret rfl (Or.inr (Or.inr (Or.inr (Or.inr ⟨rfl, rfl, rfl⟩)))) (hb hby (od dB19 34 rfl)) (by show QC3_2 Z ca ka c0 c1 z fm h0 n0 _ T316.heap _; exact ⟨b315, k315, _, _, _, rfl, N316, (((Keep.refl h0 []).ext E315).trans K316 (allS (Or.inr gk315) all0)), gn315, gk315, own_cod (cs := [c0, c1]) (n := 2) rfl (List.forall_mem_cons.mpr ⟨w0, List.forall_mem_cons.mpr ⟨w1, fun _ q => nomatch q⟩⟩), Aq316⟩) (by decide) (by decide)
theorem ef_rmC3_3 (m : MethodId) (x0 : Addr) (x1 : Int32) (x2 : Int32) : entryFrame m #[(.ref x0), (.int x1), (.int x2)] 6 = mkF m 0 #[.val (.ref x0), .val (.int x1), .val (.int x2), .unset, .unset, .unset] [] := by first | (simp [entryFrame, mkF, argsToLocals, Value.category]; done) | rfl
def QC3_3 (Z : State) (ca : Addr) (ka : ClassId) (c0 : Int32) (c1 : Int32) (c2 : Int32) (z : Int32) (fm : Value) (h0 : Heap) (n0 : Nat) (v : Option Value) (h : Heap) (L : List Loc) : Prop := ∃ (x : Addr) (kx : ClassId) (co nx : Int32) (vs : List Value), v = some (.ref x) ∧ Fr n0 L ∧ Keep h0 h [] ∧ n0 ≤ x ∧ h0.size ≤ x ∧ StrChars.Road.CodA [c0, c1, c2] co nx vs ∧ Arv Z h x kx .byte nx vs (.int 0)
set_option maxRecDepth 65536 in
set_option maxHeartbeats 40000000 in
theorem rmC3_3 (l : Launch) (Z : State) (a0 : Array Value) (hw : ∀ d ∈ tables_1, d.before a0 Z = true) (ws : List Jvm.Cond) (ca : Addr) (ka : ClassId) (c0 : Int32) (c1 : Int32) (c2 : Int32) (z : Int32) (fm : Value) (h0 : Heap) (n0 : Nat) (Z0 : n0 ≤ h0.size) (PU : own_PU Z n0 h0 z fm) (Ac : Arv Z h0 ca ka .char (3 : Int32) [(.int c0), (.int c1), (.int c2)] (.int 0)) (r16 : ∀ c ∈ [c0, c1, c2], ¬ c < 0 ∧ ¬ (65535 : Int32) < c) :
    own_M l (⟨"java/lang/StringUTF16", "compress", "([CII)[B"⟩ : MethodName) jdk_52_method_16_code 6 (some (.array .byte)) ws ({ frames := 3, cells := 2, slots := 75, locals := 40 } : Room) #[(.ref ca), (.int (0 : Int32)), (.int (3 : Int32))] Z h0 (QC3_3 Z ca ka c0 c1 c2 z fm h0 n0) := by
  refine MetFree.of_bodySF (plainFor_of_name pn_2) hisR ?_
  intro p e s m args below meth cd s₁ Bd hml hP hK
  obtain ⟨rfl, hZ, hh⟩ := hP
  obtain ⟨X0, e0, H, hlk, hown, hret⟩ := own_start (R := ({ frames := 3, cells := 2, slots := 75, locals := 40 } : Room)) Bd hh rfl
  have hx := H.1; have hby := H.2; have N0 := Fr.nil n0
  obtain ⟨hz, O, SC, SA, SH, SL, SF, hfm⟩ := PU
  show own_Fin p e below (own_Ans s (QC3_3 Z ca ka c0 c1 c2 z fm h0 n0) ({ frames := 3, cells := 2, slots := 75, locals := 40 } : Room).cells ({ frames := 3, cells := 2, slots := 75, locals := 40 } : Room).slots) (s₁.setTop (entryFrame m #[(.ref ca), (.int (0 : Int32)), (.int (3 : Int32))] 6))
  refine own_cast (ef_rmC3_3 m ca (0 : Int32) (3 : Int32)) ?_
  show own_Fin p e below _ (s₁.setTop (mkF m 0 #[.val (.ref ca), .val (.int (0 : Int32)), .val (.int (3 : Int32)), .unset, .unset, .unset] []))
  refine o_ildN X0 H (od dB19 0 rfl) rfl ?_
  obtain ⟨T321, h321, k321, X321, e321, E321, A321, D321, st321⟩ := newPE X0 hx hZ (ow hw 20 rfl) e0 (g := (mkF m 1 #[.val (.ref ca), .val (.int (0 : Int32)), .val (.int (3 : Int32)), .unset, .unset, .unset] [(.int (3 : Int32))])) rfl (hb hby (od dB19 1 rfl)) rfl (by decide) (cap := 3) (by decide) (by decide) (by decide) (by decide) (ad := "[B") (by decide)
  obtain ⟨b321, g321⟩ : ∃ z, z = h0.size := ⟨_, rfl⟩
  rw [← g321] at A321 D321 st321
  have ne321_ca : ca ≠ b321 := own_ne_of (Z := Z) Ac.lt g321
  have gn321 : n0 ≤ b321 := Nat.le_trans Z0 (Nat.le_of_eq g321.symm)
  have gk321 : h0.size ≤ b321 := Nat.le_trans (Keep.refl h0 []).1 (Nat.le_of_eq g321.symm)
  have V321 : Arv Z h321 b321 k321 .byte (3 : Int32) [(.int (0 : Int32)), (.int (0 : Int32)), (.int (0 : Int32))] (.int (0 : Int32)) := (Arv.new A321 (by decide)).pad (pad_rep [] (.int (0 : Int32)) 3)
  refine own_on st321 ?_
  show own_Fin p e below _ (T321.setTop (mkF m 3 #[.val (.ref ca), .val (.int (0 : Int32)), .val (.int (3 : Int32)), .unset, .unset, .unset] [(.ref b321)]))
  refine o_astN X321 H (od dB19 2 rfl) (L' := #[.val (.ref ca), .val (.int (0 : Int32)), .val (.int (3 : Int32)), .val (.ref b321), .unset, .unset]) rfl rfl ?_
  refine o_aldN X321 H (od dB19 3 rfl) rfl rfl ?_
  refine o_ildN X321 H (od dB19 4 rfl) rfl ?_
  refine o_aldN X321 H (od dB19 5 rfl) rfl rfl ?_
  refine o_ic X321 H (od dB19 6 rfl) (v := 0) rfl ?_
  refine o_ildN X321 H (od dB19 7 rfl) rfl ?_
  by_cases w0 : (255 : Int32) < c0
  · refine o_tc (argsL := [(.ref ca), (.int (0 : Int32)), (.ref b321), (.int (0 : Int32)), (.int (3 : Int32))]) (rest := []) X321 H hml hZ hown (ow hw 114 rfl) (ow hw 115 rfl) (ow hw 112 rfl) (ow hw 116 rfl) (backOf (W := 0) (rmC5_3_0 l Z a0 hw [] ca b321 ka k321 c0 c1 c2 h321 n0 (by exact (Nat.le_trans Z0 E321.1)) (Ac.ext E321) V321 gn321 ne321_ca w0) hZ (ow hw 116 rfl) (ow hw 112 rfl) (by decide) (by decide)) (by decide) e321 pd_29 (od dB19 8 rfl) rfl rfl rfl rfl rfl (by decide) (by decide) fun _ T322 Lc322 X322 hQ322 => ?_
    obtain ⟨rfl, N322q, K322⟩ := hQ322
    have N322 := Fr.app N0 N322q
    show own_Fin p e below _ (T322.setTop (mkF m 12 #[.val (.ref ca), .val (.int (0 : Int32)), .val (.int (3 : Int32)), .val (.ref b321), .unset, .unset] [(.int (0 : Int32))]))
    refine o_ist X322 H (od dB19 9 rfl) (L' := #[.val (.ref ca), .val (.int (0 : Int32)), .val (.int (3 : Int32)), .val (.ref b321), .val (.int (0 : Int32)), .unset]) rfl ?_
    refine o_ild X322 H (od dB19 10 rfl) rfl ?_
    refine o_ildN X322 H (od dB19 11 rfl) rfl ?_
    refine o_icN X322 H (od dB19 12 rfl) (feq (by decide : ¬ ((0 : Int32) = (3 : Int32)))).1 ?_
    refine o_aldN X322 H (od dB19 13 rfl) rfl rfl ?_
    refine o_ildN X322 H (od dB19 14 rfl) rfl ?_
    refine o_ildN X322 H (od dB19 15 rfl) rfl ?_
    refine o_tc (argsL := [(.ref ca), (.int (0 : Int32)), (.int (3 : Int32))]) (rest := []) X322 H hml hZ hown (ow hw 225 rfl) (ow hw 226 rfl) (ow hw 112 rfl) (ow hw 227 rfl) (backOf (W := 0) (rmTb3 l Z a0 hw [] ca ka c0 c1 c2 z fm T322.heap n0 (by exact (Nat.le_trans (Nat.le_trans Z0 E321.1) K322.1)) ⟨hz, ((O.ext E321).keep K322 (allS gn321 all0)), SC, SA, SH, SL, SF, hfm⟩ ((Ac.ext E321).keep K322 (ninS ne321_ca nin0))) hZ (ow hw 227 rfl) (ow hw 112 rfl) (by decide) (by decide)) (by decide) rfl pd_30 (od dB19 16 rfl) rfl rfl rfl rfl rfl (by decide) (by decide) fun _ T323 Lc323 X323 hQ323 => ?_
    obtain ⟨x323, kx323, rfl, N323q, K323, gn323, gk323, Ex323, Aq323⟩ := hQ323
    have ne323_ca : ca ≠ x323 := Nat.ne_of_lt (Nat.lt_of_lt_of_le ((Ac.ext E321).keep K322 (ninS ne321_ca nin0)).lt gk323)
    have ne323_b321 : b321 ≠ x323 := Nat.ne_of_lt (Nat.lt_of_lt_of_le (D321.keep K322).lt gk323)
    have N323 := Fr.app N322 N323q
    show own_Fin p e below _ (T323.setTop (mkF m 26 #[.val (.ref ca), .val (.int (0 : Int32)), .val (.int (3 : Int32)), .val (.ref b321), .val (.int (0 : Int32)), .unset] [(.ref x323)]))
    refine o_ast X323 H (od dB19 17 rfl) (L' := #[.val (.ref ca), .val (.int (0 : Int32)), .val (.int (3 : Int32)), .val (.ref b321), .val (.int (0 : Int32)), .val (.ref x323)]) rfl rfl ?_
    refine o_ald X323 H (od dB19 18 rfl) rfl rfl ?_
    refine o_ild X323 H (od dB19 19 rfl) rfl ?_
    refine o_tc (argsL := [(.ref x323), (.int (0 : Int32))]) (rest := []) X323 H hml hZ hown (ow hw 241 rfl) (ow hw 242 rfl) (ow hw 112 rfl) (ow hw 243 rfl) (backOf (W := 0) (rm48 l Z a0 hw [] x323 kx323 3 ([c0, c1, c2]) 0 z fm T323.heap n0 (by exact (Nat.le_trans (Nat.le_trans (Nat.le_trans Z0 E321.1) K322.1) K323.1)) ⟨hz, (((O.ext E321).keep K322 (allS gn321 all0)).keep K323 all0), SC, SA, SH, SL, SF, hfm⟩ Aq323 (Nat.le_of_ble_eq_true rfl) (Nat.le_of_ble_eq_true rfl) (by decide) (r16 _ (List.mem_of_getElem? (i := 0) rfl))) hZ (ow hw 243 rfl) (ow hw 112 rfl) (by decide) (by decide)) (by decide) rfl pd_28 (od dB19 20 rfl) rfl rfl rfl rfl rfl (by decide) (by decide) (o_pk (fun _ _ _ q => q) N323 fun T324 Lc324 X324 N324 e324 => ?_)
    refine o_si X324 H (od dB19 21 rfl) (v := 255) rfl ?_
    refine o_icY X324 H (od dB19 22 rfl) (tlt w0).2.2.1 (pc' := 54) (by decide) (by decide) ?_
    refine o_ald X324 H (od dB19 31 rfl) rfl rfl ?_
    exact own_ret (t := (.array .byte)) X324 hx hlk hret rfl (Or.inr (Or.inr (Or.inr (Or.inr ⟨rfl, rfl, rfl⟩)))) (hb hby (od dB19 32 rfl)) (by show QC3_3 Z ca ka c0 c1 c2 z fm h0 n0 _ T324.heap _; rw [e324]; exact ⟨x323, kx323, _, _, _, rfl, N324, ((((Keep.refl h0 []).ext E321).trans K322 (allS (Or.inr gk321) all0)).trans K323 all0), gn323, (Nat.le_trans (((Keep.refl h0 []).ext E321).trans K322 (allS (Or.inr gk321) all0)).1 gk323), Or.inr ⟨rfl, rfl, rfl, c0, List.mem_of_getElem? (i := 0) rfl, w0⟩, Aq323⟩) (by decide) (by decide)
  · by_cases w1 : (255 : Int32) < c1
    · refine o_tc (argsL := [(.ref ca), (.int (0 : Int32)), (.ref b321), (.int (0 : Int32)), (.int (3 : Int32))]) (rest := []) X321 H hml hZ hown (ow hw 114 rfl) (ow hw 115 rfl) (ow hw 112 rfl) (ow hw 116 rfl) (backOf (W := 0) (rmC5_3_1 l Z a0 hw [] ca b321 ka k321 c0 c1 c2 h321 n0 (by exact (Nat.le_trans Z0 E321.1)) (Ac.ext E321) V321 gn321 ne321_ca w0 w1) hZ (ow hw 116 rfl) (ow hw 112 rfl) (by decide) (by decide)) (by decide) e321 pd_29 (od dB19 8 rfl) rfl rfl rfl rfl rfl (by decide) (by decide) fun _ T322 Lc322 X322 hQ322 => ?_
      obtain ⟨rfl, N322q, K322⟩ := hQ322
      have N322 := Fr.app N0 N322q
      show own_Fin p e below _ (T322.setTop (mkF m 12 #[.val (.ref ca), .val (.int (0 : Int32)), .val (.int (3 : Int32)), .val (.ref b321), .unset, .unset] [(.int (1 : Int32))]))
      refine o_ist X322 H (od dB19 9 rfl) (L' := #[.val (.ref ca), .val (.int (0 : Int32)), .val (.int (3 : Int32)), .val (.ref b321), .val (.int (1 : Int32)), .unset]) rfl ?_
      refine o_ild X322 H (od dB19 10 rfl) rfl ?_
      refine o_ildN X322 H (od dB19 11 rfl) rfl ?_
      refine o_icN X322 H (od dB19 12 rfl) (feq (by decide : ¬ ((1 : Int32) = (3 : Int32)))).1 ?_
      refine o_aldN X322 H (od dB19 13 rfl) rfl rfl ?_
      refine o_ildN X322 H (od dB19 14 rfl) rfl ?_
      refine o_ildN X322 H (od dB19 15 rfl) rfl ?_
      refine o_tc (argsL := [(.ref ca), (.int (0 : Int32)), (.int (3 : Int32))]) (rest := []) X322 H hml hZ hown (ow hw 225 rfl) (ow hw 226 rfl) (ow hw 112 rfl) (ow hw 227 rfl) (backOf (W := 0) (rmTb3 l Z a0 hw [] ca ka c0 c1 c2 z fm T322.heap n0 (by exact (Nat.le_trans (Nat.le_trans Z0 E321.1) K322.1)) ⟨hz, ((O.ext E321).keep K322 (allS gn321 all0)), SC, SA, SH, SL, SF, hfm⟩ ((Ac.ext E321).keep K322 (ninS ne321_ca nin0))) hZ (ow hw 227 rfl) (ow hw 112 rfl) (by decide) (by decide)) (by decide) rfl pd_30 (od dB19 16 rfl) rfl rfl rfl rfl rfl (by decide) (by decide) fun _ T325 Lc325 X325 hQ325 => ?_
      obtain ⟨x325, kx325, rfl, N325q, K325, gn325, gk325, Ex325, Aq325⟩ := hQ325
      have ne325_ca : ca ≠ x325 := Nat.ne_of_lt (Nat.lt_of_lt_of_le ((Ac.ext E321).keep K322 (ninS ne321_ca nin0)).lt gk325)
      have ne325_b321 : b321 ≠ x325 := Nat.ne_of_lt (Nat.lt_of_lt_of_le (D321.keep K322).lt gk325)
      have N325 := Fr.app N322 N325q
      show own_Fin p e below _ (T325.setTop (mkF m 26 #[.val (.ref ca), .val (.int (0 : Int32)), .val (.int (3 : Int32)), .val (.ref b321), .val (.int (1 : Int32)), .unset] [(.ref x325)]))
      refine o_ast X325 H (od dB19 17 rfl) (L' := #[.val (.ref ca), .val (.int (0 : Int32)), .val (.int (3 : Int32)), .val (.ref b321), .val (.int (1 : Int32)), .val (.ref x325)]) rfl rfl ?_
      refine o_ald X325 H (od dB19 18 rfl) rfl rfl ?_
      refine o_ild X325 H (od dB19 19 rfl) rfl ?_
      refine o_tc (argsL := [(.ref x325), (.int (1 : Int32))]) (rest := []) X325 H hml hZ hown (ow hw 241 rfl) (ow hw 242 rfl) (ow hw 112 rfl) (ow hw 243 rfl) (backOf (W := 0) (rm48 l Z a0 hw [] x325 kx325 3 ([c0, c1, c2]) 1 z fm T325.heap n0 (by exact (Nat.le_trans (Nat.le_trans (Nat.le_trans Z0 E321.1) K322.1) K325.1)) ⟨hz, (((O.ext E321).keep K322 (allS gn321 all0)).keep K325 all0), SC, SA, SH, SL, SF, hfm⟩ Aq325 (Nat.le_of_ble_eq_true rfl) (Nat.le_of_ble_eq_true rfl) (by decide) (r16 _ (List.mem_of_getElem? (i := 1) rfl))) hZ (ow hw 243 rfl) (ow hw 112 rfl) (by decide) (by decide)) (by decide) rfl pd_28 (od dB19 20 rfl) rfl rfl rfl rfl rfl (by decide) (by decide) (o_pk (fun _ _ _ q => q) N325 fun T326 Lc326 X326 N326 e326 => ?_)
      refine o_si X326 H (od dB19 21 rfl) (v := 255) rfl ?_
      refine o_icY X326 H (od dB19 22 rfl) (tlt w1).2.2.1 (pc' := 54) (by decide) (by decide) ?_
      refine o_ald X326 H (od dB19 31 rfl) rfl rfl ?_
      exact own_ret (t := (.array .byte)) X326 hx hlk hret rfl (Or.inr (Or.inr (Or.inr (Or.inr ⟨rfl, rfl, rfl⟩)))) (hb hby (od dB19 32 rfl)) (by show QC3_3 Z ca ka c0 c1 c2 z fm h0 n0 _ T326.heap _; rw [e326]; exact ⟨x325, kx325, _, _, _, rfl, N326, ((((Keep.refl h0 []).ext E321).trans K322 (allS (Or.inr gk321) all0)).trans K325 all0), gn325, (Nat.le_trans (((Keep.refl h0 []).ext E321).trans K322 (allS (Or.inr gk321) all0)).1 gk325), Or.inr ⟨rfl, rfl, rfl, c1, List.mem_of_getElem? (i := 1) rfl, w1⟩, Aq325⟩) (by decide) (by decide)
    · by_cases w2 : (255 : Int32) < c2
      · refine o_tc (argsL := [(.ref ca), (.int (0 : Int32)), (.ref b321), (.int (0 : Int32)), (.int (3 : Int32))]) (rest := []) X321 H hml hZ hown (ow hw 114 rfl) (ow hw 115 rfl) (ow hw 112 rfl) (ow hw 116 rfl) (backOf (W := 0) (rmC5_3_2 l Z a0 hw [] ca b321 ka k321 c0 c1 c2 h321 n0 (by exact (Nat.le_trans Z0 E321.1)) (Ac.ext E321) V321 gn321 ne321_ca w0 w1 w2) hZ (ow hw 116 rfl) (ow hw 112 rfl) (by decide) (by decide)) (by decide) e321 pd_29 (od dB19 8 rfl) rfl rfl rfl rfl rfl (by decide) (by decide) fun _ T322 Lc322 X322 hQ322 => ?_
        obtain ⟨rfl, N322q, K322⟩ := hQ322
        have N322 := Fr.app N0 N322q
        show own_Fin p e below _ (T322.setTop (mkF m 12 #[.val (.ref ca), .val (.int (0 : Int32)), .val (.int (3 : Int32)), .val (.ref b321), .unset, .unset] [(.int (2 : Int32))]))
        refine o_ist X322 H (od dB19 9 rfl) (L' := #[.val (.ref ca), .val (.int (0 : Int32)), .val (.int (3 : Int32)), .val (.ref b321), .val (.int (2 : Int32)), .unset]) rfl ?_
        refine o_ild X322 H (od dB19 10 rfl) rfl ?_
        refine o_ildN X322 H (od dB19 11 rfl) rfl ?_
        refine o_icN X322 H (od dB19 12 rfl) (feq (by decide : ¬ ((2 : Int32) = (3 : Int32)))).1 ?_
        refine o_aldN X322 H (od dB19 13 rfl) rfl rfl ?_
        refine o_ildN X322 H (od dB19 14 rfl) rfl ?_
        refine o_ildN X322 H (od dB19 15 rfl) rfl ?_
        refine o_tc (argsL := [(.ref ca), (.int (0 : Int32)), (.int (3 : Int32))]) (rest := []) X322 H hml hZ hown (ow hw 225 rfl) (ow hw 226 rfl) (ow hw 112 rfl) (ow hw 227 rfl) (backOf (W := 0) (rmTb3 l Z a0 hw [] ca ka c0 c1 c2 z fm T322.heap n0 (by exact (Nat.le_trans (Nat.le_trans Z0 E321.1) K322.1)) ⟨hz, ((O.ext E321).keep K322 (allS gn321 all0)), SC, SA, SH, SL, SF, hfm⟩ ((Ac.ext E321).keep K322 (ninS ne321_ca nin0))) hZ (ow hw 227 rfl) (ow hw 112 rfl) (by decide) (by decide)) (by decide) rfl pd_30 (od dB19 16 rfl) rfl rfl rfl rfl rfl (by decide) (by decide) fun _ T327 Lc327 X327 hQ327 => ?_
        obtain ⟨x327, kx327, rfl, N327q, K327, gn327, gk327, Ex327, Aq327⟩ := hQ327
        have ne327_ca : ca ≠ x327 := Nat.ne_of_lt (Nat.lt_of_lt_of_le ((Ac.ext E321).keep K322 (ninS ne321_ca nin0)).lt gk327)
        have ne327_b321 : b321 ≠ x327 := Nat.ne_of_lt (Nat.lt_of_lt_of_le (D321.keep K322).lt gk327)
        have N327 := Fr.app N322 N327q
        show own_Fin p e below _ (T327.setTop (mkF m 26 #[.val (.ref ca), .val (.int (0 : Int32)), .val (.int (3 : Int32)), .val (.ref b321), .val (.int (2 : Int32)), .unset] [(.ref x327)]))
        refine o_ast X327 H (od dB19 17 rfl) (L' := #[.val (.ref ca), .val (.int (0 : Int32)), .val (.int (3 : Int32)), .val (.ref b321), .val (.int (2 : Int32)), .val (.ref x327)]) rfl rfl ?_
        refine o_ald X327 H (od dB19 18 rfl) rfl rfl ?_
        refine o_ild X327 H (od dB19 19 rfl) rfl ?_
        refine o_tc (argsL := [(.ref x327), (.int (2 : Int32))]) (rest := []) X327 H hml hZ hown (ow hw 241 rfl) (ow hw 242 rfl) (ow hw 112 rfl) (ow hw 243 rfl) (backOf (W := 0) (rm48 l Z a0 hw [] x327 kx327 3 ([c0, c1, c2]) 2 z fm T327.heap n0 (by exact (Nat.le_trans (Nat.le_trans (Nat.le_trans Z0 E321.1) K322.1) K327.1)) ⟨hz, (((O.ext E321).keep K322 (allS gn321 all0)).keep K327 all0), SC, SA, SH, SL, SF, hfm⟩ Aq327 (Nat.le_of_ble_eq_true rfl) (Nat.le_of_ble_eq_true rfl) (by decide) (r16 _ (List.mem_of_getElem? (i := 2) rfl))) hZ (ow hw 243 rfl) (ow hw 112 rfl) (by decide) (by decide)) (by decide) rfl pd_28 (od dB19 20 rfl) rfl rfl rfl rfl rfl (by decide) (by decide) (o_pk (fun _ _ _ q => q) N327 fun T328 Lc328 X328 N328 e328 => ?_)
        refine o_si X328 H (od dB19 21 rfl) (v := 255) rfl ?_
        refine o_icY X328 H (od dB19 22 rfl) (tlt w2).2.2.1 (pc' := 54) (by decide) (by decide) ?_
        refine o_ald X328 H (od dB19 31 rfl) rfl rfl ?_
        exact own_ret (t := (.array .byte)) X328 hx hlk hret rfl (Or.inr (Or.inr (Or.inr (Or.inr ⟨rfl, rfl, rfl⟩)))) (hb hby (od dB19 32 rfl)) (by show QC3_3 Z ca ka c0 c1 c2 z fm h0 n0 _ T328.heap _; rw [e328]; exact ⟨x327, kx327, _, _, _, rfl, N328, ((((Keep.refl h0 []).ext E321).trans K322 (allS (Or.inr gk321) all0)).trans K327 all0), gn327, (Nat.le_trans (((Keep.refl h0 []).ext E321).trans K322 (allS (Or.inr gk321) all0)).1 gk327), Or.inr ⟨rfl, rfl, rfl, c2, List.mem_of_getElem? (i := 2) rfl, w2⟩, Aq327⟩) (by decide) (by decide)
      · refine o_tc (argsL := [(.ref ca), (.int (0 : Int32)), (.ref b321), (.int (0 : Int32)), (.int (3 : Int32))]) (rest := []) X321 H hml hZ hown (ow hw 114 rfl) (ow hw 115 rfl) (ow hw 112 rfl) (ow hw 116 rfl) (backOf (W := 0) (rmC5_3_3 l Z a0 hw [] ca b321 ka k321 c0 c1 c2 h321 n0 (by exact (Nat.le_trans Z0 E321.1)) (Ac.ext E321) V321 gn321 ne321_ca w0 w1 w2) hZ (ow hw 116 rfl) (ow hw 112 rfl) (by decide) (by decide)) (by decide) e321 pd_29 (od dB19 8 rfl) rfl rfl rfl rfl rfl (by decide) (by decide) fun _ T322 Lc322 X322 hQ322 => ?_
        obtain ⟨rfl, N322q, K322, Aq322⟩ := hQ322
        have N322 := Fr.app N0 N322q
        show own_Fin p e below _ (T322.setTop (mkF m 12 #[.val (.ref ca), .val (.int (0 : Int32)), .val (.int (3 : Int32)), .val (.ref b321), .unset, .unset] [(.int (3 : Int32))]))
        refine o_ist X322 H (od dB19 9 rfl) (L' := #[.val (.ref ca), .val (.int (0 : Int32)), .val (.int (3 : Int32)), .val (.ref b321), .val (.int (3 : Int32)), .unset]) rfl ?_
        refine o_ild X322 H (od dB19 10 rfl) rfl ?_
        refine o_ildN X322 H (od dB19 11 rfl) rfl ?_
        refine o_icY X322 H (od dB19 12 rfl) (teq (by decide : (3 : Int32) = (3 : Int32))).1 (pc' := 57) (by decide) (by decide) ?_
        refine o_aldN X322 H (od dB19 33 rfl) rfl rfl ?_
        exact own_ret (t := (.array .byte)) X322 hx hlk hret rfl (Or.inr (Or.inr (Or.inr (Or.inr ⟨rfl, rfl, rfl⟩)))) (hb hby (od dB19 34 rfl)) (by show QC3_3 Z ca ka c0 c1 c2 z fm h0 n0 _ T322.heap _; exact ⟨b321, k321, _, _, _, rfl, N322, (((Keep.refl h0 []).ext E321).trans K322 (allS (Or.inr gk321) all0)), gn321, gk321, own_cod (cs := [c0, c1, c2]) (n := 3) rfl (List.forall_mem_cons.mpr ⟨w0, List.forall_mem_cons.mpr ⟨w1, List.forall_mem_cons.mpr ⟨w2, fun _ q => nomatch q⟩⟩⟩), Aq322⟩) (by decide) (by decide)
theorem dB21 : oL jdk_52_method_15_code [(0, .iload_n 1, 1), (1, .aload_n 0, 1), (2, .arraylength, 1), (3, .isub, 1), (4, .bipush 31, 2), (6, .iushr, 1), (7, .i2b, 1), (8, .ireturn, 1)] := by unfold oL; decide +kernel
theorem ef_rm21 (m : MethodId) (x0 : Addr) (x1 : Int32) : entryFrame m #[(.ref x0), (.int x1)] 2 = mkF m 0 #[.val (.ref x0), .val (.int x1)] [] := by first | (simp [entryFrame, mkF, argsToLocals, Value.category]; done) | rfl
def Q21 (Z : State) (t : Addr) (n : Nat) (kt : ClassId) (cs : List Int32) (co : Int32) (nx : Int32) (vs : List Value) (h0 : Heap) (n0 : Nat) (v : Option Value) (h : Heap) (L : List Loc) : Prop := v = some (.int co) ∧ Fr n0 L ∧ h = h0
set_option maxRecDepth 65536 in
set_option maxHeartbeats 40000000 in
theorem rm21 (l : Launch) (Z : State) (a0 : Array Value) (hw : ∀ d ∈ tables_1, d.before a0 Z = true) (ws : List Jvm.Cond) (t : Addr) (n : Nat) (kt : ClassId) (cs : List Int32) (co : Int32) (nx : Int32) (vs : List Value) (h0 : Heap) (n0 : Nat) (Z0 : n0 ≤ h0.size) (At : Arv Z h0 t kt .byte nx vs (.int 0)) (cod : StrChars.Road.CodA cs co nx vs) (hn : cs.length = n) (h1 : 1 ≤ n) (h5 : n < 500) :
    own_M l (⟨"java/lang/StringUTF16", "coderFromArrayLen", "([BI)B"⟩ : MethodName) jdk_52_method_15_code 2 (some .byte) ws ({ frames := 0, cells := 0, slots := 0, locals := 0 } : Room) #[(.ref t), (.int (Int32.ofNat n))] Z h0 (Q21 Z t n kt cs co nx vs h0 n0) := by
  refine MetFree.of_bodySF (plainFor_of_name pn_2) hisR ?_
  intro p e s m args below meth cd s₁ Bd hml hP hK
  obtain ⟨rfl, hZ, hh⟩ := hP
  obtain ⟨X0, e0, H, hlk, hown, hret⟩ := own_start (R := ({ frames := 0, cells := 0, slots := 0, locals := 0 } : Room)) Bd hh rfl
  have hx := H.1; have hby := H.2; have N0 := Fr.nil n0
  show own_Fin p e below (own_Ans s (Q21 Z t n kt cs co nx vs h0 n0) ({ frames := 0, cells := 0, slots := 0, locals := 0 } : Room).cells ({ frames := 0, cells := 0, slots := 0, locals := 0 } : Room).slots) (s₁.setTop (entryFrame m #[(.ref t), (.int (Int32.ofNat n))] 2))
  refine own_cast (ef_rm21 m t (Int32.ofNat n)) ?_
  show own_Fin p e below _ (s₁.setTop (mkF m 0 #[.val (.ref t), .val (.int (Int32.ofNat n))] []))
  rcases cod with ⟨hcd, hnx, hvs, hb_⟩ | ⟨hcd, hnx, hvs, hb_⟩
  · have At0 : Arv Z h0 t kt .byte (Int32.ofNat n) vs (.int 0) := by have q := At; rw [hnx, hn] at q; exact q
    show own_Fin p e below _ (s₁.setTop (mkF m 0 #[.val (.ref t), .val (.int (Int32.ofNat n))] []))
    refine o_ildN X0 H (od dB21 0 rfl) rfl ?_
    refine o_aldN X0 H (od dB21 1 rfl) rfl rfl ?_
    have cp329 := At0
    obtain ⟨cl329, Ar329, q329, S329, G329, H329, F329⟩ := cp329
    refine own_on (fun tq => X0.arraylength hx (by rw [e0]; exact Ar329.1) (State.isArrayOf_alike hZ.alike Ar329.2.1) (g := (mkF m 2 #[.val (.ref t), .val (.int (Int32.ofNat n))] [(.ref t), (.int (Int32.ofNat n))])) rfl rfl (hb hby (od dB21 2 rfl)) tq) ?_
    rw [len_of S329 G329]
    show own_Fin p e below _ (s₁.setTop (mkF m 3 #[.val (.ref t), .val (.int (Int32.ofNat n))] [(.int (Int32.ofNat n)), (.int (Int32.ofNat n))]))
    refine o_isub X0 H (od dB21 3 rfl) ?_
    refine o_bi X0 H (od dB21 4 rfl) (v := 31) rfl ?_
    refine own_on (fun tq => XS.iushr X0.here hx rfl (hb hby (od dB21 5 rfl)) rfl) ?_
    show own_Fin p e below _ (s₁.setTop (mkF m 7 #[.val (.ref t), .val (.int (Int32.ofNat n))] [(.int ((((Int32.ofNat n) - (Int32.ofNat n)).toUInt32 >>> ((31 : Int32) &&& 31).toUInt32).toInt32))]))
    refine own_on (fun tq => XS.i2b X0.here hx rfl (hb hby (od dB21 6 rfl)) rfl) ?_
    show own_Fin p e below _ (s₁.setTop (mkF m 8 #[.val (.ref t), .val (.int (Int32.ofNat n))] [(.int (((((Int32.ofNat n) - (Int32.ofNat n)).toUInt32 >>> ((31 : Int32) &&& 31).toUInt32).toInt32).toInt8.toInt32))]))
    rw [show (((((Int32.ofNat n) - (Int32.ofNat n)).toUInt32 >>> ((31 : Int32) &&& 31).toUInt32).toInt32).toInt8.toInt32) = co from (own_usr0 n).trans hcd.symm]
    show own_Fin p e below _ (s₁.setTop (mkF m 8 #[.val (.ref t), .val (.int (Int32.ofNat n))] [(.int co)]))
    exact own_ret (t := .byte) X0 hx hlk hret (by rw [hcd]; rfl) (Or.inl ⟨rfl, (by simp), _, rfl⟩) (hb hby (od dB21 7 rfl)) (⟨rfl, N0, e0⟩) (by decide) (by decide)
  · have At1 : Arv Z h0 t kt .byte (Int32.ofNat (2 * n)) vs (.int 0) := by have q := At; rw [hnx, hn] at q; exact q
    show own_Fin p e below _ (s₁.setTop (mkF m 0 #[.val (.ref t), .val (.int (Int32.ofNat n))] []))
    refine o_ildN X0 H (od dB21 0 rfl) rfl ?_
    refine o_aldN X0 H (od dB21 1 rfl) rfl rfl ?_
    have cp330 := At1
    obtain ⟨cl330, Ar330, q330, S330, G330, H330, F330⟩ := cp330
    refine own_on (fun tq => X0.arraylength hx (by rw [e0]; exact Ar330.1) (State.isArrayOf_alike hZ.alike Ar330.2.1) (g := (mkF m 2 #[.val (.ref t), .val (.int (Int32.ofNat n))] [(.ref t), (.int (Int32.ofNat n))])) rfl rfl (hb hby (od dB21 2 rfl)) tq) ?_
    rw [len_of S330 G330]
    show own_Fin p e below _ (s₁.setTop (mkF m 3 #[.val (.ref t), .val (.int (Int32.ofNat n))] [(.int (Int32.ofNat (2 * n))), (.int (Int32.ofNat n))]))
    refine o_isub X0 H (od dB21 3 rfl) ?_
    refine o_bi X0 H (od dB21 4 rfl) (v := 31) rfl ?_
    refine own_on (fun tq => XS.iushr X0.here hx rfl (hb hby (od dB21 5 rfl)) rfl) ?_
    show own_Fin p e below _ (s₁.setTop (mkF m 7 #[.val (.ref t), .val (.int (Int32.ofNat n))] [(.int ((((Int32.ofNat n) - (Int32.ofNat (2 * n))).toUInt32 >>> ((31 : Int32) &&& 31).toUInt32).toInt32))]))
    refine own_on (fun tq => XS.i2b X0.here hx rfl (hb hby (od dB21 6 rfl)) rfl) ?_
    show own_Fin p e below _ (s₁.setTop (mkF m 8 #[.val (.ref t), .val (.int (Int32.ofNat n))] [(.int (((((Int32.ofNat n) - (Int32.ofNat (2 * n))).toUInt32 >>> ((31 : Int32) &&& 31).toUInt32).toInt32).toInt8.toInt32))]))
    rw [show (((((Int32.ofNat n) - (Int32.ofNat (2 * n))).toUInt32 >>> ((31 : Int32) &&& 31).toUInt32).toInt32).toInt8.toInt32) = co from (own_usr h1 (by omega)).trans hcd.symm]
    show own_Fin p e below _ (s₁.setTop (mkF m 8 #[.val (.ref t), .val (.int (Int32.ofNat n))] [(.int co)]))
    exact own_ret (t := .byte) X0 hx hlk hret (by rw [hcd]; rfl) (Or.inl ⟨rfl, (by simp), _, rfl⟩) (hb hby (od dB21 7 rfl)) (⟨rfl, N0, e0⟩) (by decide) (by decide)
theorem dB3 : oL jdk_42_method_149_code [(0, .aload_n 0, 1), (1, .invokespecial 1, 3), (4, .iload_n 3, 1), (5, .ifCond .ne 22, 3), (8, .aload_n 0, 1), (9, .ldc 7, 2), (11, .getfield 9, 3), (14, .putfield 9, 3), (17, .aload_n 0, 1), (18, .ldc 7, 2), (20, .getfield 15, 3), (23, .putfield 15, 3), (26, .return_, 1), (27, .getstatic 38, 3), (30, .ifCond .eq 28, 3), (33, .aload_n 1, 1), (34, .iload_n 2, 1), (35, .iload_n 3, 1), (36, .invokestatic 177, 3), (39, .astore 5, 2), (41, .aload_n 0, 1), (42, .aload 5, 2), (44, .iload_n 3, 1), (45, .invokestatic 47, 3), (48, .putfield 15, 3), (51, .aload_n 0, 1), (52, .aload 5, 2), (54, .putfield 9, 3), (57, .return_, 1), (58, .aload_n 0, 1), (59, .iconst 1, 1), (60, .putfield 15, 3), (63, .aload_n 0, 1), (64, .aload_n 1, 1), (65, .iload_n 2, 1), (66, .iload_n 3, 1), (67, .invokestatic 180, 3), (70, .putfield 9, 3), (73, .return_, 1)] := by unfold oL; decide +kernel
theorem pd_31 : parseMethodDescriptor "([BI)B" = some ⟨[(.array .byte), .int], some .byte⟩ := by decide +kernel
theorem ef_rmN4_1 (m : MethodId) (x0 : Addr) (x1 : Addr) (x2 : Int32) (x3 : Int32) : entryFrame m #[(.ref x0), (.ref x1), (.int x2), (.int x3), .null] 6 = mkF m 0 #[.val (.ref x0), .val (.ref x1), .val (.int x2), .val (.int x3), .val .null, .unset] [] := by first | (simp [entryFrame, mkF, argsToLocals, Value.category]; done) | rfl
def QN4_1 (Z : State) (a : Addr) (ca : Addr) (ka : ClassId) (c0 : Int32) (z : Int32) (fm : Value) (h0 : Heap) (n0 : Nat) (v : Option Value) (h : Heap) (L : List Loc) : Prop := ∃ (x : Addr) (kx : ClassId) (co nx : Int32) (vs : List Value), v = none ∧ Fr n0 L ∧ Keep h0 h [a] ∧ StrChars.Road.CodA [c0] co nx vs ∧ Exa Z h a "java/lang/String" ∧ Fld Z h a "java/lang/String" "coder" "B" (.int co) ∧ Fld Z h a "java/lang/String" "value" "[B" (.ref x) ∧ Arv Z h x kx .byte nx vs (.int 0)
set_option maxRecDepth 65536 in
set_option maxHeartbeats 40000000 in
theorem rmN4_1 (l : Launch) (Z : State) (a0 : Array Value) (hw : ∀ d ∈ tables_1, d.before a0 Z = true) (ws : List Jvm.Cond) (a : Addr) (ca : Addr) (ka : ClassId) (c0 : Int32) (z : Int32) (fm : Value) (h0 : Heap) (n0 : Nat) (Z0 : n0 ≤ h0.size) (PU : own_PU Z n0 h0 z fm) (Ea : Exa Z h0 a "java/lang/String") (V0 : Fld Z h0 a "java/lang/String" "value" "[B" .null) (C0 : Fld Z h0 a "java/lang/String" "coder" "B" (.int (0 : Int32))) (ga : n0 ≤ a) (nca : ca ≠ a) (Ac : Arv Z h0 ca ka .char (1 : Int32) [(.int c0)] (.int 0)) (r16 : ∀ c ∈ [c0], ¬ c < 0 ∧ ¬ (65535 : Int32) < c) :
    own_M l (⟨"java/lang/String", "<init>", "([CIILjava/lang/Void;)V"⟩ : MethodName) jdk_42_method_149_code 6 none ws ({ frames := 4, cells := 2, slots := 73, locals := 57 } : Room) #[(.ref a), (.ref ca), (.int (0 : Int32)), (.int (1 : Int32)), .null] Z h0 (QN4_1 Z a ca ka c0 z fm h0 n0) := by
  refine MetFree.of_bodySF (plainFor_of_name pn_1) hisR ?_
  intro p e s m args below meth cd s₁ Bd hml hP hK
  obtain ⟨rfl, hZ, hh⟩ := hP
  obtain ⟨X0, e0, H, hlk, hown, hret⟩ := own_start (R := ({ frames := 4, cells := 2, slots := 73, locals := 57 } : Room)) Bd hh rfl
  have hx := H.1; have hby := H.2; have N0 := Fr.nil n0
  obtain ⟨hz, O, SC, SA, SH, SL, SF, hfm⟩ := PU
  have hnm := (name_of_methodNamed Bd.named Bd.method).1
  show own_Fin p e below (own_Ans s (QN4_1 Z a ca ka c0 z fm h0 n0) ({ frames := 4, cells := 2, slots := 73, locals := 57 } : Room).cells ({ frames := 4, cells := 2, slots := 73, locals := 57 } : Room).slots) (s₁.setTop (entryFrame m #[(.ref a), (.ref ca), (.int (0 : Int32)), (.int (1 : Int32)), .null] 6))
  refine own_cast (ef_rmN4_1 m a ca (0 : Int32) (1 : Int32)) ?_
  show own_Fin p e below _ (s₁.setTop (mkF m 0 #[.val (.ref a), .val (.ref ca), .val (.int (0 : Int32)), .val (.int (1 : Int32)), .val .null, .unset] []))
  refine o_aldN X0 H (od dB3 0 rfl) rfl rfl ?_
  obtain ⟨T331, X331, e331, st331⟩ := initO X0 hx hZ hown (ow hw 16 rfl) (ow hw 17 rfl) (ow hw 18 rfl) e0 (g := (mkF m 1 #[.val (.ref a), .val (.ref ca), .val (.int (0 : Int32)), .val (.int (1 : Int32)), .val .null, .unset] [(.ref a)])) rfl (by rw [hml]; rfl) rfl (hb hby (od dB3 1 rfl)) (by decide) (W := 0) (by show 2 * 0 + _ ≤ _; exact Nat.le_of_eq rfl) (by decide)
  refine own_on st331 ?_
  show own_Fin p e below _ (T331.setTop (mkF m 4 #[.val (.ref a), .val (.ref ca), .val (.int (0 : Int32)), .val (.int (1 : Int32)), .val .null, .unset] []))
  refine o_ildN X331 H (od dB3 2 rfl) rfl ?_
  refine o_ifY X331 H (od dB3 3 rfl) ((if0 _ _).trans (feq (by decide : ¬ ((1 : Int32) = (0 : Int32)))).2) (pc' := 27) (by decide) (by decide) ?_
  refine o_gs X331 H hZ hown (ow hw 44 rfl) Via.refl e331 (SC.ext O.2) (od dB3 13 rfl) fun T332 X332 e332 => ?_
  refine o_ifN X332 H (od dB3 14 rfl) ((if0 _ _).trans (feq hz).1) ?_
  refine o_aldN X332 H (od dB3 15 rfl) rfl rfl ?_
  refine o_ildN X332 H (od dB3 16 rfl) rfl ?_
  refine o_ildN X332 H (od dB3 17 rfl) rfl ?_
  refine o_tc (argsL := [(.ref ca), (.int (0 : Int32)), (.int (1 : Int32))]) (rest := []) X332 H hml hZ hown (ow hw 110 rfl) (ow hw 111 rfl) (ow hw 112 rfl) (ow hw 113 rfl) (backOf (W := 0) (rmC3_1 l Z a0 hw [] ca ka c0 z fm h0 n0 (by exact Z0) ⟨hz, O, SC, SA, SH, SL, SF, hfm⟩ Ac r16) hZ (ow hw 113 rfl) (ow hw 112 rfl) (by decide) (by decide)) (by decide) e332 pd_30 (od dB3 18 rfl) rfl rfl rfl rfl rfl (by decide) (by decide) fun _ T333 Lc333 X333 hQ333 => ?_
  obtain ⟨x333, kx333, co333, nx333, vs333, rfl, N333q, K333, gn333, gk333, cod333, Aq333⟩ := hQ333
  have ne333_ca : ca ≠ x333 := Nat.ne_of_lt (Nat.lt_of_lt_of_le Ac.lt gk333)
  have ne333_a : a ≠ x333 := Nat.ne_of_lt (Nat.lt_of_lt_of_le Ea.lt gk333)
  have N333 := Fr.app N0 N333q
  show own_Fin p e below _ (T333.setTop (mkF m 39 #[.val (.ref a), .val (.ref ca), .val (.int (0 : Int32)), .val (.int (1 : Int32)), .val .null, .unset] [(.ref x333)]))
  refine o_ast X333 H (od dB3 19 rfl) (L' := #[.val (.ref a), .val (.ref ca), .val (.int (0 : Int32)), .val (.int (1 : Int32)), .val .null, .val (.ref x333)]) rfl rfl ?_
  refine o_aldN X333 H (od dB3 20 rfl) rfl rfl ?_
  refine o_ald X333 H (od dB3 21 rfl) rfl rfl ?_
  refine o_ildN X333 H (od dB3 22 rfl) rfl ?_
  refine o_tc (argsL := [(.ref x333), (.int (1 : Int32))]) (rest := [(.ref a)]) X333 H hml hZ hown (ow hw 117 rfl) (ow hw 118 rfl) (ow hw 112 rfl) (ow hw 119 rfl) (backOf (W := 1) (rm21 l Z a0 hw [] x333 1 kx333 [c0] co333 nx333 vs333 T333.heap n0 (by exact (Nat.le_trans Z0 K333.1)) Aq333 cod333 rfl (by decide) (by decide)) hZ (ow hw 119 rfl) (ow hw 112 rfl) (by decide) (by decide)) (by decide) rfl pd_31 (od dB3 23 rfl) rfl rfl rfl rfl rfl (by decide) (by decide) (o_pk (fun _ _ _ q => q) N333 fun T334 Lc334 X334 N334 e334 => ?_)
  obtain ⟨T335, h335, X335, e335, W335, st335⟩ := putFN X334 hx hZ hown (ow hw 26 rfl) Via.refl e334 (C0.keep K333 nin0) (Ea.keep K333) (Or.inr ⟨(ow hw 22 rfl), rfl, hnm⟩) (ow hw 6 rfl) (ty := .byte) (v' := (.int (nar .byte co333))) (by decide) rfl (fits_nar_byte _) (g := (mkF m 48 #[.val (.ref a), .val (.ref ca), .val (.int (0 : Int32)), .val (.int (1 : Int32)), .val .null, .val (.ref x333)] [(.int co333), (.ref a)])) rfl rfl (hb hby (od dB3 24 rfl))
  have N335 := Fr.snoc X335 N334 ga
  have y336 := ((V0.keep K333 nin0).other W335 (Or.inr (slot_ne (Or.inr (ow hw 21 rfl)) (Or.inr (ow hw 22 rfl)) (by decide) (t := (.array .byte)) (t' := .byte) (by decide) (by decide))))
  refine own_on st335 ?_
  show own_Fin p e below _ (T335.setTop (mkF m 51 #[.val (.ref a), .val (.ref ca), .val (.int (0 : Int32)), .val (.int (1 : Int32)), .val .null, .val (.ref x333)] []))
  refine o_aldN X335 H (od dB3 25 rfl) rfl rfl ?_
  refine o_ald X335 H (od dB3 26 rfl) rfl rfl ?_
  obtain ⟨T337, h337, X337, e337, W337, st337⟩ := putF X335 hx hZ hown (host := "") (Or.inl (ow hw 25 rfl)) Via.refl e335 y336 ((Ea.keep K333).wr W335) (Or.inr ⟨(ow hw 21 rfl), rfl, hnm⟩) (ow hw 6 rfl) (ty := (.array .byte)) (by decide) rfl rfl (g := (mkF m 54 #[.val (.ref a), .val (.ref ca), .val (.int (0 : Int32)), .val (.int (1 : Int32)), .val .null, .val (.ref x333)] [(.ref x333), (.ref a)])) rfl rfl (hb hby (od dB3 27 rfl))
  have N337 := Fr.snoc X337 N335 ga
  have y338 := ((((Keep.refl h0 [a]).trans K333 all0).wr W335 (Or.inl (List.mem_of_getElem? (i := 0) rfl))).wr W337 (Or.inl (List.mem_of_getElem? (i := 0) rfl)))
  have y339 := (((C0.keep K333 nin0).same W335).other W337 (Or.inr (slot_ne (Or.inr (ow hw 22 rfl)) (Or.inr (ow hw 21 rfl)) (by decide) (t := .byte) (t' := (.array .byte)) (by decide) (by decide))))
  refine own_on st337 ?_
  show own_Fin p e below _ (T337.setTop (mkF m 57 #[.val (.ref a), .val (.ref ca), .val (.int (0 : Int32)), .val (.int (1 : Int32)), .val .null, .val (.ref x333)] []))
  exact own_retV X337 hx hlk hret (hb hby (od dB3 28 rfl)) (by show QN4_1 Z a ca ka c0 z fm h0 n0 _ T337.heap _; rw [e337]; exact ⟨x333, kx333, co333, nx333, vs333, rfl, N337, y338, cod333, (((Ea.keep K333).wr W335).wr W337), (by have q := y339; rw [own_narcd (own_cd01 cod333)] at q; exact q), (y336.same W337), ((Aq333.other W335 (Ne.symm ne333_a)).other W337 (Ne.symm ne333_a))⟩) (by decide) (by decide)
theorem ef_rmN4_2 (m : MethodId) (x0 : Addr) (x1 : Addr) (x2 : Int32) (x3 : Int32) : entryFrame m #[(.ref x0), (.ref x1), (.int x2), (.int x3), .null] 6 = mkF m 0 #[.val (.ref x0), .val (.ref x1), .val (.int x2), .val (.int x3), .val .null, .unset] [] := by first | (simp [entryFrame, mkF, argsToLocals, Value.category]; done) | rfl
def QN4_2 (Z : State) (a : Addr) (ca : Addr) (ka : ClassId) (c0 : Int32) (c1 : Int32) (z : Int32) (fm : Value) (h0 : Heap) (n0 : Nat) (v : Option Value) (h : Heap) (L : List Loc) : Prop := ∃ (x : Addr) (kx : ClassId) (co nx : Int32) (vs : List Value), v = none ∧ Fr n0 L ∧ Keep h0 h [a] ∧ StrChars.Road.CodA [c0, c1] co nx vs ∧ Exa Z h a "java/lang/String" ∧ Fld Z h a "java/lang/String" "coder" "B" (.int co) ∧ Fld Z h a "java/lang/String" "value" "[B" (.ref x) ∧ Arv Z h x kx .byte nx vs (.int 0)
set_option maxRecDepth 65536 in
set_option maxHeartbeats 40000000 in
theorem rmN4_2 (l : Launch) (Z : State) (a0 : Array Value) (hw : ∀ d ∈ tables_1, d.before a0 Z = true) (ws : List Jvm.Cond) (a : Addr) (ca : Addr) (ka : ClassId) (c0 : Int32) (c1 : Int32) (z : Int32) (fm : Value) (h0 : Heap) (n0 : Nat) (Z0 : n0 ≤ h0.size) (PU : own_PU Z n0 h0 z fm) (Ea : Exa Z h0 a "java/lang/String") (V0 : Fld Z h0 a "java/lang/String" "value" "[B" .null) (C0 : Fld Z h0 a "java/lang/String" "coder" "B" (.int (0 : Int32))) (ga : n0 ≤ a) (nca : ca ≠ a) (Ac : Arv Z h0 ca ka .char (2 : Int32) [(.int c0), (.int c1)] (.int 0)) (r16 : ∀ c ∈ [c0, c1], ¬ c < 0 ∧ ¬ (65535 : Int32) < c) :
    own_M l (⟨"java/lang/String", "<init>", "([CIILjava/lang/Void;)V"⟩ : MethodName) jdk_42_method_149_code 6 none ws ({ frames := 4, cells := 2, slots := 74, locals := 57 } : Room) #[(.ref a), (.ref ca), (.int (0 : Int32)), (.int (2 : Int32)), .null] Z h0 (QN4_2 Z a ca ka c0 c1 z fm h0 n0) := by
  refine MetFree.of_bodySF (plainFor_of_name pn_1) hisR ?_
  intro p e s m args below meth cd s₁ Bd hml hP hK
  obtain ⟨rfl, hZ, hh⟩ := hP
  obtain ⟨X0, e0, H, hlk, hown, hret⟩ := own_start (R := ({ frames := 4, cells := 2, slots := 74, locals := 57 } : Room)) Bd hh rfl
  have hx := H.1; have hby := H.2; have N0 := Fr.nil n0
  obtain ⟨hz, O, SC, SA, SH, SL, SF, hfm⟩ := PU
  have hnm := (name_of_methodNamed Bd.named Bd.method).1
  show own_Fin p e below (own_Ans s (QN4_2 Z a ca ka c0 c1 z fm h0 n0) ({ frames := 4, cells := 2, slots := 74, locals := 57 } : Room).cells ({ frames := 4, cells := 2, slots := 74, locals := 57 } : Room).slots) (s₁.setTop (entryFrame m #[(.ref a), (.ref ca), (.int (0 : Int32)), (.int (2 : Int32)), .null] 6))
  refine own_cast (ef_rmN4_2 m a ca (0 : Int32) (2 : Int32)) ?_
  show own_Fin p e below _ (s₁.setTop (mkF m 0 #[.val (.ref a), .val (.ref ca), .val (.int (0 : Int32)), .val (.int (2 : Int32)), .val .null, .unset] []))
  refine o_aldN X0 H (od dB3 0 rfl) rfl rfl ?_
  obtain ⟨T340, X340, e340, st340⟩ := initO X0 hx hZ hown (ow hw 16 rfl) (ow hw 17 rfl) (ow hw 18 rfl) e0 (g := (mkF m 1 #[.val (.ref a), .val (.ref ca), .val (.int (0 : Int32)), .val (.int (2 : Int32)), .val .null, .unset] [(.ref a)])) rfl (by rw [hml]; rfl) rfl (hb hby (od dB3 1 rfl)) (by decide) (W := 0) (by show 2 * 0 + _ ≤ _; exact Nat.le_of_eq rfl) (by decide)
  refine own_on st340 ?_
  show own_Fin p e below _ (T340.setTop (mkF m 4 #[.val (.ref a), .val (.ref ca), .val (.int (0 : Int32)), .val (.int (2 : Int32)), .val .null, .unset] []))
  refine o_ildN X340 H (od dB3 2 rfl) rfl ?_
  refine o_ifY X340 H (od dB3 3 rfl) ((if0 _ _).trans (feq (by decide : ¬ ((2 : Int32) = (0 : Int32)))).2) (pc' := 27) (by decide) (by decide) ?_
  refine o_gs X340 H hZ hown (ow hw 44 rfl) Via.refl e340 (SC.ext O.2) (od dB3 13 rfl) fun T341 X341 e341 => ?_
  refine o_ifN X341 H (od dB3 14 rfl) ((if0 _ _).trans (feq hz).1) ?_
  refine o_aldN X341 H (od dB3 15 rfl) rfl rfl ?_
  refine o_ildN X341 H (od dB3 16 rfl) rfl ?_
  refine o_ildN X341 H (od dB3 17 rfl) rfl ?_
  refine o_tc (argsL := [(.ref ca), (.int (0 : Int32)), (.int (2 : Int32))]) (rest := []) X341 H hml hZ hown (ow hw 110 rfl) (ow hw 111 rfl) (ow hw 112 rfl) (ow hw 113 rfl) (backOf (W := 0) (rmC3_2 l Z a0 hw [] ca ka c0 c1 z fm h0 n0 (by exact Z0) ⟨hz, O, SC, SA, SH, SL, SF, hfm⟩ Ac r16) hZ (ow hw 113 rfl) (ow hw 112 rfl) (by decide) (by decide)) (by decide) e341 pd_30 (od dB3 18 rfl) rfl rfl rfl rfl rfl (by decide) (by decide) fun _ T342 Lc342 X342 hQ342 => ?_
  obtain ⟨x342, kx342, co342, nx342, vs342, rfl, N342q, K342, gn342, gk342, cod342, Aq342⟩ := hQ342
  have ne342_ca : ca ≠ x342 := Nat.ne_of_lt (Nat.lt_of_lt_of_le Ac.lt gk342)
  have ne342_a : a ≠ x342 := Nat.ne_of_lt (Nat.lt_of_lt_of_le Ea.lt gk342)
  have N342 := Fr.app N0 N342q
  show own_Fin p e below _ (T342.setTop (mkF m 39 #[.val (.ref a), .val (.ref ca), .val (.int (0 : Int32)), .val (.int (2 : Int32)), .val .null, .unset] [(.ref x342)]))
  refine o_ast X342 H (od dB3 19 rfl) (L' := #[.val (.ref a), .val (.ref ca), .val (.int (0 : Int32)), .val (.int (2 : Int32)), .val .null, .val (.ref x342)]) rfl rfl ?_
  refine o_aldN X342 H (od dB3 20 rfl) rfl rfl ?_
  refine o_ald X342 H (od dB3 21 rfl) rfl rfl ?_
  refine o_ildN X342 H (od dB3 22 rfl) rfl ?_
  refine o_tc (argsL := [(.ref x342), (.int (2 : Int32))]) (rest := [(.ref a)]) X342 H hml hZ hown (ow hw 117 rfl) (ow hw 118 rfl) (ow hw 112 rfl) (ow hw 119 rfl) (backOf (W := 1) (rm21 l Z a0 hw [] x342 2 kx342 ([c0, c1]) co342 nx342 vs342 T342.heap n0 (by exact (Nat.le_trans Z0 K342.1)) Aq342 cod342 rfl (by decide) (by decide)) hZ (ow hw 119 rfl) (ow hw 112 rfl) (by decide) (by decide)) (by decide) rfl pd_31 (od dB3 23 rfl) rfl rfl rfl rfl rfl (by decide) (by decide) (o_pk (fun _ _ _ q => q) N342 fun T343 Lc343 X343 N343 e343 => ?_)
  obtain ⟨T344, h344, X344, e344, W344, st344⟩ := putFN X343 hx hZ hown (ow hw 26 rfl) Via.refl e343 (C0.keep K342 nin0) (Ea.keep K342) (Or.inr ⟨(ow hw 22 rfl), rfl, hnm⟩) (ow hw 6 rfl) (ty := .byte) (v' := (.int (nar .byte co342))) (by decide) rfl (fits_nar_byte _) (g := (mkF m 48 #[.val (.ref a), .val (.ref ca), .val (.int (0 : Int32)), .val (.int (2 : Int32)), .val .null, .val (.ref x342)] [(.int co342), (.ref a)])) rfl rfl (hb hby (od dB3 24 rfl))
  have N344 := Fr.snoc X344 N343 ga
  have y345 := ((V0.keep K342 nin0).other W344 (Or.inr (slot_ne (Or.inr (ow hw 21 rfl)) (Or.inr (ow hw 22 rfl)) (by decide) (t := (.array .byte)) (t' := .byte) (by decide) (by decide))))
  refine own_on st344 ?_
  show own_Fin p e below _ (T344.setTop (mkF m 51 #[.val (.ref a), .val (.ref ca), .val (.int (0 : Int32)), .val (.int (2 : Int32)), .val .null, .val (.ref x342)] []))
  refine o_aldN X344 H (od dB3 25 rfl) rfl rfl ?_
  refine o_ald X344 H (od dB3 26 rfl) rfl rfl ?_
  obtain ⟨T346, h346, X346, e346, W346, st346⟩ := putF X344 hx hZ hown (host := "") (Or.inl (ow hw 25 rfl)) Via.refl e344 y345 ((Ea.keep K342).wr W344) (Or.inr ⟨(ow hw 21 rfl), rfl, hnm⟩) (ow hw 6 rfl) (ty := (.array .byte)) (by decide) rfl rfl (g := (mkF m 54 #[.val (.ref a), .val (.ref ca), .val (.int (0 : Int32)), .val (.int (2 : Int32)), .val .null, .val (.ref x342)] [(.ref x342), (.ref a)])) rfl rfl (hb hby (od dB3 27 rfl))
  have N346 := Fr.snoc X346 N344 ga
  have y347 := ((((Keep.refl h0 [a]).trans K342 all0).wr W344 (Or.inl (List.mem_of_getElem? (i := 0) rfl))).wr W346 (Or.inl (List.mem_of_getElem? (i := 0) rfl)))
  have y348 := (((C0.keep K342 nin0).same W344).other W346 (Or.inr (slot_ne (Or.inr (ow hw 22 rfl)) (Or.inr (ow hw 21 rfl)) (by decide) (t := .byte) (t' := (.array .byte)) (by decide) (by decide))))
  refine own_on st346 ?_
  show own_Fin p e below _ (T346.setTop (mkF m 57 #[.val (.ref a), .val (.ref ca), .val (.int (0 : Int32)), .val (.int (2 : Int32)), .val .null, .val (.ref x342)] []))
  exact own_retV X346 hx hlk hret (hb hby (od dB3 28 rfl)) (by show QN4_2 Z a ca ka c0 c1 z fm h0 n0 _ T346.heap _; rw [e346]; exact ⟨x342, kx342, co342, nx342, vs342, rfl, N346, y347, cod342, (((Ea.keep K342).wr W344).wr W346), (by have q := y348; rw [own_narcd (own_cd01 cod342)] at q; exact q), (y345.same W346), ((Aq342.other W344 (Ne.symm ne342_a)).other W346 (Ne.symm ne342_a))⟩) (by decide) (by decide)
theorem ef_rmN4_3 (m : MethodId) (x0 : Addr) (x1 : Addr) (x2 : Int32) (x3 : Int32) : entryFrame m #[(.ref x0), (.ref x1), (.int x2), (.int x3), .null] 6 = mkF m 0 #[.val (.ref x0), .val (.ref x1), .val (.int x2), .val (.int x3), .val .null, .unset] [] := by first | (simp [entryFrame, mkF, argsToLocals, Value.category]; done) | rfl
def QN4_3 (Z : State) (a : Addr) (ca : Addr) (ka : ClassId) (c0 : Int32) (c1 : Int32) (c2 : Int32) (z : Int32) (fm : Value) (h0 : Heap) (n0 : Nat) (v : Option Value) (h : Heap) (L : List Loc) : Prop := ∃ (x : Addr) (kx : ClassId) (co nx : Int32) (vs : List Value), v = none ∧ Fr n0 L ∧ Keep h0 h [a] ∧ StrChars.Road.CodA [c0, c1, c2] co nx vs ∧ Exa Z h a "java/lang/String" ∧ Fld Z h a "java/lang/String" "coder" "B" (.int co) ∧ Fld Z h a "java/lang/String" "value" "[B" (.ref x) ∧ Arv Z h x kx .byte nx vs (.int 0)
set_option maxRecDepth 65536 in
set_option maxHeartbeats 40000000 in
theorem rmN4_3 (l : Launch) (Z : State) (a0 : Array Value) (hw : ∀ d ∈ tables_1, d.before a0 Z = true) (ws : List Jvm.Cond) (a : Addr) (ca : Addr) (ka : ClassId) (c0 : Int32) (c1 : Int32) (c2 : Int32) (z : Int32) (fm : Value) (h0 : Heap) (n0 : Nat) (Z0 : n0 ≤ h0.size) (PU : own_PU Z n0 h0 z fm) (Ea : Exa Z h0 a "java/lang/String") (V0 : Fld Z h0 a "java/lang/String" "value" "[B" .null) (C0 : Fld Z h0 a "java/lang/String" "coder" "B" (.int (0 : Int32))) (ga : n0 ≤ a) (nca : ca ≠ a) (Ac : Arv Z h0 ca ka .char (3 : Int32) [(.int c0), (.int c1), (.int c2)] (.int 0)) (r16 : ∀ c ∈ [c0, c1, c2], ¬ c < 0 ∧ ¬ (65535 : Int32) < c) :
    own_M l (⟨"java/lang/String", "<init>", "([CIILjava/lang/Void;)V"⟩ : MethodName) jdk_42_method_149_code 6 none ws ({ frames := 4, cells := 2, slots := 75, locals := 57 } : Room) #[(.ref a), (.ref ca), (.int (0 : Int32)), (.int (3 : Int32)), .null] Z h0 (QN4_3 Z a ca ka c0 c1 c2 z fm h0 n0) := by
  refine MetFree.of_bodySF (plainFor_of_name pn_1) hisR ?_
  intro p e s m args below meth cd s₁ Bd hml hP hK
  obtain ⟨rfl, hZ, hh⟩ := hP
  obtain ⟨X0, e0, H, hlk, hown, hret⟩ := own_start (R := ({ frames := 4, cells := 2, slots := 75, locals := 57 } : Room)) Bd hh rfl
  have hx := H.1; have hby := H.2; have N0 := Fr.nil n0
  obtain ⟨hz, O, SC, SA, SH, SL, SF, hfm⟩ := PU
  have hnm := (name_of_methodNamed Bd.named Bd.method).1
  show own_Fin p e below (own_Ans s (QN4_3 Z a ca ka c0 c1 c2 z fm h0 n0) ({ frames := 4, cells := 2, slots := 75, locals := 57 } : Room).cells ({ frames := 4, cells := 2, slots := 75, locals := 57 } : Room).slots) (s₁.setTop (entryFrame m #[(.ref a), (.ref ca), (.int (0 : Int32)), (.int (3 : Int32)), .null] 6))
  refine own_cast (ef_rmN4_3 m a ca (0 : Int32) (3 : Int32)) ?_
  show own_Fin p e below _ (s₁.setTop (mkF m 0 #[.val (.ref a), .val (.ref ca), .val (.int (0 : Int32)), .val (.int (3 : Int32)), .val .null, .unset] []))
  refine o_aldN X0 H (od dB3 0 rfl) rfl rfl ?_
  obtain ⟨T349, X349, e349, st349⟩ := initO X0 hx hZ hown (ow hw 16 rfl) (ow hw 17 rfl) (ow hw 18 rfl) e0 (g := (mkF m 1 #[.val (.ref a), .val (.ref ca), .val (.int (0 : Int32)), .val (.int (3 : Int32)), .val .null, .unset] [(.ref a)])) rfl (by rw [hml]; rfl) rfl (hb hby (od dB3 1 rfl)) (by decide) (W := 0) (by show 2 * 0 + _ ≤ _; exact Nat.le_of_eq rfl) (by decide)
  refine own_on st349 ?_
  show own_Fin p e below _ (T349.setTop (mkF m 4 #[.val (.ref a), .val (.ref ca), .val (.int (0 : Int32)), .val (.int (3 : Int32)), .val .null, .unset] []))
  refine o_ildN X349 H (od dB3 2 rfl) rfl ?_
  refine o_ifY X349 H (od dB3 3 rfl) ((if0 _ _).trans (feq (by decide : ¬ ((3 : Int32) = (0 : Int32)))).2) (pc' := 27) (by decide) (by decide) ?_
  refine o_gs X349 H hZ hown (ow hw 44 rfl) Via.refl e349 (SC.ext O.2) (od dB3 13 rfl) fun T350 X350 e350 => ?_
  refine o_ifN X350 H (od dB3 14 rfl) ((if0 _ _).trans (feq hz).1) ?_
  refine o_aldN X350 H (od dB3 15 rfl) rfl rfl ?_
  refine o_ildN X350 H (od dB3 16 rfl) rfl ?_
  refine o_ildN X350 H (od dB3 17 rfl) rfl ?_
  refine o_tc (argsL := [(.ref ca), (.int (0 : Int32)), (.int (3 : Int32))]) (rest := []) X350 H hml hZ hown (ow hw 110 rfl) (ow hw 111 rfl) (ow hw 112 rfl) (ow hw 113 rfl) (backOf (W := 0) (rmC3_3 l Z a0 hw [] ca ka c0 c1 c2 z fm h0 n0 (by exact Z0) ⟨hz, O, SC, SA, SH, SL, SF, hfm⟩ Ac r16) hZ (ow hw 113 rfl) (ow hw 112 rfl) (by decide) (by decide)) (by decide) e350 pd_30 (od dB3 18 rfl) rfl rfl rfl rfl rfl (by decide) (by decide) fun _ T351 Lc351 X351 hQ351 => ?_
  obtain ⟨x351, kx351, co351, nx351, vs351, rfl, N351q, K351, gn351, gk351, cod351, Aq351⟩ := hQ351
  have ne351_ca : ca ≠ x351 := Nat.ne_of_lt (Nat.lt_of_lt_of_le Ac.lt gk351)
  have ne351_a : a ≠ x351 := Nat.ne_of_lt (Nat.lt_of_lt_of_le Ea.lt gk351)
  have N351 := Fr.app N0 N351q
  show own_Fin p e below _ (T351.setTop (mkF m 39 #[.val (.ref a), .val (.ref ca), .val (.int (0 : Int32)), .val (.int (3 : Int32)), .val .null, .unset] [(.ref x351)]))
  refine o_ast X351 H (od dB3 19 rfl) (L' := #[.val (.ref a), .val (.ref ca), .val (.int (0 : Int32)), .val (.int (3 : Int32)), .val .null, .val (.ref x351)]) rfl rfl ?_
  refine o_aldN X351 H (od dB3 20 rfl) rfl rfl ?_
  refine o_ald X351 H (od dB3 21 rfl) rfl rfl ?_
  refine o_ildN X351 H (od dB3 22 rfl) rfl ?_
  refine o_tc (argsL := [(.ref x351), (.int (3 : Int32))]) (rest := [(.ref a)]) X351 H hml hZ hown (ow hw 117 rfl) (ow hw 118 rfl) (ow hw 112 rfl) (ow hw 119 rfl) (backOf (W := 1) (rm21 l Z a0 hw [] x351 3 kx351 ([c0, c1, c2]) co351 nx351 vs351 T351.heap n0 (by exact (Nat.le_trans Z0 K351.1)) Aq351 cod351 rfl (by decide) (by decide)) hZ (ow hw 119 rfl) (ow hw 112 rfl) (by decide) (by decide)) (by decide) rfl pd_31 (od dB3 23 rfl) rfl rfl rfl rfl rfl (by decide) (by decide) (o_pk (fun _ _ _ q => q) N351 fun T352 Lc352 X352 N352 e352 => ?_)
  obtain ⟨T353, h353, X353, e353, W353, st353⟩ := putFN X352 hx hZ hown (ow hw 26 rfl) Via.refl e352 (C0.keep K351 nin0) (Ea.keep K351) (Or.inr ⟨(ow hw 22 rfl), rfl, hnm⟩) (ow hw 6 rfl) (ty := .byte) (v' := (.int (nar .byte co351))) (by decide) rfl (fits_nar_byte _) (g := (mkF m 48 #[.val (.ref a), .val (.ref ca), .val (.int (0 : Int32)), .val (.int (3 : Int32)), .val .null, .val (.ref x351)] [(.int co351), (.ref a)])) rfl rfl (hb hby (od dB3 24 rfl))
  have N353 := Fr.snoc X353 N352 ga
  have y354 := ((V0.keep K351 nin0).other W353 (Or.inr (slot_ne (Or.inr (ow hw 21 rfl)) (Or.inr (ow hw 22 rfl)) (by decide) (t := (.array .byte)) (t' := .byte) (by decide) (by decide))))
  refine own_on st353 ?_
  show own_Fin p e below _ (T353.setTop (mkF m 51 #[.val (.ref a), .val (.ref ca), .val (.int (0 : Int32)), .val (.int (3 : Int32)), .val .null, .val (.ref x351)] []))
  refine o_aldN X353 H (od dB3 25 rfl) rfl rfl ?_
  refine o_ald X353 H (od dB3 26 rfl) rfl rfl ?_
  obtain ⟨T355, h355, X355, e355, W355, st355⟩ := putF X353 hx hZ hown (host := "") (Or.inl (ow hw 25 rfl)) Via.refl e353 y354 ((Ea.keep K351).wr W353) (Or.inr ⟨(ow hw 21 rfl), rfl, hnm⟩) (ow hw 6 rfl) (ty := (.array .byte)) (by decide) rfl rfl (g := (mkF m 54 #[.val (.ref a), .val (.ref ca), .val (.int (0 : Int32)), .val (.int (3 : Int32)), .val .null, .val (.ref x351)] [(.ref x351), (.ref a)])) rfl rfl (hb hby (od dB3 27 rfl))
  have N355 := Fr.snoc X355 N353 ga
  have y356 := ((((Keep.refl h0 [a]).trans K351 all0).wr W353 (Or.inl (List.mem_of_getElem? (i := 0) rfl))).wr W355 (Or.inl (List.mem_of_getElem? (i := 0) rfl)))
  have y357 := (((C0.keep K351 nin0).same W353).other W355 (Or.inr (slot_ne (Or.inr (ow hw 22 rfl)) (Or.inr (ow hw 21 rfl)) (by decide) (t := .byte) (t' := (.array .byte)) (by decide) (by decide))))
  refine own_on st355 ?_
  show own_Fin p e below _ (T355.setTop (mkF m 57 #[.val (.ref a), .val (.ref ca), .val (.int (0 : Int32)), .val (.int (3 : Int32)), .val .null, .val (.ref x351)] []))
  exact own_retV X355 hx hlk hret (hb hby (od dB3 28 rfl)) (by show QN4_3 Z a ca ka c0 c1 c2 z fm h0 n0 _ T355.heap _; rw [e355]; exact ⟨x351, kx351, co351, nx351, vs351, rfl, N355, y356, cod351, (((Ea.keep K351).wr W353).wr W355), (by have q := y357; rw [own_narcd (own_cd01 cod351)] at q; exact q), (y354.same W355), ((Aq351.other W353 (Ne.symm ne351_a)).other W355 (Ne.symm ne351_a))⟩) (by decide) (by decide)
theorem dB2 : oL jdk_42_method_3_code [(0, .aload_n 0, 1), (1, .aload_n 1, 1), (2, .iconst 0, 1), (3, .aload_n 1, 1), (4, .arraylength, 1), (5, .aconst_null, 1), (6, .invokespecial 27, 3), (9, .return_, 1)] := by unfold oL; decide +kernel
theorem pd_32 : parseMethodDescriptor "([CIILjava/lang/Void;)V" = some ⟨[(.array .char), .int, .int, (.object "java/lang/Void")], none⟩ := by decide +kernel
theorem ef_rmN1_1 (m : MethodId) (x0 : Addr) (x1 : Addr) : entryFrame m #[(.ref x0), (.ref x1)] 2 = mkF m 0 #[.val (.ref x0), .val (.ref x1)] [] := by first | (simp [entryFrame, mkF, argsToLocals, Value.category]; done) | rfl
def QN1_1 (Z : State) (a : Addr) (ca : Addr) (ka : ClassId) (c0 : Int32) (z : Int32) (fm : Value) (h0 : Heap) (n0 : Nat) (v : Option Value) (h : Heap) (L : List Loc) : Prop := ∃ (x : Addr) (kx : ClassId) (co nx : Int32) (vs : List Value), v = none ∧ Fr n0 L ∧ Keep h0 h [a] ∧ StrChars.Road.CodA [c0] co nx vs ∧ Exa Z h a "java/lang/String" ∧ Fld Z h a "java/lang/String" "coder" "B" (.int co) ∧ Fld Z h a "java/lang/String" "value" "[B" (.ref x) ∧ Arv Z h x kx .byte nx vs (.int 0)
set_option maxRecDepth 65536 in
set_option maxHeartbeats 40000000 in
theorem rmN1_1 (l : Launch) (Z : State) (a0 : Array Value) (hw : ∀ d ∈ tables_1, d.before a0 Z = true) (ws : List Jvm.Cond) (a : Addr) (ca : Addr) (ka : ClassId) (c0 : Int32) (z : Int32) (fm : Value) (h0 : Heap) (n0 : Nat) (Z0 : n0 ≤ h0.size) (PU : own_PU Z n0 h0 z fm) (Ea : Exa Z h0 a "java/lang/String") (V0 : Fld Z h0 a "java/lang/String" "value" "[B" .null) (C0 : Fld Z h0 a "java/lang/String" "coder" "B" (.int (0 : Int32))) (ga : n0 ≤ a) (nca : ca ≠ a) (Ac : Arv Z h0 ca ka .char (1 : Int32) [(.int c0)] (.int 0)) (r16 : ∀ c ∈ [c0], ¬ c < 0 ∧ ¬ (65535 : Int32) < c) :
    own_M l (⟨"java/lang/String", "<init>", "([C)V"⟩ : MethodName) jdk_42_method_3_code 2 none ws ({ frames := 5, cells := 2, slots := 73, locals := 74 } : Room) #[(.ref a), (.ref ca)] Z h0 (QN1_1 Z a ca ka c0 z fm h0 n0) := by
  refine MetFree.of_bodySF (plainFor_of_name pn_1) hisR ?_
  intro p e s m args below meth cd s₁ Bd hml hP hK
  obtain ⟨rfl, hZ, hh⟩ := hP
  obtain ⟨X0, e0, H, hlk, hown, hret⟩ := own_start (R := ({ frames := 5, cells := 2, slots := 73, locals := 74 } : Room)) Bd hh rfl
  have hx := H.1; have hby := H.2; have N0 := Fr.nil n0
  obtain ⟨hz, O, SC, SA, SH, SL, SF, hfm⟩ := PU
  show own_Fin p e below (own_Ans s (QN1_1 Z a ca ka c0 z fm h0 n0) ({ frames := 5, cells := 2, slots := 73, locals := 74 } : Room).cells ({ frames := 5, cells := 2, slots := 73, locals := 74 } : Room).slots) (s₁.setTop (entryFrame m #[(.ref a), (.ref ca)] 2))
  refine own_cast (ef_rmN1_1 m a ca) ?_
  show own_Fin p e below _ (s₁.setTop (mkF m 0 #[.val (.ref a), .val (.ref ca)] []))
  refine o_aldN X0 H (od dB2 0 rfl) rfl rfl ?_
  refine o_aldN X0 H (od dB2 1 rfl) rfl rfl ?_
  refine o_ic X0 H (od dB2 2 rfl) (v := 0) rfl ?_
  refine o_aldN X0 H (od dB2 3 rfl) rfl rfl ?_
  have cp358 := Ac
  obtain ⟨cl358, Ar358, q358, S358, G358, H358, F358⟩ := cp358
  refine own_on (fun tq => X0.arraylength hx (by rw [e0]; exact Ar358.1) (State.isArrayOf_alike hZ.alike Ar358.2.1) (g := (mkF m 4 #[.val (.ref a), .val (.ref ca)] [(.ref ca), (.int (0 : Int32)), (.ref ca), (.ref a)])) rfl rfl (hb hby (od dB2 4 rfl)) tq) ?_
  rw [len_of S358 G358]
  show own_Fin p e below _ (s₁.setTop (mkF m 5 #[.val (.ref a), .val (.ref ca)] [(.int (1 : Int32)), (.int (0 : Int32)), (.ref ca), (.ref a)]))
  refine o_nul X0 H (od dB2 5 rfl) ?_
  refine o_sc (b := a) (argsL := [(.ref ca), (.int (0 : Int32)), (.int (1 : Int32)), .null]) (rest := []) X0 H hml hZ hown (ow hw 12 rfl) (ow hw 13 rfl) (ow hw 15 rfl) (backOf (W := 0) (rmN4_1 l Z a0 hw [] a ca ka c0 z fm h0 n0 (by exact Z0) ⟨hz, O, SC, SA, SH, SL, SF, hfm⟩ Ea V0 C0 ga nca Ac r16) hZ (ow hw 15 rfl) (ow hw 7 rfl) (by decide) (by decide)) rfl (by decide) e0 pd_32 (od dB2 6 rfl) rfl rfl rfl rfl rfl (by decide) (by decide) fun _ T359 Lc359 X359 hQ359 => ?_
  obtain ⟨x359, kx359, co359, nx359, vs359, rfl, N359q, K359, cod359, Eq359, Cq359, Vq359, Aq359⟩ := hQ359
  have N359 := Fr.app N0 N359q
  show own_Fin p e below _ (T359.setTop (mkF m 9 #[.val (.ref a), .val (.ref ca)] []))
  exact own_retV X359 hx hlk hret (hb hby (od dB2 7 rfl)) (by show QN1_1 Z a ca ka c0 z fm h0 n0 _ T359.heap _; exact ⟨x359, kx359, co359, nx359, vs359, rfl, N359, ((Keep.refl h0 [a]).trans K359 (allS (Or.inl (List.mem_of_getElem? (i := 0) rfl)) all0)), cod359, Eq359, Cq359, Vq359, Aq359⟩) (by decide) (by decide)
theorem ef_rmN1_2 (m : MethodId) (x0 : Addr) (x1 : Addr) : entryFrame m #[(.ref x0), (.ref x1)] 2 = mkF m 0 #[.val (.ref x0), .val (.ref x1)] [] := by first | (simp [entryFrame, mkF, argsToLocals, Value.category]; done) | rfl
def QN1_2 (Z : State) (a : Addr) (ca : Addr) (ka : ClassId) (c0 : Int32) (c1 : Int32) (z : Int32) (fm : Value) (h0 : Heap) (n0 : Nat) (v : Option Value) (h : Heap) (L : List Loc) : Prop := ∃ (x : Addr) (kx : ClassId) (co nx : Int32) (vs : List Value), v = none ∧ Fr n0 L ∧ Keep h0 h [a] ∧ StrChars.Road.CodA [c0, c1] co nx vs ∧ Exa Z h a "java/lang/String" ∧ Fld Z h a "java/lang/String" "coder" "B" (.int co) ∧ Fld Z h a "java/lang/String" "value" "[B" (.ref x) ∧ Arv Z h x kx .byte nx vs (.int 0)
set_option maxRecDepth 65536 in
set_option maxHeartbeats 40000000 in
theorem rmN1_2 (l : Launch) (Z : State) (a0 : Array Value) (hw : ∀ d ∈ tables_1, d.before a0 Z = true) (ws : List Jvm.Cond) (a : Addr) (ca : Addr) (ka : ClassId) (c0 : Int32) (c1 : Int32) (z : Int32) (fm : Value) (h0 : Heap) (n0 : Nat) (Z0 : n0 ≤ h0.size) (PU : own_PU Z n0 h0 z fm) (Ea : Exa Z h0 a "java/lang/String") (V0 : Fld Z h0 a "java/lang/String" "value" "[B" .null) (C0 : Fld Z h0 a "java/lang/String" "coder" "B" (.int (0 : Int32))) (ga : n0 ≤ a) (nca : ca ≠ a) (Ac : Arv Z h0 ca ka .char (2 : Int32) [(.int c0), (.int c1)] (.int 0)) (r16 : ∀ c ∈ [c0, c1], ¬ c < 0 ∧ ¬ (65535 : Int32) < c) :
    own_M l (⟨"java/lang/String", "<init>", "([C)V"⟩ : MethodName) jdk_42_method_3_code 2 none ws ({ frames := 5, cells := 2, slots := 74, locals := 74 } : Room) #[(.ref a), (.ref ca)] Z h0 (QN1_2 Z a ca ka c0 c1 z fm h0 n0) := by
  refine MetFree.of_bodySF (plainFor_of_name pn_1) hisR ?_
  intro p e s m args below meth cd s₁ Bd hml hP hK
  obtain ⟨rfl, hZ, hh⟩ := hP
  obtain ⟨X0, e0, H, hlk, hown, hret⟩ := own_start (R := ({ frames := 5, cells := 2, slots := 74, locals := 74 } : Room)) Bd hh rfl
  have hx := H.1; have hby := H.2; have N0 := Fr.nil n0
  obtain ⟨hz, O, SC, SA, SH, SL, SF, hfm⟩ := PU
  show own_Fin p e below (own_Ans s (QN1_2 Z a ca ka c0 c1 z fm h0 n0) ({ frames := 5, cells := 2, slots := 74, locals := 74 } : Room).cells ({ frames := 5, cells := 2, slots := 74, locals := 74 } : Room).slots) (s₁.setTop (entryFrame m #[(.ref a), (.ref ca)] 2))
  refine own_cast (ef_rmN1_2 m a ca) ?_
  show own_Fin p e below _ (s₁.setTop (mkF m 0 #[.val (.ref a), .val (.ref ca)] []))
  refine o_aldN X0 H (od dB2 0 rfl) rfl rfl ?_
  refine o_aldN X0 H (od dB2 1 rfl) rfl rfl ?_
  refine o_ic X0 H (od dB2 2 rfl) (v := 0) rfl ?_
  refine o_aldN X0 H (od dB2 3 rfl) rfl rfl ?_
  have cp360 := Ac
  obtain ⟨cl360, Ar360, q360, S360, G360, H360, F360⟩ := cp360
  refine own_on (fun tq => X0.arraylength hx (by rw [e0]; exact Ar360.1) (State.isArrayOf_alike hZ.alike Ar360.2.1) (g := (mkF m 4 #[.val (.ref a), .val (.ref ca)] [(.ref ca), (.int (0 : Int32)), (.ref ca), (.ref a)])) rfl rfl (hb hby (od dB2 4 rfl)) tq) ?_
  rw [len_of S360 G360]
  show own_Fin p e below _ (s₁.setTop (mkF m 5 #[.val (.ref a), .val (.ref ca)] [(.int (2 : Int32)), (.int (0 : Int32)), (.ref ca), (.ref a)]))
  refine o_nul X0 H (od dB2 5 rfl) ?_
  refine o_sc (b := a) (argsL := [(.ref ca), (.int (0 : Int32)), (.int (2 : Int32)), .null]) (rest := []) X0 H hml hZ hown (ow hw 12 rfl) (ow hw 13 rfl) (ow hw 15 rfl) (backOf (W := 0) (rmN4_2 l Z a0 hw [] a ca ka c0 c1 z fm h0 n0 (by exact Z0) ⟨hz, O, SC, SA, SH, SL, SF, hfm⟩ Ea V0 C0 ga nca Ac r16) hZ (ow hw 15 rfl) (ow hw 7 rfl) (by decide) (by decide)) rfl (by decide) e0 pd_32 (od dB2 6 rfl) rfl rfl rfl rfl rfl (by decide) (by decide) fun _ T361 Lc361 X361 hQ361 => ?_
  obtain ⟨x361, kx361, co361, nx361, vs361, rfl, N361q, K361, cod361, Eq361, Cq361, Vq361, Aq361⟩ := hQ361
  have N361 := Fr.app N0 N361q
  show own_Fin p e below _ (T361.setTop (mkF m 9 #[.val (.ref a), .val (.ref ca)] []))
  exact own_retV X361 hx hlk hret (hb hby (od dB2 7 rfl)) (by show QN1_2 Z a ca ka c0 c1 z fm h0 n0 _ T361.heap _; exact ⟨x361, kx361, co361, nx361, vs361, rfl, N361, ((Keep.refl h0 [a]).trans K361 (allS (Or.inl (List.mem_of_getElem? (i := 0) rfl)) all0)), cod361, Eq361, Cq361, Vq361, Aq361⟩) (by decide) (by decide)
theorem ef_rmN1_3 (m : MethodId) (x0 : Addr) (x1 : Addr) : entryFrame m #[(.ref x0), (.ref x1)] 2 = mkF m 0 #[.val (.ref x0), .val (.ref x1)] [] := by first | (simp [entryFrame, mkF, argsToLocals, Value.category]; done) | rfl
def QN1_3 (Z : State) (a : Addr) (ca : Addr) (ka : ClassId) (c0 : Int32) (c1 : Int32) (c2 : Int32) (z : Int32) (fm : Value) (h0 : Heap) (n0 : Nat) (v : Option Value) (h : Heap) (L : List Loc) : Prop := ∃ (x : Addr) (kx : ClassId) (co nx : Int32) (vs : List Value), v = none ∧ Fr n0 L ∧ Keep h0 h [a] ∧ StrChars.Road.CodA [c0, c1, c2] co nx vs ∧ Exa Z h a "java/lang/String" ∧ Fld Z h a "java/lang/String" "coder" "B" (.int co) ∧ Fld Z h a "java/lang/String" "value" "[B" (.ref x) ∧ Arv Z h x kx .byte nx vs (.int 0)
set_option maxRecDepth 65536 in
set_option maxHeartbeats 40000000 in
theorem rmN1_3 (l : Launch) (Z : State) (a0 : Array Value) (hw : ∀ d ∈ tables_1, d.before a0 Z = true) (ws : List Jvm.Cond) (a : Addr) (ca : Addr) (ka : ClassId) (c0 : Int32) (c1 : Int32) (c2 : Int32) (z : Int32) (fm : Value) (h0 : Heap) (n0 : Nat) (Z0 : n0 ≤ h0.size) (PU : own_PU Z n0 h0 z fm) (Ea : Exa Z h0 a "java/lang/String") (V0 : Fld Z h0 a "java/lang/String" "value" "[B" .null) (C0 : Fld Z h0 a "java/lang/String" "coder" "B" (.int (0 : Int32))) (ga : n0 ≤ a) (nca : ca ≠ a) (Ac : Arv Z h0 ca ka .char (3 : Int32) [(.int c0), (.int c1), (.int c2)] (.int 0)) (r16 : ∀ c ∈ [c0, c1, c2], ¬ c < 0 ∧ ¬ (65535 : Int32) < c) :
    own_M l (⟨"java/lang/String", "<init>", "([C)V"⟩ : MethodName) jdk_42_method_3_code 2 none ws ({ frames := 5, cells := 2, slots := 75, locals := 74 } : Room) #[(.ref a), (.ref ca)] Z h0 (QN1_3 Z a ca ka c0 c1 c2 z fm h0 n0) := by
  refine MetFree.of_bodySF (plainFor_of_name pn_1) hisR ?_
  intro p e s m args below meth cd s₁ Bd hml hP hK
  obtain ⟨rfl, hZ, hh⟩ := hP
  obtain ⟨X0, e0, H, hlk, hown, hret⟩ := own_start (R := ({ frames := 5, cells := 2, slots := 75, locals := 74 } : Room)) Bd hh rfl
  have hx := H.1; have hby := H.2; have N0 := Fr.nil n0
  obtain ⟨hz, O, SC, SA, SH, SL, SF, hfm⟩ := PU
  show own_Fin p e below (own_Ans s (QN1_3 Z a ca ka c0 c1 c2 z fm h0 n0) ({ frames := 5, cells := 2, slots := 75, locals := 74 } : Room).cells ({ frames := 5, cells := 2, slots := 75, locals := 74 } : Room).slots) (s₁.setTop (entryFrame m #[(.ref a), (.ref ca)] 2))
  refine own_cast (ef_rmN1_3 m a ca) ?_
  show own_Fin p e below _ (s₁.setTop (mkF m 0 #[.val (.ref a), .val (.ref ca)] []))
  refine o_aldN X0 H (od dB2 0 rfl) rfl rfl ?_
  refine o_aldN X0 H (od dB2 1 rfl) rfl rfl ?_
  refine o_ic X0 H (od dB2 2 rfl) (v := 0) rfl ?_
  refine o_aldN X0 H (od dB2 3 rfl) rfl rfl ?_
  have cp362 := Ac
  obtain ⟨cl362, Ar362, q362, S362, G362, H362, F362⟩ := cp362
  refine own_on (fun tq => X0.arraylength hx (by rw [e0]; exact Ar362.1) (State.isArrayOf_alike hZ.alike Ar362.2.1) (g := (mkF m 4 #[.val (.ref a), .val (.ref ca)] [(.ref ca), (.int (0 : Int32)), (.ref ca), (.ref a)])) rfl rfl (hb hby (od dB2 4 rfl)) tq) ?_
  rw [len_of S362 G362]
  show own_Fin p e below _ (s₁.setTop (mkF m 5 #[.val (.ref a), .val (.ref ca)] [(.int (3 : Int32)), (.int (0 : Int32)), (.ref ca), (.ref a)]))
  refine o_nul X0 H (od dB2 5 rfl) ?_
  refine o_sc (b := a) (argsL := [(.ref ca), (.int (0 : Int32)), (.int (3 : Int32)), .null]) (rest := []) X0 H hml hZ hown (ow hw 12 rfl) (ow hw 13 rfl) (ow hw 15 rfl) (backOf (W := 0) (rmN4_3 l Z a0 hw [] a ca ka c0 c1 c2 z fm h0 n0 (by exact Z0) ⟨hz, O, SC, SA, SH, SL, SF, hfm⟩ Ea V0 C0 ga nca Ac r16) hZ (ow hw 15 rfl) (ow hw 7 rfl) (by decide) (by decide)) rfl (by decide) e0 pd_32 (od dB2 6 rfl) rfl rfl rfl rfl rfl (by decide) (by decide) fun _ T363 Lc363 X363 hQ363 => ?_
  obtain ⟨x363, kx363, co363, nx363, vs363, rfl, N363q, K363, cod363, Eq363, Cq363, Vq363, Aq363⟩ := hQ363
  have N363 := Fr.app N0 N363q
  show own_Fin p e below _ (T363.setTop (mkF m 9 #[.val (.ref a), .val (.ref ca)] []))
  exact own_retV X363 hx hlk hret (hb hby (od dB2 7 rfl)) (by show QN1_3 Z a ca ka c0 c1 c2 z fm h0 n0 _ T363.heap _; exact ⟨x363, kx363, co363, nx363, vs363, rfl, N363, ((Keep.refl h0 [a]).trans K363 (allS (Or.inl (List.mem_of_getElem? (i := 0) rfl)) all0)), cod363, Eq363, Cq363, Vq363, Aq363⟩) (by decide) (by decide)
theorem pn_8 : plainName "com/example/brasswire/brasswire/page/HtmlEscapePinLaw" = true := by first | (simp [plainName, overriddenIn]; done) | decide +kernel
theorem dB1 : oL method_3_code [(0, .iload_n 0, 1), (1, .ldc 36, 2), (3, .iand, 1), (4, .ifCond .eq 9, 3), (7, .iload_n 0, 1), (8, .ldc 37, 2), (10, .iand, 1), (11, .i2c, 1), (12, .ireturn, 1), (13, .iload_n 0, 1), (14, .bipush 7, 2), (16, .iand, 1), (17, .istore_n 1, 1), (18, .iload_n 1, 1), (19, .ifCond .ne 6, 3), (22, .bipush 38, 2), (24, .ireturn, 1), (25, .iload_n 1, 1), (26, .iconst 1, 1), (27, .if_icmp .ne 6, 3), (30, .bipush 60, 2), (32, .ireturn, 1), (33, .iload_n 1, 1), (34, .iconst 2, 1), (35, .if_icmp .ne 6, 3), (38, .bipush 62, 2), (40, .ireturn, 1), (41, .iload_n 1, 1), (42, .iconst 3, 1), (43, .if_icmp .ne 6, 3), (46, .bipush 34, 2), (48, .ireturn, 1), (49, .iload_n 1, 1), (50, .iconst 4, 1), (51, .if_icmp .ne 6, 3), (54, .bipush 39, 2), (56, .ireturn, 1), (57, .iload_n 1, 1), (58, .iconst 5, 1), (59, .if_icmp .ne 12, 3), (62, .iload_n 0, 1), (63, .iconst 3, 1), (64, .iushr, 1), (65, .sipush 255, 3), (68, .iand, 1), (69, .i2c, 1), (70, .ireturn, 1), (71, .iload_n 1, 1), (72, .bipush 6, 2), (74, .if_icmp .ne 6, 3), (77, .bipush 59, 2), (79, .ireturn, 1), (80, .bipush 35, 2), (82, .ireturn, 1)] := by unfold oL; decide +kernel
theorem ef_rm1 (m : MethodId) (x0 : Int32) : entryFrame m #[(.int x0)] 2 = mkF m 0 #[.val (.int x0), .unset] [] := by first | (simp [entryFrame, mkF, argsToLocals, Value.category]; done) | rfl
def Q1 (Z : State) (q1 : Int32) (h0 : Heap) (n0 : Nat) (v : Option Value) (h : Heap) (L : List Loc) : Prop := ∃ c : Int32, v = some (.int c) ∧ Fr n0 L ∧ h = h0 ∧ (¬ c < 0 ∧ ¬ (65535 : Int32) < c)
set_option maxRecDepth 65536 in
set_option maxHeartbeats 40000000 in
theorem rm1 (l : Launch) (Z : State) (a0 : Array Value) (hw : ∀ d ∈ tables_1, d.before a0 Z = true) (ws : List Jvm.Cond) (q1 : Int32) (h0 : Heap) (n0 : Nat) (Z0 : n0 ≤ h0.size) :
    own_M l (⟨"com/example/brasswire/brasswire/page/HtmlEscapePinLaw", "draw", "(I)C"⟩ : MethodName) method_3_code 2 (some .char) ws ({ frames := 0, cells := 0, slots := 0, locals := 0 } : Room) #[(.int q1)] Z h0 (Q1 Z q1 h0 n0) := by
  refine MetFree.of_bodySF (plainFor_of_name pn_8) hisR ?_
  intro p e s m args below meth cd s₁ Bd hml hP hK
  obtain ⟨rfl, hZ, hh⟩ := hP
  obtain ⟨X0, e0, H, hlk, hown, hret⟩ := own_start (R := ({ frames := 0, cells := 0, slots := 0, locals := 0 } : Room)) Bd hh rfl
  have hx := H.1; have hby := H.2; have N0 := Fr.nil n0
  show own_Fin p e below (own_Ans s (Q1 Z q1 h0 n0) ({ frames := 0, cells := 0, slots := 0, locals := 0 } : Room).cells ({ frames := 0, cells := 0, slots := 0, locals := 0 } : Room).slots) (s₁.setTop (entryFrame m #[(.int q1)] 2))
  refine own_cast (ef_rm1 m q1) ?_
  show own_Fin p e below _ (s₁.setTop (mkF m 0 #[.val (.int q1), .unset] []))
  refine o_ildN X0 H (od dB1 0 rfl) rfl ?_
  refine own_on (fun tq => X0.ldcInt hx hown (mvT hZ (ow hw 4 rfl)) (g := (mkF m 1 #[.val (.int q1), .unset] [(.int q1)])) rfl (hb hby (od dB1 1 rfl)) tq) ?_
  show own_Fin p e below _ (s₁.setTop (mkF m 3 #[.val (.int q1), .unset] [(.int (65536 : Int32)), (.int q1)]))
  refine o_iand X0 H (od dB1 2 rfl) ?_
  by_cases hc364 : (q1 &&& (65536 : Int32)) = (0 : Int32)
  · refine o_ifY X0 H (od dB1 3 rfl) ((if0 _ _).trans (teq hc364).1) (pc' := 13) (by decide) (by decide) ?_
    refine o_ildN X0 H (od dB1 9 rfl) rfl ?_
    refine o_bi X0 H (od dB1 10 rfl) (v := 7) rfl ?_
    refine o_iand X0 H (od dB1 11 rfl) ?_
    refine o_istN X0 H (od dB1 12 rfl) (L' := #[.val (.int q1), .val (.int (q1 &&& (7 : Int32)))]) rfl ?_
    refine o_ildN X0 H (od dB1 13 rfl) rfl ?_
    by_cases hc365 : (q1 &&& (7 : Int32)) = (0 : Int32)
    · refine o_ifN X0 H (od dB1 14 rfl) ((if0 _ _).trans (teq hc365).2) ?_
      refine o_bi X0 H (od dB1 15 rfl) (v := 38) rfl ?_
      exact own_ret (t := .char) X0 hx hlk hret rfl (Or.inl ⟨rfl, (by simp), _, rfl⟩) (hb hby (od dB1 16 rfl)) (⟨_, rfl, N0, e0, (by decide)⟩) (by decide) (by decide)
    · refine o_ifY X0 H (od dB1 14 rfl) ((if0 _ _).trans (feq hc365).2) (pc' := 25) (by decide) (by decide) ?_
      refine o_ildN X0 H (od dB1 17 rfl) rfl ?_
      refine o_ic X0 H (od dB1 18 rfl) (v := 1) rfl ?_
      by_cases hc366 : (q1 &&& (7 : Int32)) = (1 : Int32)
      · refine o_icN X0 H (od dB1 19 rfl) (teq hc366).2 ?_
        refine o_bi X0 H (od dB1 20 rfl) (v := 60) rfl ?_
        exact own_ret (t := .char) X0 hx hlk hret rfl (Or.inl ⟨rfl, (by simp), _, rfl⟩) (hb hby (od dB1 21 rfl)) (⟨_, rfl, N0, e0, (by decide)⟩) (by decide) (by decide)
      · refine o_icY X0 H (od dB1 19 rfl) (feq hc366).2 (pc' := 33) (by decide) (by decide) ?_
        refine o_ildN X0 H (od dB1 22 rfl) rfl ?_
        refine o_ic X0 H (od dB1 23 rfl) (v := 2) rfl ?_
        by_cases hc367 : (q1 &&& (7 : Int32)) = (2 : Int32)
        · refine o_icN X0 H (od dB1 24 rfl) (teq hc367).2 ?_
          refine o_bi X0 H (od dB1 25 rfl) (v := 62) rfl ?_
          exact own_ret (t := .char) X0 hx hlk hret rfl (Or.inl ⟨rfl, (by simp), _, rfl⟩) (hb hby (od dB1 26 rfl)) (⟨_, rfl, N0, e0, (by decide)⟩) (by decide) (by decide)
        · refine o_icY X0 H (od dB1 24 rfl) (feq hc367).2 (pc' := 41) (by decide) (by decide) ?_
          refine o_ildN X0 H (od dB1 27 rfl) rfl ?_
          refine o_ic X0 H (od dB1 28 rfl) (v := 3) rfl ?_
          by_cases hc368 : (q1 &&& (7 : Int32)) = (3 : Int32)
          · refine o_icN X0 H (od dB1 29 rfl) (teq hc368).2 ?_
            refine o_bi X0 H (od dB1 30 rfl) (v := 34) rfl ?_
            exact own_ret (t := .char) X0 hx hlk hret rfl (Or.inl ⟨rfl, (by simp), _, rfl⟩) (hb hby (od dB1 31 rfl)) (⟨_, rfl, N0, e0, (by decide)⟩) (by decide) (by decide)
          · refine o_icY X0 H (od dB1 29 rfl) (feq hc368).2 (pc' := 49) (by decide) (by decide) ?_
            refine o_ildN X0 H (od dB1 32 rfl) rfl ?_
            refine o_ic X0 H (od dB1 33 rfl) (v := 4) rfl ?_
            by_cases hc369 : (q1 &&& (7 : Int32)) = (4 : Int32)
            · refine o_icN X0 H (od dB1 34 rfl) (teq hc369).2 ?_
              refine o_bi X0 H (od dB1 35 rfl) (v := 39) rfl ?_
              exact own_ret (t := .char) X0 hx hlk hret rfl (Or.inl ⟨rfl, (by simp), _, rfl⟩) (hb hby (od dB1 36 rfl)) (⟨_, rfl, N0, e0, (by decide)⟩) (by decide) (by decide)
            · refine o_icY X0 H (od dB1 34 rfl) (feq hc369).2 (pc' := 57) (by decide) (by decide) ?_
              refine o_ildN X0 H (od dB1 37 rfl) rfl ?_
              refine o_ic X0 H (od dB1 38 rfl) (v := 5) rfl ?_
              by_cases hc370 : (q1 &&& (7 : Int32)) = (5 : Int32)
              · refine o_icN X0 H (od dB1 39 rfl) (teq hc370).2 ?_
                refine o_ildN X0 H (od dB1 40 rfl) rfl ?_
                refine o_ic X0 H (od dB1 41 rfl) (v := 3) rfl ?_
                refine own_on (fun tq => XS.iushr X0.here hx rfl (hb hby (od dB1 42 rfl)) rfl) ?_
                show own_Fin p e below _ (s₁.setTop (mkF m 65 #[.val (.int q1), .val (.int (q1 &&& (7 : Int32)))] [(.int ((q1.toUInt32 >>> ((3 : Int32) &&& 31).toUInt32).toInt32))]))
                refine o_si X0 H (od dB1 43 rfl) (v := 255) rfl ?_
                refine o_iand X0 H (od dB1 44 rfl) ?_
                refine own_on (fun tq => XS.i2c X0.here hx rfl (hb hby (od dB1 45 rfl)) rfl) ?_
                show own_Fin p e below _ (s₁.setTop (mkF m 70 #[.val (.int q1), .val (.int (q1 &&& (7 : Int32)))] [(.int ((((q1.toUInt32 >>> ((3 : Int32) &&& 31).toUInt32).toInt32) &&& (255 : Int32)).toUInt32.toUInt16.toUInt32.toInt32))]))
                exact own_ret (t := .char) X0 hx hlk hret (StrChars.narrow_ch (own_c16 _).1 (own_c16 _).2) (Or.inl ⟨rfl, (by simp), _, rfl⟩) (hb hby (od dB1 46 rfl)) (⟨_, rfl, N0, e0, (own_c16 _)⟩) (by decide) (by decide)
              · refine o_icY X0 H (od dB1 39 rfl) (feq hc370).2 (pc' := 71) (by decide) (by decide) ?_
                refine o_ildN X0 H (od dB1 47 rfl) rfl ?_
                refine o_bi X0 H (od dB1 48 rfl) (v := 6) rfl ?_
                by_cases hc371 : (q1 &&& (7 : Int32)) = (6 : Int32)
                · refine o_icN X0 H (od dB1 49 rfl) (teq hc371).2 ?_
                  refine o_bi X0 H (od dB1 50 rfl) (v := 59) rfl ?_
                  exact own_ret (t := .char) X0 hx hlk hret rfl (Or.inl ⟨rfl, (by simp), _, rfl⟩) (hb hby (od dB1 51 rfl)) (⟨_, rfl, N0, e0, (by decide)⟩) (by decide) (by decide)
                · refine o_icY X0 H (od dB1 49 rfl) (feq hc371).2 (pc' := 80) (by decide) (by decide) ?_
                  refine o_bi X0 H (od dB1 52 rfl) (v := 35) rfl ?_
                  exact own_ret (t := .char) X0 hx hlk hret rfl (Or.inl ⟨rfl, (by simp), _, rfl⟩) (hb hby (od dB1 53 rfl)) (⟨_, rfl, N0, e0, (by decide)⟩) (by decide) (by decide)
  · refine o_ifN X0 H (od dB1 3 rfl) ((if0 _ _).trans (feq hc364).1) ?_
    refine o_ildN X0 H (od dB1 4 rfl) rfl ?_
    refine own_on (fun tq => X0.ldcInt hx hown (mvT hZ (ow hw 224 rfl)) (g := (mkF m 8 #[.val (.int q1), .unset] [(.int q1)])) rfl (hb hby (od dB1 5 rfl)) tq) ?_
    show own_Fin p e below _ (s₁.setTop (mkF m 10 #[.val (.int q1), .unset] [(.int (65535 : Int32)), (.int q1)]))
    refine o_iand X0 H (od dB1 6 rfl) ?_
    refine own_on (fun tq => XS.i2c X0.here hx rfl (hb hby (od dB1 7 rfl)) rfl) ?_
    show own_Fin p e below _ (s₁.setTop (mkF m 12 #[.val (.int q1), .unset] [(.int ((q1 &&& (65535 : Int32)).toUInt32.toUInt16.toUInt32.toInt32))]))
    exact own_ret (t := .char) X0 hx hlk hret (StrChars.narrow_ch (own_c16 _).1 (own_c16 _).2) (Or.inl ⟨rfl, (by simp), _, rfl⟩) (hb hby (od dB1 8 rfl)) (⟨_, rfl, N0, e0, (own_c16 _)⟩) (by decide) (by decide)
theorem own_e38 {c : Int32} (h : c = (38 : Int32)) : own_esc c = [38, 97, 109, 112, 59] := by subst h; decide
theorem own_e60 {c : Int32} (h : c = (60 : Int32)) : own_esc c = [38, 108, 116, 59] := by subst h; decide
theorem own_e62 {c : Int32} (h : c = (62 : Int32)) : own_esc c = [38, 103, 116, 59] := by subst h; decide
theorem own_e34 {c : Int32} (h : c = (34 : Int32)) : own_esc c = [38, 113, 117, 111, 116, 59] := by subst h; decide
theorem own_e39 {c : Int32} (h : c = (39 : Int32)) : own_esc c = [38, 35, 51, 57, 59] := by subst h; decide
theorem own_eD {c : Int32} (h1 : ¬ c = (38 : Int32)) (h2 : ¬ c = (60 : Int32)) (h3 : ¬ c = (62 : Int32)) (h4 : ¬ c = (34 : Int32)) (h5 : ¬ c = (39 : Int32)) : own_esc c = [c] := by
  unfold own_esc; rw [if_neg h1, if_neg h2, if_neg h3, if_neg h4, if_neg h5]
def own_escs (cs : List Int32) : List Int32 := cs.flatMap own_esc
theorem own_step {cs : List Int32} {i : Nat} (h : i < cs.length) : own_escs (cs.take (i + 1)) = own_escs (cs.take i) ++ own_esc (cs.getD i 0) := by
  have e : cs.take (i + 1) = cs.take i ++ [cs.getD i 0] := by rw [List.take_add_one, List.getD_eq_getElem?_getD, List.getElem?_eq_getElem h]; rfl
  rw [e]; simp [own_escs]
theorem own_escsr {cs : List Int32} (h : ∀ c ∈ cs, ¬ c < 0 ∧ ¬ (65535 : Int32) < c) : ∀ c ∈ own_escs cs, ¬ c < 0 ∧ ¬ (65535 : Int32) < c := by
  intro c hc
  obtain ⟨d, hd, hc'⟩ := List.mem_flatMap.mp hc
  exact own_escr (h d hd) c hc'
theorem own_escst {cs : List Int32} {i : Nat} (h : ∀ c ∈ cs, ¬ c < 0 ∧ ¬ (65535 : Int32) < c) : ∀ c ∈ own_escs (cs.take i), ¬ c < 0 ∧ ¬ (65535 : Int32) < c := own_escsr (fun c q => h c (List.mem_of_mem_take q))
theorem own_cvd {ds : List Int32} {j : Nat} {d : Value} (h : j < ds.length) : (ds.map Value.int).getD j d = .int (ds.getD j 0) := by
  simp [List.getD_eq_getElem?_getD, h]
theorem o_cst {p : Program} {l : Launch} {e : Env} {R : Room} {s : State} {m : MethodId} {args : Array Value} {below : List Frame} {meth : Method} {c : Code} {T : State} {locs : List Loc} {cells slots : Nat} {P : Outcome → State → Prop} {code : ByteArray} {pc : Nat} {L : Array Slot} {S : List Value} {Z : State} {hp : Heap} {a : Addr} {kw : ClassId} {es : List Int32} {k : Nat} {v i : Int32} (X : Stand p l e R s m args below meth c T locs cells slots) (H : p.tables.exec = Jvm.exec ∧ c.code = code) (hZ : Z.Warmed39 s.vm) (eT : T.heap = hp) (A : Arv Z hp a kw .char (18 : Int32) (es.map Value.int) (.int 0)) (hk : es.length = k) (hk' : k < 18) (hi : i = Int32.ofNat k) (hv : nar .char v = v) (d : decode code pc = .ok (.castore, 1))
    (h : ∀ (T' : State) (h' : Heap), Stand p l e R s m args below meth c T' (locs ++ [⟨a, i.toNatClampNeg⟩]) cells slots → T'.heap = h' → Wr hp h' a i.toNatClampNeg (.int (nar .char v)) → Arv Z h' a kw .char (18 : Int32) ((es ++ [v]).map Value.int) (.int 0) → own_Fin p e below P (T'.setTop (mkF m (pc + 1) L S))) : own_Fin p e below P (T.setTop (mkF m pc L (.int v :: .int i :: .ref a :: S))) := by
  subst hi
  have cp : Arv Z hp a kw .char (18 : Int32) ((es.map Value.int) ++ List.replicate (18 - k) (.int 0)) (.int 0) := A.pad (pad_rep _ _ _)
  obtain ⟨cl, Ar, q, S', G, H', F⟩ := cp
  have hin : ¬ (Int32.ofNat k < 0 ∨ cl.slots.size ≤ (Int32.ofNat k).toNatClampNeg) := inb_of S' ⟨own_nneg (by omega), own_olt (b := 18) (by omega) (by decide)⟩
  obtain ⟨T', h', X', e', W, st⟩ := stC X H.1 hZ eT Ar (j := Int32.ofNat k) hin (g := mkF m pc L (.int v :: .int (Int32.ofNat k) :: .ref a :: S)) rfl rfl (hb H.2 d)
  have V := Arv.set Ar q S' G H' F (fits_nar_char _) W k (own_clampN (by omega)) (by rw [List.length_append, List.length_map, List.length_replicate]; omega)
  rw [hv] at V
  refine own_on st (h T' h' X' e' W (V.pad fun i => ?_))
  rw [List.map_append]
  exact own_setE (.int v) (by rw [List.length_map, hk]) (by omega) i
theorem dB22 : oL method_4_code [(0, .iload_n 2, 1), (1, .bipush 38, 2), (3, .if_icmp .ne 40, 3), (6, .aload_n 0, 1), (7, .iload_n 1, 1), (8, .bipush 38, 2), (10, .castore, 1), (11, .aload_n 0, 1), (12, .iload_n 1, 1), (13, .iconst 1, 1), (14, .iadd, 1), (15, .bipush 97, 2), (17, .castore, 1), (18, .aload_n 0, 1), (19, .iload_n 1, 1), (20, .iconst 2, 1), (21, .iadd, 1), (22, .bipush 109, 2), (24, .castore, 1), (25, .aload_n 0, 1), (26, .iload_n 1, 1), (27, .iconst 3, 1), (28, .iadd, 1), (29, .bipush 112, 2), (31, .castore, 1), (32, .aload_n 0, 1), (33, .iload_n 1, 1), (34, .iconst 4, 1), (35, .iadd, 1), (36, .bipush 59, 2), (38, .castore, 1), (39, .iload_n 1, 1), (40, .iconst 5, 1), (41, .iadd, 1), (42, .ireturn, 1), (43, .iload_n 2, 1), (44, .bipush 60, 2), (46, .if_icmp .ne 33, 3), (49, .aload_n 0, 1), (50, .iload_n 1, 1), (51, .bipush 38, 2), (53, .castore, 1), (54, .aload_n 0, 1), (55, .iload_n 1, 1), (56, .iconst 1, 1), (57, .iadd, 1), (58, .bipush 108, 2), (60, .castore, 1), (61, .aload_n 0, 1), (62, .iload_n 1, 1), (63, .iconst 2, 1), (64, .iadd, 1), (65, .bipush 116, 2), (67, .castore, 1), (68, .aload_n 0, 1), (69, .iload_n 1, 1), (70, .iconst 3, 1), (71, .iadd, 1), (72, .bipush 59, 2), (74, .castore, 1), (75, .iload_n 1, 1), (76, .iconst 4, 1), (77, .iadd, 1), (78, .ireturn, 1), (79, .iload_n 2, 1), (80, .bipush 62, 2), (82, .if_icmp .ne 33, 3), (85, .aload_n 0, 1), (86, .iload_n 1, 1), (87, .bipush 38, 2), (89, .castore, 1), (90, .aload_n 0, 1), (91, .iload_n 1, 1), (92, .iconst 1, 1), (93, .iadd, 1), (94, .bipush 103, 2), (96, .castore, 1), (97, .aload_n 0, 1), (98, .iload_n 1, 1), (99, .iconst 2, 1), (100, .iadd, 1), (101, .bipush 116, 2), (103, .castore, 1), (104, .aload_n 0, 1), (105, .iload_n 1, 1), (106, .iconst 3, 1), (107, .iadd, 1), (108, .bipush 59, 2), (110, .castore, 1), (111, .iload_n 1, 1), (112, .iconst 4, 1), (113, .iadd, 1), (114, .ireturn, 1), (115, .iload_n 2, 1), (116, .bipush 34, 2), (118, .if_icmp .ne 48, 3), (121, .aload_n 0, 1), (122, .iload_n 1, 1), (123, .bipush 38, 2), (125, .castore, 1), (126, .aload_n 0, 1), (127, .iload_n 1, 1), (128, .iconst 1, 1), (129, .iadd, 1), (130, .bipush 113, 2), (132, .castore, 1), (133, .aload_n 0, 1), (134, .iload_n 1, 1), (135, .iconst 2, 1), (136, .iadd, 1), (137, .bipush 117, 2), (139, .castore, 1), (140, .aload_n 0, 1), (141, .iload_n 1, 1), (142, .iconst 3, 1), (143, .iadd, 1), (144, .bipush 111, 2), (146, .castore, 1), (147, .aload_n 0, 1), (148, .iload_n 1, 1), (149, .iconst 4, 1), (150, .iadd, 1), (151, .bipush 116, 2), (153, .castore, 1), (154, .aload_n 0, 1), (155, .iload_n 1, 1), (156, .iconst 5, 1), (157, .iadd, 1), (158, .bipush 59, 2), (160, .castore, 1), (161, .iload_n 1, 1), (162, .bipush 6, 2), (164, .iadd, 1), (165, .ireturn, 1), (166, .iload_n 2, 1), (167, .bipush 39, 2), (169, .if_icmp .ne 40, 3), (172, .aload_n 0, 1), (173, .iload_n 1, 1), (174, .bipush 38, 2), (176, .castore, 1), (177, .aload_n 0, 1), (178, .iload_n 1, 1), (179, .iconst 1, 1), (180, .iadd, 1), (181, .bipush 35, 2), (183, .castore, 1), (184, .aload_n 0, 1), (185, .iload_n 1, 1), (186, .iconst 2, 1), (187, .iadd, 1), (188, .bipush 51, 2), (190, .castore, 1), (191, .aload_n 0, 1), (192, .iload_n 1, 1), (193, .iconst 3, 1), (194, .iadd, 1), (195, .bipush 57, 2), (197, .castore, 1), (198, .aload_n 0, 1), (199, .iload_n 1, 1), (200, .iconst 4, 1), (201, .iadd, 1), (202, .bipush 59, 2), (204, .castore, 1), (205, .iload_n 1, 1), (206, .iconst 5, 1), (207, .iadd, 1), (208, .ireturn, 1), (209, .aload_n 0, 1), (210, .iload_n 1, 1), (211, .iload_n 2, 1), (212, .castore, 1), (213, .iload_n 1, 1), (214, .iconst 1, 1), (215, .iadd, 1), (216, .ireturn, 1)] := by unfold oL; decide +kernel
theorem ef_rm22 (m : MethodId) (x0 : Addr) (x1 : Int32) (x2 : Int32) : entryFrame m #[(.ref x0), (.int x1), (.int x2)] 3 = mkF m 0 #[.val (.ref x0), .val (.int x1), .val (.int x2)] [] := by first | (simp [entryFrame, mkF, argsToLocals, Value.category]; done) | rfl
def Q22 (Z : State) (wa : Addr) (c : Int32) (kw : ClassId) (es : List Int32) (k : Nat) (h0 : Heap) (n0 : Nat) (v : Option Value) (h : Heap) (L : List Loc) : Prop := v = some (.int (Int32.ofNat (k + (own_esc c).length))) ∧ Fr n0 L ∧ Keep h0 h [wa] ∧ Arv Z h wa kw .char (18 : Int32) ((es ++ own_esc c).map Value.int) (.int 0)
set_option maxRecDepth 65536 in
set_option maxHeartbeats 40000000 in
theorem rm22 (l : Launch) (Z : State) (a0 : Array Value) (hw : ∀ d ∈ tables_1, d.before a0 Z = true) (ws : List Jvm.Cond) (wa : Addr) (c : Int32) (kw : ClassId) (es : List Int32) (k : Nat) (h0 : Heap) (n0 : Nat) (Z0 : n0 ≤ h0.size) (Aw : Arv Z h0 wa kw .char (18 : Int32) (es.map Value.int) (.int 0)) (gw : n0 ≤ wa) (hk : es.length = k) (hk6 : k + 6 ≤ 18) (rc : ¬ c < 0 ∧ ¬ (65535 : Int32) < c) :
    own_M l (⟨"com/example/brasswire/brasswire/page/HtmlEscapePinLaw", "put", "([CIC)I"⟩ : MethodName) method_4_code 3 (some .int) ws ({ frames := 0, cells := 0, slots := 0, locals := 0 } : Room) #[(.ref wa), (.int (Int32.ofNat k)), (.int c)] Z h0 (Q22 Z wa c kw es k h0 n0) := by
  refine MetFree.of_bodySF (plainFor_of_name pn_8) hisR ?_
  intro p e s m args below meth cd s₁ Bd hml hP hK
  obtain ⟨rfl, hZ, hh⟩ := hP
  obtain ⟨X0, e0, H, hlk, hown, hret⟩ := own_start (R := ({ frames := 0, cells := 0, slots := 0, locals := 0 } : Room)) Bd hh rfl
  have hx := H.1; have hby := H.2; have N0 := Fr.nil n0
  have Aw0 : Arv Z h0 wa kw .char (18 : Int32) ((es ++ ([] : List Int32)).map Value.int) (.int 0) := by rw [List.append_nil]; exact Aw
  have hk0 : (es ++ ([] : List Int32)).length = k := by rw [List.append_nil]; exact hk
  show own_Fin p e below (own_Ans s (Q22 Z wa c kw es k h0 n0) ({ frames := 0, cells := 0, slots := 0, locals := 0 } : Room).cells ({ frames := 0, cells := 0, slots := 0, locals := 0 } : Room).slots) (s₁.setTop (entryFrame m #[(.ref wa), (.int (Int32.ofNat k)), (.int c)] 3))
  refine own_cast (ef_rm22 m wa (Int32.ofNat k) c) ?_
  show own_Fin p e below _ (s₁.setTop (mkF m 0 #[.val (.ref wa), .val (.int (Int32.ofNat k)), .val (.int c)] []))
  refine o_ildN X0 H (od dB22 0 rfl) rfl ?_
  refine o_bi X0 H (od dB22 1 rfl) (v := 38) rfl ?_
  by_cases hc372 : c = (38 : Int32)
  · refine o_icN X0 H (od dB22 2 rfl) (teq hc372).2 ?_
    refine o_aldN X0 H (od dB22 3 rfl) rfl rfl ?_
    refine o_ildN X0 H (od dB22 4 rfl) rfl ?_
    refine o_bi X0 H (od dB22 5 rfl) (v := 38) rfl ?_
    refine o_cst X0 H hZ e0 Aw0 hk0 (by omega) rfl (by decide) (od dB22 6 rfl) fun T373 h373 X373 e373 W373 V373 => ?_
    have N373 := Fr.snoc X373 N0 gw
    have U373 : Arv Z h373 wa kw .char (18 : Int32) ((es ++ [(38 : Int32)]).map Value.int) (.int 0) := by have q := V373; rw [List.append_assoc] at q; exact q
    have l373 : (es ++ [(38 : Int32)]).length = k + 1 := by rw [List.length_append, hk]; rfl
    show own_Fin p e below _ (T373.setTop (mkF m 11 #[.val (.ref wa), .val (.int (Int32.ofNat k)), .val (.int c)] []))
    refine o_aldN X373 H (od dB22 7 rfl) rfl rfl ?_
    refine o_ildN X373 H (od dB22 8 rfl) rfl ?_
    refine o_ic X373 H (od dB22 9 rfl) (v := 1) rfl ?_
    refine o_iadd X373 H (od dB22 10 rfl) ?_
    refine o_bi X373 H (od dB22 11 rfl) (v := 97) rfl ?_
    refine o_cst X373 H hZ e373 U373 l373 (by omega) (own_add k 1) (by decide) (od dB22 12 rfl) fun T374 h374 X374 e374 W374 V374 => ?_
    have N374 := Fr.snoc X374 N373 gw
    have y375 := (((Keep.refl h0 [wa]).wr W373 (Or.inl (List.mem_of_getElem? (i := 0) rfl))).wr W374 (Or.inl (List.mem_of_getElem? (i := 0) rfl)))
    have U374 : Arv Z h374 wa kw .char (18 : Int32) ((es ++ [(38 : Int32), (97 : Int32)]).map Value.int) (.int 0) := by have q := V374; rw [List.append_assoc] at q; exact q
    have l374 : (es ++ [(38 : Int32), (97 : Int32)]).length = k + 2 := by rw [List.length_append, hk]; rfl
    show own_Fin p e below _ (T374.setTop (mkF m 18 #[.val (.ref wa), .val (.int (Int32.ofNat k)), .val (.int c)] []))
    refine o_aldN X374 H (od dB22 13 rfl) rfl rfl ?_
    refine o_ildN X374 H (od dB22 14 rfl) rfl ?_
    refine o_ic X374 H (od dB22 15 rfl) (v := 2) rfl ?_
    refine o_iadd X374 H (od dB22 16 rfl) ?_
    refine o_bi X374 H (od dB22 17 rfl) (v := 109) rfl ?_
    refine o_cst X374 H hZ e374 U374 l374 (by omega) (own_add k 2) (by decide) (od dB22 18 rfl) fun T376 h376 X376 e376 W376 V376 => ?_
    have N376 := Fr.snoc X376 N374 gw
    have U376 : Arv Z h376 wa kw .char (18 : Int32) ((es ++ [(38 : Int32), (97 : Int32), (109 : Int32)]).map Value.int) (.int 0) := by have q := V376; rw [List.append_assoc] at q; exact q
    have l376 : (es ++ [(38 : Int32), (97 : Int32), (109 : Int32)]).length = k + 3 := by rw [List.length_append, hk]; rfl
    show own_Fin p e below _ (T376.setTop (mkF m 25 #[.val (.ref wa), .val (.int (Int32.ofNat k)), .val (.int c)] []))
    refine o_aldN X376 H (od dB22 19 rfl) rfl rfl ?_
    refine o_ildN X376 H (od dB22 20 rfl) rfl ?_
    show own_Fin p e below _ (T376.setTop (mkF m 27 #[.val (.ref wa), .val (.int (Int32.ofNat k)), .val (.int c)] [(.int (Int32.ofNat k)), (.ref wa)]))
    refine o_ic X376 H (od dB22 21 rfl) (v := 3) rfl ?_
    refine o_iadd X376 H (od dB22 22 rfl) ?_
    refine o_bi X376 H (od dB22 23 rfl) (v := 112) rfl ?_
    refine o_cst X376 H hZ e376 U376 l376 (by omega) (own_add k 3) (by decide) (od dB22 24 rfl) fun T377 h377 X377 e377 W377 V377 => ?_
    have N377 := Fr.snoc X377 N376 gw
    have y378 := ((y375.wr W376 (Or.inl (List.mem_of_getElem? (i := 0) rfl))).wr W377 (Or.inl (List.mem_of_getElem? (i := 0) rfl)))
    have y379 := (Nat.le_trans (Nat.le_trans (Nat.le_trans (Nat.le_trans Z0 (Keep.of_wr W373).1) (Keep.of_wr W374).1) (Keep.of_wr W376).1) (Keep.of_wr W377).1)
    have U377 : Arv Z h377 wa kw .char (18 : Int32) ((es ++ [(38 : Int32), (97 : Int32), (109 : Int32), (112 : Int32)]).map Value.int) (.int 0) := by have q := V377; rw [List.append_assoc] at q; exact q
    have l377 : (es ++ [(38 : Int32), (97 : Int32), (109 : Int32), (112 : Int32)]).length = k + 4 := by rw [List.length_append, hk]; rfl
    show own_Fin p e below _ (T377.setTop (mkF m 32 #[.val (.ref wa), .val (.int (Int32.ofNat k)), .val (.int c)] []))
    refine o_aldN X377 H (od dB22 25 rfl) rfl rfl ?_
    refine o_ildN X377 H (od dB22 26 rfl) rfl ?_
    refine o_ic X377 H (od dB22 27 rfl) (v := 4) rfl ?_
    refine o_iadd X377 H (od dB22 28 rfl) ?_
    refine o_bi X377 H (od dB22 29 rfl) (v := 59) rfl ?_
    refine o_cst X377 H hZ e377 U377 l377 (by omega) (own_add k 4) (by decide) (od dB22 30 rfl) fun T380 h380 X380 e380 W380 V380 => ?_
    have N380 := Fr.snoc X380 N377 gw
    have U380 : Arv Z h380 wa kw .char (18 : Int32) ((es ++ [(38 : Int32), (97 : Int32), (109 : Int32), (112 : Int32), (59 : Int32)]).map Value.int) (.int 0) := by have q := V380; rw [List.append_assoc] at q; exact q
    have l380 : (es ++ [(38 : Int32), (97 : Int32), (109 : Int32), (112 : Int32), (59 : Int32)]).length = k + 5 := by rw [List.length_append, hk]; rfl
    show own_Fin p e below _ (T380.setTop (mkF m 39 #[.val (.ref wa), .val (.int (Int32.ofNat k)), .val (.int c)] []))
    refine o_ildN X380 H (od dB22 31 rfl) rfl ?_
    refine o_ic X380 H (od dB22 32 rfl) (v := 5) rfl ?_
    refine o_iadd X380 H (od dB22 33 rfl) ?_
    exact own_ret (t := .int) X380 hx hlk hret rfl (Or.inl ⟨rfl, (by simp), _, rfl⟩) (hb hby (od dB22 34 rfl)) (by show Q22 Z wa c kw es k h0 n0 _ T380.heap _; rw [e380]; exact ⟨(by rw [own_e38 hc372, show Int32.ofNat k + (5 : Int32) = Int32.ofNat (k + 5) from own_add _ 5]; rfl), N380, (y378.wr W380 (Or.inl (List.mem_of_getElem? (i := 0) rfl))), (by rw [own_e38 hc372]; exact U380)⟩) (by decide) (by decide)
  · refine o_icY X0 H (od dB22 2 rfl) (feq hc372).2 (pc' := 43) (by decide) (by decide) ?_
    refine o_ildN X0 H (od dB22 35 rfl) rfl ?_
    refine o_bi X0 H (od dB22 36 rfl) (v := 60) rfl ?_
    by_cases hc381 : c = (60 : Int32)
    · refine o_icN X0 H (od dB22 37 rfl) (teq hc381).2 ?_
      refine o_aldN X0 H (od dB22 38 rfl) rfl rfl ?_
      refine o_ildN X0 H (od dB22 39 rfl) rfl ?_
      refine o_bi X0 H (od dB22 40 rfl) (v := 38) rfl ?_
      refine o_cst X0 H hZ e0 Aw0 hk0 (by omega) rfl (by decide) (od dB22 41 rfl) fun T382 h382 X382 e382 W382 V382 => ?_
      have N382 := Fr.snoc X382 N0 gw
      have U382 : Arv Z h382 wa kw .char (18 : Int32) ((es ++ [(38 : Int32)]).map Value.int) (.int 0) := by have q := V382; rw [List.append_assoc] at q; exact q
      have l382 : (es ++ [(38 : Int32)]).length = k + 1 := by rw [List.length_append, hk]; rfl
      show own_Fin p e below _ (T382.setTop (mkF m 54 #[.val (.ref wa), .val (.int (Int32.ofNat k)), .val (.int c)] []))
      refine o_aldN X382 H (od dB22 42 rfl) rfl rfl ?_
      refine o_ildN X382 H (od dB22 43 rfl) rfl ?_
      refine o_ic X382 H (od dB22 44 rfl) (v := 1) rfl ?_
      refine o_iadd X382 H (od dB22 45 rfl) ?_
      refine o_bi X382 H (od dB22 46 rfl) (v := 108) rfl ?_
      refine o_cst X382 H hZ e382 U382 l382 (by omega) (own_add k 1) (by decide) (od dB22 47 rfl) fun T383 h383 X383 e383 W383 V383 => ?_
      have N383 := Fr.snoc X383 N382 gw
      have y384 := (((Keep.refl h0 [wa]).wr W382 (Or.inl (List.mem_of_getElem? (i := 0) rfl))).wr W383 (Or.inl (List.mem_of_getElem? (i := 0) rfl)))
      have U383 : Arv Z h383 wa kw .char (18 : Int32) ((es ++ [(38 : Int32), (108 : Int32)]).map Value.int) (.int 0) := by have q := V383; rw [List.append_assoc] at q; exact q
      have l383 : (es ++ [(38 : Int32), (108 : Int32)]).length = k + 2 := by rw [List.length_append, hk]; rfl
      show own_Fin p e below _ (T383.setTop (mkF m 61 #[.val (.ref wa), .val (.int (Int32.ofNat k)), .val (.int c)] []))
      refine o_aldN X383 H (od dB22 48 rfl) rfl rfl ?_
      refine o_ildN X383 H (od dB22 49 rfl) rfl ?_
      refine o_ic X383 H (od dB22 50 rfl) (v := 2) rfl ?_
      refine o_iadd X383 H (od dB22 51 rfl) ?_
      refine o_bi X383 H (od dB22 52 rfl) (v := 116) rfl ?_
      refine o_cst X383 H hZ e383 U383 l383 (by omega) (own_add k 2) (by decide) (od dB22 53 rfl) fun T385 h385 X385 e385 W385 V385 => ?_
      have N385 := Fr.snoc X385 N383 gw
      have U385 : Arv Z h385 wa kw .char (18 : Int32) ((es ++ [(38 : Int32), (108 : Int32), (116 : Int32)]).map Value.int) (.int 0) := by have q := V385; rw [List.append_assoc] at q; exact q
      have l385 : (es ++ [(38 : Int32), (108 : Int32), (116 : Int32)]).length = k + 3 := by rw [List.length_append, hk]; rfl
      show own_Fin p e below _ (T385.setTop (mkF m 68 #[.val (.ref wa), .val (.int (Int32.ofNat k)), .val (.int c)] []))
      refine o_aldN X385 H (od dB22 54 rfl) rfl rfl ?_
      refine o_ildN X385 H (od dB22 55 rfl) rfl ?_
      show own_Fin p e below _ (T385.setTop (mkF m 70 #[.val (.ref wa), .val (.int (Int32.ofNat k)), .val (.int c)] [(.int (Int32.ofNat k)), (.ref wa)]))
      refine o_ic X385 H (od dB22 56 rfl) (v := 3) rfl ?_
      refine o_iadd X385 H (od dB22 57 rfl) ?_
      refine o_bi X385 H (od dB22 58 rfl) (v := 59) rfl ?_
      refine o_cst X385 H hZ e385 U385 l385 (by omega) (own_add k 3) (by decide) (od dB22 59 rfl) fun T386 h386 X386 e386 W386 V386 => ?_
      have N386 := Fr.snoc X386 N385 gw
      have y387 := ((y384.wr W385 (Or.inl (List.mem_of_getElem? (i := 0) rfl))).wr W386 (Or.inl (List.mem_of_getElem? (i := 0) rfl)))
      have y388 := (Nat.le_trans (Nat.le_trans (Nat.le_trans (Nat.le_trans Z0 (Keep.of_wr W382).1) (Keep.of_wr W383).1) (Keep.of_wr W385).1) (Keep.of_wr W386).1)
      have U386 : Arv Z h386 wa kw .char (18 : Int32) ((es ++ [(38 : Int32), (108 : Int32), (116 : Int32), (59 : Int32)]).map Value.int) (.int 0) := by have q := V386; rw [List.append_assoc] at q; exact q
      have l386 : (es ++ [(38 : Int32), (108 : Int32), (116 : Int32), (59 : Int32)]).length = k + 4 := by rw [List.length_append, hk]; rfl
      show own_Fin p e below _ (T386.setTop (mkF m 75 #[.val (.ref wa), .val (.int (Int32.ofNat k)), .val (.int c)] []))
      refine o_ildN X386 H (od dB22 60 rfl) rfl ?_
      refine o_ic X386 H (od dB22 61 rfl) (v := 4) rfl ?_
      refine o_iadd X386 H (od dB22 62 rfl) ?_
      exact own_ret (t := .int) X386 hx hlk hret rfl (Or.inl ⟨rfl, (by simp), _, rfl⟩) (hb hby (od dB22 63 rfl)) (by show Q22 Z wa c kw es k h0 n0 _ T386.heap _; rw [e386]; exact ⟨(by rw [own_e60 hc381, show Int32.ofNat k + (4 : Int32) = Int32.ofNat (k + 4) from own_add _ 4]; rfl), N386, y387, (by rw [own_e60 hc381]; exact U386)⟩) (by decide) (by decide)
    · refine o_icY X0 H (od dB22 37 rfl) (feq hc381).2 (pc' := 79) (by decide) (by decide) ?_
      refine o_ildN X0 H (od dB22 64 rfl) rfl ?_
      refine o_bi X0 H (od dB22 65 rfl) (v := 62) rfl ?_
      by_cases hc389 : c = (62 : Int32)
      · refine o_icN X0 H (od dB22 66 rfl) (teq hc389).2 ?_
        refine o_aldN X0 H (od dB22 67 rfl) rfl rfl ?_
        refine o_ildN X0 H (od dB22 68 rfl) rfl ?_
        refine o_bi X0 H (od dB22 69 rfl) (v := 38) rfl ?_
        refine o_cst X0 H hZ e0 Aw0 hk0 (by omega) rfl (by decide) (od dB22 70 rfl) fun T390 h390 X390 e390 W390 V390 => ?_
        have N390 := Fr.snoc X390 N0 gw
        have U390 : Arv Z h390 wa kw .char (18 : Int32) ((es ++ [(38 : Int32)]).map Value.int) (.int 0) := by have q := V390; rw [List.append_assoc] at q; exact q
        have l390 : (es ++ [(38 : Int32)]).length = k + 1 := by rw [List.length_append, hk]; rfl
        show own_Fin p e below _ (T390.setTop (mkF m 90 #[.val (.ref wa), .val (.int (Int32.ofNat k)), .val (.int c)] []))
        refine o_aldN X390 H (od dB22 71 rfl) rfl rfl ?_
        refine o_ildN X390 H (od dB22 72 rfl) rfl ?_
        refine o_ic X390 H (od dB22 73 rfl) (v := 1) rfl ?_
        refine o_iadd X390 H (od dB22 74 rfl) ?_
        refine o_bi X390 H (od dB22 75 rfl) (v := 103) rfl ?_
        refine o_cst X390 H hZ e390 U390 l390 (by omega) (own_add k 1) (by decide) (od dB22 76 rfl) fun T391 h391 X391 e391 W391 V391 => ?_
        have N391 := Fr.snoc X391 N390 gw
        have y392 := (((Keep.refl h0 [wa]).wr W390 (Or.inl (List.mem_of_getElem? (i := 0) rfl))).wr W391 (Or.inl (List.mem_of_getElem? (i := 0) rfl)))
        have U391 : Arv Z h391 wa kw .char (18 : Int32) ((es ++ [(38 : Int32), (103 : Int32)]).map Value.int) (.int 0) := by have q := V391; rw [List.append_assoc] at q; exact q
        have l391 : (es ++ [(38 : Int32), (103 : Int32)]).length = k + 2 := by rw [List.length_append, hk]; rfl
        show own_Fin p e below _ (T391.setTop (mkF m 97 #[.val (.ref wa), .val (.int (Int32.ofNat k)), .val (.int c)] []))
        refine o_aldN X391 H (od dB22 77 rfl) rfl rfl ?_
        refine o_ildN X391 H (od dB22 78 rfl) rfl ?_
        refine o_ic X391 H (od dB22 79 rfl) (v := 2) rfl ?_
        refine o_iadd X391 H (od dB22 80 rfl) ?_
        refine o_bi X391 H (od dB22 81 rfl) (v := 116) rfl ?_
        refine o_cst X391 H hZ e391 U391 l391 (by omega) (own_add k 2) (by decide) (od dB22 82 rfl) fun T393 h393 X393 e393 W393 V393 => ?_
        have N393 := Fr.snoc X393 N391 gw
        have U393 : Arv Z h393 wa kw .char (18 : Int32) ((es ++ [(38 : Int32), (103 : Int32), (116 : Int32)]).map Value.int) (.int 0) := by have q := V393; rw [List.append_assoc] at q; exact q
        have l393 : (es ++ [(38 : Int32), (103 : Int32), (116 : Int32)]).length = k + 3 := by rw [List.length_append, hk]; rfl
        show own_Fin p e below _ (T393.setTop (mkF m 104 #[.val (.ref wa), .val (.int (Int32.ofNat k)), .val (.int c)] []))
        refine o_aldN X393 H (od dB22 83 rfl) rfl rfl ?_
        refine o_ildN X393 H (od dB22 84 rfl) rfl ?_
        show own_Fin p e below _ (T393.setTop (mkF m 106 #[.val (.ref wa), .val (.int (Int32.ofNat k)), .val (.int c)] [(.int (Int32.ofNat k)), (.ref wa)]))
        refine o_ic X393 H (od dB22 85 rfl) (v := 3) rfl ?_
        refine o_iadd X393 H (od dB22 86 rfl) ?_
        refine o_bi X393 H (od dB22 87 rfl) (v := 59) rfl ?_
        refine o_cst X393 H hZ e393 U393 l393 (by omega) (own_add k 3) (by decide) (od dB22 88 rfl) fun T394 h394 X394 e394 W394 V394 => ?_
        have N394 := Fr.snoc X394 N393 gw
        have y395 := ((y392.wr W393 (Or.inl (List.mem_of_getElem? (i := 0) rfl))).wr W394 (Or.inl (List.mem_of_getElem? (i := 0) rfl)))
        have y396 := (Nat.le_trans (Nat.le_trans (Nat.le_trans (Nat.le_trans Z0 (Keep.of_wr W390).1) (Keep.of_wr W391).1) (Keep.of_wr W393).1) (Keep.of_wr W394).1)
        have U394 : Arv Z h394 wa kw .char (18 : Int32) ((es ++ [(38 : Int32), (103 : Int32), (116 : Int32), (59 : Int32)]).map Value.int) (.int 0) := by have q := V394; rw [List.append_assoc] at q; exact q
        have l394 : (es ++ [(38 : Int32), (103 : Int32), (116 : Int32), (59 : Int32)]).length = k + 4 := by rw [List.length_append, hk]; rfl
        show own_Fin p e below _ (T394.setTop (mkF m 111 #[.val (.ref wa), .val (.int (Int32.ofNat k)), .val (.int c)] []))
        refine o_ildN X394 H (od dB22 89 rfl) rfl ?_
        refine o_ic X394 H (od dB22 90 rfl) (v := 4) rfl ?_
        refine o_iadd X394 H (od dB22 91 rfl) ?_
        exact own_ret (t := .int) X394 hx hlk hret rfl (Or.inl ⟨rfl, (by simp), _, rfl⟩) (hb hby (od dB22 92 rfl)) (by show Q22 Z wa c kw es k h0 n0 _ T394.heap _; rw [e394]; exact ⟨(by rw [own_e62 hc389, show Int32.ofNat k + (4 : Int32) = Int32.ofNat (k + 4) from own_add _ 4]; rfl), N394, y395, (by rw [own_e62 hc389]; exact U394)⟩) (by decide) (by decide)
      · refine o_icY X0 H (od dB22 66 rfl) (feq hc389).2 (pc' := 115) (by decide) (by decide) ?_
        refine o_ildN X0 H (od dB22 93 rfl) rfl ?_
        refine o_bi X0 H (od dB22 94 rfl) (v := 34) rfl ?_
        by_cases hc397 : c = (34 : Int32)
        · refine o_icN X0 H (od dB22 95 rfl) (teq hc397).2 ?_
          refine o_aldN X0 H (od dB22 96 rfl) rfl rfl ?_
          refine o_ildN X0 H (od dB22 97 rfl) rfl ?_
          refine o_bi X0 H (od dB22 98 rfl) (v := 38) rfl ?_
          refine o_cst X0 H hZ e0 Aw0 hk0 (by omega) rfl (by decide) (od dB22 99 rfl) fun T398 h398 X398 e398 W398 V398 => ?_
          have N398 := Fr.snoc X398 N0 gw
          have U398 : Arv Z h398 wa kw .char (18 : Int32) ((es ++ [(38 : Int32)]).map Value.int) (.int 0) := by have q := V398; rw [List.append_assoc] at q; exact q
          have l398 : (es ++ [(38 : Int32)]).length = k + 1 := by rw [List.length_append, hk]; rfl
          show own_Fin p e below _ (T398.setTop (mkF m 126 #[.val (.ref wa), .val (.int (Int32.ofNat k)), .val (.int c)] []))
          refine o_aldN X398 H (od dB22 100 rfl) rfl rfl ?_
          refine o_ildN X398 H (od dB22 101 rfl) rfl ?_
          refine o_ic X398 H (od dB22 102 rfl) (v := 1) rfl ?_
          refine o_iadd X398 H (od dB22 103 rfl) ?_
          refine o_bi X398 H (od dB22 104 rfl) (v := 113) rfl ?_
          refine o_cst X398 H hZ e398 U398 l398 (by omega) (own_add k 1) (by decide) (od dB22 105 rfl) fun T399 h399 X399 e399 W399 V399 => ?_
          have N399 := Fr.snoc X399 N398 gw
          have y400 := (((Keep.refl h0 [wa]).wr W398 (Or.inl (List.mem_of_getElem? (i := 0) rfl))).wr W399 (Or.inl (List.mem_of_getElem? (i := 0) rfl)))
          have U399 : Arv Z h399 wa kw .char (18 : Int32) ((es ++ [(38 : Int32), (113 : Int32)]).map Value.int) (.int 0) := by have q := V399; rw [List.append_assoc] at q; exact q
          have l399 : (es ++ [(38 : Int32), (113 : Int32)]).length = k + 2 := by rw [List.length_append, hk]; rfl
          show own_Fin p e below _ (T399.setTop (mkF m 133 #[.val (.ref wa), .val (.int (Int32.ofNat k)), .val (.int c)] []))
          refine o_aldN X399 H (od dB22 106 rfl) rfl rfl ?_
          refine o_ildN X399 H (od dB22 107 rfl) rfl ?_
          refine o_ic X399 H (od dB22 108 rfl) (v := 2) rfl ?_
          refine o_iadd X399 H (od dB22 109 rfl) ?_
          refine o_bi X399 H (od dB22 110 rfl) (v := 117) rfl ?_
          refine o_cst X399 H hZ e399 U399 l399 (by omega) (own_add k 2) (by decide) (od dB22 111 rfl) fun T401 h401 X401 e401 W401 V401 => ?_
          have N401 := Fr.snoc X401 N399 gw
          have U401 : Arv Z h401 wa kw .char (18 : Int32) ((es ++ [(38 : Int32), (113 : Int32), (117 : Int32)]).map Value.int) (.int 0) := by have q := V401; rw [List.append_assoc] at q; exact q
          have l401 : (es ++ [(38 : Int32), (113 : Int32), (117 : Int32)]).length = k + 3 := by rw [List.length_append, hk]; rfl
          show own_Fin p e below _ (T401.setTop (mkF m 140 #[.val (.ref wa), .val (.int (Int32.ofNat k)), .val (.int c)] []))
          refine o_aldN X401 H (od dB22 112 rfl) rfl rfl ?_
          refine o_ildN X401 H (od dB22 113 rfl) rfl ?_
          show own_Fin p e below _ (T401.setTop (mkF m 142 #[.val (.ref wa), .val (.int (Int32.ofNat k)), .val (.int c)] [(.int (Int32.ofNat k)), (.ref wa)]))
          refine o_ic X401 H (od dB22 114 rfl) (v := 3) rfl ?_
          refine o_iadd X401 H (od dB22 115 rfl) ?_
          refine o_bi X401 H (od dB22 116 rfl) (v := 111) rfl ?_
          refine o_cst X401 H hZ e401 U401 l401 (by omega) (own_add k 3) (by decide) (od dB22 117 rfl) fun T402 h402 X402 e402 W402 V402 => ?_
          have N402 := Fr.snoc X402 N401 gw
          have y403 := ((y400.wr W401 (Or.inl (List.mem_of_getElem? (i := 0) rfl))).wr W402 (Or.inl (List.mem_of_getElem? (i := 0) rfl)))
          have y404 := (Nat.le_trans (Nat.le_trans (Nat.le_trans (Nat.le_trans Z0 (Keep.of_wr W398).1) (Keep.of_wr W399).1) (Keep.of_wr W401).1) (Keep.of_wr W402).1)
          have U402 : Arv Z h402 wa kw .char (18 : Int32) ((es ++ [(38 : Int32), (113 : Int32), (117 : Int32), (111 : Int32)]).map Value.int) (.int 0) := by have q := V402; rw [List.append_assoc] at q; exact q
          have l402 : (es ++ [(38 : Int32), (113 : Int32), (117 : Int32), (111 : Int32)]).length = k + 4 := by rw [List.length_append, hk]; rfl
          show own_Fin p e below _ (T402.setTop (mkF m 147 #[.val (.ref wa), .val (.int (Int32.ofNat k)), .val (.int c)] []))
          refine o_aldN X402 H (od dB22 118 rfl) rfl rfl ?_
          refine o_ildN X402 H (od dB22 119 rfl) rfl ?_
          refine o_ic X402 H (od dB22 120 rfl) (v := 4) rfl ?_
          refine o_iadd X402 H (od dB22 121 rfl) ?_
          refine o_bi X402 H (od dB22 122 rfl) (v := 116) rfl ?_
          refine o_cst X402 H hZ e402 U402 l402 (by omega) (own_add k 4) (by decide) (od dB22 123 rfl) fun T405 h405 X405 e405 W405 V405 => ?_
          have N405 := Fr.snoc X405 N402 gw
          have U405 : Arv Z h405 wa kw .char (18 : Int32) ((es ++ [(38 : Int32), (113 : Int32), (117 : Int32), (111 : Int32), (116 : Int32)]).map Value.int) (.int 0) := by have q := V405; rw [List.append_assoc] at q; exact q
          have l405 : (es ++ [(38 : Int32), (113 : Int32), (117 : Int32), (111 : Int32), (116 : Int32)]).length = k + 5 := by rw [List.length_append, hk]; rfl
          show own_Fin p e below _ (T405.setTop (mkF m 154 #[.val (.ref wa), .val (.int (Int32.ofNat k)), .val (.int c)] []))
          refine o_aldN X405 H (od dB22 124 rfl) rfl rfl ?_
          refine o_ildN X405 H (od dB22 125 rfl) rfl ?_
          refine o_ic X405 H (od dB22 126 rfl) (v := 5) rfl ?_
          refine o_iadd X405 H (od dB22 127 rfl) ?_
          refine o_bi X405 H (od dB22 128 rfl) (v := 59) rfl ?_
          refine o_cst X405 H hZ e405 U405 l405 (by omega) (own_add k 5) (by decide) (od dB22 129 rfl) fun T406 h406 X406 e406 W406 V406 => ?_
          have N406 := Fr.snoc X406 N405 gw
          have y407 := ((y403.wr W405 (Or.inl (List.mem_of_getElem? (i := 0) rfl))).wr W406 (Or.inl (List.mem_of_getElem? (i := 0) rfl)))
          have U406 : Arv Z h406 wa kw .char (18 : Int32) ((es ++ [(38 : Int32), (113 : Int32), (117 : Int32), (111 : Int32), (116 : Int32), (59 : Int32)]).map Value.int) (.int 0) := by have q := V406; rw [List.append_assoc] at q; exact q
          have l406 : (es ++ [(38 : Int32), (113 : Int32), (117 : Int32), (111 : Int32), (116 : Int32), (59 : Int32)]).length = k + 6 := by rw [List.length_append, hk]; rfl
          show own_Fin p e below _ (T406.setTop (mkF m 161 #[.val (.ref wa), .val (.int (Int32.ofNat k)), .val (.int c)] []))
          refine o_ildN X406 H (od dB22 130 rfl) rfl ?_
          refine o_bi X406 H (od dB22 131 rfl) (v := 6) rfl ?_
          show own_Fin p e below _ (T406.setTop (mkF m 164 #[.val (.ref wa), .val (.int (Int32.ofNat k)), .val (.int c)] [(.int (6 : Int32)), (.int (Int32.ofNat k))]))
          refine o_iadd X406 H (od dB22 132 rfl) ?_
          exact own_ret (t := .int) X406 hx hlk hret rfl (Or.inl ⟨rfl, (by simp), _, rfl⟩) (hb hby (od dB22 133 rfl)) (by show Q22 Z wa c kw es k h0 n0 _ T406.heap _; rw [e406]; exact ⟨(by rw [own_e34 hc397, show Int32.ofNat k + (6 : Int32) = Int32.ofNat (k + 6) from own_add _ 6]; rfl), N406, y407, (by rw [own_e34 hc397]; exact U406)⟩) (by decide) (by decide)
        · refine o_icY X0 H (od dB22 95 rfl) (feq hc397).2 (pc' := 166) (by decide) (by decide) ?_
          refine o_ildN X0 H (od dB22 134 rfl) rfl ?_
          refine o_bi X0 H (od dB22 135 rfl) (v := 39) rfl ?_
          by_cases hc408 : c = (39 : Int32)
          · refine o_icN X0 H (od dB22 136 rfl) (teq hc408).2 ?_
            refine o_aldN X0 H (od dB22 137 rfl) rfl rfl ?_
            refine o_ildN X0 H (od dB22 138 rfl) rfl ?_
            refine o_bi X0 H (od dB22 139 rfl) (v := 38) rfl ?_
            refine o_cst X0 H hZ e0 Aw0 hk0 (by omega) rfl (by decide) (od dB22 140 rfl) fun T409 h409 X409 e409 W409 V409 => ?_
            have N409 := Fr.snoc X409 N0 gw
            have U409 : Arv Z h409 wa kw .char (18 : Int32) ((es ++ [(38 : Int32)]).map Value.int) (.int 0) := by have q := V409; rw [List.append_assoc] at q; exact q
            have l409 : (es ++ [(38 : Int32)]).length = k + 1 := by rw [List.length_append, hk]; rfl
            show own_Fin p e below _ (T409.setTop (mkF m 177 #[.val (.ref wa), .val (.int (Int32.ofNat k)), .val (.int c)] []))
            refine o_aldN X409 H (od dB22 141 rfl) rfl rfl ?_
            refine o_ildN X409 H (od dB22 142 rfl) rfl ?_
            refine o_ic X409 H (od dB22 143 rfl) (v := 1) rfl ?_
            refine o_iadd X409 H (od dB22 144 rfl) ?_
            refine o_bi X409 H (od dB22 145 rfl) (v := 35) rfl ?_
            refine o_cst X409 H hZ e409 U409 l409 (by omega) (own_add k 1) (by decide) (od dB22 146 rfl) fun T410 h410 X410 e410 W410 V410 => ?_
            have N410 := Fr.snoc X410 N409 gw
            have y411 := (((Keep.refl h0 [wa]).wr W409 (Or.inl (List.mem_of_getElem? (i := 0) rfl))).wr W410 (Or.inl (List.mem_of_getElem? (i := 0) rfl)))
            have U410 : Arv Z h410 wa kw .char (18 : Int32) ((es ++ [(38 : Int32), (35 : Int32)]).map Value.int) (.int 0) := by have q := V410; rw [List.append_assoc] at q; exact q
            have l410 : (es ++ [(38 : Int32), (35 : Int32)]).length = k + 2 := by rw [List.length_append, hk]; rfl
            show own_Fin p e below _ (T410.setTop (mkF m 184 #[.val (.ref wa), .val (.int (Int32.ofNat k)), .val (.int c)] []))
            refine o_aldN X410 H (od dB22 147 rfl) rfl rfl ?_
            refine o_ildN X410 H (od dB22 148 rfl) rfl ?_
            refine o_ic X410 H (od dB22 149 rfl) (v := 2) rfl ?_
            refine o_iadd X410 H (od dB22 150 rfl) ?_
            refine o_bi X410 H (od dB22 151 rfl) (v := 51) rfl ?_
            refine o_cst X410 H hZ e410 U410 l410 (by omega) (own_add k 2) (by decide) (od dB22 152 rfl) fun T412 h412 X412 e412 W412 V412 => ?_
            have N412 := Fr.snoc X412 N410 gw
            have U412 : Arv Z h412 wa kw .char (18 : Int32) ((es ++ [(38 : Int32), (35 : Int32), (51 : Int32)]).map Value.int) (.int 0) := by have q := V412; rw [List.append_assoc] at q; exact q
            have l412 : (es ++ [(38 : Int32), (35 : Int32), (51 : Int32)]).length = k + 3 := by rw [List.length_append, hk]; rfl
            show own_Fin p e below _ (T412.setTop (mkF m 191 #[.val (.ref wa), .val (.int (Int32.ofNat k)), .val (.int c)] []))
            refine o_aldN X412 H (od dB22 153 rfl) rfl rfl ?_
            refine o_ildN X412 H (od dB22 154 rfl) rfl ?_
            show own_Fin p e below _ (T412.setTop (mkF m 193 #[.val (.ref wa), .val (.int (Int32.ofNat k)), .val (.int c)] [(.int (Int32.ofNat k)), (.ref wa)]))
            refine o_ic X412 H (od dB22 155 rfl) (v := 3) rfl ?_
            refine o_iadd X412 H (od dB22 156 rfl) ?_
            refine o_bi X412 H (od dB22 157 rfl) (v := 57) rfl ?_
            refine o_cst X412 H hZ e412 U412 l412 (by omega) (own_add k 3) (by decide) (od dB22 158 rfl) fun T413 h413 X413 e413 W413 V413 => ?_
            have N413 := Fr.snoc X413 N412 gw
            have y414 := ((y411.wr W412 (Or.inl (List.mem_of_getElem? (i := 0) rfl))).wr W413 (Or.inl (List.mem_of_getElem? (i := 0) rfl)))
            have y415 := (Nat.le_trans (Nat.le_trans (Nat.le_trans (Nat.le_trans Z0 (Keep.of_wr W409).1) (Keep.of_wr W410).1) (Keep.of_wr W412).1) (Keep.of_wr W413).1)
            have U413 : Arv Z h413 wa kw .char (18 : Int32) ((es ++ [(38 : Int32), (35 : Int32), (51 : Int32), (57 : Int32)]).map Value.int) (.int 0) := by have q := V413; rw [List.append_assoc] at q; exact q
            have l413 : (es ++ [(38 : Int32), (35 : Int32), (51 : Int32), (57 : Int32)]).length = k + 4 := by rw [List.length_append, hk]; rfl
            show own_Fin p e below _ (T413.setTop (mkF m 198 #[.val (.ref wa), .val (.int (Int32.ofNat k)), .val (.int c)] []))
            refine o_aldN X413 H (od dB22 159 rfl) rfl rfl ?_
            refine o_ildN X413 H (od dB22 160 rfl) rfl ?_
            refine o_ic X413 H (od dB22 161 rfl) (v := 4) rfl ?_
            refine o_iadd X413 H (od dB22 162 rfl) ?_
            refine o_bi X413 H (od dB22 163 rfl) (v := 59) rfl ?_
            refine o_cst X413 H hZ e413 U413 l413 (by omega) (own_add k 4) (by decide) (od dB22 164 rfl) fun T416 h416 X416 e416 W416 V416 => ?_
            have N416 := Fr.snoc X416 N413 gw
            have U416 : Arv Z h416 wa kw .char (18 : Int32) ((es ++ [(38 : Int32), (35 : Int32), (51 : Int32), (57 : Int32), (59 : Int32)]).map Value.int) (.int 0) := by have q := V416; rw [List.append_assoc] at q; exact q
            have l416 : (es ++ [(38 : Int32), (35 : Int32), (51 : Int32), (57 : Int32), (59 : Int32)]).length = k + 5 := by rw [List.length_append, hk]; rfl
            show own_Fin p e below _ (T416.setTop (mkF m 205 #[.val (.ref wa), .val (.int (Int32.ofNat k)), .val (.int c)] []))
            refine o_ildN X416 H (od dB22 165 rfl) rfl ?_
            refine o_ic X416 H (od dB22 166 rfl) (v := 5) rfl ?_
            refine o_iadd X416 H (od dB22 167 rfl) ?_
            exact own_ret (t := .int) X416 hx hlk hret rfl (Or.inl ⟨rfl, (by simp), _, rfl⟩) (hb hby (od dB22 168 rfl)) (by show Q22 Z wa c kw es k h0 n0 _ T416.heap _; rw [e416]; exact ⟨(by rw [own_e39 hc408, show Int32.ofNat k + (5 : Int32) = Int32.ofNat (k + 5) from own_add _ 5]; rfl), N416, (y414.wr W416 (Or.inl (List.mem_of_getElem? (i := 0) rfl))), (by rw [own_e39 hc408]; exact U416)⟩) (by decide) (by decide)
          · refine o_icY X0 H (od dB22 136 rfl) (feq hc408).2 (pc' := 209) (by decide) (by decide) ?_
            refine o_aldN X0 H (od dB22 169 rfl) rfl rfl ?_
            refine o_ildN X0 H (od dB22 170 rfl) rfl ?_
            refine o_ildN X0 H (od dB22 171 rfl) rfl ?_
            refine o_cst X0 H hZ e0 Aw0 hk0 (by omega) rfl (own_nar16 rc) (od dB22 172 rfl) fun T417 h417 X417 e417 W417 V417 => ?_
            have N417 := Fr.snoc X417 N0 gw
            have U417 : Arv Z h417 wa kw .char (18 : Int32) ((es ++ [c]).map Value.int) (.int 0) := by have q := V417; rw [List.append_assoc] at q; exact q
            have l417 : (es ++ [c]).length = k + 1 := by rw [List.length_append, hk]; rfl
            show own_Fin p e below _ (T417.setTop (mkF m 213 #[.val (.ref wa), .val (.int (Int32.ofNat k)), .val (.int c)] []))
            refine o_ildN X417 H (od dB22 173 rfl) rfl ?_
            refine o_ic X417 H (od dB22 174 rfl) (v := 1) rfl ?_
            refine o_iadd X417 H (od dB22 175 rfl) ?_
            exact own_ret (t := .int) X417 hx hlk hret rfl (Or.inl ⟨rfl, (by simp), _, rfl⟩) (hb hby (od dB22 176 rfl)) (by show Q22 Z wa c kw es k h0 n0 _ T417.heap _; rw [e417]; exact ⟨(by rw [own_eD hc372 hc381 hc389 hc397 hc408, show Int32.ofNat k + (1 : Int32) = Int32.ofNat (k + 1) from own_add _ 1]; rfl), N417, ((Keep.refl h0 [wa]).wr W417 (Or.inl (List.mem_of_getElem? (i := 0) rfl))), (by rw [own_eD hc372 hc381 hc389 hc397 hc408]; exact U417)⟩) (by decide) (by decide)
theorem dB18 : oL method_5_code [(0, .iload_n 3, 1), (1, .iload_n 2, 1), (2, .if_icmp .ge 14, 3), (5, .aload_n 0, 1), (6, .iload_n 3, 1), (7, .invokevirtual 38, 3), (10, .aload_n 1, 1), (11, .iload_n 3, 1), (12, .caload, 1), (13, .if_icmp .ne 7, 3), (16, .iconst 1, 1), (17, .goto 4, 3), (20, .iconst 0, 1), (21, .ireturn, 1)] := by unfold oL; decide +kernel
theorem pd_33 : parseMethodDescriptor "(I)C" = some ⟨[.int], some .char⟩ := by decide +kernel
theorem ef_rm18 (m : MethodId) (x0 : Addr) (x1 : Addr) (x2 : Int32) (x3 : Int32) : entryFrame m #[(.ref x0), (.ref x1), (.int x2), (.int x3)] 4 = mkF m 0 #[.val (.ref x0), .val (.ref x1), .val (.int x2), .val (.int x3)] [] := by first | (simp [entryFrame, mkF, argsToLocals, Value.category]; done) | rfl
def Q18 (Z : State) (x : Addr) (wa : Addr) (tx : Addr) (kx : ClassId) (cs : List Int32) (co : Int32) (nx : Int32) (vs : List Value) (kw : ClassId) (ln : Nat) (j : Nat) (z : Int32) (fm : Value) (h0 : Heap) (n0 : Nat) (v : Option Value) (h : Heap) (L : List Loc) : Prop := v = some (.int (1 : Int32)) ∧ Fr n0 L ∧ h = h0
set_option maxRecDepth 65536 in
set_option maxHeartbeats 40000000 in
theorem rm18 (l : Launch) (Z : State) (a0 : Array Value) (hw : ∀ d ∈ tables_1, d.before a0 Z = true) (ws : List Jvm.Cond) (x : Addr) (wa : Addr) (tx : Addr) (kx : ClassId) (cs : List Int32) (co : Int32) (nx : Int32) (vs : List Value) (kw : ClassId) (ln : Nat) (j : Nat) (z : Int32) (fm : Value) (h0 : Heap) (n0 : Nat) (Z0 : n0 ≤ h0.size) (PU : own_PU Z n0 h0 z fm) (Ex : Exa Z h0 x "java/lang/String") (Cx : Fld Z h0 x "java/lang/String" "coder" "B" (.int co)) (Vx : Fld Z h0 x "java/lang/String" "value" "[B" (.ref tx)) (Kx : Arv Z h0 tx kx .byte nx vs (.int 0)) (cod : StrChars.Road.CodA cs co nx vs) (hln : cs.length = ln) (hl18 : ln ≤ 18) (r16 : ∀ c ∈ cs, ¬ c < 0 ∧ ¬ (65535 : Int32) < c) (Aw : Arv Z h0 wa kw .char (18 : Int32) (cs.map Value.int) (.int 0)) (hj : j < 18) :
    own_M l (⟨"com/example/brasswire/brasswire/page/HtmlEscapePinLaw", "same", "(Ljava/lang/String;[CII)Z"⟩ : MethodName) method_5_code 4 (some .boolean) ws ({ frames := 5, cells := 0, slots := 0, locals := 66 } : Room) #[(.ref x), (.ref wa), (.int (Int32.ofNat ln)), (.int (Int32.ofNat j))] Z h0 (Q18 Z x wa tx kx cs co nx vs kw ln j z fm h0 n0) := by
  refine MetFree.of_bodySF (plainFor_of_name pn_8) hisR ?_
  intro p e s m args below meth cd s₁ Bd hml hP hK
  obtain ⟨rfl, hZ, hh⟩ := hP
  obtain ⟨X0, e0, H, hlk, hown, hret⟩ := own_start (R := ({ frames := 5, cells := 0, slots := 0, locals := 66 } : Room)) Bd hh rfl
  have hx := H.1; have hby := H.2; have N0 := Fr.nil n0
  obtain ⟨hz, O, SC, SA, SH, SL, SF, hfm⟩ := PU
  show own_Fin p e below (own_Ans s (Q18 Z x wa tx kx cs co nx vs kw ln j z fm h0 n0) ({ frames := 5, cells := 0, slots := 0, locals := 66 } : Room).cells ({ frames := 5, cells := 0, slots := 0, locals := 66 } : Room).slots) (s₁.setTop (entryFrame m #[(.ref x), (.ref wa), (.int (Int32.ofNat ln)), (.int (Int32.ofNat j))] 4))
  refine own_cast (ef_rm18 m x wa (Int32.ofNat ln) (Int32.ofNat j)) ?_
  show own_Fin p e below _ (s₁.setTop (mkF m 0 #[.val (.ref x), .val (.ref wa), .val (.int (Int32.ofNat ln)), .val (.int (Int32.ofNat j))] []))
  refine o_ildN X0 H (od dB18 0 rfl) rfl ?_
  refine o_ildN X0 H (od dB18 1 rfl) rfl ?_
  by_cases hc418 : (Int32.ofNat j) < (Int32.ofNat ln)
  · refine o_icN X0 H (od dB18 2 rfl) (tlt hc418).2.1 ?_
    have hjl : j < ln := own_ltof hc418 (by omega) (by omega)
    refine o_aldN X0 H (od dB18 3 rfl) rfl rfl ?_
    refine o_ildN X0 H (od dB18 4 rfl) rfl ?_
    refine o_vs (argsL := [(.int (Int32.ofNat j))]) (rest := []) X0 H hml hZ hown (ow hw 223 rfl) (ow hw 124 rfl) (ow hw 126 rfl) (ow hw 125 rfl) (backOf (W := 0) (rm23 l Z a0 hw [] x tx kx cs co nx vs j z fm h0 n0 (by exact Z0) ⟨hz, O, SC, SA, SH, SL, SF, hfm⟩ Ex Cx Vx Kx cod (by rw [hln]; omega) (by rw [hln]; omega) r16) hZ (ow hw 127 rfl) (ow hw 7 rfl) (by decide) (by decide)) (by decide) Ex e0 pd_33 (od dB18 5 rfl) rfl rfl rfl rfl rfl (by decide) (by decide) (o_pk (fun _ _ _ q => q) N0 fun T419 Lc419 X419 N419 e419 => ?_)
    refine o_aldN X419 H (od dB18 6 rfl) rfl rfl ?_
    refine o_ildN X419 H (od dB18 7 rfl) rfl ?_
    have cp420 := Aw
    obtain ⟨cl420, Ar420, q420, S420, G420, H420, F420⟩ := cp420
    have hin420 : ¬ ((Int32.ofNat j) < 0 ∨ cl420.slots.size ≤ ((Int32.ofNat j)).toNatClampNeg) := inb_of S420 ⟨own_nneg (by omega), own_olt (b := 18) hj (by decide)⟩
    have hat420 : cl420.slots[((Int32.ofNat j)).toNatClampNeg]? = some (.int (cs.getD j 0)) := H420.at hin420 (by rw [own_clampN (by omega)]; exact own_cvd (by omega))
    refine own_on (fun tq => X419.caload hx (j := (Int32.ofNat j)) (v := (.int (cs.getD j 0))) (by rw [e419]; exact Ar420.1) (State.isArrayOf_alike hZ.alike Ar420.2.1) Ar420.2.2 hin420 hat420 (g := (mkF m 12 #[.val (.ref x), .val (.ref wa), .val (.int (Int32.ofNat ln)), .val (.int (Int32.ofNat j))] [(.int (Int32.ofNat j)), (.ref wa), (.int (cs.getD j 0))])) rfl rfl (hb hby (od dB18 8 rfl)) tq) ?_
    show own_Fin p e below _ (T419.setTop (mkF m 13 #[.val (.ref x), .val (.ref wa), .val (.int (Int32.ofNat ln)), .val (.int (Int32.ofNat j))] [(.int (cs.getD j 0)), (.int (cs.getD j 0))]))
    refine o_icN X419 H (od dB18 9 rfl) (teq rfl).2 ?_
    refine o_ic X419 H (od dB18 10 rfl) (v := 1) rfl ?_
    refine o_go X419 H (od dB18 11 rfl) (pc' := 21) (by decide) (by decide) ?_
    exact own_ret (t := .boolean) X419 hx hlk hret rfl (Or.inl ⟨rfl, (by simp), _, rfl⟩) (hb hby (od dB18 13 rfl)) (⟨rfl, N419, e419⟩) (by decide) (by decide)
  · refine o_icY X0 H (od dB18 2 rfl) (flt hc418).2.1 (pc' := 16) (by decide) (by decide) ?_
    refine o_ic X0 H (od dB18 10 rfl) (v := 1) rfl ?_
    refine o_go X0 H (od dB18 11 rfl) (pc' := 21) (by decide) (by decide) ?_
    exact own_ret (t := .boolean) X0 hx hlk hret rfl (Or.inl ⟨rfl, (by simp), _, rfl⟩) (hb hby (od dB18 13 rfl)) (⟨rfl, N0, e0⟩) (by decide) (by decide)
def own_EL : List (String × Nat) := [("com/example/brasswire/brasswire/page/Html", 126), ("com/example/brasswire/brasswire/page/Html", 132), ("com/example/brasswire/brasswire/page/Html", 134), ("com/example/brasswire/brasswire/page/Html", 136), ("com/example/brasswire/brasswire/page/Html", 138), ("java/lang/String", 7)]
theorem own_wS {Z : State} {a0 : Array Value} (hw : ∀ d ∈ tables_1, d.before a0 Z = true) : ∀ a ∈ Bundle.stringAtoms, a.before a0 Z = true := by
  intro a ha
  simp only [Bundle.stringAtoms, List.mem_cons, List.not_mem_nil, or_false] at ha
  rcases ha with rfl | rfl | rfl | rfl | rfl | rfl | rfl
  · exact (ow hw 7 rfl)
  · exact (ow hw 6 rfl)
  · exact (ow hw 20 rfl)
  · exact (ow hw 21 rfl)
  · exact (ow hw 22 rfl)
  · exact (ow hw 23 rfl)
  · exact (ow hw 24 rfl)
theorem own_esl : ∀ cs : List Int32, (own_escs cs).length ≤ 6 * cs.length
  | [] => Nat.le_refl _
  | c :: cs => by
    have h1 := own_esl cs
    have h2 := (own_escl c).2
    simp only [own_escs, List.flatMap_cons, List.length_append, List.length_cons] at *
    omega
theorem own_miss {c : Int32} (o1 o2 o3 o4 o5 : Int) (h1 : ¬ c = (34 : Int32)) (h2 : ¬ c = (38 : Int32)) (h3 : ¬ c = (39 : Int32)) (h4 : ¬ c = (60 : Int32)) (h5 : ¬ c = (62 : Int32)) : (#[(34, o1), (38, o2), (39, o3), (60, o4), (62, o5)] : Array (Int × Int)).find? (·.1 == c.toInt) = none := by
  have g1 : ¬ (34 : Int) = c.toInt := fun e => h1 (Int32.toInt_inj.mp e.symm)
  have g2 : ¬ (38 : Int) = c.toInt := fun e => h2 (Int32.toInt_inj.mp e.symm)
  have g3 : ¬ (39 : Int) = c.toInt := fun e => h3 (Int32.toInt_inj.mp e.symm)
  have g4 : ¬ (60 : Int) = c.toInt := fun e => h4 (Int32.toInt_inj.mp e.symm)
  have g5 : ¬ (62 : Int) = c.toInt := fun e => h5 (Int32.toInt_inj.mp e.symm)
  simp [g1, g2, g3, g4, g5]
def own_l34 : List Int32 := [38, 113, 117, 111, 116, 59]
theorem own_k34 : ((own_l34.map StrChars.lo8).map Value.int) = [(.int (38 : Int32)), (.int (113 : Int32)), (.int (117 : Int32)), (.int (111 : Int32)), (.int (116 : Int32)), (.int (59 : Int32))] := by
  show [Value.int (StrChars.lo8 (38 : Int32)), Value.int (StrChars.lo8 (113 : Int32)), Value.int (StrChars.lo8 (117 : Int32)), Value.int (StrChars.lo8 (111 : Int32)), Value.int (StrChars.lo8 (116 : Int32)), Value.int (StrChars.lo8 (59 : Int32))] = _
  rw [show StrChars.lo8 (38 : Int32) = 38 from by decide, show StrChars.lo8 (59 : Int32) = 59 from by decide, show StrChars.lo8 (111 : Int32) = 111 from by decide, show StrChars.lo8 (113 : Int32) = 113 from by decide, show StrChars.lo8 (116 : Int32) = 116 from by decide, show StrChars.lo8 (117 : Int32) = 117 from by decide]
theorem own_r34 : ∀ q_ ∈ own_l34, ¬ q_ < 0 ∧ ¬ (255 : Int32) < q_ := by decide
def own_l38 : List Int32 := [38, 97, 109, 112, 59]
theorem own_k38 : ((own_l38.map StrChars.lo8).map Value.int) = [(.int (38 : Int32)), (.int (97 : Int32)), (.int (109 : Int32)), (.int (112 : Int32)), (.int (59 : Int32))] := by
  show [Value.int (StrChars.lo8 (38 : Int32)), Value.int (StrChars.lo8 (97 : Int32)), Value.int (StrChars.lo8 (109 : Int32)), Value.int (StrChars.lo8 (112 : Int32)), Value.int (StrChars.lo8 (59 : Int32))] = _
  rw [show StrChars.lo8 (38 : Int32) = 38 from by decide, show StrChars.lo8 (59 : Int32) = 59 from by decide, show StrChars.lo8 (97 : Int32) = 97 from by decide, show StrChars.lo8 (109 : Int32) = 109 from by decide, show StrChars.lo8 (112 : Int32) = 112 from by decide]
theorem own_r38 : ∀ q_ ∈ own_l38, ¬ q_ < 0 ∧ ¬ (255 : Int32) < q_ := by decide
def own_l39 : List Int32 := [38, 35, 51, 57, 59]
theorem own_k39 : ((own_l39.map StrChars.lo8).map Value.int) = [(.int (38 : Int32)), (.int (35 : Int32)), (.int (51 : Int32)), (.int (57 : Int32)), (.int (59 : Int32))] := by
  show [Value.int (StrChars.lo8 (38 : Int32)), Value.int (StrChars.lo8 (35 : Int32)), Value.int (StrChars.lo8 (51 : Int32)), Value.int (StrChars.lo8 (57 : Int32)), Value.int (StrChars.lo8 (59 : Int32))] = _
  rw [show StrChars.lo8 (35 : Int32) = 35 from by decide, show StrChars.lo8 (38 : Int32) = 38 from by decide, show StrChars.lo8 (51 : Int32) = 51 from by decide, show StrChars.lo8 (57 : Int32) = 57 from by decide, show StrChars.lo8 (59 : Int32) = 59 from by decide]
theorem own_r39 : ∀ q_ ∈ own_l39, ¬ q_ < 0 ∧ ¬ (255 : Int32) < q_ := by decide
def own_l60 : List Int32 := [38, 108, 116, 59]
theorem own_k60 : ((own_l60.map StrChars.lo8).map Value.int) = [(.int (38 : Int32)), (.int (108 : Int32)), (.int (116 : Int32)), (.int (59 : Int32))] := by
  show [Value.int (StrChars.lo8 (38 : Int32)), Value.int (StrChars.lo8 (108 : Int32)), Value.int (StrChars.lo8 (116 : Int32)), Value.int (StrChars.lo8 (59 : Int32))] = _
  rw [show StrChars.lo8 (38 : Int32) = 38 from by decide, show StrChars.lo8 (59 : Int32) = 59 from by decide, show StrChars.lo8 (108 : Int32) = 108 from by decide, show StrChars.lo8 (116 : Int32) = 116 from by decide]
theorem own_r60 : ∀ q_ ∈ own_l60, ¬ q_ < 0 ∧ ¬ (255 : Int32) < q_ := by decide
def own_l62 : List Int32 := [38, 103, 116, 59]
theorem own_k62 : ((own_l62.map StrChars.lo8).map Value.int) = [(.int (38 : Int32)), (.int (103 : Int32)), (.int (116 : Int32)), (.int (59 : Int32))] := by
  show [Value.int (StrChars.lo8 (38 : Int32)), Value.int (StrChars.lo8 (103 : Int32)), Value.int (StrChars.lo8 (116 : Int32)), Value.int (StrChars.lo8 (59 : Int32))] = _
  rw [show StrChars.lo8 (38 : Int32) = 38 from by decide, show StrChars.lo8 (59 : Int32) = 59 from by decide, show StrChars.lo8 (103 : Int32) = 103 from by decide, show StrChars.lo8 (116 : Int32) = 116 from by decide]
theorem own_r62 : ∀ q_ ∈ own_l62, ¬ q_ < 0 ∧ ¬ (255 : Int32) < q_ := by decide
theorem pn_9 : plainName "com/example/brasswire/brasswire/page/Html" = true := by first | (simp [plainName, overriddenIn]; done) | decide +kernel
theorem dB5 : oL prog_15_method_6_code [(0, .new 114, 3), (3, .dup, 1), (4, .aload_n 0, 1), (5, .invokevirtual 116, 3), (8, .invokespecial 119, 3), (11, .astore_n 1, 1), (12, .iconst 0, 1), (13, .istore_n 2, 1), (14, .iload_n 2, 1), (15, .aload_n 0, 1), (16, .invokevirtual 116, 3), (19, .if_icmp .ge 123, 3), (22, .aload_n 0, 1), (23, .iload_n 2, 1), (24, .invokevirtual 122, 3), (27, .istore_n 3, 1), (28, .iload_n 3, 1), (29, .lookupswitch 101 #[(34, 81), (38, 51), (39, 91), (60, 61), (62, 71)], 51), (80, .aload_n 1, 1), (81, .ldc 126, 2), (83, .invokevirtual 128, 3), (86, .pop, 1), (87, .goto 49, 3), (90, .aload_n 1, 1), (91, .ldc 132, 2), (93, .invokevirtual 128, 3), (96, .pop, 1), (97, .goto 39, 3), (100, .aload_n 1, 1), (101, .ldc 134, 2), (103, .invokevirtual 128, 3), (106, .pop, 1), (107, .goto 29, 3), (110, .aload_n 1, 1), (111, .ldc 136, 2), (113, .invokevirtual 128, 3), (116, .pop, 1), (117, .goto 19, 3), (120, .aload_n 1, 1), (121, .ldc 138, 2), (123, .invokevirtual 128, 3), (126, .pop, 1), (127, .goto 9, 3), (130, .aload_n 1, 1), (131, .iload_n 3, 1), (132, .invokevirtual 140, 3), (135, .pop, 1), (136, .iinc 2 1, 3), (139, .goto (-125), 3), (142, .aload_n 1, 1), (143, .invokevirtual 143, 3), (146, .areturn, 1)] := by unfold oL; decide +kernel
theorem pd_34 : parseMethodDescriptor "()Ljava/lang/String;" = some ⟨[], some (.object "java/lang/String")⟩ := by decide +kernel
theorem pd_35 : parseMethodDescriptor "(Ljava/lang/String;)Ljava/lang/StringBuilder;" = some ⟨[(.object "java/lang/String")], some (.object "java/lang/StringBuilder")⟩ := by decide +kernel
theorem pd_36 : parseMethodDescriptor "(C)Ljava/lang/StringBuilder;" = some ⟨[.char], some (.object "java/lang/StringBuilder")⟩ := by decide +kernel
theorem ef_rm5 (m : MethodId) (x0 : Addr) : entryFrame m #[(.ref x0)] 4 = mkF m 0 #[.val (.ref x0), .unset, .unset, .unset] [] := by first | (simp [entryFrame, mkF, argsToLocals, Value.category]; done) | rfl
def Q5 (Z : State) (x : Addr) (tx : Addr) (kx : ClassId) (cs : List Int32) (co : Int32) (nx : Int32) (vs : List Value) (ln : Nat) (z : Int32) (fm : Value) (h0 : Heap) (n0 : Nat) (v : Option Value) (h : Heap) (L : List Loc) : Prop := ∃ (y t2 : Addr) (k2 : ClassId) (cd2 n2 : Int32) (vs2 : List Value), v = some (.ref y) ∧ Fr n0 L ∧ Keep h0 h [] ∧ StrChars.Road.CodA (own_escs cs) cd2 n2 vs2 ∧ Exa Z h y "java/lang/String" ∧ Fld Z h y "java/lang/String" "coder" "B" (.int cd2) ∧ Fld Z h y "java/lang/String" "value" "[B" (.ref t2) ∧ Arv Z h t2 k2 .byte n2 vs2 (.int 0)
set_option maxRecDepth 65536 in
set_option maxHeartbeats 40000000 in
theorem rm5 (l : Launch) (Z : State) (a0 : Array Value) (hw : ∀ d ∈ tables_1, d.before a0 Z = true) (ws : List Jvm.Cond) (x : Addr) (tx : Addr) (kx : ClassId) (cs : List Int32) (co : Int32) (nx : Int32) (vs : List Value) (ln : Nat) (z : Int32) (fm : Value) (h0 : Heap) (n0 : Nat) (Z0 : n0 ≤ h0.size) (hEL : EW Z a0 own_EL) (PU : own_PU Z n0 h0 z fm) (Ex : Exa Z h0 x "java/lang/String") (Cx : Fld Z h0 x "java/lang/String" "coder" "B" (.int co)) (Vx : Fld Z h0 x "java/lang/String" "value" "[B" (.ref tx)) (Kx : Arv Z h0 tx kx .byte nx vs (.int 0)) (cod : StrChars.Road.CodA cs co nx vs) (hln : cs.length = ln) (h3 : ln ≤ 3) (r16 : ∀ c ∈ cs, ¬ c < 0 ∧ ¬ (65535 : Int32) < c) :
    MetFree l (⟨"com/example/brasswire/brasswire/page/Html", "escape", "(Ljava/lang/String;)Ljava/lang/String;"⟩ : MethodName) (head1 (Jvm.Cond.code (⟨"com/example/brasswire/brasswire/page/Html", "escape", "(Ljava/lang/String;)Ljava/lang/String;"⟩ : MethodName) prog_15_method_6_code 4 (some (.object "java/lang/String")) :: ws) ({ frames := 9, cells := 28, slots := 1360, locals := 132 } : Room)) (fun as_ U => as_ = #[(.ref x)] ∧ Z.Warmed39 U.vm ∧ U.heap = h0 ∧ CHv Z own_EL U.vm h0) (fun _ _ _ _ _ => True) (fun _ U out_ U' => ∃ v L, out_ = .returned v ∧ Q5 Z x tx kx cs co nx vs ln z fm h0 n0 v U'.heap L ∧ CHr Z own_EL U.vm U.heap U'.vm U'.heap ∧ ReturnedEndW U out_ U' L ({ frames := 9, cells := 28, slots := 1360, locals := 132 } : Room).cells ({ frames := 9, cells := 28, slots := 1360, locals := 132 } : Room).slots) := by
  refine MetFree.of_bodySF (plainFor_of_name pn_9) hisR ?_
  intro p e s m args below meth cd s₁ Bd hml0 hP hK
  obtain ⟨rfl, hZ, hh, CH0⟩ := hP
  have hx := Bd.exec
  have hby := Bd.bytes
  have hml : cd.maxLocals = 4 := hml0
  have hlk : meth.locks = false := BodyLoose.notSynchronized Bd
  have hown : s.vm.findClass "com/example/brasswire/brasswire/page/Html" = some m.cls := findClass_of_methodNamed Bd.named
  have hnm := (name_of_methodNamed Bd.named Bd.method).1
  have hret := Bd.returns
  have H := And.intro hx hby
  have X0 : Stand p l e ({ frames := 9, cells := 28, slots := 1360, locals := 132 } : Room) (s.setVm s.vm) m #[(.ref x)] below meth cd s₁ [] 0 0 := Stand.of_body Bd
  have e0 : s₁.heap = h0 := by rw [← hh, Bd.state]; rfl
  have N0 := Fr.nil n0
  obtain ⟨hz, O, SC, SA, SH, SL, SF, hfm⟩ := PU
  have hS0 : s.Since s.vm 0 := (State.WarmedH.refl s).since 0
  have wS := own_wS hw
  show own_Fin p e below (own_AnsW s Z own_EL (Q5 Z x tx kx cs co nx vs ln z fm h0 n0) ({ frames := 9, cells := 28, slots := 1360, locals := 132 } : Room).cells ({ frames := 9, cells := 28, slots := 1360, locals := 132 } : Room).slots) (s₁.setTop (entryFrame m #[(.ref x)] 4))
  refine own_cast (ef_rm5 m x) ?_
  show own_Fin p e below _ (s₁.setTop (mkF m 0 #[.val (.ref x), .unset, .unset, .unset] []))
  obtain ⟨T421, h421, X421, e421, E421, A421, D421, -, st421⟩ := newO X0 hx hZ hown (ow hw 31 rfl) (ow hw 32 rfl) (ow hw 33 rfl) e0 (g := (mkF m 0 #[.val (.ref x), .unset, .unset, .unset] [])) rfl (hb hby (od dB5 0 rfl)) (by decide) (by decide)
  obtain ⟨b421, g421⟩ : ∃ z, z = h0.size := ⟨_, rfl⟩
  rw [← g421] at A421 D421 st421
  have ne421_x : x ≠ b421 := own_ne_of (Z := Z) Ex.lt g421
  have ne421_tx : tx ≠ b421 := own_ne_of (Z := Z) Kx.lt g421
  have gn421 : n0 ≤ b421 := Nat.le_trans Z0 (Nat.le_of_eq g421.symm)
  have gk421 : h0.size ≤ b421 := Nat.le_trans (Keep.refl h0 []).1 (Nat.le_of_eq g421.symm)
  have F421_value : Fld Z h421 b421 "java/lang/AbstractStringBuilder" "value" "[B" .null := D421 (Or.inl (ow hw 57 rfl)) (ty := (.array .byte)) (by decide)
  have F421_coder : Fld Z h421 b421 "java/lang/AbstractStringBuilder" "coder" "B" (.int (0 : Int32)) := D421 (Or.inl (ow hw 59 rfl)) (ty := .byte) (by decide)
  have F421_count : Fld Z h421 b421 "java/lang/AbstractStringBuilder" "count" "I" (.int (0 : Int32)) := D421 (Or.inl (ow hw 87 rfl)) (ty := .int) (by decide)
  have F421_maybeLatin1 : Fld Z h421 b421 "java/lang/AbstractStringBuilder" "maybeLatin1" "Z" (.int (0 : Int32)) := D421 (Or.inl (ow hw 279 rfl)) (ty := .boolean) (by decide)
  refine own_on st421 ?_
  show own_Fin p e below _ (T421.setTop (mkF m 3 #[.val (.ref x), .unset, .unset, .unset] [(.ref b421)]))
  refine o_dup X421 H (od dB5 1 rfl) rfl ?_
  refine o_aldN X421 H (od dB5 2 rfl) rfl rfl ?_
  obtain ⟨cq422, kq422, q422a, q422b, q422c⟩ := isOf hZ e421 (Ex.ext E421)
  obtain ⟨_, _, ⟨T422, L422, k422, n422⟩, -, X422, ⟨Lc422, hQ422, l422, y422, z422⟩, st422⟩ := X421.virtualBack hx (y := (⟨"java/lang/String", "length", "()I"⟩ : MethodName)) (z := (⟨"java/lang/String", "length", "()I"⟩ : MethodName)) hown (mvT hZ (ow hw 34 rfl)) (mvT hZ (ow hw 35 rfl)) (notFace_of_selects (args := #[]) (mvT hZ (ow hw 37 rfl))) (mvT hZ (ow hw 37 rfl)) (mvT hZ (ow hw 36 rfl)) (by decide) (StrChars.Road.lenW (W := 2) hZ (own_wL hw) (ow hw 6 rfl) (Ex.ext E421) (Vx.ext E421) (Cx.ext E421) (Kx.ext E421) cod r16 (SC.ext (O.ext E421).2) hz (by rw [hln]; omega) (by decide) (by decide)) q422a q422c (g := (mkF m 5 #[.val (.ref x), .unset, .unset, .unset] [(.ref x), (.ref b421), (.ref b421)])) rfl hml.symm (Steps.refl _) (argsL := []) (rest := [(.ref b421), (.ref b421)]) (lenOf pd_10 rfl) rfl (o_mr rfl) (hb hby (od dB5 3 rfl)) (fun _ _ => ⟨rfl, e421, (by decide : 1 + 0 ≤ _), (by decide : 4 + 0 ≤ _)⟩)
  dsimp only [Pt.U, Pt.locs, Pt.cells, Pt.slots] at X422 l422 y422 z422 st422 hQ422
  replace l422 := l422.symm; replace y422 := y422.symm; replace z422 := z422.symm; subst l422 y422 z422
  obtain ⟨rfl, rfl, e422⟩ := hQ422
  have N422 := Fr.app N0 (Fr.nil n0)
  rw [hln] at st422
  refine own_via st422 ?_
  show own_Fin p e below _ (T422.setTop (mkF m 8 #[.val (.ref x), .unset, .unset, .unset] [(.int (Int32.ofNat ln)), (.ref b421), (.ref b421)]))
  refine o_sc (b := b421) (argsL := [(.int (Int32.ofNat ln))]) (rest := [(.ref b421)]) X422 H hml hZ hown (ow hw 45 rfl) (ow hw 46 rfl) (ow hw 47 rfl) (backOf (W := 1) (rm8 l Z a0 hw [] b421 ln z fm h421 n0 (by exact (Nat.le_trans Z0 E421.1)) ⟨hz, (O.ext E421), SC, SA, SH, SL, SF, hfm⟩ (by omega) A421 F421_value F421_count F421_coder F421_maybeLatin1 gn421) hZ (ow hw 47 rfl) (ow hw 33 rfl) (by decide) (by decide)) rfl (by decide) e422 pd_19 (od dB5 4 rfl) rfl rfl rfl rfl rfl (by decide) (by decide) fun _ T423 Lc423 X423 hQ423 => ?_
  obtain ⟨ti423, kt423, rfl, N423q, K423, gt423, gk423, Eq423, Vq423, Cq423, Dq423, Mq423, Xq423, Aq423⟩ := hQ423
  have ne423_x : x ≠ ti423 := Nat.ne_of_lt (Nat.lt_of_lt_of_le (Ex.ext E421).lt gk423)
  have ne423_tx : tx ≠ ti423 := Nat.ne_of_lt (Nat.lt_of_lt_of_le (Kx.ext E421).lt gk423)
  have ne423_b421 : b421 ≠ ti423 := Nat.ne_of_lt (Nat.lt_of_lt_of_le A421.lt gk423)
  have N423 := Fr.app N422 N423q
  have y424 := (CHr.trans (CHr.trans (CHr.refl CH0) (CHr.ext E421 CH0)) (CHr.keep K423 (sfS (Safe.ext E421 CH0 (Safe.new (Nat.le_of_eq g421.symm))) sf0) (CHv.ext E421 CH0)))
  have y425 := (Safe.keep K423 (sfS (Safe.ext E421 CH0 (Safe.new (Nat.le_of_eq g421.symm))) sf0) (CHv.ext E421 CH0) (Safe.ext E421 CH0 (Safe.new (Nat.le_of_eq g421.symm))))
  have y426 := (Safe.keep K423 (sfS (Safe.ext E421 CH0 (Safe.new (Nat.le_of_eq g421.symm))) sf0) (CHv.ext E421 CH0) (Safe.new gk423))
  show own_Fin p e below _ (T423.setTop (mkF m 11 #[.val (.ref x), .unset, .unset, .unset] [(.ref b421)]))
  refine o_astN X423 H (od dB5 5 rfl) (L' := #[.val (.ref x), .val (.ref b421), .unset, .unset]) rfl rfl ?_
  refine o_ic X423 H (od dB5 6 rfl) (v := 0) rfl ?_
  refine o_istN X423 H (od dB5 7 rfl) (L' := #[.val (.ref x), .val (.ref b421), .val (.int (0 : Int32)), .unset]) rfl ?_
  have hB0 : own_BC (own_escs (cs.take 0)) (0 : Int32) ln (Int32.ofNat ln) ((([] : List Int32).map StrChars.lo8).map Value.int) := Or.inl ⟨rfl, rfl, rfl, fun _ q => nomatch q⟩
  have PE : ∀ (r i : Nat) (hri : r + i = 3) (lq : Slot) (hlq0 : lq = .unset ∨ ∃ z : Int32, lq = .val (.int z)) (tq : Addr) (ktq : ClassId) (cq : Nat) (cdq nq : Int32) (vsq : List Value) (kq : Nat) (gq1 : n0 ≤ tq) (gq2 : h0.size ≤ tq) (nqb : b421 ≠ tq) (nqx : x ≠ tq) (nqt : tx ≠ tq) (hlq : (own_escs (cs.take i)).length = kq) (hk6 : kq ≤ 6 * i) (hkc : kq ≤ cq) (hcq : cq ≤ 36) (hBq : own_BC (own_escs (cs.take i)) cdq cq nq vsq), ∀ (Th : State) (Hh : Heap) (Loh : List Loc) (vmh : Vm) (kkh : Nat) (Xh : Stand p l e ({ frames := 9, cells := 28, slots := 1360, locals := 132 } : Room) (s.setVm vmh) m #[(.ref x)] below meth cd Th Loh (8 * i + 2) (400 * i + 40)) (eh : Th.heap = Hh) (Nh : Fr n0 Loh) (hSh : s.Since vmh kkh) (hZh : Z.Warmed39 (s.setVm vmh).vm) (hownh : (s.setVm vmh).vm.findClass "com/example/brasswire/brasswire/page/Html" = some m.cls) (gh_0 : CHv Z own_EL vmh Hh) (gh_1 : CHr Z own_EL s.vm h0 vmh Hh) (gh_2 : kkh ≤ Hh.size) (gh_3 : Keep h0 Hh []) (gh_4 : n0 ≤ Hh.size) (gh_5 : Old Z n0 Hh) (gh_6 : Exa Z Hh x "java/lang/String") (gh_7 : Fld Z Hh x "java/lang/String" "value" "[B" (.ref tx)) (gh_8 : Fld Z Hh x "java/lang/String" "coder" "B" (.int co)) (gh_9 : Arv Z Hh tx kx .byte nx vs (.int 0)) (gh_10 : Safe Z own_EL vmh Hh b421) (gh_11 : Exa Z Hh b421 "java/lang/StringBuilder") (gh_12 : Fld Z Hh b421 "java/lang/AbstractStringBuilder" "value" "[B" (.ref tq)) (gh_13 : Fld Z Hh b421 "java/lang/AbstractStringBuilder" "count" "I" (.int (Int32.ofNat kq))) (gh_14 : Fld Z Hh b421 "java/lang/AbstractStringBuilder" "coder" "B" (.int cdq)) (gh_15 : Fld Z Hh b421 "java/lang/AbstractStringBuilder" "maybeLatin1" "Z" (.int (0 : Int32))) (gh_16 : Exa Z Hh tq "[B") (gh_17 : Arv Z Hh tq ktq .byte nq vsq (.int 0)) (gh_18 : Safe Z own_EL vmh Hh tq), own_Fin p e below (own_AnsW s Z own_EL (Q5 Z x tx kx cs co nx vs ln z fm h0 n0) ({ frames := 9, cells := 28, slots := 1360, locals := 132 } : Room).cells ({ frames := 9, cells := 28, slots := 1360, locals := 132 } : Room).slots) (Th.setTop (mkF m 14 #[.val (.ref x), .val (.ref b421), .val (.int (Int32.ofNat i)), lq] [])) := by
    intro r
    induction r with
    | zero =>
      intro i hri lq hlq0 tq ktq cq cdq nq vsq kq gq1 gq2 nqb nqx nqt hlq hk6 hkc hcq hBq Th Hh Loh vmh kkh Xh eh Nh hSh hZh hownh gh_0 gh_1 gh_2 gh_3 gh_4 gh_5 gh_6 gh_7 gh_8 gh_9 gh_10 gh_11 gh_12 gh_13 gh_14 gh_15 gh_16 gh_17 gh_18
      show own_Fin p e below _ (Th.setTop (mkF m 14 #[.val (.ref x), .val (.ref b421), .val (.int (Int32.ofNat i)), lq] []))
      refine o_ildN Xh H (od dB5 8 rfl) rfl ?_
      refine o_aldN Xh H (od dB5 9 rfl) rfl rfl ?_
      obtain ⟨cq427, kq427, q427a, q427b, q427c⟩ := isOf hZh eh gh_6
      obtain ⟨_, _, ⟨T427, L427, k427, n427⟩, -, X427, ⟨Lc427, hQ427, l427, y427, z427⟩, st427⟩ := Xh.virtualBack hx (y := (⟨"java/lang/String", "length", "()I"⟩ : MethodName)) (z := (⟨"java/lang/String", "length", "()I"⟩ : MethodName)) hownh (mvT hZh (ow hw 34 rfl)) (mvT hZh (ow hw 35 rfl)) (notFace_of_selects (args := #[]) (mvT hZh (ow hw 37 rfl))) (mvT hZh (ow hw 37 rfl)) (mvT hZh (ow hw 36 rfl)) (by decide) (StrChars.Road.lenW (W := 1) hZh (own_wL hw) (ow hw 6 rfl) gh_6 gh_7 gh_8 gh_9 cod r16 (SC.ext gh_5.2) hz (by rw [hln]; omega) (by decide) (by decide)) q427a q427c (g := (mkF m 16 #[.val (.ref x), .val (.ref b421), .val (.int (Int32.ofNat i)), lq] [(.ref x), (.int (Int32.ofNat i))])) rfl hml.symm (Steps.refl _) (argsL := []) (rest := [(.int (Int32.ofNat i))]) (lenOf pd_10 rfl) rfl (o_mr rfl) (hb hby (od dB5 10 rfl)) (fun _ _ => ⟨rfl, eh, (by first | omega | (dsimp only [Pt.cells, Pt.slots]; omega) | (dsimp only; omega)), (by first | omega | (dsimp only [Pt.cells, Pt.slots]; omega) | (dsimp only; omega))⟩)
      dsimp only [Pt.U, Pt.locs, Pt.cells, Pt.slots] at X427 l427 y427 z427 st427 hQ427
      replace l427 := l427.symm; replace y427 := y427.symm; replace z427 := z427.symm; subst l427 y427 z427
      obtain ⟨rfl, rfl, e427⟩ := hQ427
      have N427 := Fr.app Nh (Fr.nil n0)
      rw [hln] at st427
      refine own_via st427 ?_
      show own_Fin p e below _ (T427.setTop (mkF m 19 #[.val (.ref x), .val (.ref b421), .val (.int (Int32.ofNat i)), lq] [(.int (Int32.ofNat ln)), (.int (Int32.ofNat i))]))
      refine o_icY X427 H (od dB5 11 rfl) (flt (own_onlt (by omega) (by omega))).2.1 (pc' := 142) (by decide) (by decide) ?_
      have hle : ln ≤ i := by omega
      refine o_aldN X427 H (od dB5 49 rfl) rfl rfl ?_
      refine o_vs (argsL := []) (rest := []) X427 H hml hZh hownh (ow hw 60 rfl) (ow hw 61 rfl) (ow hw 63 rfl) (ow hw 62 rfl) (backOf (W := 0) (rm10 l Z a0 hw [] b421 tq ktq kq (own_escs (cs.take i)) cq cdq nq vsq z fm Hh n0 (by exact gh_4) ⟨hz, gh_5, SC, SA, SH, SL, SF, hfm⟩ gh_11 gh_12 gh_13 gh_14 gh_15 gh_16 gh_17 gn421 gq1 nqb hlq (by omega) (by omega) hBq (own_escst r16)) hZh (ow hw 64 rfl) (ow hw 33 rfl) (by decide) (by decide)) (by decide) gh_11 e427 pd_34 (od dB5 50 rfl) rfl rfl rfl rfl rfl (by first | omega | (dsimp only [Pt.cells, Pt.slots]; omega) | (dsimp only; omega)) (by first | omega | (dsimp only [Pt.cells, Pt.slots]; omega) | (dsimp only; omega)) fun _ T428 Lc428 X428 hQ428 => ?_
      obtain ⟨y428s, x428, kx428, co428, n2428, vs428, rfl, N428q, K428, cod428, Eq428, Cq428, Vq428, Aq428⟩ := hQ428
      have N428 := Fr.app N427 N428q
      show own_Fin p e below _ (T428.setTop (mkF m 146 #[.val (.ref x), .val (.ref b421), .val (.int (Int32.ofNat i)), lq] [(.ref y428s)]))
      exact own_retW (t := (.object "java/lang/String")) X428 (Z := Z) (EL := own_EL) (a0 := a0) hx hlk hret rfl (Or.inr (Or.inr (Or.inr (Or.inr ⟨rfl, rfl, rfl⟩)))) (hb hby (od dB5 51 rfl)) hSh (Nat.le_trans gh_2 K428.1) hZh hEL (by rw [hh]; exact (CHr.trans gh_1 (CHr.keep K428 sf0 gh_0))) (by show Q5 Z x tx kx cs co nx vs ln z fm h0 n0 _ T428.heap _; exact ⟨y428s, x428, kx428, co428, n2428, vs428, rfl, N428, (gh_3.trans K428 all0), (by have q := cod428; rw [List.take_of_length_le (by rw [hln]; exact hle)] at q; exact q), Eq428, Cq428, Vq428, Aq428⟩) (by first | omega | (dsimp only [Pt.cells, Pt.slots]; omega) | (dsimp only; omega)) (by first | omega | (dsimp only [Pt.cells, Pt.slots]; omega) | (dsimp only; omega))
    | succ r ih =>
      intro i hri lq hlq0 tq ktq cq cdq nq vsq kq gq1 gq2 nqb nqx nqt hlq hk6 hkc hcq hBq Th Hh Loh vmh kkh Xh eh Nh hSh hZh hownh gh_0 gh_1 gh_2 gh_3 gh_4 gh_5 gh_6 gh_7 gh_8 gh_9 gh_10 gh_11 gh_12 gh_13 gh_14 gh_15 gh_16 gh_17 gh_18
      show own_Fin p e below _ (Th.setTop (mkF m 14 #[.val (.ref x), .val (.ref b421), .val (.int (Int32.ofNat i)), lq] []))
      refine o_ildN Xh H (od dB5 8 rfl) rfl ?_
      refine o_aldN Xh H (od dB5 9 rfl) rfl rfl ?_
      obtain ⟨cq429, kq429, q429a, q429b, q429c⟩ := isOf hZh eh gh_6
      obtain ⟨_, _, ⟨T429, L429, k429, n429⟩, -, X429, ⟨Lc429, hQ429, l429, y429, z429⟩, st429⟩ := Xh.virtualBack hx (y := (⟨"java/lang/String", "length", "()I"⟩ : MethodName)) (z := (⟨"java/lang/String", "length", "()I"⟩ : MethodName)) hownh (mvT hZh (ow hw 34 rfl)) (mvT hZh (ow hw 35 rfl)) (notFace_of_selects (args := #[]) (mvT hZh (ow hw 37 rfl))) (mvT hZh (ow hw 37 rfl)) (mvT hZh (ow hw 36 rfl)) (by decide) (StrChars.Road.lenW (W := 1) hZh (own_wL hw) (ow hw 6 rfl) gh_6 gh_7 gh_8 gh_9 cod r16 (SC.ext gh_5.2) hz (by rw [hln]; omega) (by decide) (by decide)) q429a q429c (g := (mkF m 16 #[.val (.ref x), .val (.ref b421), .val (.int (Int32.ofNat i)), lq] [(.ref x), (.int (Int32.ofNat i))])) rfl hml.symm (Steps.refl _) (argsL := []) (rest := [(.int (Int32.ofNat i))]) (lenOf pd_10 rfl) rfl (o_mr rfl) (hb hby (od dB5 10 rfl)) (fun _ _ => ⟨rfl, eh, (by first | omega | (dsimp only [Pt.cells, Pt.slots]; omega) | (dsimp only; omega)), (by first | omega | (dsimp only [Pt.cells, Pt.slots]; omega) | (dsimp only; omega))⟩)
      dsimp only [Pt.U, Pt.locs, Pt.cells, Pt.slots] at X429 l429 y429 z429 st429 hQ429
      replace l429 := l429.symm; replace y429 := y429.symm; replace z429 := z429.symm; subst l429 y429 z429
      obtain ⟨rfl, rfl, e429⟩ := hQ429
      have N429 := Fr.app Nh (Fr.nil n0)
      rw [hln] at st429
      refine own_via st429 ?_
      show own_Fin p e below _ (T429.setTop (mkF m 19 #[.val (.ref x), .val (.ref b421), .val (.int (Int32.ofNat i)), lq] [(.int (Int32.ofNat ln)), (.int (Int32.ofNat i))]))
      by_cases hc430 : (Int32.ofNat i) < (Int32.ofNat ln)
      · refine o_icN X429 H (od dB5 11 rfl) (tlt hc430).2.1 ?_
        have hl : i < ln := own_ltof hc430 (by omega) (by omega)
        have hi : i < cs.length := by rw [hln]; exact hl
        refine o_aldN X429 H (od dB5 12 rfl) rfl rfl ?_
        refine o_ildN X429 H (od dB5 13 rfl) rfl ?_
        refine o_vs (argsL := [(.int (Int32.ofNat i))]) (rest := []) X429 H hml hZh hownh (ow hw 123 rfl) (ow hw 124 rfl) (ow hw 126 rfl) (ow hw 125 rfl) (backOf (W := 0) (rm23 l Z a0 hw [] x tx kx cs co nx vs i z fm Hh n0 (by exact gh_4) ⟨hz, gh_5, SC, SA, SH, SL, SF, hfm⟩ gh_6 gh_8 gh_7 gh_9 cod (by rw [hln]; omega) (by rw [hln]; omega) r16) hZh (ow hw 127 rfl) (ow hw 7 rfl) (by decide) (by decide)) (by decide) gh_6 e429 pd_33 (od dB5 14 rfl) rfl rfl rfl rfl rfl (by first | omega | (dsimp only [Pt.cells, Pt.slots]; omega) | (dsimp only; omega)) (by first | omega | (dsimp only [Pt.cells, Pt.slots]; omega) | (dsimp only; omega)) (o_pk (fun _ _ _ q => q) N429 fun T431 Lc431 X431 N431 e431 => ?_)
        refine own_on (fun tq => XS.istoreN X431.here hx rfl (hb hby (od dB5 15 rfl)) rfl (l' := #[.val (.ref x), .val (.ref b421), .val (.int (Int32.ofNat i)), .val (.int (cs.getD i 0))]) (by first | rfl | (rcases hlq0 with rfl | ⟨_, rfl⟩ <;> rfl))) ?_
        show own_Fin p e below _ (T431.setTop (mkF m 28 #[.val (.ref x), .val (.ref b421), .val (.int (Int32.ofNat i)), .val (.int (cs.getD i 0))] []))
        refine o_ildN X431 H (od dB5 16 rfl) rfl ?_
        by_cases hc432 : (cs.getD i 0) = (34 : Int32)
        · have hs433 : (#[(34, 81), (38, 51), (39, 91), (60, 61), (62, 71)] : Array (Int × Int)).find? (·.1 == ((cs.getD i 0)).toInt) = some (34, 81) := by rw [hc432]; decide
          refine own_on (fun tq => X431.lookupswitchHit hx (g := (mkF m 29 #[.val (.ref x), .val (.ref b421), .val (.int (Int32.ofNat i)), .val (.int (cs.getD i 0))] [(.int (cs.getD i 0))])) rfl rfl (hb hby (od dB5 17 rfl)) (by decide) hs433 (by show (0 : Int) ≤ ((29 : Nat) : Int) + 81; decide) tq) ?_
          show own_Fin p e below _ (T431.setTop (mkF m 110 #[.val (.ref x), .val (.ref b421), .val (.int (Int32.ofNat i)), .val (.int (cs.getD i 0))] []))
          refine o_aldN X431 H (od dB5 33 rfl) rfl rfl ?_
          obtain ⟨a434, T434, h434, k434, c434, kc434, X434, e434, E434, hS434, hk434, hZ434, hown434, Ea434, Ca434, Va434, Aa434, la434, lc434, A434, Lt434, sf434, st434⟩ := ldcCH X431 hx hZh hownh (ow hw 281 rfl) wS e431 hSh gh_2 hEL (by decide) gh_0 (vs := [(.int (38 : Int32)), (.int (113 : Int32)), (.int (117 : Int32)), (.int (111 : Int32)), (.int (116 : Int32)), (.int (59 : Int32))]) (z := (6 : Int32)) ⟨by decide, rfl⟩ (by decide) rfl (g := (mkF m 111 #[.val (.ref x), .val (.ref b421), .val (.int (Int32.ofNat i)), .val (.int (cs.getD i 0))] [(.ref b421)])) rfl (hb hby (od dB5 34 rfl)) (n := 24) (by decide) (by decide) (by first | omega | (dsimp only [Pt.cells, Pt.slots]; omega) | (dsimp only; omega)) (by first | omega | (dsimp only [Pt.cells, Pt.slots]; omega) | (dsimp only; omega))
          have ns435 := sf434 _ (CHr.safe A434 gh_11.lt gh_10)
          have ns436 := sf434 _ (CHr.safe A434 gh_16.lt gh_18)
          refine own_on st434 ?_
          show own_Fin p e below _ (T434.setTop (mkF m 113 #[.val (.ref x), .val (.ref b421), .val (.int (Int32.ofNat i)), .val (.int (cs.getD i 0))] [(.ref a434), (.ref b421)]))
          have KL437 : Arv Z h434 c434 kc434 .byte (Int32.ofNat 6) ((own_l34.map StrChars.lo8).map Value.int) (.int 0) := by rw [own_k34]; exact Aa434
          refine o_vs (argsL := [(.ref a434)]) (rest := []) X434 H hml hZ434 hown434 (ow hw 164 rfl) (ow hw 165 rfl) (ow hw 167 rfl) (ow hw 166 rfl) (backOf (W := 0) (rm32 l Z a0 hw [] b421 a434 tq ktq kq (own_escs (cs.take i)) cq cdq nq vsq c434 kc434 6 own_l34 z fm h434 n0 (by exact (Nat.le_trans gh_4 E434.1)) ⟨hz, (gh_5.ext E434), SC, SA, SH, SL, SF, hfm⟩ (gh_11.ext E434) (gh_12.ext E434) (gh_13.ext E434) (gh_14.ext E434) (gh_15.ext E434) (gh_16.ext E434) (gh_17.ext E434) gn421 gq1 nqb hlq (by omega) (by omega) hBq (own_escst r16) Ea434 Ca434 Va434 KL437 (rfl : own_l34.length = 6) own_r34 (Ne.symm ns436.2) (Ne.symm ns435.2) (Ne.symm ns436.1) (Ne.symm ns435.1) (by omega)) hZ434 (ow hw 168 rfl) (ow hw 33 rfl) (by decide) (by decide)) (by decide) (gh_11.ext E434) e434 pd_35 (od dB5 35 rfl) rfl rfl rfl rfl rfl (by first | omega | (dsimp only [Pt.cells, Pt.slots]; omega) | (dsimp only; omega)) (by first | omega | (dsimp only [Pt.cells, Pt.slots]; omega) | (dsimp only; omega)) fun _ T438 Lc438 X438 hQ438 => ?_
          have Lq438 : ((own_escs (cs.take i)) ++ own_l34).length = (kq + 6) := own_la hlq rfl
          obtain ⟨tg438, kt438, c438, co438, nb438, vs438, rfl, N438q, K438, ht438, gt438, nb438', hq438, hc438, hB438, Eq438, Vq438, Cq438, Dq438, Mq438, Xq438, Aq438⟩ := hQ438
          have nb438x := nb438'
          have ne438_x : x ≠ tg438 := own_neT ht438 nqx (gh_6.ext E434).lt
          have ne438_tx : tx ≠ tg438 := own_neT ht438 nqt (gh_9.ext E434).lt
          have ne438_a434 : a434 ≠ tg438 := own_neT ht438 (Ne.symm ns436.1) Ea434.lt
          have ne438_c434 : c434 ≠ tg438 := own_neT ht438 (Ne.symm ns436.2) KL437.lt
          have sf438 : Safe Z own_EL T434.vm h434 tg438 := by rcases ht438 with h | h; (rw [h]; exact (CHr.safe A434 gh_16.lt gh_18)); exact Safe.new h
          have k0438 : h0.size ≤ tg438 := by rcases ht438 with h | h; (rw [h]; exact gq2); exact Nat.le_trans (gh_3.ext E434).1 h
          have N438 := Fr.app N431 N438q
          have y439 := (Safe.keep K438 (sfS (CHr.safe A434 gh_11.lt gh_10) (sfS (CHr.safe A434 gh_16.lt gh_18) sf0)) (And.left A434) (CHr.safe A434 gh_11.lt gh_10))
          have y440 := (Safe.keep K438 (sfS (CHr.safe A434 gh_11.lt gh_10) (sfS (CHr.safe A434 gh_16.lt gh_18) sf0)) (And.left A434) (CHr.safe A434 gh_16.lt gh_18))
          have y441 := (CHr.trans (CHr.trans gh_1 A434) (CHr.keep K438 (sfS (CHr.safe A434 gh_11.lt gh_10) (sfS (CHr.safe A434 gh_16.lt gh_18) sf0)) (And.left A434)))
          have y442 := (Safe.keep K438 (sfS (CHr.safe A434 gh_11.lt gh_10) (sfS (CHr.safe A434 gh_16.lt gh_18) sf0)) (And.left A434) sf438)
          show own_Fin p e below _ (T438.setTop (mkF m 116 #[.val (.ref x), .val (.ref b421), .val (.int (Int32.ofNat i)), .val (.int (cs.getD i 0))] [(.ref b421)]))
          refine o_pop X438 H (od dB5 36 rfl) rfl ?_
          refine o_go X438 H (od dB5 37 rfl) (pc' := 136) (by decide) (by decide) ?_
          refine own_on (fun tq => XS.iinc X438.here hx rfl (hb hby (od dB5 47 rfl)) rfl (l' := #[.val (.ref x), .val (.ref b421), .val (.int ((Int32.ofNat i) + (1 : Int32))), .val (.int (cs.getD i 0))]) rfl) ?_
          show own_Fin p e below _ (T438.setTop (mkF m 139 #[.val (.ref x), .val (.ref b421), .val (.int ((Int32.ofNat i) + (1 : Int32))), .val (.int (cs.getD i 0))] []))
          refine o_go X438 H (od dB5 48 rfl) (pc' := 14) (by decide) (by decide) ?_
          have es : (own_escs (cs.take (i + 1))) = ((own_escs (cs.take i)) ++ own_l34) := by rw [own_step hi, own_e34 hc432]; rfl
          rw [show Int32.ofNat i + (1 : Int32) = Int32.ofNat (i + 1) from own_add _ 1]
          exact ih (i + 1) (by omega) _ (Or.inr ⟨_, rfl⟩) tg438 kt438 c438 co438 nb438 vs438 (kq + 6) gt438 k0438 nb438x ne438_x ne438_tx (by rw [es]; exact Lq438) (by omega) (by omega) (by omega) (by rw [es]; exact hB438) T438 _ _ _ _ (X438.more (by first | omega | (dsimp only [Pt.cells, Pt.slots]; omega) | (dsimp only; omega)) (by first | omega | (dsimp only [Pt.cells, Pt.slots]; omega) | (dsimp only; omega))) rfl N438 hS434 hZ434 hown434 (CHv.keep K438 (sfS (CHr.safe A434 gh_11.lt gh_10) (sfS (CHr.safe A434 gh_16.lt gh_18) sf0)) (And.left A434)) y441 (Nat.le_trans hk434 K438.1) ((gh_3.ext E434).trans K438 (allS (Or.inr gk421) (allS (Or.inr gq2) all0))) (Nat.le_trans (Nat.le_trans gh_4 E434.1) K438.1) ((gh_5.ext E434).keep K438 (allS gn421 (allS gq1 all0))) ((gh_6.ext E434).keep K438) ((gh_7.ext E434).keep K438 (ninS ne421_x (ninS nqx nin0))) ((gh_8.ext E434).keep K438 (ninS ne421_x (ninS nqx nin0))) ((gh_9.ext E434).keep K438 (ninS ne421_tx (ninS nqt nin0))) y439 Eq438 Vq438 Cq438 Dq438 Mq438 Xq438 Aq438 y442
        · by_cases hc443 : (cs.getD i 0) = (38 : Int32)
          · have hs444 : (#[(34, 81), (38, 51), (39, 91), (60, 61), (62, 71)] : Array (Int × Int)).find? (·.1 == ((cs.getD i 0)).toInt) = some (38, 51) := by rw [hc443]; decide
            refine own_on (fun tq => X431.lookupswitchHit hx (g := (mkF m 29 #[.val (.ref x), .val (.ref b421), .val (.int (Int32.ofNat i)), .val (.int (cs.getD i 0))] [(.int (cs.getD i 0))])) rfl rfl (hb hby (od dB5 17 rfl)) (by decide) hs444 (by show (0 : Int) ≤ ((29 : Nat) : Int) + 51; decide) tq) ?_
            show own_Fin p e below _ (T431.setTop (mkF m 80 #[.val (.ref x), .val (.ref b421), .val (.int (Int32.ofNat i)), .val (.int (cs.getD i 0))] []))
            refine o_aldN X431 H (od dB5 18 rfl) rfl rfl ?_
            obtain ⟨a445, T445, h445, k445, c445, kc445, X445, e445, E445, hS445, hk445, hZ445, hown445, Ea445, Ca445, Va445, Aa445, la445, lc445, A445, Lt445, sf445, st445⟩ := ldcCH X431 hx hZh hownh (ow hw 163 rfl) wS e431 hSh gh_2 hEL (by decide) gh_0 (vs := [(.int (38 : Int32)), (.int (97 : Int32)), (.int (109 : Int32)), (.int (112 : Int32)), (.int (59 : Int32))]) (z := (5 : Int32)) ⟨by decide, rfl⟩ (by decide) rfl (g := (mkF m 81 #[.val (.ref x), .val (.ref b421), .val (.int (Int32.ofNat i)), .val (.int (cs.getD i 0))] [(.ref b421)])) rfl (hb hby (od dB5 19 rfl)) (n := 20) (by decide) (by decide) (by first | omega | (dsimp only [Pt.cells, Pt.slots]; omega) | (dsimp only; omega)) (by first | omega | (dsimp only [Pt.cells, Pt.slots]; omega) | (dsimp only; omega))
            have ns446 := sf445 _ (CHr.safe A445 gh_11.lt gh_10)
            have ns447 := sf445 _ (CHr.safe A445 gh_16.lt gh_18)
            refine own_on st445 ?_
            show own_Fin p e below _ (T445.setTop (mkF m 83 #[.val (.ref x), .val (.ref b421), .val (.int (Int32.ofNat i)), .val (.int (cs.getD i 0))] [(.ref a445), (.ref b421)]))
            have KL448 : Arv Z h445 c445 kc445 .byte (Int32.ofNat 5) ((own_l38.map StrChars.lo8).map Value.int) (.int 0) := by rw [own_k38]; exact Aa445
            refine o_vs (argsL := [(.ref a445)]) (rest := []) X445 H hml hZ445 hown445 (ow hw 164 rfl) (ow hw 165 rfl) (ow hw 167 rfl) (ow hw 166 rfl) (backOf (W := 0) (rm32 l Z a0 hw [] b421 a445 tq ktq kq (own_escs (cs.take i)) cq cdq nq vsq c445 kc445 5 own_l38 z fm h445 n0 (by exact (Nat.le_trans gh_4 E445.1)) ⟨hz, (gh_5.ext E445), SC, SA, SH, SL, SF, hfm⟩ (gh_11.ext E445) (gh_12.ext E445) (gh_13.ext E445) (gh_14.ext E445) (gh_15.ext E445) (gh_16.ext E445) (gh_17.ext E445) gn421 gq1 nqb hlq (by omega) (by omega) hBq (own_escst r16) Ea445 Ca445 Va445 KL448 (rfl : own_l38.length = 5) own_r38 (Ne.symm ns447.2) (Ne.symm ns446.2) (Ne.symm ns447.1) (Ne.symm ns446.1) (by omega)) hZ445 (ow hw 168 rfl) (ow hw 33 rfl) (by decide) (by decide)) (by decide) (gh_11.ext E445) e445 pd_35 (od dB5 20 rfl) rfl rfl rfl rfl rfl (by first | omega | (dsimp only [Pt.cells, Pt.slots]; omega) | (dsimp only; omega)) (by first | omega | (dsimp only [Pt.cells, Pt.slots]; omega) | (dsimp only; omega)) fun _ T449 Lc449 X449 hQ449 => ?_
            have Lq449 : ((own_escs (cs.take i)) ++ own_l38).length = (kq + 5) := own_la hlq rfl
            obtain ⟨tg449, kt449, c449, co449, nb449, vs449, rfl, N449q, K449, ht449, gt449, nb449', hq449, hc449, hB449, Eq449, Vq449, Cq449, Dq449, Mq449, Xq449, Aq449⟩ := hQ449
            have nb449x := nb449'
            have ne449_x : x ≠ tg449 := own_neT ht449 nqx (gh_6.ext E445).lt
            have ne449_tx : tx ≠ tg449 := own_neT ht449 nqt (gh_9.ext E445).lt
            have ne449_a445 : a445 ≠ tg449 := own_neT ht449 (Ne.symm ns447.1) Ea445.lt
            have ne449_c445 : c445 ≠ tg449 := own_neT ht449 (Ne.symm ns447.2) KL448.lt
            have sf449 : Safe Z own_EL T445.vm h445 tg449 := by rcases ht449 with h | h; (rw [h]; exact (CHr.safe A445 gh_16.lt gh_18)); exact Safe.new h
            have k0449 : h0.size ≤ tg449 := by rcases ht449 with h | h; (rw [h]; exact gq2); exact Nat.le_trans (gh_3.ext E445).1 h
            have N449 := Fr.app N431 N449q
            have y450 := (Safe.keep K449 (sfS (CHr.safe A445 gh_11.lt gh_10) (sfS (CHr.safe A445 gh_16.lt gh_18) sf0)) (And.left A445) (CHr.safe A445 gh_11.lt gh_10))
            have y451 := (Safe.keep K449 (sfS (CHr.safe A445 gh_11.lt gh_10) (sfS (CHr.safe A445 gh_16.lt gh_18) sf0)) (And.left A445) (CHr.safe A445 gh_16.lt gh_18))
            have y452 := (CHr.trans (CHr.trans gh_1 A445) (CHr.keep K449 (sfS (CHr.safe A445 gh_11.lt gh_10) (sfS (CHr.safe A445 gh_16.lt gh_18) sf0)) (And.left A445)))
            have y453 := (Safe.keep K449 (sfS (CHr.safe A445 gh_11.lt gh_10) (sfS (CHr.safe A445 gh_16.lt gh_18) sf0)) (And.left A445) sf449)
            show own_Fin p e below _ (T449.setTop (mkF m 86 #[.val (.ref x), .val (.ref b421), .val (.int (Int32.ofNat i)), .val (.int (cs.getD i 0))] [(.ref b421)]))
            refine o_pop X449 H (od dB5 21 rfl) rfl ?_
            refine o_go X449 H (od dB5 22 rfl) (pc' := 136) (by decide) (by decide) ?_
            refine own_on (fun tq => XS.iinc X449.here hx rfl (hb hby (od dB5 47 rfl)) rfl (l' := #[.val (.ref x), .val (.ref b421), .val (.int ((Int32.ofNat i) + (1 : Int32))), .val (.int (cs.getD i 0))]) rfl) ?_
            show own_Fin p e below _ (T449.setTop (mkF m 139 #[.val (.ref x), .val (.ref b421), .val (.int ((Int32.ofNat i) + (1 : Int32))), .val (.int (cs.getD i 0))] []))
            refine o_go X449 H (od dB5 48 rfl) (pc' := 14) (by decide) (by decide) ?_
            have es : (own_escs (cs.take (i + 1))) = ((own_escs (cs.take i)) ++ own_l38) := by rw [own_step hi, own_e38 hc443]; rfl
            rw [show Int32.ofNat i + (1 : Int32) = Int32.ofNat (i + 1) from own_add _ 1]
            exact ih (i + 1) (by omega) _ (Or.inr ⟨_, rfl⟩) tg449 kt449 c449 co449 nb449 vs449 (kq + 5) gt449 k0449 nb449x ne449_x ne449_tx (by rw [es]; exact Lq449) (by omega) (by omega) (by omega) (by rw [es]; exact hB449) T449 _ _ _ _ (X449.more (by first | omega | (dsimp only [Pt.cells, Pt.slots]; omega) | (dsimp only; omega)) (by first | omega | (dsimp only [Pt.cells, Pt.slots]; omega) | (dsimp only; omega))) rfl N449 hS445 hZ445 hown445 (CHv.keep K449 (sfS (CHr.safe A445 gh_11.lt gh_10) (sfS (CHr.safe A445 gh_16.lt gh_18) sf0)) (And.left A445)) y452 (Nat.le_trans hk445 K449.1) ((gh_3.ext E445).trans K449 (allS (Or.inr gk421) (allS (Or.inr gq2) all0))) (Nat.le_trans (Nat.le_trans gh_4 E445.1) K449.1) ((gh_5.ext E445).keep K449 (allS gn421 (allS gq1 all0))) ((gh_6.ext E445).keep K449) ((gh_7.ext E445).keep K449 (ninS ne421_x (ninS nqx nin0))) ((gh_8.ext E445).keep K449 (ninS ne421_x (ninS nqx nin0))) ((gh_9.ext E445).keep K449 (ninS ne421_tx (ninS nqt nin0))) y450 Eq449 Vq449 Cq449 Dq449 Mq449 Xq449 Aq449 y453
          · by_cases hc454 : (cs.getD i 0) = (39 : Int32)
            · have hs455 : (#[(34, 81), (38, 51), (39, 91), (60, 61), (62, 71)] : Array (Int × Int)).find? (·.1 == ((cs.getD i 0)).toInt) = some (39, 91) := by rw [hc454]; decide
              refine own_on (fun tq => X431.lookupswitchHit hx (g := (mkF m 29 #[.val (.ref x), .val (.ref b421), .val (.int (Int32.ofNat i)), .val (.int (cs.getD i 0))] [(.int (cs.getD i 0))])) rfl rfl (hb hby (od dB5 17 rfl)) (by decide) hs455 (by show (0 : Int) ≤ ((29 : Nat) : Int) + 91; decide) tq) ?_
              show own_Fin p e below _ (T431.setTop (mkF m 120 #[.val (.ref x), .val (.ref b421), .val (.int (Int32.ofNat i)), .val (.int (cs.getD i 0))] []))
              refine o_aldN X431 H (od dB5 38 rfl) rfl rfl ?_
              obtain ⟨a456, T456, h456, k456, c456, kc456, X456, e456, E456, hS456, hk456, hZ456, hown456, Ea456, Ca456, Va456, Aa456, la456, lc456, A456, Lt456, sf456, st456⟩ := ldcCH X431 hx hZh hownh (ow hw 282 rfl) wS e431 hSh gh_2 hEL (by decide) gh_0 (vs := [(.int (38 : Int32)), (.int (35 : Int32)), (.int (51 : Int32)), (.int (57 : Int32)), (.int (59 : Int32))]) (z := (5 : Int32)) ⟨by decide, rfl⟩ (by decide) rfl (g := (mkF m 121 #[.val (.ref x), .val (.ref b421), .val (.int (Int32.ofNat i)), .val (.int (cs.getD i 0))] [(.ref b421)])) rfl (hb hby (od dB5 39 rfl)) (n := 20) (by decide) (by decide) (by first | omega | (dsimp only [Pt.cells, Pt.slots]; omega) | (dsimp only; omega)) (by first | omega | (dsimp only [Pt.cells, Pt.slots]; omega) | (dsimp only; omega))
              have ns457 := sf456 _ (CHr.safe A456 gh_11.lt gh_10)
              have ns458 := sf456 _ (CHr.safe A456 gh_16.lt gh_18)
              refine own_on st456 ?_
              show own_Fin p e below _ (T456.setTop (mkF m 123 #[.val (.ref x), .val (.ref b421), .val (.int (Int32.ofNat i)), .val (.int (cs.getD i 0))] [(.ref a456), (.ref b421)]))
              have KL459 : Arv Z h456 c456 kc456 .byte (Int32.ofNat 5) ((own_l39.map StrChars.lo8).map Value.int) (.int 0) := by rw [own_k39]; exact Aa456
              refine o_vs (argsL := [(.ref a456)]) (rest := []) X456 H hml hZ456 hown456 (ow hw 164 rfl) (ow hw 165 rfl) (ow hw 167 rfl) (ow hw 166 rfl) (backOf (W := 0) (rm32 l Z a0 hw [] b421 a456 tq ktq kq (own_escs (cs.take i)) cq cdq nq vsq c456 kc456 5 own_l39 z fm h456 n0 (by exact (Nat.le_trans gh_4 E456.1)) ⟨hz, (gh_5.ext E456), SC, SA, SH, SL, SF, hfm⟩ (gh_11.ext E456) (gh_12.ext E456) (gh_13.ext E456) (gh_14.ext E456) (gh_15.ext E456) (gh_16.ext E456) (gh_17.ext E456) gn421 gq1 nqb hlq (by omega) (by omega) hBq (own_escst r16) Ea456 Ca456 Va456 KL459 (rfl : own_l39.length = 5) own_r39 (Ne.symm ns458.2) (Ne.symm ns457.2) (Ne.symm ns458.1) (Ne.symm ns457.1) (by omega)) hZ456 (ow hw 168 rfl) (ow hw 33 rfl) (by decide) (by decide)) (by decide) (gh_11.ext E456) e456 pd_35 (od dB5 40 rfl) rfl rfl rfl rfl rfl (by first | omega | (dsimp only [Pt.cells, Pt.slots]; omega) | (dsimp only; omega)) (by first | omega | (dsimp only [Pt.cells, Pt.slots]; omega) | (dsimp only; omega)) fun _ T460 Lc460 X460 hQ460 => ?_
              have Lq460 : ((own_escs (cs.take i)) ++ own_l39).length = (kq + 5) := own_la hlq rfl
              obtain ⟨tg460, kt460, c460, co460, nb460, vs460, rfl, N460q, K460, ht460, gt460, nb460', hq460, hc460, hB460, Eq460, Vq460, Cq460, Dq460, Mq460, Xq460, Aq460⟩ := hQ460
              have nb460x := nb460'
              have ne460_x : x ≠ tg460 := own_neT ht460 nqx (gh_6.ext E456).lt
              have ne460_tx : tx ≠ tg460 := own_neT ht460 nqt (gh_9.ext E456).lt
              have ne460_a456 : a456 ≠ tg460 := own_neT ht460 (Ne.symm ns458.1) Ea456.lt
              have ne460_c456 : c456 ≠ tg460 := own_neT ht460 (Ne.symm ns458.2) KL459.lt
              have sf460 : Safe Z own_EL T456.vm h456 tg460 := by rcases ht460 with h | h; (rw [h]; exact (CHr.safe A456 gh_16.lt gh_18)); exact Safe.new h
              have k0460 : h0.size ≤ tg460 := by rcases ht460 with h | h; (rw [h]; exact gq2); exact Nat.le_trans (gh_3.ext E456).1 h
              have N460 := Fr.app N431 N460q
              have y461 := (Safe.keep K460 (sfS (CHr.safe A456 gh_11.lt gh_10) (sfS (CHr.safe A456 gh_16.lt gh_18) sf0)) (And.left A456) (CHr.safe A456 gh_11.lt gh_10))
              have y462 := (Safe.keep K460 (sfS (CHr.safe A456 gh_11.lt gh_10) (sfS (CHr.safe A456 gh_16.lt gh_18) sf0)) (And.left A456) (CHr.safe A456 gh_16.lt gh_18))
              have y463 := (CHr.trans (CHr.trans gh_1 A456) (CHr.keep K460 (sfS (CHr.safe A456 gh_11.lt gh_10) (sfS (CHr.safe A456 gh_16.lt gh_18) sf0)) (And.left A456)))
              have y464 := (Safe.keep K460 (sfS (CHr.safe A456 gh_11.lt gh_10) (sfS (CHr.safe A456 gh_16.lt gh_18) sf0)) (And.left A456) sf460)
              show own_Fin p e below _ (T460.setTop (mkF m 126 #[.val (.ref x), .val (.ref b421), .val (.int (Int32.ofNat i)), .val (.int (cs.getD i 0))] [(.ref b421)]))
              refine o_pop X460 H (od dB5 41 rfl) rfl ?_
              refine o_go X460 H (od dB5 42 rfl) (pc' := 136) (by decide) (by decide) ?_
              refine own_on (fun tq => XS.iinc X460.here hx rfl (hb hby (od dB5 47 rfl)) rfl (l' := #[.val (.ref x), .val (.ref b421), .val (.int ((Int32.ofNat i) + (1 : Int32))), .val (.int (cs.getD i 0))]) rfl) ?_
              show own_Fin p e below _ (T460.setTop (mkF m 139 #[.val (.ref x), .val (.ref b421), .val (.int ((Int32.ofNat i) + (1 : Int32))), .val (.int (cs.getD i 0))] []))
              refine o_go X460 H (od dB5 48 rfl) (pc' := 14) (by decide) (by decide) ?_
              have es : (own_escs (cs.take (i + 1))) = ((own_escs (cs.take i)) ++ own_l39) := by rw [own_step hi, own_e39 hc454]; rfl
              rw [show Int32.ofNat i + (1 : Int32) = Int32.ofNat (i + 1) from own_add _ 1]
              exact ih (i + 1) (by omega) _ (Or.inr ⟨_, rfl⟩) tg460 kt460 c460 co460 nb460 vs460 (kq + 5) gt460 k0460 nb460x ne460_x ne460_tx (by rw [es]; exact Lq460) (by omega) (by omega) (by omega) (by rw [es]; exact hB460) T460 _ _ _ _ (X460.more (by first | omega | (dsimp only [Pt.cells, Pt.slots]; omega) | (dsimp only; omega)) (by first | omega | (dsimp only [Pt.cells, Pt.slots]; omega) | (dsimp only; omega))) rfl N460 hS456 hZ456 hown456 (CHv.keep K460 (sfS (CHr.safe A456 gh_11.lt gh_10) (sfS (CHr.safe A456 gh_16.lt gh_18) sf0)) (And.left A456)) y463 (Nat.le_trans hk456 K460.1) ((gh_3.ext E456).trans K460 (allS (Or.inr gk421) (allS (Or.inr gq2) all0))) (Nat.le_trans (Nat.le_trans gh_4 E456.1) K460.1) ((gh_5.ext E456).keep K460 (allS gn421 (allS gq1 all0))) ((gh_6.ext E456).keep K460) ((gh_7.ext E456).keep K460 (ninS ne421_x (ninS nqx nin0))) ((gh_8.ext E456).keep K460 (ninS ne421_x (ninS nqx nin0))) ((gh_9.ext E456).keep K460 (ninS ne421_tx (ninS nqt nin0))) y461 Eq460 Vq460 Cq460 Dq460 Mq460 Xq460 Aq460 y464
            · by_cases hc465 : (cs.getD i 0) = (60 : Int32)
              · have hs466 : (#[(34, 81), (38, 51), (39, 91), (60, 61), (62, 71)] : Array (Int × Int)).find? (·.1 == ((cs.getD i 0)).toInt) = some (60, 61) := by rw [hc465]; decide
                refine own_on (fun tq => X431.lookupswitchHit hx (g := (mkF m 29 #[.val (.ref x), .val (.ref b421), .val (.int (Int32.ofNat i)), .val (.int (cs.getD i 0))] [(.int (cs.getD i 0))])) rfl rfl (hb hby (od dB5 17 rfl)) (by decide) hs466 (by show (0 : Int) ≤ ((29 : Nat) : Int) + 61; decide) tq) ?_
                show own_Fin p e below _ (T431.setTop (mkF m 90 #[.val (.ref x), .val (.ref b421), .val (.int (Int32.ofNat i)), .val (.int (cs.getD i 0))] []))
                refine o_aldN X431 H (od dB5 23 rfl) rfl rfl ?_
                obtain ⟨a467, T467, h467, k467, c467, kc467, X467, e467, E467, hS467, hk467, hZ467, hown467, Ea467, Ca467, Va467, Aa467, la467, lc467, A467, Lt467, sf467, st467⟩ := ldcCH X431 hx hZh hownh (ow hw 280 rfl) wS e431 hSh gh_2 hEL (by decide) gh_0 (vs := [(.int (38 : Int32)), (.int (108 : Int32)), (.int (116 : Int32)), (.int (59 : Int32))]) (z := (4 : Int32)) ⟨by decide, rfl⟩ (by decide) rfl (g := (mkF m 91 #[.val (.ref x), .val (.ref b421), .val (.int (Int32.ofNat i)), .val (.int (cs.getD i 0))] [(.ref b421)])) rfl (hb hby (od dB5 24 rfl)) (n := 16) (by decide) (by decide) (by first | omega | (dsimp only [Pt.cells, Pt.slots]; omega) | (dsimp only; omega)) (by first | omega | (dsimp only [Pt.cells, Pt.slots]; omega) | (dsimp only; omega))
                have ns468 := sf467 _ (CHr.safe A467 gh_11.lt gh_10)
                have ns469 := sf467 _ (CHr.safe A467 gh_16.lt gh_18)
                refine own_on st467 ?_
                show own_Fin p e below _ (T467.setTop (mkF m 93 #[.val (.ref x), .val (.ref b421), .val (.int (Int32.ofNat i)), .val (.int (cs.getD i 0))] [(.ref a467), (.ref b421)]))
                have KL470 : Arv Z h467 c467 kc467 .byte (Int32.ofNat 4) ((own_l60.map StrChars.lo8).map Value.int) (.int 0) := by rw [own_k60]; exact Aa467
                refine o_vs (argsL := [(.ref a467)]) (rest := []) X467 H hml hZ467 hown467 (ow hw 164 rfl) (ow hw 165 rfl) (ow hw 167 rfl) (ow hw 166 rfl) (backOf (W := 0) (rm32 l Z a0 hw [] b421 a467 tq ktq kq (own_escs (cs.take i)) cq cdq nq vsq c467 kc467 4 own_l60 z fm h467 n0 (by exact (Nat.le_trans gh_4 E467.1)) ⟨hz, (gh_5.ext E467), SC, SA, SH, SL, SF, hfm⟩ (gh_11.ext E467) (gh_12.ext E467) (gh_13.ext E467) (gh_14.ext E467) (gh_15.ext E467) (gh_16.ext E467) (gh_17.ext E467) gn421 gq1 nqb hlq (by omega) (by omega) hBq (own_escst r16) Ea467 Ca467 Va467 KL470 (rfl : own_l60.length = 4) own_r60 (Ne.symm ns469.2) (Ne.symm ns468.2) (Ne.symm ns469.1) (Ne.symm ns468.1) (by omega)) hZ467 (ow hw 168 rfl) (ow hw 33 rfl) (by decide) (by decide)) (by decide) (gh_11.ext E467) e467 pd_35 (od dB5 25 rfl) rfl rfl rfl rfl rfl (by first | omega | (dsimp only [Pt.cells, Pt.slots]; omega) | (dsimp only; omega)) (by first | omega | (dsimp only [Pt.cells, Pt.slots]; omega) | (dsimp only; omega)) fun _ T471 Lc471 X471 hQ471 => ?_
                have Lq471 : ((own_escs (cs.take i)) ++ own_l60).length = (kq + 4) := own_la hlq rfl
                obtain ⟨tg471, kt471, c471, co471, nb471, vs471, rfl, N471q, K471, ht471, gt471, nb471', hq471, hc471, hB471, Eq471, Vq471, Cq471, Dq471, Mq471, Xq471, Aq471⟩ := hQ471
                have nb471x := nb471'
                have ne471_x : x ≠ tg471 := own_neT ht471 nqx (gh_6.ext E467).lt
                have ne471_tx : tx ≠ tg471 := own_neT ht471 nqt (gh_9.ext E467).lt
                have ne471_a467 : a467 ≠ tg471 := own_neT ht471 (Ne.symm ns469.1) Ea467.lt
                have ne471_c467 : c467 ≠ tg471 := own_neT ht471 (Ne.symm ns469.2) KL470.lt
                have sf471 : Safe Z own_EL T467.vm h467 tg471 := by rcases ht471 with h | h; (rw [h]; exact (CHr.safe A467 gh_16.lt gh_18)); exact Safe.new h
                have k0471 : h0.size ≤ tg471 := by rcases ht471 with h | h; (rw [h]; exact gq2); exact Nat.le_trans (gh_3.ext E467).1 h
                have N471 := Fr.app N431 N471q
                have y472 := (Safe.keep K471 (sfS (CHr.safe A467 gh_11.lt gh_10) (sfS (CHr.safe A467 gh_16.lt gh_18) sf0)) (And.left A467) (CHr.safe A467 gh_11.lt gh_10))
                have y473 := (Safe.keep K471 (sfS (CHr.safe A467 gh_11.lt gh_10) (sfS (CHr.safe A467 gh_16.lt gh_18) sf0)) (And.left A467) (CHr.safe A467 gh_16.lt gh_18))
                have y474 := (CHr.trans (CHr.trans gh_1 A467) (CHr.keep K471 (sfS (CHr.safe A467 gh_11.lt gh_10) (sfS (CHr.safe A467 gh_16.lt gh_18) sf0)) (And.left A467)))
                have y475 := (Safe.keep K471 (sfS (CHr.safe A467 gh_11.lt gh_10) (sfS (CHr.safe A467 gh_16.lt gh_18) sf0)) (And.left A467) sf471)
                show own_Fin p e below _ (T471.setTop (mkF m 96 #[.val (.ref x), .val (.ref b421), .val (.int (Int32.ofNat i)), .val (.int (cs.getD i 0))] [(.ref b421)]))
                refine o_pop X471 H (od dB5 26 rfl) rfl ?_
                refine o_go X471 H (od dB5 27 rfl) (pc' := 136) (by decide) (by decide) ?_
                refine own_on (fun tq => XS.iinc X471.here hx rfl (hb hby (od dB5 47 rfl)) rfl (l' := #[.val (.ref x), .val (.ref b421), .val (.int ((Int32.ofNat i) + (1 : Int32))), .val (.int (cs.getD i 0))]) rfl) ?_
                show own_Fin p e below _ (T471.setTop (mkF m 139 #[.val (.ref x), .val (.ref b421), .val (.int ((Int32.ofNat i) + (1 : Int32))), .val (.int (cs.getD i 0))] []))
                refine o_go X471 H (od dB5 48 rfl) (pc' := 14) (by decide) (by decide) ?_
                have es : (own_escs (cs.take (i + 1))) = ((own_escs (cs.take i)) ++ own_l60) := by rw [own_step hi, own_e60 hc465]; rfl
                rw [show Int32.ofNat i + (1 : Int32) = Int32.ofNat (i + 1) from own_add _ 1]
                exact ih (i + 1) (by omega) _ (Or.inr ⟨_, rfl⟩) tg471 kt471 c471 co471 nb471 vs471 (kq + 4) gt471 k0471 nb471x ne471_x ne471_tx (by rw [es]; exact Lq471) (by omega) (by omega) (by omega) (by rw [es]; exact hB471) T471 _ _ _ _ (X471.more (by first | omega | (dsimp only [Pt.cells, Pt.slots]; omega) | (dsimp only; omega)) (by first | omega | (dsimp only [Pt.cells, Pt.slots]; omega) | (dsimp only; omega))) rfl N471 hS467 hZ467 hown467 (CHv.keep K471 (sfS (CHr.safe A467 gh_11.lt gh_10) (sfS (CHr.safe A467 gh_16.lt gh_18) sf0)) (And.left A467)) y474 (Nat.le_trans hk467 K471.1) ((gh_3.ext E467).trans K471 (allS (Or.inr gk421) (allS (Or.inr gq2) all0))) (Nat.le_trans (Nat.le_trans gh_4 E467.1) K471.1) ((gh_5.ext E467).keep K471 (allS gn421 (allS gq1 all0))) ((gh_6.ext E467).keep K471) ((gh_7.ext E467).keep K471 (ninS ne421_x (ninS nqx nin0))) ((gh_8.ext E467).keep K471 (ninS ne421_x (ninS nqx nin0))) ((gh_9.ext E467).keep K471 (ninS ne421_tx (ninS nqt nin0))) y472 Eq471 Vq471 Cq471 Dq471 Mq471 Xq471 Aq471 y475
              · by_cases hc476 : (cs.getD i 0) = (62 : Int32)
                · have hs477 : (#[(34, 81), (38, 51), (39, 91), (60, 61), (62, 71)] : Array (Int × Int)).find? (·.1 == ((cs.getD i 0)).toInt) = some (62, 71) := by rw [hc476]; decide
                  refine own_on (fun tq => X431.lookupswitchHit hx (g := (mkF m 29 #[.val (.ref x), .val (.ref b421), .val (.int (Int32.ofNat i)), .val (.int (cs.getD i 0))] [(.int (cs.getD i 0))])) rfl rfl (hb hby (od dB5 17 rfl)) (by decide) hs477 (by show (0 : Int) ≤ ((29 : Nat) : Int) + 71; decide) tq) ?_
                  show own_Fin p e below _ (T431.setTop (mkF m 100 #[.val (.ref x), .val (.ref b421), .val (.int (Int32.ofNat i)), .val (.int (cs.getD i 0))] []))
                  refine o_aldN X431 H (od dB5 28 rfl) rfl rfl ?_
                  obtain ⟨a478, T478, h478, k478, c478, kc478, X478, e478, E478, hS478, hk478, hZ478, hown478, Ea478, Ca478, Va478, Aa478, la478, lc478, A478, Lt478, sf478, st478⟩ := ldcCH X431 hx hZh hownh (ow hw 216 rfl) wS e431 hSh gh_2 hEL (by decide) gh_0 (vs := [(.int (38 : Int32)), (.int (103 : Int32)), (.int (116 : Int32)), (.int (59 : Int32))]) (z := (4 : Int32)) ⟨by decide, rfl⟩ (by decide) rfl (g := (mkF m 101 #[.val (.ref x), .val (.ref b421), .val (.int (Int32.ofNat i)), .val (.int (cs.getD i 0))] [(.ref b421)])) rfl (hb hby (od dB5 29 rfl)) (n := 16) (by decide) (by decide) (by first | omega | (dsimp only [Pt.cells, Pt.slots]; omega) | (dsimp only; omega)) (by first | omega | (dsimp only [Pt.cells, Pt.slots]; omega) | (dsimp only; omega))
                  have ns479 := sf478 _ (CHr.safe A478 gh_11.lt gh_10)
                  have ns480 := sf478 _ (CHr.safe A478 gh_16.lt gh_18)
                  refine own_on st478 ?_
                  show own_Fin p e below _ (T478.setTop (mkF m 103 #[.val (.ref x), .val (.ref b421), .val (.int (Int32.ofNat i)), .val (.int (cs.getD i 0))] [(.ref a478), (.ref b421)]))
                  have KL481 : Arv Z h478 c478 kc478 .byte (Int32.ofNat 4) ((own_l62.map StrChars.lo8).map Value.int) (.int 0) := by rw [own_k62]; exact Aa478
                  refine o_vs (argsL := [(.ref a478)]) (rest := []) X478 H hml hZ478 hown478 (ow hw 164 rfl) (ow hw 165 rfl) (ow hw 167 rfl) (ow hw 166 rfl) (backOf (W := 0) (rm32 l Z a0 hw [] b421 a478 tq ktq kq (own_escs (cs.take i)) cq cdq nq vsq c478 kc478 4 own_l62 z fm h478 n0 (by exact (Nat.le_trans gh_4 E478.1)) ⟨hz, (gh_5.ext E478), SC, SA, SH, SL, SF, hfm⟩ (gh_11.ext E478) (gh_12.ext E478) (gh_13.ext E478) (gh_14.ext E478) (gh_15.ext E478) (gh_16.ext E478) (gh_17.ext E478) gn421 gq1 nqb hlq (by omega) (by omega) hBq (own_escst r16) Ea478 Ca478 Va478 KL481 (rfl : own_l62.length = 4) own_r62 (Ne.symm ns480.2) (Ne.symm ns479.2) (Ne.symm ns480.1) (Ne.symm ns479.1) (by omega)) hZ478 (ow hw 168 rfl) (ow hw 33 rfl) (by decide) (by decide)) (by decide) (gh_11.ext E478) e478 pd_35 (od dB5 30 rfl) rfl rfl rfl rfl rfl (by first | omega | (dsimp only [Pt.cells, Pt.slots]; omega) | (dsimp only; omega)) (by first | omega | (dsimp only [Pt.cells, Pt.slots]; omega) | (dsimp only; omega)) fun _ T482 Lc482 X482 hQ482 => ?_
                  have Lq482 : ((own_escs (cs.take i)) ++ own_l62).length = (kq + 4) := own_la hlq rfl
                  obtain ⟨tg482, kt482, c482, co482, nb482, vs482, rfl, N482q, K482, ht482, gt482, nb482', hq482, hc482, hB482, Eq482, Vq482, Cq482, Dq482, Mq482, Xq482, Aq482⟩ := hQ482
                  have nb482x := nb482'
                  have ne482_x : x ≠ tg482 := own_neT ht482 nqx (gh_6.ext E478).lt
                  have ne482_tx : tx ≠ tg482 := own_neT ht482 nqt (gh_9.ext E478).lt
                  have ne482_a478 : a478 ≠ tg482 := own_neT ht482 (Ne.symm ns480.1) Ea478.lt
                  have ne482_c478 : c478 ≠ tg482 := own_neT ht482 (Ne.symm ns480.2) KL481.lt
                  have sf482 : Safe Z own_EL T478.vm h478 tg482 := by rcases ht482 with h | h; (rw [h]; exact (CHr.safe A478 gh_16.lt gh_18)); exact Safe.new h
                  have k0482 : h0.size ≤ tg482 := by rcases ht482 with h | h; (rw [h]; exact gq2); exact Nat.le_trans (gh_3.ext E478).1 h
                  have N482 := Fr.app N431 N482q
                  have y483 := (Safe.keep K482 (sfS (CHr.safe A478 gh_11.lt gh_10) (sfS (CHr.safe A478 gh_16.lt gh_18) sf0)) (And.left A478) (CHr.safe A478 gh_11.lt gh_10))
                  have y484 := (Safe.keep K482 (sfS (CHr.safe A478 gh_11.lt gh_10) (sfS (CHr.safe A478 gh_16.lt gh_18) sf0)) (And.left A478) (CHr.safe A478 gh_16.lt gh_18))
                  have y485 := (CHr.trans (CHr.trans gh_1 A478) (CHr.keep K482 (sfS (CHr.safe A478 gh_11.lt gh_10) (sfS (CHr.safe A478 gh_16.lt gh_18) sf0)) (And.left A478)))
                  have y486 := (Safe.keep K482 (sfS (CHr.safe A478 gh_11.lt gh_10) (sfS (CHr.safe A478 gh_16.lt gh_18) sf0)) (And.left A478) sf482)
                  show own_Fin p e below _ (T482.setTop (mkF m 106 #[.val (.ref x), .val (.ref b421), .val (.int (Int32.ofNat i)), .val (.int (cs.getD i 0))] [(.ref b421)]))
                  refine o_pop X482 H (od dB5 31 rfl) rfl ?_
                  refine o_go X482 H (od dB5 32 rfl) (pc' := 136) (by decide) (by decide) ?_
                  refine own_on (fun tq => XS.iinc X482.here hx rfl (hb hby (od dB5 47 rfl)) rfl (l' := #[.val (.ref x), .val (.ref b421), .val (.int ((Int32.ofNat i) + (1 : Int32))), .val (.int (cs.getD i 0))]) rfl) ?_
                  show own_Fin p e below _ (T482.setTop (mkF m 139 #[.val (.ref x), .val (.ref b421), .val (.int ((Int32.ofNat i) + (1 : Int32))), .val (.int (cs.getD i 0))] []))
                  refine o_go X482 H (od dB5 48 rfl) (pc' := 14) (by decide) (by decide) ?_
                  have es : (own_escs (cs.take (i + 1))) = ((own_escs (cs.take i)) ++ own_l62) := by rw [own_step hi, own_e62 hc476]; rfl
                  rw [show Int32.ofNat i + (1 : Int32) = Int32.ofNat (i + 1) from own_add _ 1]
                  exact ih (i + 1) (by omega) _ (Or.inr ⟨_, rfl⟩) tg482 kt482 c482 co482 nb482 vs482 (kq + 4) gt482 k0482 nb482x ne482_x ne482_tx (by rw [es]; exact Lq482) (by omega) (by omega) (by omega) (by rw [es]; exact hB482) T482 _ _ _ _ (X482.more (by first | omega | (dsimp only [Pt.cells, Pt.slots]; omega) | (dsimp only; omega)) (by first | omega | (dsimp only [Pt.cells, Pt.slots]; omega) | (dsimp only; omega))) rfl N482 hS478 hZ478 hown478 (CHv.keep K482 (sfS (CHr.safe A478 gh_11.lt gh_10) (sfS (CHr.safe A478 gh_16.lt gh_18) sf0)) (And.left A478)) y485 (Nat.le_trans hk478 K482.1) ((gh_3.ext E478).trans K482 (allS (Or.inr gk421) (allS (Or.inr gq2) all0))) (Nat.le_trans (Nat.le_trans gh_4 E478.1) K482.1) ((gh_5.ext E478).keep K482 (allS gn421 (allS gq1 all0))) ((gh_6.ext E478).keep K482) ((gh_7.ext E478).keep K482 (ninS ne421_x (ninS nqx nin0))) ((gh_8.ext E478).keep K482 (ninS ne421_x (ninS nqx nin0))) ((gh_9.ext E478).keep K482 (ninS ne421_tx (ninS nqt nin0))) y483 Eq482 Vq482 Cq482 Dq482 Mq482 Xq482 Aq482 y486
                · have hs487 : (#[(34, 81), (38, 51), (39, 91), (60, 61), (62, 71)] : Array (Int × Int)).find? (·.1 == ((cs.getD i 0)).toInt) = none := own_miss _ _ _ _ _ hc432 hc443 hc454 hc465 hc476
                  refine own_on (fun tq => X431.lookupswitchMiss hx (g := (mkF m 29 #[.val (.ref x), .val (.ref b421), .val (.int (Int32.ofNat i)), .val (.int (cs.getD i 0))] [(.int (cs.getD i 0))])) rfl rfl (hb hby (od dB5 17 rfl)) (by decide) hs487 (by show (0 : Int) ≤ ((29 : Nat) : Int) + 101; decide) tq) ?_
                  show own_Fin p e below _ (T431.setTop (mkF m 130 #[.val (.ref x), .val (.ref b421), .val (.int (Int32.ofNat i)), .val (.int (cs.getD i 0))] []))
                  refine o_aldN X431 H (od dB5 43 rfl) rfl rfl ?_
                  refine o_ildN X431 H (od dB5 44 rfl) rfl ?_
                  refine o_vs (argsL := [(.int (cs.getD i 0))]) (rest := []) X431 H hml hZh hownh (ow hw 145 rfl) (ow hw 146 rfl) (ow hw 148 rfl) (ow hw 147 rfl) (backOf (W := 0) (rm28 l Z a0 hw [] b421 (cs.getD i 0) tq ktq kq (own_escs (cs.take i)) cq cdq nq vsq z fm Hh n0 (by exact gh_4) ⟨hz, gh_5, SC, SA, SH, SL, SF, hfm⟩ gh_11 gh_12 gh_13 gh_14 gh_15 gh_16 gh_17 gn421 gq1 nqb hlq (by omega) (by omega) hBq (own_escst r16) (r16 _ (own_mem (by rw [hln]; omega))) (by omega)) hZh (ow hw 149 rfl) (ow hw 33 rfl) (by decide) (by decide)) (by decide) gh_11 e431 pd_36 (od dB5 45 rfl) rfl rfl rfl rfl rfl (by first | omega | (dsimp only [Pt.cells, Pt.slots]; omega) | (dsimp only; omega)) (by first | omega | (dsimp only [Pt.cells, Pt.slots]; omega) | (dsimp only; omega)) fun _ T488 Lc488 X488 hQ488 => ?_
                  have Lq488 : ((own_escs (cs.take i)) ++ [(cs.getD i 0)]).length = (kq + 1) := own_la hlq rfl
                  obtain ⟨tg488, kt488, c488, co488, nb488, vs488, rfl, N488q, K488, ht488, gt488, nb488', hq488, hc488, hB488, Eq488, Vq488, Cq488, Dq488, Mq488, Xq488, Aq488⟩ := hQ488
                  have nb488x := nb488'
                  have ne488_x : x ≠ tg488 := own_neT ht488 nqx gh_6.lt
                  have ne488_tx : tx ≠ tg488 := own_neT ht488 nqt gh_9.lt
                  have sf488 : Safe Z own_EL vmh Hh tg488 := by rcases ht488 with h | h; (rw [h]; exact gh_18); exact Safe.new h
                  have k0488 : h0.size ≤ tg488 := by rcases ht488 with h | h; (rw [h]; exact gq2); exact Nat.le_trans gh_3.1 h
                  have N488 := Fr.app N431 N488q
                  show own_Fin p e below _ (T488.setTop (mkF m 135 #[.val (.ref x), .val (.ref b421), .val (.int (Int32.ofNat i)), .val (.int (cs.getD i 0))] [(.ref b421)]))
                  refine o_pop X488 H (od dB5 46 rfl) rfl ?_
                  refine own_on (fun tq => XS.iinc X488.here hx rfl (hb hby (od dB5 47 rfl)) rfl (l' := #[.val (.ref x), .val (.ref b421), .val (.int ((Int32.ofNat i) + (1 : Int32))), .val (.int (cs.getD i 0))]) rfl) ?_
                  show own_Fin p e below _ (T488.setTop (mkF m 139 #[.val (.ref x), .val (.ref b421), .val (.int ((Int32.ofNat i) + (1 : Int32))), .val (.int (cs.getD i 0))] []))
                  refine o_go X488 H (od dB5 48 rfl) (pc' := 14) (by decide) (by decide) ?_
                  have es : (own_escs (cs.take (i + 1))) = ((own_escs (cs.take i)) ++ [(cs.getD i 0)]) := by rw [own_step hi, own_eD hc443 hc465 hc476 hc432 hc454]
                  rw [show Int32.ofNat i + (1 : Int32) = Int32.ofNat (i + 1) from own_add _ 1]
                  exact ih (i + 1) (by omega) _ (Or.inr ⟨_, rfl⟩) tg488 kt488 c488 co488 nb488 vs488 (kq + 1) gt488 k0488 nb488x ne488_x ne488_tx (by rw [es]; exact Lq488) (by omega) (by omega) (by omega) (by rw [es]; exact hB488) T488 _ _ _ _ (X488.more (by first | omega | (dsimp only [Pt.cells, Pt.slots]; omega) | (dsimp only; omega)) (by first | omega | (dsimp only [Pt.cells, Pt.slots]; omega) | (dsimp only; omega))) rfl N488 hSh hZh hownh (CHv.keep K488 (sfS gh_10 (sfS gh_18 sf0)) gh_0) (CHr.trans gh_1 (CHr.keep K488 (sfS gh_10 (sfS gh_18 sf0)) gh_0)) (Nat.le_trans gh_2 K488.1) (gh_3.trans K488 (allS (Or.inr gk421) (allS (Or.inr gq2) all0))) (Nat.le_trans gh_4 K488.1) (gh_5.keep K488 (allS gn421 (allS gq1 all0))) (gh_6.keep K488) (gh_7.keep K488 (ninS ne421_x (ninS nqx nin0))) (gh_8.keep K488 (ninS ne421_x (ninS nqx nin0))) (gh_9.keep K488 (ninS ne421_tx (ninS nqt nin0))) (Safe.keep K488 (sfS gh_10 (sfS gh_18 sf0)) gh_0 gh_10) Eq488 Vq488 Cq488 Dq488 Mq488 Xq488 Aq488 (Safe.keep K488 (sfS gh_10 (sfS gh_18 sf0)) gh_0 sf488)
      · refine o_icY X429 H (od dB5 11 rfl) (flt hc430).2.1 (pc' := 142) (by decide) (by decide) ?_
        have hle : ln ≤ i := own_nltof hc430 (by omega) (by omega)
        refine o_aldN X429 H (od dB5 49 rfl) rfl rfl ?_
        refine o_vs (argsL := []) (rest := []) X429 H hml hZh hownh (ow hw 60 rfl) (ow hw 61 rfl) (ow hw 63 rfl) (ow hw 62 rfl) (backOf (W := 0) (rm10 l Z a0 hw [] b421 tq ktq kq (own_escs (cs.take i)) cq cdq nq vsq z fm Hh n0 (by exact gh_4) ⟨hz, gh_5, SC, SA, SH, SL, SF, hfm⟩ gh_11 gh_12 gh_13 gh_14 gh_15 gh_16 gh_17 gn421 gq1 nqb hlq (by omega) (by omega) hBq (own_escst r16)) hZh (ow hw 64 rfl) (ow hw 33 rfl) (by decide) (by decide)) (by decide) gh_11 e429 pd_34 (od dB5 50 rfl) rfl rfl rfl rfl rfl (by first | omega | (dsimp only [Pt.cells, Pt.slots]; omega) | (dsimp only; omega)) (by first | omega | (dsimp only [Pt.cells, Pt.slots]; omega) | (dsimp only; omega)) fun _ T489 Lc489 X489 hQ489 => ?_
        obtain ⟨y489s, x489, kx489, co489, n2489, vs489, rfl, N489q, K489, cod489, Eq489, Cq489, Vq489, Aq489⟩ := hQ489
        have N489 := Fr.app N429 N489q
        show own_Fin p e below _ (T489.setTop (mkF m 146 #[.val (.ref x), .val (.ref b421), .val (.int (Int32.ofNat i)), lq] [(.ref y489s)]))
        exact own_retW (t := (.object "java/lang/String")) X489 (Z := Z) (EL := own_EL) (a0 := a0) hx hlk hret rfl (Or.inr (Or.inr (Or.inr (Or.inr ⟨rfl, rfl, rfl⟩)))) (hb hby (od dB5 51 rfl)) hSh (Nat.le_trans gh_2 K489.1) hZh hEL (by rw [hh]; exact (CHr.trans gh_1 (CHr.keep K489 sf0 gh_0))) (by show Q5 Z x tx kx cs co nx vs ln z fm h0 n0 _ T489.heap _; exact ⟨y489s, x489, kx489, co489, n2489, vs489, rfl, N489, (gh_3.trans K489 all0), (by have q := cod489; rw [List.take_of_length_le (by rw [hln]; exact hle)] at q; exact q), Eq489, Cq489, Vq489, Aq489⟩) (by first | omega | (dsimp only [Pt.cells, Pt.slots]; omega) | (dsimp only; omega)) (by first | omega | (dsimp only [Pt.cells, Pt.slots]; omega) | (dsimp only; omega))
  exact PE 3 0 rfl _ (Or.inl rfl) ti423 kt423 ln (0 : Int32) (Int32.ofNat ln) ((([] : List Int32).map StrChars.lo8).map Value.int) 0 gt423 (Nat.le_trans ((Keep.refl h0 []).ext E421).1 gk423) ne423_b421 ne423_x ne423_tx rfl (by decide) (by omega) (by omega) hB0 T423 _ _ _ _ (X423.more (by decide) (by decide)) rfl N423 hS0 hZ hown (CHv.keep K423 (sfS (Safe.ext E421 CH0 (Safe.new (Nat.le_of_eq g421.symm))) sf0) (CHv.ext E421 CH0)) y424 (Nat.le_trans (Nat.le_trans (Nat.zero_le _) E421.1) K423.1) (((Keep.refl h0 []).ext E421).trans K423 (allS (Or.inr gk421) all0)) (Nat.le_trans (Nat.le_trans Z0 E421.1) K423.1) ((O.ext E421).keep K423 (allS gn421 all0)) ((Ex.ext E421).keep K423) ((Vx.ext E421).keep K423 (ninS ne421_x nin0)) ((Cx.ext E421).keep K423 (ninS ne421_x nin0)) ((Kx.ext E421).keep K423 (ninS ne421_tx nin0)) y425 Eq423 Vq423 Cq423 Dq423 Mq423 Xq423 Aq423 y426
theorem ef_rmE4 (m : MethodId) (x0 : Addr) (x1 : Addr) (x2 : Int32) (x3 : Int32) : entryFrame m #[(.ref x0), (.ref x1), (.int x2), (.int x3), .null] 6 = mkF m 0 #[.val (.ref x0), .val (.ref x1), .val (.int x2), .val (.int x3), .val .null, .unset] [] := by first | (simp [entryFrame, mkF, argsToLocals, Value.category]; done) | rfl
def QE4 (Z : State) (a : Addr) (b : Addr) (h0 : Heap) (n0 : Nat) (v : Option Value) (h : Heap) (L : List Loc) : Prop := v = none ∧ Fr n0 L ∧ Keep h0 h [a] ∧ ∃ (t : Addr) (kb : ClassId), Exa Z h a "java/lang/String" ∧ Fld Z h a "java/lang/String" "coder" "B" (.int 0) ∧ Fld Z h a "java/lang/String" "value" "[B" (.ref t) ∧ Arv Z h t kb .byte (0 : Int32) [] (.int 0)
set_option maxRecDepth 65536 in
set_option maxHeartbeats 40000000 in
theorem rmE4 (l : Launch) (Z : State) (a0 : Array Value) (hw : ∀ d ∈ tables_1, d.before a0 Z = true) (ws : List Jvm.Cond) (a : Addr) (b : Addr) (h0 : Heap) (n0 : Nat) (Z0 : n0 ≤ h0.size) (hEL : EW Z a0 own_EL) (E : Exa Z h0 a "java/lang/String") (V0 : Fld Z h0 a "java/lang/String" "value" "[B" .null) (C0 : Fld Z h0 a "java/lang/String" "coder" "B" (.int (0 : Int32))) (ga : n0 ≤ a) :
    MetFree l (⟨"java/lang/String", "<init>", "([CIILjava/lang/Void;)V"⟩ : MethodName) (head1 (Jvm.Cond.code (⟨"java/lang/String", "<init>", "([CIILjava/lang/Void;)V"⟩ : MethodName) jdk_42_method_149_code 6 none :: ws) ({ frames := 1, cells := 4, slots := 8, locals := 13 } : Room)) (fun as_ U => as_ = #[(.ref a), (.ref b), (.int (0 : Int32)), (.int (0 : Int32)), .null] ∧ Z.Warmed39 U.vm ∧ U.heap = h0 ∧ CHv Z own_EL U.vm h0 ∧ Safe Z own_EL U.vm h0 a) (fun _ _ _ _ _ => True) (fun _ U out_ U' => ∃ v L, out_ = .returned v ∧ QE4 Z a b h0 n0 v U'.heap L ∧ CHr Z own_EL U.vm U.heap U'.vm U'.heap ∧ ReturnedEndW U out_ U' L ({ frames := 1, cells := 4, slots := 8, locals := 13 } : Room).cells ({ frames := 1, cells := 4, slots := 8, locals := 13 } : Room).slots) := by
  refine MetFree.of_bodySF (plainFor_of_name pn_1) hisR ?_
  intro p e s m args below meth cd s₁ Bd hml0 hP hK
  obtain ⟨rfl, hZ, hh, CH0, hEx⟩ := hP
  have hx := Bd.exec
  have hby := Bd.bytes
  have hml : cd.maxLocals = 6 := hml0
  have hlk : meth.locks = false := BodyLoose.notSynchronized Bd
  have hown : s.vm.findClass "java/lang/String" = some m.cls := findClass_of_methodNamed Bd.named
  have hnm := (name_of_methodNamed Bd.named Bd.method).1
  have hret := Bd.returns
  have H := And.intro hx hby
  have X0 : Stand p l e ({ frames := 1, cells := 4, slots := 8, locals := 13 } : Room) (s.setVm s.vm) m #[(.ref a), (.ref b), (.int (0 : Int32)), (.int (0 : Int32)), .null] below meth cd s₁ [] 0 0 := Stand.of_body Bd
  have e0 : s₁.heap = h0 := by rw [← hh, Bd.state]; rfl
  have N0 := Fr.nil n0
  have hS0 : s.Since s.vm 0 := (State.WarmedH.refl s).since 0
  have wS := own_wS hw
  show own_Fin p e below (own_AnsW s Z own_EL (QE4 Z a b h0 n0) ({ frames := 1, cells := 4, slots := 8, locals := 13 } : Room).cells ({ frames := 1, cells := 4, slots := 8, locals := 13 } : Room).slots) (s₁.setTop (entryFrame m #[(.ref a), (.ref b), (.int (0 : Int32)), (.int (0 : Int32)), .null] 6))
  refine own_cast (ef_rmE4 m a b (0 : Int32) (0 : Int32)) ?_
  show own_Fin p e below _ (s₁.setTop (mkF m 0 #[.val (.ref a), .val (.ref b), .val (.int (0 : Int32)), .val (.int (0 : Int32)), .val .null, .unset] []))
  refine o_aldN X0 H (od dB3 0 rfl) rfl rfl ?_
  obtain ⟨T490, X490, e490, st490⟩ := initO X0 hx hZ hown (ow hw 16 rfl) (ow hw 17 rfl) (ow hw 18 rfl) e0 (g := (mkF m 1 #[.val (.ref a), .val (.ref b), .val (.int (0 : Int32)), .val (.int (0 : Int32)), .val .null, .unset] [(.ref a)])) rfl (by rw [hml]; rfl) rfl (hb hby (od dB3 1 rfl)) (by decide) (W := 0) (by show 2 * 0 + _ ≤ _; exact Nat.le_of_eq rfl) (by decide)
  refine own_on st490 ?_
  show own_Fin p e below _ (T490.setTop (mkF m 4 #[.val (.ref a), .val (.ref b), .val (.int (0 : Int32)), .val (.int (0 : Int32)), .val .null, .unset] []))
  refine o_ildN X490 H (od dB3 2 rfl) rfl ?_
  refine o_ifN X490 H (od dB3 3 rfl) ((if0 _ _).trans (teq (by decide : (0 : Int32) = (0 : Int32))).2) ?_
  refine o_aldN X490 H (od dB3 4 rfl) rfl rfl ?_
  obtain ⟨a491, T491, h491, k491, c491, kc491, X491, e491, E491, hS491, hk491, hZ491, hown491, Ea491, Ca491, Va491, Aa491, la491, lc491, A491, Lt491, sf491, st491⟩ := ldcCH X490 hx hZ hown (ow hw 19 rfl) wS e490 hS0 (Nat.zero_le _) hEL (by decide) CH0 (vs := []) (z := (0 : Int32)) ⟨by decide, rfl⟩ (by decide) rfl (g := (mkF m 9 #[.val (.ref a), .val (.ref b), .val (.int (0 : Int32)), .val (.int (0 : Int32)), .val .null, .unset] [(.ref a)])) rfl (hb hby (od dB3 5 rfl)) (n := 0) (by decide) (by decide) (by decide) (by decide)
  have ns492 := sf491 _ (CHr.safe A491 E.lt hEx)
  refine own_on st491 ?_
  show own_Fin p e below _ (T491.setTop (mkF m 11 #[.val (.ref a), .val (.ref b), .val (.int (0 : Int32)), .val (.int (0 : Int32)), .val .null, .unset] [(.ref a491), (.ref a)]))
  refine o_gf X491 H hZ491 hown491 (ow hw 25 rfl) Via.refl e491 Va491 (od dB3 6 rfl) fun T493 X493 e493 => ?_
  obtain ⟨T494, h494, X494, e494, W494, st494⟩ := putF X493 hx hZ491 hown491 (host := "") (Or.inl (ow hw 25 rfl)) Via.refl e493 (V0.ext E491) (E.ext E491) (Or.inr ⟨(ow hw 21 rfl), rfl, hnm⟩) (ow hw 6 rfl) (ty := (.array .byte)) (by decide) rfl rfl (g := (mkF m 14 #[.val (.ref a), .val (.ref b), .val (.int (0 : Int32)), .val (.int (0 : Int32)), .val .null, .unset] [(.ref c491), (.ref a)])) rfl rfl (hb hby (od dB3 7 rfl))
  have N494 := Fr.snoc X494 N0 ga
  have y495 := ((C0.ext E491).other W494 (Or.inr (slot_ne (Or.inr (ow hw 22 rfl)) (Or.inr (ow hw 21 rfl)) (by decide) (t := .byte) (t' := (.array .byte)) (by decide) (by decide))))
  refine own_on st494 ?_
  show own_Fin p e below _ (T494.setTop (mkF m 17 #[.val (.ref a), .val (.ref b), .val (.int (0 : Int32)), .val (.int (0 : Int32)), .val .null, .unset] []))
  refine o_aldN X494 H (od dB3 8 rfl) rfl rfl ?_
  obtain ⟨a496, T496, h496, k496, c496, kc496, X496, e496, E496, hS496, hk496, hZ496, hown496, Ea496, Ca496, Va496, Aa496, la496, lc496, A496, Lt496, sf496, st496⟩ := ldcCH X494 hx hZ491 hown491 (ow hw 19 rfl) wS e494 hS491 (Nat.le_trans hk491 (Keep.of_wr W494).1) hEL (by decide) (CHv.wr W494 (CHr.safe A491 E.lt hEx) (And.left A491)) (vs := []) (z := (0 : Int32)) ⟨by decide, rfl⟩ (by decide) rfl (g := (mkF m 18 #[.val (.ref a), .val (.ref b), .val (.int (0 : Int32)), .val (.int (0 : Int32)), .val .null, .unset] [(.ref a)])) rfl (hb hby (od dB3 9 rfl)) (n := 0) (by decide) (by decide) (by decide) (by decide)
  have y497 := (CHr.safe A496 ((E.ext E491).wr W494).lt (Safe.wr W494 (CHr.safe A491 E.lt hEx) (And.left A491) (CHr.safe A491 E.lt hEx)))
  have y498 := (CHr.trans (CHr.trans (CHr.trans (CHr.refl CH0) A491) (CHr.wr W494 (CHr.safe A491 E.lt hEx) (And.left A491))) A496)
  have ns499 := sf496 _ y497
  refine own_on st496 ?_
  show own_Fin p e below _ (T496.setTop (mkF m 20 #[.val (.ref a), .val (.ref b), .val (.int (0 : Int32)), .val (.int (0 : Int32)), .val .null, .unset] [(.ref a496), (.ref a)]))
  refine o_gf X496 H hZ496 hown496 (ow hw 26 rfl) Via.refl e496 Ca496 (od dB3 10 rfl) fun T500 X500 e500 => ?_
  obtain ⟨T501, h501, X501, e501, W501, st501⟩ := putFN X500 hx hZ496 hown496 (ow hw 26 rfl) Via.refl e500 (y495.ext E496) (((E.ext E491).wr W494).ext E496) (Or.inr ⟨(ow hw 22 rfl), rfl, hnm⟩) (ow hw 6 rfl) (ty := .byte) (v' := (.int (0 : Int32))) (by decide) rfl (by decide) (g := (mkF m 23 #[.val (.ref a), .val (.ref b), .val (.int (0 : Int32)), .val (.int (0 : Int32)), .val .null, .unset] [(.int (0 : Int32)), (.ref a)])) rfl rfl (hb hby (od dB3 11 rfl))
  have N501 := Fr.snoc X501 N494 ga
  have y502 := ((((V0.ext E491).same W494).ext E496).other W501 (Or.inr (slot_ne (Or.inr (ow hw 21 rfl)) (Or.inr (ow hw 22 rfl)) (by decide) (t := (.array .byte)) (t' := .byte) (by decide) (by decide))))
  have y503 := (((((Keep.refl h0 [a]).ext E491).wr W494 (Or.inl (List.mem_of_getElem? (i := 0) rfl))).ext E496).wr W501 (Or.inl (List.mem_of_getElem? (i := 0) rfl)))
  have y504 := (Nat.le_trans (Nat.le_trans (Nat.le_trans (Nat.le_trans Z0 E491.1) (Keep.of_wr W494).1) E496.1) (Keep.of_wr W501).1)
  refine own_on st501 ?_
  show own_Fin p e below _ (T501.setTop (mkF m 26 #[.val (.ref a), .val (.ref b), .val (.int (0 : Int32)), .val (.int (0 : Int32)), .val .null, .unset] []))
  exact own_retVW X501 (Z := Z) (EL := own_EL) (a0 := a0) hx hlk hret (hb hby (od dB3 12 rfl)) hS496 (by rw [e501]; exact (Nat.le_trans hk496 (Keep.of_wr W501).1)) hZ496 hEL (by rw [hh, e501]; exact (CHr.trans y498 (CHr.wr W501 y497 (And.left A496)))) (by show QE4 Z a b h0 n0 _ T501.heap _; rw [e501]; exact ⟨rfl, N501, y503, c491, kc491, ((((E.ext E491).wr W494).ext E496).wr W501), ((y495.ext E496).same W501), y502, (((Aa491.other W494 (Ne.symm ns492.2)).ext E496).other W501 (Ne.symm ns492.2))⟩) (by decide) (by decide)
theorem ef_rmE1 (m : MethodId) (x0 : Addr) (x1 : Addr) : entryFrame m #[(.ref x0), (.ref x1)] 2 = mkF m 0 #[.val (.ref x0), .val (.ref x1)] [] := by first | (simp [entryFrame, mkF, argsToLocals, Value.category]; done) | rfl
def QE1 (Z : State) (a : Addr) (b : Addr) (kc : ClassId) (h0 : Heap) (n0 : Nat) (v : Option Value) (h : Heap) (L : List Loc) : Prop := v = none ∧ Fr n0 L ∧ Keep h0 h [a] ∧ ∃ (t : Addr) (kb : ClassId), Exa Z h a "java/lang/String" ∧ Fld Z h a "java/lang/String" "coder" "B" (.int 0) ∧ Fld Z h a "java/lang/String" "value" "[B" (.ref t) ∧ Arv Z h t kb .byte (0 : Int32) [] (.int 0)
set_option maxRecDepth 65536 in
set_option maxHeartbeats 40000000 in
theorem rmE1 (l : Launch) (Z : State) (a0 : Array Value) (hw : ∀ d ∈ tables_1, d.before a0 Z = true) (ws : List Jvm.Cond) (a : Addr) (b : Addr) (kc : ClassId) (h0 : Heap) (n0 : Nat) (Z0 : n0 ≤ h0.size) (hEL : EW Z a0 own_EL) (E : Exa Z h0 a "java/lang/String") (V0 : Fld Z h0 a "java/lang/String" "value" "[B" .null) (C0 : Fld Z h0 a "java/lang/String" "coder" "B" (.int (0 : Int32))) (ga : n0 ≤ a) (Ab : Arv Z h0 b kc .char (0 : Int32) [] (.int (0 : Int32))) :
    MetFree l (⟨"java/lang/String", "<init>", "([C)V"⟩ : MethodName) (head1 (Jvm.Cond.code (⟨"java/lang/String", "<init>", "([C)V"⟩ : MethodName) jdk_42_method_3_code 2 none :: ws) ({ frames := 2, cells := 4, slots := 8, locals := 30 } : Room)) (fun as_ U => as_ = #[(.ref a), (.ref b)] ∧ Z.Warmed39 U.vm ∧ U.heap = h0 ∧ CHv Z own_EL U.vm h0 ∧ Safe Z own_EL U.vm h0 a) (fun _ _ _ _ _ => True) (fun _ U out_ U' => ∃ v L, out_ = .returned v ∧ QE1 Z a b kc h0 n0 v U'.heap L ∧ CHr Z own_EL U.vm U.heap U'.vm U'.heap ∧ ReturnedEndW U out_ U' L ({ frames := 2, cells := 4, slots := 8, locals := 30 } : Room).cells ({ frames := 2, cells := 4, slots := 8, locals := 30 } : Room).slots) := by
  refine MetFree.of_bodySF (plainFor_of_name pn_1) hisR ?_
  intro p e s m args below meth cd s₁ Bd hml0 hP hK
  obtain ⟨rfl, hZ, hh, CH0, hEx⟩ := hP
  have hx := Bd.exec
  have hby := Bd.bytes
  have hml : cd.maxLocals = 2 := hml0
  have hlk : meth.locks = false := BodyLoose.notSynchronized Bd
  have hown : s.vm.findClass "java/lang/String" = some m.cls := findClass_of_methodNamed Bd.named
  have hnm := (name_of_methodNamed Bd.named Bd.method).1
  have hret := Bd.returns
  have H := And.intro hx hby
  have X0 : Stand p l e ({ frames := 2, cells := 4, slots := 8, locals := 30 } : Room) (s.setVm s.vm) m #[(.ref a), (.ref b)] below meth cd s₁ [] 0 0 := Stand.of_body Bd
  have e0 : s₁.heap = h0 := by rw [← hh, Bd.state]; rfl
  have N0 := Fr.nil n0
  have hS0 : s.Since s.vm 0 := (State.WarmedH.refl s).since 0
  have nba : b ≠ a := Ne.symm (Exa.neArv E Ab (ow hw 6 rfl))
  show own_Fin p e below (own_AnsW s Z own_EL (QE1 Z a b kc h0 n0) ({ frames := 2, cells := 4, slots := 8, locals := 30 } : Room).cells ({ frames := 2, cells := 4, slots := 8, locals := 30 } : Room).slots) (s₁.setTop (entryFrame m #[(.ref a), (.ref b)] 2))
  refine own_cast (ef_rmE1 m a b) ?_
  show own_Fin p e below _ (s₁.setTop (mkF m 0 #[.val (.ref a), .val (.ref b)] []))
  refine o_aldN X0 H (od dB2 0 rfl) rfl rfl ?_
  refine o_aldN X0 H (od dB2 1 rfl) rfl rfl ?_
  refine o_ic X0 H (od dB2 2 rfl) (v := 0) rfl ?_
  refine o_aldN X0 H (od dB2 3 rfl) rfl rfl ?_
  have cp505 := Ab
  obtain ⟨cl505, Ar505, q505, S505, G505, H505, F505⟩ := cp505
  refine own_on (fun tq => X0.arraylength hx (by rw [e0]; exact Ar505.1) (State.isArrayOf_alike hZ.alike Ar505.2.1) (g := (mkF m 4 #[.val (.ref a), .val (.ref b)] [(.ref b), (.int (0 : Int32)), (.ref b), (.ref a)])) rfl rfl (hb hby (od dB2 4 rfl)) tq) ?_
  rw [len_of S505 G505]
  show own_Fin p e below _ (s₁.setTop (mkF m 5 #[.val (.ref a), .val (.ref b)] [(.int (0 : Int32)), (.int (0 : Int32)), (.ref b), (.ref a)]))
  refine o_nul X0 H (od dB2 5 rfl) ?_
  obtain ⟨_, _, ⟨T506, L506, k506, n506⟩, -, X506', S506', gr506, ⟨Lc506, hQ506, l506, y506, z506, A506⟩, st506⟩ := X0.specialBackS hx (y := (⟨"java/lang/String", "<init>", "([CIILjava/lang/Void;)V"⟩ : MethodName)) rfl hown (mvT hZ (ow hw 12 rfl)) (mvT hZ (ow hw 13 rfl)) (mvT hZ (ow hw 15 rfl)) (by decide) (own_backX (Ex := fun vm => Safe Z own_EL vm h0 a) (s := s) (W := 0) (rmE4 l Z a0 hw [] a b h0 n0 (by exact Z0) hEL E V0 C0 ga) hZ (ow hw 15 rfl) (ow hw 7 rfl) (by decide) (by decide) hEL CH0 (fun _ A => CHr.safe A E.lt hEx)) (g := (mkF m 6 #[.val (.ref a), .val (.ref b)] [.null, (.int (0 : Int32)), (.int (0 : Int32)), (.ref b), (.ref a)])) rfl hml.symm (Steps.refl _) (a := a) (argsL := [(.ref b), (.int (0 : Int32)), (.int (0 : Int32)), .null]) (rest := []) (lenOf pd_32 rfl) rfl (o_mr rfl) (hb hby (od dB2 6 rfl)) (fun _ _ => ⟨rfl, e0, (by decide : 0 + 4 ≤ _), (by decide : 0 + 8 ≤ _)⟩)
  dsimp only [Pt.U, Pt.locs, Pt.cells, Pt.slots] at X506' S506' gr506 l506 y506 z506 st506 hQ506 A506
  replace l506 := l506.symm; replace y506 := y506.symm; replace z506 := z506.symm; subst l506 y506 z506
  obtain ⟨X506, hS506, hZ506, hown506⟩ := rebS hS0 (by first | exact (Nat.zero_le _) | (rw [e0]; exact (Nat.zero_le _))) X506' S506' gr506 hZ hown
  obtain ⟨rfl, N506q, K506, t506, kt506, Eq506, Cq506, Vq506, Aq506⟩ := hQ506
  have N506 := Fr.app N0 N506q
  refine own_via st506 ?_
  show own_Fin p e below _ (T506.setTop (mkF m 9 #[.val (.ref a), .val (.ref b)] []))
  exact own_retVW X506 (Z := Z) (EL := own_EL) (a0 := a0) hx hlk hret (hb hby (od dB2 7 rfl)) hS506 (Nat.le_refl (Array.size T506.heap)) hZ506 hEL (by rw [hh]; exact (CHr.trans (CHr.refl CH0) A506)) (by show QE1 Z a b kc h0 n0 _ T506.heap _; exact ⟨rfl, N506, ((Keep.refl h0 [a]).trans K506 (allS (Or.inl (List.mem_of_getElem? (i := 0) rfl)) all0)), t506, kt506, Eq506, Cq506, Vq506, Aq506⟩) (by decide) (by decide)
theorem pd_37 : parseMethodDescriptor "(Ljava/lang/String;)Ljava/lang/String;" = some ⟨[(.object "java/lang/String")], some (.object "java/lang/String")⟩ := by decide +kernel
theorem pd_38 : parseMethodDescriptor "(Ljava/lang/String;[CII)Z" = some ⟨[(.object "java/lang/String"), (.array .char), .int, .int], some .boolean⟩ := by decide +kernel
theorem pd_39 : parseMethodDescriptor "([C)V" = some ⟨[(.array .char)], none⟩ := by decide +kernel
theorem pd_40 : parseMethodDescriptor "([CIC)I" = some ⟨[(.array .char), .int, .char], some .int⟩ := by decide +kernel
theorem ef_rm0 (m : MethodId) (x0 : Int32) (x1 : Int32) (x2 : Int32) (x3 : Int32) : entryFrame m #[(.int x0), (.int x1), (.int x2), (.int x3)] maxLocals = mkF m 0 #[.val (.int x0), .val (.int x1), .val (.int x2), .val (.int x3), .unset, .unset, .unset, .unset, .unset, .unset, .unset, .unset] [] := by first | (simp [entryFrame, mkF, argsToLocals, Value.category, maxLocals]; done) | rfl
def Q0 (Z : State) (p0 : Int32) (p1 : Int32) (p2 : Int32) (p3 : Int32) (z : Int32) (fm : Value) (h0 : Heap) (n0 : Nat) (v : Option Value) (h : Heap) (L : List Loc) : Prop := v = some (.int 1) ∧ Fr n0 L
set_option maxRecDepth 65536 in
set_option maxHeartbeats 40000000 in
theorem rm0 (l : Launch) (Z : State) (a0 : Array Value) (hw : ∀ d ∈ tables_1, d.before a0 Z = true) (ws : List Jvm.Cond) (p0 : Int32) (p1 : Int32) (p2 : Int32) (p3 : Int32) (z : Int32) (fm : Value) (h0 : Heap) (n0 : Nat) (Z0 : n0 ≤ h0.size) (hEL : EW Z a0 own_EL) (PU : own_PU Z n0 h0 z fm) :
    MetFree l Jvm.Pilot.@@N@@.x (head1 (Jvm.Cond.code Jvm.Pilot.@@N@@.x code maxLocals ret :: ws) room_1) (fun as_ U => as_ = #[(.int p0), (.int p1), (.int p2), (.int p3)] ∧ Z.Warmed39 U.vm ∧ U.heap = h0 ∧ CHv Z own_EL U.vm h0) (fun _ _ _ _ _ => True) (fun _ U out_ U' => ∃ v L, out_ = .returned v ∧ Q0 Z p0 p1 p2 p3 z fm h0 n0 v U'.heap L ∧ CHr Z own_EL U.vm U.heap U'.vm U'.heap ∧ ReturnedEndW U out_ U' L room_1.cells room_1.slots) := by
  refine MetFree.of_bodySF (plainFor_of_name pn_8) hisR ?_
  intro p e s m args below meth cd s₁ Bd hml0 hP hK
  obtain ⟨rfl, hZ, hh, CH0⟩ := hP
  have hx := Bd.exec
  have hby := Bd.bytes
  have hml : cd.maxLocals = 12 := hml0
  have hlk : meth.locks = false := BodyLoose.notSynchronized Bd
  have hown : s.vm.findClass "com/example/brasswire/brasswire/page/HtmlEscapePinLaw" = some m.cls := findClass_of_methodNamed Bd.named
  have hnm := (name_of_methodNamed Bd.named Bd.method).1
  have hret := Bd.returns
  have H := And.intro hx hby
  have X0 : Stand p l e room_1 (s.setVm s.vm) m #[(.int p0), (.int p1), (.int p2), (.int p3)] below meth cd s₁ [] 0 0 := Stand.of_body Bd
  have e0 : s₁.heap = h0 := by rw [← hh, Bd.state]; rfl
  have N0 := Fr.nil n0
  obtain ⟨hz, O, SC, SA, SH, SL, SF, hfm⟩ := PU
  have hS0 : s.Since s.vm 0 := (State.WarmedH.refl s).since 0
  have wS := own_wS hw
  show own_Fin p e below (own_AnsW s Z own_EL (Q0 Z p0 p1 p2 p3 z fm h0 n0) room_1.cells room_1.slots) (s₁.setTop (entryFrame m #[(.int p0), (.int p1), (.int p2), (.int p3)] maxLocals))
  refine own_cast (ef_rm0 m p0 p1 p2 p3) ?_
  show own_Fin p e below _ (s₁.setTop (mkF m 0 #[.val (.int p0), .val (.int p1), .val (.int p2), .val (.int p3), .unset, .unset, .unset, .unset, .unset, .unset, .unset, .unset] []))
  refine o_ildN X0 H at_0 rfl ?_
  refine o_ic X0 H at_1 (v := 3) rfl ?_
  refine o_iand X0 H at_2 ?_
  obtain ⟨nn, hnn⟩ : ∃ q : Int32, q = (p0 &&& (3 : Int32)) := ⟨_, rfl⟩
  rw [← hnn]
  show own_Fin p e below _ (s₁.setTop (mkF m 3 #[.val (.int p0), .val (.int p1), .val (.int p2), .val (.int p3), .unset, .unset, .unset, .unset, .unset, .unset, .unset, .unset] [(.int nn)]))
  refine o_ist X0 H at_3 (L' := #[.val (.int p0), .val (.int p1), .val (.int p2), .val (.int p3), .val (.int nn), .unset, .unset, .unset, .unset, .unset, .unset, .unset]) rfl ?_
  refine o_ildN X0 H at_5 rfl ?_
  refine o_tc (argsL := [(.int p1)]) (rest := []) X0 H hml hZ hown (ow hw 0 rfl) (ow hw 1 rfl) (ow hw 2 rfl) (ow hw 3 rfl) (backOf (W := 0) (rm1 l Z a0 hw [] p1 h0 n0 (by exact Z0)) hZ (ow hw 3 rfl) (ow hw 2 rfl) (by decide) (by decide)) (by decide) e0 pd_33 at_6 rfl rfl rfl rfl rfl (by decide) (by decide) fun _ T507 Lc507 X507 hQ507 => ?_
  obtain ⟨c0, rfl, N507q, e507, oc0⟩ := hQ507
  have N507 := Fr.app N0 N507q
  show own_Fin p e below _ (T507.setTop (mkF m 9 #[.val (.int p0), .val (.int p1), .val (.int p2), .val (.int p3), .val (.int nn), .unset, .unset, .unset, .unset, .unset, .unset, .unset] [(.int c0)]))
  refine o_ist X507 H at_9 (L' := #[.val (.int p0), .val (.int p1), .val (.int p2), .val (.int p3), .val (.int nn), .val (.int c0), .unset, .unset, .unset, .unset, .unset, .unset]) rfl ?_
  refine o_ildN X507 H at_11 rfl ?_
  refine o_tc (argsL := [(.int p2)]) (rest := []) X507 H hml hZ hown (ow hw 0 rfl) (ow hw 1 rfl) (ow hw 2 rfl) (ow hw 3 rfl) (backOf (W := 0) (rm1 l Z a0 hw [] p2 h0 n0 (by exact Z0)) hZ (ow hw 3 rfl) (ow hw 2 rfl) (by decide) (by decide)) (by decide) e507 pd_33 at_12 rfl rfl rfl rfl rfl (by decide) (by decide) fun _ T508 Lc508 X508 hQ508 => ?_
  obtain ⟨c1, rfl, N508q, e508, oc1⟩ := hQ508
  have N508 := Fr.app N507 N508q
  show own_Fin p e below _ (T508.setTop (mkF m 15 #[.val (.int p0), .val (.int p1), .val (.int p2), .val (.int p3), .val (.int nn), .val (.int c0), .unset, .unset, .unset, .unset, .unset, .unset] [(.int c1)]))
  refine o_ist X508 H at_15 (L' := #[.val (.int p0), .val (.int p1), .val (.int p2), .val (.int p3), .val (.int nn), .val (.int c0), .val (.int c1), .unset, .unset, .unset, .unset, .unset]) rfl ?_
  refine o_ildN X508 H at_17 rfl ?_
  refine o_tc (argsL := [(.int p3)]) (rest := []) X508 H hml hZ hown (ow hw 0 rfl) (ow hw 1 rfl) (ow hw 2 rfl) (ow hw 3 rfl) (backOf (W := 0) (rm1 l Z a0 hw [] p3 h0 n0 (by exact Z0)) hZ (ow hw 3 rfl) (ow hw 2 rfl) (by decide) (by decide)) (by decide) e508 pd_33 at_18 rfl rfl rfl rfl rfl (by decide) (by decide) fun _ T509 Lc509 X509 hQ509 => ?_
  obtain ⟨c2, rfl, N509q, e509, oc2⟩ := hQ509
  have N509 := Fr.app N508 N509q
  show own_Fin p e below _ (T509.setTop (mkF m 21 #[.val (.int p0), .val (.int p1), .val (.int p2), .val (.int p3), .val (.int nn), .val (.int c0), .val (.int c1), .unset, .unset, .unset, .unset, .unset] [(.int c2)]))
  refine o_ist X509 H at_21 (L' := #[.val (.int p0), .val (.int p1), .val (.int p2), .val (.int p3), .val (.int nn), .val (.int c0), .val (.int c1), .val (.int c2), .unset, .unset, .unset, .unset]) rfl ?_
  have PT : ∀ (lq4 : Int32) (xq tq wq : Addr) (kq kwq : ClassId) (csq : List Int32) (coq nq : Int32) (vsq : List Value) (lnq ek : Nat) (codq : StrChars.Road.CodA csq coq nq vsq) (r16q : ∀ c ∈ csq, ¬ c < 0 ∧ ¬ (65535 : Int32) < c) (hlnq : csq.length = lnq) (h3q : lnq ≤ 3) (hlq : (own_escs csq).length = ek) (hek : ek ≤ 18) (gwq : n0 ≤ wq), ∀ (Tt : State) (Ht : Heap) (Lot : List Loc) (vmt : Vm) (kkt : Nat) (Xt : Stand p l e room_1 (s.setVm vmt) m #[(.int p0), (.int p1), (.int p2), (.int p3)] below meth cd Tt Lot 9 150) (et : Tt.heap = Ht) (Nt : Fr n0 Lot) (hSt : s.Since vmt kkt) (hZt : Z.Warmed39 (s.setVm vmt).vm) (hownt : (s.setVm vmt).vm.findClass "com/example/brasswire/brasswire/page/HtmlEscapePinLaw" = some m.cls) (gt_0 : CHv Z own_EL vmt Ht) (gt_1 : CHr Z own_EL s.vm h0 vmt Ht) (gt_2 : kkt ≤ Ht.size) (gt_3 : n0 ≤ Ht.size) (gt_4 : Old Z n0 Ht) (gt_5 : Exa Z Ht xq "java/lang/String") (gt_6 : Fld Z Ht xq "java/lang/String" "coder" "B" (.int coq)) (gt_7 : Fld Z Ht xq "java/lang/String" "value" "[B" (.ref tq)) (gt_8 : Arv Z Ht tq kq .byte nq vsq (.int 0)) (gt_9 : Arv Z Ht wq kwq .char (18 : Int32) ((own_escs csq).map Value.int) (.int 0)), own_Fin p e below (own_AnsW s Z own_EL (Q0 Z p0 p1 p2 p3 z fm h0 n0) room_1.cells room_1.slots) (Tt.setTop (mkF m 187 #[.val (.int p0), .val (.int p1), .val (.int p2), .val (.int p3), .val (.int lq4), .val (.int c0), .val (.int c1), .val (.int c2), .val (.ref xq), .val (.ref wq), .val (.int (Int32.ofNat ek)), .unset] [])) := by
    intro lq4 xq tq wq kq kwq csq coq nq vsq lnq ek codq r16q hlnq h3q hlq hek gwq Tt Ht Lot vmt kkt Xt et Nt hSt hZt hownt gt_0 gt_1 gt_2 gt_3 gt_4 gt_5 gt_6 gt_7 gt_8 gt_9
    show own_Fin p e below _ (Tt.setTop (mkF m 187 #[.val (.int p0), .val (.int p1), .val (.int p2), .val (.int p3), .val (.int lq4), .val (.int c0), .val (.int c1), .val (.int c2), .val (.ref xq), .val (.ref wq), .val (.int (Int32.ofNat ek)), .unset] []))
    refine o_ald Xt H at_187 rfl rfl ?_
    obtain ⟨_, _, ⟨T510, L510, k510, n510⟩, -, X510', S510', gr510, ⟨Lc510, hQ510, l510, y510, z510, A510⟩, st510⟩ := callSS Xt hx (y := (⟨"com/example/brasswire/brasswire/page/Html", "escape", "(Ljava/lang/String;)Ljava/lang/String;"⟩ : MethodName)) hownt (mvT hZt (ow hw 27 rfl)) (mvT hZt (ow hw 28 rfl)) (mvT hZt (ow hw 29 rfl)) (mvT hZt (ow hw 30 rfl)) (by decide) (backOfSH (s := s) (W := 0) (rm5 l Z a0 hw [] xq tq kq csq coq nq vsq lnq z fm Ht n0 (by exact gt_3) hEL ⟨hz, gt_4, SC, SA, SH, SL, SF, hfm⟩ gt_5 gt_6 gt_7 gt_8 codq hlnq h3q r16q) hZt (ow hw 30 rfl) (ow hw 29 rfl) (by decide) (by decide) hEL gt_0) (g := (mkF m 189 #[.val (.int p0), .val (.int p1), .val (.int p2), .val (.int p3), .val (.int lq4), .val (.int c0), .val (.int c1), .val (.int c2), .val (.ref xq), .val (.ref wq), .val (.int (Int32.ofNat ek)), .unset] [(.ref xq)])) rfl hml.symm (argsL := [(.ref xq)]) (rest := []) (lenOf pd_37 rfl) rfl (o_mr rfl) (hb hby at_189) (fun _ _ => ⟨rfl, et, (by decide : 9 + 28 ≤ _), (by decide : 150 + 1360 ≤ _)⟩)
    dsimp only [Pt.U, Pt.locs, Pt.cells, Pt.slots] at X510' S510' gr510 l510 y510 z510 st510 hQ510 A510
    replace l510 := l510.symm; replace y510 := y510.symm; replace z510 := z510.symm; subst l510 y510 z510
    obtain ⟨X510, hS510, hZ510, hown510⟩ := rebS hSt (by first | exact gt_2 | (rw [et]; exact gt_2)) X510' S510' gr510 hZt hownt
    obtain ⟨y510s, t510, kt510, co510, nx510, vs510, rfl, N510q, K510, cod510, Eq510, Cq510, Vq510, Aq510⟩ := hQ510
    have N510 := Fr.app Nt N510q
    refine own_via st510 ?_
    show own_Fin p e below _ (T510.setTop (mkF m 192 #[.val (.int p0), .val (.int p1), .val (.int p2), .val (.int p3), .val (.int lq4), .val (.int c0), .val (.int c1), .val (.int c2), .val (.ref xq), .val (.ref wq), .val (.int (Int32.ofNat ek)), .unset] [(.ref y510s)]))
    refine o_ast X510 H at_192 (L' := #[.val (.int p0), .val (.int p1), .val (.int p2), .val (.int p3), .val (.int lq4), .val (.int c0), .val (.int c1), .val (.int c2), .val (.ref xq), .val (.ref wq), .val (.int (Int32.ofNat ek)), .val (.ref y510s)]) rfl rfl ?_
    refine o_ald X510 H at_194 rfl rfl ?_
    refine own_on (fun tq => XS.ifnullNo X510.here hx rfl (hb hby at_196) rfl) ?_
    show own_Fin p e below _ (T510.setTop (mkF m 199 #[.val (.int p0), .val (.int p1), .val (.int p2), .val (.int p3), .val (.int lq4), .val (.int c0), .val (.int c1), .val (.int c2), .val (.ref xq), .val (.ref wq), .val (.int (Int32.ofNat ek)), .val (.ref y510s)] []))
    refine o_ald X510 H at_199 rfl rfl ?_
    obtain ⟨cq511, kq511, q511a, q511b, q511c⟩ := isOf hZ510 rfl Eq510
    obtain ⟨_, _, ⟨T511, L511, k511, n511⟩, -, X511, ⟨Lc511, hQ511, l511, y511, z511⟩, st511⟩ := X510.virtualBack hx (y := (⟨"java/lang/String", "length", "()I"⟩ : MethodName)) (z := (⟨"java/lang/String", "length", "()I"⟩ : MethodName)) hown510 (mvT hZ510 (ow hw 106 rfl)) (mvT hZ510 (ow hw 35 rfl)) (notFace_of_selects (args := #[]) (mvT hZ510 (ow hw 37 rfl))) (mvT hZ510 (ow hw 37 rfl)) (mvT hZ510 (ow hw 36 rfl)) (by decide) (StrChars.Road.lenW (W := 0) hZ510 (own_wL hw) (ow hw 6 rfl) Eq510 Vq510 Cq510 Aq510 cod510 (own_escsr r16q) (SC.ext (gt_4.keep K510 all0).2) hz (by rw [hlq]; omega) (by decide) (by decide)) q511a q511c (g := (mkF m 201 #[.val (.int p0), .val (.int p1), .val (.int p2), .val (.int p3), .val (.int lq4), .val (.int c0), .val (.int c1), .val (.int c2), .val (.ref xq), .val (.ref wq), .val (.int (Int32.ofNat ek)), .val (.ref y510s)] [(.ref y510s)])) rfl hml.symm (Steps.refl _) (argsL := []) (rest := []) (lenOf pd_10 rfl) rfl (o_mr rfl) (hb hby at_201) (fun _ _ => ⟨rfl, rfl, (by decide : 37 + 0 ≤ _), (by decide : 1510 + 0 ≤ _)⟩)
    dsimp only [Pt.U, Pt.locs, Pt.cells, Pt.slots] at X511 l511 y511 z511 st511 hQ511
    replace l511 := l511.symm; replace y511 := y511.symm; replace z511 := z511.symm; subst l511 y511 z511
    obtain ⟨rfl, rfl, e511⟩ := hQ511
    have N511 := Fr.app N510 (Fr.nil n0)
    rw [hlq] at st511
    refine own_via st511 ?_
    show own_Fin p e below _ (T511.setTop (mkF m 204 #[.val (.int p0), .val (.int p1), .val (.int p2), .val (.int p3), .val (.int lq4), .val (.int c0), .val (.int c1), .val (.int c2), .val (.ref xq), .val (.ref wq), .val (.int (Int32.ofNat ek)), .val (.ref y510s)] [(.int (Int32.ofNat ek))]))
    refine o_ild X511 H at_204 rfl ?_
    refine o_icY X511 H at_206 (teq rfl).1 (pc' := 211) (by decide) (by decide) ?_
    refine o_ald X511 H at_211 rfl rfl ?_
    refine o_ald X511 H at_213 rfl rfl ?_
    refine o_ild X511 H at_215 rfl ?_
    refine o_ic X511 H at_217 (v := 0) rfl ?_
    refine o_tc (argsL := [(.ref y510s), (.ref wq), (.int (Int32.ofNat ek)), (.int (0 : Int32))]) (rest := []) X511 H hml hZ510 hown510 (ow hw 107 rfl) (ow hw 108 rfl) (ow hw 2 rfl) (ow hw 109 rfl) (backOf (W := 0) (rm18 l Z a0 hw [] y510s wq t510 kt510 (own_escs csq) co510 nx510 vs510 kwq ek 0 z fm T510.heap n0 (by exact (Nat.le_trans gt_3 K510.1)) ⟨hz, (gt_4.keep K510 all0), SC, SA, SH, SL, SF, hfm⟩ Eq510 Cq510 Vq510 Aq510 cod510 hlq (by omega) (own_escsr r16q) (gt_9.keep K510 nin0) (by decide)) hZ510 (ow hw 109 rfl) (ow hw 2 rfl) (by decide) (by decide)) (by decide) e511 pd_38 at_218 rfl rfl rfl rfl rfl (by decide) (by decide) (o_pk (fun _ _ _ q => q) N511 fun T512 Lc512 X512 N512 e512 => ?_)
    refine o_ifN X512 H at_221 ((if0 _ _).trans (feq (by decide : ¬ ((1 : Int32) = (0 : Int32)))).1) ?_
    refine o_ald X512 H at_224 rfl rfl ?_
    refine o_ald X512 H at_226 rfl rfl ?_
    refine o_ild X512 H at_228 rfl ?_
    refine o_ic X512 H at_230 (v := 1) rfl ?_
    refine o_tc (argsL := [(.ref y510s), (.ref wq), (.int (Int32.ofNat ek)), (.int (1 : Int32))]) (rest := []) X512 H hml hZ510 hown510 (ow hw 107 rfl) (ow hw 108 rfl) (ow hw 2 rfl) (ow hw 109 rfl) (backOf (W := 0) (rm18 l Z a0 hw [] y510s wq t510 kt510 (own_escs csq) co510 nx510 vs510 kwq ek 1 z fm T510.heap n0 (by exact (Nat.le_trans gt_3 K510.1)) ⟨hz, (gt_4.keep K510 all0), SC, SA, SH, SL, SF, hfm⟩ Eq510 Cq510 Vq510 Aq510 cod510 hlq (by omega) (own_escsr r16q) (gt_9.keep K510 nin0) (by decide)) hZ510 (ow hw 109 rfl) (ow hw 2 rfl) (by decide) (by decide)) (by decide) e512 pd_38 at_231 rfl rfl rfl rfl rfl (by decide) (by decide) (o_pk (fun _ _ _ q => q) N512 fun T513 Lc513 X513 N513 e513 => ?_)
    refine o_ifN X513 H at_234 ((if0 _ _).trans (feq (by decide : ¬ ((1 : Int32) = (0 : Int32)))).1) ?_
    refine o_ald X513 H at_237 rfl rfl ?_
    refine o_ald X513 H at_239 rfl rfl ?_
    refine o_ild X513 H at_241 rfl ?_
    refine o_ic X513 H at_243 (v := 2) rfl ?_
    refine o_tc (argsL := [(.ref y510s), (.ref wq), (.int (Int32.ofNat ek)), (.int (2 : Int32))]) (rest := []) X513 H hml hZ510 hown510 (ow hw 107 rfl) (ow hw 108 rfl) (ow hw 2 rfl) (ow hw 109 rfl) (backOf (W := 0) (rm18 l Z a0 hw [] y510s wq t510 kt510 (own_escs csq) co510 nx510 vs510 kwq ek 2 z fm T510.heap n0 (by exact (Nat.le_trans gt_3 K510.1)) ⟨hz, (gt_4.keep K510 all0), SC, SA, SH, SL, SF, hfm⟩ Eq510 Cq510 Vq510 Aq510 cod510 hlq (by omega) (own_escsr r16q) (gt_9.keep K510 nin0) (by decide)) hZ510 (ow hw 109 rfl) (ow hw 2 rfl) (by decide) (by decide)) (by decide) e513 pd_38 at_244 rfl rfl rfl rfl rfl (by decide) (by decide) (o_pk (fun _ _ _ q => q) N513 fun T514 Lc514 X514 N514 e514 => ?_)
    refine o_ifN X514 H at_247 ((if0 _ _).trans (feq (by decide : ¬ ((1 : Int32) = (0 : Int32)))).1) ?_
    refine o_ald X514 H at_250 rfl rfl ?_
    refine o_ald X514 H at_252 rfl rfl ?_
    refine o_ild X514 H at_254 rfl ?_
    refine o_ic X514 H at_256 (v := 3) rfl ?_
    refine o_tc (argsL := [(.ref y510s), (.ref wq), (.int (Int32.ofNat ek)), (.int (3 : Int32))]) (rest := []) X514 H hml hZ510 hown510 (ow hw 107 rfl) (ow hw 108 rfl) (ow hw 2 rfl) (ow hw 109 rfl) (backOf (W := 0) (rm18 l Z a0 hw [] y510s wq t510 kt510 (own_escs csq) co510 nx510 vs510 kwq ek 3 z fm T510.heap n0 (by exact (Nat.le_trans gt_3 K510.1)) ⟨hz, (gt_4.keep K510 all0), SC, SA, SH, SL, SF, hfm⟩ Eq510 Cq510 Vq510 Aq510 cod510 hlq (by omega) (own_escsr r16q) (gt_9.keep K510 nin0) (by decide)) hZ510 (ow hw 109 rfl) (ow hw 2 rfl) (by decide) (by decide)) (by decide) e514 pd_38 at_257 rfl rfl rfl rfl rfl (by decide) (by decide) (o_pk (fun _ _ _ q => q) N514 fun T515 Lc515 X515 N515 e515 => ?_)
    refine o_ifN X515 H at_260 ((if0 _ _).trans (feq (by decide : ¬ ((1 : Int32) = (0 : Int32)))).1) ?_
    refine o_ald X515 H at_263 rfl rfl ?_
    refine o_ald X515 H at_265 rfl rfl ?_
    refine o_ild X515 H at_267 rfl ?_
    refine o_ic X515 H at_269 (v := 4) rfl ?_
    refine o_tc (argsL := [(.ref y510s), (.ref wq), (.int (Int32.ofNat ek)), (.int (4 : Int32))]) (rest := []) X515 H hml hZ510 hown510 (ow hw 107 rfl) (ow hw 108 rfl) (ow hw 2 rfl) (ow hw 109 rfl) (backOf (W := 0) (rm18 l Z a0 hw [] y510s wq t510 kt510 (own_escs csq) co510 nx510 vs510 kwq ek 4 z fm T510.heap n0 (by exact (Nat.le_trans gt_3 K510.1)) ⟨hz, (gt_4.keep K510 all0), SC, SA, SH, SL, SF, hfm⟩ Eq510 Cq510 Vq510 Aq510 cod510 hlq (by omega) (own_escsr r16q) (gt_9.keep K510 nin0) (by decide)) hZ510 (ow hw 109 rfl) (ow hw 2 rfl) (by decide) (by decide)) (by decide) e515 pd_38 at_270 rfl rfl rfl rfl rfl (by decide) (by decide) (o_pk (fun _ _ _ q => q) N515 fun T516 Lc516 X516 N516 e516 => ?_)
    refine o_ifN X516 H at_273 ((if0 _ _).trans (feq (by decide : ¬ ((1 : Int32) = (0 : Int32)))).1) ?_
    refine o_ald X516 H at_276 rfl rfl ?_
    refine o_ald X516 H at_278 rfl rfl ?_
    refine o_ild X516 H at_280 rfl ?_
    refine o_ic X516 H at_282 (v := 5) rfl ?_
    refine o_tc (argsL := [(.ref y510s), (.ref wq), (.int (Int32.ofNat ek)), (.int (5 : Int32))]) (rest := []) X516 H hml hZ510 hown510 (ow hw 107 rfl) (ow hw 108 rfl) (ow hw 2 rfl) (ow hw 109 rfl) (backOf (W := 0) (rm18 l Z a0 hw [] y510s wq t510 kt510 (own_escs csq) co510 nx510 vs510 kwq ek 5 z fm T510.heap n0 (by exact (Nat.le_trans gt_3 K510.1)) ⟨hz, (gt_4.keep K510 all0), SC, SA, SH, SL, SF, hfm⟩ Eq510 Cq510 Vq510 Aq510 cod510 hlq (by omega) (own_escsr r16q) (gt_9.keep K510 nin0) (by decide)) hZ510 (ow hw 109 rfl) (ow hw 2 rfl) (by decide) (by decide)) (by decide) e516 pd_38 at_283 rfl rfl rfl rfl rfl (by decide) (by decide) (o_pk (fun _ _ _ q => q) N516 fun T517 Lc517 X517 N517 e517 => ?_)
    refine o_ifN X517 H at_286 ((if0 _ _).trans (feq (by decide : ¬ ((1 : Int32) = (0 : Int32)))).1) ?_
    refine o_ald X517 H at_289 rfl rfl ?_
    refine o_ald X517 H at_291 rfl rfl ?_
    refine o_ild X517 H at_293 rfl ?_
    refine o_bi X517 H at_295 (v := 6) rfl ?_
    refine o_tc (argsL := [(.ref y510s), (.ref wq), (.int (Int32.ofNat ek)), (.int (6 : Int32))]) (rest := []) X517 H hml hZ510 hown510 (ow hw 107 rfl) (ow hw 108 rfl) (ow hw 2 rfl) (ow hw 109 rfl) (backOf (W := 0) (rm18 l Z a0 hw [] y510s wq t510 kt510 (own_escs csq) co510 nx510 vs510 kwq ek 6 z fm T510.heap n0 (by exact (Nat.le_trans gt_3 K510.1)) ⟨hz, (gt_4.keep K510 all0), SC, SA, SH, SL, SF, hfm⟩ Eq510 Cq510 Vq510 Aq510 cod510 hlq (by omega) (own_escsr r16q) (gt_9.keep K510 nin0) (by decide)) hZ510 (ow hw 109 rfl) (ow hw 2 rfl) (by decide) (by decide)) (by decide) e517 pd_38 at_297 rfl rfl rfl rfl rfl (by decide) (by decide) (o_pk (fun _ _ _ q => q) N517 fun T518 Lc518 X518 N518 e518 => ?_)
    refine o_ifN X518 H at_300 ((if0 _ _).trans (feq (by decide : ¬ ((1 : Int32) = (0 : Int32)))).1) ?_
    refine o_ald X518 H at_303 rfl rfl ?_
    refine o_ald X518 H at_305 rfl rfl ?_
    refine o_ild X518 H at_307 rfl ?_
    refine o_bi X518 H at_309 (v := 7) rfl ?_
    refine o_tc (argsL := [(.ref y510s), (.ref wq), (.int (Int32.ofNat ek)), (.int (7 : Int32))]) (rest := []) X518 H hml hZ510 hown510 (ow hw 107 rfl) (ow hw 108 rfl) (ow hw 2 rfl) (ow hw 109 rfl) (backOf (W := 0) (rm18 l Z a0 hw [] y510s wq t510 kt510 (own_escs csq) co510 nx510 vs510 kwq ek 7 z fm T510.heap n0 (by exact (Nat.le_trans gt_3 K510.1)) ⟨hz, (gt_4.keep K510 all0), SC, SA, SH, SL, SF, hfm⟩ Eq510 Cq510 Vq510 Aq510 cod510 hlq (by omega) (own_escsr r16q) (gt_9.keep K510 nin0) (by decide)) hZ510 (ow hw 109 rfl) (ow hw 2 rfl) (by decide) (by decide)) (by decide) e518 pd_38 at_311 rfl rfl rfl rfl rfl (by decide) (by decide) (o_pk (fun _ _ _ q => q) N518 fun T519 Lc519 X519 N519 e519 => ?_)
    refine o_ifN X519 H at_314 ((if0 _ _).trans (feq (by decide : ¬ ((1 : Int32) = (0 : Int32)))).1) ?_
    refine o_ald X519 H at_317 rfl rfl ?_
    refine o_ald X519 H at_319 rfl rfl ?_
    refine o_ild X519 H at_321 rfl ?_
    refine o_bi X519 H at_323 (v := 8) rfl ?_
    refine o_tc (argsL := [(.ref y510s), (.ref wq), (.int (Int32.ofNat ek)), (.int (8 : Int32))]) (rest := []) X519 H hml hZ510 hown510 (ow hw 107 rfl) (ow hw 108 rfl) (ow hw 2 rfl) (ow hw 109 rfl) (backOf (W := 0) (rm18 l Z a0 hw [] y510s wq t510 kt510 (own_escs csq) co510 nx510 vs510 kwq ek 8 z fm T510.heap n0 (by exact (Nat.le_trans gt_3 K510.1)) ⟨hz, (gt_4.keep K510 all0), SC, SA, SH, SL, SF, hfm⟩ Eq510 Cq510 Vq510 Aq510 cod510 hlq (by omega) (own_escsr r16q) (gt_9.keep K510 nin0) (by decide)) hZ510 (ow hw 109 rfl) (ow hw 2 rfl) (by decide) (by decide)) (by decide) e519 pd_38 at_325 rfl rfl rfl rfl rfl (by decide) (by decide) (o_pk (fun _ _ _ q => q) N519 fun T520 Lc520 X520 N520 e520 => ?_)
    refine o_ifN X520 H at_328 ((if0 _ _).trans (feq (by decide : ¬ ((1 : Int32) = (0 : Int32)))).1) ?_
    refine o_ald X520 H at_331 rfl rfl ?_
    refine o_ald X520 H at_333 rfl rfl ?_
    refine o_ild X520 H at_335 rfl ?_
    refine o_bi X520 H at_337 (v := 9) rfl ?_
    refine o_tc (argsL := [(.ref y510s), (.ref wq), (.int (Int32.ofNat ek)), (.int (9 : Int32))]) (rest := []) X520 H hml hZ510 hown510 (ow hw 107 rfl) (ow hw 108 rfl) (ow hw 2 rfl) (ow hw 109 rfl) (backOf (W := 0) (rm18 l Z a0 hw [] y510s wq t510 kt510 (own_escs csq) co510 nx510 vs510 kwq ek 9 z fm T510.heap n0 (by exact (Nat.le_trans gt_3 K510.1)) ⟨hz, (gt_4.keep K510 all0), SC, SA, SH, SL, SF, hfm⟩ Eq510 Cq510 Vq510 Aq510 cod510 hlq (by omega) (own_escsr r16q) (gt_9.keep K510 nin0) (by decide)) hZ510 (ow hw 109 rfl) (ow hw 2 rfl) (by decide) (by decide)) (by decide) e520 pd_38 at_339 rfl rfl rfl rfl rfl (by decide) (by decide) (o_pk (fun _ _ _ q => q) N520 fun T521 Lc521 X521 N521 e521 => ?_)
    refine o_ifN X521 H at_342 ((if0 _ _).trans (feq (by decide : ¬ ((1 : Int32) = (0 : Int32)))).1) ?_
    refine o_ald X521 H at_345 rfl rfl ?_
    refine o_ald X521 H at_347 rfl rfl ?_
    refine o_ild X521 H at_349 rfl ?_
    refine o_bi X521 H at_351 (v := 10) rfl ?_
    refine o_tc (argsL := [(.ref y510s), (.ref wq), (.int (Int32.ofNat ek)), (.int (10 : Int32))]) (rest := []) X521 H hml hZ510 hown510 (ow hw 107 rfl) (ow hw 108 rfl) (ow hw 2 rfl) (ow hw 109 rfl) (backOf (W := 0) (rm18 l Z a0 hw [] y510s wq t510 kt510 (own_escs csq) co510 nx510 vs510 kwq ek 10 z fm T510.heap n0 (by exact (Nat.le_trans gt_3 K510.1)) ⟨hz, (gt_4.keep K510 all0), SC, SA, SH, SL, SF, hfm⟩ Eq510 Cq510 Vq510 Aq510 cod510 hlq (by omega) (own_escsr r16q) (gt_9.keep K510 nin0) (by decide)) hZ510 (ow hw 109 rfl) (ow hw 2 rfl) (by decide) (by decide)) (by decide) e521 pd_38 at_353 rfl rfl rfl rfl rfl (by decide) (by decide) (o_pk (fun _ _ _ q => q) N521 fun T522 Lc522 X522 N522 e522 => ?_)
    refine o_ifN X522 H at_356 ((if0 _ _).trans (feq (by decide : ¬ ((1 : Int32) = (0 : Int32)))).1) ?_
    refine o_ald X522 H at_359 rfl rfl ?_
    refine o_ald X522 H at_361 rfl rfl ?_
    refine o_ild X522 H at_363 rfl ?_
    refine o_bi X522 H at_365 (v := 11) rfl ?_
    refine o_tc (argsL := [(.ref y510s), (.ref wq), (.int (Int32.ofNat ek)), (.int (11 : Int32))]) (rest := []) X522 H hml hZ510 hown510 (ow hw 107 rfl) (ow hw 108 rfl) (ow hw 2 rfl) (ow hw 109 rfl) (backOf (W := 0) (rm18 l Z a0 hw [] y510s wq t510 kt510 (own_escs csq) co510 nx510 vs510 kwq ek 11 z fm T510.heap n0 (by exact (Nat.le_trans gt_3 K510.1)) ⟨hz, (gt_4.keep K510 all0), SC, SA, SH, SL, SF, hfm⟩ Eq510 Cq510 Vq510 Aq510 cod510 hlq (by omega) (own_escsr r16q) (gt_9.keep K510 nin0) (by decide)) hZ510 (ow hw 109 rfl) (ow hw 2 rfl) (by decide) (by decide)) (by decide) e522 pd_38 at_367 rfl rfl rfl rfl rfl (by decide) (by decide) (o_pk (fun _ _ _ q => q) N522 fun T523 Lc523 X523 N523 e523 => ?_)
    refine o_ifN X523 H at_370 ((if0 _ _).trans (feq (by decide : ¬ ((1 : Int32) = (0 : Int32)))).1) ?_
    refine o_ald X523 H at_373 rfl rfl ?_
    refine o_ald X523 H at_375 rfl rfl ?_
    refine o_ild X523 H at_377 rfl ?_
    refine o_bi X523 H at_379 (v := 12) rfl ?_
    refine o_tc (argsL := [(.ref y510s), (.ref wq), (.int (Int32.ofNat ek)), (.int (12 : Int32))]) (rest := []) X523 H hml hZ510 hown510 (ow hw 107 rfl) (ow hw 108 rfl) (ow hw 2 rfl) (ow hw 109 rfl) (backOf (W := 0) (rm18 l Z a0 hw [] y510s wq t510 kt510 (own_escs csq) co510 nx510 vs510 kwq ek 12 z fm T510.heap n0 (by exact (Nat.le_trans gt_3 K510.1)) ⟨hz, (gt_4.keep K510 all0), SC, SA, SH, SL, SF, hfm⟩ Eq510 Cq510 Vq510 Aq510 cod510 hlq (by omega) (own_escsr r16q) (gt_9.keep K510 nin0) (by decide)) hZ510 (ow hw 109 rfl) (ow hw 2 rfl) (by decide) (by decide)) (by decide) e523 pd_38 at_381 rfl rfl rfl rfl rfl (by decide) (by decide) (o_pk (fun _ _ _ q => q) N523 fun T524 Lc524 X524 N524 e524 => ?_)
    refine o_ifN X524 H at_384 ((if0 _ _).trans (feq (by decide : ¬ ((1 : Int32) = (0 : Int32)))).1) ?_
    refine o_ald X524 H at_387 rfl rfl ?_
    refine o_ald X524 H at_389 rfl rfl ?_
    refine o_ild X524 H at_391 rfl ?_
    refine o_bi X524 H at_393 (v := 13) rfl ?_
    refine o_tc (argsL := [(.ref y510s), (.ref wq), (.int (Int32.ofNat ek)), (.int (13 : Int32))]) (rest := []) X524 H hml hZ510 hown510 (ow hw 107 rfl) (ow hw 108 rfl) (ow hw 2 rfl) (ow hw 109 rfl) (backOf (W := 0) (rm18 l Z a0 hw [] y510s wq t510 kt510 (own_escs csq) co510 nx510 vs510 kwq ek 13 z fm T510.heap n0 (by exact (Nat.le_trans gt_3 K510.1)) ⟨hz, (gt_4.keep K510 all0), SC, SA, SH, SL, SF, hfm⟩ Eq510 Cq510 Vq510 Aq510 cod510 hlq (by omega) (own_escsr r16q) (gt_9.keep K510 nin0) (by decide)) hZ510 (ow hw 109 rfl) (ow hw 2 rfl) (by decide) (by decide)) (by decide) e524 pd_38 at_395 rfl rfl rfl rfl rfl (by decide) (by decide) (o_pk (fun _ _ _ q => q) N524 fun T525 Lc525 X525 N525 e525 => ?_)
    refine o_ifN X525 H at_398 ((if0 _ _).trans (feq (by decide : ¬ ((1 : Int32) = (0 : Int32)))).1) ?_
    refine o_ald X525 H at_401 rfl rfl ?_
    refine o_ald X525 H at_403 rfl rfl ?_
    refine o_ild X525 H at_405 rfl ?_
    refine o_bi X525 H at_407 (v := 14) rfl ?_
    refine o_tc (argsL := [(.ref y510s), (.ref wq), (.int (Int32.ofNat ek)), (.int (14 : Int32))]) (rest := []) X525 H hml hZ510 hown510 (ow hw 107 rfl) (ow hw 108 rfl) (ow hw 2 rfl) (ow hw 109 rfl) (backOf (W := 0) (rm18 l Z a0 hw [] y510s wq t510 kt510 (own_escs csq) co510 nx510 vs510 kwq ek 14 z fm T510.heap n0 (by exact (Nat.le_trans gt_3 K510.1)) ⟨hz, (gt_4.keep K510 all0), SC, SA, SH, SL, SF, hfm⟩ Eq510 Cq510 Vq510 Aq510 cod510 hlq (by omega) (own_escsr r16q) (gt_9.keep K510 nin0) (by decide)) hZ510 (ow hw 109 rfl) (ow hw 2 rfl) (by decide) (by decide)) (by decide) e525 pd_38 at_409 rfl rfl rfl rfl rfl (by decide) (by decide) (o_pk (fun _ _ _ q => q) N525 fun T526 Lc526 X526 N526 e526 => ?_)
    refine o_ifN X526 H at_412 ((if0 _ _).trans (feq (by decide : ¬ ((1 : Int32) = (0 : Int32)))).1) ?_
    refine o_ald X526 H at_415 rfl rfl ?_
    refine o_ald X526 H at_417 rfl rfl ?_
    refine o_ild X526 H at_419 rfl ?_
    refine o_bi X526 H at_421 (v := 15) rfl ?_
    refine o_tc (argsL := [(.ref y510s), (.ref wq), (.int (Int32.ofNat ek)), (.int (15 : Int32))]) (rest := []) X526 H hml hZ510 hown510 (ow hw 107 rfl) (ow hw 108 rfl) (ow hw 2 rfl) (ow hw 109 rfl) (backOf (W := 0) (rm18 l Z a0 hw [] y510s wq t510 kt510 (own_escs csq) co510 nx510 vs510 kwq ek 15 z fm T510.heap n0 (by exact (Nat.le_trans gt_3 K510.1)) ⟨hz, (gt_4.keep K510 all0), SC, SA, SH, SL, SF, hfm⟩ Eq510 Cq510 Vq510 Aq510 cod510 hlq (by omega) (own_escsr r16q) (gt_9.keep K510 nin0) (by decide)) hZ510 (ow hw 109 rfl) (ow hw 2 rfl) (by decide) (by decide)) (by decide) e526 pd_38 at_423 rfl rfl rfl rfl rfl (by decide) (by decide) (o_pk (fun _ _ _ q => q) N526 fun T527 Lc527 X527 N527 e527 => ?_)
    refine o_ifN X527 H at_426 ((if0 _ _).trans (feq (by decide : ¬ ((1 : Int32) = (0 : Int32)))).1) ?_
    refine o_ald X527 H at_429 rfl rfl ?_
    refine o_ald X527 H at_431 rfl rfl ?_
    refine o_ild X527 H at_433 rfl ?_
    refine o_bi X527 H at_435 (v := 16) rfl ?_
    refine o_tc (argsL := [(.ref y510s), (.ref wq), (.int (Int32.ofNat ek)), (.int (16 : Int32))]) (rest := []) X527 H hml hZ510 hown510 (ow hw 107 rfl) (ow hw 108 rfl) (ow hw 2 rfl) (ow hw 109 rfl) (backOf (W := 0) (rm18 l Z a0 hw [] y510s wq t510 kt510 (own_escs csq) co510 nx510 vs510 kwq ek 16 z fm T510.heap n0 (by exact (Nat.le_trans gt_3 K510.1)) ⟨hz, (gt_4.keep K510 all0), SC, SA, SH, SL, SF, hfm⟩ Eq510 Cq510 Vq510 Aq510 cod510 hlq (by omega) (own_escsr r16q) (gt_9.keep K510 nin0) (by decide)) hZ510 (ow hw 109 rfl) (ow hw 2 rfl) (by decide) (by decide)) (by decide) e527 pd_38 at_437 rfl rfl rfl rfl rfl (by decide) (by decide) (o_pk (fun _ _ _ q => q) N527 fun T528 Lc528 X528 N528 e528 => ?_)
    refine o_ifN X528 H at_440 ((if0 _ _).trans (feq (by decide : ¬ ((1 : Int32) = (0 : Int32)))).1) ?_
    refine o_ald X528 H at_443 rfl rfl ?_
    refine o_ald X528 H at_445 rfl rfl ?_
    refine o_ild X528 H at_447 rfl ?_
    refine o_bi X528 H at_449 (v := 17) rfl ?_
    refine o_tc (argsL := [(.ref y510s), (.ref wq), (.int (Int32.ofNat ek)), (.int (17 : Int32))]) (rest := []) X528 H hml hZ510 hown510 (ow hw 107 rfl) (ow hw 108 rfl) (ow hw 2 rfl) (ow hw 109 rfl) (backOf (W := 0) (rm18 l Z a0 hw [] y510s wq t510 kt510 (own_escs csq) co510 nx510 vs510 kwq ek 17 z fm T510.heap n0 (by exact (Nat.le_trans gt_3 K510.1)) ⟨hz, (gt_4.keep K510 all0), SC, SA, SH, SL, SF, hfm⟩ Eq510 Cq510 Vq510 Aq510 cod510 hlq (by omega) (own_escsr r16q) (gt_9.keep K510 nin0) (by decide)) hZ510 (ow hw 109 rfl) (ow hw 2 rfl) (by decide) (by decide)) (by decide) e528 pd_38 at_451 rfl rfl rfl rfl rfl (by decide) (by decide) (o_pk (fun _ _ _ q => q) N528 fun T529 Lc529 X529 N529 e529 => ?_)
    refine o_ifN X529 H at_454 ((if0 _ _).trans (feq (by decide : ¬ ((1 : Int32) = (0 : Int32)))).1) ?_
    refine o_ic X529 H at_457 (v := 1) rfl ?_
    refine o_go X529 H at_458 (pc' := 462) (by decide) (by decide) ?_
    exact own_retW (t := .boolean) X529 (Z := Z) (EL := own_EL) (a0 := a0) hx hlk hret rfl (Or.inl ⟨rfl, (by simp), _, rfl⟩) (hb hby at_462) hS510 (by rw [e529]; exact (Nat.le_refl (Array.size T510.heap))) hZ510 hEL (by rw [hh, e529]; exact (CHr.trans gt_1 A510)) (⟨rfl, N529⟩) (by decide) (by decide)
  rcases (hnn ▸ own_and3 _ : nn = 0 ∨ nn = 1 ∨ nn = 2 ∨ nn = 3) with hn | hn | hn | hn
  · rw [hn]
    show own_Fin p e below _ (T509.setTop (mkF m 23 #[.val (.int p0), .val (.int p1), .val (.int p2), .val (.int p3), .val (.int (0 : Int32)), .val (.int c0), .val (.int c1), .val (.int c2), .unset, .unset, .unset, .unset] []))
    refine o_ild X509 H at_23 rfl ?_
    refine o_ifN X509 H at_25 ((if0 _ _).trans (teq (by decide : (0 : Int32) = (0 : Int32))).2) ?_
    obtain ⟨T530, h530, X530, e530, E530, A530, D530, -, st530⟩ := newO X509 hx hZ hown (ow hw 5 rfl) (ow hw 6 rfl) (ow hw 7 rfl) e509 (g := (mkF m 28 #[.val (.int p0), .val (.int p1), .val (.int p2), .val (.int p3), .val (.int (0 : Int32)), .val (.int c0), .val (.int c1), .val (.int c2), .unset, .unset, .unset, .unset] [])) rfl (hb hby at_28) (by decide) (by decide)
    obtain ⟨b530, g530⟩ : ∃ z, z = h0.size := ⟨_, rfl⟩
    rw [← g530] at A530 D530 st530
    have gn530 : n0 ≤ b530 := Nat.le_trans Z0 (Nat.le_of_eq g530.symm)
    have F530_value : Fld Z h530 b530 "java/lang/String" "value" "[B" .null := D530 (Or.inr (ow hw 21 rfl)) (ty := (.array .byte)) (by decide)
    have F530_coder : Fld Z h530 b530 "java/lang/String" "coder" "B" (.int (0 : Int32)) := D530 (Or.inr (ow hw 22 rfl)) (ty := .byte) (by decide)
    refine own_on st530 ?_
    show own_Fin p e below _ (T530.setTop (mkF m 31 #[.val (.int p0), .val (.int p1), .val (.int p2), .val (.int p3), .val (.int (0 : Int32)), .val (.int c0), .val (.int c1), .val (.int c2), .unset, .unset, .unset, .unset] [(.ref b530)]))
    refine o_dup X530 H at_31 rfl ?_
    refine o_ic X530 H at_32 (v := 0) rfl ?_
    obtain ⟨T531, h531, k531, X531, e531, E531, A531, st531⟩ := newP X530 hx hZ (ow hw 8 rfl) e530 (g := (mkF m 33 #[.val (.int p0), .val (.int p1), .val (.int p2), .val (.int p3), .val (.int (0 : Int32)), .val (.int c0), .val (.int c1), .val (.int c2), .unset, .unset, .unset, .unset] [(.int (0 : Int32)), (.ref b530), (.ref b530)])) rfl (hb hby at_33) rfl (by decide) (cap := 0) (by decide) (by decide) (by decide) (by decide)
    obtain ⟨b531, g531⟩ : ∃ z, z = h530.size := ⟨_, rfl⟩
    rw [← g531] at A531 st531
    have ne531_b530 : b530 ≠ b531 := own_ne_of (Z := Z) A530.lt g531
    have gn531 : n0 ≤ b531 := Nat.le_trans (Nat.le_trans Z0 E530.1) (Nat.le_of_eq g531.symm)
    have V531 : Arv Z h531 b531 k531 .char (0 : Int32) [] (.int (0 : Int32)) := Arv.new A531 (by decide)
    refine own_on st531 ?_
    show own_Fin p e below _ (T531.setTop (mkF m 35 #[.val (.int p0), .val (.int p1), .val (.int p2), .val (.int p3), .val (.int (0 : Int32)), .val (.int c0), .val (.int c1), .val (.int c2), .unset, .unset, .unset, .unset] [(.ref b531), (.ref b530), (.ref b530)]))
    obtain ⟨_, _, ⟨T532, L532, k532, n532⟩, -, X532', S532', gr532, ⟨Lc532, hQ532, l532, y532, z532, A532⟩, st532⟩ := X531.specialBackS hx (y := (⟨"java/lang/String", "<init>", "([C)V"⟩ : MethodName)) rfl hown (mvT hZ (ow hw 9 rfl)) (mvT hZ (ow hw 10 rfl)) (mvT hZ (ow hw 11 rfl)) (by decide) (own_backX (Ex := fun vm => Safe Z own_EL vm h531 b530) (s := s) (W := 1) (rmE1 l Z a0 hw [] b530 b531 k531 h531 n0 (by exact (Nat.le_trans (Nat.le_trans Z0 E530.1) E531.1)) hEL (A530.ext E531) (F530_value.ext E531) (F530_coder.ext E531) gn530 V531) hZ (ow hw 11 rfl) (ow hw 7 rfl) (by decide) (by decide) hEL (CHv.ext E531 (CHv.ext E530 CH0)) (fun _ A => CHr.safe A (A530.ext E531).lt (Safe.ext E531 (CHv.ext E530 CH0) (Safe.ext E530 CH0 (Safe.new (Nat.le_of_eq g530.symm)))))) (g := (mkF m 35 #[.val (.int p0), .val (.int p1), .val (.int p2), .val (.int p3), .val (.int (0 : Int32)), .val (.int c0), .val (.int c1), .val (.int c2), .unset, .unset, .unset, .unset] [(.ref b531), (.ref b530), (.ref b530)])) rfl hml.symm (Steps.refl _) (a := b530) (argsL := [(.ref b531)]) (rest := [(.ref b530)]) (lenOf pd_39 rfl) rfl (o_mr rfl) (hb hby at_35) (fun _ _ => ⟨rfl, e531, (by decide : 2 + 4 ≤ _), (by decide : 4 + 8 ≤ _)⟩)
    dsimp only [Pt.U, Pt.locs, Pt.cells, Pt.slots] at X532' S532' gr532 l532 y532 z532 st532 hQ532 A532
    replace l532 := l532.symm; replace y532 := y532.symm; replace z532 := z532.symm; subst l532 y532 z532
    obtain ⟨X532, hS532, hZ532, hown532⟩ := rebS hS0 (by first | exact (Nat.le_trans (Nat.le_trans (Nat.zero_le _) E530.1) E531.1) | (rw [e531]; exact (Nat.le_trans (Nat.le_trans (Nat.zero_le _) E530.1) E531.1))) X532' S532' gr532 hZ hown
    obtain ⟨rfl, N532q, K532, t532, kt532, Eq532, Cq532, Vq532, Aq532⟩ := hQ532
    have N532 := Fr.app N509 N532q
    have y533 := (CHr.safe A532 (F530_coder.ext E531).lt (Safe.ext E531 (CHv.ext E530 CH0) (Safe.ext E530 CH0 (Safe.new (Nat.le_of_eq g530.symm)))))
    refine own_via st532 ?_
    show own_Fin p e below _ (T532.setTop (mkF m 38 #[.val (.int p0), .val (.int p1), .val (.int p2), .val (.int p3), .val (.int (0 : Int32)), .val (.int c0), .val (.int c1), .val (.int c2), .unset, .unset, .unset, .unset] [(.ref b530)]))
    refine o_ast X532 H at_38 (L' := #[.val (.int p0), .val (.int p1), .val (.int p2), .val (.int p3), .val (.int (0 : Int32)), .val (.int c0), .val (.int c1), .val (.int c2), .val (.ref b530), .unset, .unset, .unset]) rfl rfl ?_
    refine o_go X532 H at_40 (pc' := 127) (by decide) (by decide) ?_
    refine o_bi X532 H at_127 (v := 18) rfl ?_
    obtain ⟨T534, h534, k534, X534, e534, E534, A534, st534⟩ := newP X532 hx hZ532 (ow hw 8 rfl) rfl (g := (mkF m 129 #[.val (.int p0), .val (.int p1), .val (.int p2), .val (.int p3), .val (.int (0 : Int32)), .val (.int c0), .val (.int c1), .val (.int c2), .val (.ref b530), .unset, .unset, .unset] [(.int (18 : Int32))])) rfl (hb hby at_129) rfl (by decide) (cap := 18) (by decide) (by decide) (by decide) (by decide)
    obtain ⟨b534, g534⟩ : ∃ z, z = T532.heap.size := ⟨_, rfl⟩
    rw [← g534] at A534 st534
    have ne534_b530 : b530 ≠ b534 := own_ne_of (Z := Z) Eq532.lt g534
    have ne534_b531 : b531 ≠ b534 := own_ne_of (Z := Z) (V531.keep K532 (ninS (Ne.symm ne531_b530) nin0)).lt g534
    have ne534_t532 : t532 ≠ b534 := own_ne_of (Z := Z) Aq532.lt g534
    have y535 := (CHr.trans (CHr.trans (CHr.trans (CHr.trans (CHr.refl CH0) (CHr.ext E530 CH0)) (CHr.ext E531 (CHv.ext E530 CH0))) A532) (CHr.ext E534 A532.1))
    have y536 := (Safe.ext E534 A532.1 (CHr.safe A532 V531.lt (Safe.ext E531 (CHv.ext E530 CH0) (Safe.new (Nat.le_of_eq g531.symm)))))
    have gn534 : n0 ≤ b534 := Nat.le_trans (Nat.le_trans (Nat.le_trans (Nat.le_trans Z0 E530.1) E531.1) K532.1) (Nat.le_of_eq g534.symm)
    have V534 : Arv Z h534 b534 k534 .char (18 : Int32) [(.int (0 : Int32)), (.int (0 : Int32)), (.int (0 : Int32)), (.int (0 : Int32)), (.int (0 : Int32)), (.int (0 : Int32)), (.int (0 : Int32)), (.int (0 : Int32)), (.int (0 : Int32)), (.int (0 : Int32)), (.int (0 : Int32)), (.int (0 : Int32)), (.int (0 : Int32)), (.int (0 : Int32)), (.int (0 : Int32)), (.int (0 : Int32)), (.int (0 : Int32)), (.int (0 : Int32))] (.int (0 : Int32)) := (Arv.new A534 (by decide)).pad (pad_rep [] (.int (0 : Int32)) 18)
    refine own_on st534 ?_
    show own_Fin p e below _ (T534.setTop (mkF m 131 #[.val (.int p0), .val (.int p1), .val (.int p2), .val (.int p3), .val (.int (0 : Int32)), .val (.int c0), .val (.int c1), .val (.int c2), .val (.ref b530), .unset, .unset, .unset] [(.ref b534)]))
    have Aw537 : Arv Z h534 b534 k534 .char (18 : Int32) (([] : List Int32).map Value.int) (.int 0) := V534.pad (fun i => (pad_rep [] (.int 0) 18 i).symm)
    refine o_ast X534 H at_131 (L' := #[.val (.int p0), .val (.int p1), .val (.int p2), .val (.int p3), .val (.int (0 : Int32)), .val (.int c0), .val (.int c1), .val (.int c2), .val (.ref b530), .val (.ref b534), .unset, .unset]) rfl rfl ?_
    refine o_ic X534 H at_133 (v := 0) rfl ?_
    refine o_ist X534 H at_134 (L' := #[.val (.int p0), .val (.int p1), .val (.int p2), .val (.int p3), .val (.int (0 : Int32)), .val (.int c0), .val (.int c1), .val (.int c2), .val (.ref b530), .val (.ref b534), .val (.int (0 : Int32)), .unset]) rfl ?_
    refine o_ild X534 H at_136 rfl ?_
    refine o_ic X534 H at_138 (v := 1) rfl ?_
    refine o_icY X534 H at_139 (tlt (by decide : (0 : Int32) < (1 : Int32))).1 (pc' := 153) (by decide) (by decide) ?_
    refine o_ild X534 H at_153 rfl ?_
    refine o_ic X534 H at_155 (v := 2) rfl ?_
    refine o_icY X534 H at_156 (tlt (by decide : (0 : Int32) < (2 : Int32))).1 (pc' := 170) (by decide) (by decide) ?_
    refine o_ild X534 H at_170 rfl ?_
    refine o_ic X534 H at_172 (v := 3) rfl ?_
    refine o_icY X534 H at_173 (tlt (by decide : (0 : Int32) < (3 : Int32))).1 (pc' := 187) (by decide) (by decide) ?_
    have he538 : (own_escs ([] : List Int32)) = ([] : List Int32) := by simp [own_escs]
    have hl538 : (own_escs ([] : List Int32)).length = 0 := by rw [he538]; exact (rfl : ([] : List Int32).length = 0)
    have Aw538 : Arv Z h534 b534 k534 .char (18 : Int32) ((own_escs ([] : List Int32)).map Value.int) (.int 0) := by rw [he538]; exact Aw537
    exact PT _ b530 t532 b534 kt532 k534 ([] : List Int32) (0 : Int32) (0 : Int32) ([] : List Value) 0 0 (Or.inl ⟨rfl, rfl, rfl, fun _ q => nomatch q⟩) (fun _ q => nomatch q) (rfl : ([] : List Int32).length = 0) (by decide) hl538 (by omega) gn534 T534 _ _ _ _ (X534.more (by decide) (by decide)) e534 N532 hS532 hZ532 hown532 (CHv.ext E534 A532.1) y535 (Nat.le_trans (Nat.le_refl (Array.size T532.heap)) E534.1) (Nat.le_trans (Nat.le_trans (Nat.le_trans (Nat.le_trans Z0 E530.1) E531.1) K532.1) E534.1) ((((O.ext E530).ext E531).keep K532 (allS gn530 all0)).ext E534) (Eq532.ext E534) (Cq532.ext E534) (Vq532.ext E534) (Aq532.ext E534) Aw538
  · rw [hn]
    show own_Fin p e below _ (T509.setTop (mkF m 23 #[.val (.int p0), .val (.int p1), .val (.int p2), .val (.int p3), .val (.int (1 : Int32)), .val (.int c0), .val (.int c1), .val (.int c2), .unset, .unset, .unset, .unset] []))
    refine o_ild X509 H at_23 rfl ?_
    refine o_ifY X509 H at_25 ((if0 _ _).trans (feq (by decide : ¬ ((1 : Int32) = (0 : Int32)))).2) (pc' := 43) (by decide) (by decide) ?_
    refine o_ild X509 H at_43 rfl ?_
    refine o_ic X509 H at_45 (v := 1) rfl ?_
    refine o_icN X509 H at_46 (teq (by decide : (1 : Int32) = (1 : Int32))).2 ?_
    obtain ⟨T539, h539, X539, e539, E539, A539, D539, -, st539⟩ := newO X509 hx hZ hown (ow hw 5 rfl) (ow hw 6 rfl) (ow hw 7 rfl) e509 (g := (mkF m 49 #[.val (.int p0), .val (.int p1), .val (.int p2), .val (.int p3), .val (.int (1 : Int32)), .val (.int c0), .val (.int c1), .val (.int c2), .unset, .unset, .unset, .unset] [])) rfl (hb hby at_49) (by decide) (by decide)
    obtain ⟨b539, g539⟩ : ∃ z, z = h0.size := ⟨_, rfl⟩
    rw [← g539] at A539 D539 st539
    have gn539 : n0 ≤ b539 := Nat.le_trans Z0 (Nat.le_of_eq g539.symm)
    have F539_value : Fld Z h539 b539 "java/lang/String" "value" "[B" .null := D539 (Or.inr (ow hw 21 rfl)) (ty := (.array .byte)) (by decide)
    have F539_coder : Fld Z h539 b539 "java/lang/String" "coder" "B" (.int (0 : Int32)) := D539 (Or.inr (ow hw 22 rfl)) (ty := .byte) (by decide)
    refine own_on st539 ?_
    show own_Fin p e below _ (T539.setTop (mkF m 52 #[.val (.int p0), .val (.int p1), .val (.int p2), .val (.int p3), .val (.int (1 : Int32)), .val (.int c0), .val (.int c1), .val (.int c2), .unset, .unset, .unset, .unset] [(.ref b539)]))
    refine o_dup X539 H at_52 rfl ?_
    refine o_ic X539 H at_53 (v := 1) rfl ?_
    obtain ⟨T540, h540, k540, X540, e540, E540, A540, st540⟩ := newP X539 hx hZ (ow hw 8 rfl) e539 (g := (mkF m 54 #[.val (.int p0), .val (.int p1), .val (.int p2), .val (.int p3), .val (.int (1 : Int32)), .val (.int c0), .val (.int c1), .val (.int c2), .unset, .unset, .unset, .unset] [(.int (1 : Int32)), (.ref b539), (.ref b539)])) rfl (hb hby at_54) rfl (by decide) (cap := 1) (by decide) (by decide) (by decide) (by decide)
    obtain ⟨b540, g540⟩ : ∃ z, z = h539.size := ⟨_, rfl⟩
    rw [← g540] at A540 st540
    have ne540_b539 : b539 ≠ b540 := own_ne_of (Z := Z) A539.lt g540
    have gn540 : n0 ≤ b540 := Nat.le_trans (Nat.le_trans Z0 E539.1) (Nat.le_of_eq g540.symm)
    have V540 : Arv Z h540 b540 k540 .char (1 : Int32) [(.int (0 : Int32))] (.int (0 : Int32)) := (Arv.new A540 (by decide)).pad (pad_rep [] (.int (0 : Int32)) 1)
    refine own_on st540 ?_
    show own_Fin p e below _ (T540.setTop (mkF m 56 #[.val (.int p0), .val (.int p1), .val (.int p2), .val (.int p3), .val (.int (1 : Int32)), .val (.int c0), .val (.int c1), .val (.int c2), .unset, .unset, .unset, .unset] [(.ref b540), (.ref b539), (.ref b539)]))
    refine o_dup X540 H at_56 rfl ?_
    refine o_ic X540 H at_57 (v := 0) rfl ?_
    refine o_ild X540 H at_58 rfl ?_
    have cp541 := V540
    obtain ⟨cl541, Ar541, q541, S541, G541, H541, F541⟩ := cp541
    have hin541 : ¬ ((0 : Int32) < 0 ∨ cl541.slots.size ≤ ((0 : Int32)).toNatClampNeg) := inb_of S541 ⟨by decide, by decide⟩
    obtain ⟨T541, h541, X541, e541, W541, st541⟩ := stC X540 hx hZ e540 Ar541 (j := (0 : Int32)) hin541 (g := (mkF m 60 #[.val (.int p0), .val (.int p1), .val (.int p2), .val (.int p3), .val (.int (1 : Int32)), .val (.int c0), .val (.int c1), .val (.int c2), .unset, .unset, .unset, .unset] [(.int c0), (.int (0 : Int32)), (.ref b540), (.ref b540), (.ref b539), (.ref b539)])) rfl rfl (hb hby at_60)
    have V541 : Arv Z h541 b540 k540 .char (1 : Int32) [(.int (nar .char c0))] (.int (0 : Int32)) := Arv.set Ar541 q541 S541 G541 H541 F541 (fits_nar_char _) W541 0 rfl (Nat.le_of_ble_eq_true rfl)
    have N541 := Fr.snoc X541 N509 gn540
    have y542 := (CHv.wr W541 (Safe.ext E540 (CHv.ext E539 CH0) (Safe.new (Nat.le_of_eq g540.symm))) (CHv.ext E540 (CHv.ext E539 CH0)))
    have y543 := (CHr.trans (CHr.trans (CHr.trans (CHr.refl CH0) (CHr.ext E539 CH0)) (CHr.ext E540 (CHv.ext E539 CH0))) (CHr.wr W541 (Safe.ext E540 (CHv.ext E539 CH0) (Safe.new (Nat.le_of_eq g540.symm))) (CHv.ext E540 (CHv.ext E539 CH0))))
    have y544 := (Safe.wr W541 (Safe.ext E540 (CHv.ext E539 CH0) (Safe.new (Nat.le_of_eq g540.symm))) (CHv.ext E540 (CHv.ext E539 CH0)) (Safe.ext E540 (CHv.ext E539 CH0) (Safe.ext E539 CH0 (Safe.new (Nat.le_of_eq g539.symm)))))
    have y545 := (Safe.wr W541 (Safe.ext E540 (CHv.ext E539 CH0) (Safe.new (Nat.le_of_eq g540.symm))) (CHv.ext E540 (CHv.ext E539 CH0)) (Safe.ext E540 (CHv.ext E539 CH0) (Safe.new (Nat.le_of_eq g540.symm))))
    refine own_on st541 ?_
    show own_Fin p e below _ (T541.setTop (mkF m 61 #[.val (.int p0), .val (.int p1), .val (.int p2), .val (.int p3), .val (.int (1 : Int32)), .val (.int c0), .val (.int c1), .val (.int c2), .unset, .unset, .unset, .unset] [(.ref b540), (.ref b539), (.ref b539)]))
    have Vc547 : Arv Z h541 b540 k540 .char (1 : Int32) [(.int c0)] (.int 0) := by have q := V541; simp only [own_nar16 oc0] at q; exact q
    have rl547 : ∀ c ∈ [c0], ¬ c < 0 ∧ ¬ (65535 : Int32) < c := List.forall_mem_cons.mpr ⟨oc0, fun _ q => nomatch q⟩
    refine o_sc (b := b539) (argsL := [(.ref b540)]) (rest := [(.ref b539)]) X541 H hml hZ hown (ow hw 9 rfl) (ow hw 10 rfl) (ow hw 11 rfl) (backOf (W := 1) (rmN1_1 l Z a0 hw [] b539 b540 k540 c0 z fm h541 n0 (by exact (Nat.le_trans (Nat.le_trans (Nat.le_trans Z0 E539.1) E540.1) (Keep.of_wr W541).1)) ⟨hz, (((O.ext E539).ext E540).wr W541 gn540), SC, SA, SH, SL, SF, hfm⟩ ((A539.ext E540).wr W541) ((F539_value.ext E540).other W541 (Or.inl ne540_b539)) ((F539_coder.ext E540).other W541 (Or.inl ne540_b539)) gn539 (Ne.symm ne540_b539) Vc547 rl547) hZ (ow hw 11 rfl) (ow hw 7 rfl) (by decide) (by decide)) rfl (by decide) e541 pd_39 at_61 rfl rfl rfl rfl rfl (by decide) (by decide) fun _ T546 Lc546 X546 hQ546 => ?_
    obtain ⟨x546, kx546, co546, nx546, vs546, rfl, N546q, K546, cod546, Eq546, Cq546, Vq546, Aq546⟩ := hQ546
    have N546 := Fr.app N541 N546q
    have y548 := (Nat.le_trans (Nat.le_trans (Nat.le_trans (Nat.le_trans (Nat.zero_le _) E539.1) E540.1) (Keep.of_wr W541).1) K546.1)
    show own_Fin p e below _ (T546.setTop (mkF m 64 #[.val (.int p0), .val (.int p1), .val (.int p2), .val (.int p3), .val (.int (1 : Int32)), .val (.int c0), .val (.int c1), .val (.int c2), .unset, .unset, .unset, .unset] [(.ref b539)]))
    refine o_ast X546 H at_64 (L' := #[.val (.int p0), .val (.int p1), .val (.int p2), .val (.int p3), .val (.int (1 : Int32)), .val (.int c0), .val (.int c1), .val (.int c2), .val (.ref b539), .unset, .unset, .unset]) rfl rfl ?_
    refine o_go X546 H at_66 (pc' := 127) (by decide) (by decide) ?_
    refine o_bi X546 H at_127 (v := 18) rfl ?_
    obtain ⟨T549, h549, k549, X549, e549, E549, A549, st549⟩ := newP X546 hx hZ (ow hw 8 rfl) rfl (g := (mkF m 129 #[.val (.int p0), .val (.int p1), .val (.int p2), .val (.int p3), .val (.int (1 : Int32)), .val (.int c0), .val (.int c1), .val (.int c2), .val (.ref b539), .unset, .unset, .unset] [(.int (18 : Int32))])) rfl (hb hby at_129) rfl (by decide) (cap := 18) (by decide) (by decide) (by decide) (by decide)
    obtain ⟨b549, g549⟩ : ∃ z, z = T546.heap.size := ⟨_, rfl⟩
    rw [← g549] at A549 st549
    have ne549_b539 : b539 ≠ b549 := own_ne_of (Z := Z) Eq546.lt g549
    have ne549_b540 : b540 ≠ b549 := own_ne_of (Z := Z) (Vc547.keep K546 (ninS (Ne.symm ne540_b539) nin0)).lt g549
    have ne549_x546 : x546 ≠ b549 := own_ne_of (Z := Z) Aq546.lt g549
    have y550 := (CHr.trans (CHr.trans y543 (CHr.keep K546 (sfS y544 sf0) y542)) (CHr.ext E549 (CHv.keep K546 (sfS y544 sf0) y542)))
    have y551 := (Nat.le_trans (Nat.le_trans (Nat.le_trans (Nat.le_trans (Nat.le_trans Z0 E539.1) E540.1) (Keep.of_wr W541).1) K546.1) E549.1)
    have gn549 : n0 ≤ b549 := Nat.le_trans (Nat.le_trans (Nat.le_trans (Nat.le_trans (Nat.le_trans Z0 E539.1) E540.1) (Keep.of_wr W541).1) K546.1) (Nat.le_of_eq g549.symm)
    have V549 : Arv Z h549 b549 k549 .char (18 : Int32) [(.int (0 : Int32)), (.int (0 : Int32)), (.int (0 : Int32)), (.int (0 : Int32)), (.int (0 : Int32)), (.int (0 : Int32)), (.int (0 : Int32)), (.int (0 : Int32)), (.int (0 : Int32)), (.int (0 : Int32)), (.int (0 : Int32)), (.int (0 : Int32)), (.int (0 : Int32)), (.int (0 : Int32)), (.int (0 : Int32)), (.int (0 : Int32)), (.int (0 : Int32)), (.int (0 : Int32))] (.int (0 : Int32)) := (Arv.new A549 (by decide)).pad (pad_rep [] (.int (0 : Int32)) 18)
    refine own_on st549 ?_
    show own_Fin p e below _ (T549.setTop (mkF m 131 #[.val (.int p0), .val (.int p1), .val (.int p2), .val (.int p3), .val (.int (1 : Int32)), .val (.int c0), .val (.int c1), .val (.int c2), .val (.ref b539), .unset, .unset, .unset] [(.ref b549)]))
    have Aw552 : Arv Z h549 b549 k549 .char (18 : Int32) (([] : List Int32).map Value.int) (.int 0) := V549.pad (fun i => (pad_rep [] (.int 0) 18 i).symm)
    refine o_ast X549 H at_131 (L' := #[.val (.int p0), .val (.int p1), .val (.int p2), .val (.int p3), .val (.int (1 : Int32)), .val (.int c0), .val (.int c1), .val (.int c2), .val (.ref b539), .val (.ref b549), .unset, .unset]) rfl rfl ?_
    refine o_ic X549 H at_133 (v := 0) rfl ?_
    refine o_ist X549 H at_134 (L' := #[.val (.int p0), .val (.int p1), .val (.int p2), .val (.int p3), .val (.int (1 : Int32)), .val (.int c0), .val (.int c1), .val (.int c2), .val (.ref b539), .val (.ref b549), .val (.int (0 : Int32)), .unset]) rfl ?_
    refine o_ild X549 H at_136 rfl ?_
    refine o_ic X549 H at_138 (v := 1) rfl ?_
    refine o_icN X549 H at_139 (flt (by decide : ¬ ((1 : Int32) < (1 : Int32)))).1 ?_
    refine o_ald X549 H at_142 rfl rfl ?_
    refine o_ild X549 H at_144 rfl ?_
    refine o_ild X549 H at_146 rfl ?_
    refine o_tc (argsL := [(.ref b549), (.int (0 : Int32)), (.int c0)]) (rest := []) X549 H hml hZ hown (ow hw 120 rfl) (ow hw 121 rfl) (ow hw 2 rfl) (ow hw 122 rfl) (backOf (W := 0) (rm22 l Z a0 hw [] b549 c0 k549 ([] : List Int32) 0 h549 n0 (by exact y551) Aw552 gn549 (rfl : ([] : List Int32).length = 0) (by omega) oc0) hZ (ow hw 122 rfl) (ow hw 2 rfl) (by decide) (by decide)) (by decide) e549 pd_40 at_148 rfl rfl rfl rfl rfl (by decide) (by decide) fun _ T553 Lc553 X553 hQ553 => ?_
    have le553 := (own_escl c0).2
    have Lq553 : (([] : List Int32) ++ own_esc c0).length = (0 + (own_esc c0).length) := own_la (rfl : ([] : List Int32).length = 0) rfl
    obtain ⟨rfl, N553q, K553, Aq553⟩ := hQ553
    have N553 := Fr.app N546 N553q
    have y554 := (CHv.keep K553 (sfS (Safe.ext E549 (CHv.keep K546 (sfS y544 sf0) y542) (Safe.new (Nat.le_of_eq g549.symm))) sf0) (CHv.ext E549 (CHv.keep K546 (sfS y544 sf0) y542)))
    have y555 := (CHr.trans y550 (CHr.keep K553 (sfS (Safe.ext E549 (CHv.keep K546 (sfS y544 sf0) y542) (Safe.new (Nat.le_of_eq g549.symm))) sf0) (CHv.ext E549 (CHv.keep K546 (sfS y544 sf0) y542))))
    have y556 := (Safe.keep K553 (sfS (Safe.ext E549 (CHv.keep K546 (sfS y544 sf0) y542) (Safe.new (Nat.le_of_eq g549.symm))) sf0) (CHv.ext E549 (CHv.keep K546 (sfS y544 sf0) y542)) (Safe.ext E549 (CHv.keep K546 (sfS y544 sf0) y542) (Safe.keep K546 (sfS y544 sf0) y542 y544)))
    have y557 := (Safe.keep K553 (sfS (Safe.ext E549 (CHv.keep K546 (sfS y544 sf0) y542) (Safe.new (Nat.le_of_eq g549.symm))) sf0) (CHv.ext E549 (CHv.keep K546 (sfS y544 sf0) y542)) (Safe.ext E549 (CHv.keep K546 (sfS y544 sf0) y542) (Safe.keep K546 (sfS y544 sf0) y542 y545)))
    have y558 := (Safe.keep K553 (sfS (Safe.ext E549 (CHv.keep K546 (sfS y544 sf0) y542) (Safe.new (Nat.le_of_eq g549.symm))) sf0) (CHv.ext E549 (CHv.keep K546 (sfS y544 sf0) y542)) (Safe.ext E549 (CHv.keep K546 (sfS y544 sf0) y542) (Safe.new (Nat.le_of_eq g549.symm))))
    show own_Fin p e below _ (T553.setTop (mkF m 151 #[.val (.int p0), .val (.int p1), .val (.int p2), .val (.int p3), .val (.int (1 : Int32)), .val (.int c0), .val (.int c1), .val (.int c2), .val (.ref b539), .val (.ref b549), .val (.int (0 : Int32)), .unset] [(.int (Int32.ofNat (0 + (own_esc c0).length)))]))
    refine o_ist X553 H at_151 (L' := #[.val (.int p0), .val (.int p1), .val (.int p2), .val (.int p3), .val (.int (1 : Int32)), .val (.int c0), .val (.int c1), .val (.int c2), .val (.ref b539), .val (.ref b549), .val (.int (Int32.ofNat (0 + (own_esc c0).length))), .unset]) rfl ?_
    refine o_ild X553 H at_153 rfl ?_
    refine o_ic X553 H at_155 (v := 2) rfl ?_
    refine o_icY X553 H at_156 (tlt (by decide : (1 : Int32) < (2 : Int32))).1 (pc' := 170) (by decide) (by decide) ?_
    refine o_ild X553 H at_170 rfl ?_
    refine o_ic X553 H at_172 (v := 3) rfl ?_
    refine o_icY X553 H at_173 (tlt (by decide : (1 : Int32) < (3 : Int32))).1 (pc' := 187) (by decide) (by decide) ?_
    have he559 : (own_escs [c0]) = (([] : List Int32) ++ own_esc c0) := by simp [own_escs]
    have hl559 : (own_escs [c0]).length = (0 + (own_esc c0).length) := by rw [he559]; exact Lq553
    have Aw559 : Arv Z T553.heap b549 k549 .char (18 : Int32) ((own_escs [c0]).map Value.int) (.int 0) := by rw [he559]; exact Aq553
    exact PT _ b539 x546 b549 kx546 k549 ([c0]) co546 nx546 vs546 1 (0 + (own_esc c0).length) cod546 rl547 (rfl : ([c0] : List Int32).length = 1) (by decide) hl559 (by omega) gn549 T553 _ _ _ _ (X553.more (by decide) (by decide)) rfl N553 hS0 hZ hown y554 y555 (Nat.le_trans (Nat.le_trans y548 E549.1) K553.1) (Nat.le_trans y551 K553.1) ((((((O.ext E539).ext E540).wr W541 gn540).keep K546 (allS gn539 all0)).ext E549).keep K553 (allS gn549 all0)) ((Eq546.ext E549).keep K553) ((Cq546.ext E549).keep K553 (ninS ne549_b539 nin0)) ((Vq546.ext E549).keep K553 (ninS ne549_b539 nin0)) ((Aq546.ext E549).keep K553 (ninS ne549_x546 nin0)) Aw559
  · rw [hn]
    show own_Fin p e below _ (T509.setTop (mkF m 23 #[.val (.int p0), .val (.int p1), .val (.int p2), .val (.int p3), .val (.int (2 : Int32)), .val (.int c0), .val (.int c1), .val (.int c2), .unset, .unset, .unset, .unset] []))
    refine o_ild X509 H at_23 rfl ?_
    refine o_ifY X509 H at_25 ((if0 _ _).trans (feq (by decide : ¬ ((2 : Int32) = (0 : Int32)))).2) (pc' := 43) (by decide) (by decide) ?_
    refine o_ild X509 H at_43 rfl ?_
    refine o_ic X509 H at_45 (v := 1) rfl ?_
    refine o_icY X509 H at_46 (feq (by decide : ¬ ((2 : Int32) = (1 : Int32)))).2 (pc' := 69) (by decide) (by decide) ?_
    refine o_ild X509 H at_69 rfl ?_
    refine o_ic X509 H at_71 (v := 2) rfl ?_
    refine o_icN X509 H at_72 (teq (by decide : (2 : Int32) = (2 : Int32))).2 ?_
    obtain ⟨T560, h560, X560, e560, E560, A560, D560, -, st560⟩ := newO X509 hx hZ hown (ow hw 5 rfl) (ow hw 6 rfl) (ow hw 7 rfl) e509 (g := (mkF m 75 #[.val (.int p0), .val (.int p1), .val (.int p2), .val (.int p3), .val (.int (2 : Int32)), .val (.int c0), .val (.int c1), .val (.int c2), .unset, .unset, .unset, .unset] [])) rfl (hb hby at_75) (by decide) (by decide)
    obtain ⟨b560, g560⟩ : ∃ z, z = h0.size := ⟨_, rfl⟩
    rw [← g560] at A560 D560 st560
    have gn560 : n0 ≤ b560 := Nat.le_trans Z0 (Nat.le_of_eq g560.symm)
    have F560_value : Fld Z h560 b560 "java/lang/String" "value" "[B" .null := D560 (Or.inr (ow hw 21 rfl)) (ty := (.array .byte)) (by decide)
    have F560_coder : Fld Z h560 b560 "java/lang/String" "coder" "B" (.int (0 : Int32)) := D560 (Or.inr (ow hw 22 rfl)) (ty := .byte) (by decide)
    refine own_on st560 ?_
    show own_Fin p e below _ (T560.setTop (mkF m 78 #[.val (.int p0), .val (.int p1), .val (.int p2), .val (.int p3), .val (.int (2 : Int32)), .val (.int c0), .val (.int c1), .val (.int c2), .unset, .unset, .unset, .unset] [(.ref b560)]))
    refine o_dup X560 H at_78 rfl ?_
    refine o_ic X560 H at_79 (v := 2) rfl ?_
    obtain ⟨T561, h561, k561, X561, e561, E561, A561, st561⟩ := newP X560 hx hZ (ow hw 8 rfl) e560 (g := (mkF m 80 #[.val (.int p0), .val (.int p1), .val (.int p2), .val (.int p3), .val (.int (2 : Int32)), .val (.int c0), .val (.int c1), .val (.int c2), .unset, .unset, .unset, .unset] [(.int (2 : Int32)), (.ref b560), (.ref b560)])) rfl (hb hby at_80) rfl (by decide) (cap := 2) (by decide) (by decide) (by decide) (by decide)
    obtain ⟨b561, g561⟩ : ∃ z, z = h560.size := ⟨_, rfl⟩
    rw [← g561] at A561 st561
    have ne561_b560 : b560 ≠ b561 := own_ne_of (Z := Z) A560.lt g561
    have gn561 : n0 ≤ b561 := Nat.le_trans (Nat.le_trans Z0 E560.1) (Nat.le_of_eq g561.symm)
    have V561 : Arv Z h561 b561 k561 .char (2 : Int32) [(.int (0 : Int32)), (.int (0 : Int32))] (.int (0 : Int32)) := (Arv.new A561 (by decide)).pad (pad_rep [] (.int (0 : Int32)) 2)
    refine own_on st561 ?_
    show own_Fin p e below _ (T561.setTop (mkF m 82 #[.val (.int p0), .val (.int p1), .val (.int p2), .val (.int p3), .val (.int (2 : Int32)), .val (.int c0), .val (.int c1), .val (.int c2), .unset, .unset, .unset, .unset] [(.ref b561), (.ref b560), (.ref b560)]))
    refine o_dup X561 H at_82 rfl ?_
    refine o_ic X561 H at_83 (v := 0) rfl ?_
    refine o_ild X561 H at_84 rfl ?_
    have cp562 := V561
    obtain ⟨cl562, Ar562, q562, S562, G562, H562, F562⟩ := cp562
    have hin562 : ¬ ((0 : Int32) < 0 ∨ cl562.slots.size ≤ ((0 : Int32)).toNatClampNeg) := inb_of S562 ⟨by decide, by decide⟩
    obtain ⟨T562, h562, X562, e562, W562, st562⟩ := stC X561 hx hZ e561 Ar562 (j := (0 : Int32)) hin562 (g := (mkF m 86 #[.val (.int p0), .val (.int p1), .val (.int p2), .val (.int p3), .val (.int (2 : Int32)), .val (.int c0), .val (.int c1), .val (.int c2), .unset, .unset, .unset, .unset] [(.int c0), (.int (0 : Int32)), (.ref b561), (.ref b561), (.ref b560), (.ref b560)])) rfl rfl (hb hby at_86)
    have V562 : Arv Z h562 b561 k561 .char (2 : Int32) [(.int (nar .char c0)), (.int (0 : Int32))] (.int (0 : Int32)) := Arv.set Ar562 q562 S562 G562 H562 F562 (fits_nar_char _) W562 0 rfl (Nat.le_of_ble_eq_true rfl)
    have N562 := Fr.snoc X562 N509 gn561
    have y563 := (CHv.wr W562 (Safe.ext E561 (CHv.ext E560 CH0) (Safe.new (Nat.le_of_eq g561.symm))) (CHv.ext E561 (CHv.ext E560 CH0)))
    have y564 := (CHr.trans (CHr.trans (CHr.trans (CHr.refl CH0) (CHr.ext E560 CH0)) (CHr.ext E561 (CHv.ext E560 CH0))) (CHr.wr W562 (Safe.ext E561 (CHv.ext E560 CH0) (Safe.new (Nat.le_of_eq g561.symm))) (CHv.ext E561 (CHv.ext E560 CH0))))
    have y565 := (Safe.wr W562 (Safe.ext E561 (CHv.ext E560 CH0) (Safe.new (Nat.le_of_eq g561.symm))) (CHv.ext E561 (CHv.ext E560 CH0)) (Safe.ext E561 (CHv.ext E560 CH0) (Safe.ext E560 CH0 (Safe.new (Nat.le_of_eq g560.symm)))))
    have y566 := (Safe.wr W562 (Safe.ext E561 (CHv.ext E560 CH0) (Safe.new (Nat.le_of_eq g561.symm))) (CHv.ext E561 (CHv.ext E560 CH0)) (Safe.ext E561 (CHv.ext E560 CH0) (Safe.new (Nat.le_of_eq g561.symm))))
    refine own_on st562 ?_
    show own_Fin p e below _ (T562.setTop (mkF m 87 #[.val (.int p0), .val (.int p1), .val (.int p2), .val (.int p3), .val (.int (2 : Int32)), .val (.int c0), .val (.int c1), .val (.int c2), .unset, .unset, .unset, .unset] [(.ref b561), (.ref b560), (.ref b560)]))
    refine o_dup X562 H at_87 rfl ?_
    refine o_ic X562 H at_88 (v := 1) rfl ?_
    refine o_ild X562 H at_89 rfl ?_
    have cp567 := V562
    obtain ⟨cl567, Ar567, q567, S567, G567, H567, F567⟩ := cp567
    have hin567 : ¬ ((1 : Int32) < 0 ∨ cl567.slots.size ≤ ((1 : Int32)).toNatClampNeg) := inb_of S567 ⟨by decide, by decide⟩
    obtain ⟨T567, h567, X567, e567, W567, st567⟩ := stC X562 hx hZ e562 Ar567 (j := (1 : Int32)) hin567 (g := (mkF m 91 #[.val (.int p0), .val (.int p1), .val (.int p2), .val (.int p3), .val (.int (2 : Int32)), .val (.int c0), .val (.int c1), .val (.int c2), .unset, .unset, .unset, .unset] [(.int c1), (.int (1 : Int32)), (.ref b561), (.ref b561), (.ref b560), (.ref b560)])) rfl rfl (hb hby at_91)
    have V567 : Arv Z h567 b561 k561 .char (2 : Int32) [(.int (nar .char c0)), (.int (nar .char c1))] (.int (0 : Int32)) := Arv.set Ar567 q567 S567 G567 H567 F567 (fits_nar_char _) W567 1 rfl (Nat.le_of_ble_eq_true rfl)
    have N567 := Fr.snoc X567 N562 gn561
    have y568 := (Nat.le_trans (Nat.le_trans (Nat.le_trans (Nat.le_trans (Nat.zero_le _) E560.1) E561.1) (Keep.of_wr W562).1) (Keep.of_wr W567).1)
    have y569 := (Nat.le_trans (Nat.le_trans (Nat.le_trans (Nat.le_trans Z0 E560.1) E561.1) (Keep.of_wr W562).1) (Keep.of_wr W567).1)
    refine own_on st567 ?_
    show own_Fin p e below _ (T567.setTop (mkF m 92 #[.val (.int p0), .val (.int p1), .val (.int p2), .val (.int p3), .val (.int (2 : Int32)), .val (.int c0), .val (.int c1), .val (.int c2), .unset, .unset, .unset, .unset] [(.ref b561), (.ref b560), (.ref b560)]))
    have Vc571 : Arv Z h567 b561 k561 .char (2 : Int32) [(.int c0), (.int c1)] (.int 0) := by have q := V567; simp only [own_nar16 oc0, own_nar16 oc1] at q; exact q
    have rl571 : ∀ c ∈ [c0, c1], ¬ c < 0 ∧ ¬ (65535 : Int32) < c := List.forall_mem_cons.mpr ⟨oc0, List.forall_mem_cons.mpr ⟨oc1, fun _ q => nomatch q⟩⟩
    refine o_sc (b := b560) (argsL := [(.ref b561)]) (rest := [(.ref b560)]) X567 H hml hZ hown (ow hw 9 rfl) (ow hw 10 rfl) (ow hw 11 rfl) (backOf (W := 1) (rmN1_2 l Z a0 hw [] b560 b561 k561 c0 c1 z fm h567 n0 (by exact y569) ⟨hz, ((((O.ext E560).ext E561).wr W562 gn561).wr W567 gn561), SC, SA, SH, SL, SF, hfm⟩ (((A560.ext E561).wr W562).wr W567) (((F560_value.ext E561).other W562 (Or.inl ne561_b560)).other W567 (Or.inl ne561_b560)) (((F560_coder.ext E561).other W562 (Or.inl ne561_b560)).other W567 (Or.inl ne561_b560)) gn560 (Ne.symm ne561_b560) Vc571 rl571) hZ (ow hw 11 rfl) (ow hw 7 rfl) (by decide) (by decide)) rfl (by decide) e567 pd_39 at_92 rfl rfl rfl rfl rfl (by decide) (by decide) fun _ T570 Lc570 X570 hQ570 => ?_
    obtain ⟨x570, kx570, co570, nx570, vs570, rfl, N570q, K570, cod570, Eq570, Cq570, Vq570, Aq570⟩ := hQ570
    have N570 := Fr.app N567 N570q
    have y572 := (CHr.trans (CHr.trans y564 (CHr.wr W567 y566 y563)) (CHr.keep K570 (sfS (Safe.wr W567 y566 y563 y565) sf0) (CHv.wr W567 y566 y563)))
    show own_Fin p e below _ (T570.setTop (mkF m 95 #[.val (.int p0), .val (.int p1), .val (.int p2), .val (.int p3), .val (.int (2 : Int32)), .val (.int c0), .val (.int c1), .val (.int c2), .unset, .unset, .unset, .unset] [(.ref b560)]))
    refine o_ast X570 H at_95 (L' := #[.val (.int p0), .val (.int p1), .val (.int p2), .val (.int p3), .val (.int (2 : Int32)), .val (.int c0), .val (.int c1), .val (.int c2), .val (.ref b560), .unset, .unset, .unset]) rfl rfl ?_
    refine o_go X570 H at_97 (pc' := 127) (by decide) (by decide) ?_
    refine o_bi X570 H at_127 (v := 18) rfl ?_
    obtain ⟨T573, h573, k573, X573, e573, E573, A573, st573⟩ := newP X570 hx hZ (ow hw 8 rfl) rfl (g := (mkF m 129 #[.val (.int p0), .val (.int p1), .val (.int p2), .val (.int p3), .val (.int (2 : Int32)), .val (.int c0), .val (.int c1), .val (.int c2), .val (.ref b560), .unset, .unset, .unset] [(.int (18 : Int32))])) rfl (hb hby at_129) rfl (by decide) (cap := 18) (by decide) (by decide) (by decide) (by decide)
    obtain ⟨b573, g573⟩ : ∃ z, z = T570.heap.size := ⟨_, rfl⟩
    rw [← g573] at A573 st573
    have ne573_b560 : b560 ≠ b573 := own_ne_of (Z := Z) Eq570.lt g573
    have ne573_b561 : b561 ≠ b573 := own_ne_of (Z := Z) (Vc571.keep K570 (ninS (Ne.symm ne561_b560) nin0)).lt g573
    have ne573_x570 : x570 ≠ b573 := own_ne_of (Z := Z) Aq570.lt g573
    have y574 := (CHr.trans y572 (CHr.ext E573 (CHv.keep K570 (sfS (Safe.wr W567 y566 y563 y565) sf0) (CHv.wr W567 y566 y563))))
    have y575 := (Safe.ext E573 (CHv.keep K570 (sfS (Safe.wr W567 y566 y563 y565) sf0) (CHv.wr W567 y566 y563)) (Safe.keep K570 (sfS (Safe.wr W567 y566 y563 y565) sf0) (CHv.wr W567 y566 y563) (Safe.wr W567 y566 y563 y565)))
    have y576 := (Safe.ext E573 (CHv.keep K570 (sfS (Safe.wr W567 y566 y563 y565) sf0) (CHv.wr W567 y566 y563)) (Safe.keep K570 (sfS (Safe.wr W567 y566 y563 y565) sf0) (CHv.wr W567 y566 y563) (Safe.wr W567 y566 y563 y566)))
    have y577 := (Safe.ext E573 (CHv.keep K570 (sfS (Safe.wr W567 y566 y563 y565) sf0) (CHv.wr W567 y566 y563)) (Safe.new (Nat.le_of_eq g573.symm)))
    have gn573 : n0 ≤ b573 := Nat.le_trans (Nat.le_trans y569 K570.1) (Nat.le_of_eq g573.symm)
    have V573 : Arv Z h573 b573 k573 .char (18 : Int32) [(.int (0 : Int32)), (.int (0 : Int32)), (.int (0 : Int32)), (.int (0 : Int32)), (.int (0 : Int32)), (.int (0 : Int32)), (.int (0 : Int32)), (.int (0 : Int32)), (.int (0 : Int32)), (.int (0 : Int32)), (.int (0 : Int32)), (.int (0 : Int32)), (.int (0 : Int32)), (.int (0 : Int32)), (.int (0 : Int32)), (.int (0 : Int32)), (.int (0 : Int32)), (.int (0 : Int32))] (.int (0 : Int32)) := (Arv.new A573 (by decide)).pad (pad_rep [] (.int (0 : Int32)) 18)
    refine own_on st573 ?_
    show own_Fin p e below _ (T573.setTop (mkF m 131 #[.val (.int p0), .val (.int p1), .val (.int p2), .val (.int p3), .val (.int (2 : Int32)), .val (.int c0), .val (.int c1), .val (.int c2), .val (.ref b560), .unset, .unset, .unset] [(.ref b573)]))
    have Aw578 : Arv Z h573 b573 k573 .char (18 : Int32) (([] : List Int32).map Value.int) (.int 0) := V573.pad (fun i => (pad_rep [] (.int 0) 18 i).symm)
    refine o_ast X573 H at_131 (L' := #[.val (.int p0), .val (.int p1), .val (.int p2), .val (.int p3), .val (.int (2 : Int32)), .val (.int c0), .val (.int c1), .val (.int c2), .val (.ref b560), .val (.ref b573), .unset, .unset]) rfl rfl ?_
    refine o_ic X573 H at_133 (v := 0) rfl ?_
    refine o_ist X573 H at_134 (L' := #[.val (.int p0), .val (.int p1), .val (.int p2), .val (.int p3), .val (.int (2 : Int32)), .val (.int c0), .val (.int c1), .val (.int c2), .val (.ref b560), .val (.ref b573), .val (.int (0 : Int32)), .unset]) rfl ?_
    refine o_ild X573 H at_136 rfl ?_
    refine o_ic X573 H at_138 (v := 1) rfl ?_
    refine o_icN X573 H at_139 (flt (by decide : ¬ ((2 : Int32) < (1 : Int32)))).1 ?_
    refine o_ald X573 H at_142 rfl rfl ?_
    refine o_ild X573 H at_144 rfl ?_
    refine o_ild X573 H at_146 rfl ?_
    refine o_tc (argsL := [(.ref b573), (.int (0 : Int32)), (.int c0)]) (rest := []) X573 H hml hZ hown (ow hw 120 rfl) (ow hw 121 rfl) (ow hw 2 rfl) (ow hw 122 rfl) (backOf (W := 0) (rm22 l Z a0 hw [] b573 c0 k573 ([] : List Int32) 0 h573 n0 (by exact (Nat.le_trans (Nat.le_trans y569 K570.1) E573.1)) Aw578 gn573 (rfl : ([] : List Int32).length = 0) (by omega) oc0) hZ (ow hw 122 rfl) (ow hw 2 rfl) (by decide) (by decide)) (by decide) e573 pd_40 at_148 rfl rfl rfl rfl rfl (by decide) (by decide) fun _ T579 Lc579 X579 hQ579 => ?_
    have le579 := (own_escl c0).2
    have Lq579 : (([] : List Int32) ++ own_esc c0).length = (0 + (own_esc c0).length) := own_la (rfl : ([] : List Int32).length = 0) rfl
    obtain ⟨rfl, N579q, K579, Aq579⟩ := hQ579
    have N579 := Fr.app N570 N579q
    have y580 := (CHv.keep K579 (sfS y577 sf0) (CHv.ext E573 (CHv.keep K570 (sfS (Safe.wr W567 y566 y563 y565) sf0) (CHv.wr W567 y566 y563))))
    have y581 := (CHr.trans y574 (CHr.keep K579 (sfS y577 sf0) (CHv.ext E573 (CHv.keep K570 (sfS (Safe.wr W567 y566 y563 y565) sf0) (CHv.wr W567 y566 y563)))))
    have y582 := (((((((O.ext E560).ext E561).wr W562 gn561).wr W567 gn561).keep K570 (allS gn560 all0)).ext E573).keep K579 (allS gn573 all0))
    have y583 := (Safe.keep K579 (sfS y577 sf0) (CHv.ext E573 (CHv.keep K570 (sfS (Safe.wr W567 y566 y563 y565) sf0) (CHv.wr W567 y566 y563))) y575)
    have y584 := (Safe.keep K579 (sfS y577 sf0) (CHv.ext E573 (CHv.keep K570 (sfS (Safe.wr W567 y566 y563 y565) sf0) (CHv.wr W567 y566 y563))) y576)
    have y585 := (Safe.keep K579 (sfS y577 sf0) (CHv.ext E573 (CHv.keep K570 (sfS (Safe.wr W567 y566 y563 y565) sf0) (CHv.wr W567 y566 y563))) y577)
    show own_Fin p e below _ (T579.setTop (mkF m 151 #[.val (.int p0), .val (.int p1), .val (.int p2), .val (.int p3), .val (.int (2 : Int32)), .val (.int c0), .val (.int c1), .val (.int c2), .val (.ref b560), .val (.ref b573), .val (.int (0 : Int32)), .unset] [(.int (Int32.ofNat (0 + (own_esc c0).length)))]))
    refine o_ist X579 H at_151 (L' := #[.val (.int p0), .val (.int p1), .val (.int p2), .val (.int p3), .val (.int (2 : Int32)), .val (.int c0), .val (.int c1), .val (.int c2), .val (.ref b560), .val (.ref b573), .val (.int (Int32.ofNat (0 + (own_esc c0).length))), .unset]) rfl ?_
    refine o_ild X579 H at_153 rfl ?_
    refine o_ic X579 H at_155 (v := 2) rfl ?_
    refine o_icN X579 H at_156 (flt (by decide : ¬ ((2 : Int32) < (2 : Int32)))).1 ?_
    refine o_ald X579 H at_159 rfl rfl ?_
    refine o_ild X579 H at_161 rfl ?_
    refine o_ild X579 H at_163 rfl ?_
    refine o_tc (argsL := [(.ref b573), (.int (Int32.ofNat (0 + (own_esc c0).length))), (.int c1)]) (rest := []) X579 H hml hZ hown (ow hw 120 rfl) (ow hw 121 rfl) (ow hw 2 rfl) (ow hw 122 rfl) (backOf (W := 0) (rm22 l Z a0 hw [] b573 c1 k573 (([] : List Int32) ++ own_esc c0) (0 + (own_esc c0).length) T579.heap n0 (by exact (Nat.le_trans (Nat.le_trans (Nat.le_trans y569 K570.1) E573.1) K579.1)) Aq579 gn573 Lq579 (by omega) oc1) hZ (ow hw 122 rfl) (ow hw 2 rfl) (by decide) (by decide)) (by decide) rfl pd_40 at_165 rfl rfl rfl rfl rfl (by decide) (by decide) fun _ T586 Lc586 X586 hQ586 => ?_
    have le586 := (own_escl c1).2
    have Lq586 : ((([] : List Int32) ++ own_esc c0) ++ own_esc c1).length = ((0 + (own_esc c0).length) + (own_esc c1).length) := own_la Lq579 rfl
    obtain ⟨rfl, N586q, K586, Aq586⟩ := hQ586
    have N586 := Fr.app N579 N586q
    have y587 := ((((Vc571.keep K570 (ninS (Ne.symm ne561_b560) nin0)).ext E573).keep K579 (ninS ne573_b561 nin0)).keep K586 (ninS ne573_b561 nin0))
    show own_Fin p e below _ (T586.setTop (mkF m 168 #[.val (.int p0), .val (.int p1), .val (.int p2), .val (.int p3), .val (.int (2 : Int32)), .val (.int c0), .val (.int c1), .val (.int c2), .val (.ref b560), .val (.ref b573), .val (.int (Int32.ofNat (0 + (own_esc c0).length))), .unset] [(.int (Int32.ofNat ((0 + (own_esc c0).length) + (own_esc c1).length)))]))
    refine o_ist X586 H at_168 (L' := #[.val (.int p0), .val (.int p1), .val (.int p2), .val (.int p3), .val (.int (2 : Int32)), .val (.int c0), .val (.int c1), .val (.int c2), .val (.ref b560), .val (.ref b573), .val (.int (Int32.ofNat ((0 + (own_esc c0).length) + (own_esc c1).length))), .unset]) rfl ?_
    refine o_ild X586 H at_170 rfl ?_
    refine o_ic X586 H at_172 (v := 3) rfl ?_
    refine o_icY X586 H at_173 (tlt (by decide : (2 : Int32) < (3 : Int32))).1 (pc' := 187) (by decide) (by decide) ?_
    have he588 : (own_escs [c0, c1]) = ((([] : List Int32) ++ own_esc c0) ++ own_esc c1) := by simp [own_escs]
    have hl588 : (own_escs [c0, c1]).length = ((0 + (own_esc c0).length) + (own_esc c1).length) := by rw [he588]; exact Lq586
    have Aw588 : Arv Z T586.heap b573 k573 .char (18 : Int32) ((own_escs [c0, c1]).map Value.int) (.int 0) := by rw [he588]; exact Aq586
    exact PT _ b560 x570 b573 kx570 k573 ([c0, c1]) co570 nx570 vs570 2 ((0 + (own_esc c0).length) + (own_esc c1).length) cod570 rl571 (rfl : ([c0, c1] : List Int32).length = 2) (by decide) hl588 (by omega) gn573 T586 _ _ _ _ (X586.more (by decide) (by decide)) rfl N586 hS0 hZ hown (CHv.keep K586 (sfS y585 sf0) y580) (CHr.trans y581 (CHr.keep K586 (sfS y585 sf0) y580)) (Nat.le_trans (Nat.le_trans (Nat.le_trans (Nat.le_trans y568 K570.1) E573.1) K579.1) K586.1) (Nat.le_trans (Nat.le_trans (Nat.le_trans (Nat.le_trans y569 K570.1) E573.1) K579.1) K586.1) (y582.keep K586 (allS gn573 all0)) (((Eq570.ext E573).keep K579).keep K586) (((Cq570.ext E573).keep K579 (ninS ne573_b560 nin0)).keep K586 (ninS ne573_b560 nin0)) (((Vq570.ext E573).keep K579 (ninS ne573_b560 nin0)).keep K586 (ninS ne573_b560 nin0)) (((Aq570.ext E573).keep K579 (ninS ne573_x570 nin0)).keep K586 (ninS ne573_x570 nin0)) Aw588
  · rw [hn]
    show own_Fin p e below _ (T509.setTop (mkF m 23 #[.val (.int p0), .val (.int p1), .val (.int p2), .val (.int p3), .val (.int (3 : Int32)), .val (.int c0), .val (.int c1), .val (.int c2), .unset, .unset, .unset, .unset] []))
    refine o_ild X509 H at_23 rfl ?_
    refine o_ifY X509 H at_25 ((if0 _ _).trans (feq (by decide : ¬ ((3 : Int32) = (0 : Int32)))).2) (pc' := 43) (by decide) (by decide) ?_
    refine o_ild X509 H at_43 rfl ?_
    refine o_ic X509 H at_45 (v := 1) rfl ?_
    refine o_icY X509 H at_46 (feq (by decide : ¬ ((3 : Int32) = (1 : Int32)))).2 (pc' := 69) (by decide) (by decide) ?_
    refine o_ild X509 H at_69 rfl ?_
    refine o_ic X509 H at_71 (v := 2) rfl ?_
    refine o_icY X509 H at_72 (feq (by decide : ¬ ((3 : Int32) = (2 : Int32)))).2 (pc' := 100) (by decide) (by decide) ?_
    obtain ⟨T589, h589, X589, e589, E589, A589, D589, -, st589⟩ := newO X509 hx hZ hown (ow hw 5 rfl) (ow hw 6 rfl) (ow hw 7 rfl) e509 (g := (mkF m 100 #[.val (.int p0), .val (.int p1), .val (.int p2), .val (.int p3), .val (.int (3 : Int32)), .val (.int c0), .val (.int c1), .val (.int c2), .unset, .unset, .unset, .unset] [])) rfl (hb hby at_100) (by decide) (by decide)
    obtain ⟨b589, g589⟩ : ∃ z, z = h0.size := ⟨_, rfl⟩
    rw [← g589] at A589 D589 st589
    have gn589 : n0 ≤ b589 := Nat.le_trans Z0 (Nat.le_of_eq g589.symm)
    have F589_value : Fld Z h589 b589 "java/lang/String" "value" "[B" .null := D589 (Or.inr (ow hw 21 rfl)) (ty := (.array .byte)) (by decide)
    have F589_coder : Fld Z h589 b589 "java/lang/String" "coder" "B" (.int (0 : Int32)) := D589 (Or.inr (ow hw 22 rfl)) (ty := .byte) (by decide)
    refine own_on st589 ?_
    show own_Fin p e below _ (T589.setTop (mkF m 103 #[.val (.int p0), .val (.int p1), .val (.int p2), .val (.int p3), .val (.int (3 : Int32)), .val (.int c0), .val (.int c1), .val (.int c2), .unset, .unset, .unset, .unset] [(.ref b589)]))
    refine o_dup X589 H at_103 rfl ?_
    refine o_ic X589 H at_104 (v := 3) rfl ?_
    obtain ⟨T590, h590, k590, X590, e590, E590, A590, st590⟩ := newP X589 hx hZ (ow hw 8 rfl) e589 (g := (mkF m 105 #[.val (.int p0), .val (.int p1), .val (.int p2), .val (.int p3), .val (.int (3 : Int32)), .val (.int c0), .val (.int c1), .val (.int c2), .unset, .unset, .unset, .unset] [(.int (3 : Int32)), (.ref b589), (.ref b589)])) rfl (hb hby at_105) rfl (by decide) (cap := 3) (by decide) (by decide) (by decide) (by decide)
    obtain ⟨b590, g590⟩ : ∃ z, z = h589.size := ⟨_, rfl⟩
    rw [← g590] at A590 st590
    have ne590_b589 : b589 ≠ b590 := own_ne_of (Z := Z) A589.lt g590
    have gn590 : n0 ≤ b590 := Nat.le_trans (Nat.le_trans Z0 E589.1) (Nat.le_of_eq g590.symm)
    have V590 : Arv Z h590 b590 k590 .char (3 : Int32) [(.int (0 : Int32)), (.int (0 : Int32)), (.int (0 : Int32))] (.int (0 : Int32)) := (Arv.new A590 (by decide)).pad (pad_rep [] (.int (0 : Int32)) 3)
    refine own_on st590 ?_
    show own_Fin p e below _ (T590.setTop (mkF m 107 #[.val (.int p0), .val (.int p1), .val (.int p2), .val (.int p3), .val (.int (3 : Int32)), .val (.int c0), .val (.int c1), .val (.int c2), .unset, .unset, .unset, .unset] [(.ref b590), (.ref b589), (.ref b589)]))
    refine o_dup X590 H at_107 rfl ?_
    refine o_ic X590 H at_108 (v := 0) rfl ?_
    refine o_ild X590 H at_109 rfl ?_
    have cp591 := V590
    obtain ⟨cl591, Ar591, q591, S591, G591, H591, F591⟩ := cp591
    have hin591 : ¬ ((0 : Int32) < 0 ∨ cl591.slots.size ≤ ((0 : Int32)).toNatClampNeg) := inb_of S591 ⟨by decide, by decide⟩
    obtain ⟨T591, h591, X591, e591, W591, st591⟩ := stC X590 hx hZ e590 Ar591 (j := (0 : Int32)) hin591 (g := (mkF m 111 #[.val (.int p0), .val (.int p1), .val (.int p2), .val (.int p3), .val (.int (3 : Int32)), .val (.int c0), .val (.int c1), .val (.int c2), .unset, .unset, .unset, .unset] [(.int c0), (.int (0 : Int32)), (.ref b590), (.ref b590), (.ref b589), (.ref b589)])) rfl rfl (hb hby at_111)
    have V591 : Arv Z h591 b590 k590 .char (3 : Int32) [(.int (nar .char c0)), (.int (0 : Int32)), (.int (0 : Int32))] (.int (0 : Int32)) := Arv.set Ar591 q591 S591 G591 H591 F591 (fits_nar_char _) W591 0 rfl (Nat.le_of_ble_eq_true rfl)
    have N591 := Fr.snoc X591 N509 gn590
    have y592 := (CHv.wr W591 (Safe.ext E590 (CHv.ext E589 CH0) (Safe.new (Nat.le_of_eq g590.symm))) (CHv.ext E590 (CHv.ext E589 CH0)))
    have y593 := (CHr.trans (CHr.trans (CHr.trans (CHr.refl CH0) (CHr.ext E589 CH0)) (CHr.ext E590 (CHv.ext E589 CH0))) (CHr.wr W591 (Safe.ext E590 (CHv.ext E589 CH0) (Safe.new (Nat.le_of_eq g590.symm))) (CHv.ext E590 (CHv.ext E589 CH0))))
    have y594 := (Safe.wr W591 (Safe.ext E590 (CHv.ext E589 CH0) (Safe.new (Nat.le_of_eq g590.symm))) (CHv.ext E590 (CHv.ext E589 CH0)) (Safe.ext E590 (CHv.ext E589 CH0) (Safe.ext E589 CH0 (Safe.new (Nat.le_of_eq g589.symm)))))
    have y595 := (Safe.wr W591 (Safe.ext E590 (CHv.ext E589 CH0) (Safe.new (Nat.le_of_eq g590.symm))) (CHv.ext E590 (CHv.ext E589 CH0)) (Safe.ext E590 (CHv.ext E589 CH0) (Safe.new (Nat.le_of_eq g590.symm))))
    refine own_on st591 ?_
    show own_Fin p e below _ (T591.setTop (mkF m 112 #[.val (.int p0), .val (.int p1), .val (.int p2), .val (.int p3), .val (.int (3 : Int32)), .val (.int c0), .val (.int c1), .val (.int c2), .unset, .unset, .unset, .unset] [(.ref b590), (.ref b589), (.ref b589)]))
    refine o_dup X591 H at_112 rfl ?_
    refine o_ic X591 H at_113 (v := 1) rfl ?_
    refine o_ild X591 H at_114 rfl ?_
    have cp596 := V591
    obtain ⟨cl596, Ar596, q596, S596, G596, H596, F596⟩ := cp596
    have hin596 : ¬ ((1 : Int32) < 0 ∨ cl596.slots.size ≤ ((1 : Int32)).toNatClampNeg) := inb_of S596 ⟨by decide, by decide⟩
    obtain ⟨T596, h596, X596, e596, W596, st596⟩ := stC X591 hx hZ e591 Ar596 (j := (1 : Int32)) hin596 (g := (mkF m 116 #[.val (.int p0), .val (.int p1), .val (.int p2), .val (.int p3), .val (.int (3 : Int32)), .val (.int c0), .val (.int c1), .val (.int c2), .unset, .unset, .unset, .unset] [(.int c1), (.int (1 : Int32)), (.ref b590), (.ref b590), (.ref b589), (.ref b589)])) rfl rfl (hb hby at_116)
    have V596 : Arv Z h596 b590 k590 .char (3 : Int32) [(.int (nar .char c0)), (.int (nar .char c1)), (.int (0 : Int32))] (.int (0 : Int32)) := Arv.set Ar596 q596 S596 G596 H596 F596 (fits_nar_char _) W596 1 rfl (Nat.le_of_ble_eq_true rfl)
    have N596 := Fr.snoc X596 N591 gn590
    have y597 := (Nat.le_trans (Nat.le_trans (Nat.le_trans (Nat.le_trans (Nat.zero_le _) E589.1) E590.1) (Keep.of_wr W591).1) (Keep.of_wr W596).1)
    have y598 := (Nat.le_trans (Nat.le_trans (Nat.le_trans (Nat.le_trans Z0 E589.1) E590.1) (Keep.of_wr W591).1) (Keep.of_wr W596).1)
    refine own_on st596 ?_
    show own_Fin p e below _ (T596.setTop (mkF m 117 #[.val (.int p0), .val (.int p1), .val (.int p2), .val (.int p3), .val (.int (3 : Int32)), .val (.int c0), .val (.int c1), .val (.int c2), .unset, .unset, .unset, .unset] [(.ref b590), (.ref b589), (.ref b589)]))
    refine o_dup X596 H at_117 rfl ?_
    refine o_ic X596 H at_118 (v := 2) rfl ?_
    refine o_ild X596 H at_119 rfl ?_
    have cp599 := V596
    obtain ⟨cl599, Ar599, q599, S599, G599, H599, F599⟩ := cp599
    have hin599 : ¬ ((2 : Int32) < 0 ∨ cl599.slots.size ≤ ((2 : Int32)).toNatClampNeg) := inb_of S599 ⟨by decide, by decide⟩
    obtain ⟨T599, h599, X599, e599, W599, st599⟩ := stC X596 hx hZ e596 Ar599 (j := (2 : Int32)) hin599 (g := (mkF m 121 #[.val (.int p0), .val (.int p1), .val (.int p2), .val (.int p3), .val (.int (3 : Int32)), .val (.int c0), .val (.int c1), .val (.int c2), .unset, .unset, .unset, .unset] [(.int c2), (.int (2 : Int32)), (.ref b590), (.ref b590), (.ref b589), (.ref b589)])) rfl rfl (hb hby at_121)
    have V599 : Arv Z h599 b590 k590 .char (3 : Int32) [(.int (nar .char c0)), (.int (nar .char c1)), (.int (nar .char c2))] (.int (0 : Int32)) := Arv.set Ar599 q599 S599 G599 H599 F599 (fits_nar_char _) W599 2 rfl (Nat.le_of_ble_eq_true rfl)
    have N599 := Fr.snoc X599 N596 gn590
    have y600 := (CHr.trans (CHr.trans y593 (CHr.wr W596 y595 y592)) (CHr.wr W599 (Safe.wr W596 y595 y592 y595) (CHv.wr W596 y595 y592)))
    have y601 := ((((F589_value.ext E590).other W591 (Or.inl ne590_b589)).other W596 (Or.inl ne590_b589)).other W599 (Or.inl ne590_b589))
    have y602 := ((((F589_coder.ext E590).other W591 (Or.inl ne590_b589)).other W596 (Or.inl ne590_b589)).other W599 (Or.inl ne590_b589))
    refine own_on st599 ?_
    show own_Fin p e below _ (T599.setTop (mkF m 122 #[.val (.int p0), .val (.int p1), .val (.int p2), .val (.int p3), .val (.int (3 : Int32)), .val (.int c0), .val (.int c1), .val (.int c2), .unset, .unset, .unset, .unset] [(.ref b590), (.ref b589), (.ref b589)]))
    have Vc604 : Arv Z h599 b590 k590 .char (3 : Int32) [(.int c0), (.int c1), (.int c2)] (.int 0) := by have q := V599; simp only [own_nar16 oc0, own_nar16 oc1, own_nar16 oc2] at q; exact q
    have rl604 : ∀ c ∈ [c0, c1, c2], ¬ c < 0 ∧ ¬ (65535 : Int32) < c := List.forall_mem_cons.mpr ⟨oc0, List.forall_mem_cons.mpr ⟨oc1, List.forall_mem_cons.mpr ⟨oc2, fun _ q => nomatch q⟩⟩⟩
    refine o_sc (b := b589) (argsL := [(.ref b590)]) (rest := [(.ref b589)]) X599 H hml hZ hown (ow hw 9 rfl) (ow hw 10 rfl) (ow hw 11 rfl) (backOf (W := 1) (rmN1_3 l Z a0 hw [] b589 b590 k590 c0 c1 c2 z fm h599 n0 (by exact (Nat.le_trans y598 (Keep.of_wr W599).1)) ⟨hz, (((((O.ext E589).ext E590).wr W591 gn590).wr W596 gn590).wr W599 gn590), SC, SA, SH, SL, SF, hfm⟩ ((((A589.ext E590).wr W591).wr W596).wr W599) y601 y602 gn589 (Ne.symm ne590_b589) Vc604 rl604) hZ (ow hw 11 rfl) (ow hw 7 rfl) (by decide) (by decide)) rfl (by decide) e599 pd_39 at_122 rfl rfl rfl rfl rfl (by decide) (by decide) fun _ T603 Lc603 X603 hQ603 => ?_
    obtain ⟨x603, kx603, co603, nx603, vs603, rfl, N603q, K603, cod603, Eq603, Cq603, Vq603, Aq603⟩ := hQ603
    have N603 := Fr.app N599 N603q
    have y605 := (CHv.keep K603 (sfS (Safe.wr W599 (Safe.wr W596 y595 y592 y595) (CHv.wr W596 y595 y592) (Safe.wr W596 y595 y592 y594)) sf0) (CHv.wr W599 (Safe.wr W596 y595 y592 y595) (CHv.wr W596 y595 y592)))
    have y606 := (CHr.trans y600 (CHr.keep K603 (sfS (Safe.wr W599 (Safe.wr W596 y595 y592 y595) (CHv.wr W596 y595 y592) (Safe.wr W596 y595 y592 y594)) sf0) (CHv.wr W599 (Safe.wr W596 y595 y592 y595) (CHv.wr W596 y595 y592))))
    have y607 := (Safe.keep K603 (sfS (Safe.wr W599 (Safe.wr W596 y595 y592 y595) (CHv.wr W596 y595 y592) (Safe.wr W596 y595 y592 y594)) sf0) (CHv.wr W599 (Safe.wr W596 y595 y592 y595) (CHv.wr W596 y595 y592)) (Safe.wr W599 (Safe.wr W596 y595 y592 y595) (CHv.wr W596 y595 y592) (Safe.wr W596 y595 y592 y594)))
    have y608 := (Safe.keep K603 (sfS (Safe.wr W599 (Safe.wr W596 y595 y592 y595) (CHv.wr W596 y595 y592) (Safe.wr W596 y595 y592 y594)) sf0) (CHv.wr W599 (Safe.wr W596 y595 y592 y595) (CHv.wr W596 y595 y592)) (Safe.wr W599 (Safe.wr W596 y595 y592 y595) (CHv.wr W596 y595 y592) (Safe.wr W596 y595 y592 y595)))
    show own_Fin p e below _ (T603.setTop (mkF m 125 #[.val (.int p0), .val (.int p1), .val (.int p2), .val (.int p3), .val (.int (3 : Int32)), .val (.int c0), .val (.int c1), .val (.int c2), .unset, .unset, .unset, .unset] [(.ref b589)]))
    refine o_ast X603 H at_125 (L' := #[.val (.int p0), .val (.int p1), .val (.int p2), .val (.int p3), .val (.int (3 : Int32)), .val (.int c0), .val (.int c1), .val (.int c2), .val (.ref b589), .unset, .unset, .unset]) rfl rfl ?_
    refine o_bi X603 H at_127 (v := 18) rfl ?_
    obtain ⟨T609, h609, k609, X609, e609, E609, A609, st609⟩ := newP X603 hx hZ (ow hw 8 rfl) rfl (g := (mkF m 129 #[.val (.int p0), .val (.int p1), .val (.int p2), .val (.int p3), .val (.int (3 : Int32)), .val (.int c0), .val (.int c1), .val (.int c2), .val (.ref b589), .unset, .unset, .unset] [(.int (18 : Int32))])) rfl (hb hby at_129) rfl (by decide) (cap := 18) (by decide) (by decide) (by decide) (by decide)
    obtain ⟨b609, g609⟩ : ∃ z, z = T603.heap.size := ⟨_, rfl⟩
    rw [← g609] at A609 st609
    have ne609_b589 : b589 ≠ b609 := own_ne_of (Z := Z) Eq603.lt g609
    have ne609_b590 : b590 ≠ b609 := own_ne_of (Z := Z) (Vc604.keep K603 (ninS (Ne.symm ne590_b589) nin0)).lt g609
    have ne609_x603 : x603 ≠ b609 := own_ne_of (Z := Z) Aq603.lt g609
    have y610 := (((((((O.ext E589).ext E590).wr W591 gn590).wr W596 gn590).wr W599 gn590).keep K603 (allS gn589 all0)).ext E609)
    have gn609 : n0 ≤ b609 := Nat.le_trans (Nat.le_trans (Nat.le_trans y598 (Keep.of_wr W599).1) K603.1) (Nat.le_of_eq g609.symm)
    have V609 : Arv Z h609 b609 k609 .char (18 : Int32) [(.int (0 : Int32)), (.int (0 : Int32)), (.int (0 : Int32)), (.int (0 : Int32)), (.int (0 : Int32)), (.int (0 : Int32)), (.int (0 : Int32)), (.int (0 : Int32)), (.int (0 : Int32)), (.int (0 : Int32)), (.int (0 : Int32)), (.int (0 : Int32)), (.int (0 : Int32)), (.int (0 : Int32)), (.int (0 : Int32)), (.int (0 : Int32)), (.int (0 : Int32)), (.int (0 : Int32))] (.int (0 : Int32)) := (Arv.new A609 (by decide)).pad (pad_rep [] (.int (0 : Int32)) 18)
    refine own_on st609 ?_
    show own_Fin p e below _ (T609.setTop (mkF m 131 #[.val (.int p0), .val (.int p1), .val (.int p2), .val (.int p3), .val (.int (3 : Int32)), .val (.int c0), .val (.int c1), .val (.int c2), .val (.ref b589), .unset, .unset, .unset] [(.ref b609)]))
    have Aw611 : Arv Z h609 b609 k609 .char (18 : Int32) (([] : List Int32).map Value.int) (.int 0) := V609.pad (fun i => (pad_rep [] (.int 0) 18 i).symm)
    refine o_ast X609 H at_131 (L' := #[.val (.int p0), .val (.int p1), .val (.int p2), .val (.int p3), .val (.int (3 : Int32)), .val (.int c0), .val (.int c1), .val (.int c2), .val (.ref b589), .val (.ref b609), .unset, .unset]) rfl rfl ?_
    refine o_ic X609 H at_133 (v := 0) rfl ?_
    refine o_ist X609 H at_134 (L' := #[.val (.int p0), .val (.int p1), .val (.int p2), .val (.int p3), .val (.int (3 : Int32)), .val (.int c0), .val (.int c1), .val (.int c2), .val (.ref b589), .val (.ref b609), .val (.int (0 : Int32)), .unset]) rfl ?_
    refine o_ild X609 H at_136 rfl ?_
    refine o_ic X609 H at_138 (v := 1) rfl ?_
    refine o_icN X609 H at_139 (flt (by decide : ¬ ((3 : Int32) < (1 : Int32)))).1 ?_
    refine o_ald X609 H at_142 rfl rfl ?_
    refine o_ild X609 H at_144 rfl ?_
    refine o_ild X609 H at_146 rfl ?_
    refine o_tc (argsL := [(.ref b609), (.int (0 : Int32)), (.int c0)]) (rest := []) X609 H hml hZ hown (ow hw 120 rfl) (ow hw 121 rfl) (ow hw 2 rfl) (ow hw 122 rfl) (backOf (W := 0) (rm22 l Z a0 hw [] b609 c0 k609 ([] : List Int32) 0 h609 n0 (by exact (Nat.le_trans (Nat.le_trans (Nat.le_trans y598 (Keep.of_wr W599).1) K603.1) E609.1)) Aw611 gn609 (rfl : ([] : List Int32).length = 0) (by omega) oc0) hZ (ow hw 122 rfl) (ow hw 2 rfl) (by decide) (by decide)) (by decide) e609 pd_40 at_148 rfl rfl rfl rfl rfl (by decide) (by decide) fun _ T612 Lc612 X612 hQ612 => ?_
    have le612 := (own_escl c0).2
    have Lq612 : (([] : List Int32) ++ own_esc c0).length = (0 + (own_esc c0).length) := own_la (rfl : ([] : List Int32).length = 0) rfl
    obtain ⟨rfl, N612q, K612, Aq612⟩ := hQ612
    have N612 := Fr.app N603 N612q
    have y613 := (CHr.trans (CHr.trans y606 (CHr.ext E609 y605)) (CHr.keep K612 (sfS (Safe.ext E609 y605 (Safe.new (Nat.le_of_eq g609.symm))) sf0) (CHv.ext E609 y605)))
    have y614 := (Safe.keep K612 (sfS (Safe.ext E609 y605 (Safe.new (Nat.le_of_eq g609.symm))) sf0) (CHv.ext E609 y605) (Safe.ext E609 y605 y607))
    have y615 := (Safe.keep K612 (sfS (Safe.ext E609 y605 (Safe.new (Nat.le_of_eq g609.symm))) sf0) (CHv.ext E609 y605) (Safe.ext E609 y605 y608))
    have y616 := (Safe.keep K612 (sfS (Safe.ext E609 y605 (Safe.new (Nat.le_of_eq g609.symm))) sf0) (CHv.ext E609 y605) (Safe.ext E609 y605 (Safe.new (Nat.le_of_eq g609.symm))))
    show own_Fin p e below _ (T612.setTop (mkF m 151 #[.val (.int p0), .val (.int p1), .val (.int p2), .val (.int p3), .val (.int (3 : Int32)), .val (.int c0), .val (.int c1), .val (.int c2), .val (.ref b589), .val (.ref b609), .val (.int (0 : Int32)), .unset] [(.int (Int32.ofNat (0 + (own_esc c0).length)))]))
    refine o_ist X612 H at_151 (L' := #[.val (.int p0), .val (.int p1), .val (.int p2), .val (.int p3), .val (.int (3 : Int32)), .val (.int c0), .val (.int c1), .val (.int c2), .val (.ref b589), .val (.ref b609), .val (.int (Int32.ofNat (0 + (own_esc c0).length))), .unset]) rfl ?_
    refine o_ild X612 H at_153 rfl ?_
    refine o_ic X612 H at_155 (v := 2) rfl ?_
    refine o_icN X612 H at_156 (flt (by decide : ¬ ((3 : Int32) < (2 : Int32)))).1 ?_
    refine o_ald X612 H at_159 rfl rfl ?_
    refine o_ild X612 H at_161 rfl ?_
    refine o_ild X612 H at_163 rfl ?_
    refine o_tc (argsL := [(.ref b609), (.int (Int32.ofNat (0 + (own_esc c0).length))), (.int c1)]) (rest := []) X612 H hml hZ hown (ow hw 120 rfl) (ow hw 121 rfl) (ow hw 2 rfl) (ow hw 122 rfl) (backOf (W := 0) (rm22 l Z a0 hw [] b609 c1 k609 (([] : List Int32) ++ own_esc c0) (0 + (own_esc c0).length) T612.heap n0 (by exact (Nat.le_trans (Nat.le_trans (Nat.le_trans (Nat.le_trans y598 (Keep.of_wr W599).1) K603.1) E609.1) K612.1)) Aq612 gn609 Lq612 (by omega) oc1) hZ (ow hw 122 rfl) (ow hw 2 rfl) (by decide) (by decide)) (by decide) rfl pd_40 at_165 rfl rfl rfl rfl rfl (by decide) (by decide) fun _ T617 Lc617 X617 hQ617 => ?_
    have le617 := (own_escl c1).2
    have Lq617 : ((([] : List Int32) ++ own_esc c0) ++ own_esc c1).length = ((0 + (own_esc c0).length) + (own_esc c1).length) := own_la Lq612 rfl
    obtain ⟨rfl, N617q, K617, Aq617⟩ := hQ617
    have N617 := Fr.app N612 N617q
    have y618 := (CHv.keep K617 (sfS y616 sf0) (CHv.keep K612 (sfS (Safe.ext E609 y605 (Safe.new (Nat.le_of_eq g609.symm))) sf0) (CHv.ext E609 y605)))
    have y619 := (CHr.trans y613 (CHr.keep K617 (sfS y616 sf0) (CHv.keep K612 (sfS (Safe.ext E609 y605 (Safe.new (Nat.le_of_eq g609.symm))) sf0) (CHv.ext E609 y605))))
    have y620 := (Nat.le_trans (Nat.le_trans (Nat.le_trans (Nat.le_trans (Nat.le_trans y597 (Keep.of_wr W599).1) K603.1) E609.1) K612.1) K617.1)
    have y621 := (Nat.le_trans (Nat.le_trans (Nat.le_trans (Nat.le_trans (Nat.le_trans y598 (Keep.of_wr W599).1) K603.1) E609.1) K612.1) K617.1)
    have y622 := (Safe.keep K617 (sfS y616 sf0) (CHv.keep K612 (sfS (Safe.ext E609 y605 (Safe.new (Nat.le_of_eq g609.symm))) sf0) (CHv.ext E609 y605)) y614)
    have y623 := (Safe.keep K617 (sfS y616 sf0) (CHv.keep K612 (sfS (Safe.ext E609 y605 (Safe.new (Nat.le_of_eq g609.symm))) sf0) (CHv.ext E609 y605)) y615)
    have y624 := ((((Vc604.keep K603 (ninS (Ne.symm ne590_b589) nin0)).ext E609).keep K612 (ninS ne609_b590 nin0)).keep K617 (ninS ne609_b590 nin0))
    have y625 := (Safe.keep K617 (sfS y616 sf0) (CHv.keep K612 (sfS (Safe.ext E609 y605 (Safe.new (Nat.le_of_eq g609.symm))) sf0) (CHv.ext E609 y605)) y616)
    show own_Fin p e below _ (T617.setTop (mkF m 168 #[.val (.int p0), .val (.int p1), .val (.int p2), .val (.int p3), .val (.int (3 : Int32)), .val (.int c0), .val (.int c1), .val (.int c2), .val (.ref b589), .val (.ref b609), .val (.int (Int32.ofNat (0 + (own_esc c0).length))), .unset] [(.int (Int32.ofNat ((0 + (own_esc c0).length) + (own_esc c1).length)))]))
    refine o_ist X617 H at_168 (L' := #[.val (.int p0), .val (.int p1), .val (.int p2), .val (.int p3), .val (.int (3 : Int32)), .val (.int c0), .val (.int c1), .val (.int c2), .val (.ref b589), .val (.ref b609), .val (.int (Int32.ofNat ((0 + (own_esc c0).length) + (own_esc c1).length))), .unset]) rfl ?_
    refine o_ild X617 H at_170 rfl ?_
    refine o_ic X617 H at_172 (v := 3) rfl ?_
    refine o_icN X617 H at_173 (flt (by decide : ¬ ((3 : Int32) < (3 : Int32)))).1 ?_
    refine o_ald X617 H at_176 rfl rfl ?_
    refine o_ild X617 H at_178 rfl ?_
    refine o_ild X617 H at_180 rfl ?_
    refine o_tc (argsL := [(.ref b609), (.int (Int32.ofNat ((0 + (own_esc c0).length) + (own_esc c1).length))), (.int c2)]) (rest := []) X617 H hml hZ hown (ow hw 120 rfl) (ow hw 121 rfl) (ow hw 2 rfl) (ow hw 122 rfl) (backOf (W := 0) (rm22 l Z a0 hw [] b609 c2 k609 ((([] : List Int32) ++ own_esc c0) ++ own_esc c1) ((0 + (own_esc c0).length) + (own_esc c1).length) T617.heap n0 (by exact y621) Aq617 gn609 Lq617 (by omega) oc2) hZ (ow hw 122 rfl) (ow hw 2 rfl) (by decide) (by decide)) (by decide) rfl pd_40 at_182 rfl rfl rfl rfl rfl (by decide) (by decide) fun _ T626 Lc626 X626 hQ626 => ?_
    have le626 := (own_escl c2).2
    have Lq626 : (((([] : List Int32) ++ own_esc c0) ++ own_esc c1) ++ own_esc c2).length = (((0 + (own_esc c0).length) + (own_esc c1).length) + (own_esc c2).length) := own_la Lq617 rfl
    obtain ⟨rfl, N626q, K626, Aq626⟩ := hQ626
    have N626 := Fr.app N617 N626q
    have y627 := ((((Cq603.ext E609).keep K612 (ninS ne609_b589 nin0)).keep K617 (ninS ne609_b589 nin0)).keep K626 (ninS ne609_b589 nin0))
    have y628 := ((((Vq603.ext E609).keep K612 (ninS ne609_b589 nin0)).keep K617 (ninS ne609_b589 nin0)).keep K626 (ninS ne609_b589 nin0))
    have y629 := ((((Aq603.ext E609).keep K612 (ninS ne609_x603 nin0)).keep K617 (ninS ne609_x603 nin0)).keep K626 (ninS ne609_x603 nin0))
    show own_Fin p e below _ (T626.setTop (mkF m 185 #[.val (.int p0), .val (.int p1), .val (.int p2), .val (.int p3), .val (.int (3 : Int32)), .val (.int c0), .val (.int c1), .val (.int c2), .val (.ref b589), .val (.ref b609), .val (.int (Int32.ofNat ((0 + (own_esc c0).length) + (own_esc c1).length))), .unset] [(.int (Int32.ofNat (((0 + (own_esc c0).length) + (own_esc c1).length) + (own_esc c2).length)))]))
    refine o_ist X626 H at_185 (L' := #[.val (.int p0), .val (.int p1), .val (.int p2), .val (.int p3), .val (.int (3 : Int32)), .val (.int c0), .val (.int c1), .val (.int c2), .val (.ref b589), .val (.ref b609), .val (.int (Int32.ofNat (((0 + (own_esc c0).length) + (own_esc c1).length) + (own_esc c2).length))), .unset]) rfl ?_
    have he630 : (own_escs [c0, c1, c2]) = (((([] : List Int32) ++ own_esc c0) ++ own_esc c1) ++ own_esc c2) := by simp [own_escs]
    have hl630 : (own_escs [c0, c1, c2]).length = (((0 + (own_esc c0).length) + (own_esc c1).length) + (own_esc c2).length) := by rw [he630]; exact Lq626
    have Aw630 : Arv Z T626.heap b609 k609 .char (18 : Int32) ((own_escs [c0, c1, c2]).map Value.int) (.int 0) := by rw [he630]; exact Aq626
    exact PT _ b589 x603 b609 kx603 k609 ([c0, c1, c2]) co603 nx603 vs603 3 (((0 + (own_esc c0).length) + (own_esc c1).length) + (own_esc c2).length) cod603 rl604 (rfl : ([c0, c1, c2] : List Int32).length = 3) (by decide) hl630 (by omega) gn609 T626 _ _ _ _ (X626.more (by decide) (by decide)) rfl N626 hS0 hZ hown (CHv.keep K626 (sfS y625 sf0) y618) (CHr.trans y619 (CHr.keep K626 (sfS y625 sf0) y618)) (Nat.le_trans y620 K626.1) (Nat.le_trans y621 K626.1) (((y610.keep K612 (allS gn609 all0)).keep K617 (allS gn609 all0)).keep K626 (allS gn609 all0)) ((((Eq603.ext E609).keep K612).keep K617).keep K626) y627 y628 y629 Aw630
set_option maxRecDepth 65536 in
set_option maxHeartbeats 40000000 in
theorem comes_1 {Post : Tables → Env → Array Value → State → Outcome → State → Prop} (hpost : ∀ tb e args s v u, (limb_1_1.after args s (.returned v) u = true ∧ limb_1_2.after args s (.returned v) u = true ∧ True) → ReturnedEndW s (.returned v) u (Jvm.fieldLocs frame_1_writes args s ++ Jvm.arrayLocs frame_1_arrays args s ++ Jvm.staticLocs frame_1_statics s) 48 6528 → Post tb e args s (.returned v) u) :
    ArmFor flags0 classFile x code maxLocals ret World_1 tables_1 room_1 Calls_1 rest_1 Pre_1 Post := by
  intro l hfl _ _ p e ha hc hk s m args below hf hA hF happ hP
  obtain ⟨hcalls, hrest, hpre⟩ := hP
  obtain ⟨-, -, -, hnamed, -, -, -, hat⟩ := (Spec.applies_iff hf).mp happ
  obtain ⟨hg, hn⟩ := and_e (Cond.before_iff.mp (show (Jvm.Cond.and given_1 narrow_1).before args s = true from hpre))
  obtain ⟨ga0l, ga0r⟩ := and_e hg
  obtain ⟨ga1l, ga1r⟩ := and_e ga0r
  obtain ⟨ga2l, ga2r⟩ := and_e ga1r
  obtain ⟨ga3l, ga3r⟩ := and_e ga2r
  obtain ⟨w0, w1, w2, w3, rfl⟩ : ∃ w0 w1 w2 w3 : Value, args = #[w0, w1, w2, w3] := by
    have hs : args.size = 4 := by simpa [Cond.value, given_1] using ga0l
    obtain ⟨L⟩ := args
    match L, hs with
    | [w0, w1, w2, w3], _ => exact ⟨w0, w1, w2, w3, rfl⟩
  have hw := fun d (hd : d ∈ tables_1) => atoms_spec (ws := Jvm.Cond.code x code maxLocals ret :: tables_1) hat d (List.mem_cons_of_mem _ hd)
  have hfit : Fit s := fun {y c} hc i hi => by
    obtain ⟨ha, rfl⟩ := Array.getElem?_eq_some_iff.mp hc
    have q := List.all_eq_true.mp ((Array.all_eq_true_iff_forall_mem.mp hF) _ (Array.getElem_mem ha)) i (List.mem_range.mpr hi)
    simpa [Array.getElem?_eq_getElem hi] using q
  obtain ⟨hsets, hown0⟩ := atoms_of _ (rest_1_c_eq ▸ (show rest_1_c.before _ s = true from hrest))
  have hr0 := Cond.before_iff.mp hown0
  obtain ⟨i0, ei0⟩ := is_v ga1l
  obtain rfl : w0 = (.int i0) := Option.some.inj ei0
  obtain ⟨i1, ei1⟩ := is_v ga2l
  obtain rfl : w1 = (.int i1) := Option.some.inj ei1
  obtain ⟨i2, ei2⟩ := is_v ga3l
  obtain rfl : w2 = (.int i2) := Option.some.inj ei2
  obtain ⟨i3, ei3⟩ := is_v ga3r
  obtain rfl : w3 = (.int i3) := Option.some.inj ei3
  obtain ⟨z, ez⟩ := is_v (Cond.before_iff.mp (hsets _ (List.mem_of_getElem? (i := 1) rfl)))
  have SC := Sta.start ez (Or.inl (hsets _ (List.mem_of_getElem? (i := 0) rfl)))
  have hz : ¬ z = (0 : Int32) := gotF (Cond.eq_ints ez (Term.int_eval (0))) (not_v (Cond.before_iff.mp (hsets _ (List.mem_of_getElem? (i := 2) rfl))))
  have hcw : Jvm.Lit.compactW.before #[.int i0, .int i1, .int i2, .int i3] s = true := (hsets _ (List.mem_of_getElem? (i := 2) rfl))
  obtain ⟨fm, ef, hfm⟩ := isR_v (Cond.before_iff.mp (hsets _ (List.mem_of_getElem? (i := 8) rfl)))
  have SF := Sta.start ef (Or.inl (hsets _ (List.mem_of_getElem? (i := 7) rfl)))
  have SA := Sta.start (Cond.eq_int (hsets _ (List.mem_of_getElem? (i := 12) rfl)) rfl) (Or.inl (hsets _ (List.mem_of_getElem? (i := 11) rfl)))
  have SH := Sta.start (Cond.eq_int (hsets _ (List.mem_of_getElem? (i := 15) rfl)) rfl) (Or.inl (hsets _ (List.mem_of_getElem? (i := 14) rfl)))
  have SL := Sta.start (Cond.eq_int (hsets _ (List.mem_of_getElem? (i := 18) rfl)) rfl) (Or.inl (hsets _ (List.mem_of_getElem? (i := 17) rfl)))
  have hEL : EW s #[.int i0, .int i1, .int i2, .int i3] own_EL := EW.cons (ow hw 163 rfl) (by decide) (EW.cons (ow hw 280 rfl) (by decide) (EW.cons (ow hw 216 rfl) (by decide) (EW.cons (ow hw 281 rfl) (by decide) (EW.cons (ow hw 282 rfl) (by decide) (EW.cons (ow hw 19 rfl) (by decide) (EW.nil))))))
  obtain ⟨n, o, h1, h2, h3, _, L, rfl, ⟨rfl, N⟩, -, hq⟩ := rm0 l s _ hw tables_1 i0 i1 i2 i3 z fm s.heap s.heap.size (Nat.le_refl _) hEL ⟨hz, Old.start s, SC, SA, SH, SL, SF, hfm⟩ p e ha hc hk s m _ below hf ((Spec.applies_iff_loose hf).mp happ).1 ⟨rfl, State.Warmed39.refl s, rfl, (CHv.start hEL (fun p hp => hcalls.1 p (by simp only [own_EL, List.mem_cons, List.not_mem_nil, or_false] at hp; rcases hp with rfl | rfl | rfl | rfl | rfl | rfl; exact List.mem_of_getElem? (i := 0) rfl; exact List.mem_of_getElem? (i := 1) rfl; exact List.mem_of_getElem? (i := 2) rfl; exact List.mem_of_getElem? (i := 3) rfl; exact List.mem_of_getElem? (i := 4) rfl; exact List.mem_of_getElem? (i := 5) rfl)) hcw (ow hw 20 rfl) (ow hw 6 rfl))⟩ trivial
  refine ⟨n, _, h1, h2, h3, hpost _ _ _ _ _ _ ⟨Cond.after_iff.mpr rfl, Cond.after_iff.mpr (eq_i res_at (Term.int_eval (1)) rfl), trivial⟩ ⟨hq.1, hq.2.1, hq.2.2.1, (hq.2.2.2.sift fun y hy => Or.inr (N y hy)).mono (by decide) (by decide)⟩⟩
theorem main_1_1 : Claimed_1_1 := comes_1 fun _ _ _ _ _ _ h hF => ⟨h.1, hF⟩
theorem main_1_2 : Claimed_1_2 := comes_1 fun _ _ _ _ _ _ h hF => ⟨h.2.1, hF⟩
end Jvm.Pilot.@@N@@
namespace Jvm.Pilot.@@N@@
open Jvm Jvm.ClassFile Sem Op Lib Jvm.Free Jvm.Stand Jvm.Pilot.@@N@@.Jvm.D
/-! MADE BY PROGRAM (witnessworld.py) out of the Statement's table words and the real class files: 26 classes; the members and pool entries that the words name. The judged class is class 1, her method 1. -/
namespace start1
open Jvm.ClassFile
def u (s : String) : CpInfo := .utf8 (stringToUtf16 s)
/-- a pool by its gaps: so many unusable entries, then the entry; so many at the end -/
def gap : Nat → List CpInfo → List CpInfo
  | 0, r => r
  | n + 1, r => .unusable :: gap n r
def poolList (es : List (Nat × CpInfo)) (last : Nat) : List CpInfo := es.foldr (fun e r => gap e.1 (e.2 :: r)) (gap last [])
def pool (es : List (Nat × CpInfo)) (last : Nat) : Array CpInfo := ⟨poolList es last⟩
def fileOf (pool : Array CpInfo) (this : Nat) (attrs : Array Attribute := #[]) (ms : Array MethodInfo := #[]) (fl : Nat := 33) (sup : Nat := 0) (ifs : Array Nat := #[]) (fds : Array FieldInfo := #[]) : ClassFile where
  minorVersion := 0
  majorVersion := 65
  constantPool := pool
  accessFlags := fl
  thisClass := this
  superClass := sup
  interfaces := ifs
  fields := fds
  methods := ms
  attributes := attrs
def plain (name : String) (sup : Option ClassId) : Class where
  name := name
  kind := .ordinary
  loader := none
  accessFlags := 33
  super := sup
  interfaces := #[]
  cf := none
  fields := #[]
  methods := #[]
  instanceTypes := #[]
  staticTypes := #[]
  resolved := #[]
  callSites := []
  init := .initialized
  statics := none
  mirror := none

def pool0 : Array CpInfo := pool [(5, u "<init>"), (0, u "()V"), (1, .class_ 10), (1, u "java/lang/Object"), (85, u "clone"), (0, u "()Ljava/lang/Object;")] 26

def k0c0 : Code := { maxStack := 0, maxLocals := 1, code := object_method_1_code, exceptionTable := #[], attributes := #[] }
def k0m0 : Method := { name := "<init>", desc := "()V", sig := { parameters := [], returnType := none }, accessFlags := 1, code := some k0c0 }
def k0m1 : Method := { name := "clone", desc := "()Ljava/lang/Object;", sig := { parameters := [], returnType := some (.object "java/lang/Object") }, accessFlags := 260, code := none }
/-- java/lang/Object -/
def k0 : Class := { plain "java/lang/Object" none with
  accessFlags := 33
  interfaces := #[]
  cf := some (fileOf pool0 8 #[] #[{ accessFlags := 1, nameIndex := 5, descriptorIndex := 6, attributes := #[] }, { accessFlags := 260, nameIndex := 96, descriptorIndex := 97, attributes := #[] }] 33 0 #[] #[])
  fields := #[]
  methods := #[k0m0, k0m1]
  instanceTypes := #[]
  staticTypes := #[]
  resolved := Array.replicate 124 none
  statics := none }

def pool1 : Array CpInfo := pool [(2, .class_ 4), (1, u "java/lang/Object"), (0, u "<init>"), (0, u "()V"), (0, .methodref 8 9), (0, .class_ 10), (0, .nameAndType 11 12), (0, u "com/example/brasswire/brasswire/page/HtmlEscapePinLaw"), (0, u "draw"), (0, u "(I)C"), (0, .class_ 14), (0, u "java/lang/String"), (0, .methodref 13 16), (0, .nameAndType 5 17), (0, u "([C)V"), (0, .methodref 8 19), (0, .nameAndType 20 21), (0, u "put"), (0, u "([CIC)I"), (0, .methodref 23 24), (0, .class_ 25), (0, .nameAndType 26 27), (0, u "com/example/brasswire/brasswire/page/Html"), (0, u "escape"), (0, u "(Ljava/lang/String;)Ljava/lang/String;"), (0, .methodref 13 29), (0, .nameAndType 30 31), (0, u "length"), (0, u "()I"), (0, .methodref 8 33), (0, .nameAndType 34 35), (0, u "same"), (0, u "(Ljava/lang/String;[CII)Z"), (0, .integer 65536), (0, .integer 65535), (0, .methodref 13 39), (0, .nameAndType 40 12), (0, u "charAt"), (2, u "law"), (0, u "(IIII)Z")] 5

def k1m0 : Method := { name := "<init>", desc := "()V", sig := { parameters := [], returnType := none }, accessFlags := 2, code := none }
def k1c1 : Code := { maxStack := 6, maxLocals := 12, code := code, exceptionTable := #[], attributes := #[] }
def k1m1 : Method := { name := "law", desc := "(IIII)Z", sig := { parameters := [.int, .int, .int, .int], returnType := some .boolean }, accessFlags := 9, code := some k1c1 }
def k1c2 : Code := { maxStack := 2, maxLocals := 2, code := method_3_code, exceptionTable := #[], attributes := #[] }
def k1m2 : Method := { name := "draw", desc := "(I)C", sig := { parameters := [.int], returnType := some .char }, accessFlags := 10, code := some k1c2 }
def k1c3 : Code := { maxStack := 3, maxLocals := 3, code := method_4_code, exceptionTable := #[], attributes := #[] }
def k1m3 : Method := { name := "put", desc := "([CIC)I", sig := { parameters := [(.array .char), .int, .char], returnType := some .int }, accessFlags := 10, code := some k1c3 }
def k1c4 : Code := { maxStack := 3, maxLocals := 4, code := method_5_code, exceptionTable := #[], attributes := #[] }
def k1m4 : Method := { name := "same", desc := "(Ljava/lang/String;[CII)Z", sig := { parameters := [(.object "java/lang/String"), (.array .char), .int, .int], returnType := some .boolean }, accessFlags := 10, code := some k1c4 }
/-- com/example/brasswire/brasswire/page/HtmlEscapePinLaw -/
def k1 : Class := { plain "com/example/brasswire/brasswire/page/HtmlEscapePinLaw" (some 0) with
  accessFlags := 49
  interfaces := #[]
  cf := some (fileOf pool1 8 #[] #[{ accessFlags := 2, nameIndex := 5, descriptorIndex := 6, attributes := #[] }, { accessFlags := 9, nameIndex := 43, descriptorIndex := 44, attributes := #[] }, { accessFlags := 10, nameIndex := 11, descriptorIndex := 12, attributes := #[] }, { accessFlags := 10, nameIndex := 20, descriptorIndex := 21, attributes := #[] }, { accessFlags := 10, nameIndex := 34, descriptorIndex := 35, attributes := #[] }] 49 2 #[] #[])
  fields := #[]
  methods := #[k1m0, k1m1, k1m2, k1m3, k1m4]
  instanceTypes := #[]
  staticTypes := #[]
  resolved := Array.replicate 50 none
  statics := none }

def pool2 : Array CpInfo := pool [(1, .class_ 2), (0, u "java/io/Serializable"), (0, .class_ 4), (0, u "java/lang/Object")] 2

/-- java/io/Serializable -/
def k2 : Class := { plain "java/io/Serializable" (some 0) with
  accessFlags := 1537
  interfaces := #[]
  cf := some (fileOf pool2 1 #[] #[] 1537 3 #[] #[])
  fields := #[]
  methods := #[]
  instanceTypes := #[]
  staticTypes := #[]
  resolved := Array.replicate 7 none
  statics := none }

def pool3 : Array CpInfo := pool [(1, .class_ 2), (0, u "java/lang/Comparable"), (0, .class_ 4), (0, u "java/lang/Object")] 7

/-- java/lang/Comparable -/
def k3 : Class := { plain "java/lang/Comparable" (some 0) with
  accessFlags := 1537
  interfaces := #[]
  cf := some (fileOf pool3 1 #[] #[] 1537 3 #[] #[])
  fields := #[]
  methods := #[]
  instanceTypes := #[]
  staticTypes := #[]
  resolved := Array.replicate 12 none
  statics := none }

def pool4 : Array CpInfo := pool [(2, .class_ 4), (1, u "java/lang/CharSequence"), (42, .class_ 48), (0, u "java/lang/CharSequence$1CodePointIterator"), (10, .class_ 60), (0, u "java/lang/CharSequence$1CharIterator"), (5, .class_ 67), (0, u "java/lang/Object")] 63

/-- java/lang/CharSequence -/
def k4 : Class := { plain "java/lang/CharSequence" (some 0) with
  accessFlags := 1537
  interfaces := #[]
  cf := some (fileOf pool4 2 #[.nestMembers #[47, 59]] #[] 1537 66 #[] #[])
  fields := #[]
  methods := #[]
  instanceTypes := #[]
  staticTypes := #[]
  resolved := Array.replicate 131 none
  statics := none }

def pool5 : Array CpInfo := pool [(1, .class_ 2), (0, u "java/lang/constant/Constable"), (0, .class_ 4), (0, u "java/lang/Object")] 6

/-- java/lang/constant/Constable -/
def k5 : Class := { plain "java/lang/constant/Constable" (some 0) with
  accessFlags := 1537
  interfaces := #[]
  cf := some (fileOf pool5 1 #[] #[] 1537 3 #[] #[])
  fields := #[]
  methods := #[]
  instanceTypes := #[]
  staticTypes := #[]
  resolved := Array.replicate 11 none
  statics := none }

def pool6 : Array CpInfo := pool [(1, .class_ 2), (0, u "java/lang/constant/ConstantDesc"), (0, .class_ 4), (0, u "java/lang/Object")] 32

/-- java/lang/constant/ConstantDesc -/
def k6 : Class := { plain "java/lang/constant/ConstantDesc" (some 0) with
  accessFlags := 1537
  interfaces := #[]
  cf := some (fileOf pool6 1 #[] #[] 1537 3 #[] #[])
  fields := #[]
  methods := #[]
  instanceTypes := #[]
  staticTypes := #[]
  resolved := Array.replicate 37 none
  statics := none }

def pool7 : Array CpInfo := pool [(1, .methodref 2 3), (0, .class_ 4), (0, .nameAndType 5 6), (0, u "java/lang/Object"), (0, u "<init>"), (0, u "()V"), (0, .string 8), (0, u ""), (0, .fieldref 10 11), (0, .class_ 12), (0, .nameAndType 13 14), (0, u "java/lang/String"), (0, u "value"), (0, u "[B"), (0, .fieldref 10 16), (0, .nameAndType 17 18), (0, u "coder"), (0, u "B"), (2, u "hash"), (0, u "I"), (2, u "hashIsZero"), (0, u "Z"), (0, .methodref 10 28), (0, .nameAndType 5 29), (0, u "([CIILjava/lang/Void;)V"), (6, u "checkBoundsOffCount"), (0, u "(III)I"), (0, .fieldref 10 39), (0, .nameAndType 40 26), (0, u "COMPACT_STRINGS"), (1, .class_ 44), (1, u "java/lang/StringUTF16"), (0, u "compress"), (1, .methodref 42 48), (0, .nameAndType 49 50), (0, u "coderFromArrayLen"), (0, u "([BI)B"), (3, .methodref 55 56), (0, .class_ 57), (0, .nameAndType 58 59), (0, u "java/util/Arrays"), (0, u "copyOfRange"), (0, u "([BII)[B"), (46, .methodref 107 108), (0, .class_ 109), (0, .nameAndType 110 111), (0, u "java/lang/StringLatin1"), (0, u "inflate"), (0, u "([BI[BII)V"), (30, u "()Z"), (34, .methodref 42 178), (0, .nameAndType 45 179), (0, u "([CII)[B"), (13, .class_ 195), (1, u "java/lang/System"), (16, .methodref 193 213), (0, .nameAndType 214 215), (0, u "arraycopy"), (0, u "(Ljava/lang/Object;ILjava/lang/Object;II)V"), (118, u "()I"), (0, .methodref 10 336), (0, .nameAndType 17 337), (0, u "()B"), (2, u "()[B"), (22, u "([BI)C"), (27, u "(II)V"), (35, u "(I)C"), (61, .methodref 10 490), (0, .nameAndType 5 491), (0, u "(Ljava/lang/AbstractStringBuilder;Ljava/lang/Void;)V"), (0, .methodref 10 493), (0, .nameAndType 494 142), (0, u "isLatin1"), (0, .methodref 107 496), (0, .nameAndType 497 363), (0, u "charAt"), (0, .methodref 42 496), (2, u "checkIndex"), (4, .nameAndType 507 334), (0, u "length"), (24, u "getBytes"), (16, .methodref 550 506), (0, .class_ 551), (0, u "java/lang/AbstractStringBuilder"), (0, .methodref 550 553), (0, .nameAndType 554 340), (0, u "getValue"), (20, .class_ 576), (0, u "java/lang/CharSequence"), (22, u "CASE_INSENSITIVE_ORDER"), (0, u "Ljava/util/Comparator;"), (220, u "([BIB)V"), (188, u "([C)V"), (36, .methodref 550 493), (0, .fieldref 550 1049), (0, .nameAndType 1050 26), (0, u "maybeLatin1"), (2, .fieldref 1054 1055), (0, .class_ 1056), (0, .nameAndType 1057 1058), (0, u "jdk/internal/util/Preconditions"), (0, u "SIOOBE_FORMATTER"), (0, u "Ljava/util/function/BiFunction;"), (0, .methodref 1054 1060), (0, .nameAndType 501 1061), (0, u "(IILjava/util/function/BiFunction;)I"), (2, u "(IIILjava/util/function/BiFunction;)I"), (0, .methodref 1054 1066), (0, .nameAndType 1067 1064), (0, u "checkFromIndexSize"), (33, u "serialPersistentFields"), (0, u "[Ljava/io/ObjectStreamField;"), (0, .class_ 1104), (0, u "java/lang/String$CaseInsensitiveComparator"), (1, .class_ 1107), (0, u "java/io/Serializable"), (0, .class_ 1109), (0, u "java/lang/Comparable"), (0, .class_ 1111), (0, u "java/lang/constant/Constable"), (0, .class_ 1113), (0, u "java/lang/constant/ConstantDesc"), (2, u "serialVersionUID"), (0, u "J"), (3, u "REPL"), (0, u "C"), (2, u "LATIN1"), (1, u "UTF16"), (105, u "(Ljava/lang/StringBuilder;)V")] 217

def k7m0 : Method := { name := "<init>", desc := "()V", sig := { parameters := [], returnType := none }, accessFlags := 1, code := none }
def k7c1 : Code := { maxStack := 5, maxLocals := 2, code := jdk_42_method_3_code, exceptionTable := #[], attributes := #[] }
def k7m1 : Method := { name := "<init>", desc := "([C)V", sig := { parameters := [(.array .char)], returnType := none }, accessFlags := 1, code := some k7c1 }
def k7c2 : Code := { maxStack := 3, maxLocals := 2, code := jdk_42_method_53_code, exceptionTable := #[], attributes := #[] }
def k7m2 : Method := { name := "<init>", desc := "(Ljava/lang/StringBuilder;)V", sig := { parameters := [(.object "java/lang/StringBuilder")], returnType := none }, accessFlags := 1, code := some k7c2 }
def k7c3 : Code := { maxStack := 2, maxLocals := 1, code := jdk_42_method_54_code, exceptionTable := #[], attributes := #[] }
def k7m3 : Method := { name := "length", desc := "()I", sig := { parameters := [], returnType := some .int }, accessFlags := 1, code := some k7c3 }
def k7c4 : Code := { maxStack := 2, maxLocals := 2, code := jdk_42_method_56_code, exceptionTable := #[], attributes := #[] }
def k7m4 : Method := { name := "charAt", desc := "(I)C", sig := { parameters := [.int], returnType := some .char }, accessFlags := 1, code := some k7c4 }
def k7c5 : Code := { maxStack := 5, maxLocals := 4, code := jdk_42_method_147_code, exceptionTable := #[], attributes := #[] }
def k7m5 : Method := { name := "getBytes", desc := "([BIB)V", sig := { parameters := [(.array .byte), .int, .byte], returnType := none }, accessFlags := 0, code := some k7c5 }
def k7c6 : Code := { maxStack := 4, maxLocals := 6, code := jdk_42_method_149_code, exceptionTable := #[], attributes := #[] }
def k7m6 : Method := { name := "<init>", desc := "([CIILjava/lang/Void;)V", sig := { parameters := [(.array .char), .int, .int, (.object "java/lang/Void")], returnType := none }, accessFlags := 2, code := some k7c6 }
def k7c7 : Code := { maxStack := 5, maxLocals := 5, code := jdk_42_method_150_code, exceptionTable := #[], attributes := #[] }
def k7m7 : Method := { name := "<init>", desc := "(Ljava/lang/AbstractStringBuilder;Ljava/lang/Void;)V", sig := { parameters := [(.object "java/lang/AbstractStringBuilder"), (.object "java/lang/Void")], returnType := none }, accessFlags := 0, code := some k7c7 }
def k7c8 : Code := { maxStack := 1, maxLocals := 1, code := jdk_42_method_152_code, exceptionTable := #[], attributes := #[] }
def k7m8 : Method := { name := "coder", desc := "()B", sig := { parameters := [], returnType := some .byte }, accessFlags := 0, code := some k7c8 }
def k7c9 : Code := { maxStack := 1, maxLocals := 1, code := jdk_42_method_154_code, exceptionTable := #[], attributes := #[] }
def k7m9 : Method := { name := "isLatin1", desc := "()Z", sig := { parameters := [], returnType := some .boolean }, accessFlags := 0, code := some k7c9 }
def k7c10 : Code := { maxStack := 3, maxLocals := 2, code := jdk_42_method_155_code, exceptionTable := #[], attributes := #[] }
def k7m10 : Method := { name := "checkIndex", desc := "(II)V", sig := { parameters := [.int, .int], returnType := none }, accessFlags := 8, code := some k7c10 }
def k7c11 : Code := { maxStack := 4, maxLocals := 3, code := jdk_42_method_157_code, exceptionTable := #[], attributes := #[] }
def k7m11 : Method := { name := "checkBoundsOffCount", desc := "(III)I", sig := { parameters := [.int, .int, .int], returnType := some .int }, accessFlags := 8, code := some k7c11 }
/-- java/lang/String -/
def k7 : Class := { plain "java/lang/String" (some 0) with
  accessFlags := 49
  interfaces := #[2, 3, 4, 5, 6]
  cf := some (fileOf pool7 10 #[.nestMembers #[1103]] #[{ accessFlags := 1, nameIndex := 5, descriptorIndex := 6, attributes := #[] }, { accessFlags := 1, nameIndex := 5, descriptorIndex := 1010, attributes := #[] }, { accessFlags := 1, nameIndex := 5, descriptorIndex := 1233, attributes := #[] }, { accessFlags := 1, nameIndex := 507, descriptorIndex := 334, attributes := #[] }, { accessFlags := 1, nameIndex := 497, descriptorIndex := 427, attributes := #[] }, { accessFlags := 0, nameIndex := 532, descriptorIndex := 821, attributes := #[] }, { accessFlags := 2, nameIndex := 5, descriptorIndex := 29, attributes := #[] }, { accessFlags := 0, nameIndex := 5, descriptorIndex := 491, attributes := #[] }, { accessFlags := 0, nameIndex := 17, descriptorIndex := 337, attributes := #[] }, { accessFlags := 0, nameIndex := 494, descriptorIndex := 142, attributes := #[] }, { accessFlags := 8, nameIndex := 501, descriptorIndex := 391, attributes := #[] }, { accessFlags := 8, nameIndex := 36, descriptorIndex := 37, attributes := #[] }] 49 2 #[1106, 1108, 575, 1110, 1112] #[{ accessFlags := 18, nameIndex := 13, descriptorIndex := 14, attributes := #[] }, { accessFlags := 18, nameIndex := 17, descriptorIndex := 18, attributes := #[] }, { accessFlags := 2, nameIndex := 21, descriptorIndex := 22, attributes := #[] }, { accessFlags := 2, nameIndex := 25, descriptorIndex := 26, attributes := #[] }, { accessFlags := 26, nameIndex := 1116, descriptorIndex := 1117, attributes := #[] }, { accessFlags := 24, nameIndex := 40, descriptorIndex := 26, attributes := #[] }, { accessFlags := 26, nameIndex := 1101, descriptorIndex := 1102, attributes := #[] }, { accessFlags := 26, nameIndex := 1121, descriptorIndex := 1122, attributes := #[] }, { accessFlags := 25, nameIndex := 599, descriptorIndex := 600, attributes := #[] }, { accessFlags := 24, nameIndex := 1125, descriptorIndex := 18, attributes := #[] }, { accessFlags := 24, nameIndex := 1127, descriptorIndex := 18, attributes := #[] }])
  fields := #[{ name := "value", type := (.array .byte), accessFlags := 18, slot := 0, constantValue := 0 }, { name := "coder", type := .byte, accessFlags := 18, slot := 1, constantValue := 0 }, { name := "hash", type := .int, accessFlags := 2, slot := 2, constantValue := 0 }, { name := "hashIsZero", type := .boolean, accessFlags := 2, slot := 3, constantValue := 0 }, { name := "serialVersionUID", type := .long, accessFlags := 26, slot := 0, constantValue := 0 }, { name := "COMPACT_STRINGS", type := .boolean, accessFlags := 24, slot := 1, constantValue := 0 }, { name := "serialPersistentFields", type := (.array (.object "java/io/ObjectStreamField")), accessFlags := 26, slot := 2, constantValue := 0 }, { name := "REPL", type := .char, accessFlags := 26, slot := 3, constantValue := 0 }, { name := "CASE_INSENSITIVE_ORDER", type := (.object "java/util/Comparator"), accessFlags := 25, slot := 4, constantValue := 0 }, { name := "LATIN1", type := .byte, accessFlags := 24, slot := 5, constantValue := 0 }, { name := "UTF16", type := .byte, accessFlags := 24, slot := 6, constantValue := 0 }]
  methods := #[k7m0, k7m1, k7m2, k7m3, k7m4, k7m5, k7m6, k7m7, k7m8, k7m9, k7m10, k7m11]
  instanceTypes := #[(.array .byte), .byte, .int, .boolean]
  staticTypes := #[.long, .boolean, (.array (.object "java/io/ObjectStreamField")), .char, (.object "java/util/Comparator"), .byte, .byte]
  resolved := Array.replicate 1451 none
  statics := some 0 }

def pool8 : Array CpInfo := pool [(2, .class_ 4), (1, u "java/lang/Object"), (0, u "<init>"), (0, u "()V"), (3, .class_ 12), (1, u "com/example/brasswire/brasswire/page/Html"), (5, u "(Ljava/lang/String;)Ljava/lang/String;"), (30, u "()Ljava/lang/String;"), (7, .class_ 59), (1, u "java/lang/String"), (7, u "POLICY_HOST"), (0, u "Ljava/util/regex/Pattern;"), (16, u "()I"), (10, u "escape"), (17, .class_ 115), (0, u "java/lang/StringBuilder"), (0, .methodref 57 117), (0, .nameAndType 118 85), (0, u "length"), (0, .methodref 114 120), (0, .nameAndType 5 121), (0, u "(I)V"), (0, .methodref 57 123), (0, .nameAndType 124 125), (0, u "charAt"), (0, u "(I)C"), (0, .string 127), (0, u "&amp;"), (0, .methodref 114 129), (0, .nameAndType 130 131), (0, u "append"), (0, u "(Ljava/lang/String;)Ljava/lang/StringBuilder;"), (0, .string 133), (0, u "&lt;"), (0, .string 135), (0, u "&gt;"), (0, .string 137), (0, u "&quot;"), (0, .string 139), (0, u "&#39;"), (0, .methodref 114 141), (0, .nameAndType 130 142), (0, u "(C)Ljava/lang/StringBuilder;"), (0, .methodref 114 144), (0, .nameAndType 145 49), (0, u "toString"), (12, u "HEADERS"), (0, u "Ljava/util/Map;"), (2, u "STYLE"), (0, u "Ljava/lang/String;")] 40

def k8m0 : Method := { name := "<init>", desc := "()V", sig := { parameters := [], returnType := none }, accessFlags := 2, code := none }
def k8c1 : Code := { maxStack := 3, maxLocals := 4, code := prog_15_method_6_code, exceptionTable := #[], attributes := #[] }
def k8m1 : Method := { name := "escape", desc := "(Ljava/lang/String;)Ljava/lang/String;", sig := { parameters := [(.object "java/lang/String")], returnType := some (.object "java/lang/String") }, accessFlags := 8, code := some k8c1 }
/-- com/example/brasswire/brasswire/page/Html -/
def k8 : Class := { plain "com/example/brasswire/brasswire/page/Html" (some 0) with
  accessFlags := 49
  interfaces := #[]
  cf := some (fileOf pool8 10 #[] #[{ accessFlags := 2, nameIndex := 5, descriptorIndex := 6, attributes := #[] }, { accessFlags := 8, nameIndex := 96, descriptorIndex := 18, attributes := #[] }] 49 2 #[] #[{ accessFlags := 26, nameIndex := 67, descriptorIndex := 68, attributes := #[] }, { accessFlags := 25, nameIndex := 158, descriptorIndex := 159, attributes := #[] }, { accessFlags := 26, nameIndex := 162, descriptorIndex := 163, attributes := #[] }])
  fields := #[{ name := "POLICY_HOST", type := (.object "java/util/regex/Pattern"), accessFlags := 26, slot := 0, constantValue := 0 }, { name := "HEADERS", type := (.object "java/util/Map"), accessFlags := 25, slot := 1, constantValue := 0 }, { name := "STYLE", type := (.object "java/lang/String"), accessFlags := 26, slot := 2, constantValue := 0 }]
  methods := #[k8m0, k8m1]
  instanceTypes := #[]
  staticTypes := #[(.object "java/util/regex/Pattern"), (.object "java/util/Map"), (.object "java/lang/String")]
  resolved := Array.replicate 204 none
  statics := none }

def pool9 : Array CpInfo := pool [(1, .class_ 2), (0, u "java/lang/Appendable"), (0, .class_ 4), (0, u "java/lang/Object")] 9

/-- java/lang/Appendable -/
def k9 : Class := { plain "java/lang/Appendable" (some 0) with
  accessFlags := 1537
  interfaces := #[]
  cf := some (fileOf pool9 1 #[] #[] 1537 3 #[] #[])
  fields := #[]
  methods := #[]
  instanceTypes := #[]
  staticTypes := #[]
  resolved := Array.replicate 14 none
  statics := none }

def pool10 : Array CpInfo := pool [(1, .class_ 2), (0, u "java/lang/String"), (0, .methodref 4 5), (0, .class_ 6), (0, .nameAndType 7 8), (0, u "java/lang/Object"), (0, u "<init>"), (0, u "()V"), (1, .class_ 12), (1, u "java/lang/AbstractStringBuilder"), (0, u "EMPTYVALUE"), (0, u "[B"), (0, .fieldref 10 16), (0, .nameAndType 17 14), (0, u "value"), (0, .fieldref 1 19), (0, .nameAndType 20 21), (0, u "COMPACT_STRINGS"), (0, u "Z"), (0, .fieldref 10 23), (0, .nameAndType 24 25), (0, u "coder"), (0, u "B"), (0, .methodref 27 28), (0, .class_ 29), (0, .nameAndType 30 31), (0, u "java/lang/StringUTF16"), (0, u "newBytesFor"), (0, u "(I)[B"), (0, .methodref 1 33), (0, .nameAndType 34 35), (0, u "length"), (0, u "()I"), (3, .integer 2147483647), (0, .methodref 1 41), (0, .nameAndType 24 42), (0, u "()B"), (2, u "append"), (0, u "(Ljava/lang/String;)Ljava/lang/AbstractStringBuilder;"), (1, .class_ 49), (0, u "java/lang/CharSequence"), (19, u "(Ljava/lang/String;)V"), (5, u "maybeLatin1"), (3, .fieldref 10 80), (0, .nameAndType 81 82), (0, u "count"), (0, u "I"), (0, .methodref 10 84), (0, .nameAndType 85 86), (0, u "isLatin1"), (0, u "()Z"), (1, .class_ 90), (1, u "java/lang/StringLatin1"), (9, .methodref 10 101), (0, .nameAndType 102 103), (0, u "ensureCapacityInternal"), (0, u "(I)V"), (0, .methodref 10 105), (0, .nameAndType 106 107), (0, u "newCapacity"), (0, u "(I)I"), (0, .methodref 109 110), (0, .class_ 111), (0, .nameAndType 112 113), (0, u "java/util/Arrays"), (0, u "copyOf"), (0, u "([BI)[B"), (0, .methodref 115 116), (0, .class_ 117), (0, .nameAndType 118 119), (0, u "jdk/internal/util/ArraysSupport"), (0, u "newLength"), (0, u "(III)I"), (5, .methodref 88 126), (0, .nameAndType 127 128), (0, u "inflate"), (0, u "([BI[BII)V"), (7, u "([BII)V"), (54, .methodref 88 192), (0, .nameAndType 193 194), (0, u "canEncode"), (0, u "(C)Z"), (0, .methodref 10 196), (0, .nameAndType 127 8), (0, .methodref 27 198), (0, .nameAndType 199 136), (0, u "putCharSB"), (8, .methodref 10 209), (0, .nameAndType 210 211), (0, u "putStringAt"), (0, u "(ILjava/lang/String;)V"), (5, u "inflateIfNeededFor"), (2, .nameAndType 221 222), (0, u "getBytes"), (0, u "([BIB)V"), (69, u "(C)Ljava/lang/AbstractStringBuilder;"), (104, .methodref 10 398), (0, .nameAndType 217 69), (0, .methodref 1 220), (3, u "()[B"), (40, .class_ 445), (0, u "java/lang/Appendable"), (106, u "getValue")] 56

def k10m0 : Method := { name := "<init>", desc := "()V", sig := { parameters := [], returnType := none }, accessFlags := 0, code := none }
def k10c1 : Code := { maxStack := 2, maxLocals := 2, code := jdk_68_method_2_code, exceptionTable := #[], attributes := #[] }
def k10m1 : Method := { name := "<init>", desc := "(I)V", sig := { parameters := [.int], returnType := none }, accessFlags := 0, code := some k10c1 }
def k10c2 : Code := { maxStack := 1, maxLocals := 1, code := jdk_68_method_6_code, exceptionTable := #[], attributes := #[] }
def k10m2 : Method := { name := "length", desc := "()I", sig := { parameters := [], returnType := some .int }, accessFlags := 1, code := some k10c2 }
def k10c3 : Code := { maxStack := 4, maxLocals := 3, code := jdk_68_method_9_code, exceptionTable := #[], attributes := #[] }
def k10m3 : Method := { name := "ensureCapacityInternal", desc := "(I)V", sig := { parameters := [.int], returnType := none }, accessFlags := 2, code := some k10c3 }
def k10c4 : Code := { maxStack := 5, maxLocals := 6, code := jdk_68_method_10_code, exceptionTable := #[], attributes := #[] }
def k10m4 : Method := { name := "newCapacity", desc := "(I)I", sig := { parameters := [.int], returnType := some .int }, accessFlags := 2, code := some k10c4 }
def k10c5 : Code := { maxStack := 5, maxLocals := 2, code := jdk_68_method_11_code, exceptionTable := #[], attributes := #[] }
def k10m5 : Method := { name := "inflate", desc := "()V", sig := { parameters := [], returnType := none }, accessFlags := 2, code := some k10c5 }
def k10c6 : Code := { maxStack := 3, maxLocals := 3, code := jdk_68_method_22_code, exceptionTable := #[], attributes := #[] }
def k10m6 : Method := { name := "append", desc := "(Ljava/lang/String;)Ljava/lang/AbstractStringBuilder;", sig := { parameters := [(.object "java/lang/String")], returnType := some (.object "java/lang/AbstractStringBuilder") }, accessFlags := 1, code := some k10c6 }
def k10c7 : Code := { maxStack := 5, maxLocals := 2, code := jdk_68_method_31_code, exceptionTable := #[], attributes := #[] }
def k10m7 : Method := { name := "append", desc := "(C)Ljava/lang/AbstractStringBuilder;", sig := { parameters := [.char], returnType := some (.object "java/lang/AbstractStringBuilder") }, accessFlags := 1, code := some k10c7 }
def k10c8 : Code := { maxStack := 1, maxLocals := 1, code := jdk_68_method_64_code, exceptionTable := #[], attributes := #[] }
def k10m8 : Method := { name := "getValue", desc := "()[B", sig := { parameters := [], returnType := some (.array .byte) }, accessFlags := 16, code := some k10c8 }
def k10c9 : Code := { maxStack := 1, maxLocals := 1, code := jdk_68_method_68_code, exceptionTable := #[], attributes := #[] }
def k10m9 : Method := { name := "isLatin1", desc := "()Z", sig := { parameters := [], returnType := some .boolean }, accessFlags := 16, code := some k10c9 }
def k10c10 : Code := { maxStack := 2, maxLocals := 2, code := jdk_68_method_71_code, exceptionTable := #[], attributes := #[] }
def k10m10 : Method := { name := "inflateIfNeededFor", desc := "(Ljava/lang/String;)V", sig := { parameters := [(.object "java/lang/String")], returnType := none }, accessFlags := 2, code := some k10c10 }
def k10c11 : Code := { maxStack := 4, maxLocals := 3, code := jdk_68_method_73_code, exceptionTable := #[], attributes := #[] }
def k10m11 : Method := { name := "putStringAt", desc := "(ILjava/lang/String;)V", sig := { parameters := [.int, (.object "java/lang/String")], returnType := none }, accessFlags := 2, code := some k10c11 }
/-- java/lang/AbstractStringBuilder -/
def k10 : Class := { plain "java/lang/AbstractStringBuilder" (some 0) with
  accessFlags := 1056
  interfaces := #[9, 4]
  cf := some (fileOf pool10 10 #[] #[{ accessFlags := 0, nameIndex := 7, descriptorIndex := 8, attributes := #[] }, { accessFlags := 0, nameIndex := 7, descriptorIndex := 103, attributes := #[] }, { accessFlags := 1, nameIndex := 34, descriptorIndex := 35, attributes := #[] }, { accessFlags := 2, nameIndex := 102, descriptorIndex := 103, attributes := #[] }, { accessFlags := 2, nameIndex := 106, descriptorIndex := 107, attributes := #[] }, { accessFlags := 2, nameIndex := 127, descriptorIndex := 8, attributes := #[] }, { accessFlags := 1, nameIndex := 45, descriptorIndex := 46, attributes := #[] }, { accessFlags := 1, nameIndex := 45, descriptorIndex := 292, attributes := #[] }, { accessFlags := 16, nameIndex := 552, descriptorIndex := 403, attributes := #[] }, { accessFlags := 16, nameIndex := 85, descriptorIndex := 86, attributes := #[] }, { accessFlags := 2, nameIndex := 217, descriptorIndex := 69, attributes := #[] }, { accessFlags := 2, nameIndex := 210, descriptorIndex := 211, attributes := #[] }] 1056 4 #[444, 48] #[{ accessFlags := 0, nameIndex := 17, descriptorIndex := 14, attributes := #[] }, { accessFlags := 0, nameIndex := 24, descriptorIndex := 25, attributes := #[] }, { accessFlags := 0, nameIndex := 75, descriptorIndex := 21, attributes := #[] }, { accessFlags := 0, nameIndex := 81, descriptorIndex := 82, attributes := #[] }, { accessFlags := 26, nameIndex := 13, descriptorIndex := 14, attributes := #[] }])
  fields := #[{ name := "value", type := (.array .byte), accessFlags := 0, slot := 0, constantValue := 0 }, { name := "coder", type := .byte, accessFlags := 0, slot := 1, constantValue := 0 }, { name := "maybeLatin1", type := .boolean, accessFlags := 0, slot := 2, constantValue := 0 }, { name := "count", type := .int, accessFlags := 0, slot := 3, constantValue := 0 }, { name := "EMPTYVALUE", type := (.array .byte), accessFlags := 26, slot := 0, constantValue := 0 }]
  methods := #[k10m0, k10m1, k10m2, k10m3, k10m4, k10m5, k10m6, k10m7, k10m8, k10m9, k10m10, k10m11]
  instanceTypes := #[(.array .byte), .byte, .boolean, .int]
  staticTypes := #[(.array .byte)]
  resolved := Array.replicate 609 none
  statics := none }

def pool11 : Array CpInfo := pool [(1, .methodref 2 3), (0, .class_ 4), (0, .nameAndType 5 6), (0, u "java/lang/AbstractStringBuilder"), (0, u "<init>"), (0, u "(I)V"), (11, .class_ 20), (1, u "java/lang/String"), (3, .class_ 26), (1, u "java/lang/StringBuilder"), (0, u "append"), (0, u "(Ljava/lang/String;)Ljava/lang/StringBuilder;"), (0, .methodref 2 30), (0, .nameAndType 27 31), (0, u "(Ljava/lang/String;)Ljava/lang/AbstractStringBuilder;"), (18, .methodref 2 51), (0, .nameAndType 27 52), (0, u "(C)Ljava/lang/AbstractStringBuilder;"), (84, .methodref 18 138), (0, .nameAndType 5 139), (0, u "(Ljava/lang/StringBuilder;)V"), (5, u "()V"), (10, u "()I"), (129, u "(C)Ljava/lang/StringBuilder;"), (56, .methodref 2 344), (0, .nameAndType 345 156), (0, u "length"), (3, .class_ 350), (0, u "java/lang/Appendable"), (0, .class_ 352), (0, u "java/io/Serializable"), (0, .class_ 354), (0, u "java/lang/Comparable"), (0, .class_ 356), (0, u "java/lang/CharSequence"), (0, u "serialVersionUID"), (0, u "J"), (40, u "toString"), (0, u "()Ljava/lang/String;")] 21

def k11m0 : Method := { name := "<init>", desc := "()V", sig := { parameters := [], returnType := none }, accessFlags := 1, code := none }
def k11c1 : Code := { maxStack := 2, maxLocals := 2, code := jdk_67_method_2_code, exceptionTable := #[], attributes := #[] }
def k11m1 : Method := { name := "<init>", desc := "(I)V", sig := { parameters := [.int], returnType := none }, accessFlags := 1, code := some k11c1 }
def k11c2 : Code := { maxStack := 2, maxLocals := 2, code := jdk_67_method_7_code, exceptionTable := #[], attributes := #[] }
def k11m2 : Method := { name := "append", desc := "(Ljava/lang/String;)Ljava/lang/StringBuilder;", sig := { parameters := [(.object "java/lang/String")], returnType := some (.object "java/lang/StringBuilder") }, accessFlags := 1, code := some k11c2 }
def k11c3 : Code := { maxStack := 2, maxLocals := 2, code := jdk_67_method_14_code, exceptionTable := #[], attributes := #[] }
def k11m3 : Method := { name := "append", desc := "(C)Ljava/lang/StringBuilder;", sig := { parameters := [.char], returnType := some (.object "java/lang/StringBuilder") }, accessFlags := 1, code := some k11c3 }
def k11c4 : Code := { maxStack := 3, maxLocals := 1, code := jdk_67_method_42_code, exceptionTable := #[], attributes := #[] }
def k11m4 : Method := { name := "toString", desc := "()Ljava/lang/String;", sig := { parameters := [], returnType := some (.object "java/lang/String") }, accessFlags := 1, code := some k11c4 }
def k11c5 : Code := { maxStack := 1, maxLocals := 1, code := jdk_67_method_93_code, exceptionTable := #[], attributes := #[] }
def k11m5 : Method := { name := "length", desc := "()I", sig := { parameters := [], returnType := some .int }, accessFlags := 4161, code := some k11c5 }
/-- java/lang/StringBuilder -/
def k11 : Class := { plain "java/lang/StringBuilder" (some 10) with
  accessFlags := 49
  interfaces := #[9, 2, 3, 4]
  cf := some (fileOf pool11 24 #[] #[{ accessFlags := 1, nameIndex := 5, descriptorIndex := 145, attributes := #[] }, { accessFlags := 1, nameIndex := 5, descriptorIndex := 6, attributes := #[] }, { accessFlags := 1, nameIndex := 27, descriptorIndex := 28, attributes := #[] }, { accessFlags := 1, nameIndex := 27, descriptorIndex := 286, attributes := #[] }, { accessFlags := 1, nameIndex := 399, descriptorIndex := 400, attributes := #[] }, { accessFlags := 4161, nameIndex := 345, descriptorIndex := 156, attributes := #[] }] 49 2 #[349, 351, 353, 355] #[{ accessFlags := 24, nameIndex := 357, descriptorIndex := 358, attributes := #[] }])
  fields := #[{ name := "serialVersionUID", type := .long, accessFlags := 24, slot := 0, constantValue := 0 }]
  methods := #[k11m0, k11m1, k11m2, k11m3, k11m4, k11m5]
  instanceTypes := #[(.array .byte), .byte, .boolean, .int]
  staticTypes := #[.long]
  resolved := Array.replicate 422 none
  statics := none }

def pool12 : Array CpInfo := pool [(2, .class_ 4), (1, u "java/lang/Object"), (0, u "<init>"), (0, u "()V"), (7, .class_ 16), (1, u "java/util/Arrays"), (57, .class_ 76), (1, u "java/util/Arrays$NaturalOrder"), (32, u "()Ljava/lang/Object;"), (3, .class_ 115), (1, u "java/util/Arrays$LegacyMergeSort"), (1, u "Z"), (10, .nameAndType 129 109), (0, u "clone"), (9, u "copyOfRange"), (10, .methodref 151 152), (0, .class_ 153), (0, .nameAndType 154 155), (0, u "java/lang/System"), (0, u "arraycopy"), (0, u "(Ljava/lang/Object;ILjava/lang/Object;II)V"), (146, u "copyOf"), (1, .methodref 305 306), (0, .class_ 307), (0, .nameAndType 308 309), (0, u "java/lang/Math"), (0, u "min"), (0, u "(II)I"), (0, .methodref 311 128), (0, .class_ 312), (0, u "[B"), (26, .methodref 14 340), (0, .nameAndType 341 342), (0, u "copyOfRangeByte"), (0, u "([BII)[B"), (0, .methodref 14 344), (0, .nameAndType 345 346), (0, u "checkLength"), (0, u "(II)V"), (28, .class_ 376), (0, u "java/util/Arrays$ArrayList"), (68, u "$assertionsDisabled"), (269, u "MIN_ARRAY_SORT_GRAN"), (0, u "I"), (2, u "INSERTIONSORT_THRESHOLD"), (149, u "([BI)[B"), (105, .class_ 976), (0, u "java/util/Arrays$ArrayItr")] 52

def k12m0 : Method := { name := "<init>", desc := "()V", sig := { parameters := [], returnType := none }, accessFlags := 2, code := none }
def k12c1 : Code := { maxStack := 6, maxLocals := 3, code := jdk_65_method_121_code, exceptionTable := #[], attributes := #[] }
def k12m1 : Method := { name := "copyOf", desc := "([BI)[B", sig := { parameters := [(.array .byte), .int], returnType := some (.array .byte) }, accessFlags := 9, code := some k12c1 }
def k12c2 : Code := { maxStack := 4, maxLocals := 2, code := jdk_65_method_131_code, exceptionTable := #[], attributes := #[] }
def k12m2 : Method := { name := "checkLength", desc := "(II)V", sig := { parameters := [.int, .int], returnType := none }, accessFlags := 10, code := some k12c2 }
def k12c3 : Code := { maxStack := 3, maxLocals := 3, code := jdk_65_method_132_code, exceptionTable := #[], attributes := #[] }
def k12m3 : Method := { name := "copyOfRange", desc := "([BII)[B", sig := { parameters := [(.array .byte), .int, .int], returnType := some (.array .byte) }, accessFlags := 9, code := some k12c3 }
def k12c4 : Code := { maxStack := 6, maxLocals := 5, code := jdk_65_method_133_code, exceptionTable := #[], attributes := #[] }
def k12m4 : Method := { name := "copyOfRangeByte", desc := "([BII)[B", sig := { parameters := [(.array .byte), .int, .int], returnType := some (.array .byte) }, accessFlags := 10, code := some k12c4 }
/-- java/util/Arrays -/
def k12 : Class := { plain "java/util/Arrays" (some 0) with
  accessFlags := 49
  interfaces := #[]
  cf := some (fileOf pool12 14 #[.nestMembers #[975, 375, 113, 74]] #[{ accessFlags := 2, nameIndex := 5, descriptorIndex := 6, attributes := #[] }, { accessFlags := 9, nameIndex := 302, descriptorIndex := 869, attributes := #[] }, { accessFlags := 10, nameIndex := 345, descriptorIndex := 346, attributes := #[] }, { accessFlags := 9, nameIndex := 139, descriptorIndex := 342, attributes := #[] }, { accessFlags := 10, nameIndex := 341, descriptorIndex := 342, attributes := #[] }] 49 2 #[] #[{ accessFlags := 26, nameIndex := 715, descriptorIndex := 716, attributes := #[] }, { accessFlags := 26, nameIndex := 719, descriptorIndex := 716, attributes := #[] }, { accessFlags := 4120, nameIndex := 445, descriptorIndex := 117, attributes := #[] }])
  fields := #[{ name := "MIN_ARRAY_SORT_GRAN", type := .int, accessFlags := 26, slot := 0, constantValue := 0 }, { name := "INSERTIONSORT_THRESHOLD", type := .int, accessFlags := 26, slot := 1, constantValue := 0 }, { name := "$assertionsDisabled", type := .boolean, accessFlags := 4120, slot := 2, constantValue := 0 }]
  methods := #[k12m0, k12m1, k12m2, k12m3, k12m4]
  instanceTypes := #[]
  staticTypes := #[.int, .int, .boolean]
  resolved := Array.replicate 1029 none
  statics := none }

def pool13 : Array CpInfo := pool [(1, .class_ 2), (0, u "java/lang/Cloneable"), (0, .class_ 4), (0, u "java/lang/Object")] 2

/-- java/lang/Cloneable -/
def k13 : Class := { plain "java/lang/Cloneable" (some 0) with
  accessFlags := 1537
  interfaces := #[]
  cf := some (fileOf pool13 1 #[] #[] 1537 3 #[] #[])
  fields := #[]
  methods := #[]
  instanceTypes := #[]
  staticTypes := #[]
  resolved := Array.replicate 7 none
  statics := none }

def pool14 : Array CpInfo := pool [(3, .class_ 4), (0, u "java/lang/String"), (1, .class_ 8), (1, u "java/lang/Object"), (0, u "<init>"), (0, u "()V"), (0, .methodref 12 13), (0, .class_ 14), (0, .nameAndType 15 16), (0, u "java/lang/StringUTF16"), (0, u "newBytesLength"), (0, u "(I)I"), (3, .integer 1073741823), (23, .fieldref 12 45), (0, .nameAndType 46 47), (0, u "$assertionsDisabled"), (0, u "Z"), (0, .methodref 12 49), (0, .nameAndType 50 51), (0, u "length"), (0, u "([B)I"), (7, .fieldref 12 60), (0, .nameAndType 61 62), (0, u "HI_BYTE_SHIFT"), (0, u "I"), (0, .fieldref 12 64), (0, .nameAndType 65 62), (0, u "LO_BYTE_SHIFT"), (1, .methodref 12 68), (0, .nameAndType 69 70), (0, u "checkIndex"), (0, u "(I[B)V"), (0, .methodref 12 72), (0, .nameAndType 73 74), (0, u "getChar"), (0, u "([BI)C"), (24, u "(II[B)V"), (7, .methodref 12 108), (0, .nameAndType 109 110), (0, u "newBytesFor"), (0, u "(I)[B"), (0, .methodref 12 112), (0, .nameAndType 113 114), (0, u "putChar"), (0, u "([BII)V"), (0, .methodref 12 116), (0, .nameAndType 117 118), (0, u "compress"), (0, u "([CI[BII)I"), (0, .methodref 12 120), (0, .nameAndType 121 122), (0, u "toBytes"), (0, u "([CII)[B"), (17, u "inflate"), (0, u "([BI[BII)V"), (31, .methodref 12 174), (0, .nameAndType 175 99), (0, u "checkBoundsOffCount"), (85, u "coderFromArrayLen"), (0, u "([BI)B"), (18, u "(III)I"), (87, .class_ 371), (1, u "java/lang/StringUTF16$LinesSpliterator"), (20, u "charAt"), (21, .methodref 3 415), (0, .nameAndType 69 416), (0, u "(II)V"), (2, .methodref 3 420), (0, .nameAndType 175 281), (9, u "MAX_LENGTH"), (155, u "putCharSB"), (40, .class_ 628), (0, u "java/lang/StringUTF16$CodePointsSpliterator"), (0, .class_ 630), (0, u "java/lang/StringUTF16$CharsSpliterator")] 4

def k14m0 : Method := { name := "<init>", desc := "()V", sig := { parameters := [], returnType := none }, accessFlags := 0, code := none }
def k14c1 : Code := { maxStack := 1, maxLocals := 1, code := jdk_52_method_2_code, exceptionTable := #[], attributes := #[] }
def k14m1 : Method := { name := "newBytesFor", desc := "(I)[B", sig := { parameters := [.int], returnType := some (.array .byte) }, accessFlags := 9, code := some k14c1 }
def k14c2 : Code := { maxStack := 4, maxLocals := 1, code := jdk_52_method_3_code, exceptionTable := #[], attributes := #[] }
def k14m2 : Method := { name := "newBytesLength", desc := "(I)I", sig := { parameters := [.int], returnType := some .int }, accessFlags := 9, code := some k14c2 }
def k14c3 : Code := { maxStack := 4, maxLocals := 3, code := jdk_52_method_4_code, exceptionTable := #[], attributes := #[] }
def k14m3 : Method := { name := "putChar", desc := "([BII)V", sig := { parameters := [(.array .byte), .int, .int], returnType := none }, accessFlags := 8, code := some k14c3 }
def k14c4 : Code := { maxStack := 3, maxLocals := 2, code := jdk_52_method_5_code, exceptionTable := #[], attributes := #[] }
def k14m4 : Method := { name := "getChar", desc := "([BI)C", sig := { parameters := [(.array .byte), .int], returnType := some .char }, accessFlags := 8, code := some k14c4 }
def k14c5 : Code := { maxStack := 2, maxLocals := 1, code := jdk_52_method_6_code, exceptionTable := #[], attributes := #[] }
def k14m5 : Method := { name := "length", desc := "([B)I", sig := { parameters := [(.array .byte)], returnType := some .int }, accessFlags := 9, code := some k14c5 }
def k14c6 : Code := { maxStack := 4, maxLocals := 5, code := jdk_52_method_14_code, exceptionTable := #[], attributes := #[] }
def k14m6 : Method := { name := "toBytes", desc := "([CII)[B", sig := { parameters := [(.array .char), .int, .int], returnType := some (.array .byte) }, accessFlags := 9, code := some k14c6 }
def k14c7 : Code := { maxStack := 2, maxLocals := 2, code := jdk_52_method_15_code, exceptionTable := #[], attributes := #[] }
def k14m7 : Method := { name := "coderFromArrayLen", desc := "([BI)B", sig := { parameters := [(.array .byte), .int], returnType := some .byte }, accessFlags := 8, code := some k14c7 }
def k14c8 : Code := { maxStack := 5, maxLocals := 6, code := jdk_52_method_16_code, exceptionTable := #[], attributes := #[] }
def k14m8 : Method := { name := "compress", desc := "([CII)[B", sig := { parameters := [(.array .char), .int, .int], returnType := some (.array .byte) }, accessFlags := 9, code := some k14c8 }
def k14c9 : Code := { maxStack := 3, maxLocals := 7, code := jdk_52_method_21_code, exceptionTable := #[], attributes := #[] }
def k14m9 : Method := { name := "compress", desc := "([CI[BII)I", sig := { parameters := [(.array .char), .int, (.array .byte), .int, .int], returnType := some .int }, accessFlags := 9, code := some k14c9 }
def k14c10 : Code := { maxStack := 3, maxLocals := 3, code := jdk_52_method_71_code, exceptionTable := #[], attributes := #[] }
def k14m10 : Method := { name := "putCharSB", desc := "([BII)V", sig := { parameters := [(.array .byte), .int, .int], returnType := none }, accessFlags := 9, code := some k14c10 }
def k14c11 : Code := { maxStack := 2, maxLocals := 2, code := jdk_52_method_83_code, exceptionTable := #[], attributes := #[] }
def k14m11 : Method := { name := "charAt", desc := "([BI)C", sig := { parameters := [(.array .byte), .int], returnType := some .char }, accessFlags := 9, code := some k14c11 }
def k14c12 : Code := { maxStack := 4, maxLocals := 6, code := jdk_52_method_86_code, exceptionTable := #[], attributes := #[] }
def k14m12 : Method := { name := "inflate", desc := "([BI[BII)V", sig := { parameters := [(.array .byte), .int, (.array .byte), .int, .int], returnType := none }, accessFlags := 9, code := some k14c12 }
def k14c13 : Code := { maxStack := 2, maxLocals := 2, code := jdk_52_method_91_code, exceptionTable := #[], attributes := #[] }
def k14m13 : Method := { name := "checkIndex", desc := "(I[B)V", sig := { parameters := [.int, (.array .byte)], returnType := none }, accessFlags := 9, code := some k14c13 }
def k14c14 : Code := { maxStack := 3, maxLocals := 3, code := jdk_52_method_94_code, exceptionTable := #[], attributes := #[] }
def k14m14 : Method := { name := "checkBoundsOffCount", desc := "(II[B)V", sig := { parameters := [.int, .int, (.array .byte)], returnType := none }, accessFlags := 9, code := some k14c14 }
/-- java/lang/StringUTF16 -/
def k14 : Class := { plain "java/lang/StringUTF16" (some 0) with
  accessFlags := 48
  interfaces := #[]
  cf := some (fileOf pool14 12 #[.nestMembers #[627, 629, 369]] #[{ accessFlags := 0, nameIndex := 9, descriptorIndex := 10, attributes := #[] }, { accessFlags := 9, nameIndex := 109, descriptorIndex := 110, attributes := #[] }, { accessFlags := 9, nameIndex := 15, descriptorIndex := 16, attributes := #[] }, { accessFlags := 8, nameIndex := 113, descriptorIndex := 114, attributes := #[] }, { accessFlags := 8, nameIndex := 73, descriptorIndex := 74, attributes := #[] }, { accessFlags := 9, nameIndex := 50, descriptorIndex := 51, attributes := #[] }, { accessFlags := 9, nameIndex := 121, descriptorIndex := 122, attributes := #[] }, { accessFlags := 8, nameIndex := 261, descriptorIndex := 262, attributes := #[] }, { accessFlags := 9, nameIndex := 117, descriptorIndex := 122, attributes := #[] }, { accessFlags := 9, nameIndex := 117, descriptorIndex := 118, attributes := #[] }, { accessFlags := 9, nameIndex := 586, descriptorIndex := 114, attributes := #[] }, { accessFlags := 9, nameIndex := 392, descriptorIndex := 74, attributes := #[] }, { accessFlags := 9, nameIndex := 140, descriptorIndex := 141, attributes := #[] }, { accessFlags := 9, nameIndex := 69, descriptorIndex := 70, attributes := #[] }, { accessFlags := 9, nameIndex := 175, descriptorIndex := 99, attributes := #[] }] 48 6 #[] #[{ accessFlags := 26, nameIndex := 61, descriptorIndex := 62, attributes := #[] }, { accessFlags := 26, nameIndex := 65, descriptorIndex := 62, attributes := #[] }, { accessFlags := 24, nameIndex := 430, descriptorIndex := 62, attributes := #[] }, { accessFlags := 4120, nameIndex := 46, descriptorIndex := 47, attributes := #[] }])
  fields := #[{ name := "HI_BYTE_SHIFT", type := .int, accessFlags := 26, slot := 0, constantValue := 0 }, { name := "LO_BYTE_SHIFT", type := .int, accessFlags := 26, slot := 1, constantValue := 0 }, { name := "MAX_LENGTH", type := .int, accessFlags := 24, slot := 2, constantValue := 0 }, { name := "$assertionsDisabled", type := .boolean, accessFlags := 4120, slot := 3, constantValue := 0 }]
  methods := #[k14m0, k14m1, k14m2, k14m3, k14m4, k14m5, k14m6, k14m7, k14m8, k14m9, k14m10, k14m11, k14m12, k14m13, k14m14]
  instanceTypes := #[]
  staticTypes := #[.int, .int, .int, .boolean]
  resolved := Array.replicate 635 none
  statics := some 1 }

def pool15 : Array CpInfo := pool [(1, .class_ 2), (0, u "java/lang/String"), (1, .class_ 6), (1, u "java/lang/Object"), (0, u "<init>"), (0, u "()V"), (0, .methodref 1 10), (0, .nameAndType 11 12), (0, u "checkIndex"), (0, u "(II)V"), (1, .class_ 16), (1, u "java/lang/StringLatin1"), (0, u "inflate"), (2, .class_ 22), (1, u "java/lang/StringUTF16"), (3, .nameAndType 17 27), (0, u "([BI[BII)V"), (25, u "([BI)C"), (36, u "canEncode"), (14, u "(C)Z"), (15, u "$assertionsDisabled"), (0, u "Z"), (98, .class_ 223), (1, u "java/lang/StringLatin1$LinesSpliterator"), (16, .methodref 20 26), (11, u "charAt"), (137, .class_ 391), (0, u "java/lang/StringLatin1$CharsSpliterator")] 3

def k15m0 : Method := { name := "<init>", desc := "()V", sig := { parameters := [], returnType := none }, accessFlags := 0, code := none }
def k15c1 : Code := { maxStack := 2, maxLocals := 2, code := jdk_43_method_2_code, exceptionTable := #[], attributes := #[] }
def k15m1 : Method := { name := "charAt", desc := "([BI)C", sig := { parameters := [(.array .byte), .int], returnType := some .char }, accessFlags := 9, code := some k15c1 }
def k15c2 : Code := { maxStack := 2, maxLocals := 1, code := jdk_43_method_3_code, exceptionTable := #[], attributes := #[] }
def k15m2 : Method := { name := "canEncode", desc := "(C)Z", sig := { parameters := [.char], returnType := some .boolean }, accessFlags := 9, code := some k15c2 }
def k15c3 : Code := { maxStack := 5, maxLocals := 5, code := jdk_43_method_50_code, exceptionTable := #[], attributes := #[] }
def k15m3 : Method := { name := "inflate", desc := "([BI[BII)V", sig := { parameters := [(.array .byte), .int, (.array .byte), .int, .int], returnType := none }, accessFlags := 9, code := some k15c3 }
/-- java/lang/StringLatin1 -/
def k15 : Class := { plain "java/lang/StringLatin1" (some 0) with
  accessFlags := 48
  interfaces := #[]
  cf := some (fileOf pool15 14 #[.nestMembers #[390, 221]] #[{ accessFlags := 0, nameIndex := 7, descriptorIndex := 8, attributes := #[] }, { accessFlags := 9, nameIndex := 252, descriptorIndex := 53, attributes := #[] }, { accessFlags := 9, nameIndex := 90, descriptorIndex := 105, attributes := #[] }, { accessFlags := 9, nameIndex := 17, descriptorIndex := 27, attributes := #[] }] 48 4 #[] #[{ accessFlags := 4120, nameIndex := 121, descriptorIndex := 122, attributes := #[] }])
  fields := #[{ name := "$assertionsDisabled", type := .boolean, accessFlags := 4120, slot := 0, constantValue := 0 }]
  methods := #[k15m0, k15m1, k15m2, k15m3]
  instanceTypes := #[]
  staticTypes := #[.boolean]
  resolved := Array.replicate 395 none
  statics := none }

def pool16 : Array CpInfo := pool [(2, .class_ 4), (1, u "java/lang/Object"), (0, u "<init>"), (0, u "()V"), (17, .class_ 26), (1, u "jdk/internal/util/Preconditions"), (6, u "checkIndex"), (15, u "checkFromIndexSize"), (5, .class_ 56), (0, u "jdk/internal/util/Preconditions$4"), (57, .class_ 115), (0, u "jdk/internal/util/Preconditions$1"), (7, u "SIOOBE_FORMATTER"), (0, u "Ljava/util/function/BiFunction;"), (0, .class_ 126), (0, u "jdk/internal/util/Preconditions$2"), (3, u "AIOOBE_FORMATTER"), (0, .class_ 132), (0, u "jdk/internal/util/Preconditions$3"), (3, u "IOOBE_FORMATTER"), (41, u "(IILjava/util/function/BiFunction;)I"), (4, u "(IIILjava/util/function/BiFunction;)I")] 10

def k16m0 : Method := { name := "<init>", desc := "()V", sig := { parameters := [], returnType := none }, accessFlags := 1, code := none }
def k16c1 : Code := { maxStack := 3, maxLocals := 3, code := jdk_41_method_11_code, exceptionTable := #[], attributes := #[] }
def k16m1 : Method := { name := "checkIndex", desc := "(IILjava/util/function/BiFunction;)I", sig := { parameters := [.int, .int, (.object "java/util/function/BiFunction")], returnType := some .int }, accessFlags := 9, code := some k16c1 }
def k16c2 : Code := { maxStack := 4, maxLocals := 4, code := jdk_41_method_13_code, exceptionTable := #[], attributes := #[] }
def k16m2 : Method := { name := "checkFromIndexSize", desc := "(IIILjava/util/function/BiFunction;)I", sig := { parameters := [.int, .int, .int, (.object "java/util/function/BiFunction")], returnType := some .int }, accessFlags := 9, code := some k16c2 }
/-- jdk/internal/util/Preconditions -/
def k16 : Class := { plain "jdk/internal/util/Preconditions" (some 0) with
  accessFlags := 33
  interfaces := #[]
  cf := some (fileOf pool16 24 #[.nestMembers #[55, 131, 125, 114]] #[{ accessFlags := 1, nameIndex := 5, descriptorIndex := 6, attributes := #[] }, { accessFlags := 9, nameIndex := 33, descriptorIndex := 178, attributes := #[] }, { accessFlags := 9, nameIndex := 49, descriptorIndex := 183, attributes := #[] }] 33 2 #[] #[{ accessFlags := 25, nameIndex := 123, descriptorIndex := 124, attributes := #[] }, { accessFlags := 25, nameIndex := 130, descriptorIndex := 124, attributes := #[] }, { accessFlags := 25, nameIndex := 136, descriptorIndex := 124, attributes := #[] }])
  fields := #[{ name := "SIOOBE_FORMATTER", type := (.object "java/util/function/BiFunction"), accessFlags := 25, slot := 0, constantValue := 0 }, { name := "AIOOBE_FORMATTER", type := (.object "java/util/function/BiFunction"), accessFlags := 25, slot := 1, constantValue := 0 }, { name := "IOOBE_FORMATTER", type := (.object "java/util/function/BiFunction"), accessFlags := 25, slot := 2, constantValue := 0 }]
  methods := #[k16m0, k16m1, k16m2]
  instanceTypes := #[]
  staticTypes := #[(.object "java/util/function/BiFunction"), (.object "java/util/function/BiFunction"), (.object "java/util/function/BiFunction")]
  resolved := Array.replicate 194 none
  statics := some 2 }

def pool17 : Array CpInfo := pool [(9, u "<init>"), (6, .class_ 18), (1, u "java/lang/Object"), (0, u "()V"), (1, .class_ 23), (1, u "jdk/internal/util/ArraysSupport"), (0, u "LOG2_ARRAY_LONG_INDEX_SCALE"), (0, u "I"), (2, u "U"), (0, u "Ljdk/internal/misc/Unsafe;"), (8, u "BIG_ENDIAN"), (0, u "Z"), (8, u "LOG2_BYTE_BIT_SIZE"), (4, u "LOG2_ARRAY_INT_INDEX_SCALE"), (54, u "JLA"), (0, u "Ljdk/internal/access/JavaLangAccess;"), (11, u "LOG2_ARRAY_BOOLEAN_INDEX_SCALE"), (9, u "LOG2_ARRAY_BYTE_INDEX_SCALE"), (5, u "LOG2_ARRAY_CHAR_INDEX_SCALE"), (5, u "LOG2_ARRAY_SHORT_INDEX_SCALE"), (18, u "LOG2_ARRAY_FLOAT_INDEX_SCALE"), (24, u "LOG2_ARRAY_DOUBLE_INDEX_SCALE"), (6, .methodref 195 196), (0, .class_ 197), (0, .nameAndType 198 199), (0, u "java/lang/Math"), (0, u "max"), (0, u "(II)I"), (0, .integer 2147483639), (76, u "T_BOOLEAN"), (2, u "T_CHAR"), (1, u "T_FLOAT"), (1, u "T_DOUBLE"), (1, u "T_BYTE"), (1, u "T_SHORT"), (1, u "T_INT"), (1, u "T_LONG"), (1, u "SOFT_MAX_ARRAY_LENGTH"), (56, u "newLength"), (0, u "(III)I")] 25

def k17m0 : Method := { name := "<init>", desc := "()V", sig := { parameters := [], returnType := none }, accessFlags := 2, code := none }
def k17c1 : Code := { maxStack := 3, maxLocals := 4, code := jdk_48_method_27_code, exceptionTable := #[], attributes := #[] }
def k17m1 : Method := { name := "newLength", desc := "(III)I", sig := { parameters := [.int, .int, .int], returnType := some .int }, accessFlags := 9, code := some k17c1 }
/-- jdk/internal/util/ArraysSupport -/
def k17 : Class := { plain "jdk/internal/util/ArraysSupport" (some 0) with
  accessFlags := 33
  interfaces := #[]
  cf := some (fileOf pool17 21 #[] #[{ accessFlags := 2, nameIndex := 9, descriptorIndex := 19, attributes := #[] }, { accessFlags := 9, nameIndex := 351, descriptorIndex := 352, attributes := #[] }] 33 16 #[] #[{ accessFlags := 24, nameIndex := 28, descriptorIndex := 29, attributes := #[] }, { accessFlags := 26, nameIndex := 38, descriptorIndex := 39, attributes := #[] }, { accessFlags := 25, nameIndex := 121, descriptorIndex := 25, attributes := #[] }, { accessFlags := 25, nameIndex := 131, descriptorIndex := 25, attributes := #[] }, { accessFlags := 25, nameIndex := 137, descriptorIndex := 25, attributes := #[] }, { accessFlags := 25, nameIndex := 143, descriptorIndex := 25, attributes := #[] }, { accessFlags := 25, nameIndex := 53, descriptorIndex := 25, attributes := #[] }, { accessFlags := 25, nameIndex := 24, descriptorIndex := 25, attributes := #[] }, { accessFlags := 25, nameIndex := 162, descriptorIndex := 25, attributes := #[] }, { accessFlags := 25, nameIndex := 187, descriptorIndex := 25, attributes := #[] }, { accessFlags := 26, nameIndex := 48, descriptorIndex := 25, attributes := #[] }, { accessFlags := 25, nameIndex := 277, descriptorIndex := 25, attributes := #[] }, { accessFlags := 25, nameIndex := 280, descriptorIndex := 25, attributes := #[] }, { accessFlags := 25, nameIndex := 282, descriptorIndex := 25, attributes := #[] }, { accessFlags := 25, nameIndex := 284, descriptorIndex := 25, attributes := #[] }, { accessFlags := 25, nameIndex := 286, descriptorIndex := 25, attributes := #[] }, { accessFlags := 25, nameIndex := 288, descriptorIndex := 25, attributes := #[] }, { accessFlags := 25, nameIndex := 290, descriptorIndex := 25, attributes := #[] }, { accessFlags := 25, nameIndex := 292, descriptorIndex := 25, attributes := #[] }, { accessFlags := 26, nameIndex := 108, descriptorIndex := 109, attributes := #[] }, { accessFlags := 25, nameIndex := 294, descriptorIndex := 25, attributes := #[] }])
  fields := #[{ name := "U", type := (.object "jdk/internal/misc/Unsafe"), accessFlags := 24, slot := 0, constantValue := 0 }, { name := "BIG_ENDIAN", type := .boolean, accessFlags := 26, slot := 1, constantValue := 0 }, { name := "LOG2_ARRAY_BOOLEAN_INDEX_SCALE", type := .int, accessFlags := 25, slot := 2, constantValue := 0 }, { name := "LOG2_ARRAY_BYTE_INDEX_SCALE", type := .int, accessFlags := 25, slot := 3, constantValue := 0 }, { name := "LOG2_ARRAY_CHAR_INDEX_SCALE", type := .int, accessFlags := 25, slot := 4, constantValue := 0 }, { name := "LOG2_ARRAY_SHORT_INDEX_SCALE", type := .int, accessFlags := 25, slot := 5, constantValue := 0 }, { name := "LOG2_ARRAY_INT_INDEX_SCALE", type := .int, accessFlags := 25, slot := 6, constantValue := 0 }, { name := "LOG2_ARRAY_LONG_INDEX_SCALE", type := .int, accessFlags := 25, slot := 7, constantValue := 0 }, { name := "LOG2_ARRAY_FLOAT_INDEX_SCALE", type := .int, accessFlags := 25, slot := 8, constantValue := 0 }, { name := "LOG2_ARRAY_DOUBLE_INDEX_SCALE", type := .int, accessFlags := 25, slot := 9, constantValue := 0 }, { name := "LOG2_BYTE_BIT_SIZE", type := .int, accessFlags := 26, slot := 10, constantValue := 0 }, { name := "T_BOOLEAN", type := .int, accessFlags := 25, slot := 11, constantValue := 0 }, { name := "T_CHAR", type := .int, accessFlags := 25, slot := 12, constantValue := 0 }, { name := "T_FLOAT", type := .int, accessFlags := 25, slot := 13, constantValue := 0 }, { name := "T_DOUBLE", type := .int, accessFlags := 25, slot := 14, constantValue := 0 }, { name := "T_BYTE", type := .int, accessFlags := 25, slot := 15, constantValue := 0 }, { name := "T_SHORT", type := .int, accessFlags := 25, slot := 16, constantValue := 0 }, { name := "T_INT", type := .int, accessFlags := 25, slot := 17, constantValue := 0 }, { name := "T_LONG", type := .int, accessFlags := 25, slot := 18, constantValue := 0 }, { name := "JLA", type := (.object "jdk/internal/access/JavaLangAccess"), accessFlags := 26, slot := 19, constantValue := 0 }, { name := "SOFT_MAX_ARRAY_LENGTH", type := .int, accessFlags := 25, slot := 20, constantValue := 0 }]
  methods := #[k17m0, k17m1]
  instanceTypes := #[]
  staticTypes := #[(.object "jdk/internal/misc/Unsafe"), .boolean, .int, .int, .int, .int, .int, .int, .int, .int, .int, .int, .int, .int, .int, .int, .int, .int, .int, (.object "jdk/internal/access/JavaLangAccess"), .int]
  resolved := Array.replicate 378 none
  statics := none }

def pool18 : Array CpInfo := pool [(1, .class_ 2), (0, u "java/lang/Math"), (1, .class_ 6), (1, u "java/lang/Object"), (0, u "<init>"), (0, u "()V"), (89, .class_ 100), (1, u "java/lang/Math$RandomNumberGeneratorHolder"), (71, u "negativeZeroFloatBits"), (0, u "J"), (2, u "negativeZeroDoubleBits"), (21, u "max"), (2, u "min"), (43, u "$assertionsDisabled"), (0, u "Z"), (88, u "(II)I"), (2, u "twoToTheDoubleScaleDown"), (0, u "D"), (4, u "twoToTheDoubleScaleUp"), (9, u "E"), (3, u "PI"), (2, u "TAU"), (2, u "DEGREES_TO_RADIANS"), (0, u "RADIANS_TO_DEGREES")] 94

def k18m0 : Method := { name := "<init>", desc := "()V", sig := { parameters := [], returnType := none }, accessFlags := 2, code := none }
def k18c1 : Code := { maxStack := 2, maxLocals := 2, code := jdk_29_method_65_code, exceptionTable := #[], attributes := #[] }
def k18m1 : Method := { name := "max", desc := "(II)I", sig := { parameters := [.int, .int], returnType := some .int }, accessFlags := 9, code := some k18c1 }
def k18c2 : Code := { maxStack := 2, maxLocals := 2, code := jdk_29_method_69_code, exceptionTable := #[], attributes := #[] }
def k18m2 : Method := { name := "min", desc := "(II)I", sig := { parameters := [.int, .int], returnType := some .int }, accessFlags := 9, code := some k18c2 }
/-- java/lang/Math -/
def k18 : Class := { plain "java/lang/Math" (some 0) with
  accessFlags := 49
  interfaces := #[]
  cf := some (fileOf pool18 1 #[.nestMembers #[98]] #[{ accessFlags := 2, nameIndex := 7, descriptorIndex := 8, attributes := #[] }, { accessFlags := 9, nameIndex := 198, descriptorIndex := 335, attributes := #[] }, { accessFlags := 9, nameIndex := 201, descriptorIndex := 335, attributes := #[] }] 49 4 #[] #[{ accessFlags := 25, nameIndex := 354, descriptorIndex := 339, attributes := #[] }, { accessFlags := 25, nameIndex := 358, descriptorIndex := 339, attributes := #[] }, { accessFlags := 25, nameIndex := 361, descriptorIndex := 339, attributes := #[] }, { accessFlags := 26, nameIndex := 364, descriptorIndex := 339, attributes := #[] }, { accessFlags := 26, nameIndex := 365, descriptorIndex := 339, attributes := #[] }, { accessFlags := 26, nameIndex := 172, descriptorIndex := 173, attributes := #[] }, { accessFlags := 26, nameIndex := 176, descriptorIndex := 173, attributes := #[] }, { accessFlags := 8, nameIndex := 344, descriptorIndex := 339, attributes := #[] }, { accessFlags := 8, nameIndex := 338, descriptorIndex := 339, attributes := #[] }, { accessFlags := 4120, nameIndex := 245, descriptorIndex := 246, attributes := #[] }])
  fields := #[{ name := "E", type := .double, accessFlags := 25, slot := 0, constantValue := 0 }, { name := "PI", type := .double, accessFlags := 25, slot := 1, constantValue := 0 }, { name := "TAU", type := .double, accessFlags := 25, slot := 2, constantValue := 0 }, { name := "DEGREES_TO_RADIANS", type := .double, accessFlags := 26, slot := 3, constantValue := 0 }, { name := "RADIANS_TO_DEGREES", type := .double, accessFlags := 26, slot := 4, constantValue := 0 }, { name := "negativeZeroFloatBits", type := .long, accessFlags := 26, slot := 5, constantValue := 0 }, { name := "negativeZeroDoubleBits", type := .long, accessFlags := 26, slot := 6, constantValue := 0 }, { name := "twoToTheDoubleScaleUp", type := .double, accessFlags := 8, slot := 7, constantValue := 0 }, { name := "twoToTheDoubleScaleDown", type := .double, accessFlags := 8, slot := 8, constantValue := 0 }, { name := "$assertionsDisabled", type := .boolean, accessFlags := 4120, slot := 9, constantValue := 0 }]
  methods := #[k18m0, k18m1, k18m2]
  instanceTypes := #[]
  staticTypes := #[.double, .double, .double, .double, .double, .long, .long, .double, .double, .boolean]
  resolved := Array.replicate 460 none
  statics := none }

def pool19 : Array CpInfo := pool [(2, .class_ 4), (1, u "java/lang/Object"), (0, u "<init>"), (0, u "()V"), (1, .class_ 10), (1, u "java/lang/System"), (0, u "allowSecurityManager"), (0, u "I"), (16, u "cons"), (0, u "Ljava/io/Console;"), (77, .class_ 110), (1, u "java/lang/System$CallersHolder"), (43, u "initialErrStream"), (0, u "Ljava/io/PrintStream;"), (19, u "security"), (0, u "Ljava/lang/SecurityManager;"), (31, .class_ 209), (0, u "java/lang/System$1"), (7, u "props"), (0, u "Ljava/util/Properties;"), (2, u "lineSeparator"), (0, u "Ljava/lang/String;"), (96, .class_ 321), (1, u "java/lang/System$LoggerFinder"), (5, .class_ 328), (0, u "java/lang/System$Logger"), (67, u "err"), (2, u "out"), (91, u "notSupportedJnuEncoding"), (15, u "in"), (17, u "initialIn"), (0, u "Ljava/io/InputStream;"), (35, u "bootLayer"), (0, u "Ljava/lang/ModuleLayer;"), (99, .class_ 664), (0, u "java/lang/System$2"), (9, u "NEVER"), (2, u "MAYBE"), (49, u "arraycopy"), (0, u "(Ljava/lang/Object;ILjava/lang/Object;II)V"), (72, .class_ 802), (0, u "java/lang/System$Logger$Level")] 31

def k19m0 : Method := { name := "<init>", desc := "()V", sig := { parameters := [], returnType := none }, accessFlags := 2, code := none }
def k19m1 : Method := { name := "arraycopy", desc := "(Ljava/lang/Object;ILjava/lang/Object;II)V", sig := { parameters := [(.object "java/lang/Object"), .int, (.object "java/lang/Object"), .int, .int], returnType := none }, accessFlags := 265, code := none }
/-- java/lang/System -/
def k19 : Class := { plain "java/lang/System" (some 0) with
  accessFlags := 49
  interfaces := #[]
  cf := some (fileOf pool19 8 #[.nestMembers #[319, 327, 801, 108, 663, 208]] #[{ accessFlags := 2, nameIndex := 5, descriptorIndex := 6, attributes := #[] }, { accessFlags := 265, nameIndex := 727, descriptorIndex := 728, attributes := #[] }] 49 2 #[] #[{ accessFlags := 25, nameIndex := 507, descriptorIndex := 526, attributes := #[] }, { accessFlags := 25, nameIndex := 399, descriptorIndex := 155, attributes := #[] }, { accessFlags := 25, nameIndex := 396, descriptorIndex := 155, attributes := #[] }, { accessFlags := 10, nameIndex := 525, descriptorIndex := 526, attributes := #[] }, { accessFlags := 26, nameIndex := 674, descriptorIndex := 12, attributes := #[] }, { accessFlags := 26, nameIndex := 677, descriptorIndex := 12, attributes := #[] }, { accessFlags := 10, nameIndex := 11, descriptorIndex := 12, attributes := #[] }, { accessFlags := 74, nameIndex := 175, descriptorIndex := 176, attributes := #[] }, { accessFlags := 10, nameIndex := 491, descriptorIndex := 222, attributes := #[] }, { accessFlags := 74, nameIndex := 29, descriptorIndex := 30, attributes := #[] }, { accessFlags := 74, nameIndex := 154, descriptorIndex := 155, attributes := #[] }, { accessFlags := 10, nameIndex := 217, descriptorIndex := 218, attributes := #[] }, { accessFlags := 10, nameIndex := 221, descriptorIndex := 222, attributes := #[] }, { accessFlags := 8, nameIndex := 562, descriptorIndex := 563, attributes := #[] }])
  fields := #[{ name := "in", type := (.object "java/io/InputStream"), accessFlags := 25, slot := 0, constantValue := 0 }, { name := "out", type := (.object "java/io/PrintStream"), accessFlags := 25, slot := 1, constantValue := 0 }, { name := "err", type := (.object "java/io/PrintStream"), accessFlags := 25, slot := 2, constantValue := 0 }, { name := "initialIn", type := (.object "java/io/InputStream"), accessFlags := 10, slot := 3, constantValue := 0 }, { name := "NEVER", type := .int, accessFlags := 26, slot := 4, constantValue := 0 }, { name := "MAYBE", type := .int, accessFlags := 26, slot := 5, constantValue := 0 }, { name := "allowSecurityManager", type := .int, accessFlags := 10, slot := 6, constantValue := 0 }, { name := "security", type := (.object "java/lang/SecurityManager"), accessFlags := 74, slot := 7, constantValue := 0 }, { name := "notSupportedJnuEncoding", type := (.object "java/lang/String"), accessFlags := 10, slot := 8, constantValue := 0 }, { name := "cons", type := (.object "java/io/Console"), accessFlags := 74, slot := 9, constantValue := 0 }, { name := "initialErrStream", type := (.object "java/io/PrintStream"), accessFlags := 74, slot := 10, constantValue := 0 }, { name := "props", type := (.object "java/util/Properties"), accessFlags := 10, slot := 11, constantValue := 0 }, { name := "lineSeparator", type := (.object "java/lang/String"), accessFlags := 10, slot := 12, constantValue := 0 }, { name := "bootLayer", type := (.object "java/lang/ModuleLayer"), accessFlags := 8, slot := 13, constantValue := 0 }]
  methods := #[k19m0, k19m1]
  instanceTypes := #[]
  staticTypes := #[(.object "java/io/InputStream"), (.object "java/io/PrintStream"), (.object "java/io/PrintStream"), (.object "java/io/InputStream"), .int, .int, .int, (.object "java/lang/SecurityManager"), (.object "java/lang/String"), (.object "java/io/Console"), (.object "java/io/PrintStream"), (.object "java/util/Properties"), (.object "java/lang/String"), (.object "java/lang/ModuleLayer")]
  resolved := Array.replicate 834 none
  statics := none }

/-- the primitive byte -/
def k20 : Class := { plain "byte" none with kind := .primitive 'B', accessFlags := 0x411 }
/-- [B -/
def k21 : Class := { plain "[B" (some 0) with kind := .array 20 .byte, interfaces := #[13, 2], accessFlags := 1041 }

/-- the primitive char -/
def k22 : Class := { plain "char" none with kind := .primitive 'C', accessFlags := 0x411 }
/-- [C -/
def k23 : Class := { plain "[C" (some 0) with kind := .array 22 .char, interfaces := #[13, 2], accessFlags := 1041 }

/-- the primitive int -/
def k24 : Class := { plain "int" none with kind := .primitive 'I', accessFlags := 0x411 }
/-- [I -/
def k25 : Class := { plain "[I" (some 0) with kind := .array 24 .int, interfaces := #[13, 2], accessFlags := 1041 }

def heap : Heap := #[{ cls := 7, slots := #[.long 0, .int 1, .null, .int 0, .null, .int 0, .int 0], vm := .statics 7 },
  { cls := 14, slots := #[.int 0, .int 8, .int 0, .int 1], vm := .statics 14 },
  { cls := 16, slots := #[.null, .null, .null], vm := .statics 16 }]
def classes : Array Class := #[k0, k1, k2, k3, k4, k5, k6, k7, k8, k9, k10, k11, k12, k13, k14, k15, k16, k17, k18, k19, k20, k21, k22, k23, k24, k25]
def interned : List (Array UInt16 × Addr) := []
def slotsUsed : Nat := 14
def theMethod : MethodId := ⟨1, 1⟩
def args0 : Array Value := #[.int 5, .int 5, .int 5, .int 5]
def aboutOver (below : List Frame) : State where
  vm := { classes := classes, interned := interned.toArray }
  heap := heap
  slotsUsed := slotsUsed
  threads := #[{ frames := .invoking theMethod args0 :: below }]
def below0 : List Frame := [.native { method := ⟨0, 0⟩, args := #[] }]
def about1 : State := aboutOver below0
def p0 : Program := .bare "" "" ""
def e0 : Env := launch0.env 0 0 0
theorem w_frames : about1.frames = Frame.invoking theMethod args0 :: below0 := rfl
set_option maxRecDepth 65536 in
theorem w_args : argsFit about1.vm theMethod args0 = true := by decide +kernel
set_option maxRecDepth 65536 in
theorem w_heap : heapFits about1 = true := by decide +kernel
set_option maxRecDepth 65536 in
theorem w_runnable : about1.curStatus? = some .runnable := by decide +kernel
set_option maxRecDepth 65536 in
theorem w_alone : about1.alone = true := by decide +kernel
set_option maxRecDepth 65536 in
theorem w_named : about1.methodNamed? x = some theMethod := by decide +kernel
set_option maxRecDepth 65536 in
theorem w_hears : about1.hears theMethod below0 = true := by decide +kernel
set_option maxRecDepth 65536 in
theorem w_ripe : about1.ripe theMethod args0 below0 = true := by decide +kernel
theorem w_running : about1.status = .running := rfl
set_option maxRecDepth 65536 in
theorem w_room : about1.hasRoom e0.platform room_1 = true :=
  launch0.hasRoom_least _ room_1 (by decide +kernel) (by decide +kernel) (by decide +kernel) (by decide +kernel) (by decide +kernel) (by decide +kernel)
theorem allAtoms_all (ts : List Jvm.Cond) (a : Array Jvm.Value) (st : Jvm.State) : (allAtoms ts).before a st = ts.all (fun c => c.before a st) := by
  induction ts with
  | nil => rfl
  | cons c t ih =>
    show (Jvm.Cond.and c (allAtoms t)).before a st = _
    rw [Jvm.Cond.before_and, ih, List.all_cons]
def words1 : List Jvm.Cond := Jvm.Cond.code x code maxLocals ret :: tables_1
/-- a 'code' word, met by the world's own term for the bytes: nothing is compared byte by byte -/
theorem code_word {y : MethodName} {bytes : ByteArray} {mx : Nat} {rt : Option FieldType} {a : Array Value} {s : State} {m : MethodId} {meth : Method} {c : Code} (h1 : s.methodNamed? y = some m) (h2 : s.vm.method? m = some meth) (h3 : meth.code = some c) (h4 : c.code = bytes)
    (h5 : (c.maxLocals == mx && c.exceptionTable.isEmpty && decide (c.maxStack ≤ mostOperands) && decide (meth.sig.returnType = rt) && !meth.locks && decide (parseMethodDescriptor y.desc = some meth.sig)) = true) : (Jvm.Cond.code y bytes mx rt).before a s = true := by
  simp only [Bool.and_eq_true, beq_iff_eq, Bool.not_eq_true', decide_eq_true_eq] at h5
  obtain ⟨⟨⟨⟨⟨g1, g2⟩, g3⟩, g4⟩, g5⟩, g6⟩ := h5
  simp [Cond.before, Cond.holds, Cond.value, h1, h2, h3, h4, g1, g2, g3, g4, g5, g6]
def isCode : Jvm.Cond → Bool
  | .code _ _ _ _ => true
  | _ => false
theorem all_split {L : List Jvm.Cond} {P : Jvm.Cond → Bool} (h1 : L.all (fun c => isCode c || P c) = true) (h2 : ∀ c ∈ L.filter isCode, P c = true) : L.all P = true := by
  refine List.all_eq_true.mpr fun c hc => ?_
  have h := List.all_eq_true.mp h1 c hc
  rcases Bool.eq_false_or_eq_true (isCode c) with hi | hi
  · exact h2 c (List.mem_filter.mpr ⟨hc, hi⟩)
  · simpa [hi] using h
set_option maxRecDepth 65536 in
theorem w_c0 : (Jvm.Cond.code x code maxLocals ret).before args0 about1 = true := code_word (m := ⟨1, 1⟩) (meth := k1m1) (c := k1c1) (by decide +kernel) rfl rfl rfl (by decide +kernel)
set_option maxRecDepth 65536 in
theorem w_c1 : (Jvm.Cond.code ({ cls := "com/example/brasswire/brasswire/page/HtmlEscapePinLaw", name := "draw", desc := "(I)C" } : Jvm.MethodName) method_3_code (2 : Nat) (Option.some Jvm.ClassFile.FieldType.char)).before args0 about1 = true := code_word (m := ⟨1, 2⟩) (meth := k1m2) (c := k1c2) (by decide +kernel) rfl rfl rfl (by decide +kernel)
set_option maxRecDepth 65536 in
theorem w_c2 : (Jvm.Cond.code ({ cls := "java/lang/String", name := "<init>", desc := "([C)V" } : Jvm.MethodName) jdk_42_method_3_code (2 : Nat) (Option.none : Option Jvm.ClassFile.FieldType)).before args0 about1 = true := code_word (m := ⟨7, 1⟩) (meth := k7m1) (c := k7c1) (by decide +kernel) rfl rfl rfl (by decide +kernel)
set_option maxRecDepth 65536 in
theorem w_c3 : (Jvm.Cond.code ({ cls := "java/lang/String", name := "<init>", desc := "([CIILjava/lang/Void;)V" } : Jvm.MethodName) jdk_42_method_149_code (6 : Nat) (Option.none : Option Jvm.ClassFile.FieldType)).before args0 about1 = true := code_word (m := ⟨7, 6⟩) (meth := k7m6) (c := k7c6) (by decide +kernel) rfl rfl rfl (by decide +kernel)
set_option maxRecDepth 65536 in
theorem w_c4 : (Jvm.Cond.code ({ cls := "java/lang/Object", name := "<init>", desc := "()V" } : Jvm.MethodName) object_method_1_code (1 : Nat) (Option.none : Option Jvm.ClassFile.FieldType)).before args0 about1 = true := code_word (m := ⟨0, 0⟩) (meth := k0m0) (c := k0c0) (by decide +kernel) rfl rfl rfl (by decide +kernel)
set_option maxRecDepth 65536 in
theorem w_c5 : (Jvm.Cond.code ({ cls := "com/example/brasswire/brasswire/page/Html", name := "escape", desc := "(Ljava/lang/String;)Ljava/lang/String;" } : Jvm.MethodName) prog_15_method_6_code (4 : Nat) (Option.some (Jvm.ClassFile.FieldType.object "java/lang/String"))).before args0 about1 = true := code_word (m := ⟨8, 1⟩) (meth := k8m1) (c := k8c1) (by decide +kernel) rfl rfl rfl (by decide +kernel)
set_option maxRecDepth 65536 in
theorem w_c6 : (Jvm.Cond.code ({ cls := "java/lang/String", name := "length", desc := "()I" } : Jvm.MethodName) jdk_42_method_54_code (1 : Nat) (Option.some Jvm.ClassFile.FieldType.int)).before args0 about1 = true := code_word (m := ⟨7, 3⟩) (meth := k7m3) (c := k7c3) (by decide +kernel) rfl rfl rfl (by decide +kernel)
set_option maxRecDepth 65536 in
theorem w_c7 : (Jvm.Cond.code ({ cls := "java/lang/String", name := "coder", desc := "()B" } : Jvm.MethodName) jdk_42_method_152_code (1 : Nat) (Option.some Jvm.ClassFile.FieldType.byte)).before args0 about1 = true := code_word (m := ⟨7, 8⟩) (meth := k7m8) (c := k7c8) (by decide +kernel) rfl rfl rfl (by decide +kernel)
set_option maxRecDepth 65536 in
theorem w_c8 : (Jvm.Cond.code ({ cls := "java/lang/StringBuilder", name := "<init>", desc := "(I)V" } : Jvm.MethodName) jdk_67_method_2_code (2 : Nat) (Option.none : Option Jvm.ClassFile.FieldType)).before args0 about1 = true := code_word (m := ⟨11, 1⟩) (meth := k11m1) (c := k11c1) (by decide +kernel) rfl rfl rfl (by decide +kernel)
set_option maxRecDepth 65536 in
theorem w_c9 : (Jvm.Cond.code ({ cls := "java/lang/AbstractStringBuilder", name := "<init>", desc := "(I)V" } : Jvm.MethodName) jdk_68_method_2_code (2 : Nat) (Option.none : Option Jvm.ClassFile.FieldType)).before args0 about1 = true := code_word (m := ⟨10, 1⟩) (meth := k10m1) (c := k10c1) (by decide +kernel) rfl rfl rfl (by decide +kernel)
set_option maxRecDepth 65536 in
theorem w_c10 : (Jvm.Cond.code ({ cls := "java/lang/StringBuilder", name := "toString", desc := "()Ljava/lang/String;" } : Jvm.MethodName) jdk_67_method_42_code (1 : Nat) (Option.some (Jvm.ClassFile.FieldType.object "java/lang/String"))).before args0 about1 = true := code_word (m := ⟨11, 4⟩) (meth := k11m4) (c := k11c4) (by decide +kernel) rfl rfl rfl (by decide +kernel)
set_option maxRecDepth 65536 in
theorem w_c11 : (Jvm.Cond.code ({ cls := "java/lang/String", name := "<init>", desc := "(Ljava/lang/StringBuilder;)V" } : Jvm.MethodName) jdk_42_method_53_code (2 : Nat) (Option.none : Option Jvm.ClassFile.FieldType)).before args0 about1 = true := code_word (m := ⟨7, 2⟩) (meth := k7m2) (c := k7c2) (by decide +kernel) rfl rfl rfl (by decide +kernel)
set_option maxRecDepth 65536 in
theorem w_c12 : (Jvm.Cond.code ({ cls := "java/lang/String", name := "<init>", desc := "(Ljava/lang/AbstractStringBuilder;Ljava/lang/Void;)V" } : Jvm.MethodName) jdk_42_method_150_code (5 : Nat) (Option.none : Option Jvm.ClassFile.FieldType)).before args0 about1 = true := code_word (m := ⟨7, 7⟩) (meth := k7m7) (c := k7c7) (by decide +kernel) rfl rfl rfl (by decide +kernel)
set_option maxRecDepth 65536 in
theorem w_c13 : (Jvm.Cond.code ({ cls := "java/lang/AbstractStringBuilder", name := "getValue", desc := "()[B" } : Jvm.MethodName) jdk_68_method_64_code (1 : Nat) (Option.some (Jvm.ClassFile.FieldType.array Jvm.ClassFile.FieldType.byte))).before args0 about1 = true := code_word (m := ⟨10, 8⟩) (meth := k10m8) (c := k10c8) (by decide +kernel) rfl rfl rfl (by decide +kernel)
set_option maxRecDepth 65536 in
theorem w_c14 : (Jvm.Cond.code ({ cls := "java/lang/StringBuilder", name := "length", desc := "()I" } : Jvm.MethodName) jdk_67_method_93_code (1 : Nat) (Option.some Jvm.ClassFile.FieldType.int)).before args0 about1 = true := code_word (m := ⟨11, 5⟩) (meth := k11m5) (c := k11c5) (by decide +kernel) rfl rfl rfl (by decide +kernel)
set_option maxRecDepth 65536 in
theorem w_c15 : (Jvm.Cond.code ({ cls := "java/lang/AbstractStringBuilder", name := "length", desc := "()I" } : Jvm.MethodName) jdk_68_method_6_code (1 : Nat) (Option.some Jvm.ClassFile.FieldType.int)).before args0 about1 = true := code_word (m := ⟨10, 2⟩) (meth := k10m2) (c := k10c2) (by decide +kernel) rfl rfl rfl (by decide +kernel)
set_option maxRecDepth 65536 in
theorem w_c16 : (Jvm.Cond.code ({ cls := "java/lang/AbstractStringBuilder", name := "isLatin1", desc := "()Z" } : Jvm.MethodName) jdk_68_method_68_code (1 : Nat) (Option.some Jvm.ClassFile.FieldType.boolean)).before args0 about1 = true := code_word (m := ⟨10, 9⟩) (meth := k10m9) (c := k10c9) (by decide +kernel) rfl rfl rfl (by decide +kernel)
set_option maxRecDepth 65536 in
theorem w_c17 : (Jvm.Cond.code ({ cls := "java/util/Arrays", name := "copyOfRange", desc := "([BII)[B" } : Jvm.MethodName) jdk_65_method_132_code (3 : Nat) (Option.some (Jvm.ClassFile.FieldType.array Jvm.ClassFile.FieldType.byte))).before args0 about1 = true := code_word (m := ⟨12, 3⟩) (meth := k12m3) (c := k12c3) (by decide +kernel) rfl rfl rfl (by decide +kernel)
set_option maxRecDepth 65536 in
theorem w_c18 : (Jvm.Cond.code ({ cls := "com/example/brasswire/brasswire/page/HtmlEscapePinLaw", name := "same", desc := "(Ljava/lang/String;[CII)Z" } : Jvm.MethodName) method_5_code (4 : Nat) (Option.some Jvm.ClassFile.FieldType.boolean)).before args0 about1 = true := code_word (m := ⟨1, 4⟩) (meth := k1m4) (c := k1c4) (by decide +kernel) rfl rfl rfl (by decide +kernel)
set_option maxRecDepth 65536 in
theorem w_c19 : (Jvm.Cond.code ({ cls := "java/lang/StringUTF16", name := "compress", desc := "([CII)[B" } : Jvm.MethodName) jdk_52_method_16_code (6 : Nat) (Option.some (Jvm.ClassFile.FieldType.array Jvm.ClassFile.FieldType.byte))).before args0 about1 = true := code_word (m := ⟨14, 8⟩) (meth := k14m8) (c := k14c8) (by decide +kernel) rfl rfl rfl (by decide +kernel)
set_option maxRecDepth 65536 in
theorem w_c20 : (Jvm.Cond.code ({ cls := "java/lang/StringUTF16", name := "compress", desc := "([CI[BII)I" } : Jvm.MethodName) jdk_52_method_21_code (7 : Nat) (Option.some Jvm.ClassFile.FieldType.int)).before args0 about1 = true := code_word (m := ⟨14, 9⟩) (meth := k14m9) (c := k14c9) (by decide +kernel) rfl rfl rfl (by decide +kernel)
set_option maxRecDepth 65536 in
theorem w_c21 : (Jvm.Cond.code ({ cls := "java/lang/StringUTF16", name := "coderFromArrayLen", desc := "([BI)B" } : Jvm.MethodName) jdk_52_method_15_code (2 : Nat) (Option.some Jvm.ClassFile.FieldType.byte)).before args0 about1 = true := code_word (m := ⟨14, 7⟩) (meth := k14m7) (c := k14c7) (by decide +kernel) rfl rfl rfl (by decide +kernel)
set_option maxRecDepth 65536 in
theorem w_c22 : (Jvm.Cond.code ({ cls := "com/example/brasswire/brasswire/page/HtmlEscapePinLaw", name := "put", desc := "([CIC)I" } : Jvm.MethodName) method_4_code (3 : Nat) (Option.some Jvm.ClassFile.FieldType.int)).before args0 about1 = true := code_word (m := ⟨1, 3⟩) (meth := k1m3) (c := k1c3) (by decide +kernel) rfl rfl rfl (by decide +kernel)
set_option maxRecDepth 65536 in
theorem w_c23 : (Jvm.Cond.code ({ cls := "java/lang/String", name := "charAt", desc := "(I)C" } : Jvm.MethodName) jdk_42_method_56_code (2 : Nat) (Option.some Jvm.ClassFile.FieldType.char)).before args0 about1 = true := code_word (m := ⟨7, 4⟩) (meth := k7m4) (c := k7c4) (by decide +kernel) rfl rfl rfl (by decide +kernel)
set_option maxRecDepth 65536 in
theorem w_c24 : (Jvm.Cond.code ({ cls := "java/lang/String", name := "isLatin1", desc := "()Z" } : Jvm.MethodName) jdk_42_method_154_code (1 : Nat) (Option.some Jvm.ClassFile.FieldType.boolean)).before args0 about1 = true := code_word (m := ⟨7, 9⟩) (meth := k7m9) (c := k7c9) (by decide +kernel) rfl rfl rfl (by decide +kernel)
set_option maxRecDepth 65536 in
theorem w_c25 : (Jvm.Cond.code ({ cls := "java/lang/StringLatin1", name := "charAt", desc := "([BI)C" } : Jvm.MethodName) jdk_43_method_2_code (2 : Nat) (Option.some Jvm.ClassFile.FieldType.char)).before args0 about1 = true := code_word (m := ⟨15, 1⟩) (meth := k15m1) (c := k15c1) (by decide +kernel) rfl rfl rfl (by decide +kernel)
set_option maxRecDepth 65536 in
theorem w_c26 : (Jvm.Cond.code ({ cls := "java/lang/String", name := "checkIndex", desc := "(II)V" } : Jvm.MethodName) jdk_42_method_155_code (2 : Nat) (Option.none : Option Jvm.ClassFile.FieldType)).before args0 about1 = true := code_word (m := ⟨7, 10⟩) (meth := k7m10) (c := k7c10) (by decide +kernel) rfl rfl rfl (by decide +kernel)
set_option maxRecDepth 65536 in
theorem w_c27 : (Jvm.Cond.code ({ cls := "jdk/internal/util/Preconditions", name := "checkIndex", desc := "(IILjava/util/function/BiFunction;)I" } : Jvm.MethodName) jdk_41_method_11_code (3 : Nat) (Option.some Jvm.ClassFile.FieldType.int)).before args0 about1 = true := code_word (m := ⟨16, 1⟩) (meth := k16m1) (c := k16c1) (by decide +kernel) rfl rfl rfl (by decide +kernel)
set_option maxRecDepth 65536 in
theorem w_c28 : (Jvm.Cond.code ({ cls := "java/lang/StringBuilder", name := "append", desc := "(C)Ljava/lang/StringBuilder;" } : Jvm.MethodName) jdk_67_method_14_code (2 : Nat) (Option.some (Jvm.ClassFile.FieldType.object "java/lang/StringBuilder"))).before args0 about1 = true := code_word (m := ⟨11, 3⟩) (meth := k11m3) (c := k11c3) (by decide +kernel) rfl rfl rfl (by decide +kernel)
set_option maxRecDepth 65536 in
theorem w_c29 : (Jvm.Cond.code ({ cls := "java/lang/AbstractStringBuilder", name := "append", desc := "(C)Ljava/lang/AbstractStringBuilder;" } : Jvm.MethodName) jdk_68_method_31_code (2 : Nat) (Option.some (Jvm.ClassFile.FieldType.object "java/lang/AbstractStringBuilder"))).before args0 about1 = true := code_word (m := ⟨10, 7⟩) (meth := k10m7) (c := k10c7) (by decide +kernel) rfl rfl rfl (by decide +kernel)
set_option maxRecDepth 65536 in
theorem w_c30 : (Jvm.Cond.code ({ cls := "java/lang/AbstractStringBuilder", name := "ensureCapacityInternal", desc := "(I)V" } : Jvm.MethodName) jdk_68_method_9_code (3 : Nat) (Option.none : Option Jvm.ClassFile.FieldType)).before args0 about1 = true := code_word (m := ⟨10, 3⟩) (meth := k10m3) (c := k10c3) (by decide +kernel) rfl rfl rfl (by decide +kernel)
set_option maxRecDepth 65536 in
theorem w_c31 : (Jvm.Cond.code ({ cls := "java/lang/StringLatin1", name := "canEncode", desc := "(C)Z" } : Jvm.MethodName) jdk_43_method_3_code (1 : Nat) (Option.some Jvm.ClassFile.FieldType.boolean)).before args0 about1 = true := code_word (m := ⟨15, 2⟩) (meth := k15m2) (c := k15c2) (by decide +kernel) rfl rfl rfl (by decide +kernel)
set_option maxRecDepth 65536 in
theorem w_c32 : (Jvm.Cond.code ({ cls := "java/lang/StringBuilder", name := "append", desc := "(Ljava/lang/String;)Ljava/lang/StringBuilder;" } : Jvm.MethodName) jdk_67_method_7_code (2 : Nat) (Option.some (Jvm.ClassFile.FieldType.object "java/lang/StringBuilder"))).before args0 about1 = true := code_word (m := ⟨11, 2⟩) (meth := k11m2) (c := k11c2) (by decide +kernel) rfl rfl rfl (by decide +kernel)
set_option maxRecDepth 65536 in
theorem w_c33 : (Jvm.Cond.code ({ cls := "java/lang/AbstractStringBuilder", name := "append", desc := "(Ljava/lang/String;)Ljava/lang/AbstractStringBuilder;" } : Jvm.MethodName) jdk_68_method_22_code (3 : Nat) (Option.some (Jvm.ClassFile.FieldType.object "java/lang/AbstractStringBuilder"))).before args0 about1 = true := code_word (m := ⟨10, 6⟩) (meth := k10m6) (c := k10c6) (by decide +kernel) rfl rfl rfl (by decide +kernel)
set_option maxRecDepth 65536 in
theorem w_c34 : (Jvm.Cond.code ({ cls := "java/lang/AbstractStringBuilder", name := "newCapacity", desc := "(I)I" } : Jvm.MethodName) jdk_68_method_10_code (6 : Nat) (Option.some Jvm.ClassFile.FieldType.int)).before args0 about1 = true := code_word (m := ⟨10, 4⟩) (meth := k10m4) (c := k10c4) (by decide +kernel) rfl rfl rfl (by decide +kernel)
set_option maxRecDepth 65536 in
theorem w_c35 : (Jvm.Cond.code ({ cls := "jdk/internal/util/ArraysSupport", name := "newLength", desc := "(III)I" } : Jvm.MethodName) jdk_48_method_27_code (4 : Nat) (Option.some Jvm.ClassFile.FieldType.int)).before args0 about1 = true := code_word (m := ⟨17, 1⟩) (meth := k17m1) (c := k17c1) (by decide +kernel) rfl rfl rfl (by decide +kernel)
set_option maxRecDepth 65536 in
theorem w_c36 : (Jvm.Cond.code ({ cls := "java/lang/Math", name := "max", desc := "(II)I" } : Jvm.MethodName) jdk_29_method_65_code (2 : Nat) (Option.some Jvm.ClassFile.FieldType.int)).before args0 about1 = true := code_word (m := ⟨18, 1⟩) (meth := k18m1) (c := k18c1) (by decide +kernel) rfl rfl rfl (by decide +kernel)
set_option maxRecDepth 65536 in
theorem w_c37 : (Jvm.Cond.code ({ cls := "java/util/Arrays", name := "copyOf", desc := "([BI)[B" } : Jvm.MethodName) jdk_65_method_121_code (3 : Nat) (Option.some (Jvm.ClassFile.FieldType.array Jvm.ClassFile.FieldType.byte))).before args0 about1 = true := code_word (m := ⟨12, 1⟩) (meth := k12m1) (c := k12c1) (by decide +kernel) rfl rfl rfl (by decide +kernel)
set_option maxRecDepth 65536 in
theorem w_c38 : (Jvm.Cond.code ({ cls := "java/lang/Math", name := "min", desc := "(II)I" } : Jvm.MethodName) jdk_29_method_69_code (2 : Nat) (Option.some Jvm.ClassFile.FieldType.int)).before args0 about1 = true := code_word (m := ⟨18, 2⟩) (meth := k18m2) (c := k18c2) (by decide +kernel) rfl rfl rfl (by decide +kernel)
set_option maxRecDepth 65536 in
theorem w_c39 : (Jvm.Cond.code ({ cls := "java/lang/AbstractStringBuilder", name := "putStringAt", desc := "(ILjava/lang/String;)V" } : Jvm.MethodName) jdk_68_method_73_code (3 : Nat) (Option.none : Option Jvm.ClassFile.FieldType)).before args0 about1 = true := code_word (m := ⟨10, 11⟩) (meth := k10m11) (c := k10c11) (by decide +kernel) rfl rfl rfl (by decide +kernel)
set_option maxRecDepth 65536 in
theorem w_c40 : (Jvm.Cond.code ({ cls := "java/lang/AbstractStringBuilder", name := "inflateIfNeededFor", desc := "(Ljava/lang/String;)V" } : Jvm.MethodName) jdk_68_method_71_code (2 : Nat) (Option.none : Option Jvm.ClassFile.FieldType)).before args0 about1 = true := code_word (m := ⟨10, 10⟩) (meth := k10m10) (c := k10c10) (by decide +kernel) rfl rfl rfl (by decide +kernel)
set_option maxRecDepth 65536 in
theorem w_c41 : (Jvm.Cond.code ({ cls := "java/lang/String", name := "getBytes", desc := "([BIB)V" } : Jvm.MethodName) jdk_42_method_147_code (4 : Nat) (Option.none : Option Jvm.ClassFile.FieldType)).before args0 about1 = true := code_word (m := ⟨7, 5⟩) (meth := k7m5) (c := k7c5) (by decide +kernel) rfl rfl rfl (by decide +kernel)
set_option maxRecDepth 65536 in
theorem w_c42 : (Jvm.Cond.code ({ cls := "java/util/Arrays", name := "copyOfRangeByte", desc := "([BII)[B" } : Jvm.MethodName) jdk_65_method_133_code (5 : Nat) (Option.some (Jvm.ClassFile.FieldType.array Jvm.ClassFile.FieldType.byte))).before args0 about1 = true := code_word (m := ⟨12, 4⟩) (meth := k12m4) (c := k12c4) (by decide +kernel) rfl rfl rfl (by decide +kernel)
set_option maxRecDepth 65536 in
theorem w_c43 : (Jvm.Cond.code ({ cls := "java/util/Arrays", name := "checkLength", desc := "(II)V" } : Jvm.MethodName) jdk_65_method_131_code (2 : Nat) (Option.none : Option Jvm.ClassFile.FieldType)).before args0 about1 = true := code_word (m := ⟨12, 2⟩) (meth := k12m2) (c := k12c2) (by decide +kernel) rfl rfl rfl (by decide +kernel)
set_option maxRecDepth 65536 in
theorem w_c44 : (Jvm.Cond.code ({ cls := "java/lang/StringUTF16", name := "toBytes", desc := "([CII)[B" } : Jvm.MethodName) jdk_52_method_14_code (5 : Nat) (Option.some (Jvm.ClassFile.FieldType.array Jvm.ClassFile.FieldType.byte))).before args0 about1 = true := code_word (m := ⟨14, 6⟩) (meth := k14m6) (c := k14c6) (by decide +kernel) rfl rfl rfl (by decide +kernel)
set_option maxRecDepth 65536 in
theorem w_c45 : (Jvm.Cond.code ({ cls := "java/lang/StringUTF16", name := "newBytesFor", desc := "(I)[B" } : Jvm.MethodName) jdk_52_method_2_code (1 : Nat) (Option.some (Jvm.ClassFile.FieldType.array Jvm.ClassFile.FieldType.byte))).before args0 about1 = true := code_word (m := ⟨14, 1⟩) (meth := k14m1) (c := k14c1) (by decide +kernel) rfl rfl rfl (by decide +kernel)
set_option maxRecDepth 65536 in
theorem w_c46 : (Jvm.Cond.code ({ cls := "java/lang/StringUTF16", name := "newBytesLength", desc := "(I)I" } : Jvm.MethodName) jdk_52_method_3_code (1 : Nat) (Option.some Jvm.ClassFile.FieldType.int)).before args0 about1 = true := code_word (m := ⟨14, 2⟩) (meth := k14m2) (c := k14c2) (by decide +kernel) rfl rfl rfl (by decide +kernel)
set_option maxRecDepth 65536 in
theorem w_c47 : (Jvm.Cond.code ({ cls := "java/lang/StringUTF16", name := "putChar", desc := "([BII)V" } : Jvm.MethodName) jdk_52_method_4_code (3 : Nat) (Option.none : Option Jvm.ClassFile.FieldType)).before args0 about1 = true := code_word (m := ⟨14, 3⟩) (meth := k14m3) (c := k14c3) (by decide +kernel) rfl rfl rfl (by decide +kernel)
set_option maxRecDepth 65536 in
theorem w_c48 : (Jvm.Cond.code ({ cls := "java/lang/StringUTF16", name := "getChar", desc := "([BI)C" } : Jvm.MethodName) jdk_52_method_5_code (2 : Nat) (Option.some Jvm.ClassFile.FieldType.char)).before args0 about1 = true := code_word (m := ⟨14, 4⟩) (meth := k14m4) (c := k14c4) (by decide +kernel) rfl rfl rfl (by decide +kernel)
set_option maxRecDepth 65536 in
theorem w_c49 : (Jvm.Cond.code ({ cls := "java/lang/StringUTF16", name := "charAt", desc := "([BI)C" } : Jvm.MethodName) jdk_52_method_83_code (2 : Nat) (Option.some Jvm.ClassFile.FieldType.char)).before args0 about1 = true := code_word (m := ⟨14, 11⟩) (meth := k14m11) (c := k14c11) (by decide +kernel) rfl rfl rfl (by decide +kernel)
set_option maxRecDepth 65536 in
theorem w_c50 : (Jvm.Cond.code ({ cls := "java/lang/StringUTF16", name := "checkIndex", desc := "(I[B)V" } : Jvm.MethodName) jdk_52_method_91_code (2 : Nat) (Option.none : Option Jvm.ClassFile.FieldType)).before args0 about1 = true := code_word (m := ⟨14, 13⟩) (meth := k14m13) (c := k14c13) (by decide +kernel) rfl rfl rfl (by decide +kernel)
set_option maxRecDepth 65536 in
theorem w_c51 : (Jvm.Cond.code ({ cls := "java/lang/StringUTF16", name := "length", desc := "([B)I" } : Jvm.MethodName) jdk_52_method_6_code (1 : Nat) (Option.some Jvm.ClassFile.FieldType.int)).before args0 about1 = true := code_word (m := ⟨14, 5⟩) (meth := k14m5) (c := k14c5) (by decide +kernel) rfl rfl rfl (by decide +kernel)
set_option maxRecDepth 65536 in
theorem w_c52 : (Jvm.Cond.code ({ cls := "java/lang/AbstractStringBuilder", name := "inflate", desc := "()V" } : Jvm.MethodName) jdk_68_method_11_code (2 : Nat) (Option.none : Option Jvm.ClassFile.FieldType)).before args0 about1 = true := code_word (m := ⟨10, 5⟩) (meth := k10m5) (c := k10c5) (by decide +kernel) rfl rfl rfl (by decide +kernel)
set_option maxRecDepth 65536 in
theorem w_c53 : (Jvm.Cond.code ({ cls := "java/lang/StringLatin1", name := "inflate", desc := "([BI[BII)V" } : Jvm.MethodName) jdk_43_method_50_code (5 : Nat) (Option.none : Option Jvm.ClassFile.FieldType)).before args0 about1 = true := code_word (m := ⟨15, 3⟩) (meth := k15m3) (c := k15c3) (by decide +kernel) rfl rfl rfl (by decide +kernel)
set_option maxRecDepth 65536 in
theorem w_c54 : (Jvm.Cond.code ({ cls := "java/lang/StringUTF16", name := "inflate", desc := "([BI[BII)V" } : Jvm.MethodName) jdk_52_method_86_code (6 : Nat) (Option.none : Option Jvm.ClassFile.FieldType)).before args0 about1 = true := code_word (m := ⟨14, 12⟩) (meth := k14m12) (c := k14c12) (by decide +kernel) rfl rfl rfl (by decide +kernel)
set_option maxRecDepth 65536 in
theorem w_c55 : (Jvm.Cond.code ({ cls := "java/lang/StringUTF16", name := "checkBoundsOffCount", desc := "(II[B)V" } : Jvm.MethodName) jdk_52_method_94_code (3 : Nat) (Option.none : Option Jvm.ClassFile.FieldType)).before args0 about1 = true := code_word (m := ⟨14, 14⟩) (meth := k14m14) (c := k14c14) (by decide +kernel) rfl rfl rfl (by decide +kernel)
set_option maxRecDepth 65536 in
theorem w_c56 : (Jvm.Cond.code ({ cls := "java/lang/String", name := "checkBoundsOffCount", desc := "(III)I" } : Jvm.MethodName) jdk_42_method_157_code (3 : Nat) (Option.some Jvm.ClassFile.FieldType.int)).before args0 about1 = true := code_word (m := ⟨7, 11⟩) (meth := k7m11) (c := k7c11) (by decide +kernel) rfl rfl rfl (by decide +kernel)
set_option maxRecDepth 65536 in
theorem w_c57 : (Jvm.Cond.code ({ cls := "jdk/internal/util/Preconditions", name := "checkFromIndexSize", desc := "(IIILjava/util/function/BiFunction;)I" } : Jvm.MethodName) jdk_41_method_13_code (4 : Nat) (Option.some Jvm.ClassFile.FieldType.int)).before args0 about1 = true := code_word (m := ⟨16, 2⟩) (meth := k16m2) (c := k16c2) (by decide +kernel) rfl rfl rfl (by decide +kernel)
set_option maxRecDepth 65536 in
theorem w_c58 : (Jvm.Cond.code ({ cls := "java/lang/StringUTF16", name := "putCharSB", desc := "([BII)V" } : Jvm.MethodName) jdk_52_method_71_code (3 : Nat) (Option.none : Option Jvm.ClassFile.FieldType)).before args0 about1 = true := code_word (m := ⟨14, 10⟩) (meth := k14m10) (c := k14c10) (by decide +kernel) rfl rfl rfl (by decide +kernel)
def codes1 : List Jvm.Cond := [Jvm.Cond.code x code maxLocals ret, Jvm.Cond.code ({ cls := "com/example/brasswire/brasswire/page/HtmlEscapePinLaw", name := "draw", desc := "(I)C" } : Jvm.MethodName) method_3_code (2 : Nat) (Option.some Jvm.ClassFile.FieldType.char), Jvm.Cond.code ({ cls := "java/lang/String", name := "<init>", desc := "([C)V" } : Jvm.MethodName) jdk_42_method_3_code (2 : Nat) (Option.none : Option Jvm.ClassFile.FieldType), Jvm.Cond.code ({ cls := "java/lang/String", name := "<init>", desc := "([CIILjava/lang/Void;)V" } : Jvm.MethodName) jdk_42_method_149_code (6 : Nat) (Option.none : Option Jvm.ClassFile.FieldType), Jvm.Cond.code ({ cls := "java/lang/Object", name := "<init>", desc := "()V" } : Jvm.MethodName) object_method_1_code (1 : Nat) (Option.none : Option Jvm.ClassFile.FieldType), Jvm.Cond.code ({ cls := "com/example/brasswire/brasswire/page/Html", name := "escape", desc := "(Ljava/lang/String;)Ljava/lang/String;" } : Jvm.MethodName) prog_15_method_6_code (4 : Nat) (Option.some (Jvm.ClassFile.FieldType.object "java/lang/String")), Jvm.Cond.code ({ cls := "java/lang/String", name := "length", desc := "()I" } : Jvm.MethodName) jdk_42_method_54_code (1 : Nat) (Option.some Jvm.ClassFile.FieldType.int), Jvm.Cond.code ({ cls := "java/lang/String", name := "coder", desc := "()B" } : Jvm.MethodName) jdk_42_method_152_code (1 : Nat) (Option.some Jvm.ClassFile.FieldType.byte), Jvm.Cond.code ({ cls := "java/lang/StringBuilder", name := "<init>", desc := "(I)V" } : Jvm.MethodName) jdk_67_method_2_code (2 : Nat) (Option.none : Option Jvm.ClassFile.FieldType), Jvm.Cond.code ({ cls := "java/lang/AbstractStringBuilder", name := "<init>", desc := "(I)V" } : Jvm.MethodName) jdk_68_method_2_code (2 : Nat) (Option.none : Option Jvm.ClassFile.FieldType), Jvm.Cond.code ({ cls := "java/lang/StringBuilder", name := "toString", desc := "()Ljava/lang/String;" } : Jvm.MethodName) jdk_67_method_42_code (1 : Nat) (Option.some (Jvm.ClassFile.FieldType.object "java/lang/String")), Jvm.Cond.code ({ cls := "java/lang/String", name := "<init>", desc := "(Ljava/lang/StringBuilder;)V" } : Jvm.MethodName) jdk_42_method_53_code (2 : Nat) (Option.none : Option Jvm.ClassFile.FieldType), Jvm.Cond.code ({ cls := "java/lang/String", name := "<init>", desc := "(Ljava/lang/AbstractStringBuilder;Ljava/lang/Void;)V" } : Jvm.MethodName) jdk_42_method_150_code (5 : Nat) (Option.none : Option Jvm.ClassFile.FieldType), Jvm.Cond.code ({ cls := "java/lang/AbstractStringBuilder", name := "getValue", desc := "()[B" } : Jvm.MethodName) jdk_68_method_64_code (1 : Nat) (Option.some (Jvm.ClassFile.FieldType.array Jvm.ClassFile.FieldType.byte)), Jvm.Cond.code ({ cls := "java/lang/StringBuilder", name := "length", desc := "()I" } : Jvm.MethodName) jdk_67_method_93_code (1 : Nat) (Option.some Jvm.ClassFile.FieldType.int), Jvm.Cond.code ({ cls := "java/lang/AbstractStringBuilder", name := "length", desc := "()I" } : Jvm.MethodName) jdk_68_method_6_code (1 : Nat) (Option.some Jvm.ClassFile.FieldType.int), Jvm.Cond.code ({ cls := "java/lang/AbstractStringBuilder", name := "isLatin1", desc := "()Z" } : Jvm.MethodName) jdk_68_method_68_code (1 : Nat) (Option.some Jvm.ClassFile.FieldType.boolean), Jvm.Cond.code ({ cls := "java/util/Arrays", name := "copyOfRange", desc := "([BII)[B" } : Jvm.MethodName) jdk_65_method_132_code (3 : Nat) (Option.some (Jvm.ClassFile.FieldType.array Jvm.ClassFile.FieldType.byte)), Jvm.Cond.code ({ cls := "com/example/brasswire/brasswire/page/HtmlEscapePinLaw", name := "same", desc := "(Ljava/lang/String;[CII)Z" } : Jvm.MethodName) method_5_code (4 : Nat) (Option.some Jvm.ClassFile.FieldType.boolean), Jvm.Cond.code ({ cls := "java/lang/StringUTF16", name := "compress", desc := "([CII)[B" } : Jvm.MethodName) jdk_52_method_16_code (6 : Nat) (Option.some (Jvm.ClassFile.FieldType.array Jvm.ClassFile.FieldType.byte)), Jvm.Cond.code ({ cls := "java/lang/StringUTF16", name := "compress", desc := "([CI[BII)I" } : Jvm.MethodName) jdk_52_method_21_code (7 : Nat) (Option.some Jvm.ClassFile.FieldType.int), Jvm.Cond.code ({ cls := "java/lang/StringUTF16", name := "coderFromArrayLen", desc := "([BI)B" } : Jvm.MethodName) jdk_52_method_15_code (2 : Nat) (Option.some Jvm.ClassFile.FieldType.byte), Jvm.Cond.code ({ cls := "com/example/brasswire/brasswire/page/HtmlEscapePinLaw", name := "put", desc := "([CIC)I" } : Jvm.MethodName) method_4_code (3 : Nat) (Option.some Jvm.ClassFile.FieldType.int), Jvm.Cond.code ({ cls := "java/lang/String", name := "charAt", desc := "(I)C" } : Jvm.MethodName) jdk_42_method_56_code (2 : Nat) (Option.some Jvm.ClassFile.FieldType.char), Jvm.Cond.code ({ cls := "java/lang/String", name := "isLatin1", desc := "()Z" } : Jvm.MethodName) jdk_42_method_154_code (1 : Nat) (Option.some Jvm.ClassFile.FieldType.boolean), Jvm.Cond.code ({ cls := "java/lang/StringLatin1", name := "charAt", desc := "([BI)C" } : Jvm.MethodName) jdk_43_method_2_code (2 : Nat) (Option.some Jvm.ClassFile.FieldType.char), Jvm.Cond.code ({ cls := "java/lang/String", name := "checkIndex", desc := "(II)V" } : Jvm.MethodName) jdk_42_method_155_code (2 : Nat) (Option.none : Option Jvm.ClassFile.FieldType), Jvm.Cond.code ({ cls := "jdk/internal/util/Preconditions", name := "checkIndex", desc := "(IILjava/util/function/BiFunction;)I" } : Jvm.MethodName) jdk_41_method_11_code (3 : Nat) (Option.some Jvm.ClassFile.FieldType.int), Jvm.Cond.code ({ cls := "java/lang/StringBuilder", name := "append", desc := "(C)Ljava/lang/StringBuilder;" } : Jvm.MethodName) jdk_67_method_14_code (2 : Nat) (Option.some (Jvm.ClassFile.FieldType.object "java/lang/StringBuilder")), Jvm.Cond.code ({ cls := "java/lang/AbstractStringBuilder", name := "append", desc := "(C)Ljava/lang/AbstractStringBuilder;" } : Jvm.MethodName) jdk_68_method_31_code (2 : Nat) (Option.some (Jvm.ClassFile.FieldType.object "java/lang/AbstractStringBuilder")), Jvm.Cond.code ({ cls := "java/lang/AbstractStringBuilder", name := "ensureCapacityInternal", desc := "(I)V" } : Jvm.MethodName) jdk_68_method_9_code (3 : Nat) (Option.none : Option Jvm.ClassFile.FieldType), Jvm.Cond.code ({ cls := "java/lang/StringLatin1", name := "canEncode", desc := "(C)Z" } : Jvm.MethodName) jdk_43_method_3_code (1 : Nat) (Option.some Jvm.ClassFile.FieldType.boolean), Jvm.Cond.code ({ cls := "java/lang/StringBuilder", name := "append", desc := "(Ljava/lang/String;)Ljava/lang/StringBuilder;" } : Jvm.MethodName) jdk_67_method_7_code (2 : Nat) (Option.some (Jvm.ClassFile.FieldType.object "java/lang/StringBuilder")), Jvm.Cond.code ({ cls := "java/lang/AbstractStringBuilder", name := "append", desc := "(Ljava/lang/String;)Ljava/lang/AbstractStringBuilder;" } : Jvm.MethodName) jdk_68_method_22_code (3 : Nat) (Option.some (Jvm.ClassFile.FieldType.object "java/lang/AbstractStringBuilder")), Jvm.Cond.code ({ cls := "java/lang/AbstractStringBuilder", name := "newCapacity", desc := "(I)I" } : Jvm.MethodName) jdk_68_method_10_code (6 : Nat) (Option.some Jvm.ClassFile.FieldType.int), Jvm.Cond.code ({ cls := "jdk/internal/util/ArraysSupport", name := "newLength", desc := "(III)I" } : Jvm.MethodName) jdk_48_method_27_code (4 : Nat) (Option.some Jvm.ClassFile.FieldType.int), Jvm.Cond.code ({ cls := "java/lang/Math", name := "max", desc := "(II)I" } : Jvm.MethodName) jdk_29_method_65_code (2 : Nat) (Option.some Jvm.ClassFile.FieldType.int), Jvm.Cond.code ({ cls := "java/util/Arrays", name := "copyOf", desc := "([BI)[B" } : Jvm.MethodName) jdk_65_method_121_code (3 : Nat) (Option.some (Jvm.ClassFile.FieldType.array Jvm.ClassFile.FieldType.byte)), Jvm.Cond.code ({ cls := "java/lang/Math", name := "min", desc := "(II)I" } : Jvm.MethodName) jdk_29_method_69_code (2 : Nat) (Option.some Jvm.ClassFile.FieldType.int), Jvm.Cond.code ({ cls := "java/lang/AbstractStringBuilder", name := "putStringAt", desc := "(ILjava/lang/String;)V" } : Jvm.MethodName) jdk_68_method_73_code (3 : Nat) (Option.none : Option Jvm.ClassFile.FieldType), Jvm.Cond.code ({ cls := "java/lang/AbstractStringBuilder", name := "inflateIfNeededFor", desc := "(Ljava/lang/String;)V" } : Jvm.MethodName) jdk_68_method_71_code (2 : Nat) (Option.none : Option Jvm.ClassFile.FieldType), Jvm.Cond.code ({ cls := "java/lang/String", name := "getBytes", desc := "([BIB)V" } : Jvm.MethodName) jdk_42_method_147_code (4 : Nat) (Option.none : Option Jvm.ClassFile.FieldType), Jvm.Cond.code ({ cls := "java/util/Arrays", name := "copyOfRangeByte", desc := "([BII)[B" } : Jvm.MethodName) jdk_65_method_133_code (5 : Nat) (Option.some (Jvm.ClassFile.FieldType.array Jvm.ClassFile.FieldType.byte)), Jvm.Cond.code ({ cls := "java/util/Arrays", name := "checkLength", desc := "(II)V" } : Jvm.MethodName) jdk_65_method_131_code (2 : Nat) (Option.none : Option Jvm.ClassFile.FieldType), Jvm.Cond.code ({ cls := "java/lang/StringUTF16", name := "toBytes", desc := "([CII)[B" } : Jvm.MethodName) jdk_52_method_14_code (5 : Nat) (Option.some (Jvm.ClassFile.FieldType.array Jvm.ClassFile.FieldType.byte)), Jvm.Cond.code ({ cls := "java/lang/StringUTF16", name := "newBytesFor", desc := "(I)[B" } : Jvm.MethodName) jdk_52_method_2_code (1 : Nat) (Option.some (Jvm.ClassFile.FieldType.array Jvm.ClassFile.FieldType.byte)), Jvm.Cond.code ({ cls := "java/lang/StringUTF16", name := "newBytesLength", desc := "(I)I" } : Jvm.MethodName) jdk_52_method_3_code (1 : Nat) (Option.some Jvm.ClassFile.FieldType.int), Jvm.Cond.code ({ cls := "java/lang/StringUTF16", name := "putChar", desc := "([BII)V" } : Jvm.MethodName) jdk_52_method_4_code (3 : Nat) (Option.none : Option Jvm.ClassFile.FieldType), Jvm.Cond.code ({ cls := "java/lang/StringUTF16", name := "getChar", desc := "([BI)C" } : Jvm.MethodName) jdk_52_method_5_code (2 : Nat) (Option.some Jvm.ClassFile.FieldType.char), Jvm.Cond.code ({ cls := "java/lang/StringUTF16", name := "charAt", desc := "([BI)C" } : Jvm.MethodName) jdk_52_method_83_code (2 : Nat) (Option.some Jvm.ClassFile.FieldType.char), Jvm.Cond.code ({ cls := "java/lang/StringUTF16", name := "checkIndex", desc := "(I[B)V" } : Jvm.MethodName) jdk_52_method_91_code (2 : Nat) (Option.none : Option Jvm.ClassFile.FieldType), Jvm.Cond.code ({ cls := "java/lang/StringUTF16", name := "length", desc := "([B)I" } : Jvm.MethodName) jdk_52_method_6_code (1 : Nat) (Option.some Jvm.ClassFile.FieldType.int), Jvm.Cond.code ({ cls := "java/lang/AbstractStringBuilder", name := "inflate", desc := "()V" } : Jvm.MethodName) jdk_68_method_11_code (2 : Nat) (Option.none : Option Jvm.ClassFile.FieldType), Jvm.Cond.code ({ cls := "java/lang/StringLatin1", name := "inflate", desc := "([BI[BII)V" } : Jvm.MethodName) jdk_43_method_50_code (5 : Nat) (Option.none : Option Jvm.ClassFile.FieldType), Jvm.Cond.code ({ cls := "java/lang/StringUTF16", name := "inflate", desc := "([BI[BII)V" } : Jvm.MethodName) jdk_52_method_86_code (6 : Nat) (Option.none : Option Jvm.ClassFile.FieldType), Jvm.Cond.code ({ cls := "java/lang/StringUTF16", name := "checkBoundsOffCount", desc := "(II[B)V" } : Jvm.MethodName) jdk_52_method_94_code (3 : Nat) (Option.none : Option Jvm.ClassFile.FieldType), Jvm.Cond.code ({ cls := "java/lang/String", name := "checkBoundsOffCount", desc := "(III)I" } : Jvm.MethodName) jdk_42_method_157_code (3 : Nat) (Option.some Jvm.ClassFile.FieldType.int), Jvm.Cond.code ({ cls := "jdk/internal/util/Preconditions", name := "checkFromIndexSize", desc := "(IIILjava/util/function/BiFunction;)I" } : Jvm.MethodName) jdk_41_method_13_code (4 : Nat) (Option.some Jvm.ClassFile.FieldType.int), Jvm.Cond.code ({ cls := "java/lang/StringUTF16", name := "putCharSB", desc := "([BII)V" } : Jvm.MethodName) jdk_52_method_71_code (3 : Nat) (Option.none : Option Jvm.ClassFile.FieldType)]
set_option maxRecDepth 65536 in
theorem codes_eq : words1.filter isCode = codes1 := rfl
theorem w_codes : ∀ c ∈ words1.filter isCode, c.before args0 about1 = true := by
  rw [codes_eq]
  intro c hc
  simp only [codes1, List.mem_cons, List.not_mem_nil, or_false] at hc
  rcases hc with rfl | rfl | rfl | rfl | rfl | rfl | rfl | rfl | rfl | rfl | rfl | rfl | rfl | rfl | rfl | rfl | rfl | rfl | rfl | rfl | rfl | rfl | rfl | rfl | rfl | rfl | rfl | rfl | rfl | rfl | rfl | rfl | rfl | rfl | rfl | rfl | rfl | rfl | rfl | rfl | rfl | rfl | rfl | rfl | rfl | rfl | rfl | rfl | rfl | rfl | rfl | rfl | rfl | rfl | rfl | rfl | rfl | rfl | rfl
  · exact w_c0
  · exact w_c1
  · exact w_c2
  · exact w_c3
  · exact w_c4
  · exact w_c5
  · exact w_c6
  · exact w_c7
  · exact w_c8
  · exact w_c9
  · exact w_c10
  · exact w_c11
  · exact w_c12
  · exact w_c13
  · exact w_c14
  · exact w_c15
  · exact w_c16
  · exact w_c17
  · exact w_c18
  · exact w_c19
  · exact w_c20
  · exact w_c21
  · exact w_c22
  · exact w_c23
  · exact w_c24
  · exact w_c25
  · exact w_c26
  · exact w_c27
  · exact w_c28
  · exact w_c29
  · exact w_c30
  · exact w_c31
  · exact w_c32
  · exact w_c33
  · exact w_c34
  · exact w_c35
  · exact w_c36
  · exact w_c37
  · exact w_c38
  · exact w_c39
  · exact w_c40
  · exact w_c41
  · exact w_c42
  · exact w_c43
  · exact w_c44
  · exact w_c45
  · exact w_c46
  · exact w_c47
  · exact w_c48
  · exact w_c49
  · exact w_c50
  · exact w_c51
  · exact w_c52
  · exact w_c53
  · exact w_c54
  · exact w_c55
  · exact w_c56
  · exact w_c57
  · exact w_c58
set_option maxRecDepth 65536 in
theorem w_t1 : (words1.take 24).all (fun c => isCode c || c.before args0 about1) = true := by decide +kernel
set_option maxRecDepth 65536 in
theorem w_t2 : ((words1.drop 24).take 24).all (fun c => isCode c || c.before args0 about1) = true := by decide +kernel
set_option maxRecDepth 65536 in
theorem w_t3 : (((words1.drop 24).drop 24).take 24).all (fun c => isCode c || c.before args0 about1) = true := by decide +kernel
set_option maxRecDepth 65536 in
theorem w_t4 : ((((words1.drop 24).drop 24).drop 24).take 24).all (fun c => isCode c || c.before args0 about1) = true := by decide +kernel
set_option maxRecDepth 65536 in
theorem w_t5 : (((((words1.drop 24).drop 24).drop 24).drop 24).take 24).all (fun c => isCode c || c.before args0 about1) = true := by decide +kernel
set_option maxRecDepth 65536 in
theorem w_t6 : ((((((words1.drop 24).drop 24).drop 24).drop 24).drop 24).take 24).all (fun c => isCode c || c.before args0 about1) = true := by decide +kernel
set_option maxRecDepth 65536 in
theorem w_t7 : (((((((words1.drop 24).drop 24).drop 24).drop 24).drop 24).drop 24).take 24).all (fun c => isCode c || c.before args0 about1) = true := by decide +kernel
set_option maxRecDepth 65536 in
theorem w_t8 : ((((((((words1.drop 24).drop 24).drop 24).drop 24).drop 24).drop 24).drop 24).take 24).all (fun c => isCode c || c.before args0 about1) = true := by decide +kernel
set_option maxRecDepth 65536 in
theorem w_t9 : (((((((((words1.drop 24).drop 24).drop 24).drop 24).drop 24).drop 24).drop 24).drop 24).take 24).all (fun c => isCode c || c.before args0 about1) = true := by decide +kernel
set_option maxRecDepth 65536 in
theorem w_t10 : ((((((((((words1.drop 24).drop 24).drop 24).drop 24).drop 24).drop 24).drop 24).drop 24).drop 24).take 24).all (fun c => isCode c || c.before args0 about1) = true := by decide +kernel
set_option maxRecDepth 65536 in
theorem w_t11 : (((((((((((words1.drop 24).drop 24).drop 24).drop 24).drop 24).drop 24).drop 24).drop 24).drop 24).drop 24).take 24).all (fun c => isCode c || c.before args0 about1) = true := by decide +kernel
set_option maxRecDepth 65536 in
theorem w_t12 : (((((((((((words1.drop 24).drop 24).drop 24).drop 24).drop 24).drop 24).drop 24).drop 24).drop 24).drop 24).drop 24).all (fun c => isCode c || c.before args0 about1) = true := by decide +kernel
theorem w_tables : (allAtoms (Jvm.Cond.code x code maxLocals ret :: tables_1)).before args0 about1 = true := by
  rw [allAtoms_all]
  show words1.all (fun c => c.before args0 about1) = true
  refine all_split ?_ w_codes
  rw [← List.take_append_drop 24 words1, List.all_append, w_t1, ← List.take_append_drop 24 (words1.drop 24), List.all_append, w_t2, ← List.take_append_drop 24 ((words1.drop 24).drop 24), List.all_append, w_t3, ← List.take_append_drop 24 (((words1.drop 24).drop 24).drop 24), List.all_append, w_t4, ← List.take_append_drop 24 ((((words1.drop 24).drop 24).drop 24).drop 24), List.all_append, w_t5, ← List.take_append_drop 24 (((((words1.drop 24).drop 24).drop 24).drop 24).drop 24), List.all_append, w_t6, ← List.take_append_drop 24 ((((((words1.drop 24).drop 24).drop 24).drop 24).drop 24).drop 24), List.all_append, w_t7, ← List.take_append_drop 24 (((((((words1.drop 24).drop 24).drop 24).drop 24).drop 24).drop 24).drop 24), List.all_append, w_t8, ← List.take_append_drop 24 ((((((((words1.drop 24).drop 24).drop 24).drop 24).drop 24).drop 24).drop 24).drop 24), List.all_append, w_t9, ← List.take_append_drop 24 (((((((((words1.drop 24).drop 24).drop 24).drop 24).drop 24).drop 24).drop 24).drop 24).drop 24), List.all_append, w_t10, ← List.take_append_drop 24 ((((((((((words1.drop 24).drop 24).drop 24).drop 24).drop 24).drop 24).drop 24).drop 24).drop 24).drop 24), List.all_append, w_t11, w_t12]
  rfl
set_option maxRecDepth 65536 in
theorem w_rest : rest_1_c.before args0 about1 = true := by decide +kernel
set_option maxRecDepth 65536 in
theorem w_case : (Jvm.Cond.and given_1 narrow_1).before args0 about1 = true := by decide +kernel
set_option maxRecDepth 65536 in
theorem w_consts : constsHeld consts_1 about1 := Jvm.Lit.constsHeldB_iff.mp (by decide +kernel)
theorem w_applies : (headSpec (Jvm.Cond.code x code maxLocals ret :: tables_1) room_1).applies x e0.platform about1 = true :=
  (Spec.applies_iff w_frames).mpr ⟨w_running, w_runnable, w_alone, w_named, w_hears, w_ripe, w_room, w_tables⟩
theorem atStart : AtStart classFile x code maxLocals ret World_1 tables_1 room_1 Calls_1 rest_1 Pre_1 launch0 p0 e0 about1 theMethod args0 below0 :=
  ⟨lists_1, trivial, launch0.admits_env _ _ _, launch0.least_env, fairChoices_fair.cas, fairChoices_fair.clock, w_frames, w_args, w_heap, w_applies, ⟨w_consts, trivial⟩, w_rest, w_case⟩
end start1
theorem witness_1 : WitnessClaimed_1 := ⟨start1.p0, start1.e0, start1.about1, start1.theMethod, start1.args0, start1.below0, start1.atStart⟩
end Jvm.Pilot.@@N@@
