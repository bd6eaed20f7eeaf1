import JvmDerived
import JvmDerived.Pilot.@@N@@Statement
import JvmDerived.Pilot.@@N@@Code
set_option linter.unusedVariables false
set_option linter.unusedSimpArgs false
namespace Jvm.Pilot.@@N@@
open Jvm Jvm.ClassFile Sem Op Lib Jvm.Free Jvm.Stand Jvm.LawKit Jvm.RoadKit Bundle Jvm.Pilot.@@N@@.Jvm.D
section Own
variable {p : Program} {l : Launch} {e : Env} {R : Room} {s : State} {m : MethodId} {args : Array Value} {below : List Frame} {meth : Method} {c : Code} {T : State} {locs : List Loc} {cells slots : Nat} {P : Outcome → State → Prop}
/-- from S the run comes to an end that answers -/
def own_Fin (p : Program) (e : Env) (below : List Frame) (P : Outcome → State → Prop) (S : State) : Prop := ∃ s₂ o, Steps p.tables e below S s₂ ∧ s₂.status = .running ∧ Ended s₂ below o ∧ P o s₂
def own_Ans (s : State) (Q : Option Value → Heap → List Loc → Prop) (k n : Nat) (o : Outcome) (t : State) : Prop := ∃ v L, o = .returned v ∧ Q v t.heap L ∧ FrameEnd s o t L k n
theorem own_on {A B : State} (k : ∀ t, Steps p.tables e below B t → Steps p.tables e below A t) (h : own_Fin p e below P B) : own_Fin p e below P A := by
  obtain ⟨s₂, o, h1, h2⟩ := h
  exact ⟨s₂, o, k _ h1, h2⟩
theorem own_via {A B : State} (k : Steps p.tables e below A B) (h : own_Fin p e below P B) : own_Fin p e below P A := own_on (fun _ r => k.trans r) h
theorem own_cast {g g' : JFrame} (q : g = g') (h : own_Fin p e below P (T.setTop g')) : own_Fin p e below P (T.setTop g) := q ▸ h
theorem own_ret {Q : Option Value → Heap → List Loc → Prop} {k n : Nat} (X : Stand p l e R s m args below meth c T locs cells slots) (hx : p.tables.exec = Jvm.exec) (hlk : meth.locks = false) {pc : Nat} {Ls : Array Slot} {w : Value} {t : FieldType} {i : Instr} {rest : List Value} (hret : meth.sig.returnType = some t) (hn : narrow t w = w)
    (hi : (i = .ireturn ∧ (t = .int ∨ t = .boolean ∨ t = .byte ∨ t = .char ∨ t = .short) ∧ ∃ z, w = .int z) ∨ (i = .lreturn ∧ t = .long ∧ ∃ z, w = .long z) ∨ (i = .dreturn ∧ t = .double ∧ ∃ z, w = .double z) ∨ (i = .freturn ∧ t = .float ∧ ∃ z, w = .float z) ∨ (i = .areturn ∧ t.isReference = true ∧ w.isRef = true))
    (hd : decode c.code pc = .ok (i, 1)) (hQ : Q (some w) T.heap locs) (hk : cells ≤ k) (hs : slots ≤ n) : own_Fin p e below (own_Ans s Q k n) (T.setTop (mkF m pc Ls (w :: rest))) := by
  obtain ⟨fs, hr, hrun, hended, hW, hsame⟩ := X.leave (v := some w) (fun h => by rw [hret] at h; cases h) hlk
  exact ⟨_, _, retOut X hx hret hn hi hd hr, hrun, hended, _, _, rfl, hQ, ⟨_, rfl⟩, hW, hsame.mono hk hs⟩
theorem own_retV {Q : Option Value → Heap → List Loc → Prop} {k n : Nat} (X : Stand p l e R s m args below meth c T locs cells slots) (hx : p.tables.exec = Jvm.exec) (hlk : meth.locks = false) {pc : Nat} {Ls : Array Slot} (hret : meth.sig.returnType = none)
    (hd : decode c.code pc = .ok (.return_, 1)) (hQ : Q none T.heap locs) (hk : cells ≤ k) (hs : slots ≤ n) : own_Fin p e below (own_Ans s Q k n) (T.setTop (mkF m pc Ls [])) := by
  obtain ⟨fs, hr, hrun, hended, hW, hsame⟩ := X.leave (v := none) (fun _ => rfl) hlk
  exact ⟨_, _, X.returnOut hx hret hd hr, hrun, hended, _, _, rfl, hQ, ⟨_, rfl⟩, hW, hsame.mono hk hs⟩
theorem own_b1 {P : Prop} [Decidable P] (h : P) : ¬ ((if P then (1 : Int32) else 0) = 0) := by simp [h]
theorem own_b0 {P : Prop} [Decidable P] (h : ¬ P) : (if P then (1 : Int32) else 0) = 0 := by simp [h]
theorem own_nb {P : Prop} [Decidable P] : narrow .boolean (.int (if P then (1 : Int32) else 0)) = .int (if P then (1 : Int32) else 0) := by split <;> rfl
theorem own_iI {t : FieldType} (h : t = .int ∨ t = .boolean ∨ t = .byte ∨ t = .char ∨ t = .short) {w : Value} {z : Int32} (hw : w = .int z) : ((Instr.ireturn = .ireturn ∧ (t = .int ∨ t = .boolean ∨ t = .byte ∨ t = .char ∨ t = .short) ∧ ∃ z, w = .int z) ∨ (Instr.ireturn = .lreturn ∧ t = .long ∧ ∃ z, w = .long z) ∨ (Instr.ireturn = .dreturn ∧ t = .double ∧ ∃ z, w = .double z) ∨ (Instr.ireturn = .freturn ∧ t = .float ∧ ∃ z, w = .float z) ∨ (Instr.ireturn = .areturn ∧ t.isReference = true ∧ w.isRef = true)) := Or.inl ⟨rfl, h, z, hw⟩
theorem own_ne_of {Z : State} {h : Heap} {x : Addr} (q : x < h.size) {b : Addr} (g : b = h.size) : x ≠ b := Nat.ne_of_lt (Nat.lt_of_lt_of_le q (Nat.le_of_eq g.symm))
theorem own_eqf {a0 : Array Value} {C n d : String} {t : Term} {a : Addr} {k : Int32} (ev : t.eval a0 s none [] s = some (.ref a)) (h : (Jvm.Cond.eq (.field t C n d) (.int k)).value a0 s none s [] = some true) : Fld s s.heap a C n d (.int k) := by
  obtain ⟨x, y, h1, h2, h3, -⟩ := cmp_v (Or.inl h)
  have hy : y = .int k := (Option.some.inj ((show (Term.int k).eval a0 s none [] s = some (.int k) from rfl).symm.trans h2)).symm
  subst hy
  cases x <;> simp [Kin, Value.isRef] at h3
  rename_i z
  have hz : z = k := by
    have q := h
    simp only [Cond.value, h1, show (Term.int k).eval a0 s none [] s = some (.int k) from rfl] at q
    simpa using q
  subst hz
  exact Fld.start ((fld_at ev).symm.trans h1)
theorem own_nf {a0 : Array Value} {C : String} {y z y' : MethodName} (hsel : (Jvm.Cond.selects C y z).before a0 s = true) (hc : y'.cls = z.cls) : NotFace s y' := fun r0 h0 => by
  obtain ⟨c2, r2, m2, q1, q2, q3, q4, kP, hkP, hkPi⟩ := Cond.selects_spec hsel
  have e1 := findClass_of_methodNamed h0
  have e2 := findClass_of_methodNamed q3
  rw [hc] at e1
  have e3 : r0.cls = m2.cls := Option.some.inj (e1.symm.trans e2)
  exact ⟨kP, by rw [e3]; exact hkP, hkPi⟩
theorem own_len {a0 : Array Value} {t : Term} {a : Addr} {cl : Cell} {z : Int32} (ht : t.eval a0 s none [] s = some (.ref a)) (ha : s.arrayAt? a = some cl) (h : (Term.length t).eval a0 s none [] s = some (.int z)) : cl.slots.size < 2 ^ 31 ∧ cl.slots.size.toInt32 = z := by
  by_cases hl : cl.slots.size < 2 ^ 31
  · rw [len_f ht ha hl] at h
    exact ⟨hl, by simpa using h⟩
  · have hl' : ¬ cl.slots.size < 2147483648 := hl
    simp [Term.eval, ht, ha, hl'] at h
theorem own_sub {a0 : Array Value} {t u : Term} {idx : List Nat} {x y : Int32} (h1 : t.eval a0 s none idx s = some (.int x)) (h2 : u.eval a0 s none idx s = some (.int y)) : (Term.sub t u).eval a0 s none idx s = some (.int (x - y)) := by simp [Term.eval, h1, h2]
theorem own_eqx {a0 : Array Value} {t u : Term} {b : Addr} (eu : u.eval a0 s none [] s = some (.ref b)) (h : (Jvm.Cond.eq t u).value a0 s none s [] = some true) : t.eval a0 s none [] s = some (.ref b) := by
  obtain ⟨x, y, h1, h2, h3, -⟩ := cmp_v (Or.inl h)
  cases eu.symm.trans h2
  have hr : x.isRef = true := by cases x <;> simp [Kin, Value.isRef] at h3 ⊢
  have q := gotT (eq_R h1 eu hr rfl) h
  subst q
  exact h1
theorem own_eqr {a0 : Array Value} {C n d : String} {t u : Term} {a b : Addr} (ev : t.eval a0 s none [] s = some (.ref a)) (eu : u.eval a0 s none [] s = some (.ref b)) (h : (Jvm.Cond.eq (.field t C n d) u).value a0 s none s [] = some true) : Fld s s.heap a C n d (.ref b) := by
  obtain ⟨x, y, h1, h2, h3, -⟩ := cmp_v (Or.inl h)
  cases eu.symm.trans h2
  have hr : x.isRef = true := by cases x <;> simp [Kin, Value.isRef] at h3 ⊢
  have q := gotT (eq_R h1 eu hr rfl) h
  subst q
  exact Fld.start ((fld_at ev).symm.trans h1)
end Own
section OwnW
variable {p : Program} {l : Launch} {e : Env} {R : Room} {s : State} {m : MethodId} {args : Array Value} {below : List Frame} {meth : Method} {c : Code} {T : State} {locs : List Loc} {cells slots : Nat} {P : Outcome → State → Prop} {Z : State} {EL : List (String × Nat)} {a0 : Array Value} {vm0 : Vm}
def own_AnsW (s Z : State) (EL : List (String × Nat)) (Q : Option Value → Heap → List Loc → Prop) (k n : Nat) (o : Outcome) (t : State) : Prop := ∃ v L, o = .returned v ∧ Q v t.heap L ∧ CHr Z EL s.vm s.heap t.vm t.heap ∧ ReturnedEndW s o t L k n
theorem own_monoW {o : Outcome} {t : State} {L : List Loc} {k n k' n' : Nat} (h : ReturnedEndW s o t L k n) (hk : k ≤ k') (hn : n ≤ n') : ReturnedEndW s o t L k' n' := ⟨h.1, h.2.1, h.2.2.1, h.2.2.2.mono hk hn⟩
theorem own_retW {Q : Option Value → Heap → List Loc → Prop} {k n k0 : Nat} (X : Stand p l e R (s.setVm vm0) m args below meth c T locs cells slots) (hx : p.tables.exec = Jvm.exec) (hlk : meth.locks = false) {pc : Nat} {Ls : Array Slot} {w : Value} {t : FieldType} {i : Instr} {rest : List Value} (hret : meth.sig.returnType = some t) (hn : narrow t w = w)
    (hi : (i = .ireturn ∧ (t = .int ∨ t = .boolean ∨ t = .byte ∨ t = .char ∨ t = .short) ∧ ∃ z, w = .int z) ∨ (i = .lreturn ∧ t = .long ∧ ∃ z, w = .long z) ∨ (i = .dreturn ∧ t = .double ∧ ∃ z, w = .double z) ∨ (i = .freturn ∧ t = .float ∧ ∃ z, w = .float z) ∨ (i = .areturn ∧ t.isReference = true ∧ w.isRef = true))
    (hd : decode c.code pc = .ok (i, 1)) (hS : s.Since vm0 k0) (hk0 : k0 ≤ T.heap.size) (hZ : Z.Warmed39 vm0) (hEL : EW Z a0 EL) (hC : CHr Z EL s.vm s.heap vm0 T.heap) (hQ : Q (some w) T.heap locs) (hk : cells ≤ k) (hs : slots ≤ n) : own_Fin p e below (own_AnsW s Z EL Q k n) (T.setTop (mkF m pc Ls (w :: rest))) := by
  obtain ⟨fs, hr, hrun, hended, hE⟩ := X.leaveW hS hk0 (v := some w) (fun h => by rw [hret] at h; cases h) hlk
  exact ⟨_, _, retOut X hx hret hn hi hd hr, hrun, hended, _, _, rfl, hQ, (show CHr Z EL s.vm s.heap T.vm T.heap from hC.trans (CHv.at X hZ hEL hC.1)), own_monoW hE hk hs⟩
theorem own_retVW {Q : Option Value → Heap → List Loc → Prop} {k n k0 : Nat} (X : Stand p l e R (s.setVm vm0) m args below meth c T locs cells slots) (hx : p.tables.exec = Jvm.exec) (hlk : meth.locks = false) {pc : Nat} {Ls : Array Slot} (hret : meth.sig.returnType = none)
    (hd : decode c.code pc = .ok (.return_, 1)) (hS : s.Since vm0 k0) (hk0 : k0 ≤ T.heap.size) (hZ : Z.Warmed39 vm0) (hEL : EW Z a0 EL) (hC : CHr Z EL s.vm s.heap vm0 T.heap) (hQ : Q none T.heap locs) (hk : cells ≤ k) (hs : slots ≤ n) : own_Fin p e below (own_AnsW s Z EL Q k n) (T.setTop (mkF m pc Ls [])) := by
  obtain ⟨fs, hr, hrun, hended, hE⟩ := X.leaveW hS hk0 (v := none) (fun _ => rfl) hlk
  exact ⟨_, _, X.returnOut hx hret hd hr, hrun, hended, _, _, rfl, hQ, (show CHr Z EL s.vm s.heap T.vm T.heap from hC.trans (CHv.at X hZ hEL hC.1)), own_monoW hE hk hs⟩
theorem own_backX {y : MethodName} {bytes : ByteArray} {maxL : Nat} {ret : Option FieldType} {rm : Room} {len W : Nat} {as' : Array Value} {h : Heap} {Q : Option Value → Heap → List Loc → Prop} (Ex : Vm → Prop)
    (hM : MetFree l y (head1 [Jvm.Cond.code y bytes maxL ret] rm) (fun a U => a = as' ∧ Z.Warmed39 U.vm ∧ U.heap = h ∧ CHv Z EL U.vm h ∧ Ex U.vm) (fun _ _ _ _ _ => True) (fun _ U o U' => ∃ v L, o = .returned v ∧ Q v U'.heap L ∧ CHr Z EL U.vm U.heap U'.vm U'.heap ∧ ReturnedEndW U o U' L rm.cells rm.slots))
    (hZ : Z.Warmed39 vm0) (wc : (Jvm.Cond.code y bytes maxL ret).before a0 Z = true) (wz : (Jvm.Cond.initialized y.cls).before a0 Z = true) (hf : rm.frames + 1 ≤ R.frames) (hl : W + (maxL + 11) + rm.locals ≤ R.locals) (hEL : EW Z a0 EL) (H : CHv Z EL vm0 h) (hEx : ∀ vm1, CHr Z EL vm0 h vm1 h → Ex vm1) :
    BackS l R p e below (s.setVm vm0) args y len W (fun A a => a = as' ∧ A.U.heap = h ∧ A.cells + rm.cells ≤ R.cells ∧ A.slots + rm.slots ≤ R.slots)
      (fun A _ v B => ∃ L, Q v B.U.heap L ∧ B.locs = A.locs ++ L ∧ B.cells = A.cells + rm.cells ∧ B.slots = A.slots + rm.slots ∧ CHr Z EL vm0 h B.U.vm B.U.heap) := by
  refine BackS.of_freeW (bytes := bytes) (maxL := maxL) (ret := ret) (E := fun _ first o t L k n => (∃ v, o = .returned v ∧ Q v t.heap L) ∧ k = rm.cells ∧ n = rm.slots ∧ CHr Z EL first.vm first.heap t.vm t.heap) hM hf hl ?_ ?_ (fun _ _ _ _ _ _ _ _ _ => trivial) ?_ ?_
  · intro m meth c A a Y hp
    have hU : Z.Warmed39 A.U.vm := wtrans (s := s.setVm vm0) hZ Y.warmed
    exact ⟨by show (Jvm.Cond.and _ .tt).before a A.U = true; rw [Cond.before_and, mv hU wc]; rfl, mv hU wc, mv hU wz, hp.2.2.1, hp.2.2.2⟩
  · intro m meth c A a g mk Y hp
    have hA := CHv.at Y hZ hEL H
    exact ⟨hp.1, wtrans (s := s.setVm vm0) hZ Y.warmed, hp.2.1, hA.1, hEx _ hA⟩
  · intro a first o t hq
    obtain ⟨v, L, h1, h2, h3, h4⟩ := hq
    exact ⟨L, _, _, h4, ⟨v, h1, h2⟩, rfl, rfl, h3⟩
  · intro m meth c A a g mk v t L k n Y hp _ _ hE
    obtain ⟨⟨v', e3, e4⟩, e1, e2, e5⟩ := hE
    cases e3
    subst e1 e2
    refine ⟨L, e4, rfl, rfl, rfl, (CHv.at Y hZ hEL H).trans ?_⟩
    rw [← hp.2.1]
    exact e5
end OwnW
def own_EL : List (String × Nat) := []
theorem own_wS {Z : State} {a0 : Array Value} (hw : ∀ d ∈ tables_1, d.before a0 Z = true) : ∀ a ∈ Bundle.stringAtoms, a.before a0 Z = true := by
  intro a ha
  simp only [Bundle.stringAtoms, List.mem_cons, List.not_mem_nil, or_false] at ha
  rcases ha with rfl | rfl | rfl | rfl | rfl | rfl | rfl
  · exact (hw _ (List.mem_of_getElem? (i := 17) rfl))
  · exact (hw _ (List.mem_of_getElem? (i := 18) rfl))
  · exact (hw _ (List.mem_of_getElem? (i := 19) rfl))
  · exact (hw _ (List.mem_of_getElem? (i := 20) rfl))
  · exact (hw _ (List.mem_of_getElem? (i := 21) rfl))
  · exact (hw _ (List.mem_of_getElem? (i := 22) rfl))
  · exact (hw _ (List.mem_of_getElem? (i := 23) rfl))
theorem own_dc0 : FP.dconst0 = FP.l2d 0 := by decide +kernel
theorem own_dc1 : FP.dconst1 = FP.l2d 1 := by decide +kernel
theorem own_B0 : B53 0 := by unfold B53; decide
theorem own_B1 : B53 1 := by unfold B53; decide
theorem own_b32 (x : Int32) : B53 x.toInt64 := by
  have a := c_i2l x
  have b := rng32 x
  unfold B53
  omega
def own_ok (x : UInt64) : Prop := ∃ q : Int64, x = FP.l2d q ∧ 0 ≤ q.toInt ∧ q.toInt < 9007199254740992
theorem own_z64 : (0 : Int64).toInt = 0 := by decide
theorem own_okI {x : Int32} (h : 0 ≤ x.toInt) : own_ok (FP.l2d x.toInt64) := ⟨_, rfl, by rw [c_i2l]; exact h, by rw [c_i2l]; have := rng32 x; omega⟩
theorem own_nnok {x : UInt64} (h : own_ok x) : Jvm.Free.Fl.NoNaN64 x := by obtain ⟨q, e, -⟩ := h; exact nn_w e
theorem own_abs {x : UInt64} (h : own_ok x) : (x &&& 0x7fffffffffffffff) = x := by
  obtain ⟨q, rfl, h1, -⟩ := h
  exact abs_w (fun z => by rw [Int64.lt_iff_toInt_lt, own_z64] at z; omega)
theorem own_ge {x : UInt64} (h : own_ok x) : ¬ (cmpValue (FP.dcmp x (FP.l2d (0 : Int64))) .g) < (0 : Int32) := by
  obtain ⟨q, rfl, h1, h2⟩ := h
  rw [dcmpV_w ⟨by omega, h2⟩ own_B0, lw_lt, Int64.lt_iff_toInt_lt, own_z64]
  omega
theorem own_max {x : UInt64} (h : own_ok x) : ¬ (0 : Int32) < (cmpValue (FP.dcmp x (9218868437227405311 : UInt64)) .g) := by
  have hm := own_abs h
  have hn := Jvm.Free.Fl.val64_no.mp (own_nnok h)
  obtain ⟨q, rfl, h1, h2⟩ := h
  have k := Jvm.FP.Core.l2d_mag q
  have k2 : (FP.l2d q).toNat < 2 ^ 63 := by
    rw [← hm, UInt64.toNat_and]
    exact Nat.lt_of_le_of_lt Nat.and_le_right (by decide)
  have e : FP.dcmp (FP.l2d q) (9218868437227405311 : UInt64) = some .lt := (Jvm.FP.Core.mono_bits hn (by decide +kernel) k2 (by decide)).1.mpr (by
    have : (FP.l2d q).toNat % 2 ^ 63 = (FP.l2d q).toNat := Nat.mod_eq_of_lt k2
    have z : (9218868437227405311 : UInt64).toNat = 9218868437227405311 := by decide
    rw [z]
    change (FP.l2d q).toNat % 2 ^ 63 < 1088 * 2 ^ 52 at k
    omega)
  rw [e]
  decide
theorem own_nzq {q : Int64} (h : ¬ (lcmpW q (0 : Int64)) = (0 : Int32)) : ¬ q = 0 := fun z => h ((lw_eq q 0).mpr z)
theorem own_absc : jdk_29_method_64_code = Jvm.Free.Fl.Abs.absDCode := by decide +kernel
theorem own_m16 (x : Int32) : 0 ≤ (x &&& (65535 : Int32)).toInt ∧ (x &&& (65535 : Int32)).toInt ≤ 65535 := by
  have m := c_mask x 65535 16 (by decide) (by decide)
  omega
theorem own_m15 (x : Int32) : 0 ≤ (x &&& (32767 : Int32)).toInt ∧ (x &&& (32767 : Int32)).toInt ≤ 32767 := by
  have m := c_mask x 32767 15 (by decide) (by decide)
  omega
theorem own_m31 (x : Int32) : 0 ≤ (x &&& (2147483647 : Int32)).toInt := by
  have m := c_mask x 2147483647 31 (by decide) (by decide)
  omega
theorem own_z16 : 0 ≤ (0 : Int32).toInt ∧ (0 : Int32).toInt ≤ 65535 := by decide
theorem own_p1 {x : Int32} (h : 0 ≤ x.toInt ∧ x.toInt ≤ 65535) : (x + 1).toInt = x.toInt + 1 := by
  have a := c_iadd x 1
  have b := rng32 (x + 1)
  have c : (1 : Int32).toInt = 1 := by decide
  omega
theorem own_n1 {x : Int32} (h : 0 ≤ x.toInt ∧ x.toInt ≤ 65535) : x + 1 ≠ 0 := fun z => by
  have a := own_p1 h
  rw [z] at a
  have c : (0 : Int32).toInt = 0 := by decide
  omega
theorem own_ra {x y : Int32} (h : 0 ≤ x.toInt ∧ x.toInt ≤ 65535) : 0 ≤ ((x + 1) + (y &&& (65535 : Int32))).toInt := by
  have a := own_p1 h
  have b := own_m16 y
  have c := c_iadd (x + 1) (y &&& (65535 : Int32))
  have d := rng32 ((x + 1) + (y &&& (65535 : Int32)))
  omega
theorem own_rc {x y : Int32} (h : 0 ≤ x.toInt ∧ x.toInt ≤ 65535) : 0 ≤ ((y &&& (2147483647 : Int32)) % (x + 1)).toInt := by
  have a := own_p1 h
  have c := (c_iremV (y &&& (2147483647 : Int32)) (x + 1)).1 (own_m31 y) (by omega)
  exact c.1
theorem own_pos {x : Int32} (h : 0 ≤ x.toInt ∧ x.toInt ≤ 65535) (hz : ¬ x = (0 : Int32)) : 0 < x.toInt := by
  have c : (0 : Int32).toInt = 0 := by decide
  have : x.toInt ≠ 0 := fun z => hz (Int32.toInt_inj.mp (by rw [z, c]))
  omega
theorem own_rm {x y : Int32} (h : 0 ≤ x.toInt ∧ x.toInt ≤ 65535) (hz : ¬ x = (0 : Int32)) : 0 ≤ ((y &&& (2147483647 : Int32)) % x).toInt ∧ ((y &&& (2147483647 : Int32)) % x).toInt < x.toInt := by
  have c := (c_iremV (y &&& (2147483647 : Int32)) x).1 (own_m31 y) (own_pos h hz)
  exact ⟨c.1, c.2.1⟩
theorem own_rb {x k q : Int32} (h : 0 ≤ x.toInt ∧ x.toInt ≤ 65535) (hk : 0 ≤ k.toInt ∧ k.toInt ≤ 32767) (hq : 0 ≤ q.toInt ∧ q.toInt < x.toInt) : (x * k + q).toInt = x.toInt * k.toInt + q.toInt ∧ 0 ≤ (x * k + q).toInt := by
  have a := c_imul x k
  have b := rng32 (x * k)
  have c := c_iadd (x * k) q
  have d := rng32 (x * k + q)
  have n0 : 0 ≤ x.toInt * k.toInt := Int.mul_nonneg h.1 hk.1
  have n1 : x.toInt * k.toInt ≤ 65535 * 32767 := Int.mul_le_mul h.2 hk.2 hk.1 (by decide)
  generalize x.toInt * k.toInt = P at *
  omega
theorem own_pinf {x : UInt64} (h : x = (9218868437227405312 : UInt64)) : cmpValue (FP.dcmp x (9218868437227405312 : UInt64)) .l = (0 : Int32) := dcmpV_eq h (h ▸ (by unfold Jvm.Free.Fl.NoNaN64; decide)) _
theorem own_lt64 {x y : Int32} (h : x < y) : x.toInt64 < y.toInt64 := by rw [Int64.lt_iff_toInt_lt, c_i2l, c_i2l]; exact Int32.lt_iff_toInt_lt.mp h
theorem own_z0 {x : Int32} (h : x = (0 : Int32)) : x.toInt64 = 0 := by subst h; rfl
section Math
open Jvm.FP.Core
theorem own_q : b64.qmin = -1074 := by decide
theorem own_ex {w : Nat} (hw : w < 2 ^ 53) (j : Nat) (hj : j ≤ 1074) : ∃ c q, round b64 (.fin false w (-(j : Int))) = .fin false c q ∧ inUnits c q b64.qmin = w * 2 ^ (1074 - j) := by
  obtain ⟨c, q, h1, h2⟩ := round_exact good_b64 false (c := w) (q := -(j : Int)) hw (by rw [own_q]; omega) (by rw [show b64.qmax = 971 from by decide]; omega)
  refine ⟨c, q, h1, h2.trans ?_⟩
  unfold inUnits
  rw [own_q, show (-(j : Int) - -1074).toNat = 1074 - j by omega]
theorem own_l2d {a : Int64} {n : Nat} (h : a.toInt = n) (hn : n < 2 ^ 53) : ∃ c q, val64 (l2d a) = .fin false c q ∧ inUnits c q b64.qmin = n * 2 ^ 1074 := by
  obtain ⟨c, q, h1, h2⟩ := own_ex hn 0 (by decide)
  refine ⟨c, q, ?_, h2⟩
  rw [val64_l2d, h, ← h1]
  rfl
theorem own_div {a r : Int64} {b R L H : Nat} (ha : a.toInt = b) (hr : r.toInt = R) (hb : b < 2 ^ 53) (hR : R < 2 ^ 53) (hR0 : 0 < R) (hL : L < 2 ^ 53) (hH : H < 2 ^ 53) (h1 : L * R ≤ b * 65536) (h2 : b * 65536 ≤ H * R) :
    ∃ c q, val64 (ddiv (l2d a) (l2d r)) = .fin false c q ∧ L * 2 ^ 1058 ≤ inUnits c q b64.qmin ∧ inUnits c q b64.qmin ≤ H * 2 ^ 1058 := by
  obtain ⟨c, q, e1, u1⟩ := own_l2d ha hb
  obtain ⟨d, t, e2, u2⟩ := own_l2d hr hR
  have f1 := val64_fits (l2d a)
  have f2 := val64_fits (l2d r)
  rw [e1] at f1
  rw [e2] at f2
  have q1 : b64.qmin ≤ q := f1.2.1
  have q2 : b64.qmin ≤ t := f2.2.1
  have hd : 0 < d := by
    refine Nat.pos_of_ne_zero fun z => ?_
    subst z
    unfold inUnits at u2
    rw [Nat.zero_mul] at u2
    have := Nat.mul_pos hR0 (Nat.two_pow_pos 1074)
    omega
  have ev : val64 (ddiv (l2d a) (l2d r)) = roundRatio b64 false c d (q - t) := by
    rw [val64_ddiv, e1, e2]
    show (if d = 0 then _ else _) = _
    rw [if_neg (by omega)]
    rfl
  have hu : inUnits c (q - t) (2 * b64.qmin - t) = b * 2 ^ 1074 * 2 ^ 1074 := by
    rw [← u1]
    unfold inUnits
    rw [Nat.mul_assoc, ← Nat.pow_add]
    congr 2
    rw [own_q] at *
    omega
  have hv : 2 ^ (b64.qmin - (2 * b64.qmin - t)).toNat * d = R * 2 ^ 1074 := by
    rw [← u2, Nat.mul_comm]
    unfold inUnits
    congr 2
    rw [own_q] at *
    omega
  have hP : (2 : Nat) ^ 1074 = 65536 * 2 ^ 1058 := by decide +kernel
  obtain ⟨c3, q3, e3, u3⟩ := own_ex hH 16 (by decide)
  obtain ⟨c4, q4, e4, u4⟩ := own_ex hL 16 (by decide)
  rw [show 1074 - 16 = 1058 from rfl] at u3 u4
  have fit3 := round_fits good_b64 (.fin false H (-((16 : Nat) : Int)))
  have fit4 := round_fits good_b64 (.fin false L (-((16 : Nat) : Int)))
  rw [e3] at fit3
  rw [e4] at fit4
  have le := zmag_roundRatio_le good_b64 (s := false) (A := c) (B := d) (e := q - t) (e0 := 2 * b64.qmin - t) (V := .fin false c3 q3) hd fit3 Datum.noConfusion (by omega) (by rw [own_q] at *; omega) (by
    rw [Nat.mul_assoc (zmag b64 _), hv, hu]
    show _ ≤ inUnits c3 q3 b64.qmin * _
    rw [u3, hP]
    generalize (2 : Nat) ^ 1058 = P at *
    calc b * (65536 * P) * (65536 * P) = (b * 65536) * (P * (65536 * P)) := by ac_rfl
      _ ≤ (H * R) * (P * (65536 * P)) := Nat.mul_le_mul_right _ h2
      _ = H * P * (R * (65536 * P)) := by ac_rfl)
  have ge := zmag_roundRatio_ge good_b64 (s := false) (A := c) (B := d) (e := q - t) (e0 := 2 * b64.qmin - t) (V := .fin false c4 q4) hd fit4 (by omega) (by rw [own_q] at *; omega) (by
    rw [Nat.mul_assoc (zmag b64 _), hv, hu]
    show inUnits c4 q4 b64.qmin * _ ≤ _
    rw [u4, hP]
    generalize (2 : Nat) ^ 1058 = P at *
    calc L * P * (R * (65536 * P)) = (L * R) * (P * (65536 * P)) := by ac_rfl
      _ ≤ (b * 65536) * (P * (65536 * P)) := Nat.mul_le_mul_right _ h1
      _ = b * (65536 * P) * (65536 * P) := by ac_rfl)
  rw [← ev] at le ge
  have le' : zmag b64 (val64 (ddiv (l2d a) (l2d r))) ≤ H * 2 ^ 1058 := Nat.le_trans le (Nat.le_of_eq u3)
  have ge' : L * 2 ^ 1058 ≤ zmag b64 (val64 (ddiv (l2d a) (l2d r))) := Nat.le_trans (Nat.le_of_eq u4.symm) ge
  rcases roundRatio_cases b64 false c d (q - t) with ⟨c5, q5, h5⟩ | h5
  · rw [← ev] at h5
    rw [h5] at le' ge'
    exact ⟨c5, q5, h5, ge', le'⟩
  · exfalso
    rw [← ev] at h5
    rw [h5] at le'
    have z : zmag b64 (.inf false) = 2 ^ 1040 * 2 ^ 1058 := by decide +kernel
    rw [z] at le'
    have := Nat.le_of_mul_le_mul_right le' (Nat.two_pow_pos 1058)
    have k : (2 : Nat) ^ 53 ≤ 2 ^ 1040 := Nat.pow_le_pow_right (by decide) (by decide)
    omega
theorem own_sum {a : Int64} {x : UInt64} {T L H c : Nat} {q : Int} (ha : a.toInt = T) (hx : val64 x = .fin false c q) (h1 : L * 2 ^ 1058 ≤ inUnits c q b64.qmin) (h2 : inUnits c q b64.qmin ≤ H * 2 ^ 1058)
    (hT : T < 2 ^ 53) (hL : 65536 * T + L < 2 ^ 53) (hH : 65536 * T + H < 2 ^ 53) :
    val64 (dadd (l2d a) x) ≠ .nan ∧ ((65536 * T + L : Nat) : Int) * ((2 ^ 1058 : Nat) : Int) ≤ zval b64 (val64 (dadd (l2d a) x)) ∧ zval b64 (val64 (dadd (l2d a) x)) ≤ ((65536 * T + H : Nat) : Int) * ((2 ^ 1058 : Nat) : Int) := by
  obtain ⟨d, t, e2, u2⟩ := own_l2d ha hT
  have f1 := val64_fits (l2d a)
  have f2 := val64_fits x
  rw [e2] at f1
  rw [hx] at f2
  obtain ⟨sg, n, e, e5, he, hs⟩ := sum_units f1 f2
  have ev : val64 (dadd (l2d a) x) = round b64 (.fin sg n e) := by rw [val64_dadd, e2, hx, e5]
  have hP : (2 : Nat) ^ 1074 = 65536 * 2 ^ 1058 := by decide +kernel
  have hs' : signed sg (inUnits n e b64.qmin) = ((T * 2 ^ 1074 + inUnits c q b64.qmin : Nat) : Int) := by
    rw [hs]
    show ((inUnits d t b64.qmin : Nat) : Int) + ((inUnits c q b64.qmin : Nat) : Int) = _
    rw [u2]
    exact (Int.natCast_add _ _).symm
  rw [hP] at hs'
  obtain ⟨c3, q3, e3, u3⟩ := own_ex hH 16 (by decide)
  obtain ⟨c4, q4, e4, u4⟩ := own_ex hL 16 (by decide)
  rw [show 1074 - 16 = 1058 from rfl] at u3 u4
  have fit3 := round_fits good_b64 (.fin false (65536 * T + H) (-((16 : Nat) : Int)))
  have fit4 := round_fits good_b64 (.fin false (65536 * T + L) (-((16 : Nat) : Int)))
  rw [e3] at fit3
  rw [e4] at fit4
  have z3 : zval b64 (.fin false c3 q3) = ((65536 * T + H : Nat) : Int) * ((2 ^ 1058 : Nat) : Int) := by
    show ((inUnits c3 q3 b64.qmin : Nat) : Int) = _
    rw [u3, Int.natCast_mul]
  have z4 : zval b64 (.fin false c4 q4) = ((65536 * T + L : Nat) : Int) * ((2 ^ 1058 : Nat) : Int) := by
    show ((inUnits c4 q4 b64.qmin : Nat) : Int) = _
    rw [u4, Int.natCast_mul]
  have one : ((2 ^ (b64.qmin - b64.qmin).toNat : Nat) : Int) = 1 := by decide
  have le := zval_round_le good_b64 (s := sg) (c := n) (q := e) (e0 := b64.qmin) (V := .fin false c3 q3) fit3 Datum.noConfusion (Int.le_refl _) he (by
    rw [one, Int.mul_one, z3, hs', ← Int.natCast_mul]
    refine Int.ofNat_le.mpr ?_
    generalize (2 : Nat) ^ 1058 = P at *
    rw [Nat.add_mul]
    have : T * (65536 * P) = 65536 * T * P := by ac_rfl
    omega)
  have ge := zval_round_ge good_b64 (s := sg) (c := n) (q := e) (e0 := b64.qmin) (V := .fin false c4 q4) fit4 Datum.noConfusion (Int.le_refl _) he (by
    rw [one, Int.mul_one, z4, hs', ← Int.natCast_mul]
    refine Int.ofNat_le.mpr ?_
    generalize (2 : Nat) ^ 1058 = P at *
    rw [Nat.add_mul]
    have : T * (65536 * P) = 65536 * T * P := by ac_rfl
    omega)
  rw [ev]
  rw [z3] at le
  rw [z4] at ge
  exact ⟨roundRatio_ne_nan _ _ _ _ _, ge, le⟩
theorem own_cmp {a : Int64} {x : UInt64} {n : Nat} (ha : a.toInt = n) (hn : n < 2 ^ 53) (hx : val64 x ≠ .nan) : dcmp (l2d a) x = some (compare (((65536 * n : Nat) : Int) * ((2 ^ 1058 : Nat) : Int)) (zval b64 (val64 x))) ∧ dcmp x (l2d a) = some (compare (zval b64 (val64 x)) (((65536 * n : Nat) : Int) * ((2 ^ 1058 : Nat) : Int))) := by
  obtain ⟨d, t, e2, u2⟩ := own_l2d ha hn
  have hP : (2 : Nat) ^ 1074 = 65536 * 2 ^ 1058 := by decide +kernel
  have nn : val64 (l2d a) ≠ .nan := by rw [e2]; exact Datum.noConfusion
  have z : zval b64 (val64 (l2d a)) = ((65536 * n : Nat) : Int) * ((2 ^ 1058 : Nat) : Int) := by
    rw [e2]
    show ((inUnits d t b64.qmin : Nat) : Int) = _
    rw [u2, hP, ← Int.natCast_mul, ← Nat.mul_assoc, Nat.mul_comm n]
  rw [← z]
  exact ⟨dcmp_zval nn hx, dcmp_zval hx nn⟩
/-- the bound: T + b / R, for b = R * k + m -/
theorem own_bound {t r a : Int64} {T R k m : Nat} (ht : t.toInt = T) (hr : r.toInt = R) (ha : a.toInt = (R * k + m : Nat)) (hT : T < 65536) (hR : R < 65536) (hR0 : 0 < R) (hk : k < 32768) (hm : m < R) :
    val64 (ddiv (l2d a) (l2d r)) ≠ .nan ∧ val64 (dadd (l2d t) (ddiv (l2d a) (l2d r))) ≠ .nan ∧
    (∀ lo : Int64, lo.toInt = (T + k : Nat) → m = 0 → dcmp (dadd (l2d t) (ddiv (l2d a) (l2d r))) (l2d lo) = some .eq) ∧
    (∀ lo : Int64, lo.toInt = (T + k : Nat) → m ≠ 0 → dcmp (l2d lo) (dadd (l2d t) (ddiv (l2d a) (l2d r))) = some .lt) ∧
    (∀ hi : Int64, hi.toInt = (T + k + 1 : Nat) → m ≠ 0 → dcmp (dadd (l2d t) (ddiv (l2d a) (l2d r))) (l2d hi) = some .lt) := by
  have hb : R * k + m < 2 ^ 53 := by
    have : R * k ≤ 65536 * 32768 := Nat.mul_le_mul (by omega) (by omega)
    omega
  have key : ∃ L H, L * R ≤ (R * k + m) * 65536 ∧ (R * k + m) * 65536 ≤ H * R ∧ H ≤ 65536 * (k + 1) ∧ L ≤ 65536 * (k + 1) ∧ (m = 0 → L = 65536 * k ∧ H = 65536 * k) ∧ (m ≠ 0 → L = 65536 * k + 1 ∧ H + 1 = 65536 * (k + 1)) := by
    by_cases h : m = 0
    · refine ⟨65536 * k, 65536 * k, ?_, ?_, by omega, by omega, fun _ => ⟨rfl, rfl⟩, fun q => absurd h q⟩
      · subst h; rw [Nat.add_zero]; exact Nat.le_of_eq (by ac_rfl)
      · subst h; rw [Nat.add_zero]; exact Nat.le_of_eq (by ac_rfl)
    · refine ⟨65536 * k + 1, 65536 * k + 65535, ?_, ?_, by omega, by omega, fun q => absurd q h, fun _ => ⟨rfl, by omega⟩⟩
      · rw [Nat.add_mul, Nat.add_mul, Nat.one_mul, show 65536 * k * R = R * k * 65536 by ac_rfl]
        omega
      · rw [Nat.add_mul, Nat.add_mul, show 65536 * k * R = R * k * 65536 by ac_rfl]
        omega
  obtain ⟨L, H, k1, k2, k3, k4, k5, k6⟩ := key
  obtain ⟨c, q, e1, d1, d2⟩ := own_div ha hr hb (by omega) hR0 (by omega) (by omega) k1 k2
  obtain ⟨n1, s1, s2⟩ := own_sum ht e1 d1 d2 (by omega) (by omega) (by omega)
  have hP : (0 : Int) < ((2 ^ 1058 : Nat) : Int) := Int.natCast_pos.mpr (Nat.two_pow_pos _)
  refine ⟨by rw [e1]; exact Datum.noConfusion, n1, ?_, ?_, ?_⟩
  · intro lo hlo h
    rw [(own_cmp hlo (by omega) n1).2]
    obtain ⟨z1, z2⟩ := k5 h
    congr 1
    rw [show 65536 * T + L = 65536 * (T + k) by omega] at s1
    rw [show 65536 * T + H = 65536 * (T + k) by omega] at s2
    exact Int.compare_eq_eq.mpr (Int.le_antisymm s2 s1)
  · intro lo hlo h
    rw [(own_cmp hlo (by omega) n1).1]
    obtain ⟨z1, z2⟩ := k6 h
    congr 1
    refine Int.compare_eq_lt.mpr (Int.lt_of_lt_of_le ?_ s1)
    exact Int.mul_lt_mul_of_pos_right (Int.ofNat_lt.mpr (by omega)) hP
  · intro hi hhi h
    rw [(own_cmp hhi (by omega) n1).2]
    obtain ⟨z1, z2⟩ := k6 h
    congr 1
    refine Int.compare_eq_lt.mpr (Int.lt_of_le_of_lt s2 ?_)
    exact Int.mul_lt_mul_of_pos_right (Int.ofNat_lt.mpr (by omega)) hP
end Math
theorem own_setup {bR tT kk mq bq : Int32} (rR : 0 ≤ bR.toInt ∧ bR.toInt ≤ 65535) (hz : ¬ bR = (0 : Int32)) (rT : 0 ≤ tT.toInt ∧ tT.toInt ≤ 65535) (rk : 0 ≤ kk.toInt ∧ kk.toInt ≤ 32767) (rm : 0 ≤ mq.toInt ∧ mq.toInt < bR.toInt) (hb : bq.toInt = bR.toInt * kk.toInt + mq.toInt) :
    ∃ T R k m : Nat, tT.toInt = T ∧ bR.toInt = R ∧ kk.toInt = k ∧ mq.toInt = m ∧ tT.toInt64.toInt = T ∧ bR.toInt64.toInt = R ∧ bq.toInt64.toInt = (R * k + m : Nat) ∧ T < 65536 ∧ R < 65536 ∧ 0 < R ∧ k < 32768 ∧ m < R := by
  have pos := own_pos rR hz
  obtain ⟨T, hT⟩ := Int.eq_ofNat_of_zero_le rT.1
  obtain ⟨R, hR⟩ := Int.eq_ofNat_of_zero_le rR.1
  obtain ⟨k, hk⟩ := Int.eq_ofNat_of_zero_le rk.1
  obtain ⟨m, hm⟩ := Int.eq_ofNat_of_zero_le rm.1
  rw [hR, hk, hm] at hb
  rw [hT] at rT
  rw [hR] at rR pos
  rw [hk] at rk
  rw [hm, hR] at rm
  exact ⟨T, R, k, m, hT, hR, hk, hm, by rw [c_i2l]; exact hT, by rw [c_i2l]; exact hR, by rw [c_i2l, hb, Int.natCast_add, Int.natCast_mul], by omega, by omega, by omega, by omega, by omega⟩
theorem own_nn {bR tT kk mq bq : Int32} (rR : 0 ≤ bR.toInt ∧ bR.toInt ≤ 65535) (hz : ¬ bR = (0 : Int32)) (rT : 0 ≤ tT.toInt ∧ tT.toInt ≤ 65535) (rk : 0 ≤ kk.toInt ∧ kk.toInt ≤ 32767) (rm : 0 ≤ mq.toInt ∧ mq.toInt < bR.toInt) (hb : bq.toInt = bR.toInt * kk.toInt + mq.toInt) :
    Jvm.Free.Fl.NoNaN64 (FP.ddiv (FP.l2d bq.toInt64) (FP.l2d bR.toInt64)) ∧ Jvm.Free.Fl.NoNaN64 (FP.dadd (FP.l2d tT.toInt64) (FP.ddiv (FP.l2d bq.toInt64) (FP.l2d bR.toInt64))) := by
  obtain ⟨T, R, k, m, hT, hR, hk, hm, h1, h2, h3, i1, i2, i3, i4, i5⟩ := own_setup rR hz rT rk rm hb
  have q := own_bound h1 h2 h3 i1 i2 i3 i4 i5
  exact ⟨Jvm.Free.Fl.val64_no.mpr q.1, Jvm.Free.Fl.val64_no.mpr q.2.1⟩
theorem own_law {bR tT kk mq bq rr : Int32} {bd : UInt64} (rR : 0 ≤ bR.toInt ∧ bR.toInt ≤ 65535) (hz : ¬ bR = (0 : Int32)) (hr : ¬ bR < rr) (rT : 0 ≤ tT.toInt ∧ tT.toInt ≤ 65535) (rk : 0 ≤ kk.toInt ∧ kk.toInt ≤ 32767) (rm : 0 ≤ mq.toInt ∧ mq.toInt < bR.toInt) (hb : bq.toInt = bR.toInt * kk.toInt + mq.toInt)
    (hbd : bd = if bR.toInt64 = 0 ∨ bR.toInt64 < rr.toInt64 then (9218868437227405312 : UInt64) else FP.dadd (FP.l2d tT.toInt64) (FP.ddiv (FP.l2d bq.toInt64) (FP.l2d bR.toInt64))) :
    (mq = (0 : Int32) → cmpValue (FP.dcmp bd (FP.l2d (tT + kk).toInt64)) .l = (0 : Int32)) ∧ (¬ mq = (0 : Int32) → cmpValue (FP.dcmp (FP.l2d (tT + kk).toInt64) bd) .g = (-1 : Int32) ∧ cmpValue (FP.dcmp bd (FP.l2d ((tT + kk).toInt64 + (1 : Int64)))) .g = (-1 : Int32)) := by
  obtain ⟨T, R, k, m, hT, hR, hk, hm, h1, h2, h3, i1, i2, i3, i4, i5⟩ := own_setup rR hz rT rk rm hb
  have q := own_bound h1 h2 h3 i1 i2 i3 i4 i5
  have c0 : (0 : Int32).toInt = 0 := by decide
  have n : ¬ (bR.toInt64 = 0 ∨ bR.toInt64 < rr.toInt64) := by
    rintro (z | z)
    · have := congrArg Int64.toInt z
      rw [c_i2l, own_z64] at this
      exact hz (Int32.toInt_inj.mp (by rw [this, c0]))
    · rw [Int64.lt_iff_toInt_lt, c_i2l, c_i2l] at z
      exact hr (Int32.lt_iff_toInt_lt.mpr z)
  rw [if_neg n] at hbd
  subst hbd
  have s1 : (tT + kk).toInt64.toInt = (T + k : Nat) := by
    have a := c_iadd tT kk
    have b := rng32 (tT + kk)
    rw [c_i2l]
    omega
  have s2 : ((tT + kk).toInt64 + (1 : Int64)).toInt = (T + k + 1 : Nat) := by
    have o : (1 : Int64).toInt = 1 := by decide
    have a := add64 (own_b32 (tT + kk)) own_B1
    omega
  refine ⟨fun z => ?_, fun z => ⟨?_, ?_⟩⟩
  · have e := q.2.2.1 _ s1 (by rw [z, c0] at hm; omega)
    rw [show FP.dcmp _ (FP.l2d (tT + kk).toInt64) = some .eq from e]
    rfl
  · have e := q.2.2.2.1 _ s1 (fun y => z (Int32.toInt_inj.mp (by rw [hm, y, c0]; rfl)))
    rw [show FP.dcmp (FP.l2d (tT + kk).toInt64) _ = some .lt from e]
    rfl
  · have e := q.2.2.2.2 _ s2 (fun y => z (Int32.toInt_inj.mp (by rw [hm, y, c0]; rfl)))
    rw [show FP.dcmp _ (FP.l2d ((tT + kk).toInt64 + (1 : Int64))) = some .lt from e]
    rfl
theorem pn_0 : plainName "java/lang/Record" = true := by first | (simp [plainName, overriddenIn]; done) | decide +kernel
theorem d2_0 : decode jdk_30_method_1_code 0 = .ok (.aload_n 0, 1) := by decide +kernel
theorem d2_1 : decode jdk_30_method_1_code 1 = .ok (.invokespecial 1, 3) := by decide +kernel
theorem d2_4 : decode jdk_30_method_1_code 4 = .ok (.return_, 1) := by decide +kernel
theorem ef_rm2 (m : MethodId) (x0 : Addr) : entryFrame m #[(.ref x0)] 1 = mkF m 0 #[.val (.ref x0)] [] := by first | (simp [entryFrame, mkF, argsToLocals, Value.category]; done) | rfl
def Q2 (Z : State) (a : Addr) (h0 : Heap) (n0 : Nat) (v : Option Value) (h : Heap) (L : List Loc) : Prop := v = none ∧ Fr n0 L ∧ h = h0
set_option maxRecDepth 65536 in
set_option maxHeartbeats 40000000 in
theorem rm2 (l : Launch) (Z : State) (a0 : Array Value) (hw : ∀ d ∈ tables_1, d.before a0 Z = true) (ws : List Jvm.Cond) (a : Addr) (h0 : Heap) (n0 : Nat) (Z0 : n0 ≤ h0.size) :
    MetFree l (⟨"java/lang/Record", "<init>", "()V"⟩ : MethodName) (head1 (Jvm.Cond.code (⟨"java/lang/Record", "<init>", "()V"⟩ : MethodName) jdk_30_method_1_code 1 none :: ws) ({ frames := 1, cells := 0, slots := 0, locals := 12 } : Room)) (fun as_ U => as_ = #[(.ref a)] ∧ Z.Warmed39 U.vm ∧ U.heap = h0) (fun _ _ _ _ _ => True) (fun _ U out_ U' => ∃ v L, out_ = .returned v ∧ Q2 Z a h0 n0 v U'.heap L ∧ FrameEnd U out_ U' L ({ frames := 1, cells := 0, slots := 0, locals := 12 } : Room).cells ({ frames := 1, cells := 0, slots := 0, locals := 12 } : Room).slots) := by
  refine MetFree.of_bodySF (plainFor_of_name pn_0) hisR ?_
  intro p e s m args below meth cd s₁ Bd hml0 hP hK
  obtain ⟨rfl, hZ, hh⟩ := hP
  have hx := Bd.exec
  have hby := Bd.bytes
  have hml : cd.maxLocals = 1 := hml0
  have hlk : meth.locks = false := BodyLoose.notSynchronized Bd
  have hown : s.vm.findClass "java/lang/Record" = some m.cls := findClass_of_methodNamed Bd.named
  have hnm := (name_of_methodNamed Bd.named Bd.method).1
  have hret := Bd.returns
  have X0 : Stand p l e ({ frames := 1, cells := 0, slots := 0, locals := 12 } : Room) s m #[(.ref a)] below meth cd s₁ [] 0 0 := Stand.of_body Bd
  have e0 : s₁.heap = h0 := by rw [← hh, Bd.state]; rfl
  have N0 := Fr.nil n0
  show own_Fin p e below (own_Ans s (Q2 Z a h0 n0) ({ frames := 1, cells := 0, slots := 0, locals := 12 } : Room).cells ({ frames := 1, cells := 0, slots := 0, locals := 12 } : Room).slots) (s₁.setTop (entryFrame m #[(.ref a)] 1))
  refine own_cast (ef_rm2 m a) ?_
  show own_Fin p e below _ (s₁.setTop (mkF m 0 #[.val (.ref a)] []))
  refine own_on (fun tq => XS.aloadN X0.here hx rfl (hb hby d2_0) rfl rfl) ?_
  show own_Fin p e below _ (s₁.setTop (mkF m 1 #[.val (.ref a)] [(.ref a)]))
  obtain ⟨T1, X1, e1, st1⟩ := initO X0 hx hZ hown (hw _ (List.mem_of_getElem? (i := 13) rfl)) (hw _ (List.mem_of_getElem? (i := 14) rfl)) (hw _ (List.mem_of_getElem? (i := 15) rfl)) e0 (g := (mkF m 1 #[.val (.ref a)] [(.ref a)])) rfl (by rw [hml]; rfl) rfl (hb hby d2_1) (by decide) (W := 0) (by show 2 * 0 + _ ≤ _; exact Nat.le_of_eq rfl) (by decide)
  refine own_on st1 ?_
  show own_Fin p e below _ (T1.setTop (mkF m 4 #[.val (.ref a)] []))
  exact own_retV X1 hx hlk hret (hb hby d2_4) (⟨rfl, N0, e1⟩) (by decide) (by decide)
theorem pn_1 : plainName "java/lang/Double" = true := by first | (simp [plainName, overriddenIn]; done) | decide +kernel
theorem d5_0 : decode jdk_117_method_8_code 0 = .ok (.dload_n 0, 1) := by decide +kernel
theorem d5_1 : decode jdk_117_method_8_code 1 = .ok (.invokestatic 38, 3) := by decide +kernel
theorem pd_0 : parseMethodDescriptor "(D)D" = some ⟨[.double], some .double⟩ := by decide +kernel
theorem d5_4 : decode jdk_117_method_8_code 4 = .ok (.ldc2_w 111, 3) := by decide +kernel
theorem d5_7 : decode jdk_117_method_8_code 7 = .ok (.dcmp .g, 1) := by decide +kernel
theorem d5_8 : decode jdk_117_method_8_code 8 = .ok (.ifCond .gt 7, 3) := by decide +kernel
theorem d5_11 : decode jdk_117_method_8_code 11 = .ok (.iconst 1, 1) := by decide +kernel
theorem d5_12 : decode jdk_117_method_8_code 12 = .ok (.goto 4, 3) := by decide +kernel
theorem d5_16 : decode jdk_117_method_8_code 16 = .ok (.ireturn, 1) := by decide +kernel
theorem ef_rm5 (m : MethodId) (x0 : UInt64) : entryFrame m #[(.double x0)] 2 = mkF m 0 #[.val (.double x0), .second] [] := by first | (simp [entryFrame, mkF, argsToLocals, Value.category]; done) | rfl
def Q5 (Z : State) (dv : UInt64) (h0 : Heap) (n0 : Nat) (v : Option Value) (h : Heap) (L : List Loc) : Prop := v = some (.int (1 : Int32)) ∧ Fr n0 L ∧ h = h0
set_option maxRecDepth 65536 in
set_option maxHeartbeats 40000000 in
theorem rm5 (l : Launch) (Z : State) (a0 : Array Value) (hw : ∀ d ∈ tables_1, d.before a0 Z = true) (ws : List Jvm.Cond) (dv : UInt64) (h0 : Heap) (n0 : Nat) (Z0 : n0 ≤ h0.size) (ok : own_ok dv) :
    MetFree l (⟨"java/lang/Double", "isFinite", "(D)Z"⟩ : MethodName) (head1 (Jvm.Cond.code (⟨"java/lang/Double", "isFinite", "(D)Z"⟩ : MethodName) jdk_117_method_8_code 2 (some .boolean) :: ws) ({ frames := 1, cells := 0, slots := 0, locals := 13 } : Room)) (fun as_ U => as_ = #[(.double dv)] ∧ Z.Warmed39 U.vm ∧ U.heap = h0) (fun _ _ _ _ _ => True) (fun _ U out_ U' => ∃ v L, out_ = .returned v ∧ Q5 Z dv h0 n0 v U'.heap L ∧ FrameEnd U out_ U' L ({ frames := 1, cells := 0, slots := 0, locals := 13 } : Room).cells ({ frames := 1, cells := 0, slots := 0, locals := 13 } : Room).slots) := by
  refine MetFree.of_bodySF (plainFor_of_name pn_1) hisR ?_
  intro p e s m args below meth cd s₁ Bd hml0 hP hK
  obtain ⟨rfl, hZ, hh⟩ := hP
  have hx := Bd.exec
  have hby := Bd.bytes
  have hml : cd.maxLocals = 2 := hml0
  have hlk : meth.locks = false := BodyLoose.notSynchronized Bd
  have hown : s.vm.findClass "java/lang/Double" = some m.cls := findClass_of_methodNamed Bd.named
  have hnm := (name_of_methodNamed Bd.named Bd.method).1
  have hret := Bd.returns
  have X0 : Stand p l e ({ frames := 1, cells := 0, slots := 0, locals := 13 } : Room) s m #[(.double dv)] below meth cd s₁ [] 0 0 := Stand.of_body Bd
  have e0 : s₁.heap = h0 := by rw [← hh, Bd.state]; rfl
  have N0 := Fr.nil n0
  show own_Fin p e below (own_Ans s (Q5 Z dv h0 n0) ({ frames := 1, cells := 0, slots := 0, locals := 13 } : Room).cells ({ frames := 1, cells := 0, slots := 0, locals := 13 } : Room).slots) (s₁.setTop (entryFrame m #[(.double dv)] 2))
  refine own_cast (ef_rm5 m dv) ?_
  show own_Fin p e below _ (s₁.setTop (mkF m 0 #[.val (.double dv), .second] []))
  refine own_on (fun tq => XS.dloadN X0.here hx rfl (hb hby d5_0) rfl) ?_
  show own_Fin p e below _ (s₁.setTop (mkF m 1 #[.val (.double dv), .second] [(.double dv)]))
  obtain ⟨T2, X2, e2, st2⟩ := natS X0 hx hZ (y := (⟨"java/lang/Math", "abs", "(D)D"⟩ : MethodName)) hown (hw _ (List.mem_of_getElem? (i := 32) rfl)) (hw _ (List.mem_of_getElem? (i := 33) rfl)) (hw _ (List.mem_of_getElem? (i := 34) rfl)) (hw _ (List.mem_of_getElem? (i := 35) rfl)) (by decide) e0 (W := 0) (val' := (.double dv)) (fun hc_ => Jvm.Free.Fl.Abs.absD_pays dv (own_absc ▸ hc_) (by decide) (by decide)) (g := (mkF m 1 #[.val (.double dv), .second] [(.double dv)])) rfl (by rw [hml]; rfl) (argsL := [(.double dv)]) (rest := []) (lenOf pd_0 rfl) rfl (by show 2 * 0 + _ ≤ _; exact Nat.le_of_eq rfl) (hb hby d5_1) (by decide) (by decide) ⟨rfl, own_nnok ok⟩ (by rw [own_abs ok])
  refine own_on st2 ?_
  show own_Fin p e below _ (T2.setTop (mkF m 4 #[.val (.double dv), .second] [(.double dv)]))
  refine own_on (fun tq => X2.ldc2DoubleC hx hown (mvT hZ (hw _ (List.mem_of_getElem? (i := 36) rfl))) (g := (mkF m 4 #[.val (.double dv), .second] [(.double dv)])) rfl (hb hby d5_4) tq) ?_
  show own_Fin p e below _ (T2.setTop (mkF m 7 #[.val (.double dv), .second] [(.double (9218868437227405311 : UInt64)), (.double dv)]))
  refine own_on (fun tq => XS.dcmpS X2.here hx rfl (hb hby d5_7) rfl rfl) ?_
  show own_Fin p e below _ (T2.setTop (mkF m 8 #[.val (.double dv), .second] [(.int (cmpValue (FP.dcmp dv (9218868437227405311 : UInt64)) .g))]))
  refine own_on (fun tq => XS.ifNo X2.here hx rfl (hb hby d5_8) rfl ((if0 _ _).trans (flt (own_max ok)).2.2.1)) ?_
  show own_Fin p e below _ (T2.setTop (mkF m 11 #[.val (.double dv), .second] []))
  refine own_on (fun tq => XS.iconst X2.here hx rfl (hb hby d5_11)) ?_
  show own_Fin p e below _ (T2.setTop (mkF m 12 #[.val (.double dv), .second] [(.int (1 : Int32))]))
  refine own_on (fun tq => XS.goto X2.here hx rfl (pc0 := 12) (pc' := 16) rfl (hb hby d5_12) (by decide) (by decide)) ?_
  show own_Fin p e below _ (T2.setTop (mkF m 16 #[.val (.double dv), .second] [(.int (1 : Int32))]))
  exact own_ret (t := .boolean) X2 hx hlk hret rfl (Or.inl ⟨rfl, (by simp), _, rfl⟩) (hb hby d5_16) (⟨rfl, N0, e2⟩) (by decide) (by decide)
theorem pn_2 : plainName "com/example/curves_to_bounds/curvestobounds/curve/CurveParameters" = true := by first | (simp [plainName, overriddenIn]; done) | decide +kernel
theorem d4_0 : decode prog_23_method_2_code 0 = .ok (.dload_n 1, 1) := by decide +kernel
theorem d4_1 : decode prog_23_method_2_code 1 = .ok (.invokestatic 7, 3) := by decide +kernel
theorem pd_1 : parseMethodDescriptor "(D)Z" = some ⟨[.double], some .boolean⟩ := by decide +kernel
theorem d4_4 : decode prog_23_method_2_code 4 = .ok (.ifCond .eq 9, 3) := by decide +kernel
theorem d4_7 : decode prog_23_method_2_code 7 = .ok (.dload_n 1, 1) := by decide +kernel
theorem d4_8 : decode prog_23_method_2_code 8 = .ok (.dconst 0, 1) := by decide +kernel
theorem d4_9 : decode prog_23_method_2_code 9 = .ok (.dcmp .g, 1) := by decide +kernel
theorem d4_10 : decode prog_23_method_2_code 10 = .ok (.ifCond .ge 18, 3) := by decide +kernel
theorem d4_28 : decode prog_23_method_2_code 28 = .ok (.return_, 1) := by decide +kernel
theorem ef_rm4 (m : MethodId) (x0 : Addr) (x1 : UInt64) : entryFrame m #[(.ref x0), (.double x1)] 3 = mkF m 0 #[.val (.ref x0), .val (.double x1), .second] [] := by first | (simp [entryFrame, mkF, argsToLocals, Value.category]; done) | rfl
def Q4 (Z : State) (x : Addr) (dv : UInt64) (h0 : Heap) (n0 : Nat) (v : Option Value) (h : Heap) (L : List Loc) : Prop := v = none ∧ Fr n0 L ∧ h = h0
set_option maxRecDepth 65536 in
set_option maxHeartbeats 40000000 in
theorem rm4 (l : Launch) (Z : State) (a0 : Array Value) (hw : ∀ d ∈ tables_1, d.before a0 Z = true) (ws : List Jvm.Cond) (x : Addr) (dv : UInt64) (h0 : Heap) (n0 : Nat) (Z0 : n0 ≤ h0.size) (ok : own_ok dv) :
    MetFree l (⟨"com/example/curves_to_bounds/curvestobounds/curve/CurveParameters", "requireFiniteNonNegative", "(Ljava/lang/String;D)V"⟩ : MethodName) (head1 (Jvm.Cond.code (⟨"com/example/curves_to_bounds/curvestobounds/curve/CurveParameters", "requireFiniteNonNegative", "(Ljava/lang/String;D)V"⟩ : MethodName) prog_23_method_2_code 3 none :: ws) ({ frames := 2, cells := 0, slots := 0, locals := 26 } : Room)) (fun as_ U => as_ = #[(.ref x), (.double dv)] ∧ Z.Warmed39 U.vm ∧ U.heap = h0) (fun _ _ _ _ _ => True) (fun _ U out_ U' => ∃ v L, out_ = .returned v ∧ Q4 Z x dv h0 n0 v U'.heap L ∧ FrameEnd U out_ U' L ({ frames := 2, cells := 0, slots := 0, locals := 26 } : Room).cells ({ frames := 2, cells := 0, slots := 0, locals := 26 } : Room).slots) := by
  refine MetFree.of_bodySF (plainFor_of_name pn_2) hisR ?_
  intro p e s m args below meth cd s₁ Bd hml0 hP hK
  obtain ⟨rfl, hZ, hh⟩ := hP
  have hx := Bd.exec
  have hby := Bd.bytes
  have hml : cd.maxLocals = 3 := hml0
  have hlk : meth.locks = false := BodyLoose.notSynchronized Bd
  have hown : s.vm.findClass "com/example/curves_to_bounds/curvestobounds/curve/CurveParameters" = some m.cls := findClass_of_methodNamed Bd.named
  have hnm := (name_of_methodNamed Bd.named Bd.method).1
  have hret := Bd.returns
  have X0 : Stand p l e ({ frames := 2, cells := 0, slots := 0, locals := 26 } : Room) s m #[(.ref x), (.double dv)] below meth cd s₁ [] 0 0 := Stand.of_body Bd
  have e0 : s₁.heap = h0 := by rw [← hh, Bd.state]; rfl
  have N0 := Fr.nil n0
  show own_Fin p e below (own_Ans s (Q4 Z x dv h0 n0) ({ frames := 2, cells := 0, slots := 0, locals := 26 } : Room).cells ({ frames := 2, cells := 0, slots := 0, locals := 26 } : Room).slots) (s₁.setTop (entryFrame m #[(.ref x), (.double dv)] 3))
  refine own_cast (ef_rm4 m x dv) ?_
  show own_Fin p e below _ (s₁.setTop (mkF m 0 #[.val (.ref x), .val (.double dv), .second] []))
  refine own_on (fun tq => XS.dloadN X0.here hx rfl (hb hby d4_0) rfl) ?_
  show own_Fin p e below _ (s₁.setTop (mkF m 1 #[.val (.ref x), .val (.double dv), .second] [(.double dv)]))
  obtain ⟨_, _, ⟨T3, L3, k3, n3⟩, -, X3, ⟨Lc3, hQ3, l3, y3, z3⟩, st3⟩ := Jvm.LawKit.callS X0 hx (y := (⟨"java/lang/Double", "isFinite", "(D)Z"⟩ : MethodName)) hown (mvT hZ (hw _ (List.mem_of_getElem? (i := 28) rfl))) (mvT hZ (hw _ (List.mem_of_getElem? (i := 29) rfl))) (mvT hZ (hw _ (List.mem_of_getElem? (i := 30) rfl))) (mvT hZ (hw _ (List.mem_of_getElem? (i := 31) rfl))) (by decide) (backOf (W := 0) (rm5 l Z a0 hw [] dv h0 n0 (by exact Z0) ok) hZ (hw _ (List.mem_of_getElem? (i := 31) rfl)) (hw _ (List.mem_of_getElem? (i := 30) rfl)) (by decide) (by decide)) (g := (mkF m 1 #[.val (.ref x), .val (.double dv), .second] [(.double dv)])) rfl (by rw [hml]; rfl) (argsL := [(.double dv)]) (rest := []) (lenOf pd_1 rfl) rfl (by show 2 * 0 + _ ≤ _; exact Nat.le_of_eq rfl) (hb hby d4_1) (fun _ _ => ⟨rfl, e0, (by decide : 0 + 0 ≤ _), (by decide : 0 + 0 ≤ _)⟩)
  dsimp only [Pt.U, Pt.locs, Pt.cells, Pt.slots] at X3 l3 y3 z3 st3 hQ3
  subst l3 y3 z3
  obtain ⟨rfl, N3q, e3⟩ := hQ3
  have N3 := Fr.app N0 N3q
  refine own_on st3 ?_
  show own_Fin p e below _ (T3.setTop (mkF m 4 #[.val (.ref x), .val (.double dv), .second] [(.int (1 : Int32))]))
  refine own_on (fun tq => XS.ifNo X3.here hx rfl (hb hby d4_4) rfl ((if0 _ _).trans (feq (by decide : ¬ ((1 : Int32) = (0 : Int32)))).1)) ?_
  show own_Fin p e below _ (T3.setTop (mkF m 7 #[.val (.ref x), .val (.double dv), .second] []))
  refine own_on (fun tq => XS.dloadN X3.here hx rfl (hb hby d4_7) rfl) ?_
  show own_Fin p e below _ (T3.setTop (mkF m 8 #[.val (.ref x), .val (.double dv), .second] [(.double dv)]))
  refine own_on (fun tq => XS.dconst0 X3.here hx rfl (hb hby d4_8) own_dc0) ?_
  show own_Fin p e below _ (T3.setTop (mkF m 9 #[.val (.ref x), .val (.double dv), .second] [(.double (FP.l2d (0 : Int64))), (.double dv)]))
  refine own_on (fun tq => XS.dcmpS X3.here hx rfl (hb hby d4_9) rfl rfl) ?_
  show own_Fin p e below _ (T3.setTop (mkF m 10 #[.val (.ref x), .val (.double dv), .second] [(.int (cmpValue (FP.dcmp dv (FP.l2d (0 : Int64))) .g))]))
  refine own_on (fun tq => XS.ifYes X3.here hx rfl (pc0 := 10) (pc' := 28) rfl (hb hby d4_10) rfl ((if0 _ _).trans (flt (own_ge ok)).2.1) (by decide) (by decide)) ?_
  show own_Fin p e below _ (T3.setTop (mkF m 28 #[.val (.ref x), .val (.double dv), .second] []))
  exact own_retV X3 hx hlk hret (hb hby d4_28) (⟨rfl, N3, e3⟩) (by decide) (by decide)
theorem pn_3 : plainName "com/example/curves_to_bounds/curvestobounds/curve/RateLatency" = true := by first | (simp [plainName, overriddenIn]; done) | decide +kernel
theorem d1_0 : decode prog_24_method_1_code 0 = .ok (.aload_n 0, 1) := by decide +kernel
theorem d1_1 : decode prog_24_method_1_code 1 = .ok (.invokespecial 1, 3) := by decide +kernel
theorem pd_2 : parseMethodDescriptor "()V" = some ⟨[], none⟩ := by decide +kernel
theorem d1_4 : decode prog_24_method_1_code 4 = .ok (.ldc 7, 2) := by decide +kernel
theorem d1_6 : decode prog_24_method_1_code 6 = .ok (.dload_n 1, 1) := by decide +kernel
theorem d1_7 : decode prog_24_method_1_code 7 = .ok (.invokestatic 9, 3) := by decide +kernel
theorem pd_3 : parseMethodDescriptor "(Ljava/lang/String;D)V" = some ⟨[(.object "java/lang/String"), .double], none⟩ := by decide +kernel
theorem d1_10 : decode prog_24_method_1_code 10 = .ok (.ldc 15, 2) := by decide +kernel
theorem d1_12 : decode prog_24_method_1_code 12 = .ok (.dload_n 3, 1) := by decide +kernel
theorem d1_13 : decode prog_24_method_1_code 13 = .ok (.invokestatic 9, 3) := by decide +kernel
theorem d1_16 : decode prog_24_method_1_code 16 = .ok (.aload_n 0, 1) := by decide +kernel
theorem d1_17 : decode prog_24_method_1_code 17 = .ok (.dload_n 1, 1) := by decide +kernel
theorem d1_18 : decode prog_24_method_1_code 18 = .ok (.putfield 17, 3) := by decide +kernel
theorem d1_21 : decode prog_24_method_1_code 21 = .ok (.aload_n 0, 1) := by decide +kernel
theorem d1_22 : decode prog_24_method_1_code 22 = .ok (.dload_n 3, 1) := by decide +kernel
theorem d1_23 : decode prog_24_method_1_code 23 = .ok (.putfield 22, 3) := by decide +kernel
theorem d1_26 : decode prog_24_method_1_code 26 = .ok (.return_, 1) := by decide +kernel
theorem ef_rm1 (m : MethodId) (x0 : Addr) (x1 : UInt64) (x2 : UInt64) : entryFrame m #[(.ref x0), (.double x1), (.double x2)] 5 = mkF m 0 #[.val (.ref x0), .val (.double x1), .second, .val (.double x2), .second] [] := by first | (simp [entryFrame, mkF, argsToLocals, Value.category]; done) | rfl
def Q1 (Z : State) (a : Addr) (u1 : UInt64) (u2 : UInt64) (h0 : Heap) (n0 : Nat) (v : Option Value) (h : Heap) (L : List Loc) : Prop := v = none ∧ Fr n0 L ∧ Keep h0 h [a] ∧ Exa Z h a "com/example/curves_to_bounds/curvestobounds/curve/RateLatency" ∧ Fld Z h a "com/example/curves_to_bounds/curvestobounds/curve/RateLatency" "rate" "D" (.double u1) ∧ Fld Z h a "com/example/curves_to_bounds/curvestobounds/curve/RateLatency" "latency" "D" (.double u2)
set_option maxRecDepth 65536 in
set_option maxHeartbeats 40000000 in
theorem rm1 (l : Launch) (Z : State) (a0 : Array Value) (hw : ∀ d ∈ tables_1, d.before a0 Z = true) (ws : List Jvm.Cond) (a : Addr) (u1 : UInt64) (u2 : UInt64) (h0 : Heap) (n0 : Nat) (Z0 : n0 ≤ h0.size) (hEL : EW Z a0 own_EL) (ok1 : own_ok u1) (ok2 : own_ok u2) (E : Exa Z h0 a "com/example/curves_to_bounds/curvestobounds/curve/RateLatency") (F0 : Fld Z h0 a "com/example/curves_to_bounds/curvestobounds/curve/RateLatency" "rate" "D" (.double (0 : UInt64))) (F1 : Fld Z h0 a "com/example/curves_to_bounds/curvestobounds/curve/RateLatency" "latency" "D" (.double (0 : UInt64))) (ga : n0 ≤ a) :
    MetFree l (⟨"com/example/curves_to_bounds/curvestobounds/curve/RateLatency", "<init>", "(DD)V"⟩ : MethodName) (head1 (Jvm.Cond.code (⟨"com/example/curves_to_bounds/curvestobounds/curve/RateLatency", "<init>", "(DD)V"⟩ : MethodName) prog_24_method_1_code 5 none :: ws) ({ frames := 3, cells := 4, slots := 52, locals := 40 } : Room)) (fun as_ U => as_ = #[(.ref a), (.double u1), (.double u2)] ∧ Z.Warmed39 U.vm ∧ U.heap = h0 ∧ CHv Z own_EL U.vm h0) (fun _ _ _ _ _ => True) (fun _ U out_ U' => ∃ v L, out_ = .returned v ∧ Q1 Z a u1 u2 h0 n0 v U'.heap L ∧ CHr Z own_EL U.vm U.heap U'.vm U'.heap ∧ ReturnedEndW U out_ U' L ({ frames := 3, cells := 4, slots := 52, locals := 40 } : Room).cells ({ frames := 3, cells := 4, slots := 52, locals := 40 } : Room).slots) := by
  refine MetFree.of_bodySF (plainFor_of_name pn_3) hisR ?_
  intro p e s m args below meth cd s₁ Bd hml0 hP hK
  obtain ⟨rfl, hZ, hh, CH0⟩ := hP
  have hx := Bd.exec
  have hby := Bd.bytes
  have hml : cd.maxLocals = 5 := hml0
  have hlk : meth.locks = false := BodyLoose.notSynchronized Bd
  have hown : s.vm.findClass "com/example/curves_to_bounds/curvestobounds/curve/RateLatency" = some m.cls := findClass_of_methodNamed Bd.named
  have hnm := (name_of_methodNamed Bd.named Bd.method).1
  have hret := Bd.returns
  have X0 : Stand p l e ({ frames := 3, cells := 4, slots := 52, locals := 40 } : Room) (s.setVm s.vm) m #[(.ref a), (.double u1), (.double u2)] below meth cd s₁ [] 0 0 := Stand.of_body Bd
  have e0 : s₁.heap = h0 := by rw [← hh, Bd.state]; rfl
  have N0 := Fr.nil n0
  have hS0 : s.Since s.vm 0 := (State.WarmedH.refl s).since 0
  have wS := own_wS hw
  show own_Fin p e below (own_AnsW s Z own_EL (Q1 Z a u1 u2 h0 n0) ({ frames := 3, cells := 4, slots := 52, locals := 40 } : Room).cells ({ frames := 3, cells := 4, slots := 52, locals := 40 } : Room).slots) (s₁.setTop (entryFrame m #[(.ref a), (.double u1), (.double u2)] 5))
  refine own_cast (ef_rm1 m a u1 u2) ?_
  show own_Fin p e below _ (s₁.setTop (mkF m 0 #[.val (.ref a), .val (.double u1), .second, .val (.double u2), .second] []))
  refine own_on (fun tq => XS.aloadN X0.here hx rfl (hb hby d1_0) rfl rfl) ?_
  show own_Fin p e below _ (s₁.setTop (mkF m 1 #[.val (.ref a), .val (.double u1), .second, .val (.double u2), .second] [(.ref a)]))
  obtain ⟨_, _, ⟨T4, L4, k4, n4⟩, -, X4, ⟨Lc4, hQ4, l4, y4, z4⟩, st4⟩ := X0.specialBack hx (y := (⟨"java/lang/Record", "<init>", "()V"⟩ : MethodName)) rfl hown (mvT hZ (hw _ (List.mem_of_getElem? (i := 8) rfl))) (mvT hZ (hw _ (List.mem_of_getElem? (i := 9) rfl))) (mvT hZ (hw _ (List.mem_of_getElem? (i := 12) rfl))) (by decide) (backOf (W := 0) (rm2 l Z a0 hw [] a h0 n0 (by exact Z0)) hZ (hw _ (List.mem_of_getElem? (i := 12) rfl)) (hw _ (List.mem_of_getElem? (i := 11) rfl)) (by decide) (by decide)) (g := (mkF m 1 #[.val (.ref a), .val (.double u1), .second, .val (.double u2), .second] [(.ref a)])) rfl (by rw [hml]; rfl) (Steps.refl _) (a := a) (argsL := []) (rest := []) (lenOf pd_2 rfl) rfl (by show 2 * 0 + _ ≤ _; exact Nat.le_of_eq rfl) (hb hby d1_1) (fun _ _ => ⟨rfl, e0, (by decide : 0 + 0 ≤ _), (by decide : 0 + 0 ≤ _)⟩)
  dsimp only [Pt.U, Pt.locs, Pt.cells, Pt.slots] at X4 l4 y4 z4 st4 hQ4
  subst l4 y4 z4
  obtain ⟨rfl, N4q, e4⟩ := hQ4
  have N4 := Fr.app N0 N4q
  refine own_via st4 ?_
  show own_Fin p e below _ (T4.setTop (mkF m 4 #[.val (.ref a), .val (.double u1), .second, .val (.double u2), .second] []))
  obtain ⟨a5, T5, h5, k5, X5, e5, E5, hS5, hk5, hZ5, hown5, A5, Lt5, st5⟩ := ldcOH X4 hx hZ hown (hw _ (List.mem_of_getElem? (i := 16) rfl)) wS e4 hS0 (Nat.zero_le _) hEL CH0 (g := (mkF m 4 #[.val (.ref a), .val (.double u1), .second, .val (.double u2), .second] [])) rfl (hb hby d1_4) (n := 16) (by decide) (by decide) (by decide) (by decide)
  have y6 := (E.ext E5)
  have y7 := ((Keep.refl h0 [a]).ext E5)
  have y8 := (Nat.le_trans Z0 E5.1)
  have y9 := (F0.ext E5)
  have y10 := (F1.ext E5)
  have y11 := (CHr.trans (CHr.refl CH0) A5)
  have y12 := (And.left A5)
  refine own_on st5 ?_
  show own_Fin p e below _ (T5.setTop (mkF m 6 #[.val (.ref a), .val (.double u1), .second, .val (.double u2), .second] [(.ref a5)]))
  refine own_on (fun tq => XS.dloadN X5.here hx rfl (hb hby d1_6) rfl) ?_
  show own_Fin p e below _ (T5.setTop (mkF m 7 #[.val (.ref a), .val (.double u1), .second, .val (.double u2), .second] [(.double u1), (.ref a5)]))
  obtain ⟨_, _, ⟨T13, L13, k13, n13⟩, -, X13, ⟨Lc13, hQ13, l13, y13, z13⟩, st13⟩ := Jvm.LawKit.callS X5 hx (y := (⟨"com/example/curves_to_bounds/curvestobounds/curve/CurveParameters", "requireFiniteNonNegative", "(Ljava/lang/String;D)V"⟩ : MethodName)) hown5 (mvT hZ5 (hw _ (List.mem_of_getElem? (i := 24) rfl))) (mvT hZ5 (hw _ (List.mem_of_getElem? (i := 25) rfl))) (mvT hZ5 (hw _ (List.mem_of_getElem? (i := 26) rfl))) (mvT hZ5 (hw _ (List.mem_of_getElem? (i := 27) rfl))) (by decide) (backOf (W := 0) (rm4 l Z a0 hw [] a5 u1 h5 n0 (by exact y8) ok1) hZ5 (hw _ (List.mem_of_getElem? (i := 27) rfl)) (hw _ (List.mem_of_getElem? (i := 26) rfl)) (by decide) (by decide)) (g := (mkF m 7 #[.val (.ref a), .val (.double u1), .second, .val (.double u2), .second] [(.double u1), (.ref a5)])) rfl (by rw [hml]; rfl) (argsL := [(.ref a5), (.double u1)]) (rest := []) (lenOf pd_3 rfl) rfl (by show 2 * 0 + _ ≤ _; exact Nat.le_of_eq rfl) (hb hby d1_7) (fun _ _ => ⟨rfl, e5, (by decide : 2 + 0 ≤ _), (by decide : 20 + 0 ≤ _)⟩)
  dsimp only [Pt.U, Pt.locs, Pt.cells, Pt.slots] at X13 l13 y13 z13 st13 hQ13
  subst l13 y13 z13
  obtain ⟨rfl, N13q, e13⟩ := hQ13
  have N13 := Fr.app N4 N13q
  refine own_on st13 ?_
  show own_Fin p e below _ (T13.setTop (mkF m 10 #[.val (.ref a), .val (.double u1), .second, .val (.double u2), .second] []))
  obtain ⟨a14, T14, h14, k14, X14, e14, E14, hS14, hk14, hZ14, hown14, A14, Lt14, st14⟩ := ldcOH X13 hx hZ5 hown5 (hw _ (List.mem_of_getElem? (i := 37) rfl)) wS e13 hS5 hk5 hEL y12 (g := (mkF m 10 #[.val (.ref a), .val (.double u1), .second, .val (.double u2), .second] [])) rfl (hb hby d1_10) (n := 28) (by decide) (by decide) (by decide) (by decide)
  have y15 := (y6.ext E14)
  have y16 := (y7.ext E14)
  have y17 := (Nat.le_trans y8 E14.1)
  have y18 := (y9.ext E14)
  have y19 := (y10.ext E14)
  have y20 := (CHr.trans y11 A14)
  have y21 := (And.left A14)
  refine own_on st14 ?_
  show own_Fin p e below _ (T14.setTop (mkF m 12 #[.val (.ref a), .val (.double u1), .second, .val (.double u2), .second] [(.ref a14)]))
  refine own_on (fun tq => XS.dloadN X14.here hx rfl (hb hby d1_12) rfl) ?_
  show own_Fin p e below _ (T14.setTop (mkF m 13 #[.val (.ref a), .val (.double u1), .second, .val (.double u2), .second] [(.double u2), (.ref a14)]))
  obtain ⟨_, _, ⟨T22, L22, k22, n22⟩, -, X22, ⟨Lc22, hQ22, l22, y22, z22⟩, st22⟩ := Jvm.LawKit.callS X14 hx (y := (⟨"com/example/curves_to_bounds/curvestobounds/curve/CurveParameters", "requireFiniteNonNegative", "(Ljava/lang/String;D)V"⟩ : MethodName)) hown14 (mvT hZ14 (hw _ (List.mem_of_getElem? (i := 24) rfl))) (mvT hZ14 (hw _ (List.mem_of_getElem? (i := 25) rfl))) (mvT hZ14 (hw _ (List.mem_of_getElem? (i := 26) rfl))) (mvT hZ14 (hw _ (List.mem_of_getElem? (i := 27) rfl))) (by decide) (backOf (W := 0) (rm4 l Z a0 hw [] a14 u2 h14 n0 (by exact y17) ok2) hZ14 (hw _ (List.mem_of_getElem? (i := 27) rfl)) (hw _ (List.mem_of_getElem? (i := 26) rfl)) (by decide) (by decide)) (g := (mkF m 13 #[.val (.ref a), .val (.double u1), .second, .val (.double u2), .second] [(.double u2), (.ref a14)])) rfl (by rw [hml]; rfl) (argsL := [(.ref a14), (.double u2)]) (rest := []) (lenOf pd_3 rfl) rfl (by show 2 * 0 + _ ≤ _; exact Nat.le_of_eq rfl) (hb hby d1_13) (fun _ _ => ⟨rfl, e14, (by decide : 4 + 0 ≤ _), (by decide : 52 + 0 ≤ _)⟩)
  dsimp only [Pt.U, Pt.locs, Pt.cells, Pt.slots] at X22 l22 y22 z22 st22 hQ22
  subst l22 y22 z22
  obtain ⟨rfl, N22q, e22⟩ := hQ22
  have N22 := Fr.app N13 N22q
  refine own_on st22 ?_
  show own_Fin p e below _ (T22.setTop (mkF m 16 #[.val (.ref a), .val (.double u1), .second, .val (.double u2), .second] []))
  refine own_on (fun tq => XS.aloadN X22.here hx rfl (hb hby d1_16) rfl rfl) ?_
  show own_Fin p e below _ (T22.setTop (mkF m 17 #[.val (.ref a), .val (.double u1), .second, .val (.double u2), .second] [(.ref a)]))
  refine own_on (fun tq => XS.dloadN X22.here hx rfl (hb hby d1_17) rfl) ?_
  show own_Fin p e below _ (T22.setTop (mkF m 18 #[.val (.ref a), .val (.double u1), .second, .val (.double u2), .second] [(.double u1), (.ref a)]))
  obtain ⟨T23, h23, X23, e23, W23, st23⟩ := putF X22 hx hZ14 hown14 (host := "") (Or.inl (hw _ (List.mem_of_getElem? (i := 38) rfl))) Via.refl e22 y18 y15 (Or.inr ⟨(hw _ (List.mem_of_getElem? (i := 39) rfl)), rfl, hnm⟩) (hw _ (List.mem_of_getElem? (i := 3) rfl)) (ty := .double) (by decide) rfl rfl (g := (mkF m 18 #[.val (.ref a), .val (.double u1), .second, .val (.double u2), .second] [(.double u1), (.ref a)])) rfl rfl (hb hby d1_18)
  have N23 := Fr.snoc X23 N22 ga
  have y24 := (y15.wr W23)
  have y25 := (y16.wr W23 (Or.inl (List.mem_of_getElem? (i := 0) rfl)))
  have y26 := (Nat.le_trans y17 (Keep.of_wr W23).1)
  have y27 := (y18.same W23)
  have y28 := (y19.other W23 (Or.inr (slot_ne (Or.inr (hw _ (List.mem_of_getElem? (i := 41) rfl))) (Or.inr (hw _ (List.mem_of_getElem? (i := 39) rfl))) (by decide) (t := .double) (t' := .double) (by decide) (by decide))))
  have y29 := (CHr.trans y20 (CHr.wr W23 (Safe.exa hZ14.alike y15 (by decide) (by decide)) y21))
  have y30 := (CHv.wr W23 (Safe.exa hZ14.alike y15 (by decide) (by decide)) y21)
  have y31 := (Nat.le_trans hk14 (Keep.of_wr W23).1)
  refine own_on st23 ?_
  show own_Fin p e below _ (T23.setTop (mkF m 21 #[.val (.ref a), .val (.double u1), .second, .val (.double u2), .second] []))
  refine own_on (fun tq => XS.aloadN X23.here hx rfl (hb hby d1_21) rfl rfl) ?_
  show own_Fin p e below _ (T23.setTop (mkF m 22 #[.val (.ref a), .val (.double u1), .second, .val (.double u2), .second] [(.ref a)]))
  refine own_on (fun tq => XS.dloadN X23.here hx rfl (hb hby d1_22) rfl) ?_
  show own_Fin p e below _ (T23.setTop (mkF m 23 #[.val (.ref a), .val (.double u1), .second, .val (.double u2), .second] [(.double u2), (.ref a)]))
  obtain ⟨T32, h32, X32, e32, W32, st32⟩ := putF X23 hx hZ14 hown14 (host := "") (Or.inl (hw _ (List.mem_of_getElem? (i := 40) rfl))) Via.refl e23 y28 y24 (Or.inr ⟨(hw _ (List.mem_of_getElem? (i := 41) rfl)), rfl, hnm⟩) (hw _ (List.mem_of_getElem? (i := 3) rfl)) (ty := .double) (by decide) rfl rfl (g := (mkF m 23 #[.val (.ref a), .val (.double u1), .second, .val (.double u2), .second] [(.double u2), (.ref a)])) rfl rfl (hb hby d1_23)
  have N32 := Fr.snoc X32 N23 ga
  have y33 := (y24.wr W32)
  have y34 := (y25.wr W32 (Or.inl (List.mem_of_getElem? (i := 0) rfl)))
  have y35 := (Nat.le_trans y26 (Keep.of_wr W32).1)
  have y36 := (y27.other W32 (Or.inr (slot_ne (Or.inr (hw _ (List.mem_of_getElem? (i := 39) rfl))) (Or.inr (hw _ (List.mem_of_getElem? (i := 41) rfl))) (by decide) (t := .double) (t' := .double) (by decide) (by decide))))
  have y37 := (y28.same W32)
  have y38 := (CHr.trans y29 (CHr.wr W32 (Safe.exa hZ14.alike y24 (by decide) (by decide)) y30))
  have y39 := (CHv.wr W32 (Safe.exa hZ14.alike y24 (by decide) (by decide)) y30)
  have y40 := (Nat.le_trans y31 (Keep.of_wr W32).1)
  refine own_on st32 ?_
  show own_Fin p e below _ (T32.setTop (mkF m 26 #[.val (.ref a), .val (.double u1), .second, .val (.double u2), .second] []))
  exact own_retVW X32 (Z := Z) (EL := own_EL) (a0 := a0) hx hlk hret (hb hby d1_26) hS14 (by rw [e32]; exact y40) hZ14 hEL (by rw [hh, e32]; exact y38) (by show Q1 Z a u1 u2 h0 n0 _ T32.heap _; rw [e32]; exact ⟨rfl, N32, y34, y33, y36, y37⟩) (by decide) (by decide)
theorem pn_4 : plainName "com/example/curves_to_bounds/curvestobounds/curve/TokenBucket" = true := by first | (simp [plainName, overriddenIn]; done) | decide +kernel
theorem d7_0 : decode prog_26_method_1_code 0 = .ok (.aload_n 0, 1) := by decide +kernel
theorem d7_1 : decode prog_26_method_1_code 1 = .ok (.invokespecial 1, 3) := by decide +kernel
theorem d7_4 : decode prog_26_method_1_code 4 = .ok (.ldc 7, 2) := by decide +kernel
theorem d7_6 : decode prog_26_method_1_code 6 = .ok (.dload_n 1, 1) := by decide +kernel
theorem d7_7 : decode prog_26_method_1_code 7 = .ok (.invokestatic 9, 3) := by decide +kernel
theorem d7_10 : decode prog_26_method_1_code 10 = .ok (.ldc 15, 2) := by decide +kernel
theorem d7_12 : decode prog_26_method_1_code 12 = .ok (.dload_n 3, 1) := by decide +kernel
theorem d7_13 : decode prog_26_method_1_code 13 = .ok (.invokestatic 9, 3) := by decide +kernel
theorem d7_16 : decode prog_26_method_1_code 16 = .ok (.aload_n 0, 1) := by decide +kernel
theorem d7_17 : decode prog_26_method_1_code 17 = .ok (.dload_n 1, 1) := by decide +kernel
theorem d7_18 : decode prog_26_method_1_code 18 = .ok (.putfield 17, 3) := by decide +kernel
theorem d7_21 : decode prog_26_method_1_code 21 = .ok (.aload_n 0, 1) := by decide +kernel
theorem d7_22 : decode prog_26_method_1_code 22 = .ok (.dload_n 3, 1) := by decide +kernel
theorem d7_23 : decode prog_26_method_1_code 23 = .ok (.putfield 22, 3) := by decide +kernel
theorem d7_26 : decode prog_26_method_1_code 26 = .ok (.return_, 1) := by decide +kernel
theorem ef_rm7 (m : MethodId) (x0 : Addr) (x1 : UInt64) (x2 : UInt64) : entryFrame m #[(.ref x0), (.double x1), (.double x2)] 5 = mkF m 0 #[.val (.ref x0), .val (.double x1), .second, .val (.double x2), .second] [] := by first | (simp [entryFrame, mkF, argsToLocals, Value.category]; done) | rfl
def Q7 (Z : State) (a : Addr) (u1 : UInt64) (u2 : UInt64) (h0 : Heap) (n0 : Nat) (v : Option Value) (h : Heap) (L : List Loc) : Prop := v = none ∧ Fr n0 L ∧ Keep h0 h [a] ∧ Exa Z h a "com/example/curves_to_bounds/curvestobounds/curve/TokenBucket" ∧ Fld Z h a "com/example/curves_to_bounds/curvestobounds/curve/TokenBucket" "rate" "D" (.double u1) ∧ Fld Z h a "com/example/curves_to_bounds/curvestobounds/curve/TokenBucket" "burst" "D" (.double u2)
set_option maxRecDepth 65536 in
set_option maxHeartbeats 40000000 in
theorem rm7 (l : Launch) (Z : State) (a0 : Array Value) (hw : ∀ d ∈ tables_1, d.before a0 Z = true) (ws : List Jvm.Cond) (a : Addr) (u1 : UInt64) (u2 : UInt64) (h0 : Heap) (n0 : Nat) (Z0 : n0 ≤ h0.size) (hEL : EW Z a0 own_EL) (ok1 : own_ok u1) (ok2 : own_ok u2) (E : Exa Z h0 a "com/example/curves_to_bounds/curvestobounds/curve/TokenBucket") (F0 : Fld Z h0 a "com/example/curves_to_bounds/curvestobounds/curve/TokenBucket" "rate" "D" (.double (0 : UInt64))) (F1 : Fld Z h0 a "com/example/curves_to_bounds/curvestobounds/curve/TokenBucket" "burst" "D" (.double (0 : UInt64))) (ga : n0 ≤ a) :
    MetFree l (⟨"com/example/curves_to_bounds/curvestobounds/curve/TokenBucket", "<init>", "(DD)V"⟩ : MethodName) (head1 (Jvm.Cond.code (⟨"com/example/curves_to_bounds/curvestobounds/curve/TokenBucket", "<init>", "(DD)V"⟩ : MethodName) prog_26_method_1_code 5 none :: ws) ({ frames := 3, cells := 4, slots := 44, locals := 40 } : Room)) (fun as_ U => as_ = #[(.ref a), (.double u1), (.double u2)] ∧ Z.Warmed39 U.vm ∧ U.heap = h0 ∧ CHv Z own_EL U.vm h0) (fun _ _ _ _ _ => True) (fun _ U out_ U' => ∃ v L, out_ = .returned v ∧ Q7 Z a u1 u2 h0 n0 v U'.heap L ∧ CHr Z own_EL U.vm U.heap U'.vm U'.heap ∧ ReturnedEndW U out_ U' L ({ frames := 3, cells := 4, slots := 44, locals := 40 } : Room).cells ({ frames := 3, cells := 4, slots := 44, locals := 40 } : Room).slots) := by
  refine MetFree.of_bodySF (plainFor_of_name pn_4) hisR ?_
  intro p e s m args below meth cd s₁ Bd hml0 hP hK
  obtain ⟨rfl, hZ, hh, CH0⟩ := hP
  have hx := Bd.exec
  have hby := Bd.bytes
  have hml : cd.maxLocals = 5 := hml0
  have hlk : meth.locks = false := BodyLoose.notSynchronized Bd
  have hown : s.vm.findClass "com/example/curves_to_bounds/curvestobounds/curve/TokenBucket" = some m.cls := findClass_of_methodNamed Bd.named
  have hnm := (name_of_methodNamed Bd.named Bd.method).1
  have hret := Bd.returns
  have X0 : Stand p l e ({ frames := 3, cells := 4, slots := 44, locals := 40 } : Room) (s.setVm s.vm) m #[(.ref a), (.double u1), (.double u2)] below meth cd s₁ [] 0 0 := Stand.of_body Bd
  have e0 : s₁.heap = h0 := by rw [← hh, Bd.state]; rfl
  have N0 := Fr.nil n0
  have hS0 : s.Since s.vm 0 := (State.WarmedH.refl s).since 0
  have wS := own_wS hw
  show own_Fin p e below (own_AnsW s Z own_EL (Q7 Z a u1 u2 h0 n0) ({ frames := 3, cells := 4, slots := 44, locals := 40 } : Room).cells ({ frames := 3, cells := 4, slots := 44, locals := 40 } : Room).slots) (s₁.setTop (entryFrame m #[(.ref a), (.double u1), (.double u2)] 5))
  refine own_cast (ef_rm7 m a u1 u2) ?_
  show own_Fin p e below _ (s₁.setTop (mkF m 0 #[.val (.ref a), .val (.double u1), .second, .val (.double u2), .second] []))
  refine own_on (fun tq => XS.aloadN X0.here hx rfl (hb hby d7_0) rfl rfl) ?_
  show own_Fin p e below _ (s₁.setTop (mkF m 1 #[.val (.ref a), .val (.double u1), .second, .val (.double u2), .second] [(.ref a)]))
  obtain ⟨_, _, ⟨T41, L41, k41, n41⟩, -, X41, ⟨Lc41, hQ41, l41, y41, z41⟩, st41⟩ := X0.specialBack hx (y := (⟨"java/lang/Record", "<init>", "()V"⟩ : MethodName)) rfl hown (mvT hZ (hw _ (List.mem_of_getElem? (i := 48) rfl))) (mvT hZ (hw _ (List.mem_of_getElem? (i := 9) rfl))) (mvT hZ (hw _ (List.mem_of_getElem? (i := 12) rfl))) (by decide) (backOf (W := 0) (rm2 l Z a0 hw [] a h0 n0 (by exact Z0)) hZ (hw _ (List.mem_of_getElem? (i := 12) rfl)) (hw _ (List.mem_of_getElem? (i := 11) rfl)) (by decide) (by decide)) (g := (mkF m 1 #[.val (.ref a), .val (.double u1), .second, .val (.double u2), .second] [(.ref a)])) rfl (by rw [hml]; rfl) (Steps.refl _) (a := a) (argsL := []) (rest := []) (lenOf pd_2 rfl) rfl (by show 2 * 0 + _ ≤ _; exact Nat.le_of_eq rfl) (hb hby d7_1) (fun _ _ => ⟨rfl, e0, (by decide : 0 + 0 ≤ _), (by decide : 0 + 0 ≤ _)⟩)
  dsimp only [Pt.U, Pt.locs, Pt.cells, Pt.slots] at X41 l41 y41 z41 st41 hQ41
  subst l41 y41 z41
  obtain ⟨rfl, N41q, e41⟩ := hQ41
  have N41 := Fr.app N0 N41q
  refine own_via st41 ?_
  show own_Fin p e below _ (T41.setTop (mkF m 4 #[.val (.ref a), .val (.double u1), .second, .val (.double u2), .second] []))
  obtain ⟨a42, T42, h42, k42, X42, e42, E42, hS42, hk42, hZ42, hown42, A42, Lt42, st42⟩ := ldcOH X41 hx hZ hown (hw _ (List.mem_of_getElem? (i := 49) rfl)) wS e41 hS0 (Nat.zero_le _) hEL CH0 (g := (mkF m 4 #[.val (.ref a), .val (.double u1), .second, .val (.double u2), .second] [])) rfl (hb hby d7_4) (n := 16) (by decide) (by decide) (by decide) (by decide)
  have y43 := (E.ext E42)
  have y44 := ((Keep.refl h0 [a]).ext E42)
  have y45 := (Nat.le_trans Z0 E42.1)
  have y46 := (F0.ext E42)
  have y47 := (F1.ext E42)
  have y48 := (CHr.trans (CHr.refl CH0) A42)
  have y49 := (And.left A42)
  refine own_on st42 ?_
  show own_Fin p e below _ (T42.setTop (mkF m 6 #[.val (.ref a), .val (.double u1), .second, .val (.double u2), .second] [(.ref a42)]))
  refine own_on (fun tq => XS.dloadN X42.here hx rfl (hb hby d7_6) rfl) ?_
  show own_Fin p e below _ (T42.setTop (mkF m 7 #[.val (.ref a), .val (.double u1), .second, .val (.double u2), .second] [(.double u1), (.ref a42)]))
  obtain ⟨_, _, ⟨T50, L50, k50, n50⟩, -, X50, ⟨Lc50, hQ50, l50, y50, z50⟩, st50⟩ := Jvm.LawKit.callS X42 hx (y := (⟨"com/example/curves_to_bounds/curvestobounds/curve/CurveParameters", "requireFiniteNonNegative", "(Ljava/lang/String;D)V"⟩ : MethodName)) hown42 (mvT hZ42 (hw _ (List.mem_of_getElem? (i := 50) rfl))) (mvT hZ42 (hw _ (List.mem_of_getElem? (i := 25) rfl))) (mvT hZ42 (hw _ (List.mem_of_getElem? (i := 26) rfl))) (mvT hZ42 (hw _ (List.mem_of_getElem? (i := 27) rfl))) (by decide) (backOf (W := 0) (rm4 l Z a0 hw [] a42 u1 h42 n0 (by exact y45) ok1) hZ42 (hw _ (List.mem_of_getElem? (i := 27) rfl)) (hw _ (List.mem_of_getElem? (i := 26) rfl)) (by decide) (by decide)) (g := (mkF m 7 #[.val (.ref a), .val (.double u1), .second, .val (.double u2), .second] [(.double u1), (.ref a42)])) rfl (by rw [hml]; rfl) (argsL := [(.ref a42), (.double u1)]) (rest := []) (lenOf pd_3 rfl) rfl (by show 2 * 0 + _ ≤ _; exact Nat.le_of_eq rfl) (hb hby d7_7) (fun _ _ => ⟨rfl, e42, (by decide : 2 + 0 ≤ _), (by decide : 20 + 0 ≤ _)⟩)
  dsimp only [Pt.U, Pt.locs, Pt.cells, Pt.slots] at X50 l50 y50 z50 st50 hQ50
  subst l50 y50 z50
  obtain ⟨rfl, N50q, e50⟩ := hQ50
  have N50 := Fr.app N41 N50q
  refine own_on st50 ?_
  show own_Fin p e below _ (T50.setTop (mkF m 10 #[.val (.ref a), .val (.double u1), .second, .val (.double u2), .second] []))
  obtain ⟨a51, T51, h51, k51, X51, e51, E51, hS51, hk51, hZ51, hown51, A51, Lt51, st51⟩ := ldcOH X50 hx hZ42 hown42 (hw _ (List.mem_of_getElem? (i := 51) rfl)) wS e50 hS42 hk42 hEL y49 (g := (mkF m 10 #[.val (.ref a), .val (.double u1), .second, .val (.double u2), .second] [])) rfl (hb hby d7_10) (n := 20) (by decide) (by decide) (by decide) (by decide)
  have y52 := (y43.ext E51)
  have y53 := (y44.ext E51)
  have y54 := (Nat.le_trans y45 E51.1)
  have y55 := (y46.ext E51)
  have y56 := (y47.ext E51)
  have y57 := (CHr.trans y48 A51)
  have y58 := (And.left A51)
  refine own_on st51 ?_
  show own_Fin p e below _ (T51.setTop (mkF m 12 #[.val (.ref a), .val (.double u1), .second, .val (.double u2), .second] [(.ref a51)]))
  refine own_on (fun tq => XS.dloadN X51.here hx rfl (hb hby d7_12) rfl) ?_
  show own_Fin p e below _ (T51.setTop (mkF m 13 #[.val (.ref a), .val (.double u1), .second, .val (.double u2), .second] [(.double u2), (.ref a51)]))
  obtain ⟨_, _, ⟨T59, L59, k59, n59⟩, -, X59, ⟨Lc59, hQ59, l59, y59, z59⟩, st59⟩ := Jvm.LawKit.callS X51 hx (y := (⟨"com/example/curves_to_bounds/curvestobounds/curve/CurveParameters", "requireFiniteNonNegative", "(Ljava/lang/String;D)V"⟩ : MethodName)) hown51 (mvT hZ51 (hw _ (List.mem_of_getElem? (i := 50) rfl))) (mvT hZ51 (hw _ (List.mem_of_getElem? (i := 25) rfl))) (mvT hZ51 (hw _ (List.mem_of_getElem? (i := 26) rfl))) (mvT hZ51 (hw _ (List.mem_of_getElem? (i := 27) rfl))) (by decide) (backOf (W := 0) (rm4 l Z a0 hw [] a51 u2 h51 n0 (by exact y54) ok2) hZ51 (hw _ (List.mem_of_getElem? (i := 27) rfl)) (hw _ (List.mem_of_getElem? (i := 26) rfl)) (by decide) (by decide)) (g := (mkF m 13 #[.val (.ref a), .val (.double u1), .second, .val (.double u2), .second] [(.double u2), (.ref a51)])) rfl (by rw [hml]; rfl) (argsL := [(.ref a51), (.double u2)]) (rest := []) (lenOf pd_3 rfl) rfl (by show 2 * 0 + _ ≤ _; exact Nat.le_of_eq rfl) (hb hby d7_13) (fun _ _ => ⟨rfl, e51, (by decide : 4 + 0 ≤ _), (by decide : 44 + 0 ≤ _)⟩)
  dsimp only [Pt.U, Pt.locs, Pt.cells, Pt.slots] at X59 l59 y59 z59 st59 hQ59
  subst l59 y59 z59
  obtain ⟨rfl, N59q, e59⟩ := hQ59
  have N59 := Fr.app N50 N59q
  refine own_on st59 ?_
  show own_Fin p e below _ (T59.setTop (mkF m 16 #[.val (.ref a), .val (.double u1), .second, .val (.double u2), .second] []))
  refine own_on (fun tq => XS.aloadN X59.here hx rfl (hb hby d7_16) rfl rfl) ?_
  show own_Fin p e below _ (T59.setTop (mkF m 17 #[.val (.ref a), .val (.double u1), .second, .val (.double u2), .second] [(.ref a)]))
  refine own_on (fun tq => XS.dloadN X59.here hx rfl (hb hby d7_17) rfl) ?_
  show own_Fin p e below _ (T59.setTop (mkF m 18 #[.val (.ref a), .val (.double u1), .second, .val (.double u2), .second] [(.double u1), (.ref a)]))
  obtain ⟨T60, h60, X60, e60, W60, st60⟩ := putF X59 hx hZ51 hown51 (host := "") (Or.inl (hw _ (List.mem_of_getElem? (i := 52) rfl))) Via.refl e59 y55 y52 (Or.inr ⟨(hw _ (List.mem_of_getElem? (i := 53) rfl)), rfl, hnm⟩) (hw _ (List.mem_of_getElem? (i := 43) rfl)) (ty := .double) (by decide) rfl rfl (g := (mkF m 18 #[.val (.ref a), .val (.double u1), .second, .val (.double u2), .second] [(.double u1), (.ref a)])) rfl rfl (hb hby d7_18)
  have N60 := Fr.snoc X60 N59 ga
  have y61 := (y52.wr W60)
  have y62 := (y53.wr W60 (Or.inl (List.mem_of_getElem? (i := 0) rfl)))
  have y63 := (Nat.le_trans y54 (Keep.of_wr W60).1)
  have y64 := (y55.same W60)
  have y65 := (y56.other W60 (Or.inr (slot_ne (Or.inr (hw _ (List.mem_of_getElem? (i := 55) rfl))) (Or.inr (hw _ (List.mem_of_getElem? (i := 53) rfl))) (by decide) (t := .double) (t' := .double) (by decide) (by decide))))
  have y66 := (CHr.trans y57 (CHr.wr W60 (Safe.exa hZ51.alike y52 (by decide) (by decide)) y58))
  have y67 := (CHv.wr W60 (Safe.exa hZ51.alike y52 (by decide) (by decide)) y58)
  have y68 := (Nat.le_trans hk51 (Keep.of_wr W60).1)
  refine own_on st60 ?_
  show own_Fin p e below _ (T60.setTop (mkF m 21 #[.val (.ref a), .val (.double u1), .second, .val (.double u2), .second] []))
  refine own_on (fun tq => XS.aloadN X60.here hx rfl (hb hby d7_21) rfl rfl) ?_
  show own_Fin p e below _ (T60.setTop (mkF m 22 #[.val (.ref a), .val (.double u1), .second, .val (.double u2), .second] [(.ref a)]))
  refine own_on (fun tq => XS.dloadN X60.here hx rfl (hb hby d7_22) rfl) ?_
  show own_Fin p e below _ (T60.setTop (mkF m 23 #[.val (.ref a), .val (.double u1), .second, .val (.double u2), .second] [(.double u2), (.ref a)]))
  obtain ⟨T69, h69, X69, e69, W69, st69⟩ := putF X60 hx hZ51 hown51 (host := "") (Or.inl (hw _ (List.mem_of_getElem? (i := 54) rfl))) Via.refl e60 y65 y61 (Or.inr ⟨(hw _ (List.mem_of_getElem? (i := 55) rfl)), rfl, hnm⟩) (hw _ (List.mem_of_getElem? (i := 43) rfl)) (ty := .double) (by decide) rfl rfl (g := (mkF m 23 #[.val (.ref a), .val (.double u1), .second, .val (.double u2), .second] [(.double u2), (.ref a)])) rfl rfl (hb hby d7_23)
  have N69 := Fr.snoc X69 N60 ga
  have y70 := (y61.wr W69)
  have y71 := (y62.wr W69 (Or.inl (List.mem_of_getElem? (i := 0) rfl)))
  have y72 := (Nat.le_trans y63 (Keep.of_wr W69).1)
  have y73 := (y64.other W69 (Or.inr (slot_ne (Or.inr (hw _ (List.mem_of_getElem? (i := 53) rfl))) (Or.inr (hw _ (List.mem_of_getElem? (i := 55) rfl))) (by decide) (t := .double) (t' := .double) (by decide) (by decide))))
  have y74 := (y65.same W69)
  have y75 := (CHr.trans y66 (CHr.wr W69 (Safe.exa hZ51.alike y61 (by decide) (by decide)) y67))
  have y76 := (CHv.wr W69 (Safe.exa hZ51.alike y61 (by decide) (by decide)) y67)
  have y77 := (Nat.le_trans y68 (Keep.of_wr W69).1)
  refine own_on st69 ?_
  show own_Fin p e below _ (T69.setTop (mkF m 26 #[.val (.ref a), .val (.double u1), .second, .val (.double u2), .second] []))
  exact own_retVW X69 (Z := Z) (EL := own_EL) (a0 := a0) hx hlk hret (hb hby d7_26) hS51 (by rw [e69]; exact y77) hZ51 hEL (by rw [hh, e69]; exact y75) (by show Q7 Z a u1 u2 h0 n0 _ T69.heap _; rw [e69]; exact ⟨rfl, N69, y71, y70, y73, y74⟩) (by decide) (by decide)
theorem d9_0 : decode prog_26_method_5_code 0 = .ok (.aload_n 0, 1) := by decide +kernel
theorem d9_1 : decode prog_26_method_5_code 1 = .ok (.getfield 17, 3) := by decide +kernel
theorem d9_4 : decode prog_26_method_5_code 4 = .ok (.dreturn, 1) := by decide +kernel
theorem ef_rm9 (m : MethodId) (x0 : Addr) : entryFrame m #[(.ref x0)] 1 = mkF m 0 #[.val (.ref x0)] [] := by first | (simp [entryFrame, mkF, argsToLocals, Value.category]; done) | rfl
def Q9 (Z : State) (b : Addr) (xv : UInt64) (h0 : Heap) (n0 : Nat) (v : Option Value) (h : Heap) (L : List Loc) : Prop := v = some (.double xv) ∧ Fr n0 L ∧ h = h0
set_option maxRecDepth 65536 in
set_option maxHeartbeats 40000000 in
theorem rm9 (l : Launch) (Z : State) (a0 : Array Value) (hw : ∀ d ∈ tables_1, d.before a0 Z = true) (ws : List Jvm.Cond) (b : Addr) (xv : UInt64) (h0 : Heap) (n0 : Nat) (Z0 : n0 ≤ h0.size) (F : Fld Z h0 b "com/example/curves_to_bounds/curvestobounds/curve/TokenBucket" "rate" "D" (.double xv)) :
    MetFree l (⟨"com/example/curves_to_bounds/curvestobounds/curve/TokenBucket", "rate", "()D"⟩ : MethodName) (head1 (Jvm.Cond.code (⟨"com/example/curves_to_bounds/curvestobounds/curve/TokenBucket", "rate", "()D"⟩ : MethodName) prog_26_method_5_code 1 (some .double) :: ws) ({ frames := 0, cells := 0, slots := 0, locals := 0 } : Room)) (fun as_ U => as_ = #[(.ref b)] ∧ Z.Warmed39 U.vm ∧ U.heap = h0) (fun _ _ _ _ _ => True) (fun _ U out_ U' => ∃ v L, out_ = .returned v ∧ Q9 Z b xv h0 n0 v U'.heap L ∧ FrameEnd U out_ U' L ({ frames := 0, cells := 0, slots := 0, locals := 0 } : Room).cells ({ frames := 0, cells := 0, slots := 0, locals := 0 } : Room).slots) := by
  refine MetFree.of_bodySF (plainFor_of_name pn_4) hisR ?_
  intro p e s m args below meth cd s₁ Bd hml0 hP hK
  obtain ⟨rfl, hZ, hh⟩ := hP
  have hx := Bd.exec
  have hby := Bd.bytes
  have hml : cd.maxLocals = 1 := hml0
  have hlk : meth.locks = false := BodyLoose.notSynchronized Bd
  have hown : s.vm.findClass "com/example/curves_to_bounds/curvestobounds/curve/TokenBucket" = some m.cls := findClass_of_methodNamed Bd.named
  have hnm := (name_of_methodNamed Bd.named Bd.method).1
  have hret := Bd.returns
  have X0 : Stand p l e ({ frames := 0, cells := 0, slots := 0, locals := 0 } : Room) s m #[(.ref b)] below meth cd s₁ [] 0 0 := Stand.of_body Bd
  have e0 : s₁.heap = h0 := by rw [← hh, Bd.state]; rfl
  have N0 := Fr.nil n0
  show own_Fin p e below (own_Ans s (Q9 Z b xv h0 n0) ({ frames := 0, cells := 0, slots := 0, locals := 0 } : Room).cells ({ frames := 0, cells := 0, slots := 0, locals := 0 } : Room).slots) (s₁.setTop (entryFrame m #[(.ref b)] 1))
  refine own_cast (ef_rm9 m b) ?_
  show own_Fin p e below _ (s₁.setTop (mkF m 0 #[.val (.ref b)] []))
  refine own_on (fun tq => XS.aloadN X0.here hx rfl (hb hby d9_0) rfl rfl) ?_
  show own_Fin p e below _ (s₁.setTop (mkF m 1 #[.val (.ref b)] [(.ref b)]))
  obtain ⟨T78, X78, e78, st78⟩ := getF X0 hx hZ hown (host := "") (Or.inl (hw _ (List.mem_of_getElem? (i := 52) rfl))) Via.refl e0 F (g := (mkF m 1 #[.val (.ref b)] [(.ref b)])) rfl rfl (hb hby d9_1)
  refine own_on st78 ?_
  show own_Fin p e below _ (T78.setTop (mkF m 4 #[.val (.ref b)] [(.double xv)]))
  exact own_ret (t := .double) X78 hx hlk hret rfl (Or.inr (Or.inr (Or.inl ⟨rfl, rfl, _, rfl⟩))) (hb hby d9_4) (⟨rfl, N0, e78⟩) (by decide) (by decide)
theorem d10_0 : decode prog_26_method_6_code 0 = .ok (.aload_n 0, 1) := by decide +kernel
theorem d10_1 : decode prog_26_method_6_code 1 = .ok (.getfield 22, 3) := by decide +kernel
theorem d10_4 : decode prog_26_method_6_code 4 = .ok (.dreturn, 1) := by decide +kernel
theorem ef_rm10 (m : MethodId) (x0 : Addr) : entryFrame m #[(.ref x0)] 1 = mkF m 0 #[.val (.ref x0)] [] := by first | (simp [entryFrame, mkF, argsToLocals, Value.category]; done) | rfl
def Q10 (Z : State) (b : Addr) (xv : UInt64) (h0 : Heap) (n0 : Nat) (v : Option Value) (h : Heap) (L : List Loc) : Prop := v = some (.double xv) ∧ Fr n0 L ∧ h = h0
set_option maxRecDepth 65536 in
set_option maxHeartbeats 40000000 in
theorem rm10 (l : Launch) (Z : State) (a0 : Array Value) (hw : ∀ d ∈ tables_1, d.before a0 Z = true) (ws : List Jvm.Cond) (b : Addr) (xv : UInt64) (h0 : Heap) (n0 : Nat) (Z0 : n0 ≤ h0.size) (F : Fld Z h0 b "com/example/curves_to_bounds/curvestobounds/curve/TokenBucket" "burst" "D" (.double xv)) :
    MetFree l (⟨"com/example/curves_to_bounds/curvestobounds/curve/TokenBucket", "burst", "()D"⟩ : MethodName) (head1 (Jvm.Cond.code (⟨"com/example/curves_to_bounds/curvestobounds/curve/TokenBucket", "burst", "()D"⟩ : MethodName) prog_26_method_6_code 1 (some .double) :: ws) ({ frames := 0, cells := 0, slots := 0, locals := 0 } : Room)) (fun as_ U => as_ = #[(.ref b)] ∧ Z.Warmed39 U.vm ∧ U.heap = h0) (fun _ _ _ _ _ => True) (fun _ U out_ U' => ∃ v L, out_ = .returned v ∧ Q10 Z b xv h0 n0 v U'.heap L ∧ FrameEnd U out_ U' L ({ frames := 0, cells := 0, slots := 0, locals := 0 } : Room).cells ({ frames := 0, cells := 0, slots := 0, locals := 0 } : Room).slots) := by
  refine MetFree.of_bodySF (plainFor_of_name pn_4) hisR ?_
  intro p e s m args below meth cd s₁ Bd hml0 hP hK
  obtain ⟨rfl, hZ, hh⟩ := hP
  have hx := Bd.exec
  have hby := Bd.bytes
  have hml : cd.maxLocals = 1 := hml0
  have hlk : meth.locks = false := BodyLoose.notSynchronized Bd
  have hown : s.vm.findClass "com/example/curves_to_bounds/curvestobounds/curve/TokenBucket" = some m.cls := findClass_of_methodNamed Bd.named
  have hnm := (name_of_methodNamed Bd.named Bd.method).1
  have hret := Bd.returns
  have X0 : Stand p l e ({ frames := 0, cells := 0, slots := 0, locals := 0 } : Room) s m #[(.ref b)] below meth cd s₁ [] 0 0 := Stand.of_body Bd
  have e0 : s₁.heap = h0 := by rw [← hh, Bd.state]; rfl
  have N0 := Fr.nil n0
  show own_Fin p e below (own_Ans s (Q10 Z b xv h0 n0) ({ frames := 0, cells := 0, slots := 0, locals := 0 } : Room).cells ({ frames := 0, cells := 0, slots := 0, locals := 0 } : Room).slots) (s₁.setTop (entryFrame m #[(.ref b)] 1))
  refine own_cast (ef_rm10 m b) ?_
  show own_Fin p e below _ (s₁.setTop (mkF m 0 #[.val (.ref b)] []))
  refine own_on (fun tq => XS.aloadN X0.here hx rfl (hb hby d10_0) rfl rfl) ?_
  show own_Fin p e below _ (s₁.setTop (mkF m 1 #[.val (.ref b)] [(.ref b)]))
  obtain ⟨T79, X79, e79, st79⟩ := getF X0 hx hZ hown (host := "") (Or.inl (hw _ (List.mem_of_getElem? (i := 54) rfl))) Via.refl e0 F (g := (mkF m 1 #[.val (.ref b)] [(.ref b)])) rfl rfl (hb hby d10_1)
  refine own_on st79 ?_
  show own_Fin p e below _ (T79.setTop (mkF m 4 #[.val (.ref b)] [(.double xv)]))
  exact own_ret (t := .double) X79 hx hlk hret rfl (Or.inr (Or.inr (Or.inl ⟨rfl, rfl, _, rfl⟩))) (hb hby d10_4) (⟨rfl, N0, e79⟩) (by decide) (by decide)
theorem d8_0 : decode prog_24_method_2_code 0 = .ok (.aload_n 0, 1) := by decide +kernel
theorem d8_1 : decode prog_24_method_2_code 1 = .ok (.getfield 17, 3) := by decide +kernel
theorem d8_4 : decode prog_24_method_2_code 4 = .ok (.dconst 0, 1) := by decide +kernel
theorem d8_5 : decode prog_24_method_2_code 5 = .ok (.dcmp .l, 1) := by decide +kernel
theorem d8_6 : decode prog_24_method_2_code 6 = .ok (.ifCond .eq 15, 3) := by decide +kernel
theorem d8_21 : decode prog_24_method_2_code 21 = .ok (.ldc2_w 31, 3) := by decide +kernel
theorem d8_24 : decode prog_24_method_2_code 24 = .ok (.dstore_n 2, 1) := by decide +kernel
theorem d8_25 : decode prog_24_method_2_code 25 = .ok (.goto 18, 3) := by decide +kernel
theorem d8_43 : decode prog_24_method_2_code 43 = .ok (.dload_n 2, 1) := by decide +kernel
theorem d8_44 : decode prog_24_method_2_code 44 = .ok (.dreturn, 1) := by decide +kernel
theorem d8_9 : decode prog_24_method_2_code 9 = .ok (.aload_n 1, 1) := by decide +kernel
theorem d8_10 : decode prog_24_method_2_code 10 = .ok (.invokevirtual 24, 3) := by decide +kernel
theorem pd_4 : parseMethodDescriptor "()D" = some ⟨[], some .double⟩ := by decide +kernel
theorem d8_13 : decode prog_24_method_2_code 13 = .ok (.aload_n 0, 1) := by decide +kernel
theorem d8_14 : decode prog_24_method_2_code 14 = .ok (.getfield 17, 3) := by decide +kernel
theorem d8_17 : decode prog_24_method_2_code 17 = .ok (.dcmp .l, 1) := by decide +kernel
theorem d8_18 : decode prog_24_method_2_code 18 = .ok (.ifCond .le 10, 3) := by decide +kernel
theorem d8_28 : decode prog_24_method_2_code 28 = .ok (.aload_n 0, 1) := by decide +kernel
theorem d8_29 : decode prog_24_method_2_code 29 = .ok (.getfield 22, 3) := by decide +kernel
theorem d8_32 : decode prog_24_method_2_code 32 = .ok (.aload_n 1, 1) := by decide +kernel
theorem d8_33 : decode prog_24_method_2_code 33 = .ok (.invokevirtual 33, 3) := by decide +kernel
theorem d8_36 : decode prog_24_method_2_code 36 = .ok (.aload_n 0, 1) := by decide +kernel
theorem d8_37 : decode prog_24_method_2_code 37 = .ok (.getfield 17, 3) := by decide +kernel
theorem d8_40 : decode prog_24_method_2_code 40 = .ok (.ddiv, 1) := by decide +kernel
theorem d8_41 : decode prog_24_method_2_code 41 = .ok (.dadd, 1) := by decide +kernel
theorem d8_42 : decode prog_24_method_2_code 42 = .ok (.dstore_n 2, 1) := by decide +kernel
theorem ef_rm8 (m : MethodId) (x0 : Addr) (x1 : Addr) : entryFrame m #[(.ref x0), (.ref x1)] 4 = mkF m 0 #[.val (.ref x0), .val (.ref x1), .unset, .unset] [] := by first | (simp [entryFrame, mkF, argsToLocals, Value.category]; done) | rfl
def Q8 (Z : State) (a : Addr) (b : Addr) (qR : Int64) (qT : Int64) (qr : Int64) (qb : Int64) (h0 : Heap) (n0 : Nat) (v : Option Value) (h : Heap) (L : List Loc) : Prop := v = some (.double (if qR = 0 ∨ qR < qr then (9218868437227405312 : UInt64) else FP.dadd (FP.l2d qT) (FP.ddiv (FP.l2d qb) (FP.l2d qR)))) ∧ Fr n0 L ∧ h = h0
set_option maxRecDepth 65536 in
set_option maxHeartbeats 40000000 in
theorem rm8 (l : Launch) (Z : State) (a0 : Array Value) (hw : ∀ d ∈ tables_1, d.before a0 Z = true) (ws : List Jvm.Cond) (a : Addr) (b : Addr) (qR : Int64) (qT : Int64) (qr : Int64) (qb : Int64) (h0 : Heap) (n0 : Nat) (Z0 : n0 ≤ h0.size) (F1 : Fld Z h0 a "com/example/curves_to_bounds/curvestobounds/curve/RateLatency" "rate" "D" (.double (FP.l2d qR))) (F2 : Fld Z h0 a "com/example/curves_to_bounds/curvestobounds/curve/RateLatency" "latency" "D" (.double (FP.l2d qT))) (G1 : Fld Z h0 b "com/example/curves_to_bounds/curvestobounds/curve/TokenBucket" "rate" "D" (.double (FP.l2d qr))) (G2 : Fld Z h0 b "com/example/curves_to_bounds/curvestobounds/curve/TokenBucket" "burst" "D" (.double (FP.l2d qb))) (Eb : Exa Z h0 b "com/example/curves_to_bounds/curvestobounds/curve/TokenBucket") (BR : B53 qR) (Br : B53 qr) (NN : ¬ qR = 0 → Jvm.Free.Fl.NoNaN64 (FP.ddiv (FP.l2d qb) (FP.l2d qR)) ∧ Jvm.Free.Fl.NoNaN64 (FP.dadd (FP.l2d qT) (FP.ddiv (FP.l2d qb) (FP.l2d qR)))) :
    MetFree l (⟨"com/example/curves_to_bounds/curvestobounds/curve/RateLatency", "delayBound", "(Lcom/example/curves_to_bounds/curvestobounds/curve/TokenBucket;)D"⟩ : MethodName) (head1 (Jvm.Cond.code (⟨"com/example/curves_to_bounds/curvestobounds/curve/RateLatency", "delayBound", "(Lcom/example/curves_to_bounds/curvestobounds/curve/TokenBucket;)D"⟩ : MethodName) prog_24_method_2_code 4 (some .double) :: ws) ({ frames := 1, cells := 0, slots := 0, locals := 14 } : Room)) (fun as_ U => as_ = #[(.ref a), (.ref b)] ∧ Z.Warmed39 U.vm ∧ U.heap = h0) (fun _ _ _ _ _ => True) (fun _ U out_ U' => ∃ v L, out_ = .returned v ∧ Q8 Z a b qR qT qr qb h0 n0 v U'.heap L ∧ FrameEnd U out_ U' L ({ frames := 1, cells := 0, slots := 0, locals := 14 } : Room).cells ({ frames := 1, cells := 0, slots := 0, locals := 14 } : Room).slots) := by
  refine MetFree.of_bodySF (plainFor_of_name pn_3) hisR ?_
  intro p e s m args below meth cd s₁ Bd hml0 hP hK
  obtain ⟨rfl, hZ, hh⟩ := hP
  have hx := Bd.exec
  have hby := Bd.bytes
  have hml : cd.maxLocals = 4 := hml0
  have hlk : meth.locks = false := BodyLoose.notSynchronized Bd
  have hown : s.vm.findClass "com/example/curves_to_bounds/curvestobounds/curve/RateLatency" = some m.cls := findClass_of_methodNamed Bd.named
  have hnm := (name_of_methodNamed Bd.named Bd.method).1
  have hret := Bd.returns
  have X0 : Stand p l e ({ frames := 1, cells := 0, slots := 0, locals := 14 } : Room) s m #[(.ref a), (.ref b)] below meth cd s₁ [] 0 0 := Stand.of_body Bd
  have e0 : s₁.heap = h0 := by rw [← hh, Bd.state]; rfl
  have N0 := Fr.nil n0
  show own_Fin p e below (own_Ans s (Q8 Z a b qR qT qr qb h0 n0) ({ frames := 1, cells := 0, slots := 0, locals := 14 } : Room).cells ({ frames := 1, cells := 0, slots := 0, locals := 14 } : Room).slots) (s₁.setTop (entryFrame m #[(.ref a), (.ref b)] 4))
  refine own_cast (ef_rm8 m a b) ?_
  show own_Fin p e below _ (s₁.setTop (mkF m 0 #[.val (.ref a), .val (.ref b), .unset, .unset] []))
  refine own_on (fun tq => XS.aloadN X0.here hx rfl (hb hby d8_0) rfl rfl) ?_
  show own_Fin p e below _ (s₁.setTop (mkF m 1 #[.val (.ref a), .val (.ref b), .unset, .unset] [(.ref a)]))
  obtain ⟨T80, X80, e80, st80⟩ := getF X0 hx hZ hown (host := "") (Or.inl (hw _ (List.mem_of_getElem? (i := 38) rfl))) Via.refl e0 F1 (g := (mkF m 1 #[.val (.ref a), .val (.ref b), .unset, .unset] [(.ref a)])) rfl rfl (hb hby d8_1)
  refine own_on st80 ?_
  show own_Fin p e below _ (T80.setTop (mkF m 4 #[.val (.ref a), .val (.ref b), .unset, .unset] [(.double (FP.l2d qR))]))
  refine own_on (fun tq => XS.dconst0 X80.here hx rfl (hb hby d8_4) own_dc0) ?_
  show own_Fin p e below _ (T80.setTop (mkF m 5 #[.val (.ref a), .val (.ref b), .unset, .unset] [(.double (FP.l2d (0 : Int64))), (.double (FP.l2d qR))]))
  refine own_on (fun tq => XS.dcmpS X80.here hx rfl (hb hby d8_5) rfl (dcmpV_w BR own_B0 _)) ?_
  show own_Fin p e below _ (T80.setTop (mkF m 6 #[.val (.ref a), .val (.ref b), .unset, .unset] [(.int (lcmpW qR (0 : Int64)))]))
  by_cases hc81 : (lcmpW qR (0 : Int64)) = (0 : Int32)
  · refine own_on (fun tq => XS.ifYes X80.here hx rfl (pc0 := 6) (pc' := 21) rfl (hb hby d8_6) rfl ((if0 _ _).trans (teq hc81).1) (by decide) (by decide)) ?_
    show own_Fin p e below _ (T80.setTop (mkF m 21 #[.val (.ref a), .val (.ref b), .unset, .unset] []))
    refine own_on (fun tq => X80.ldc2DoubleC hx hown (mvT hZ (hw _ (List.mem_of_getElem? (i := 61) rfl))) (g := (mkF m 21 #[.val (.ref a), .val (.ref b), .unset, .unset] [])) rfl (hb hby d8_21) tq) ?_
    show own_Fin p e below _ (T80.setTop (mkF m 24 #[.val (.ref a), .val (.ref b), .unset, .unset] [(.double (9218868437227405312 : UInt64))]))
    refine own_on (fun tq => XS.dstoreN X80.here hx rfl (hb hby d8_24) rfl (l' := #[.val (.ref a), .val (.ref b), .val (.double (9218868437227405312 : UInt64)), .second]) rfl) ?_
    show own_Fin p e below _ (T80.setTop (mkF m 25 #[.val (.ref a), .val (.ref b), .val (.double (9218868437227405312 : UInt64)), .second] []))
    refine own_on (fun tq => XS.goto X80.here hx rfl (pc0 := 25) (pc' := 43) rfl (hb hby d8_25) (by decide) (by decide)) ?_
    show own_Fin p e below _ (T80.setTop (mkF m 43 #[.val (.ref a), .val (.ref b), .val (.double (9218868437227405312 : UInt64)), .second] []))
    refine own_on (fun tq => XS.dloadN X80.here hx rfl (hb hby d8_43) rfl) ?_
    show own_Fin p e below _ (T80.setTop (mkF m 44 #[.val (.ref a), .val (.ref b), .val (.double (9218868437227405312 : UInt64)), .second] [(.double (9218868437227405312 : UInt64))]))
    exact own_ret (t := .double) X80 hx hlk hret rfl (Or.inr (Or.inr (Or.inl ⟨rfl, rfl, _, rfl⟩))) (hb hby d8_44) (⟨by rw [if_pos (Or.inl ((lw_eq _ _).mp hc81))], N0, e80⟩) (by decide) (by decide)
  · refine own_on (fun tq => XS.ifNo X80.here hx rfl (hb hby d8_6) rfl ((if0 _ _).trans (feq hc81).1)) ?_
    show own_Fin p e below _ (T80.setTop (mkF m 9 #[.val (.ref a), .val (.ref b), .unset, .unset] []))
    refine own_on (fun tq => XS.aloadN X80.here hx rfl (hb hby d8_9) rfl rfl) ?_
    show own_Fin p e below _ (T80.setTop (mkF m 10 #[.val (.ref a), .val (.ref b), .unset, .unset] [(.ref b)]))
    obtain ⟨cq82, kq82, q82a, q82b, q82c⟩ := isOf hZ e80 Eb
    obtain ⟨_, _, ⟨T82, L82, k82, n82⟩, -, X82, ⟨Lc82, hQ82, l82, y82, z82⟩, st82⟩ := X80.virtualBack hx (y := (⟨"com/example/curves_to_bounds/curvestobounds/curve/TokenBucket", "rate", "()D"⟩ : MethodName)) (z := (⟨"com/example/curves_to_bounds/curvestobounds/curve/TokenBucket", "rate", "()D"⟩ : MethodName)) hown (mvT hZ (hw _ (List.mem_of_getElem? (i := 63) rfl))) (mvT hZ (hw _ (List.mem_of_getElem? (i := 64) rfl))) (notFace_of_selects (args := #[]) (mvT hZ (hw _ (List.mem_of_getElem? (i := 66) rfl)))) (mvT hZ (hw _ (List.mem_of_getElem? (i := 66) rfl))) (mvT hZ (hw _ (List.mem_of_getElem? (i := 65) rfl))) (by decide) (backOf (W := 0) (rm9 l Z a0 hw [] b (FP.l2d qr) h0 n0 (by exact Z0) G1) hZ (hw _ (List.mem_of_getElem? (i := 67) rfl)) (hw _ (List.mem_of_getElem? (i := 44) rfl)) (by decide) (by decide)) q82a q82c (g := (mkF m 10 #[.val (.ref a), .val (.ref b), .unset, .unset] [(.ref b)])) rfl (by rw [hml]; rfl) (Steps.refl _) (argsL := []) (rest := []) (lenOf pd_4 rfl) rfl (by show 2 * 0 + _ ≤ _; exact Nat.le_of_eq rfl) (hb hby d8_10) (fun _ _ => ⟨rfl, e80, (by decide : 0 + 0 ≤ _), (by decide : 0 + 0 ≤ _)⟩)
    dsimp only [Pt.U, Pt.locs, Pt.cells, Pt.slots] at X82 l82 y82 z82 st82 hQ82
    subst l82 y82 z82
    obtain ⟨rfl, N82q, e82⟩ := hQ82
    have N82 := Fr.app N0 N82q
    refine own_via st82 ?_
    show own_Fin p e below _ (T82.setTop (mkF m 13 #[.val (.ref a), .val (.ref b), .unset, .unset] [(.double (FP.l2d qr))]))
    refine own_on (fun tq => XS.aloadN X82.here hx rfl (hb hby d8_13) rfl rfl) ?_
    show own_Fin p e below _ (T82.setTop (mkF m 14 #[.val (.ref a), .val (.ref b), .unset, .unset] [(.ref a), (.double (FP.l2d qr))]))
    obtain ⟨T83, X83, e83, st83⟩ := getF X82 hx hZ hown (host := "") (Or.inl (hw _ (List.mem_of_getElem? (i := 38) rfl))) Via.refl e82 F1 (g := (mkF m 14 #[.val (.ref a), .val (.ref b), .unset, .unset] [(.ref a), (.double (FP.l2d qr))])) rfl rfl (hb hby d8_14)
    refine own_on st83 ?_
    show own_Fin p e below _ (T83.setTop (mkF m 17 #[.val (.ref a), .val (.ref b), .unset, .unset] [(.double (FP.l2d qR)), (.double (FP.l2d qr))]))
    refine own_on (fun tq => XS.dcmpS X83.here hx rfl (hb hby d8_17) rfl (dcmpV_w Br BR _)) ?_
    show own_Fin p e below _ (T83.setTop (mkF m 18 #[.val (.ref a), .val (.ref b), .unset, .unset] [(.int (lcmpW qr qR))]))
    by_cases hc84 : (0 : Int32) < (lcmpW qr qR)
    · refine own_on (fun tq => XS.ifNo X83.here hx rfl (hb hby d8_18) rfl ((if0 _ _).trans (tlt hc84).2.2.2)) ?_
      show own_Fin p e below _ (T83.setTop (mkF m 21 #[.val (.ref a), .val (.ref b), .unset, .unset] []))
      refine own_on (fun tq => X83.ldc2DoubleC hx hown (mvT hZ (hw _ (List.mem_of_getElem? (i := 61) rfl))) (g := (mkF m 21 #[.val (.ref a), .val (.ref b), .unset, .unset] [])) rfl (hb hby d8_21) tq) ?_
      show own_Fin p e below _ (T83.setTop (mkF m 24 #[.val (.ref a), .val (.ref b), .unset, .unset] [(.double (9218868437227405312 : UInt64))]))
      refine own_on (fun tq => XS.dstoreN X83.here hx rfl (hb hby d8_24) rfl (l' := #[.val (.ref a), .val (.ref b), .val (.double (9218868437227405312 : UInt64)), .second]) rfl) ?_
      show own_Fin p e below _ (T83.setTop (mkF m 25 #[.val (.ref a), .val (.ref b), .val (.double (9218868437227405312 : UInt64)), .second] []))
      refine own_on (fun tq => XS.goto X83.here hx rfl (pc0 := 25) (pc' := 43) rfl (hb hby d8_25) (by decide) (by decide)) ?_
      show own_Fin p e below _ (T83.setTop (mkF m 43 #[.val (.ref a), .val (.ref b), .val (.double (9218868437227405312 : UInt64)), .second] []))
      refine own_on (fun tq => XS.dloadN X83.here hx rfl (hb hby d8_43) rfl) ?_
      show own_Fin p e below _ (T83.setTop (mkF m 44 #[.val (.ref a), .val (.ref b), .val (.double (9218868437227405312 : UInt64)), .second] [(.double (9218868437227405312 : UInt64))]))
      exact own_ret (t := .double) X83 hx hlk hret rfl (Or.inr (Or.inr (Or.inl ⟨rfl, rfl, _, rfl⟩))) (hb hby d8_44) (⟨by rw [if_pos (Or.inr ((lw_gt _ _).mp hc84))], N82, e83⟩) (by decide) (by decide)
    · refine own_on (fun tq => XS.ifYes X83.here hx rfl (pc0 := 18) (pc' := 28) rfl (hb hby d8_18) rfl ((if0 _ _).trans (flt hc84).2.2.2) (by decide) (by decide)) ?_
      show own_Fin p e below _ (T83.setTop (mkF m 28 #[.val (.ref a), .val (.ref b), .unset, .unset] []))
      refine own_on (fun tq => XS.aloadN X83.here hx rfl (hb hby d8_28) rfl rfl) ?_
      show own_Fin p e below _ (T83.setTop (mkF m 29 #[.val (.ref a), .val (.ref b), .unset, .unset] [(.ref a)]))
      obtain ⟨T85, X85, e85, st85⟩ := getF X83 hx hZ hown (host := "") (Or.inl (hw _ (List.mem_of_getElem? (i := 40) rfl))) Via.refl e83 F2 (g := (mkF m 29 #[.val (.ref a), .val (.ref b), .unset, .unset] [(.ref a)])) rfl rfl (hb hby d8_29)
      refine own_on st85 ?_
      show own_Fin p e below _ (T85.setTop (mkF m 32 #[.val (.ref a), .val (.ref b), .unset, .unset] [(.double (FP.l2d qT))]))
      refine own_on (fun tq => XS.aloadN X85.here hx rfl (hb hby d8_32) rfl rfl) ?_
      show own_Fin p e below _ (T85.setTop (mkF m 33 #[.val (.ref a), .val (.ref b), .unset, .unset] [(.ref b), (.double (FP.l2d qT))]))
      obtain ⟨cq86, kq86, q86a, q86b, q86c⟩ := isOf hZ e85 Eb
      obtain ⟨_, _, ⟨T86, L86, k86, n86⟩, -, X86, ⟨Lc86, hQ86, l86, y86, z86⟩, st86⟩ := X85.virtualBack hx (y := (⟨"com/example/curves_to_bounds/curvestobounds/curve/TokenBucket", "burst", "()D"⟩ : MethodName)) (z := (⟨"com/example/curves_to_bounds/curvestobounds/curve/TokenBucket", "burst", "()D"⟩ : MethodName)) hown (mvT hZ (hw _ (List.mem_of_getElem? (i := 68) rfl))) (mvT hZ (hw _ (List.mem_of_getElem? (i := 69) rfl))) (notFace_of_selects (args := #[]) (mvT hZ (hw _ (List.mem_of_getElem? (i := 71) rfl)))) (mvT hZ (hw _ (List.mem_of_getElem? (i := 71) rfl))) (mvT hZ (hw _ (List.mem_of_getElem? (i := 70) rfl))) (by decide) (backOf (W := 2) (rm10 l Z a0 hw [] b (FP.l2d qb) h0 n0 (by exact Z0) G2) hZ (hw _ (List.mem_of_getElem? (i := 72) rfl)) (hw _ (List.mem_of_getElem? (i := 44) rfl)) (by decide) (by decide)) q86a q86c (g := (mkF m 33 #[.val (.ref a), .val (.ref b), .unset, .unset] [(.ref b), (.double (FP.l2d qT))])) rfl (by rw [hml]; rfl) (Steps.refl _) (argsL := []) (rest := [(.double (FP.l2d qT))]) (lenOf pd_4 rfl) rfl (by show 2 * 0 + _ ≤ _; exact Nat.le_of_eq rfl) (hb hby d8_33) (fun _ _ => ⟨rfl, e85, (by decide : 0 + 0 ≤ _), (by decide : 0 + 0 ≤ _)⟩)
      dsimp only [Pt.U, Pt.locs, Pt.cells, Pt.slots] at X86 l86 y86 z86 st86 hQ86
      subst l86 y86 z86
      obtain ⟨rfl, N86q, e86⟩ := hQ86
      have N86 := Fr.app N82 N86q
      refine own_via st86 ?_
      show own_Fin p e below _ (T86.setTop (mkF m 36 #[.val (.ref a), .val (.ref b), .unset, .unset] [(.double (FP.l2d qb)), (.double (FP.l2d qT))]))
      refine own_on (fun tq => XS.aloadN X86.here hx rfl (hb hby d8_36) rfl rfl) ?_
      show own_Fin p e below _ (T86.setTop (mkF m 37 #[.val (.ref a), .val (.ref b), .unset, .unset] [(.ref a), (.double (FP.l2d qb)), (.double (FP.l2d qT))]))
      obtain ⟨T87, X87, e87, st87⟩ := getF X86 hx hZ hown (host := "") (Or.inl (hw _ (List.mem_of_getElem? (i := 38) rfl))) Via.refl e86 F1 (g := (mkF m 37 #[.val (.ref a), .val (.ref b), .unset, .unset] [(.ref a), (.double (FP.l2d qb)), (.double (FP.l2d qT))])) rfl rfl (hb hby d8_37)
      refine own_on st87 ?_
      show own_Fin p e below _ (T87.setTop (mkF m 40 #[.val (.ref a), .val (.ref b), .unset, .unset] [(.double (FP.l2d qR)), (.double (FP.l2d qb)), (.double (FP.l2d qT))]))
      refine own_on (fun tq => XS.ddivS X87.here hx rfl (hb hby d8_40) rfl (NN (own_nzq hc81)).1 rfl) ?_
      show own_Fin p e below _ (T87.setTop (mkF m 41 #[.val (.ref a), .val (.ref b), .unset, .unset] [(.double (FP.ddiv (FP.l2d qb) (FP.l2d qR))), (.double (FP.l2d qT))]))
      refine own_on (fun tq => XS.daddS X87.here hx rfl (hb hby d8_41) rfl (NN (own_nzq hc81)).2 rfl) ?_
      show own_Fin p e below _ (T87.setTop (mkF m 42 #[.val (.ref a), .val (.ref b), .unset, .unset] [(.double (FP.dadd (FP.l2d qT) (FP.ddiv (FP.l2d qb) (FP.l2d qR))))]))
      refine own_on (fun tq => XS.dstoreN X87.here hx rfl (hb hby d8_42) rfl (l' := #[.val (.ref a), .val (.ref b), .val (.double (FP.dadd (FP.l2d qT) (FP.ddiv (FP.l2d qb) (FP.l2d qR)))), .second]) rfl) ?_
      show own_Fin p e below _ (T87.setTop (mkF m 43 #[.val (.ref a), .val (.ref b), .val (.double (FP.dadd (FP.l2d qT) (FP.ddiv (FP.l2d qb) (FP.l2d qR)))), .second] []))
      refine own_on (fun tq => XS.dloadN X87.here hx rfl (hb hby d8_43) rfl) ?_
      show own_Fin p e below _ (T87.setTop (mkF m 44 #[.val (.ref a), .val (.ref b), .val (.double (FP.dadd (FP.l2d qT) (FP.ddiv (FP.l2d qb) (FP.l2d qR)))), .second] [(.double (FP.dadd (FP.l2d qT) (FP.ddiv (FP.l2d qb) (FP.l2d qR))))]))
      exact own_ret (t := .double) X87 hx hlk hret rfl (Or.inr (Or.inr (Or.inl ⟨rfl, rfl, _, rfl⟩))) (hb hby d8_44) (⟨by rw [if_neg (fun q_ => q_.elim (own_nzq hc81) (fun y_ => hc84 ((lw_gt _ _).mpr y_)))], N86, e87⟩) (by decide) (by decide)
theorem pn_5 : plainName "com/example/curves_to_bounds/curvestobounds/curve/RateLatencyDelayBoundPinLaw" = true := by first | (simp [plainName, overriddenIn]; done) | decide +kernel
theorem pd_5 : parseMethodDescriptor "(DD)V" = some ⟨[.double, .double], none⟩ := by decide +kernel
theorem pd_6 : parseMethodDescriptor "(Lcom/example/curves_to_bounds/curvestobounds/curve/TokenBucket;)D" = some ⟨[(.object "com/example/curves_to_bounds/curvestobounds/curve/TokenBucket")], some .double⟩ := by decide +kernel
theorem ef_rm0 (m : MethodId) (x0 : Int32) (x1 : Int32) (x2 : Int32) (x3 : Int32) (x4 : Int32) (x5 : Int32) : entryFrame m #[(.int x0), (.int x1), (.int x2), (.int x3), (.int x4), (.int x5)] maxLocals = mkF m 0 #[.val (.int x0), .val (.int x1), .val (.int x2), .val (.int x3), .val (.int x4), .val (.int x5), .unset, .unset, .unset, .unset, .unset, .unset, .unset, .unset, .unset, .unset, .unset, .unset, .unset] [] := by first | (simp [entryFrame, mkF, argsToLocals, Value.category, maxLocals]; done) | rfl
def Q0 (Z : State) (p1 : Int32) (p2 : Int32) (p3 : Int32) (p4 : Int32) (p5 : Int32) (p6 : Int32) (h0 : Heap) (n0 : Nat) (v : Option Value) (h : Heap) (L : List Loc) : Prop := v = some (.int 1) ∧ Fr n0 L
set_option maxRecDepth 65536 in
set_option maxHeartbeats 40000000 in
theorem rm0 (l : Launch) (Z : State) (a0 : Array Value) (hw : ∀ d ∈ tables_1, d.before a0 Z = true) (ws : List Jvm.Cond) (p1 : Int32) (p2 : Int32) (p3 : Int32) (p4 : Int32) (p5 : Int32) (p6 : Int32) (h0 : Heap) (n0 : Nat) (Z0 : n0 ≤ h0.size) (hEL : EW Z a0 own_EL) :
    MetFree l x (head1 (Jvm.Cond.code x code maxLocals ret :: ws) room_1) (fun as_ U => as_ = #[(.int p1), (.int p2), (.int p3), (.int p4), (.int p5), (.int p6)] ∧ Z.Warmed39 U.vm ∧ U.heap = h0 ∧ CHv Z own_EL U.vm h0) (fun _ _ _ _ _ => True) (fun _ U out_ U' => ∃ v L, out_ = .returned v ∧ Q0 Z p1 p2 p3 p4 p5 p6 h0 n0 v U'.heap L ∧ CHr Z own_EL U.vm U.heap U'.vm U'.heap ∧ ReturnedEndW U out_ U' L room_1.cells room_1.slots) := by
  refine MetFree.of_bodySF (plainFor_of_name pn_5) hisR ?_
  intro p e s m args below meth cd s₁ Bd hml0 hP hK
  obtain ⟨rfl, hZ, hh, CH0⟩ := hP
  have hx := Bd.exec
  have hby := Bd.bytes
  have hml : cd.maxLocals = 19 := hml0
  have hlk : meth.locks = false := BodyLoose.notSynchronized Bd
  have hown : s.vm.findClass "com/example/curves_to_bounds/curvestobounds/curve/RateLatencyDelayBoundPinLaw" = some m.cls := findClass_of_methodNamed Bd.named
  have hnm := (name_of_methodNamed Bd.named Bd.method).1
  have hret := Bd.returns
  have X0 : Stand p l e room_1 (s.setVm s.vm) m #[(.int p1), (.int p2), (.int p3), (.int p4), (.int p5), (.int p6)] below meth cd s₁ [] 0 0 := Stand.of_body Bd
  have e0 : s₁.heap = h0 := by rw [← hh, Bd.state]; rfl
  have N0 := Fr.nil n0
  have hS0 : s.Since s.vm 0 := (State.WarmedH.refl s).since 0
  have wS := own_wS hw
  show own_Fin p e below (own_AnsW s Z own_EL (Q0 Z p1 p2 p3 p4 p5 p6 h0 n0) room_1.cells room_1.slots) (s₁.setTop (entryFrame m #[(.int p1), (.int p2), (.int p3), (.int p4), (.int p5), (.int p6)] maxLocals))
  refine own_cast (ef_rm0 m p1 p2 p3 p4 p5 p6) ?_
  show own_Fin p e below _ (s₁.setTop (mkF m 0 #[.val (.int p1), .val (.int p2), .val (.int p3), .val (.int p4), .val (.int p5), .val (.int p6), .unset, .unset, .unset, .unset, .unset, .unset, .unset, .unset, .unset, .unset, .unset, .unset, .unset] []))
  refine own_on (fun tq => XS.iloadN X0.here hx rfl (hb hby at_0) rfl) ?_
  show own_Fin p e below _ (s₁.setTop (mkF m 1 #[.val (.int p1), .val (.int p2), .val (.int p3), .val (.int p4), .val (.int p5), .val (.int p6), .unset, .unset, .unset, .unset, .unset, .unset, .unset, .unset, .unset, .unset, .unset, .unset, .unset] [(.int p1)]))
  refine own_on (fun tq => X0.ldcInt hx hown (mvT hZ (hw _ (List.mem_of_getElem? (i := 0) rfl))) (g := (mkF m 1 #[.val (.int p1), .val (.int p2), .val (.int p3), .val (.int p4), .val (.int p5), .val (.int p6), .unset, .unset, .unset, .unset, .unset, .unset, .unset, .unset, .unset, .unset, .unset, .unset, .unset] [(.int p1)])) rfl (hb hby at_1) tq) ?_
  show own_Fin p e below _ (s₁.setTop (mkF m 3 #[.val (.int p1), .val (.int p2), .val (.int p3), .val (.int p4), .val (.int p5), .val (.int p6), .unset, .unset, .unset, .unset, .unset, .unset, .unset, .unset, .unset, .unset, .unset, .unset, .unset] [(.int (65535 : Int32)), (.int p1)]))
  refine own_on (fun tq => XS.iand X0.here hx rfl (hb hby at_3) rfl) ?_
  show own_Fin p e below _ (s₁.setTop (mkF m 4 #[.val (.int p1), .val (.int p2), .val (.int p3), .val (.int p4), .val (.int p5), .val (.int p6), .unset, .unset, .unset, .unset, .unset, .unset, .unset, .unset, .unset, .unset, .unset, .unset, .unset] [(.int (p1 &&& (65535 : Int32)))]))
  refine own_on (fun tq => XS.istore X0.here hx rfl (hb hby at_4) rfl (l' := #[.val (.int p1), .val (.int p2), .val (.int p3), .val (.int p4), .val (.int p5), .val (.int p6), .val (.int (p1 &&& (65535 : Int32))), .unset, .unset, .unset, .unset, .unset, .unset, .unset, .unset, .unset, .unset, .unset, .unset]) rfl) ?_
  show own_Fin p e below _ (s₁.setTop (mkF m 6 #[.val (.int p1), .val (.int p2), .val (.int p3), .val (.int p4), .val (.int p5), .val (.int p6), .val (.int (p1 &&& (65535 : Int32))), .unset, .unset, .unset, .unset, .unset, .unset, .unset, .unset, .unset, .unset, .unset, .unset] []))
  refine own_on (fun tq => XS.iloadN X0.here hx rfl (hb hby at_6) rfl) ?_
  show own_Fin p e below _ (s₁.setTop (mkF m 7 #[.val (.int p1), .val (.int p2), .val (.int p3), .val (.int p4), .val (.int p5), .val (.int p6), .val (.int (p1 &&& (65535 : Int32))), .unset, .unset, .unset, .unset, .unset, .unset, .unset, .unset, .unset, .unset, .unset, .unset] [(.int p2)]))
  refine own_on (fun tq => XS.iconst X0.here hx rfl (hb hby at_7)) ?_
  show own_Fin p e below _ (s₁.setTop (mkF m 8 #[.val (.int p1), .val (.int p2), .val (.int p3), .val (.int p4), .val (.int p5), .val (.int p6), .val (.int (p1 &&& (65535 : Int32))), .unset, .unset, .unset, .unset, .unset, .unset, .unset, .unset, .unset, .unset, .unset, .unset] [(.int (3 : Int32)), (.int p2)]))
  refine own_on (fun tq => XS.iand X0.here hx rfl (hb hby at_8) rfl) ?_
  show own_Fin p e below _ (s₁.setTop (mkF m 9 #[.val (.int p1), .val (.int p2), .val (.int p3), .val (.int p4), .val (.int p5), .val (.int p6), .val (.int (p1 &&& (65535 : Int32))), .unset, .unset, .unset, .unset, .unset, .unset, .unset, .unset, .unset, .unset, .unset, .unset] [(.int (p2 &&& (3 : Int32)))]))
  by_cases hc88 : (p2 &&& (3 : Int32)) = (0 : Int32)
  · refine own_on (fun tq => XS.ifNo X0.here hx rfl (hb hby at_9) rfl ((if0 _ _).trans (teq hc88).2)) ?_
    show own_Fin p e below _ (s₁.setTop (mkF m 12 #[.val (.int p1), .val (.int p2), .val (.int p3), .val (.int p4), .val (.int p5), .val (.int p6), .val (.int (p1 &&& (65535 : Int32))), .unset, .unset, .unset, .unset, .unset, .unset, .unset, .unset, .unset, .unset, .unset, .unset] []))
    refine own_on (fun tq => XS.iconst X0.here hx rfl (hb hby at_12)) ?_
    show own_Fin p e below _ (s₁.setTop (mkF m 13 #[.val (.int p1), .val (.int p2), .val (.int p3), .val (.int p4), .val (.int p5), .val (.int p6), .val (.int (p1 &&& (65535 : Int32))), .unset, .unset, .unset, .unset, .unset, .unset, .unset, .unset, .unset, .unset, .unset, .unset] [(.int (0 : Int32))]))
    refine own_on (fun tq => XS.istore X0.here hx rfl (hb hby at_13) rfl (l' := #[.val (.int p1), .val (.int p2), .val (.int p3), .val (.int p4), .val (.int p5), .val (.int p6), .val (.int (0 : Int32)), .unset, .unset, .unset, .unset, .unset, .unset, .unset, .unset, .unset, .unset, .unset, .unset]) rfl) ?_
    show own_Fin p e below _ (s₁.setTop (mkF m 15 #[.val (.int p1), .val (.int p2), .val (.int p3), .val (.int p4), .val (.int p5), .val (.int p6), .val (.int (0 : Int32)), .unset, .unset, .unset, .unset, .unset, .unset, .unset, .unset, .unset, .unset, .unset, .unset] []))
    obtain ⟨bR, hbR⟩ : ∃ q : Int32, q = (0 : Int32) := ⟨_, rfl⟩
    have rR : 0 ≤ bR.toInt ∧ bR.toInt ≤ 65535 := hbR ▸ own_z16
    rw [← hbR]
    show own_Fin p e below _ (s₁.setTop (mkF m 15 #[.val (.int p1), .val (.int p2), .val (.int p3), .val (.int p4), .val (.int p5), .val (.int p6), .val (.int bR), .unset, .unset, .unset, .unset, .unset, .unset, .unset, .unset, .unset, .unset, .unset, .unset] []))
    refine own_on (fun tq => XS.iloadN X0.here hx rfl (hb hby at_15) rfl) ?_
    show own_Fin p e below _ (s₁.setTop (mkF m 16 #[.val (.int p1), .val (.int p2), .val (.int p3), .val (.int p4), .val (.int p5), .val (.int p6), .val (.int bR), .unset, .unset, .unset, .unset, .unset, .unset, .unset, .unset, .unset, .unset, .unset, .unset] [(.int p2)]))
    refine own_on (fun tq => XS.iconst X0.here hx rfl (hb hby at_16)) ?_
    show own_Fin p e below _ (s₁.setTop (mkF m 17 #[.val (.int p1), .val (.int p2), .val (.int p3), .val (.int p4), .val (.int p5), .val (.int p6), .val (.int bR), .unset, .unset, .unset, .unset, .unset, .unset, .unset, .unset, .unset, .unset, .unset, .unset] [(.int (2 : Int32)), (.int p2)]))
    refine own_on (fun tq => XS.iushr X0.here hx rfl (hb hby at_17) rfl) ?_
    show own_Fin p e below _ (s₁.setTop (mkF m 18 #[.val (.int p1), .val (.int p2), .val (.int p3), .val (.int p4), .val (.int p5), .val (.int p6), .val (.int bR), .unset, .unset, .unset, .unset, .unset, .unset, .unset, .unset, .unset, .unset, .unset, .unset] [(.int ((p2.toUInt32 >>> ((2 : Int32) &&& 31).toUInt32).toInt32))]))
    refine own_on (fun tq => XS.iconst X0.here hx rfl (hb hby at_18)) ?_
    show own_Fin p e below _ (s₁.setTop (mkF m 19 #[.val (.int p1), .val (.int p2), .val (.int p3), .val (.int p4), .val (.int p5), .val (.int p6), .val (.int bR), .unset, .unset, .unset, .unset, .unset, .unset, .unset, .unset, .unset, .unset, .unset, .unset] [(.int (3 : Int32)), (.int ((p2.toUInt32 >>> ((2 : Int32) &&& 31).toUInt32).toInt32))]))
    refine own_on (fun tq => XS.iand X0.here hx rfl (hb hby at_19) rfl) ?_
    show own_Fin p e below _ (s₁.setTop (mkF m 20 #[.val (.int p1), .val (.int p2), .val (.int p3), .val (.int p4), .val (.int p5), .val (.int p6), .val (.int bR), .unset, .unset, .unset, .unset, .unset, .unset, .unset, .unset, .unset, .unset, .unset, .unset] [(.int (((p2.toUInt32 >>> ((2 : Int32) &&& 31).toUInt32).toInt32) &&& (3 : Int32)))]))
    refine own_on (fun tq => XS.istore X0.here hx rfl (hb hby at_20) rfl (l' := #[.val (.int p1), .val (.int p2), .val (.int p3), .val (.int p4), .val (.int p5), .val (.int p6), .val (.int bR), .val (.int (((p2.toUInt32 >>> ((2 : Int32) &&& 31).toUInt32).toInt32) &&& (3 : Int32))), .unset, .unset, .unset, .unset, .unset, .unset, .unset, .unset, .unset, .unset, .unset]) rfl) ?_
    show own_Fin p e below _ (s₁.setTop (mkF m 22 #[.val (.int p1), .val (.int p2), .val (.int p3), .val (.int p4), .val (.int p5), .val (.int p6), .val (.int bR), .val (.int (((p2.toUInt32 >>> ((2 : Int32) &&& 31).toUInt32).toInt32) &&& (3 : Int32))), .unset, .unset, .unset, .unset, .unset, .unset, .unset, .unset, .unset, .unset, .unset] []))
    refine own_on (fun tq => XS.iload X0.here hx rfl (hb hby at_22) rfl) ?_
    show own_Fin p e below _ (s₁.setTop (mkF m 24 #[.val (.int p1), .val (.int p2), .val (.int p3), .val (.int p4), .val (.int p5), .val (.int p6), .val (.int bR), .val (.int (((p2.toUInt32 >>> ((2 : Int32) &&& 31).toUInt32).toInt32) &&& (3 : Int32))), .unset, .unset, .unset, .unset, .unset, .unset, .unset, .unset, .unset, .unset, .unset] [(.int (((p2.toUInt32 >>> ((2 : Int32) &&& 31).toUInt32).toInt32) &&& (3 : Int32)))]))
    by_cases hc89 : (((p2.toUInt32 >>> ((2 : Int32) &&& 31).toUInt32).toInt32) &&& (3 : Int32)) = (0 : Int32)
    · refine own_on (fun tq => XS.ifNo X0.here hx rfl (hb hby at_24) rfl ((if0 _ _).trans (teq hc89).2)) ?_
      show own_Fin p e below _ (s₁.setTop (mkF m 27 #[.val (.int p1), .val (.int p2), .val (.int p3), .val (.int p4), .val (.int p5), .val (.int p6), .val (.int bR), .val (.int (((p2.toUInt32 >>> ((2 : Int32) &&& 31).toUInt32).toInt32) &&& (3 : Int32))), .unset, .unset, .unset, .unset, .unset, .unset, .unset, .unset, .unset, .unset, .unset] []))
      refine own_on (fun tq => XS.iload X0.here hx rfl (hb hby at_27) rfl) ?_
      show own_Fin p e below _ (s₁.setTop (mkF m 29 #[.val (.int p1), .val (.int p2), .val (.int p3), .val (.int p4), .val (.int p5), .val (.int p6), .val (.int bR), .val (.int (((p2.toUInt32 >>> ((2 : Int32) &&& 31).toUInt32).toInt32) &&& (3 : Int32))), .unset, .unset, .unset, .unset, .unset, .unset, .unset, .unset, .unset, .unset, .unset] [(.int bR)]))
      refine own_on (fun tq => XS.iconst X0.here hx rfl (hb hby at_29)) ?_
      show own_Fin p e below _ (s₁.setTop (mkF m 30 #[.val (.int p1), .val (.int p2), .val (.int p3), .val (.int p4), .val (.int p5), .val (.int p6), .val (.int bR), .val (.int (((p2.toUInt32 >>> ((2 : Int32) &&& 31).toUInt32).toInt32) &&& (3 : Int32))), .unset, .unset, .unset, .unset, .unset, .unset, .unset, .unset, .unset, .unset, .unset] [(.int (1 : Int32)), (.int bR)]))
      refine own_on (fun tq => XS.iadd X0.here hx rfl (hb hby at_30) rfl) ?_
      show own_Fin p e below _ (s₁.setTop (mkF m 31 #[.val (.int p1), .val (.int p2), .val (.int p3), .val (.int p4), .val (.int p5), .val (.int p6), .val (.int bR), .val (.int (((p2.toUInt32 >>> ((2 : Int32) &&& 31).toUInt32).toInt32) &&& (3 : Int32))), .unset, .unset, .unset, .unset, .unset, .unset, .unset, .unset, .unset, .unset, .unset] [(.int (bR + (1 : Int32)))]))
      refine own_on (fun tq => XS.iloadN X0.here hx rfl (hb hby at_31) rfl) ?_
      show own_Fin p e below _ (s₁.setTop (mkF m 32 #[.val (.int p1), .val (.int p2), .val (.int p3), .val (.int p4), .val (.int p5), .val (.int p6), .val (.int bR), .val (.int (((p2.toUInt32 >>> ((2 : Int32) &&& 31).toUInt32).toInt32) &&& (3 : Int32))), .unset, .unset, .unset, .unset, .unset, .unset, .unset, .unset, .unset, .unset, .unset] [(.int p3), (.int (bR + (1 : Int32)))]))
      refine own_on (fun tq => X0.ldcInt hx hown (mvT hZ (hw _ (List.mem_of_getElem? (i := 0) rfl))) (g := (mkF m 32 #[.val (.int p1), .val (.int p2), .val (.int p3), .val (.int p4), .val (.int p5), .val (.int p6), .val (.int bR), .val (.int (((p2.toUInt32 >>> ((2 : Int32) &&& 31).toUInt32).toInt32) &&& (3 : Int32))), .unset, .unset, .unset, .unset, .unset, .unset, .unset, .unset, .unset, .unset, .unset] [(.int p3), (.int (bR + (1 : Int32)))])) rfl (hb hby at_32) tq) ?_
      show own_Fin p e below _ (s₁.setTop (mkF m 34 #[.val (.int p1), .val (.int p2), .val (.int p3), .val (.int p4), .val (.int p5), .val (.int p6), .val (.int bR), .val (.int (((p2.toUInt32 >>> ((2 : Int32) &&& 31).toUInt32).toInt32) &&& (3 : Int32))), .unset, .unset, .unset, .unset, .unset, .unset, .unset, .unset, .unset, .unset, .unset] [(.int (65535 : Int32)), (.int p3), (.int (bR + (1 : Int32)))]))
      refine own_on (fun tq => XS.iand X0.here hx rfl (hb hby at_34) rfl) ?_
      show own_Fin p e below _ (s₁.setTop (mkF m 35 #[.val (.int p1), .val (.int p2), .val (.int p3), .val (.int p4), .val (.int p5), .val (.int p6), .val (.int bR), .val (.int (((p2.toUInt32 >>> ((2 : Int32) &&& 31).toUInt32).toInt32) &&& (3 : Int32))), .unset, .unset, .unset, .unset, .unset, .unset, .unset, .unset, .unset, .unset, .unset] [(.int (p3 &&& (65535 : Int32))), (.int (bR + (1 : Int32)))]))
      refine own_on (fun tq => XS.iadd X0.here hx rfl (hb hby at_35) rfl) ?_
      show own_Fin p e below _ (s₁.setTop (mkF m 36 #[.val (.int p1), .val (.int p2), .val (.int p3), .val (.int p4), .val (.int p5), .val (.int p6), .val (.int bR), .val (.int (((p2.toUInt32 >>> ((2 : Int32) &&& 31).toUInt32).toInt32) &&& (3 : Int32))), .unset, .unset, .unset, .unset, .unset, .unset, .unset, .unset, .unset, .unset, .unset] [(.int ((bR + (1 : Int32)) + (p3 &&& (65535 : Int32))))]))
      refine own_on (fun tq => XS.istore X0.here hx rfl (hb hby at_36) rfl (l' := #[.val (.int p1), .val (.int p2), .val (.int p3), .val (.int p4), .val (.int p5), .val (.int p6), .val (.int bR), .val (.int (((p2.toUInt32 >>> ((2 : Int32) &&& 31).toUInt32).toInt32) &&& (3 : Int32))), .val (.int ((bR + (1 : Int32)) + (p3 &&& (65535 : Int32)))), .unset, .unset, .unset, .unset, .unset, .unset, .unset, .unset, .unset, .unset]) rfl) ?_
      show own_Fin p e below _ (s₁.setTop (mkF m 38 #[.val (.int p1), .val (.int p2), .val (.int p3), .val (.int p4), .val (.int p5), .val (.int p6), .val (.int bR), .val (.int (((p2.toUInt32 >>> ((2 : Int32) &&& 31).toUInt32).toInt32) &&& (3 : Int32))), .val (.int ((bR + (1 : Int32)) + (p3 &&& (65535 : Int32)))), .unset, .unset, .unset, .unset, .unset, .unset, .unset, .unset, .unset, .unset] []))
      refine own_on (fun tq => XS.goto X0.here hx rfl (pc0 := 38) (pc' := 65) rfl (hb hby at_38) (by decide) (by decide)) ?_
      show own_Fin p e below _ (s₁.setTop (mkF m 65 #[.val (.int p1), .val (.int p2), .val (.int p3), .val (.int p4), .val (.int p5), .val (.int p6), .val (.int bR), .val (.int (((p2.toUInt32 >>> ((2 : Int32) &&& 31).toUInt32).toInt32) &&& (3 : Int32))), .val (.int ((bR + (1 : Int32)) + (p3 &&& (65535 : Int32)))), .unset, .unset, .unset, .unset, .unset, .unset, .unset, .unset, .unset, .unset] []))
      obtain ⟨rr, hrr⟩ : ∃ q : Int32, q = ((bR + (1 : Int32)) + (p3 &&& (65535 : Int32))) := ⟨_, rfl⟩
      have r0 : 0 ≤ rr.toInt := hrr ▸ own_ra rR
      rw [← hrr]
      show own_Fin p e below _ (s₁.setTop (mkF m 65 #[.val (.int p1), .val (.int p2), .val (.int p3), .val (.int p4), .val (.int p5), .val (.int p6), .val (.int bR), .val (.int (((p2.toUInt32 >>> ((2 : Int32) &&& 31).toUInt32).toInt32) &&& (3 : Int32))), .val (.int rr), .unset, .unset, .unset, .unset, .unset, .unset, .unset, .unset, .unset, .unset] []))
      refine own_on (fun tq => XS.iloadN X0.here hx rfl (hb hby at_65) rfl) ?_
      show own_Fin p e below _ (s₁.setTop (mkF m 66 #[.val (.int p1), .val (.int p2), .val (.int p3), .val (.int p4), .val (.int p5), .val (.int p6), .val (.int bR), .val (.int (((p2.toUInt32 >>> ((2 : Int32) &&& 31).toUInt32).toInt32) &&& (3 : Int32))), .val (.int rr), .unset, .unset, .unset, .unset, .unset, .unset, .unset, .unset, .unset, .unset] [(.int p4)]))
      refine own_on (fun tq => X0.ldcInt hx hown (mvT hZ (hw _ (List.mem_of_getElem? (i := 0) rfl))) (g := (mkF m 66 #[.val (.int p1), .val (.int p2), .val (.int p3), .val (.int p4), .val (.int p5), .val (.int p6), .val (.int bR), .val (.int (((p2.toUInt32 >>> ((2 : Int32) &&& 31).toUInt32).toInt32) &&& (3 : Int32))), .val (.int rr), .unset, .unset, .unset, .unset, .unset, .unset, .unset, .unset, .unset, .unset] [(.int p4)])) rfl (hb hby at_66) tq) ?_
      show own_Fin p e below _ (s₁.setTop (mkF m 68 #[.val (.int p1), .val (.int p2), .val (.int p3), .val (.int p4), .val (.int p5), .val (.int p6), .val (.int bR), .val (.int (((p2.toUInt32 >>> ((2 : Int32) &&& 31).toUInt32).toInt32) &&& (3 : Int32))), .val (.int rr), .unset, .unset, .unset, .unset, .unset, .unset, .unset, .unset, .unset, .unset] [(.int (65535 : Int32)), (.int p4)]))
      refine own_on (fun tq => XS.iand X0.here hx rfl (hb hby at_68) rfl) ?_
      show own_Fin p e below _ (s₁.setTop (mkF m 69 #[.val (.int p1), .val (.int p2), .val (.int p3), .val (.int p4), .val (.int p5), .val (.int p6), .val (.int bR), .val (.int (((p2.toUInt32 >>> ((2 : Int32) &&& 31).toUInt32).toInt32) &&& (3 : Int32))), .val (.int rr), .unset, .unset, .unset, .unset, .unset, .unset, .unset, .unset, .unset, .unset] [(.int (p4 &&& (65535 : Int32)))]))
      refine own_on (fun tq => XS.istore X0.here hx rfl (hb hby at_69) rfl (l' := #[.val (.int p1), .val (.int p2), .val (.int p3), .val (.int p4), .val (.int p5), .val (.int p6), .val (.int bR), .val (.int (((p2.toUInt32 >>> ((2 : Int32) &&& 31).toUInt32).toInt32) &&& (3 : Int32))), .val (.int rr), .val (.int (p4 &&& (65535 : Int32))), .unset, .unset, .unset, .unset, .unset, .unset, .unset, .unset, .unset]) rfl) ?_
      show own_Fin p e below _ (s₁.setTop (mkF m 71 #[.val (.int p1), .val (.int p2), .val (.int p3), .val (.int p4), .val (.int p5), .val (.int p6), .val (.int bR), .val (.int (((p2.toUInt32 >>> ((2 : Int32) &&& 31).toUInt32).toInt32) &&& (3 : Int32))), .val (.int rr), .val (.int (p4 &&& (65535 : Int32))), .unset, .unset, .unset, .unset, .unset, .unset, .unset, .unset, .unset] []))
      obtain ⟨tT, htT⟩ : ∃ q : Int32, q = (p4 &&& (65535 : Int32)) := ⟨_, rfl⟩
      have rT : 0 ≤ tT.toInt ∧ tT.toInt ≤ 65535 := htT ▸ own_m16 p4
      rw [← htT]
      show own_Fin p e below _ (s₁.setTop (mkF m 71 #[.val (.int p1), .val (.int p2), .val (.int p3), .val (.int p4), .val (.int p5), .val (.int p6), .val (.int bR), .val (.int (((p2.toUInt32 >>> ((2 : Int32) &&& 31).toUInt32).toInt32) &&& (3 : Int32))), .val (.int rr), .val (.int tT), .unset, .unset, .unset, .unset, .unset, .unset, .unset, .unset, .unset] []))
      refine own_on (fun tq => XS.iload X0.here hx rfl (hb hby at_71) rfl) ?_
      show own_Fin p e below _ (s₁.setTop (mkF m 73 #[.val (.int p1), .val (.int p2), .val (.int p3), .val (.int p4), .val (.int p5), .val (.int p6), .val (.int bR), .val (.int (((p2.toUInt32 >>> ((2 : Int32) &&& 31).toUInt32).toInt32) &&& (3 : Int32))), .val (.int rr), .val (.int tT), .unset, .unset, .unset, .unset, .unset, .unset, .unset, .unset, .unset] [(.int p5)]))
      refine own_on (fun tq => XS.sipush X0.here hx rfl (hb hby at_73)) ?_
      show own_Fin p e below _ (s₁.setTop (mkF m 76 #[.val (.int p1), .val (.int p2), .val (.int p3), .val (.int p4), .val (.int p5), .val (.int p6), .val (.int bR), .val (.int (((p2.toUInt32 >>> ((2 : Int32) &&& 31).toUInt32).toInt32) &&& (3 : Int32))), .val (.int rr), .val (.int tT), .unset, .unset, .unset, .unset, .unset, .unset, .unset, .unset, .unset] [(.int (32767 : Int32)), (.int p5)]))
      refine own_on (fun tq => XS.iand X0.here hx rfl (hb hby at_76) rfl) ?_
      show own_Fin p e below _ (s₁.setTop (mkF m 77 #[.val (.int p1), .val (.int p2), .val (.int p3), .val (.int p4), .val (.int p5), .val (.int p6), .val (.int bR), .val (.int (((p2.toUInt32 >>> ((2 : Int32) &&& 31).toUInt32).toInt32) &&& (3 : Int32))), .val (.int rr), .val (.int tT), .unset, .unset, .unset, .unset, .unset, .unset, .unset, .unset, .unset] [(.int (p5 &&& (32767 : Int32)))]))
      refine own_on (fun tq => XS.istore X0.here hx rfl (hb hby at_77) rfl (l' := #[.val (.int p1), .val (.int p2), .val (.int p3), .val (.int p4), .val (.int p5), .val (.int p6), .val (.int bR), .val (.int (((p2.toUInt32 >>> ((2 : Int32) &&& 31).toUInt32).toInt32) &&& (3 : Int32))), .val (.int rr), .val (.int tT), .val (.int (p5 &&& (32767 : Int32))), .unset, .unset, .unset, .unset, .unset, .unset, .unset, .unset]) rfl) ?_
      show own_Fin p e below _ (s₁.setTop (mkF m 79 #[.val (.int p1), .val (.int p2), .val (.int p3), .val (.int p4), .val (.int p5), .val (.int p6), .val (.int bR), .val (.int (((p2.toUInt32 >>> ((2 : Int32) &&& 31).toUInt32).toInt32) &&& (3 : Int32))), .val (.int rr), .val (.int tT), .val (.int (p5 &&& (32767 : Int32))), .unset, .unset, .unset, .unset, .unset, .unset, .unset, .unset] []))
      obtain ⟨kk, hkk⟩ : ∃ q : Int32, q = (p5 &&& (32767 : Int32)) := ⟨_, rfl⟩
      have rk : 0 ≤ kk.toInt ∧ kk.toInt ≤ 32767 := hkk ▸ own_m15 p5
      rw [← hkk]
      show own_Fin p e below _ (s₁.setTop (mkF m 79 #[.val (.int p1), .val (.int p2), .val (.int p3), .val (.int p4), .val (.int p5), .val (.int p6), .val (.int bR), .val (.int (((p2.toUInt32 >>> ((2 : Int32) &&& 31).toUInt32).toInt32) &&& (3 : Int32))), .val (.int rr), .val (.int tT), .val (.int kk), .unset, .unset, .unset, .unset, .unset, .unset, .unset, .unset] []))
      refine own_on (fun tq => XS.iload X0.here hx rfl (hb hby at_79) rfl) ?_
      show own_Fin p e below _ (s₁.setTop (mkF m 81 #[.val (.int p1), .val (.int p2), .val (.int p3), .val (.int p4), .val (.int p5), .val (.int p6), .val (.int bR), .val (.int (((p2.toUInt32 >>> ((2 : Int32) &&& 31).toUInt32).toInt32) &&& (3 : Int32))), .val (.int rr), .val (.int tT), .val (.int kk), .unset, .unset, .unset, .unset, .unset, .unset, .unset, .unset] [(.int bR)]))
      by_cases hc90 : bR = (0 : Int32)
      · refine own_on (fun tq => XS.ifNo X0.here hx rfl (hb hby at_81) rfl ((if0 _ _).trans (teq hc90).2)) ?_
        show own_Fin p e below _ (s₁.setTop (mkF m 84 #[.val (.int p1), .val (.int p2), .val (.int p3), .val (.int p4), .val (.int p5), .val (.int p6), .val (.int bR), .val (.int (((p2.toUInt32 >>> ((2 : Int32) &&& 31).toUInt32).toInt32) &&& (3 : Int32))), .val (.int rr), .val (.int tT), .val (.int kk), .unset, .unset, .unset, .unset, .unset, .unset, .unset, .unset] []))
        refine own_on (fun tq => XS.iconst X0.here hx rfl (hb hby at_84)) ?_
        show own_Fin p e below _ (s₁.setTop (mkF m 85 #[.val (.int p1), .val (.int p2), .val (.int p3), .val (.int p4), .val (.int p5), .val (.int p6), .val (.int bR), .val (.int (((p2.toUInt32 >>> ((2 : Int32) &&& 31).toUInt32).toInt32) &&& (3 : Int32))), .val (.int rr), .val (.int tT), .val (.int kk), .unset, .unset, .unset, .unset, .unset, .unset, .unset, .unset] [(.int (0 : Int32))]))
        refine own_on (fun tq => XS.goto X0.here hx rfl (pc0 := 85) (pc' := 96) rfl (hb hby at_85) (by decide) (by decide)) ?_
        show own_Fin p e below _ (s₁.setTop (mkF m 96 #[.val (.int p1), .val (.int p2), .val (.int p3), .val (.int p4), .val (.int p5), .val (.int p6), .val (.int bR), .val (.int (((p2.toUInt32 >>> ((2 : Int32) &&& 31).toUInt32).toInt32) &&& (3 : Int32))), .val (.int rr), .val (.int tT), .val (.int kk), .unset, .unset, .unset, .unset, .unset, .unset, .unset, .unset] [(.int (0 : Int32))]))
        refine own_on (fun tq => XS.istore X0.here hx rfl (hb hby at_96) rfl (l' := #[.val (.int p1), .val (.int p2), .val (.int p3), .val (.int p4), .val (.int p5), .val (.int p6), .val (.int bR), .val (.int (((p2.toUInt32 >>> ((2 : Int32) &&& 31).toUInt32).toInt32) &&& (3 : Int32))), .val (.int rr), .val (.int tT), .val (.int kk), .val (.int (0 : Int32)), .unset, .unset, .unset, .unset, .unset, .unset, .unset]) rfl) ?_
        show own_Fin p e below _ (s₁.setTop (mkF m 98 #[.val (.int p1), .val (.int p2), .val (.int p3), .val (.int p4), .val (.int p5), .val (.int p6), .val (.int bR), .val (.int (((p2.toUInt32 >>> ((2 : Int32) &&& 31).toUInt32).toInt32) &&& (3 : Int32))), .val (.int rr), .val (.int tT), .val (.int kk), .val (.int (0 : Int32)), .unset, .unset, .unset, .unset, .unset, .unset, .unset] []))
        refine own_on (fun tq => XS.iload X0.here hx rfl (hb hby at_98) rfl) ?_
        show own_Fin p e below _ (s₁.setTop (mkF m 100 #[.val (.int p1), .val (.int p2), .val (.int p3), .val (.int p4), .val (.int p5), .val (.int p6), .val (.int bR), .val (.int (((p2.toUInt32 >>> ((2 : Int32) &&& 31).toUInt32).toInt32) &&& (3 : Int32))), .val (.int rr), .val (.int tT), .val (.int kk), .val (.int (0 : Int32)), .unset, .unset, .unset, .unset, .unset, .unset, .unset] [(.int bR)]))
        refine own_on (fun tq => XS.ifNo X0.here hx rfl (hb hby at_100) rfl ((if0 _ _).trans (teq hc90).2)) ?_
        show own_Fin p e below _ (s₁.setTop (mkF m 103 #[.val (.int p1), .val (.int p2), .val (.int p3), .val (.int p4), .val (.int p5), .val (.int p6), .val (.int bR), .val (.int (((p2.toUInt32 >>> ((2 : Int32) &&& 31).toUInt32).toInt32) &&& (3 : Int32))), .val (.int rr), .val (.int tT), .val (.int kk), .val (.int (0 : Int32)), .unset, .unset, .unset, .unset, .unset, .unset, .unset] []))
        refine own_on (fun tq => XS.iload X0.here hx rfl (hb hby at_103) rfl) ?_
        show own_Fin p e below _ (s₁.setTop (mkF m 105 #[.val (.int p1), .val (.int p2), .val (.int p3), .val (.int p4), .val (.int p5), .val (.int p6), .val (.int bR), .val (.int (((p2.toUInt32 >>> ((2 : Int32) &&& 31).toUInt32).toInt32) &&& (3 : Int32))), .val (.int rr), .val (.int tT), .val (.int kk), .val (.int (0 : Int32)), .unset, .unset, .unset, .unset, .unset, .unset, .unset] [(.int p5)]))
        refine own_on (fun tq => X0.ldcInt hx hown (mvT hZ (hw _ (List.mem_of_getElem? (i := 1) rfl))) (g := (mkF m 105 #[.val (.int p1), .val (.int p2), .val (.int p3), .val (.int p4), .val (.int p5), .val (.int p6), .val (.int bR), .val (.int (((p2.toUInt32 >>> ((2 : Int32) &&& 31).toUInt32).toInt32) &&& (3 : Int32))), .val (.int rr), .val (.int tT), .val (.int kk), .val (.int (0 : Int32)), .unset, .unset, .unset, .unset, .unset, .unset, .unset] [(.int p5)])) rfl (hb hby at_105) tq) ?_
        show own_Fin p e below _ (s₁.setTop (mkF m 107 #[.val (.int p1), .val (.int p2), .val (.int p3), .val (.int p4), .val (.int p5), .val (.int p6), .val (.int bR), .val (.int (((p2.toUInt32 >>> ((2 : Int32) &&& 31).toUInt32).toInt32) &&& (3 : Int32))), .val (.int rr), .val (.int tT), .val (.int kk), .val (.int (0 : Int32)), .unset, .unset, .unset, .unset, .unset, .unset, .unset] [(.int (2147483647 : Int32)), (.int p5)]))
        refine own_on (fun tq => XS.iand X0.here hx rfl (hb hby at_107) rfl) ?_
        show own_Fin p e below _ (s₁.setTop (mkF m 108 #[.val (.int p1), .val (.int p2), .val (.int p3), .val (.int p4), .val (.int p5), .val (.int p6), .val (.int bR), .val (.int (((p2.toUInt32 >>> ((2 : Int32) &&& 31).toUInt32).toInt32) &&& (3 : Int32))), .val (.int rr), .val (.int tT), .val (.int kk), .val (.int (0 : Int32)), .unset, .unset, .unset, .unset, .unset, .unset, .unset] [(.int (p5 &&& (2147483647 : Int32)))]))
        refine own_on (fun tq => XS.goto X0.here hx rfl (pc0 := 108) (pc' := 119) rfl (hb hby at_108) (by decide) (by decide)) ?_
        show own_Fin p e below _ (s₁.setTop (mkF m 119 #[.val (.int p1), .val (.int p2), .val (.int p3), .val (.int p4), .val (.int p5), .val (.int p6), .val (.int bR), .val (.int (((p2.toUInt32 >>> ((2 : Int32) &&& 31).toUInt32).toInt32) &&& (3 : Int32))), .val (.int rr), .val (.int tT), .val (.int kk), .val (.int (0 : Int32)), .unset, .unset, .unset, .unset, .unset, .unset, .unset] [(.int (p5 &&& (2147483647 : Int32)))]))
        refine own_on (fun tq => XS.istore X0.here hx rfl (hb hby at_119) rfl (l' := #[.val (.int p1), .val (.int p2), .val (.int p3), .val (.int p4), .val (.int p5), .val (.int p6), .val (.int bR), .val (.int (((p2.toUInt32 >>> ((2 : Int32) &&& 31).toUInt32).toInt32) &&& (3 : Int32))), .val (.int rr), .val (.int tT), .val (.int kk), .val (.int (0 : Int32)), .val (.int (p5 &&& (2147483647 : Int32))), .unset, .unset, .unset, .unset, .unset, .unset]) rfl) ?_
        show own_Fin p e below _ (s₁.setTop (mkF m 121 #[.val (.int p1), .val (.int p2), .val (.int p3), .val (.int p4), .val (.int p5), .val (.int p6), .val (.int bR), .val (.int (((p2.toUInt32 >>> ((2 : Int32) &&& 31).toUInt32).toInt32) &&& (3 : Int32))), .val (.int rr), .val (.int tT), .val (.int kk), .val (.int (0 : Int32)), .val (.int (p5 &&& (2147483647 : Int32))), .unset, .unset, .unset, .unset, .unset, .unset] []))
        obtain ⟨bq, hbq⟩ : ∃ q : Int32, q = (p5 &&& (2147483647 : Int32)) := ⟨_, rfl⟩
        have b0 : 0 ≤ bq.toInt := hbq ▸ own_m31 p5
        rw [← hbq]
        show own_Fin p e below _ (s₁.setTop (mkF m 121 #[.val (.int p1), .val (.int p2), .val (.int p3), .val (.int p4), .val (.int p5), .val (.int p6), .val (.int bR), .val (.int (((p2.toUInt32 >>> ((2 : Int32) &&& 31).toUInt32).toInt32) &&& (3 : Int32))), .val (.int rr), .val (.int tT), .val (.int kk), .val (.int (0 : Int32)), .val (.int bq), .unset, .unset, .unset, .unset, .unset, .unset] []))
        obtain ⟨T91, h91, X91, e91, E91, A91, D91, -, st91⟩ := newO X0 hx hZ hown (hw _ (List.mem_of_getElem? (i := 2) rfl)) (hw _ (List.mem_of_getElem? (i := 3) rfl)) (hw _ (List.mem_of_getElem? (i := 4) rfl)) e0 (g := (mkF m 121 #[.val (.int p1), .val (.int p2), .val (.int p3), .val (.int p4), .val (.int p5), .val (.int p6), .val (.int bR), .val (.int (((p2.toUInt32 >>> ((2 : Int32) &&& 31).toUInt32).toInt32) &&& (3 : Int32))), .val (.int rr), .val (.int tT), .val (.int kk), .val (.int (0 : Int32)), .val (.int bq), .unset, .unset, .unset, .unset, .unset, .unset] [])) rfl (hb hby at_121) (by decide) (by decide)
        obtain ⟨b91, g91⟩ : ∃ z, z = h0.size := ⟨_, rfl⟩
        rw [← g91] at A91 D91 st91
        have y92 := (CHv.ext E91 CH0)
        have y93 := (CHr.trans (CHr.refl CH0) (CHr.ext E91 CH0))
        have y94 := (Nat.le_trans (Nat.zero_le _) E91.1)
        have y95 := (Nat.le_trans Z0 E91.1)
        have y96 := (Safe.ext E91 CH0 (Safe.new (Nat.le_of_eq g91.symm)))
        have gn91 : n0 ≤ b91 := Nat.le_trans Z0 (Nat.le_of_eq g91.symm)
        have F91_rate : Fld Z h91 b91 "com/example/curves_to_bounds/curvestobounds/curve/RateLatency" "rate" "D" (.double (0 : UInt64)) := D91 (Or.inr (hw _ (List.mem_of_getElem? (i := 39) rfl))) (ty := .double) (by decide)
        have F91_latency : Fld Z h91 b91 "com/example/curves_to_bounds/curvestobounds/curve/RateLatency" "latency" "D" (.double (0 : UInt64)) := D91 (Or.inr (hw _ (List.mem_of_getElem? (i := 41) rfl))) (ty := .double) (by decide)
        refine own_on st91 ?_
        show own_Fin p e below _ (T91.setTop (mkF m 124 #[.val (.int p1), .val (.int p2), .val (.int p3), .val (.int p4), .val (.int p5), .val (.int p6), .val (.int bR), .val (.int (((p2.toUInt32 >>> ((2 : Int32) &&& 31).toUInt32).toInt32) &&& (3 : Int32))), .val (.int rr), .val (.int tT), .val (.int kk), .val (.int (0 : Int32)), .val (.int bq), .unset, .unset, .unset, .unset, .unset, .unset] [(.ref b91)]))
        refine own_on (fun tq => XS.dup X91.here hx rfl (hb hby at_124) rfl rfl) ?_
        show own_Fin p e below _ (T91.setTop (mkF m 125 #[.val (.int p1), .val (.int p2), .val (.int p3), .val (.int p4), .val (.int p5), .val (.int p6), .val (.int bR), .val (.int (((p2.toUInt32 >>> ((2 : Int32) &&& 31).toUInt32).toInt32) &&& (3 : Int32))), .val (.int rr), .val (.int tT), .val (.int kk), .val (.int (0 : Int32)), .val (.int bq), .unset, .unset, .unset, .unset, .unset, .unset] [(.ref b91), (.ref b91)]))
        refine own_on (fun tq => XS.iload X91.here hx rfl (hb hby at_125) rfl) ?_
        show own_Fin p e below _ (T91.setTop (mkF m 127 #[.val (.int p1), .val (.int p2), .val (.int p3), .val (.int p4), .val (.int p5), .val (.int p6), .val (.int bR), .val (.int (((p2.toUInt32 >>> ((2 : Int32) &&& 31).toUInt32).toInt32) &&& (3 : Int32))), .val (.int rr), .val (.int tT), .val (.int kk), .val (.int (0 : Int32)), .val (.int bq), .unset, .unset, .unset, .unset, .unset, .unset] [(.int bR), (.ref b91), (.ref b91)]))
        refine own_on (fun tq => XS.i2dS X91.here hx rfl (hb hby at_127) rfl (i2d_w _)) ?_
        show own_Fin p e below _ (T91.setTop (mkF m 128 #[.val (.int p1), .val (.int p2), .val (.int p3), .val (.int p4), .val (.int p5), .val (.int p6), .val (.int bR), .val (.int (((p2.toUInt32 >>> ((2 : Int32) &&& 31).toUInt32).toInt32) &&& (3 : Int32))), .val (.int rr), .val (.int tT), .val (.int kk), .val (.int (0 : Int32)), .val (.int bq), .unset, .unset, .unset, .unset, .unset, .unset] [(.double (FP.l2d bR.toInt64)), (.ref b91), (.ref b91)]))
        refine own_on (fun tq => XS.iload X91.here hx rfl (hb hby at_128) rfl) ?_
        show own_Fin p e below _ (T91.setTop (mkF m 130 #[.val (.int p1), .val (.int p2), .val (.int p3), .val (.int p4), .val (.int p5), .val (.int p6), .val (.int bR), .val (.int (((p2.toUInt32 >>> ((2 : Int32) &&& 31).toUInt32).toInt32) &&& (3 : Int32))), .val (.int rr), .val (.int tT), .val (.int kk), .val (.int (0 : Int32)), .val (.int bq), .unset, .unset, .unset, .unset, .unset, .unset] [(.int tT), (.double (FP.l2d bR.toInt64)), (.ref b91), (.ref b91)]))
        refine own_on (fun tq => XS.i2dS X91.here hx rfl (hb hby at_130) rfl (i2d_w _)) ?_
        show own_Fin p e below _ (T91.setTop (mkF m 131 #[.val (.int p1), .val (.int p2), .val (.int p3), .val (.int p4), .val (.int p5), .val (.int p6), .val (.int bR), .val (.int (((p2.toUInt32 >>> ((2 : Int32) &&& 31).toUInt32).toInt32) &&& (3 : Int32))), .val (.int rr), .val (.int tT), .val (.int kk), .val (.int (0 : Int32)), .val (.int bq), .unset, .unset, .unset, .unset, .unset, .unset] [(.double (FP.l2d tT.toInt64)), (.double (FP.l2d bR.toInt64)), (.ref b91), (.ref b91)]))
        obtain ⟨_, _, ⟨T97, L97, k97, n97⟩, -, X97', S97', gr97, ⟨Lc97, hQ97, l97, y97, z97, A97⟩, st97⟩ := X91.specialBackS hx (y := (⟨"com/example/curves_to_bounds/curvestobounds/curve/RateLatency", "<init>", "(DD)V"⟩ : MethodName)) rfl hown (mvT hZ (hw _ (List.mem_of_getElem? (i := 5) rfl))) (mvT hZ (hw _ (List.mem_of_getElem? (i := 6) rfl))) (mvT hZ (hw _ (List.mem_of_getElem? (i := 7) rfl))) (by decide) (backOfSH (s := s) (W := 1) (rm1 l Z a0 hw [] b91 (FP.l2d bR.toInt64) (FP.l2d tT.toInt64) h91 n0 (by exact y95) hEL (own_okI rR.1) (own_okI rT.1) A91 F91_rate F91_latency gn91) hZ (hw _ (List.mem_of_getElem? (i := 7) rfl)) (hw _ (List.mem_of_getElem? (i := 4) rfl)) (by decide) (by decide) hEL y92) (g := (mkF m 131 #[.val (.int p1), .val (.int p2), .val (.int p3), .val (.int p4), .val (.int p5), .val (.int p6), .val (.int bR), .val (.int (((p2.toUInt32 >>> ((2 : Int32) &&& 31).toUInt32).toInt32) &&& (3 : Int32))), .val (.int rr), .val (.int tT), .val (.int kk), .val (.int (0 : Int32)), .val (.int bq), .unset, .unset, .unset, .unset, .unset, .unset] [(.double (FP.l2d tT.toInt64)), (.double (FP.l2d bR.toInt64)), (.ref b91), (.ref b91)])) rfl (by rw [hml]; rfl) (Steps.refl _) (a := b91) (argsL := [(.double (FP.l2d bR.toInt64)), (.double (FP.l2d tT.toInt64))]) (rest := [(.ref b91)]) (lenOf pd_5 rfl) rfl (by show 2 * 0 + _ ≤ _; exact Nat.le_of_eq rfl) (hb hby at_131) (fun _ _ => ⟨rfl, e91, (by decide : 1 + 4 ≤ _), (by decide : 2 + 52 ≤ _)⟩)
        dsimp only [Pt.U, Pt.locs, Pt.cells, Pt.slots] at X97' S97' gr97 l97 y97 z97 st97 hQ97 A97
        subst l97 y97 z97
        obtain ⟨X97, hS97, hZ97, hown97⟩ := rebS hS0 (by first | exact y94 | (rw [e91]; exact y94)) X97' S97' gr97 hZ hown
        obtain ⟨rfl, N97q, K97, E97q, F97a, F97b⟩ := hQ97
        have N97 := Fr.app N0 N97q
        have y98 := (CHr.trans y93 A97)
        have y99 := (Nat.le_refl (Array.size T97.heap))
        have y100 := (Nat.le_trans y95 K97.1)
        have y101 := (CHr.safe A97 F91_latency.lt y96)
        have y102 := (A91.keep K97)
        refine own_via st97 ?_
        show own_Fin p e below _ (T97.setTop (mkF m 134 #[.val (.int p1), .val (.int p2), .val (.int p3), .val (.int p4), .val (.int p5), .val (.int p6), .val (.int bR), .val (.int (((p2.toUInt32 >>> ((2 : Int32) &&& 31).toUInt32).toInt32) &&& (3 : Int32))), .val (.int rr), .val (.int tT), .val (.int kk), .val (.int (0 : Int32)), .val (.int bq), .unset, .unset, .unset, .unset, .unset, .unset] [(.ref b91)]))
        refine own_on (fun tq => XS.astore X97.here hx rfl (hb hby at_134) rfl rfl (l' := #[.val (.int p1), .val (.int p2), .val (.int p3), .val (.int p4), .val (.int p5), .val (.int p6), .val (.int bR), .val (.int (((p2.toUInt32 >>> ((2 : Int32) &&& 31).toUInt32).toInt32) &&& (3 : Int32))), .val (.int rr), .val (.int tT), .val (.int kk), .val (.int (0 : Int32)), .val (.int bq), .val (.ref b91), .unset, .unset, .unset, .unset, .unset]) rfl) ?_
        show own_Fin p e below _ (T97.setTop (mkF m 136 #[.val (.int p1), .val (.int p2), .val (.int p3), .val (.int p4), .val (.int p5), .val (.int p6), .val (.int bR), .val (.int (((p2.toUInt32 >>> ((2 : Int32) &&& 31).toUInt32).toInt32) &&& (3 : Int32))), .val (.int rr), .val (.int tT), .val (.int kk), .val (.int (0 : Int32)), .val (.int bq), .val (.ref b91), .unset, .unset, .unset, .unset, .unset] []))
        obtain ⟨T103, h103, X103, e103, E103, A103, D103, -, st103⟩ := newO X97 hx hZ97 hown97 (hw _ (List.mem_of_getElem? (i := 42) rfl)) (hw _ (List.mem_of_getElem? (i := 43) rfl)) (hw _ (List.mem_of_getElem? (i := 44) rfl)) rfl (g := (mkF m 136 #[.val (.int p1), .val (.int p2), .val (.int p3), .val (.int p4), .val (.int p5), .val (.int p6), .val (.int bR), .val (.int (((p2.toUInt32 >>> ((2 : Int32) &&& 31).toUInt32).toInt32) &&& (3 : Int32))), .val (.int rr), .val (.int tT), .val (.int kk), .val (.int (0 : Int32)), .val (.int bq), .val (.ref b91), .unset, .unset, .unset, .unset, .unset] [])) rfl (hb hby at_136) (by decide) (by decide)
        obtain ⟨b103, g103⟩ : ∃ z, z = T97.heap.size := ⟨_, rfl⟩
        rw [← g103] at A103 D103 st103
        have ne103_b91 : b91 ≠ b103 := own_ne_of (Z := Z) E97q.lt g103
        have y104 := (CHv.ext E103 A97.1)
        have y105 := (CHr.trans y98 (CHr.ext E103 A97.1))
        have y106 := (Nat.le_trans y99 E103.1)
        have y107 := (Nat.le_trans y100 E103.1)
        have y108 := (Safe.ext E103 A97.1 y101)
        have y109 := (E97q.ext E103)
        have y110 := (F97a.ext E103)
        have y111 := (F97b.ext E103)
        have y112 := (Safe.ext E103 A97.1 (Safe.new (Nat.le_of_eq g103.symm)))
        have gn103 : n0 ≤ b103 := Nat.le_trans y100 (Nat.le_of_eq g103.symm)
        have F103_rate : Fld Z h103 b103 "com/example/curves_to_bounds/curvestobounds/curve/TokenBucket" "rate" "D" (.double (0 : UInt64)) := D103 (Or.inr (hw _ (List.mem_of_getElem? (i := 53) rfl))) (ty := .double) (by decide)
        have F103_burst : Fld Z h103 b103 "com/example/curves_to_bounds/curvestobounds/curve/TokenBucket" "burst" "D" (.double (0 : UInt64)) := D103 (Or.inr (hw _ (List.mem_of_getElem? (i := 55) rfl))) (ty := .double) (by decide)
        refine own_on st103 ?_
        show own_Fin p e below _ (T103.setTop (mkF m 139 #[.val (.int p1), .val (.int p2), .val (.int p3), .val (.int p4), .val (.int p5), .val (.int p6), .val (.int bR), .val (.int (((p2.toUInt32 >>> ((2 : Int32) &&& 31).toUInt32).toInt32) &&& (3 : Int32))), .val (.int rr), .val (.int tT), .val (.int kk), .val (.int (0 : Int32)), .val (.int bq), .val (.ref b91), .unset, .unset, .unset, .unset, .unset] [(.ref b103)]))
        refine own_on (fun tq => XS.dup X103.here hx rfl (hb hby at_139) rfl rfl) ?_
        show own_Fin p e below _ (T103.setTop (mkF m 140 #[.val (.int p1), .val (.int p2), .val (.int p3), .val (.int p4), .val (.int p5), .val (.int p6), .val (.int bR), .val (.int (((p2.toUInt32 >>> ((2 : Int32) &&& 31).toUInt32).toInt32) &&& (3 : Int32))), .val (.int rr), .val (.int tT), .val (.int kk), .val (.int (0 : Int32)), .val (.int bq), .val (.ref b91), .unset, .unset, .unset, .unset, .unset] [(.ref b103), (.ref b103)]))
        refine own_on (fun tq => XS.iload X103.here hx rfl (hb hby at_140) rfl) ?_
        show own_Fin p e below _ (T103.setTop (mkF m 142 #[.val (.int p1), .val (.int p2), .val (.int p3), .val (.int p4), .val (.int p5), .val (.int p6), .val (.int bR), .val (.int (((p2.toUInt32 >>> ((2 : Int32) &&& 31).toUInt32).toInt32) &&& (3 : Int32))), .val (.int rr), .val (.int tT), .val (.int kk), .val (.int (0 : Int32)), .val (.int bq), .val (.ref b91), .unset, .unset, .unset, .unset, .unset] [(.int rr), (.ref b103), (.ref b103)]))
        refine own_on (fun tq => XS.i2dS X103.here hx rfl (hb hby at_142) rfl (i2d_w _)) ?_
        show own_Fin p e below _ (T103.setTop (mkF m 143 #[.val (.int p1), .val (.int p2), .val (.int p3), .val (.int p4), .val (.int p5), .val (.int p6), .val (.int bR), .val (.int (((p2.toUInt32 >>> ((2 : Int32) &&& 31).toUInt32).toInt32) &&& (3 : Int32))), .val (.int rr), .val (.int tT), .val (.int kk), .val (.int (0 : Int32)), .val (.int bq), .val (.ref b91), .unset, .unset, .unset, .unset, .unset] [(.double (FP.l2d rr.toInt64)), (.ref b103), (.ref b103)]))
        refine own_on (fun tq => XS.iload X103.here hx rfl (hb hby at_143) rfl) ?_
        show own_Fin p e below _ (T103.setTop (mkF m 145 #[.val (.int p1), .val (.int p2), .val (.int p3), .val (.int p4), .val (.int p5), .val (.int p6), .val (.int bR), .val (.int (((p2.toUInt32 >>> ((2 : Int32) &&& 31).toUInt32).toInt32) &&& (3 : Int32))), .val (.int rr), .val (.int tT), .val (.int kk), .val (.int (0 : Int32)), .val (.int bq), .val (.ref b91), .unset, .unset, .unset, .unset, .unset] [(.int bq), (.double (FP.l2d rr.toInt64)), (.ref b103), (.ref b103)]))
        refine own_on (fun tq => XS.i2dS X103.here hx rfl (hb hby at_145) rfl (i2d_w _)) ?_
        show own_Fin p e below _ (T103.setTop (mkF m 146 #[.val (.int p1), .val (.int p2), .val (.int p3), .val (.int p4), .val (.int p5), .val (.int p6), .val (.int bR), .val (.int (((p2.toUInt32 >>> ((2 : Int32) &&& 31).toUInt32).toInt32) &&& (3 : Int32))), .val (.int rr), .val (.int tT), .val (.int kk), .val (.int (0 : Int32)), .val (.int bq), .val (.ref b91), .unset, .unset, .unset, .unset, .unset] [(.double (FP.l2d bq.toInt64)), (.double (FP.l2d rr.toInt64)), (.ref b103), (.ref b103)]))
        obtain ⟨_, _, ⟨T113, L113, k113, n113⟩, -, X113', S113', gr113, ⟨Lc113, hQ113, l113, y113, z113, A113⟩, st113⟩ := X103.specialBackS hx (y := (⟨"com/example/curves_to_bounds/curvestobounds/curve/TokenBucket", "<init>", "(DD)V"⟩ : MethodName)) rfl hown97 (mvT hZ97 (hw _ (List.mem_of_getElem? (i := 45) rfl))) (mvT hZ97 (hw _ (List.mem_of_getElem? (i := 46) rfl))) (mvT hZ97 (hw _ (List.mem_of_getElem? (i := 47) rfl))) (by decide) (backOfSH (s := s) (W := 1) (rm7 l Z a0 hw [] b103 (FP.l2d rr.toInt64) (FP.l2d bq.toInt64) h103 n0 (by exact y107) hEL (own_okI r0) (own_okI b0) A103 F103_rate F103_burst gn103) hZ97 (hw _ (List.mem_of_getElem? (i := 47) rfl)) (hw _ (List.mem_of_getElem? (i := 44) rfl)) (by decide) (by decide) hEL y104) (g := (mkF m 146 #[.val (.int p1), .val (.int p2), .val (.int p3), .val (.int p4), .val (.int p5), .val (.int p6), .val (.int bR), .val (.int (((p2.toUInt32 >>> ((2 : Int32) &&& 31).toUInt32).toInt32) &&& (3 : Int32))), .val (.int rr), .val (.int tT), .val (.int kk), .val (.int (0 : Int32)), .val (.int bq), .val (.ref b91), .unset, .unset, .unset, .unset, .unset] [(.double (FP.l2d bq.toInt64)), (.double (FP.l2d rr.toInt64)), (.ref b103), (.ref b103)])) rfl (by rw [hml]; rfl) (Steps.refl _) (a := b103) (argsL := [(.double (FP.l2d rr.toInt64)), (.double (FP.l2d bq.toInt64))]) (rest := [(.ref b103)]) (lenOf pd_5 rfl) rfl (by show 2 * 0 + _ ≤ _; exact Nat.le_of_eq rfl) (hb hby at_146) (fun _ _ => ⟨rfl, e103, (by decide : 6 + 4 ≤ _), (by decide : 56 + 44 ≤ _)⟩)
        dsimp only [Pt.U, Pt.locs, Pt.cells, Pt.slots] at X113' S113' gr113 l113 y113 z113 st113 hQ113 A113
        subst l113 y113 z113
        obtain ⟨X113, hS113, hZ113, hown113⟩ := rebS hS97 (by first | exact y106 | (rw [e103]; exact y106)) X113' S113' gr113 hZ97 hown97
        obtain ⟨rfl, N113q, K113, E113q, F113a, F113b⟩ := hQ113
        have N113 := Fr.app N97 N113q
        have y114 := (CHr.trans y105 A113)
        have y115 := (Nat.le_refl (Array.size T113.heap))
        have y116 := (Nat.le_trans y107 K113.1)
        have y117 := (CHr.safe A113 y111.lt y108)
        have y118 := (y109.keep K113)
        have y119 := (y110.keep K113 (ninS ne103_b91 nin0))
        have y120 := (y111.keep K113 (ninS ne103_b91 nin0))
        have y121 := (CHr.safe A113 F103_burst.lt y112)
        have y122 := (A103.keep K113)
        refine own_via st113 ?_
        show own_Fin p e below _ (T113.setTop (mkF m 149 #[.val (.int p1), .val (.int p2), .val (.int p3), .val (.int p4), .val (.int p5), .val (.int p6), .val (.int bR), .val (.int (((p2.toUInt32 >>> ((2 : Int32) &&& 31).toUInt32).toInt32) &&& (3 : Int32))), .val (.int rr), .val (.int tT), .val (.int kk), .val (.int (0 : Int32)), .val (.int bq), .val (.ref b91), .unset, .unset, .unset, .unset, .unset] [(.ref b103)]))
        refine own_on (fun tq => XS.astore X113.here hx rfl (hb hby at_149) rfl rfl (l' := #[.val (.int p1), .val (.int p2), .val (.int p3), .val (.int p4), .val (.int p5), .val (.int p6), .val (.int bR), .val (.int (((p2.toUInt32 >>> ((2 : Int32) &&& 31).toUInt32).toInt32) &&& (3 : Int32))), .val (.int rr), .val (.int tT), .val (.int kk), .val (.int (0 : Int32)), .val (.int bq), .val (.ref b91), .val (.ref b103), .unset, .unset, .unset, .unset]) rfl) ?_
        show own_Fin p e below _ (T113.setTop (mkF m 151 #[.val (.int p1), .val (.int p2), .val (.int p3), .val (.int p4), .val (.int p5), .val (.int p6), .val (.int bR), .val (.int (((p2.toUInt32 >>> ((2 : Int32) &&& 31).toUInt32).toInt32) &&& (3 : Int32))), .val (.int rr), .val (.int tT), .val (.int kk), .val (.int (0 : Int32)), .val (.int bq), .val (.ref b91), .val (.ref b103), .unset, .unset, .unset, .unset] []))
        refine own_on (fun tq => XS.aload X113.here hx rfl (hb hby at_151) rfl rfl) ?_
        show own_Fin p e below _ (T113.setTop (mkF m 153 #[.val (.int p1), .val (.int p2), .val (.int p3), .val (.int p4), .val (.int p5), .val (.int p6), .val (.int bR), .val (.int (((p2.toUInt32 >>> ((2 : Int32) &&& 31).toUInt32).toInt32) &&& (3 : Int32))), .val (.int rr), .val (.int tT), .val (.int kk), .val (.int (0 : Int32)), .val (.int bq), .val (.ref b91), .val (.ref b103), .unset, .unset, .unset, .unset] [(.ref b91)]))
        refine own_on (fun tq => XS.aload X113.here hx rfl (hb hby at_153) rfl rfl) ?_
        show own_Fin p e below _ (T113.setTop (mkF m 155 #[.val (.int p1), .val (.int p2), .val (.int p3), .val (.int p4), .val (.int p5), .val (.int p6), .val (.int bR), .val (.int (((p2.toUInt32 >>> ((2 : Int32) &&& 31).toUInt32).toInt32) &&& (3 : Int32))), .val (.int rr), .val (.int tT), .val (.int kk), .val (.int (0 : Int32)), .val (.int bq), .val (.ref b91), .val (.ref b103), .unset, .unset, .unset, .unset] [(.ref b103), (.ref b91)]))
        obtain ⟨cq123, kq123, q123a, q123b, q123c⟩ := isOf hZ113 rfl y118
        obtain ⟨_, _, ⟨T123, L123, k123, n123⟩, -, X123, ⟨Lc123, hQ123, l123, y123, z123⟩, st123⟩ := X113.virtualBack hx (y := (⟨"com/example/curves_to_bounds/curvestobounds/curve/RateLatency", "delayBound", "(Lcom/example/curves_to_bounds/curvestobounds/curve/TokenBucket;)D"⟩ : MethodName)) (z := (⟨"com/example/curves_to_bounds/curvestobounds/curve/RateLatency", "delayBound", "(Lcom/example/curves_to_bounds/curvestobounds/curve/TokenBucket;)D"⟩ : MethodName)) hown113 (mvT hZ113 (hw _ (List.mem_of_getElem? (i := 56) rfl))) (mvT hZ113 (hw _ (List.mem_of_getElem? (i := 57) rfl))) (notFace_of_selects (args := #[]) (mvT hZ113 (hw _ (List.mem_of_getElem? (i := 59) rfl)))) (mvT hZ113 (hw _ (List.mem_of_getElem? (i := 59) rfl))) (mvT hZ113 (hw _ (List.mem_of_getElem? (i := 58) rfl))) (by decide) (backOf (W := 0) (rm8 l Z a0 hw [] b91 b103 (bR.toInt64) (tT.toInt64) (rr.toInt64) (bq.toInt64) T113.heap n0 (by exact y116) y119 y120 F113a F113b E113q (own_b32 _) (own_b32 _) (fun q_ => absurd (own_z0 hc90) q_)) hZ113 (hw _ (List.mem_of_getElem? (i := 60) rfl)) (hw _ (List.mem_of_getElem? (i := 4) rfl)) (by decide) (by decide)) q123a q123c (g := (mkF m 155 #[.val (.int p1), .val (.int p2), .val (.int p3), .val (.int p4), .val (.int p5), .val (.int p6), .val (.int bR), .val (.int (((p2.toUInt32 >>> ((2 : Int32) &&& 31).toUInt32).toInt32) &&& (3 : Int32))), .val (.int rr), .val (.int tT), .val (.int kk), .val (.int (0 : Int32)), .val (.int bq), .val (.ref b91), .val (.ref b103), .unset, .unset, .unset, .unset] [(.ref b103), (.ref b91)])) rfl (by rw [hml]; rfl) (Steps.refl _) (argsL := [(.ref b103)]) (rest := []) (lenOf pd_6 rfl) rfl (by show 2 * 0 + _ ≤ _; exact Nat.le_of_eq rfl) (hb hby at_155) (fun _ _ => ⟨rfl, rfl, (by decide : 10 + 0 ≤ _), (by decide : 100 + 0 ≤ _)⟩)
        dsimp only [Pt.U, Pt.locs, Pt.cells, Pt.slots] at X123 l123 y123 z123 st123 hQ123
        subst l123 y123 z123
        obtain ⟨rfl, N123q, e123⟩ := hQ123
        have N123 := Fr.app N113 N123q
        refine own_via st123 ?_
        show own_Fin p e below _ (T123.setTop (mkF m 158 #[.val (.int p1), .val (.int p2), .val (.int p3), .val (.int p4), .val (.int p5), .val (.int p6), .val (.int bR), .val (.int (((p2.toUInt32 >>> ((2 : Int32) &&& 31).toUInt32).toInt32) &&& (3 : Int32))), .val (.int rr), .val (.int tT), .val (.int kk), .val (.int (0 : Int32)), .val (.int bq), .val (.ref b91), .val (.ref b103), .unset, .unset, .unset, .unset] [(.double (if bR.toInt64 = 0 ∨ bR.toInt64 < rr.toInt64 then (9218868437227405312 : UInt64) else FP.dadd (FP.l2d tT.toInt64) (FP.ddiv (FP.l2d bq.toInt64) (FP.l2d bR.toInt64))))]))
        obtain ⟨bd, hbd⟩ : ∃ q : UInt64, q = (if bR.toInt64 = 0 ∨ bR.toInt64 < rr.toInt64 then (9218868437227405312 : UInt64) else FP.dadd (FP.l2d tT.toInt64) (FP.ddiv (FP.l2d bq.toInt64) (FP.l2d bR.toInt64))) := ⟨_, rfl⟩
        rw [← hbd]
        show own_Fin p e below _ (T123.setTop (mkF m 158 #[.val (.int p1), .val (.int p2), .val (.int p3), .val (.int p4), .val (.int p5), .val (.int p6), .val (.int bR), .val (.int (((p2.toUInt32 >>> ((2 : Int32) &&& 31).toUInt32).toInt32) &&& (3 : Int32))), .val (.int rr), .val (.int tT), .val (.int kk), .val (.int (0 : Int32)), .val (.int bq), .val (.ref b91), .val (.ref b103), .unset, .unset, .unset, .unset] [(.double bd)]))
        refine own_on (fun tq => XS.dstore X123.here hx rfl (hb hby at_158) rfl (l' := #[.val (.int p1), .val (.int p2), .val (.int p3), .val (.int p4), .val (.int p5), .val (.int p6), .val (.int bR), .val (.int (((p2.toUInt32 >>> ((2 : Int32) &&& 31).toUInt32).toInt32) &&& (3 : Int32))), .val (.int rr), .val (.int tT), .val (.int kk), .val (.int (0 : Int32)), .val (.int bq), .val (.ref b91), .val (.ref b103), .val (.double bd), .second, .unset, .unset]) rfl) ?_
        show own_Fin p e below _ (T123.setTop (mkF m 160 #[.val (.int p1), .val (.int p2), .val (.int p3), .val (.int p4), .val (.int p5), .val (.int p6), .val (.int bR), .val (.int (((p2.toUInt32 >>> ((2 : Int32) &&& 31).toUInt32).toInt32) &&& (3 : Int32))), .val (.int rr), .val (.int tT), .val (.int kk), .val (.int (0 : Int32)), .val (.int bq), .val (.ref b91), .val (.ref b103), .val (.double bd), .second, .unset, .unset] []))
        refine own_on (fun tq => XS.iload X123.here hx rfl (hb hby at_160) rfl) ?_
        show own_Fin p e below _ (T123.setTop (mkF m 162 #[.val (.int p1), .val (.int p2), .val (.int p3), .val (.int p4), .val (.int p5), .val (.int p6), .val (.int bR), .val (.int (((p2.toUInt32 >>> ((2 : Int32) &&& 31).toUInt32).toInt32) &&& (3 : Int32))), .val (.int rr), .val (.int tT), .val (.int kk), .val (.int (0 : Int32)), .val (.int bq), .val (.ref b91), .val (.ref b103), .val (.double bd), .second, .unset, .unset] [(.int bR)]))
        refine own_on (fun tq => XS.ifYes X123.here hx rfl (pc0 := 162) (pc' := 172) rfl (hb hby at_162) rfl ((if0 _ _).trans (teq hc90).1) (by decide) (by decide)) ?_
        show own_Fin p e below _ (T123.setTop (mkF m 172 #[.val (.int p1), .val (.int p2), .val (.int p3), .val (.int p4), .val (.int p5), .val (.int p6), .val (.int bR), .val (.int (((p2.toUInt32 >>> ((2 : Int32) &&& 31).toUInt32).toInt32) &&& (3 : Int32))), .val (.int rr), .val (.int tT), .val (.int kk), .val (.int (0 : Int32)), .val (.int bq), .val (.ref b91), .val (.ref b103), .val (.double bd), .second, .unset, .unset] []))
        refine own_on (fun tq => XS.dload X123.here hx rfl (hb hby at_172) rfl) ?_
        show own_Fin p e below _ (T123.setTop (mkF m 174 #[.val (.int p1), .val (.int p2), .val (.int p3), .val (.int p4), .val (.int p5), .val (.int p6), .val (.int bR), .val (.int (((p2.toUInt32 >>> ((2 : Int32) &&& 31).toUInt32).toInt32) &&& (3 : Int32))), .val (.int rr), .val (.int tT), .val (.int kk), .val (.int (0 : Int32)), .val (.int bq), .val (.ref b91), .val (.ref b103), .val (.double bd), .second, .unset, .unset] [(.double bd)]))
        refine own_on (fun tq => X123.ldc2DoubleC hx hown113 (mvT hZ113 (hw _ (List.mem_of_getElem? (i := 62) rfl))) (g := (mkF m 174 #[.val (.int p1), .val (.int p2), .val (.int p3), .val (.int p4), .val (.int p5), .val (.int p6), .val (.int bR), .val (.int (((p2.toUInt32 >>> ((2 : Int32) &&& 31).toUInt32).toInt32) &&& (3 : Int32))), .val (.int rr), .val (.int tT), .val (.int kk), .val (.int (0 : Int32)), .val (.int bq), .val (.ref b91), .val (.ref b103), .val (.double bd), .second, .unset, .unset] [(.double bd)])) rfl (hb hby at_174) tq) ?_
        show own_Fin p e below _ (T123.setTop (mkF m 177 #[.val (.int p1), .val (.int p2), .val (.int p3), .val (.int p4), .val (.int p5), .val (.int p6), .val (.int bR), .val (.int (((p2.toUInt32 >>> ((2 : Int32) &&& 31).toUInt32).toInt32) &&& (3 : Int32))), .val (.int rr), .val (.int tT), .val (.int kk), .val (.int (0 : Int32)), .val (.int bq), .val (.ref b91), .val (.ref b103), .val (.double bd), .second, .unset, .unset] [(.double (9218868437227405312 : UInt64)), (.double bd)]))
        refine own_on (fun tq => XS.dcmpS X123.here hx rfl (hb hby at_177) rfl (own_pinf (hbd.trans (if_pos (Or.inl (own_z0 hc90)))))) ?_
        show own_Fin p e below _ (T123.setTop (mkF m 178 #[.val (.int p1), .val (.int p2), .val (.int p3), .val (.int p4), .val (.int p5), .val (.int p6), .val (.int bR), .val (.int (((p2.toUInt32 >>> ((2 : Int32) &&& 31).toUInt32).toInt32) &&& (3 : Int32))), .val (.int rr), .val (.int tT), .val (.int kk), .val (.int (0 : Int32)), .val (.int bq), .val (.ref b91), .val (.ref b103), .val (.double bd), .second, .unset, .unset] [(.int (0 : Int32))]))
        refine own_on (fun tq => XS.ifNo X123.here hx rfl (hb hby at_178) rfl ((if0 _ _).trans (teq (by decide : (0 : Int32) = (0 : Int32))).2)) ?_
        show own_Fin p e below _ (T123.setTop (mkF m 181 #[.val (.int p1), .val (.int p2), .val (.int p3), .val (.int p4), .val (.int p5), .val (.int p6), .val (.int bR), .val (.int (((p2.toUInt32 >>> ((2 : Int32) &&& 31).toUInt32).toInt32) &&& (3 : Int32))), .val (.int rr), .val (.int tT), .val (.int kk), .val (.int (0 : Int32)), .val (.int bq), .val (.ref b91), .val (.ref b103), .val (.double bd), .second, .unset, .unset] []))
        refine own_on (fun tq => XS.iconst X123.here hx rfl (hb hby at_181)) ?_
        show own_Fin p e below _ (T123.setTop (mkF m 182 #[.val (.int p1), .val (.int p2), .val (.int p3), .val (.int p4), .val (.int p5), .val (.int p6), .val (.int bR), .val (.int (((p2.toUInt32 >>> ((2 : Int32) &&& 31).toUInt32).toInt32) &&& (3 : Int32))), .val (.int rr), .val (.int tT), .val (.int kk), .val (.int (0 : Int32)), .val (.int bq), .val (.ref b91), .val (.ref b103), .val (.double bd), .second, .unset, .unset] [(.int (1 : Int32))]))
        refine own_on (fun tq => XS.goto X123.here hx rfl (pc0 := 182) (pc' := 186) rfl (hb hby at_182) (by decide) (by decide)) ?_
        show own_Fin p e below _ (T123.setTop (mkF m 186 #[.val (.int p1), .val (.int p2), .val (.int p3), .val (.int p4), .val (.int p5), .val (.int p6), .val (.int bR), .val (.int (((p2.toUInt32 >>> ((2 : Int32) &&& 31).toUInt32).toInt32) &&& (3 : Int32))), .val (.int rr), .val (.int tT), .val (.int kk), .val (.int (0 : Int32)), .val (.int bq), .val (.ref b91), .val (.ref b103), .val (.double bd), .second, .unset, .unset] [(.int (1 : Int32))]))
        exact own_retW (t := .boolean) X123 (Z := Z) (EL := own_EL) (a0 := a0) hx hlk hret rfl (Or.inl ⟨rfl, (by simp), _, rfl⟩) (hb hby at_186) hS113 (by rw [e123]; exact y115) hZ113 hEL (by rw [hh, e123]; exact y114) (⟨rfl, N123⟩) (by decide) (by decide)
      · refine own_on (fun tq => XS.ifYes X0.here hx rfl (pc0 := 81) (pc' := 88) rfl (hb hby at_81) rfl ((if0 _ _).trans (feq hc90).2) (by decide) (by decide)) ?_
        show own_Fin p e below _ (s₁.setTop (mkF m 88 #[.val (.int p1), .val (.int p2), .val (.int p3), .val (.int p4), .val (.int p5), .val (.int p6), .val (.int bR), .val (.int (((p2.toUInt32 >>> ((2 : Int32) &&& 31).toUInt32).toInt32) &&& (3 : Int32))), .val (.int rr), .val (.int tT), .val (.int kk), .unset, .unset, .unset, .unset, .unset, .unset, .unset, .unset] []))
        refine own_on (fun tq => XS.iload X0.here hx rfl (hb hby at_88) rfl) ?_
        show own_Fin p e below _ (s₁.setTop (mkF m 90 #[.val (.int p1), .val (.int p2), .val (.int p3), .val (.int p4), .val (.int p5), .val (.int p6), .val (.int bR), .val (.int (((p2.toUInt32 >>> ((2 : Int32) &&& 31).toUInt32).toInt32) &&& (3 : Int32))), .val (.int rr), .val (.int tT), .val (.int kk), .unset, .unset, .unset, .unset, .unset, .unset, .unset, .unset] [(.int p6)]))
        refine own_on (fun tq => X0.ldcInt hx hown (mvT hZ (hw _ (List.mem_of_getElem? (i := 1) rfl))) (g := (mkF m 90 #[.val (.int p1), .val (.int p2), .val (.int p3), .val (.int p4), .val (.int p5), .val (.int p6), .val (.int bR), .val (.int (((p2.toUInt32 >>> ((2 : Int32) &&& 31).toUInt32).toInt32) &&& (3 : Int32))), .val (.int rr), .val (.int tT), .val (.int kk), .unset, .unset, .unset, .unset, .unset, .unset, .unset, .unset] [(.int p6)])) rfl (hb hby at_90) tq) ?_
        show own_Fin p e below _ (s₁.setTop (mkF m 92 #[.val (.int p1), .val (.int p2), .val (.int p3), .val (.int p4), .val (.int p5), .val (.int p6), .val (.int bR), .val (.int (((p2.toUInt32 >>> ((2 : Int32) &&& 31).toUInt32).toInt32) &&& (3 : Int32))), .val (.int rr), .val (.int tT), .val (.int kk), .unset, .unset, .unset, .unset, .unset, .unset, .unset, .unset] [(.int (2147483647 : Int32)), (.int p6)]))
        refine own_on (fun tq => XS.iand X0.here hx rfl (hb hby at_92) rfl) ?_
        show own_Fin p e below _ (s₁.setTop (mkF m 93 #[.val (.int p1), .val (.int p2), .val (.int p3), .val (.int p4), .val (.int p5), .val (.int p6), .val (.int bR), .val (.int (((p2.toUInt32 >>> ((2 : Int32) &&& 31).toUInt32).toInt32) &&& (3 : Int32))), .val (.int rr), .val (.int tT), .val (.int kk), .unset, .unset, .unset, .unset, .unset, .unset, .unset, .unset] [(.int (p6 &&& (2147483647 : Int32)))]))
        refine own_on (fun tq => XS.iload X0.here hx rfl (hb hby at_93) rfl) ?_
        show own_Fin p e below _ (s₁.setTop (mkF m 95 #[.val (.int p1), .val (.int p2), .val (.int p3), .val (.int p4), .val (.int p5), .val (.int p6), .val (.int bR), .val (.int (((p2.toUInt32 >>> ((2 : Int32) &&& 31).toUInt32).toInt32) &&& (3 : Int32))), .val (.int rr), .val (.int tT), .val (.int kk), .unset, .unset, .unset, .unset, .unset, .unset, .unset, .unset] [(.int bR), (.int (p6 &&& (2147483647 : Int32)))]))
        refine own_on (fun tq => iremM X0 hx rfl (hb hby at_95) rfl hc90) ?_
        show own_Fin p e below _ (s₁.setTop (mkF m 96 #[.val (.int p1), .val (.int p2), .val (.int p3), .val (.int p4), .val (.int p5), .val (.int p6), .val (.int bR), .val (.int (((p2.toUInt32 >>> ((2 : Int32) &&& 31).toUInt32).toInt32) &&& (3 : Int32))), .val (.int rr), .val (.int tT), .val (.int kk), .unset, .unset, .unset, .unset, .unset, .unset, .unset, .unset] [(.int ((p6 &&& (2147483647 : Int32)) % bR))]))
        refine own_on (fun tq => XS.istore X0.here hx rfl (hb hby at_96) rfl (l' := #[.val (.int p1), .val (.int p2), .val (.int p3), .val (.int p4), .val (.int p5), .val (.int p6), .val (.int bR), .val (.int (((p2.toUInt32 >>> ((2 : Int32) &&& 31).toUInt32).toInt32) &&& (3 : Int32))), .val (.int rr), .val (.int tT), .val (.int kk), .val (.int ((p6 &&& (2147483647 : Int32)) % bR)), .unset, .unset, .unset, .unset, .unset, .unset, .unset]) rfl) ?_
        show own_Fin p e below _ (s₁.setTop (mkF m 98 #[.val (.int p1), .val (.int p2), .val (.int p3), .val (.int p4), .val (.int p5), .val (.int p6), .val (.int bR), .val (.int (((p2.toUInt32 >>> ((2 : Int32) &&& 31).toUInt32).toInt32) &&& (3 : Int32))), .val (.int rr), .val (.int tT), .val (.int kk), .val (.int ((p6 &&& (2147483647 : Int32)) % bR)), .unset, .unset, .unset, .unset, .unset, .unset, .unset] []))
        obtain ⟨mq, hmq⟩ : ∃ q : Int32, q = ((p6 &&& (2147483647 : Int32)) % bR) := ⟨_, rfl⟩
        have rm : 0 ≤ mq.toInt ∧ mq.toInt < bR.toInt := hmq ▸ own_rm rR hc90
        rw [← hmq]
        show own_Fin p e below _ (s₁.setTop (mkF m 98 #[.val (.int p1), .val (.int p2), .val (.int p3), .val (.int p4), .val (.int p5), .val (.int p6), .val (.int bR), .val (.int (((p2.toUInt32 >>> ((2 : Int32) &&& 31).toUInt32).toInt32) &&& (3 : Int32))), .val (.int rr), .val (.int tT), .val (.int kk), .val (.int mq), .unset, .unset, .unset, .unset, .unset, .unset, .unset] []))
        refine own_on (fun tq => XS.iload X0.here hx rfl (hb hby at_98) rfl) ?_
        show own_Fin p e below _ (s₁.setTop (mkF m 100 #[.val (.int p1), .val (.int p2), .val (.int p3), .val (.int p4), .val (.int p5), .val (.int p6), .val (.int bR), .val (.int (((p2.toUInt32 >>> ((2 : Int32) &&& 31).toUInt32).toInt32) &&& (3 : Int32))), .val (.int rr), .val (.int tT), .val (.int kk), .val (.int mq), .unset, .unset, .unset, .unset, .unset, .unset, .unset] [(.int bR)]))
        refine own_on (fun tq => XS.ifYes X0.here hx rfl (pc0 := 100) (pc' := 111) rfl (hb hby at_100) rfl ((if0 _ _).trans (feq hc90).2) (by decide) (by decide)) ?_
        show own_Fin p e below _ (s₁.setTop (mkF m 111 #[.val (.int p1), .val (.int p2), .val (.int p3), .val (.int p4), .val (.int p5), .val (.int p6), .val (.int bR), .val (.int (((p2.toUInt32 >>> ((2 : Int32) &&& 31).toUInt32).toInt32) &&& (3 : Int32))), .val (.int rr), .val (.int tT), .val (.int kk), .val (.int mq), .unset, .unset, .unset, .unset, .unset, .unset, .unset] []))
        refine own_on (fun tq => XS.iload X0.here hx rfl (hb hby at_111) rfl) ?_
        show own_Fin p e below _ (s₁.setTop (mkF m 113 #[.val (.int p1), .val (.int p2), .val (.int p3), .val (.int p4), .val (.int p5), .val (.int p6), .val (.int bR), .val (.int (((p2.toUInt32 >>> ((2 : Int32) &&& 31).toUInt32).toInt32) &&& (3 : Int32))), .val (.int rr), .val (.int tT), .val (.int kk), .val (.int mq), .unset, .unset, .unset, .unset, .unset, .unset, .unset] [(.int bR)]))
        refine own_on (fun tq => XS.iload X0.here hx rfl (hb hby at_113) rfl) ?_
        show own_Fin p e below _ (s₁.setTop (mkF m 115 #[.val (.int p1), .val (.int p2), .val (.int p3), .val (.int p4), .val (.int p5), .val (.int p6), .val (.int bR), .val (.int (((p2.toUInt32 >>> ((2 : Int32) &&& 31).toUInt32).toInt32) &&& (3 : Int32))), .val (.int rr), .val (.int tT), .val (.int kk), .val (.int mq), .unset, .unset, .unset, .unset, .unset, .unset, .unset] [(.int kk), (.int bR)]))
        refine own_on (fun tq => XS.imul X0.here hx rfl (hb hby at_115) rfl) ?_
        show own_Fin p e below _ (s₁.setTop (mkF m 116 #[.val (.int p1), .val (.int p2), .val (.int p3), .val (.int p4), .val (.int p5), .val (.int p6), .val (.int bR), .val (.int (((p2.toUInt32 >>> ((2 : Int32) &&& 31).toUInt32).toInt32) &&& (3 : Int32))), .val (.int rr), .val (.int tT), .val (.int kk), .val (.int mq), .unset, .unset, .unset, .unset, .unset, .unset, .unset] [(.int (bR * kk))]))
        refine own_on (fun tq => XS.iload X0.here hx rfl (hb hby at_116) rfl) ?_
        show own_Fin p e below _ (s₁.setTop (mkF m 118 #[.val (.int p1), .val (.int p2), .val (.int p3), .val (.int p4), .val (.int p5), .val (.int p6), .val (.int bR), .val (.int (((p2.toUInt32 >>> ((2 : Int32) &&& 31).toUInt32).toInt32) &&& (3 : Int32))), .val (.int rr), .val (.int tT), .val (.int kk), .val (.int mq), .unset, .unset, .unset, .unset, .unset, .unset, .unset] [(.int mq), (.int (bR * kk))]))
        refine own_on (fun tq => XS.iadd X0.here hx rfl (hb hby at_118) rfl) ?_
        show own_Fin p e below _ (s₁.setTop (mkF m 119 #[.val (.int p1), .val (.int p2), .val (.int p3), .val (.int p4), .val (.int p5), .val (.int p6), .val (.int bR), .val (.int (((p2.toUInt32 >>> ((2 : Int32) &&& 31).toUInt32).toInt32) &&& (3 : Int32))), .val (.int rr), .val (.int tT), .val (.int kk), .val (.int mq), .unset, .unset, .unset, .unset, .unset, .unset, .unset] [(.int ((bR * kk) + mq))]))
        refine own_on (fun tq => XS.istore X0.here hx rfl (hb hby at_119) rfl (l' := #[.val (.int p1), .val (.int p2), .val (.int p3), .val (.int p4), .val (.int p5), .val (.int p6), .val (.int bR), .val (.int (((p2.toUInt32 >>> ((2 : Int32) &&& 31).toUInt32).toInt32) &&& (3 : Int32))), .val (.int rr), .val (.int tT), .val (.int kk), .val (.int mq), .val (.int ((bR * kk) + mq)), .unset, .unset, .unset, .unset, .unset, .unset]) rfl) ?_
        show own_Fin p e below _ (s₁.setTop (mkF m 121 #[.val (.int p1), .val (.int p2), .val (.int p3), .val (.int p4), .val (.int p5), .val (.int p6), .val (.int bR), .val (.int (((p2.toUInt32 >>> ((2 : Int32) &&& 31).toUInt32).toInt32) &&& (3 : Int32))), .val (.int rr), .val (.int tT), .val (.int kk), .val (.int mq), .val (.int ((bR * kk) + mq)), .unset, .unset, .unset, .unset, .unset, .unset] []))
        obtain ⟨bq, hbq⟩ : ∃ q : Int32, q = ((bR * kk) + mq) := ⟨_, rfl⟩
        have hbb : bq.toInt = bR.toInt * kk.toInt + mq.toInt ∧ 0 ≤ bq.toInt := hbq ▸ own_rb rR rk rm
        rw [← hbq]
        show own_Fin p e below _ (s₁.setTop (mkF m 121 #[.val (.int p1), .val (.int p2), .val (.int p3), .val (.int p4), .val (.int p5), .val (.int p6), .val (.int bR), .val (.int (((p2.toUInt32 >>> ((2 : Int32) &&& 31).toUInt32).toInt32) &&& (3 : Int32))), .val (.int rr), .val (.int tT), .val (.int kk), .val (.int mq), .val (.int bq), .unset, .unset, .unset, .unset, .unset, .unset] []))
        obtain ⟨T124, h124, X124, e124, E124, A124, D124, -, st124⟩ := newO X0 hx hZ hown (hw _ (List.mem_of_getElem? (i := 2) rfl)) (hw _ (List.mem_of_getElem? (i := 3) rfl)) (hw _ (List.mem_of_getElem? (i := 4) rfl)) e0 (g := (mkF m 121 #[.val (.int p1), .val (.int p2), .val (.int p3), .val (.int p4), .val (.int p5), .val (.int p6), .val (.int bR), .val (.int (((p2.toUInt32 >>> ((2 : Int32) &&& 31).toUInt32).toInt32) &&& (3 : Int32))), .val (.int rr), .val (.int tT), .val (.int kk), .val (.int mq), .val (.int bq), .unset, .unset, .unset, .unset, .unset, .unset] [])) rfl (hb hby at_121) (by decide) (by decide)
        obtain ⟨b124, g124⟩ : ∃ z, z = h0.size := ⟨_, rfl⟩
        rw [← g124] at A124 D124 st124
        have y125 := (CHv.ext E124 CH0)
        have y126 := (CHr.trans (CHr.refl CH0) (CHr.ext E124 CH0))
        have y127 := (Nat.le_trans (Nat.zero_le _) E124.1)
        have y128 := (Nat.le_trans Z0 E124.1)
        have y129 := (Safe.ext E124 CH0 (Safe.new (Nat.le_of_eq g124.symm)))
        have gn124 : n0 ≤ b124 := Nat.le_trans Z0 (Nat.le_of_eq g124.symm)
        have F124_rate : Fld Z h124 b124 "com/example/curves_to_bounds/curvestobounds/curve/RateLatency" "rate" "D" (.double (0 : UInt64)) := D124 (Or.inr (hw _ (List.mem_of_getElem? (i := 39) rfl))) (ty := .double) (by decide)
        have F124_latency : Fld Z h124 b124 "com/example/curves_to_bounds/curvestobounds/curve/RateLatency" "latency" "D" (.double (0 : UInt64)) := D124 (Or.inr (hw _ (List.mem_of_getElem? (i := 41) rfl))) (ty := .double) (by decide)
        refine own_on st124 ?_
        show own_Fin p e below _ (T124.setTop (mkF m 124 #[.val (.int p1), .val (.int p2), .val (.int p3), .val (.int p4), .val (.int p5), .val (.int p6), .val (.int bR), .val (.int (((p2.toUInt32 >>> ((2 : Int32) &&& 31).toUInt32).toInt32) &&& (3 : Int32))), .val (.int rr), .val (.int tT), .val (.int kk), .val (.int mq), .val (.int bq), .unset, .unset, .unset, .unset, .unset, .unset] [(.ref b124)]))
        refine own_on (fun tq => XS.dup X124.here hx rfl (hb hby at_124) rfl rfl) ?_
        show own_Fin p e below _ (T124.setTop (mkF m 125 #[.val (.int p1), .val (.int p2), .val (.int p3), .val (.int p4), .val (.int p5), .val (.int p6), .val (.int bR), .val (.int (((p2.toUInt32 >>> ((2 : Int32) &&& 31).toUInt32).toInt32) &&& (3 : Int32))), .val (.int rr), .val (.int tT), .val (.int kk), .val (.int mq), .val (.int bq), .unset, .unset, .unset, .unset, .unset, .unset] [(.ref b124), (.ref b124)]))
        refine own_on (fun tq => XS.iload X124.here hx rfl (hb hby at_125) rfl) ?_
        show own_Fin p e below _ (T124.setTop (mkF m 127 #[.val (.int p1), .val (.int p2), .val (.int p3), .val (.int p4), .val (.int p5), .val (.int p6), .val (.int bR), .val (.int (((p2.toUInt32 >>> ((2 : Int32) &&& 31).toUInt32).toInt32) &&& (3 : Int32))), .val (.int rr), .val (.int tT), .val (.int kk), .val (.int mq), .val (.int bq), .unset, .unset, .unset, .unset, .unset, .unset] [(.int bR), (.ref b124), (.ref b124)]))
        refine own_on (fun tq => XS.i2dS X124.here hx rfl (hb hby at_127) rfl (i2d_w _)) ?_
        show own_Fin p e below _ (T124.setTop (mkF m 128 #[.val (.int p1), .val (.int p2), .val (.int p3), .val (.int p4), .val (.int p5), .val (.int p6), .val (.int bR), .val (.int (((p2.toUInt32 >>> ((2 : Int32) &&& 31).toUInt32).toInt32) &&& (3 : Int32))), .val (.int rr), .val (.int tT), .val (.int kk), .val (.int mq), .val (.int bq), .unset, .unset, .unset, .unset, .unset, .unset] [(.double (FP.l2d bR.toInt64)), (.ref b124), (.ref b124)]))
        refine own_on (fun tq => XS.iload X124.here hx rfl (hb hby at_128) rfl) ?_
        show own_Fin p e below _ (T124.setTop (mkF m 130 #[.val (.int p1), .val (.int p2), .val (.int p3), .val (.int p4), .val (.int p5), .val (.int p6), .val (.int bR), .val (.int (((p2.toUInt32 >>> ((2 : Int32) &&& 31).toUInt32).toInt32) &&& (3 : Int32))), .val (.int rr), .val (.int tT), .val (.int kk), .val (.int mq), .val (.int bq), .unset, .unset, .unset, .unset, .unset, .unset] [(.int tT), (.double (FP.l2d bR.toInt64)), (.ref b124), (.ref b124)]))
        refine own_on (fun tq => XS.i2dS X124.here hx rfl (hb hby at_130) rfl (i2d_w _)) ?_
        show own_Fin p e below _ (T124.setTop (mkF m 131 #[.val (.int p1), .val (.int p2), .val (.int p3), .val (.int p4), .val (.int p5), .val (.int p6), .val (.int bR), .val (.int (((p2.toUInt32 >>> ((2 : Int32) &&& 31).toUInt32).toInt32) &&& (3 : Int32))), .val (.int rr), .val (.int tT), .val (.int kk), .val (.int mq), .val (.int bq), .unset, .unset, .unset, .unset, .unset, .unset] [(.double (FP.l2d tT.toInt64)), (.double (FP.l2d bR.toInt64)), (.ref b124), (.ref b124)]))
        obtain ⟨_, _, ⟨T130, L130, k130, n130⟩, -, X130', S130', gr130, ⟨Lc130, hQ130, l130, y130, z130, A130⟩, st130⟩ := X124.specialBackS hx (y := (⟨"com/example/curves_to_bounds/curvestobounds/curve/RateLatency", "<init>", "(DD)V"⟩ : MethodName)) rfl hown (mvT hZ (hw _ (List.mem_of_getElem? (i := 5) rfl))) (mvT hZ (hw _ (List.mem_of_getElem? (i := 6) rfl))) (mvT hZ (hw _ (List.mem_of_getElem? (i := 7) rfl))) (by decide) (backOfSH (s := s) (W := 1) (rm1 l Z a0 hw [] b124 (FP.l2d bR.toInt64) (FP.l2d tT.toInt64) h124 n0 (by exact y128) hEL (own_okI rR.1) (own_okI rT.1) A124 F124_rate F124_latency gn124) hZ (hw _ (List.mem_of_getElem? (i := 7) rfl)) (hw _ (List.mem_of_getElem? (i := 4) rfl)) (by decide) (by decide) hEL y125) (g := (mkF m 131 #[.val (.int p1), .val (.int p2), .val (.int p3), .val (.int p4), .val (.int p5), .val (.int p6), .val (.int bR), .val (.int (((p2.toUInt32 >>> ((2 : Int32) &&& 31).toUInt32).toInt32) &&& (3 : Int32))), .val (.int rr), .val (.int tT), .val (.int kk), .val (.int mq), .val (.int bq), .unset, .unset, .unset, .unset, .unset, .unset] [(.double (FP.l2d tT.toInt64)), (.double (FP.l2d bR.toInt64)), (.ref b124), (.ref b124)])) rfl (by rw [hml]; rfl) (Steps.refl _) (a := b124) (argsL := [(.double (FP.l2d bR.toInt64)), (.double (FP.l2d tT.toInt64))]) (rest := [(.ref b124)]) (lenOf pd_5 rfl) rfl (by show 2 * 0 + _ ≤ _; exact Nat.le_of_eq rfl) (hb hby at_131) (fun _ _ => ⟨rfl, e124, (by decide : 1 + 4 ≤ _), (by decide : 2 + 52 ≤ _)⟩)
        dsimp only [Pt.U, Pt.locs, Pt.cells, Pt.slots] at X130' S130' gr130 l130 y130 z130 st130 hQ130 A130
        subst l130 y130 z130
        obtain ⟨X130, hS130, hZ130, hown130⟩ := rebS hS0 (by first | exact y127 | (rw [e124]; exact y127)) X130' S130' gr130 hZ hown
        obtain ⟨rfl, N130q, K130, E130q, F130a, F130b⟩ := hQ130
        have N130 := Fr.app N0 N130q
        have y131 := (CHr.trans y126 A130)
        have y132 := (Nat.le_refl (Array.size T130.heap))
        have y133 := (Nat.le_trans y128 K130.1)
        have y134 := (CHr.safe A130 F124_latency.lt y129)
        have y135 := (A124.keep K130)
        refine own_via st130 ?_
        show own_Fin p e below _ (T130.setTop (mkF m 134 #[.val (.int p1), .val (.int p2), .val (.int p3), .val (.int p4), .val (.int p5), .val (.int p6), .val (.int bR), .val (.int (((p2.toUInt32 >>> ((2 : Int32) &&& 31).toUInt32).toInt32) &&& (3 : Int32))), .val (.int rr), .val (.int tT), .val (.int kk), .val (.int mq), .val (.int bq), .unset, .unset, .unset, .unset, .unset, .unset] [(.ref b124)]))
        refine own_on (fun tq => XS.astore X130.here hx rfl (hb hby at_134) rfl rfl (l' := #[.val (.int p1), .val (.int p2), .val (.int p3), .val (.int p4), .val (.int p5), .val (.int p6), .val (.int bR), .val (.int (((p2.toUInt32 >>> ((2 : Int32) &&& 31).toUInt32).toInt32) &&& (3 : Int32))), .val (.int rr), .val (.int tT), .val (.int kk), .val (.int mq), .val (.int bq), .val (.ref b124), .unset, .unset, .unset, .unset, .unset]) rfl) ?_
        show own_Fin p e below _ (T130.setTop (mkF m 136 #[.val (.int p1), .val (.int p2), .val (.int p3), .val (.int p4), .val (.int p5), .val (.int p6), .val (.int bR), .val (.int (((p2.toUInt32 >>> ((2 : Int32) &&& 31).toUInt32).toInt32) &&& (3 : Int32))), .val (.int rr), .val (.int tT), .val (.int kk), .val (.int mq), .val (.int bq), .val (.ref b124), .unset, .unset, .unset, .unset, .unset] []))
        obtain ⟨T136, h136, X136, e136, E136, A136, D136, -, st136⟩ := newO X130 hx hZ130 hown130 (hw _ (List.mem_of_getElem? (i := 42) rfl)) (hw _ (List.mem_of_getElem? (i := 43) rfl)) (hw _ (List.mem_of_getElem? (i := 44) rfl)) rfl (g := (mkF m 136 #[.val (.int p1), .val (.int p2), .val (.int p3), .val (.int p4), .val (.int p5), .val (.int p6), .val (.int bR), .val (.int (((p2.toUInt32 >>> ((2 : Int32) &&& 31).toUInt32).toInt32) &&& (3 : Int32))), .val (.int rr), .val (.int tT), .val (.int kk), .val (.int mq), .val (.int bq), .val (.ref b124), .unset, .unset, .unset, .unset, .unset] [])) rfl (hb hby at_136) (by decide) (by decide)
        obtain ⟨b136, g136⟩ : ∃ z, z = T130.heap.size := ⟨_, rfl⟩
        rw [← g136] at A136 D136 st136
        have ne136_b124 : b124 ≠ b136 := own_ne_of (Z := Z) E130q.lt g136
        have y137 := (CHv.ext E136 A130.1)
        have y138 := (CHr.trans y131 (CHr.ext E136 A130.1))
        have y139 := (Nat.le_trans y132 E136.1)
        have y140 := (Nat.le_trans y133 E136.1)
        have y141 := (Safe.ext E136 A130.1 y134)
        have y142 := (E130q.ext E136)
        have y143 := (F130a.ext E136)
        have y144 := (F130b.ext E136)
        have y145 := (Safe.ext E136 A130.1 (Safe.new (Nat.le_of_eq g136.symm)))
        have gn136 : n0 ≤ b136 := Nat.le_trans y133 (Nat.le_of_eq g136.symm)
        have F136_rate : Fld Z h136 b136 "com/example/curves_to_bounds/curvestobounds/curve/TokenBucket" "rate" "D" (.double (0 : UInt64)) := D136 (Or.inr (hw _ (List.mem_of_getElem? (i := 53) rfl))) (ty := .double) (by decide)
        have F136_burst : Fld Z h136 b136 "com/example/curves_to_bounds/curvestobounds/curve/TokenBucket" "burst" "D" (.double (0 : UInt64)) := D136 (Or.inr (hw _ (List.mem_of_getElem? (i := 55) rfl))) (ty := .double) (by decide)
        refine own_on st136 ?_
        show own_Fin p e below _ (T136.setTop (mkF m 139 #[.val (.int p1), .val (.int p2), .val (.int p3), .val (.int p4), .val (.int p5), .val (.int p6), .val (.int bR), .val (.int (((p2.toUInt32 >>> ((2 : Int32) &&& 31).toUInt32).toInt32) &&& (3 : Int32))), .val (.int rr), .val (.int tT), .val (.int kk), .val (.int mq), .val (.int bq), .val (.ref b124), .unset, .unset, .unset, .unset, .unset] [(.ref b136)]))
        refine own_on (fun tq => XS.dup X136.here hx rfl (hb hby at_139) rfl rfl) ?_
        show own_Fin p e below _ (T136.setTop (mkF m 140 #[.val (.int p1), .val (.int p2), .val (.int p3), .val (.int p4), .val (.int p5), .val (.int p6), .val (.int bR), .val (.int (((p2.toUInt32 >>> ((2 : Int32) &&& 31).toUInt32).toInt32) &&& (3 : Int32))), .val (.int rr), .val (.int tT), .val (.int kk), .val (.int mq), .val (.int bq), .val (.ref b124), .unset, .unset, .unset, .unset, .unset] [(.ref b136), (.ref b136)]))
        refine own_on (fun tq => XS.iload X136.here hx rfl (hb hby at_140) rfl) ?_
        show own_Fin p e below _ (T136.setTop (mkF m 142 #[.val (.int p1), .val (.int p2), .val (.int p3), .val (.int p4), .val (.int p5), .val (.int p6), .val (.int bR), .val (.int (((p2.toUInt32 >>> ((2 : Int32) &&& 31).toUInt32).toInt32) &&& (3 : Int32))), .val (.int rr), .val (.int tT), .val (.int kk), .val (.int mq), .val (.int bq), .val (.ref b124), .unset, .unset, .unset, .unset, .unset] [(.int rr), (.ref b136), (.ref b136)]))
        refine own_on (fun tq => XS.i2dS X136.here hx rfl (hb hby at_142) rfl (i2d_w _)) ?_
        show own_Fin p e below _ (T136.setTop (mkF m 143 #[.val (.int p1), .val (.int p2), .val (.int p3), .val (.int p4), .val (.int p5), .val (.int p6), .val (.int bR), .val (.int (((p2.toUInt32 >>> ((2 : Int32) &&& 31).toUInt32).toInt32) &&& (3 : Int32))), .val (.int rr), .val (.int tT), .val (.int kk), .val (.int mq), .val (.int bq), .val (.ref b124), .unset, .unset, .unset, .unset, .unset] [(.double (FP.l2d rr.toInt64)), (.ref b136), (.ref b136)]))
        refine own_on (fun tq => XS.iload X136.here hx rfl (hb hby at_143) rfl) ?_
        show own_Fin p e below _ (T136.setTop (mkF m 145 #[.val (.int p1), .val (.int p2), .val (.int p3), .val (.int p4), .val (.int p5), .val (.int p6), .val (.int bR), .val (.int (((p2.toUInt32 >>> ((2 : Int32) &&& 31).toUInt32).toInt32) &&& (3 : Int32))), .val (.int rr), .val (.int tT), .val (.int kk), .val (.int mq), .val (.int bq), .val (.ref b124), .unset, .unset, .unset, .unset, .unset] [(.int bq), (.double (FP.l2d rr.toInt64)), (.ref b136), (.ref b136)]))
        refine own_on (fun tq => XS.i2dS X136.here hx rfl (hb hby at_145) rfl (i2d_w _)) ?_
        show own_Fin p e below _ (T136.setTop (mkF m 146 #[.val (.int p1), .val (.int p2), .val (.int p3), .val (.int p4), .val (.int p5), .val (.int p6), .val (.int bR), .val (.int (((p2.toUInt32 >>> ((2 : Int32) &&& 31).toUInt32).toInt32) &&& (3 : Int32))), .val (.int rr), .val (.int tT), .val (.int kk), .val (.int mq), .val (.int bq), .val (.ref b124), .unset, .unset, .unset, .unset, .unset] [(.double (FP.l2d bq.toInt64)), (.double (FP.l2d rr.toInt64)), (.ref b136), (.ref b136)]))
        obtain ⟨_, _, ⟨T146, L146, k146, n146⟩, -, X146', S146', gr146, ⟨Lc146, hQ146, l146, y146, z146, A146⟩, st146⟩ := X136.specialBackS hx (y := (⟨"com/example/curves_to_bounds/curvestobounds/curve/TokenBucket", "<init>", "(DD)V"⟩ : MethodName)) rfl hown130 (mvT hZ130 (hw _ (List.mem_of_getElem? (i := 45) rfl))) (mvT hZ130 (hw _ (List.mem_of_getElem? (i := 46) rfl))) (mvT hZ130 (hw _ (List.mem_of_getElem? (i := 47) rfl))) (by decide) (backOfSH (s := s) (W := 1) (rm7 l Z a0 hw [] b136 (FP.l2d rr.toInt64) (FP.l2d bq.toInt64) h136 n0 (by exact y140) hEL (own_okI r0) (own_okI hbb.2) A136 F136_rate F136_burst gn136) hZ130 (hw _ (List.mem_of_getElem? (i := 47) rfl)) (hw _ (List.mem_of_getElem? (i := 44) rfl)) (by decide) (by decide) hEL y137) (g := (mkF m 146 #[.val (.int p1), .val (.int p2), .val (.int p3), .val (.int p4), .val (.int p5), .val (.int p6), .val (.int bR), .val (.int (((p2.toUInt32 >>> ((2 : Int32) &&& 31).toUInt32).toInt32) &&& (3 : Int32))), .val (.int rr), .val (.int tT), .val (.int kk), .val (.int mq), .val (.int bq), .val (.ref b124), .unset, .unset, .unset, .unset, .unset] [(.double (FP.l2d bq.toInt64)), (.double (FP.l2d rr.toInt64)), (.ref b136), (.ref b136)])) rfl (by rw [hml]; rfl) (Steps.refl _) (a := b136) (argsL := [(.double (FP.l2d rr.toInt64)), (.double (FP.l2d bq.toInt64))]) (rest := [(.ref b136)]) (lenOf pd_5 rfl) rfl (by show 2 * 0 + _ ≤ _; exact Nat.le_of_eq rfl) (hb hby at_146) (fun _ _ => ⟨rfl, e136, (by decide : 6 + 4 ≤ _), (by decide : 56 + 44 ≤ _)⟩)
        dsimp only [Pt.U, Pt.locs, Pt.cells, Pt.slots] at X146' S146' gr146 l146 y146 z146 st146 hQ146 A146
        subst l146 y146 z146
        obtain ⟨X146, hS146, hZ146, hown146⟩ := rebS hS130 (by first | exact y139 | (rw [e136]; exact y139)) X146' S146' gr146 hZ130 hown130
        obtain ⟨rfl, N146q, K146, E146q, F146a, F146b⟩ := hQ146
        have N146 := Fr.app N130 N146q
        have y147 := (CHr.trans y138 A146)
        have y148 := (Nat.le_refl (Array.size T146.heap))
        have y149 := (Nat.le_trans y140 K146.1)
        have y150 := (CHr.safe A146 y144.lt y141)
        have y151 := (y142.keep K146)
        have y152 := (y143.keep K146 (ninS ne136_b124 nin0))
        have y153 := (y144.keep K146 (ninS ne136_b124 nin0))
        have y154 := (CHr.safe A146 F136_burst.lt y145)
        have y155 := (A136.keep K146)
        refine own_via st146 ?_
        show own_Fin p e below _ (T146.setTop (mkF m 149 #[.val (.int p1), .val (.int p2), .val (.int p3), .val (.int p4), .val (.int p5), .val (.int p6), .val (.int bR), .val (.int (((p2.toUInt32 >>> ((2 : Int32) &&& 31).toUInt32).toInt32) &&& (3 : Int32))), .val (.int rr), .val (.int tT), .val (.int kk), .val (.int mq), .val (.int bq), .val (.ref b124), .unset, .unset, .unset, .unset, .unset] [(.ref b136)]))
        refine own_on (fun tq => XS.astore X146.here hx rfl (hb hby at_149) rfl rfl (l' := #[.val (.int p1), .val (.int p2), .val (.int p3), .val (.int p4), .val (.int p5), .val (.int p6), .val (.int bR), .val (.int (((p2.toUInt32 >>> ((2 : Int32) &&& 31).toUInt32).toInt32) &&& (3 : Int32))), .val (.int rr), .val (.int tT), .val (.int kk), .val (.int mq), .val (.int bq), .val (.ref b124), .val (.ref b136), .unset, .unset, .unset, .unset]) rfl) ?_
        show own_Fin p e below _ (T146.setTop (mkF m 151 #[.val (.int p1), .val (.int p2), .val (.int p3), .val (.int p4), .val (.int p5), .val (.int p6), .val (.int bR), .val (.int (((p2.toUInt32 >>> ((2 : Int32) &&& 31).toUInt32).toInt32) &&& (3 : Int32))), .val (.int rr), .val (.int tT), .val (.int kk), .val (.int mq), .val (.int bq), .val (.ref b124), .val (.ref b136), .unset, .unset, .unset, .unset] []))
        refine own_on (fun tq => XS.aload X146.here hx rfl (hb hby at_151) rfl rfl) ?_
        show own_Fin p e below _ (T146.setTop (mkF m 153 #[.val (.int p1), .val (.int p2), .val (.int p3), .val (.int p4), .val (.int p5), .val (.int p6), .val (.int bR), .val (.int (((p2.toUInt32 >>> ((2 : Int32) &&& 31).toUInt32).toInt32) &&& (3 : Int32))), .val (.int rr), .val (.int tT), .val (.int kk), .val (.int mq), .val (.int bq), .val (.ref b124), .val (.ref b136), .unset, .unset, .unset, .unset] [(.ref b124)]))
        refine own_on (fun tq => XS.aload X146.here hx rfl (hb hby at_153) rfl rfl) ?_
        show own_Fin p e below _ (T146.setTop (mkF m 155 #[.val (.int p1), .val (.int p2), .val (.int p3), .val (.int p4), .val (.int p5), .val (.int p6), .val (.int bR), .val (.int (((p2.toUInt32 >>> ((2 : Int32) &&& 31).toUInt32).toInt32) &&& (3 : Int32))), .val (.int rr), .val (.int tT), .val (.int kk), .val (.int mq), .val (.int bq), .val (.ref b124), .val (.ref b136), .unset, .unset, .unset, .unset] [(.ref b136), (.ref b124)]))
        obtain ⟨cq156, kq156, q156a, q156b, q156c⟩ := isOf hZ146 rfl y151
        obtain ⟨_, _, ⟨T156, L156, k156, n156⟩, -, X156, ⟨Lc156, hQ156, l156, y156, z156⟩, st156⟩ := X146.virtualBack hx (y := (⟨"com/example/curves_to_bounds/curvestobounds/curve/RateLatency", "delayBound", "(Lcom/example/curves_to_bounds/curvestobounds/curve/TokenBucket;)D"⟩ : MethodName)) (z := (⟨"com/example/curves_to_bounds/curvestobounds/curve/RateLatency", "delayBound", "(Lcom/example/curves_to_bounds/curvestobounds/curve/TokenBucket;)D"⟩ : MethodName)) hown146 (mvT hZ146 (hw _ (List.mem_of_getElem? (i := 56) rfl))) (mvT hZ146 (hw _ (List.mem_of_getElem? (i := 57) rfl))) (notFace_of_selects (args := #[]) (mvT hZ146 (hw _ (List.mem_of_getElem? (i := 59) rfl)))) (mvT hZ146 (hw _ (List.mem_of_getElem? (i := 59) rfl))) (mvT hZ146 (hw _ (List.mem_of_getElem? (i := 58) rfl))) (by decide) (backOf (W := 0) (rm8 l Z a0 hw [] b124 b136 (bR.toInt64) (tT.toInt64) (rr.toInt64) (bq.toInt64) T146.heap n0 (by exact y149) y152 y153 F146a F146b E146q (own_b32 _) (own_b32 _) (fun _ => own_nn rR hc90 rT rk rm hbb.1)) hZ146 (hw _ (List.mem_of_getElem? (i := 60) rfl)) (hw _ (List.mem_of_getElem? (i := 4) rfl)) (by decide) (by decide)) q156a q156c (g := (mkF m 155 #[.val (.int p1), .val (.int p2), .val (.int p3), .val (.int p4), .val (.int p5), .val (.int p6), .val (.int bR), .val (.int (((p2.toUInt32 >>> ((2 : Int32) &&& 31).toUInt32).toInt32) &&& (3 : Int32))), .val (.int rr), .val (.int tT), .val (.int kk), .val (.int mq), .val (.int bq), .val (.ref b124), .val (.ref b136), .unset, .unset, .unset, .unset] [(.ref b136), (.ref b124)])) rfl (by rw [hml]; rfl) (Steps.refl _) (argsL := [(.ref b136)]) (rest := []) (lenOf pd_6 rfl) rfl (by show 2 * 0 + _ ≤ _; exact Nat.le_of_eq rfl) (hb hby at_155) (fun _ _ => ⟨rfl, rfl, (by decide : 10 + 0 ≤ _), (by decide : 100 + 0 ≤ _)⟩)
        dsimp only [Pt.U, Pt.locs, Pt.cells, Pt.slots] at X156 l156 y156 z156 st156 hQ156
        subst l156 y156 z156
        obtain ⟨rfl, N156q, e156⟩ := hQ156
        have N156 := Fr.app N146 N156q
        refine own_via st156 ?_
        show own_Fin p e below _ (T156.setTop (mkF m 158 #[.val (.int p1), .val (.int p2), .val (.int p3), .val (.int p4), .val (.int p5), .val (.int p6), .val (.int bR), .val (.int (((p2.toUInt32 >>> ((2 : Int32) &&& 31).toUInt32).toInt32) &&& (3 : Int32))), .val (.int rr), .val (.int tT), .val (.int kk), .val (.int mq), .val (.int bq), .val (.ref b124), .val (.ref b136), .unset, .unset, .unset, .unset] [(.double (if bR.toInt64 = 0 ∨ bR.toInt64 < rr.toInt64 then (9218868437227405312 : UInt64) else FP.dadd (FP.l2d tT.toInt64) (FP.ddiv (FP.l2d bq.toInt64) (FP.l2d bR.toInt64))))]))
        obtain ⟨bd, hbd⟩ : ∃ q : UInt64, q = (if bR.toInt64 = 0 ∨ bR.toInt64 < rr.toInt64 then (9218868437227405312 : UInt64) else FP.dadd (FP.l2d tT.toInt64) (FP.ddiv (FP.l2d bq.toInt64) (FP.l2d bR.toInt64))) := ⟨_, rfl⟩
        rw [← hbd]
        show own_Fin p e below _ (T156.setTop (mkF m 158 #[.val (.int p1), .val (.int p2), .val (.int p3), .val (.int p4), .val (.int p5), .val (.int p6), .val (.int bR), .val (.int (((p2.toUInt32 >>> ((2 : Int32) &&& 31).toUInt32).toInt32) &&& (3 : Int32))), .val (.int rr), .val (.int tT), .val (.int kk), .val (.int mq), .val (.int bq), .val (.ref b124), .val (.ref b136), .unset, .unset, .unset, .unset] [(.double bd)]))
        refine own_on (fun tq => XS.dstore X156.here hx rfl (hb hby at_158) rfl (l' := #[.val (.int p1), .val (.int p2), .val (.int p3), .val (.int p4), .val (.int p5), .val (.int p6), .val (.int bR), .val (.int (((p2.toUInt32 >>> ((2 : Int32) &&& 31).toUInt32).toInt32) &&& (3 : Int32))), .val (.int rr), .val (.int tT), .val (.int kk), .val (.int mq), .val (.int bq), .val (.ref b124), .val (.ref b136), .val (.double bd), .second, .unset, .unset]) rfl) ?_
        show own_Fin p e below _ (T156.setTop (mkF m 160 #[.val (.int p1), .val (.int p2), .val (.int p3), .val (.int p4), .val (.int p5), .val (.int p6), .val (.int bR), .val (.int (((p2.toUInt32 >>> ((2 : Int32) &&& 31).toUInt32).toInt32) &&& (3 : Int32))), .val (.int rr), .val (.int tT), .val (.int kk), .val (.int mq), .val (.int bq), .val (.ref b124), .val (.ref b136), .val (.double bd), .second, .unset, .unset] []))
        refine own_on (fun tq => XS.iload X156.here hx rfl (hb hby at_160) rfl) ?_
        show own_Fin p e below _ (T156.setTop (mkF m 162 #[.val (.int p1), .val (.int p2), .val (.int p3), .val (.int p4), .val (.int p5), .val (.int p6), .val (.int bR), .val (.int (((p2.toUInt32 >>> ((2 : Int32) &&& 31).toUInt32).toInt32) &&& (3 : Int32))), .val (.int rr), .val (.int tT), .val (.int kk), .val (.int mq), .val (.int bq), .val (.ref b124), .val (.ref b136), .val (.double bd), .second, .unset, .unset] [(.int bR)]))
        refine own_on (fun tq => XS.ifNo X156.here hx rfl (hb hby at_162) rfl ((if0 _ _).trans (feq hc90).1)) ?_
        show own_Fin p e below _ (T156.setTop (mkF m 165 #[.val (.int p1), .val (.int p2), .val (.int p3), .val (.int p4), .val (.int p5), .val (.int p6), .val (.int bR), .val (.int (((p2.toUInt32 >>> ((2 : Int32) &&& 31).toUInt32).toInt32) &&& (3 : Int32))), .val (.int rr), .val (.int tT), .val (.int kk), .val (.int mq), .val (.int bq), .val (.ref b124), .val (.ref b136), .val (.double bd), .second, .unset, .unset] []))
        refine own_on (fun tq => XS.iload X156.here hx rfl (hb hby at_165) rfl) ?_
        show own_Fin p e below _ (T156.setTop (mkF m 167 #[.val (.int p1), .val (.int p2), .val (.int p3), .val (.int p4), .val (.int p5), .val (.int p6), .val (.int bR), .val (.int (((p2.toUInt32 >>> ((2 : Int32) &&& 31).toUInt32).toInt32) &&& (3 : Int32))), .val (.int rr), .val (.int tT), .val (.int kk), .val (.int mq), .val (.int bq), .val (.ref b124), .val (.ref b136), .val (.double bd), .second, .unset, .unset] [(.int rr)]))
        refine own_on (fun tq => XS.iload X156.here hx rfl (hb hby at_167) rfl) ?_
        show own_Fin p e below _ (T156.setTop (mkF m 169 #[.val (.int p1), .val (.int p2), .val (.int p3), .val (.int p4), .val (.int p5), .val (.int p6), .val (.int bR), .val (.int (((p2.toUInt32 >>> ((2 : Int32) &&& 31).toUInt32).toInt32) &&& (3 : Int32))), .val (.int rr), .val (.int tT), .val (.int kk), .val (.int mq), .val (.int bq), .val (.ref b124), .val (.ref b136), .val (.double bd), .second, .unset, .unset] [(.int bR), (.int rr)]))
        by_cases hc157 : bR < rr
        · refine own_on (fun tq => XS.icmpNo X156.here hx rfl (hb hby at_169) rfl (tlt hc157).2.2.2) ?_
          show own_Fin p e below _ (T156.setTop (mkF m 172 #[.val (.int p1), .val (.int p2), .val (.int p3), .val (.int p4), .val (.int p5), .val (.int p6), .val (.int bR), .val (.int (((p2.toUInt32 >>> ((2 : Int32) &&& 31).toUInt32).toInt32) &&& (3 : Int32))), .val (.int rr), .val (.int tT), .val (.int kk), .val (.int mq), .val (.int bq), .val (.ref b124), .val (.ref b136), .val (.double bd), .second, .unset, .unset] []))
          refine own_on (fun tq => XS.dload X156.here hx rfl (hb hby at_172) rfl) ?_
          show own_Fin p e below _ (T156.setTop (mkF m 174 #[.val (.int p1), .val (.int p2), .val (.int p3), .val (.int p4), .val (.int p5), .val (.int p6), .val (.int bR), .val (.int (((p2.toUInt32 >>> ((2 : Int32) &&& 31).toUInt32).toInt32) &&& (3 : Int32))), .val (.int rr), .val (.int tT), .val (.int kk), .val (.int mq), .val (.int bq), .val (.ref b124), .val (.ref b136), .val (.double bd), .second, .unset, .unset] [(.double bd)]))
          refine own_on (fun tq => X156.ldc2DoubleC hx hown146 (mvT hZ146 (hw _ (List.mem_of_getElem? (i := 62) rfl))) (g := (mkF m 174 #[.val (.int p1), .val (.int p2), .val (.int p3), .val (.int p4), .val (.int p5), .val (.int p6), .val (.int bR), .val (.int (((p2.toUInt32 >>> ((2 : Int32) &&& 31).toUInt32).toInt32) &&& (3 : Int32))), .val (.int rr), .val (.int tT), .val (.int kk), .val (.int mq), .val (.int bq), .val (.ref b124), .val (.ref b136), .val (.double bd), .second, .unset, .unset] [(.double bd)])) rfl (hb hby at_174) tq) ?_
          show own_Fin p e below _ (T156.setTop (mkF m 177 #[.val (.int p1), .val (.int p2), .val (.int p3), .val (.int p4), .val (.int p5), .val (.int p6), .val (.int bR), .val (.int (((p2.toUInt32 >>> ((2 : Int32) &&& 31).toUInt32).toInt32) &&& (3 : Int32))), .val (.int rr), .val (.int tT), .val (.int kk), .val (.int mq), .val (.int bq), .val (.ref b124), .val (.ref b136), .val (.double bd), .second, .unset, .unset] [(.double (9218868437227405312 : UInt64)), (.double bd)]))
          refine own_on (fun tq => XS.dcmpS X156.here hx rfl (hb hby at_177) rfl (own_pinf (hbd.trans (if_pos (Or.inr (own_lt64 hc157)))))) ?_
          show own_Fin p e below _ (T156.setTop (mkF m 178 #[.val (.int p1), .val (.int p2), .val (.int p3), .val (.int p4), .val (.int p5), .val (.int p6), .val (.int bR), .val (.int (((p2.toUInt32 >>> ((2 : Int32) &&& 31).toUInt32).toInt32) &&& (3 : Int32))), .val (.int rr), .val (.int tT), .val (.int kk), .val (.int mq), .val (.int bq), .val (.ref b124), .val (.ref b136), .val (.double bd), .second, .unset, .unset] [(.int (0 : Int32))]))
          refine own_on (fun tq => XS.ifNo X156.here hx rfl (hb hby at_178) rfl ((if0 _ _).trans (teq (by decide : (0 : Int32) = (0 : Int32))).2)) ?_
          show own_Fin p e below _ (T156.setTop (mkF m 181 #[.val (.int p1), .val (.int p2), .val (.int p3), .val (.int p4), .val (.int p5), .val (.int p6), .val (.int bR), .val (.int (((p2.toUInt32 >>> ((2 : Int32) &&& 31).toUInt32).toInt32) &&& (3 : Int32))), .val (.int rr), .val (.int tT), .val (.int kk), .val (.int mq), .val (.int bq), .val (.ref b124), .val (.ref b136), .val (.double bd), .second, .unset, .unset] []))
          refine own_on (fun tq => XS.iconst X156.here hx rfl (hb hby at_181)) ?_
          show own_Fin p e below _ (T156.setTop (mkF m 182 #[.val (.int p1), .val (.int p2), .val (.int p3), .val (.int p4), .val (.int p5), .val (.int p6), .val (.int bR), .val (.int (((p2.toUInt32 >>> ((2 : Int32) &&& 31).toUInt32).toInt32) &&& (3 : Int32))), .val (.int rr), .val (.int tT), .val (.int kk), .val (.int mq), .val (.int bq), .val (.ref b124), .val (.ref b136), .val (.double bd), .second, .unset, .unset] [(.int (1 : Int32))]))
          refine own_on (fun tq => XS.goto X156.here hx rfl (pc0 := 182) (pc' := 186) rfl (hb hby at_182) (by decide) (by decide)) ?_
          show own_Fin p e below _ (T156.setTop (mkF m 186 #[.val (.int p1), .val (.int p2), .val (.int p3), .val (.int p4), .val (.int p5), .val (.int p6), .val (.int bR), .val (.int (((p2.toUInt32 >>> ((2 : Int32) &&& 31).toUInt32).toInt32) &&& (3 : Int32))), .val (.int rr), .val (.int tT), .val (.int kk), .val (.int mq), .val (.int bq), .val (.ref b124), .val (.ref b136), .val (.double bd), .second, .unset, .unset] [(.int (1 : Int32))]))
          exact own_retW (t := .boolean) X156 (Z := Z) (EL := own_EL) (a0 := a0) hx hlk hret rfl (Or.inl ⟨rfl, (by simp), _, rfl⟩) (hb hby at_186) hS146 (by rw [e156]; exact y148) hZ146 hEL (by rw [hh, e156]; exact y147) (⟨rfl, N156⟩) (by decide) (by decide)
        · refine own_on (fun tq => XS.icmpYes X156.here hx rfl (pc0 := 169) (pc' := 187) rfl (hb hby at_169) rfl (flt hc157).2.2.2 (by decide) (by decide)) ?_
          show own_Fin p e below _ (T156.setTop (mkF m 187 #[.val (.int p1), .val (.int p2), .val (.int p3), .val (.int p4), .val (.int p5), .val (.int p6), .val (.int bR), .val (.int (((p2.toUInt32 >>> ((2 : Int32) &&& 31).toUInt32).toInt32) &&& (3 : Int32))), .val (.int rr), .val (.int tT), .val (.int kk), .val (.int mq), .val (.int bq), .val (.ref b124), .val (.ref b136), .val (.double bd), .second, .unset, .unset] []))
          refine own_on (fun tq => XS.iload X156.here hx rfl (hb hby at_187) rfl) ?_
          show own_Fin p e below _ (T156.setTop (mkF m 189 #[.val (.int p1), .val (.int p2), .val (.int p3), .val (.int p4), .val (.int p5), .val (.int p6), .val (.int bR), .val (.int (((p2.toUInt32 >>> ((2 : Int32) &&& 31).toUInt32).toInt32) &&& (3 : Int32))), .val (.int rr), .val (.int tT), .val (.int kk), .val (.int mq), .val (.int bq), .val (.ref b124), .val (.ref b136), .val (.double bd), .second, .unset, .unset] [(.int tT)]))
          refine own_on (fun tq => XS.iload X156.here hx rfl (hb hby at_189) rfl) ?_
          show own_Fin p e below _ (T156.setTop (mkF m 191 #[.val (.int p1), .val (.int p2), .val (.int p3), .val (.int p4), .val (.int p5), .val (.int p6), .val (.int bR), .val (.int (((p2.toUInt32 >>> ((2 : Int32) &&& 31).toUInt32).toInt32) &&& (3 : Int32))), .val (.int rr), .val (.int tT), .val (.int kk), .val (.int mq), .val (.int bq), .val (.ref b124), .val (.ref b136), .val (.double bd), .second, .unset, .unset] [(.int kk), (.int tT)]))
          refine own_on (fun tq => XS.iadd X156.here hx rfl (hb hby at_191) rfl) ?_
          show own_Fin p e below _ (T156.setTop (mkF m 192 #[.val (.int p1), .val (.int p2), .val (.int p3), .val (.int p4), .val (.int p5), .val (.int p6), .val (.int bR), .val (.int (((p2.toUInt32 >>> ((2 : Int32) &&& 31).toUInt32).toInt32) &&& (3 : Int32))), .val (.int rr), .val (.int tT), .val (.int kk), .val (.int mq), .val (.int bq), .val (.ref b124), .val (.ref b136), .val (.double bd), .second, .unset, .unset] [(.int (tT + kk))]))
          refine own_on (fun tq => XS.i2dS X156.here hx rfl (hb hby at_192) rfl (i2d_w _)) ?_
          show own_Fin p e below _ (T156.setTop (mkF m 193 #[.val (.int p1), .val (.int p2), .val (.int p3), .val (.int p4), .val (.int p5), .val (.int p6), .val (.int bR), .val (.int (((p2.toUInt32 >>> ((2 : Int32) &&& 31).toUInt32).toInt32) &&& (3 : Int32))), .val (.int rr), .val (.int tT), .val (.int kk), .val (.int mq), .val (.int bq), .val (.ref b124), .val (.ref b136), .val (.double bd), .second, .unset, .unset] [(.double (FP.l2d (tT + kk).toInt64))]))
          refine own_on (fun tq => XS.dstore X156.here hx rfl (hb hby at_193) rfl (l' := #[.val (.int p1), .val (.int p2), .val (.int p3), .val (.int p4), .val (.int p5), .val (.int p6), .val (.int bR), .val (.int (((p2.toUInt32 >>> ((2 : Int32) &&& 31).toUInt32).toInt32) &&& (3 : Int32))), .val (.int rr), .val (.int tT), .val (.int kk), .val (.int mq), .val (.int bq), .val (.ref b124), .val (.ref b136), .val (.double bd), .second, .val (.double (FP.l2d (tT + kk).toInt64)), .second]) rfl) ?_
          show own_Fin p e below _ (T156.setTop (mkF m 195 #[.val (.int p1), .val (.int p2), .val (.int p3), .val (.int p4), .val (.int p5), .val (.int p6), .val (.int bR), .val (.int (((p2.toUInt32 >>> ((2 : Int32) &&& 31).toUInt32).toInt32) &&& (3 : Int32))), .val (.int rr), .val (.int tT), .val (.int kk), .val (.int mq), .val (.int bq), .val (.ref b124), .val (.ref b136), .val (.double bd), .second, .val (.double (FP.l2d (tT + kk).toInt64)), .second] []))
          refine own_on (fun tq => XS.iload X156.here hx rfl (hb hby at_195) rfl) ?_
          show own_Fin p e below _ (T156.setTop (mkF m 197 #[.val (.int p1), .val (.int p2), .val (.int p3), .val (.int p4), .val (.int p5), .val (.int p6), .val (.int bR), .val (.int (((p2.toUInt32 >>> ((2 : Int32) &&& 31).toUInt32).toInt32) &&& (3 : Int32))), .val (.int rr), .val (.int tT), .val (.int kk), .val (.int mq), .val (.int bq), .val (.ref b124), .val (.ref b136), .val (.double bd), .second, .val (.double (FP.l2d (tT + kk).toInt64)), .second] [(.int mq)]))
          by_cases hc158 : mq = (0 : Int32)
          · refine own_on (fun tq => XS.ifNo X156.here hx rfl (hb hby at_197) rfl ((if0 _ _).trans (teq hc158).2)) ?_
            show own_Fin p e below _ (T156.setTop (mkF m 200 #[.val (.int p1), .val (.int p2), .val (.int p3), .val (.int p4), .val (.int p5), .val (.int p6), .val (.int bR), .val (.int (((p2.toUInt32 >>> ((2 : Int32) &&& 31).toUInt32).toInt32) &&& (3 : Int32))), .val (.int rr), .val (.int tT), .val (.int kk), .val (.int mq), .val (.int bq), .val (.ref b124), .val (.ref b136), .val (.double bd), .second, .val (.double (FP.l2d (tT + kk).toInt64)), .second] []))
            refine own_on (fun tq => XS.dload X156.here hx rfl (hb hby at_200) rfl) ?_
            show own_Fin p e below _ (T156.setTop (mkF m 202 #[.val (.int p1), .val (.int p2), .val (.int p3), .val (.int p4), .val (.int p5), .val (.int p6), .val (.int bR), .val (.int (((p2.toUInt32 >>> ((2 : Int32) &&& 31).toUInt32).toInt32) &&& (3 : Int32))), .val (.int rr), .val (.int tT), .val (.int kk), .val (.int mq), .val (.int bq), .val (.ref b124), .val (.ref b136), .val (.double bd), .second, .val (.double (FP.l2d (tT + kk).toInt64)), .second] [(.double bd)]))
            refine own_on (fun tq => XS.dload X156.here hx rfl (hb hby at_202) rfl) ?_
            show own_Fin p e below _ (T156.setTop (mkF m 204 #[.val (.int p1), .val (.int p2), .val (.int p3), .val (.int p4), .val (.int p5), .val (.int p6), .val (.int bR), .val (.int (((p2.toUInt32 >>> ((2 : Int32) &&& 31).toUInt32).toInt32) &&& (3 : Int32))), .val (.int rr), .val (.int tT), .val (.int kk), .val (.int mq), .val (.int bq), .val (.ref b124), .val (.ref b136), .val (.double bd), .second, .val (.double (FP.l2d (tT + kk).toInt64)), .second] [(.double (FP.l2d (tT + kk).toInt64)), (.double bd)]))
            refine own_on (fun tq => XS.dcmpS X156.here hx rfl (hb hby at_204) rfl ((own_law rR hc90 hc157 rT rk rm hbb.1 hbd).1 hc158)) ?_
            show own_Fin p e below _ (T156.setTop (mkF m 205 #[.val (.int p1), .val (.int p2), .val (.int p3), .val (.int p4), .val (.int p5), .val (.int p6), .val (.int bR), .val (.int (((p2.toUInt32 >>> ((2 : Int32) &&& 31).toUInt32).toInt32) &&& (3 : Int32))), .val (.int rr), .val (.int tT), .val (.int kk), .val (.int mq), .val (.int bq), .val (.ref b124), .val (.ref b136), .val (.double bd), .second, .val (.double (FP.l2d (tT + kk).toInt64)), .second] [(.int (0 : Int32))]))
            refine own_on (fun tq => XS.ifNo X156.here hx rfl (hb hby at_205) rfl ((if0 _ _).trans (teq (by decide : (0 : Int32) = (0 : Int32))).2)) ?_
            show own_Fin p e below _ (T156.setTop (mkF m 208 #[.val (.int p1), .val (.int p2), .val (.int p3), .val (.int p4), .val (.int p5), .val (.int p6), .val (.int bR), .val (.int (((p2.toUInt32 >>> ((2 : Int32) &&& 31).toUInt32).toInt32) &&& (3 : Int32))), .val (.int rr), .val (.int tT), .val (.int kk), .val (.int mq), .val (.int bq), .val (.ref b124), .val (.ref b136), .val (.double bd), .second, .val (.double (FP.l2d (tT + kk).toInt64)), .second] []))
            refine own_on (fun tq => XS.iconst X156.here hx rfl (hb hby at_208)) ?_
            show own_Fin p e below _ (T156.setTop (mkF m 209 #[.val (.int p1), .val (.int p2), .val (.int p3), .val (.int p4), .val (.int p5), .val (.int p6), .val (.int bR), .val (.int (((p2.toUInt32 >>> ((2 : Int32) &&& 31).toUInt32).toInt32) &&& (3 : Int32))), .val (.int rr), .val (.int tT), .val (.int kk), .val (.int mq), .val (.int bq), .val (.ref b124), .val (.ref b136), .val (.double bd), .second, .val (.double (FP.l2d (tT + kk).toInt64)), .second] [(.int (1 : Int32))]))
            refine own_on (fun tq => XS.goto X156.here hx rfl (pc0 := 209) (pc' := 213) rfl (hb hby at_209) (by decide) (by decide)) ?_
            show own_Fin p e below _ (T156.setTop (mkF m 213 #[.val (.int p1), .val (.int p2), .val (.int p3), .val (.int p4), .val (.int p5), .val (.int p6), .val (.int bR), .val (.int (((p2.toUInt32 >>> ((2 : Int32) &&& 31).toUInt32).toInt32) &&& (3 : Int32))), .val (.int rr), .val (.int tT), .val (.int kk), .val (.int mq), .val (.int bq), .val (.ref b124), .val (.ref b136), .val (.double bd), .second, .val (.double (FP.l2d (tT + kk).toInt64)), .second] [(.int (1 : Int32))]))
            exact own_retW (t := .boolean) X156 (Z := Z) (EL := own_EL) (a0 := a0) hx hlk hret rfl (Or.inl ⟨rfl, (by simp), _, rfl⟩) (hb hby at_213) hS146 (by rw [e156]; exact y148) hZ146 hEL (by rw [hh, e156]; exact y147) (⟨rfl, N156⟩) (by decide) (by decide)
          · refine own_on (fun tq => XS.ifYes X156.here hx rfl (pc0 := 197) (pc' := 214) rfl (hb hby at_197) rfl ((if0 _ _).trans (feq hc158).2) (by decide) (by decide)) ?_
            show own_Fin p e below _ (T156.setTop (mkF m 214 #[.val (.int p1), .val (.int p2), .val (.int p3), .val (.int p4), .val (.int p5), .val (.int p6), .val (.int bR), .val (.int (((p2.toUInt32 >>> ((2 : Int32) &&& 31).toUInt32).toInt32) &&& (3 : Int32))), .val (.int rr), .val (.int tT), .val (.int kk), .val (.int mq), .val (.int bq), .val (.ref b124), .val (.ref b136), .val (.double bd), .second, .val (.double (FP.l2d (tT + kk).toInt64)), .second] []))
            refine own_on (fun tq => XS.dload X156.here hx rfl (hb hby at_214) rfl) ?_
            show own_Fin p e below _ (T156.setTop (mkF m 216 #[.val (.int p1), .val (.int p2), .val (.int p3), .val (.int p4), .val (.int p5), .val (.int p6), .val (.int bR), .val (.int (((p2.toUInt32 >>> ((2 : Int32) &&& 31).toUInt32).toInt32) &&& (3 : Int32))), .val (.int rr), .val (.int tT), .val (.int kk), .val (.int mq), .val (.int bq), .val (.ref b124), .val (.ref b136), .val (.double bd), .second, .val (.double (FP.l2d (tT + kk).toInt64)), .second] [(.double (FP.l2d (tT + kk).toInt64))]))
            refine own_on (fun tq => XS.dload X156.here hx rfl (hb hby at_216) rfl) ?_
            show own_Fin p e below _ (T156.setTop (mkF m 218 #[.val (.int p1), .val (.int p2), .val (.int p3), .val (.int p4), .val (.int p5), .val (.int p6), .val (.int bR), .val (.int (((p2.toUInt32 >>> ((2 : Int32) &&& 31).toUInt32).toInt32) &&& (3 : Int32))), .val (.int rr), .val (.int tT), .val (.int kk), .val (.int mq), .val (.int bq), .val (.ref b124), .val (.ref b136), .val (.double bd), .second, .val (.double (FP.l2d (tT + kk).toInt64)), .second] [(.double bd), (.double (FP.l2d (tT + kk).toInt64))]))
            refine own_on (fun tq => XS.dcmpS X156.here hx rfl (hb hby at_218) rfl ((own_law rR hc90 hc157 rT rk rm hbb.1 hbd).2 hc158).1) ?_
            show own_Fin p e below _ (T156.setTop (mkF m 219 #[.val (.int p1), .val (.int p2), .val (.int p3), .val (.int p4), .val (.int p5), .val (.int p6), .val (.int bR), .val (.int (((p2.toUInt32 >>> ((2 : Int32) &&& 31).toUInt32).toInt32) &&& (3 : Int32))), .val (.int rr), .val (.int tT), .val (.int kk), .val (.int mq), .val (.int bq), .val (.ref b124), .val (.ref b136), .val (.double bd), .second, .val (.double (FP.l2d (tT + kk).toInt64)), .second] [(.int (-1 : Int32))]))
            refine own_on (fun tq => XS.ifNo X156.here hx rfl (hb hby at_219) rfl ((if0 _ _).trans (tlt (by decide : (-1 : Int32) < (0 : Int32))).2.1)) ?_
            show own_Fin p e below _ (T156.setTop (mkF m 222 #[.val (.int p1), .val (.int p2), .val (.int p3), .val (.int p4), .val (.int p5), .val (.int p6), .val (.int bR), .val (.int (((p2.toUInt32 >>> ((2 : Int32) &&& 31).toUInt32).toInt32) &&& (3 : Int32))), .val (.int rr), .val (.int tT), .val (.int kk), .val (.int mq), .val (.int bq), .val (.ref b124), .val (.ref b136), .val (.double bd), .second, .val (.double (FP.l2d (tT + kk).toInt64)), .second] []))
            refine own_on (fun tq => XS.dload X156.here hx rfl (hb hby at_222) rfl) ?_
            show own_Fin p e below _ (T156.setTop (mkF m 224 #[.val (.int p1), .val (.int p2), .val (.int p3), .val (.int p4), .val (.int p5), .val (.int p6), .val (.int bR), .val (.int (((p2.toUInt32 >>> ((2 : Int32) &&& 31).toUInt32).toInt32) &&& (3 : Int32))), .val (.int rr), .val (.int tT), .val (.int kk), .val (.int mq), .val (.int bq), .val (.ref b124), .val (.ref b136), .val (.double bd), .second, .val (.double (FP.l2d (tT + kk).toInt64)), .second] [(.double bd)]))
            refine own_on (fun tq => XS.dload X156.here hx rfl (hb hby at_224) rfl) ?_
            show own_Fin p e below _ (T156.setTop (mkF m 226 #[.val (.int p1), .val (.int p2), .val (.int p3), .val (.int p4), .val (.int p5), .val (.int p6), .val (.int bR), .val (.int (((p2.toUInt32 >>> ((2 : Int32) &&& 31).toUInt32).toInt32) &&& (3 : Int32))), .val (.int rr), .val (.int tT), .val (.int kk), .val (.int mq), .val (.int bq), .val (.ref b124), .val (.ref b136), .val (.double bd), .second, .val (.double (FP.l2d (tT + kk).toInt64)), .second] [(.double (FP.l2d (tT + kk).toInt64)), (.double bd)]))
            refine own_on (fun tq => XS.dconst1 X156.here hx rfl (hb hby at_226) own_dc1) ?_
            show own_Fin p e below _ (T156.setTop (mkF m 227 #[.val (.int p1), .val (.int p2), .val (.int p3), .val (.int p4), .val (.int p5), .val (.int p6), .val (.int bR), .val (.int (((p2.toUInt32 >>> ((2 : Int32) &&& 31).toUInt32).toInt32) &&& (3 : Int32))), .val (.int rr), .val (.int tT), .val (.int kk), .val (.int mq), .val (.int bq), .val (.ref b124), .val (.ref b136), .val (.double bd), .second, .val (.double (FP.l2d (tT + kk).toInt64)), .second] [(.double (FP.l2d (1 : Int64))), (.double (FP.l2d (tT + kk).toInt64)), (.double bd)]))
            refine own_on (fun tq => XS.daddS X156.here hx rfl (hb hby at_227) rfl (nn_w (dadd_w (own_b32 (tT + kk)) own_B1)) (dadd_w (own_b32 (tT + kk)) own_B1)) ?_
            show own_Fin p e below _ (T156.setTop (mkF m 228 #[.val (.int p1), .val (.int p2), .val (.int p3), .val (.int p4), .val (.int p5), .val (.int p6), .val (.int bR), .val (.int (((p2.toUInt32 >>> ((2 : Int32) &&& 31).toUInt32).toInt32) &&& (3 : Int32))), .val (.int rr), .val (.int tT), .val (.int kk), .val (.int mq), .val (.int bq), .val (.ref b124), .val (.ref b136), .val (.double bd), .second, .val (.double (FP.l2d (tT + kk).toInt64)), .second] [(.double (FP.l2d ((tT + kk).toInt64 + (1 : Int64)))), (.double bd)]))
            refine own_on (fun tq => XS.dcmpS X156.here hx rfl (hb hby at_228) rfl ((own_law rR hc90 hc157 rT rk rm hbb.1 hbd).2 hc158).2) ?_
            show own_Fin p e below _ (T156.setTop (mkF m 229 #[.val (.int p1), .val (.int p2), .val (.int p3), .val (.int p4), .val (.int p5), .val (.int p6), .val (.int bR), .val (.int (((p2.toUInt32 >>> ((2 : Int32) &&& 31).toUInt32).toInt32) &&& (3 : Int32))), .val (.int rr), .val (.int tT), .val (.int kk), .val (.int mq), .val (.int bq), .val (.ref b124), .val (.ref b136), .val (.double bd), .second, .val (.double (FP.l2d (tT + kk).toInt64)), .second] [(.int (-1 : Int32))]))
            refine own_on (fun tq => XS.ifNo X156.here hx rfl (hb hby at_229) rfl ((if0 _ _).trans (tlt (by decide : (-1 : Int32) < (0 : Int32))).2.1)) ?_
            show own_Fin p e below _ (T156.setTop (mkF m 232 #[.val (.int p1), .val (.int p2), .val (.int p3), .val (.int p4), .val (.int p5), .val (.int p6), .val (.int bR), .val (.int (((p2.toUInt32 >>> ((2 : Int32) &&& 31).toUInt32).toInt32) &&& (3 : Int32))), .val (.int rr), .val (.int tT), .val (.int kk), .val (.int mq), .val (.int bq), .val (.ref b124), .val (.ref b136), .val (.double bd), .second, .val (.double (FP.l2d (tT + kk).toInt64)), .second] []))
            refine own_on (fun tq => XS.iconst X156.here hx rfl (hb hby at_232)) ?_
            show own_Fin p e below _ (T156.setTop (mkF m 233 #[.val (.int p1), .val (.int p2), .val (.int p3), .val (.int p4), .val (.int p5), .val (.int p6), .val (.int bR), .val (.int (((p2.toUInt32 >>> ((2 : Int32) &&& 31).toUInt32).toInt32) &&& (3 : Int32))), .val (.int rr), .val (.int tT), .val (.int kk), .val (.int mq), .val (.int bq), .val (.ref b124), .val (.ref b136), .val (.double bd), .second, .val (.double (FP.l2d (tT + kk).toInt64)), .second] [(.int (1 : Int32))]))
            refine own_on (fun tq => XS.goto X156.here hx rfl (pc0 := 233) (pc' := 237) rfl (hb hby at_233) (by decide) (by decide)) ?_
            show own_Fin p e below _ (T156.setTop (mkF m 237 #[.val (.int p1), .val (.int p2), .val (.int p3), .val (.int p4), .val (.int p5), .val (.int p6), .val (.int bR), .val (.int (((p2.toUInt32 >>> ((2 : Int32) &&& 31).toUInt32).toInt32) &&& (3 : Int32))), .val (.int rr), .val (.int tT), .val (.int kk), .val (.int mq), .val (.int bq), .val (.ref b124), .val (.ref b136), .val (.double bd), .second, .val (.double (FP.l2d (tT + kk).toInt64)), .second] [(.int (1 : Int32))]))
            exact own_retW (t := .boolean) X156 (Z := Z) (EL := own_EL) (a0 := a0) hx hlk hret rfl (Or.inl ⟨rfl, (by simp), _, rfl⟩) (hb hby at_237) hS146 (by rw [e156]; exact y148) hZ146 hEL (by rw [hh, e156]; exact y147) (⟨rfl, N156⟩) (by decide) (by decide)
    · refine own_on (fun tq => XS.ifYes X0.here hx rfl (pc0 := 24) (pc' := 41) rfl (hb hby at_24) rfl ((if0 _ _).trans (feq hc89).2) (by decide) (by decide)) ?_
      show own_Fin p e below _ (s₁.setTop (mkF m 41 #[.val (.int p1), .val (.int p2), .val (.int p3), .val (.int p4), .val (.int p5), .val (.int p6), .val (.int bR), .val (.int (((p2.toUInt32 >>> ((2 : Int32) &&& 31).toUInt32).toInt32) &&& (3 : Int32))), .unset, .unset, .unset, .unset, .unset, .unset, .unset, .unset, .unset, .unset, .unset] []))
      refine own_on (fun tq => XS.iload X0.here hx rfl (hb hby at_41) rfl) ?_
      show own_Fin p e below _ (s₁.setTop (mkF m 43 #[.val (.int p1), .val (.int p2), .val (.int p3), .val (.int p4), .val (.int p5), .val (.int p6), .val (.int bR), .val (.int (((p2.toUInt32 >>> ((2 : Int32) &&& 31).toUInt32).toInt32) &&& (3 : Int32))), .unset, .unset, .unset, .unset, .unset, .unset, .unset, .unset, .unset, .unset, .unset] [(.int (((p2.toUInt32 >>> ((2 : Int32) &&& 31).toUInt32).toInt32) &&& (3 : Int32)))]))
      refine own_on (fun tq => XS.iconst X0.here hx rfl (hb hby at_43)) ?_
      show own_Fin p e below _ (s₁.setTop (mkF m 44 #[.val (.int p1), .val (.int p2), .val (.int p3), .val (.int p4), .val (.int p5), .val (.int p6), .val (.int bR), .val (.int (((p2.toUInt32 >>> ((2 : Int32) &&& 31).toUInt32).toInt32) &&& (3 : Int32))), .unset, .unset, .unset, .unset, .unset, .unset, .unset, .unset, .unset, .unset, .unset] [(.int (1 : Int32)), (.int (((p2.toUInt32 >>> ((2 : Int32) &&& 31).toUInt32).toInt32) &&& (3 : Int32)))]))
      by_cases hc159 : (((p2.toUInt32 >>> ((2 : Int32) &&& 31).toUInt32).toInt32) &&& (3 : Int32)) = (1 : Int32)
      · refine own_on (fun tq => XS.icmpNo X0.here hx rfl (hb hby at_44) rfl (teq hc159).2) ?_
        show own_Fin p e below _ (s₁.setTop (mkF m 47 #[.val (.int p1), .val (.int p2), .val (.int p3), .val (.int p4), .val (.int p5), .val (.int p6), .val (.int bR), .val (.int (((p2.toUInt32 >>> ((2 : Int32) &&& 31).toUInt32).toInt32) &&& (3 : Int32))), .unset, .unset, .unset, .unset, .unset, .unset, .unset, .unset, .unset, .unset, .unset] []))
        refine own_on (fun tq => XS.iload X0.here hx rfl (hb hby at_47) rfl) ?_
        show own_Fin p e below _ (s₁.setTop (mkF m 49 #[.val (.int p1), .val (.int p2), .val (.int p3), .val (.int p4), .val (.int p5), .val (.int p6), .val (.int bR), .val (.int (((p2.toUInt32 >>> ((2 : Int32) &&& 31).toUInt32).toInt32) &&& (3 : Int32))), .unset, .unset, .unset, .unset, .unset, .unset, .unset, .unset, .unset, .unset, .unset] [(.int bR)]))
        refine own_on (fun tq => XS.istore X0.here hx rfl (hb hby at_49) rfl (l' := #[.val (.int p1), .val (.int p2), .val (.int p3), .val (.int p4), .val (.int p5), .val (.int p6), .val (.int bR), .val (.int (((p2.toUInt32 >>> ((2 : Int32) &&& 31).toUInt32).toInt32) &&& (3 : Int32))), .val (.int bR), .unset, .unset, .unset, .unset, .unset, .unset, .unset, .unset, .unset, .unset]) rfl) ?_
        show own_Fin p e below _ (s₁.setTop (mkF m 51 #[.val (.int p1), .val (.int p2), .val (.int p3), .val (.int p4), .val (.int p5), .val (.int p6), .val (.int bR), .val (.int (((p2.toUInt32 >>> ((2 : Int32) &&& 31).toUInt32).toInt32) &&& (3 : Int32))), .val (.int bR), .unset, .unset, .unset, .unset, .unset, .unset, .unset, .unset, .unset, .unset] []))
        refine own_on (fun tq => XS.goto X0.here hx rfl (pc0 := 51) (pc' := 65) rfl (hb hby at_51) (by decide) (by decide)) ?_
        show own_Fin p e below _ (s₁.setTop (mkF m 65 #[.val (.int p1), .val (.int p2), .val (.int p3), .val (.int p4), .val (.int p5), .val (.int p6), .val (.int bR), .val (.int (((p2.toUInt32 >>> ((2 : Int32) &&& 31).toUInt32).toInt32) &&& (3 : Int32))), .val (.int bR), .unset, .unset, .unset, .unset, .unset, .unset, .unset, .unset, .unset, .unset] []))
        refine own_on (fun tq => XS.iloadN X0.here hx rfl (hb hby at_65) rfl) ?_
        show own_Fin p e below _ (s₁.setTop (mkF m 66 #[.val (.int p1), .val (.int p2), .val (.int p3), .val (.int p4), .val (.int p5), .val (.int p6), .val (.int bR), .val (.int (((p2.toUInt32 >>> ((2 : Int32) &&& 31).toUInt32).toInt32) &&& (3 : Int32))), .val (.int bR), .unset, .unset, .unset, .unset, .unset, .unset, .unset, .unset, .unset, .unset] [(.int p4)]))
        refine own_on (fun tq => X0.ldcInt hx hown (mvT hZ (hw _ (List.mem_of_getElem? (i := 0) rfl))) (g := (mkF m 66 #[.val (.int p1), .val (.int p2), .val (.int p3), .val (.int p4), .val (.int p5), .val (.int p6), .val (.int bR), .val (.int (((p2.toUInt32 >>> ((2 : Int32) &&& 31).toUInt32).toInt32) &&& (3 : Int32))), .val (.int bR), .unset, .unset, .unset, .unset, .unset, .unset, .unset, .unset, .unset, .unset] [(.int p4)])) rfl (hb hby at_66) tq) ?_
        show own_Fin p e below _ (s₁.setTop (mkF m 68 #[.val (.int p1), .val (.int p2), .val (.int p3), .val (.int p4), .val (.int p5), .val (.int p6), .val (.int bR), .val (.int (((p2.toUInt32 >>> ((2 : Int32) &&& 31).toUInt32).toInt32) &&& (3 : Int32))), .val (.int bR), .unset, .unset, .unset, .unset, .unset, .unset, .unset, .unset, .unset, .unset] [(.int (65535 : Int32)), (.int p4)]))
        refine own_on (fun tq => XS.iand X0.here hx rfl (hb hby at_68) rfl) ?_
        show own_Fin p e below _ (s₁.setTop (mkF m 69 #[.val (.int p1), .val (.int p2), .val (.int p3), .val (.int p4), .val (.int p5), .val (.int p6), .val (.int bR), .val (.int (((p2.toUInt32 >>> ((2 : Int32) &&& 31).toUInt32).toInt32) &&& (3 : Int32))), .val (.int bR), .unset, .unset, .unset, .unset, .unset, .unset, .unset, .unset, .unset, .unset] [(.int (p4 &&& (65535 : Int32)))]))
        refine own_on (fun tq => XS.istore X0.here hx rfl (hb hby at_69) rfl (l' := #[.val (.int p1), .val (.int p2), .val (.int p3), .val (.int p4), .val (.int p5), .val (.int p6), .val (.int bR), .val (.int (((p2.toUInt32 >>> ((2 : Int32) &&& 31).toUInt32).toInt32) &&& (3 : Int32))), .val (.int bR), .val (.int (p4 &&& (65535 : Int32))), .unset, .unset, .unset, .unset, .unset, .unset, .unset, .unset, .unset]) rfl) ?_
        show own_Fin p e below _ (s₁.setTop (mkF m 71 #[.val (.int p1), .val (.int p2), .val (.int p3), .val (.int p4), .val (.int p5), .val (.int p6), .val (.int bR), .val (.int (((p2.toUInt32 >>> ((2 : Int32) &&& 31).toUInt32).toInt32) &&& (3 : Int32))), .val (.int bR), .val (.int (p4 &&& (65535 : Int32))), .unset, .unset, .unset, .unset, .unset, .unset, .unset, .unset, .unset] []))
        obtain ⟨tT, htT⟩ : ∃ q : Int32, q = (p4 &&& (65535 : Int32)) := ⟨_, rfl⟩
        have rT : 0 ≤ tT.toInt ∧ tT.toInt ≤ 65535 := htT ▸ own_m16 p4
        rw [← htT]
        show own_Fin p e below _ (s₁.setTop (mkF m 71 #[.val (.int p1), .val (.int p2), .val (.int p3), .val (.int p4), .val (.int p5), .val (.int p6), .val (.int bR), .val (.int (((p2.toUInt32 >>> ((2 : Int32) &&& 31).toUInt32).toInt32) &&& (3 : Int32))), .val (.int bR), .val (.int tT), .unset, .unset, .unset, .unset, .unset, .unset, .unset, .unset, .unset] []))
        refine own_on (fun tq => XS.iload X0.here hx rfl (hb hby at_71) rfl) ?_
        show own_Fin p e below _ (s₁.setTop (mkF m 73 #[.val (.int p1), .val (.int p2), .val (.int p3), .val (.int p4), .val (.int p5), .val (.int p6), .val (.int bR), .val (.int (((p2.toUInt32 >>> ((2 : Int32) &&& 31).toUInt32).toInt32) &&& (3 : Int32))), .val (.int bR), .val (.int tT), .unset, .unset, .unset, .unset, .unset, .unset, .unset, .unset, .unset] [(.int p5)]))
        refine own_on (fun tq => XS.sipush X0.here hx rfl (hb hby at_73)) ?_
        show own_Fin p e below _ (s₁.setTop (mkF m 76 #[.val (.int p1), .val (.int p2), .val (.int p3), .val (.int p4), .val (.int p5), .val (.int p6), .val (.int bR), .val (.int (((p2.toUInt32 >>> ((2 : Int32) &&& 31).toUInt32).toInt32) &&& (3 : Int32))), .val (.int bR), .val (.int tT), .unset, .unset, .unset, .unset, .unset, .unset, .unset, .unset, .unset] [(.int (32767 : Int32)), (.int p5)]))
        refine own_on (fun tq => XS.iand X0.here hx rfl (hb hby at_76) rfl) ?_
        show own_Fin p e below _ (s₁.setTop (mkF m 77 #[.val (.int p1), .val (.int p2), .val (.int p3), .val (.int p4), .val (.int p5), .val (.int p6), .val (.int bR), .val (.int (((p2.toUInt32 >>> ((2 : Int32) &&& 31).toUInt32).toInt32) &&& (3 : Int32))), .val (.int bR), .val (.int tT), .unset, .unset, .unset, .unset, .unset, .unset, .unset, .unset, .unset] [(.int (p5 &&& (32767 : Int32)))]))
        refine own_on (fun tq => XS.istore X0.here hx rfl (hb hby at_77) rfl (l' := #[.val (.int p1), .val (.int p2), .val (.int p3), .val (.int p4), .val (.int p5), .val (.int p6), .val (.int bR), .val (.int (((p2.toUInt32 >>> ((2 : Int32) &&& 31).toUInt32).toInt32) &&& (3 : Int32))), .val (.int bR), .val (.int tT), .val (.int (p5 &&& (32767 : Int32))), .unset, .unset, .unset, .unset, .unset, .unset, .unset, .unset]) rfl) ?_
        show own_Fin p e below _ (s₁.setTop (mkF m 79 #[.val (.int p1), .val (.int p2), .val (.int p3), .val (.int p4), .val (.int p5), .val (.int p6), .val (.int bR), .val (.int (((p2.toUInt32 >>> ((2 : Int32) &&& 31).toUInt32).toInt32) &&& (3 : Int32))), .val (.int bR), .val (.int tT), .val (.int (p5 &&& (32767 : Int32))), .unset, .unset, .unset, .unset, .unset, .unset, .unset, .unset] []))
        obtain ⟨kk, hkk⟩ : ∃ q : Int32, q = (p5 &&& (32767 : Int32)) := ⟨_, rfl⟩
        have rk : 0 ≤ kk.toInt ∧ kk.toInt ≤ 32767 := hkk ▸ own_m15 p5
        rw [← hkk]
        show own_Fin p e below _ (s₁.setTop (mkF m 79 #[.val (.int p1), .val (.int p2), .val (.int p3), .val (.int p4), .val (.int p5), .val (.int p6), .val (.int bR), .val (.int (((p2.toUInt32 >>> ((2 : Int32) &&& 31).toUInt32).toInt32) &&& (3 : Int32))), .val (.int bR), .val (.int tT), .val (.int kk), .unset, .unset, .unset, .unset, .unset, .unset, .unset, .unset] []))
        refine own_on (fun tq => XS.iload X0.here hx rfl (hb hby at_79) rfl) ?_
        show own_Fin p e below _ (s₁.setTop (mkF m 81 #[.val (.int p1), .val (.int p2), .val (.int p3), .val (.int p4), .val (.int p5), .val (.int p6), .val (.int bR), .val (.int (((p2.toUInt32 >>> ((2 : Int32) &&& 31).toUInt32).toInt32) &&& (3 : Int32))), .val (.int bR), .val (.int tT), .val (.int kk), .unset, .unset, .unset, .unset, .unset, .unset, .unset, .unset] [(.int bR)]))
        by_cases hc160 : bR = (0 : Int32)
        · refine own_on (fun tq => XS.ifNo X0.here hx rfl (hb hby at_81) rfl ((if0 _ _).trans (teq hc160).2)) ?_
          show own_Fin p e below _ (s₁.setTop (mkF m 84 #[.val (.int p1), .val (.int p2), .val (.int p3), .val (.int p4), .val (.int p5), .val (.int p6), .val (.int bR), .val (.int (((p2.toUInt32 >>> ((2 : Int32) &&& 31).toUInt32).toInt32) &&& (3 : Int32))), .val (.int bR), .val (.int tT), .val (.int kk), .unset, .unset, .unset, .unset, .unset, .unset, .unset, .unset] []))
          refine own_on (fun tq => XS.iconst X0.here hx rfl (hb hby at_84)) ?_
          show own_Fin p e below _ (s₁.setTop (mkF m 85 #[.val (.int p1), .val (.int p2), .val (.int p3), .val (.int p4), .val (.int p5), .val (.int p6), .val (.int bR), .val (.int (((p2.toUInt32 >>> ((2 : Int32) &&& 31).toUInt32).toInt32) &&& (3 : Int32))), .val (.int bR), .val (.int tT), .val (.int kk), .unset, .unset, .unset, .unset, .unset, .unset, .unset, .unset] [(.int (0 : Int32))]))
          refine own_on (fun tq => XS.goto X0.here hx rfl (pc0 := 85) (pc' := 96) rfl (hb hby at_85) (by decide) (by decide)) ?_
          show own_Fin p e below _ (s₁.setTop (mkF m 96 #[.val (.int p1), .val (.int p2), .val (.int p3), .val (.int p4), .val (.int p5), .val (.int p6), .val (.int bR), .val (.int (((p2.toUInt32 >>> ((2 : Int32) &&& 31).toUInt32).toInt32) &&& (3 : Int32))), .val (.int bR), .val (.int tT), .val (.int kk), .unset, .unset, .unset, .unset, .unset, .unset, .unset, .unset] [(.int (0 : Int32))]))
          refine own_on (fun tq => XS.istore X0.here hx rfl (hb hby at_96) rfl (l' := #[.val (.int p1), .val (.int p2), .val (.int p3), .val (.int p4), .val (.int p5), .val (.int p6), .val (.int bR), .val (.int (((p2.toUInt32 >>> ((2 : Int32) &&& 31).toUInt32).toInt32) &&& (3 : Int32))), .val (.int bR), .val (.int tT), .val (.int kk), .val (.int (0 : Int32)), .unset, .unset, .unset, .unset, .unset, .unset, .unset]) rfl) ?_
          show own_Fin p e below _ (s₁.setTop (mkF m 98 #[.val (.int p1), .val (.int p2), .val (.int p3), .val (.int p4), .val (.int p5), .val (.int p6), .val (.int bR), .val (.int (((p2.toUInt32 >>> ((2 : Int32) &&& 31).toUInt32).toInt32) &&& (3 : Int32))), .val (.int bR), .val (.int tT), .val (.int kk), .val (.int (0 : Int32)), .unset, .unset, .unset, .unset, .unset, .unset, .unset] []))
          refine own_on (fun tq => XS.iload X0.here hx rfl (hb hby at_98) rfl) ?_
          show own_Fin p e below _ (s₁.setTop (mkF m 100 #[.val (.int p1), .val (.int p2), .val (.int p3), .val (.int p4), .val (.int p5), .val (.int p6), .val (.int bR), .val (.int (((p2.toUInt32 >>> ((2 : Int32) &&& 31).toUInt32).toInt32) &&& (3 : Int32))), .val (.int bR), .val (.int tT), .val (.int kk), .val (.int (0 : Int32)), .unset, .unset, .unset, .unset, .unset, .unset, .unset] [(.int bR)]))
          refine own_on (fun tq => XS.ifNo X0.here hx rfl (hb hby at_100) rfl ((if0 _ _).trans (teq hc160).2)) ?_
          show own_Fin p e below _ (s₁.setTop (mkF m 103 #[.val (.int p1), .val (.int p2), .val (.int p3), .val (.int p4), .val (.int p5), .val (.int p6), .val (.int bR), .val (.int (((p2.toUInt32 >>> ((2 : Int32) &&& 31).toUInt32).toInt32) &&& (3 : Int32))), .val (.int bR), .val (.int tT), .val (.int kk), .val (.int (0 : Int32)), .unset, .unset, .unset, .unset, .unset, .unset, .unset] []))
          refine own_on (fun tq => XS.iload X0.here hx rfl (hb hby at_103) rfl) ?_
          show own_Fin p e below _ (s₁.setTop (mkF m 105 #[.val (.int p1), .val (.int p2), .val (.int p3), .val (.int p4), .val (.int p5), .val (.int p6), .val (.int bR), .val (.int (((p2.toUInt32 >>> ((2 : Int32) &&& 31).toUInt32).toInt32) &&& (3 : Int32))), .val (.int bR), .val (.int tT), .val (.int kk), .val (.int (0 : Int32)), .unset, .unset, .unset, .unset, .unset, .unset, .unset] [(.int p5)]))
          refine own_on (fun tq => X0.ldcInt hx hown (mvT hZ (hw _ (List.mem_of_getElem? (i := 1) rfl))) (g := (mkF m 105 #[.val (.int p1), .val (.int p2), .val (.int p3), .val (.int p4), .val (.int p5), .val (.int p6), .val (.int bR), .val (.int (((p2.toUInt32 >>> ((2 : Int32) &&& 31).toUInt32).toInt32) &&& (3 : Int32))), .val (.int bR), .val (.int tT), .val (.int kk), .val (.int (0 : Int32)), .unset, .unset, .unset, .unset, .unset, .unset, .unset] [(.int p5)])) rfl (hb hby at_105) tq) ?_
          show own_Fin p e below _ (s₁.setTop (mkF m 107 #[.val (.int p1), .val (.int p2), .val (.int p3), .val (.int p4), .val (.int p5), .val (.int p6), .val (.int bR), .val (.int (((p2.toUInt32 >>> ((2 : Int32) &&& 31).toUInt32).toInt32) &&& (3 : Int32))), .val (.int bR), .val (.int tT), .val (.int kk), .val (.int (0 : Int32)), .unset, .unset, .unset, .unset, .unset, .unset, .unset] [(.int (2147483647 : Int32)), (.int p5)]))
          refine own_on (fun tq => XS.iand X0.here hx rfl (hb hby at_107) rfl) ?_
          show own_Fin p e below _ (s₁.setTop (mkF m 108 #[.val (.int p1), .val (.int p2), .val (.int p3), .val (.int p4), .val (.int p5), .val (.int p6), .val (.int bR), .val (.int (((p2.toUInt32 >>> ((2 : Int32) &&& 31).toUInt32).toInt32) &&& (3 : Int32))), .val (.int bR), .val (.int tT), .val (.int kk), .val (.int (0 : Int32)), .unset, .unset, .unset, .unset, .unset, .unset, .unset] [(.int (p5 &&& (2147483647 : Int32)))]))
          refine own_on (fun tq => XS.goto X0.here hx rfl (pc0 := 108) (pc' := 119) rfl (hb hby at_108) (by decide) (by decide)) ?_
          show own_Fin p e below _ (s₁.setTop (mkF m 119 #[.val (.int p1), .val (.int p2), .val (.int p3), .val (.int p4), .val (.int p5), .val (.int p6), .val (.int bR), .val (.int (((p2.toUInt32 >>> ((2 : Int32) &&& 31).toUInt32).toInt32) &&& (3 : Int32))), .val (.int bR), .val (.int tT), .val (.int kk), .val (.int (0 : Int32)), .unset, .unset, .unset, .unset, .unset, .unset, .unset] [(.int (p5 &&& (2147483647 : Int32)))]))
          refine own_on (fun tq => XS.istore X0.here hx rfl (hb hby at_119) rfl (l' := #[.val (.int p1), .val (.int p2), .val (.int p3), .val (.int p4), .val (.int p5), .val (.int p6), .val (.int bR), .val (.int (((p2.toUInt32 >>> ((2 : Int32) &&& 31).toUInt32).toInt32) &&& (3 : Int32))), .val (.int bR), .val (.int tT), .val (.int kk), .val (.int (0 : Int32)), .val (.int (p5 &&& (2147483647 : Int32))), .unset, .unset, .unset, .unset, .unset, .unset]) rfl) ?_
          show own_Fin p e below _ (s₁.setTop (mkF m 121 #[.val (.int p1), .val (.int p2), .val (.int p3), .val (.int p4), .val (.int p5), .val (.int p6), .val (.int bR), .val (.int (((p2.toUInt32 >>> ((2 : Int32) &&& 31).toUInt32).toInt32) &&& (3 : Int32))), .val (.int bR), .val (.int tT), .val (.int kk), .val (.int (0 : Int32)), .val (.int (p5 &&& (2147483647 : Int32))), .unset, .unset, .unset, .unset, .unset, .unset] []))
          obtain ⟨bq, hbq⟩ : ∃ q : Int32, q = (p5 &&& (2147483647 : Int32)) := ⟨_, rfl⟩
          have b0 : 0 ≤ bq.toInt := hbq ▸ own_m31 p5
          rw [← hbq]
          show own_Fin p e below _ (s₁.setTop (mkF m 121 #[.val (.int p1), .val (.int p2), .val (.int p3), .val (.int p4), .val (.int p5), .val (.int p6), .val (.int bR), .val (.int (((p2.toUInt32 >>> ((2 : Int32) &&& 31).toUInt32).toInt32) &&& (3 : Int32))), .val (.int bR), .val (.int tT), .val (.int kk), .val (.int (0 : Int32)), .val (.int bq), .unset, .unset, .unset, .unset, .unset, .unset] []))
          obtain ⟨T161, h161, X161, e161, E161, A161, D161, -, st161⟩ := newO X0 hx hZ hown (hw _ (List.mem_of_getElem? (i := 2) rfl)) (hw _ (List.mem_of_getElem? (i := 3) rfl)) (hw _ (List.mem_of_getElem? (i := 4) rfl)) e0 (g := (mkF m 121 #[.val (.int p1), .val (.int p2), .val (.int p3), .val (.int p4), .val (.int p5), .val (.int p6), .val (.int bR), .val (.int (((p2.toUInt32 >>> ((2 : Int32) &&& 31).toUInt32).toInt32) &&& (3 : Int32))), .val (.int bR), .val (.int tT), .val (.int kk), .val (.int (0 : Int32)), .val (.int bq), .unset, .unset, .unset, .unset, .unset, .unset] [])) rfl (hb hby at_121) (by decide) (by decide)
          obtain ⟨b161, g161⟩ : ∃ z, z = h0.size := ⟨_, rfl⟩
          rw [← g161] at A161 D161 st161
          have y162 := (CHv.ext E161 CH0)
          have y163 := (CHr.trans (CHr.refl CH0) (CHr.ext E161 CH0))
          have y164 := (Nat.le_trans (Nat.zero_le _) E161.1)
          have y165 := (Nat.le_trans Z0 E161.1)
          have y166 := (Safe.ext E161 CH0 (Safe.new (Nat.le_of_eq g161.symm)))
          have gn161 : n0 ≤ b161 := Nat.le_trans Z0 (Nat.le_of_eq g161.symm)
          have F161_rate : Fld Z h161 b161 "com/example/curves_to_bounds/curvestobounds/curve/RateLatency" "rate" "D" (.double (0 : UInt64)) := D161 (Or.inr (hw _ (List.mem_of_getElem? (i := 39) rfl))) (ty := .double) (by decide)
          have F161_latency : Fld Z h161 b161 "com/example/curves_to_bounds/curvestobounds/curve/RateLatency" "latency" "D" (.double (0 : UInt64)) := D161 (Or.inr (hw _ (List.mem_of_getElem? (i := 41) rfl))) (ty := .double) (by decide)
          refine own_on st161 ?_
          show own_Fin p e below _ (T161.setTop (mkF m 124 #[.val (.int p1), .val (.int p2), .val (.int p3), .val (.int p4), .val (.int p5), .val (.int p6), .val (.int bR), .val (.int (((p2.toUInt32 >>> ((2 : Int32) &&& 31).toUInt32).toInt32) &&& (3 : Int32))), .val (.int bR), .val (.int tT), .val (.int kk), .val (.int (0 : Int32)), .val (.int bq), .unset, .unset, .unset, .unset, .unset, .unset] [(.ref b161)]))
          refine own_on (fun tq => XS.dup X161.here hx rfl (hb hby at_124) rfl rfl) ?_
          show own_Fin p e below _ (T161.setTop (mkF m 125 #[.val (.int p1), .val (.int p2), .val (.int p3), .val (.int p4), .val (.int p5), .val (.int p6), .val (.int bR), .val (.int (((p2.toUInt32 >>> ((2 : Int32) &&& 31).toUInt32).toInt32) &&& (3 : Int32))), .val (.int bR), .val (.int tT), .val (.int kk), .val (.int (0 : Int32)), .val (.int bq), .unset, .unset, .unset, .unset, .unset, .unset] [(.ref b161), (.ref b161)]))
          refine own_on (fun tq => XS.iload X161.here hx rfl (hb hby at_125) rfl) ?_
          show own_Fin p e below _ (T161.setTop (mkF m 127 #[.val (.int p1), .val (.int p2), .val (.int p3), .val (.int p4), .val (.int p5), .val (.int p6), .val (.int bR), .val (.int (((p2.toUInt32 >>> ((2 : Int32) &&& 31).toUInt32).toInt32) &&& (3 : Int32))), .val (.int bR), .val (.int tT), .val (.int kk), .val (.int (0 : Int32)), .val (.int bq), .unset, .unset, .unset, .unset, .unset, .unset] [(.int bR), (.ref b161), (.ref b161)]))
          refine own_on (fun tq => XS.i2dS X161.here hx rfl (hb hby at_127) rfl (i2d_w _)) ?_
          show own_Fin p e below _ (T161.setTop (mkF m 128 #[.val (.int p1), .val (.int p2), .val (.int p3), .val (.int p4), .val (.int p5), .val (.int p6), .val (.int bR), .val (.int (((p2.toUInt32 >>> ((2 : Int32) &&& 31).toUInt32).toInt32) &&& (3 : Int32))), .val (.int bR), .val (.int tT), .val (.int kk), .val (.int (0 : Int32)), .val (.int bq), .unset, .unset, .unset, .unset, .unset, .unset] [(.double (FP.l2d bR.toInt64)), (.ref b161), (.ref b161)]))
          refine own_on (fun tq => XS.iload X161.here hx rfl (hb hby at_128) rfl) ?_
          show own_Fin p e below _ (T161.setTop (mkF m 130 #[.val (.int p1), .val (.int p2), .val (.int p3), .val (.int p4), .val (.int p5), .val (.int p6), .val (.int bR), .val (.int (((p2.toUInt32 >>> ((2 : Int32) &&& 31).toUInt32).toInt32) &&& (3 : Int32))), .val (.int bR), .val (.int tT), .val (.int kk), .val (.int (0 : Int32)), .val (.int bq), .unset, .unset, .unset, .unset, .unset, .unset] [(.int tT), (.double (FP.l2d bR.toInt64)), (.ref b161), (.ref b161)]))
          refine own_on (fun tq => XS.i2dS X161.here hx rfl (hb hby at_130) rfl (i2d_w _)) ?_
          show own_Fin p e below _ (T161.setTop (mkF m 131 #[.val (.int p1), .val (.int p2), .val (.int p3), .val (.int p4), .val (.int p5), .val (.int p6), .val (.int bR), .val (.int (((p2.toUInt32 >>> ((2 : Int32) &&& 31).toUInt32).toInt32) &&& (3 : Int32))), .val (.int bR), .val (.int tT), .val (.int kk), .val (.int (0 : Int32)), .val (.int bq), .unset, .unset, .unset, .unset, .unset, .unset] [(.double (FP.l2d tT.toInt64)), (.double (FP.l2d bR.toInt64)), (.ref b161), (.ref b161)]))
          obtain ⟨_, _, ⟨T167, L167, k167, n167⟩, -, X167', S167', gr167, ⟨Lc167, hQ167, l167, y167, z167, A167⟩, st167⟩ := X161.specialBackS hx (y := (⟨"com/example/curves_to_bounds/curvestobounds/curve/RateLatency", "<init>", "(DD)V"⟩ : MethodName)) rfl hown (mvT hZ (hw _ (List.mem_of_getElem? (i := 5) rfl))) (mvT hZ (hw _ (List.mem_of_getElem? (i := 6) rfl))) (mvT hZ (hw _ (List.mem_of_getElem? (i := 7) rfl))) (by decide) (backOfSH (s := s) (W := 1) (rm1 l Z a0 hw [] b161 (FP.l2d bR.toInt64) (FP.l2d tT.toInt64) h161 n0 (by exact y165) hEL (own_okI rR.1) (own_okI rT.1) A161 F161_rate F161_latency gn161) hZ (hw _ (List.mem_of_getElem? (i := 7) rfl)) (hw _ (List.mem_of_getElem? (i := 4) rfl)) (by decide) (by decide) hEL y162) (g := (mkF m 131 #[.val (.int p1), .val (.int p2), .val (.int p3), .val (.int p4), .val (.int p5), .val (.int p6), .val (.int bR), .val (.int (((p2.toUInt32 >>> ((2 : Int32) &&& 31).toUInt32).toInt32) &&& (3 : Int32))), .val (.int bR), .val (.int tT), .val (.int kk), .val (.int (0 : Int32)), .val (.int bq), .unset, .unset, .unset, .unset, .unset, .unset] [(.double (FP.l2d tT.toInt64)), (.double (FP.l2d bR.toInt64)), (.ref b161), (.ref b161)])) rfl (by rw [hml]; rfl) (Steps.refl _) (a := b161) (argsL := [(.double (FP.l2d bR.toInt64)), (.double (FP.l2d tT.toInt64))]) (rest := [(.ref b161)]) (lenOf pd_5 rfl) rfl (by show 2 * 0 + _ ≤ _; exact Nat.le_of_eq rfl) (hb hby at_131) (fun _ _ => ⟨rfl, e161, (by decide : 1 + 4 ≤ _), (by decide : 2 + 52 ≤ _)⟩)
          dsimp only [Pt.U, Pt.locs, Pt.cells, Pt.slots] at X167' S167' gr167 l167 y167 z167 st167 hQ167 A167
          subst l167 y167 z167
          obtain ⟨X167, hS167, hZ167, hown167⟩ := rebS hS0 (by first | exact y164 | (rw [e161]; exact y164)) X167' S167' gr167 hZ hown
          obtain ⟨rfl, N167q, K167, E167q, F167a, F167b⟩ := hQ167
          have N167 := Fr.app N0 N167q
          have y168 := (CHr.trans y163 A167)
          have y169 := (Nat.le_refl (Array.size T167.heap))
          have y170 := (Nat.le_trans y165 K167.1)
          have y171 := (CHr.safe A167 F161_latency.lt y166)
          have y172 := (A161.keep K167)
          refine own_via st167 ?_
          show own_Fin p e below _ (T167.setTop (mkF m 134 #[.val (.int p1), .val (.int p2), .val (.int p3), .val (.int p4), .val (.int p5), .val (.int p6), .val (.int bR), .val (.int (((p2.toUInt32 >>> ((2 : Int32) &&& 31).toUInt32).toInt32) &&& (3 : Int32))), .val (.int bR), .val (.int tT), .val (.int kk), .val (.int (0 : Int32)), .val (.int bq), .unset, .unset, .unset, .unset, .unset, .unset] [(.ref b161)]))
          refine own_on (fun tq => XS.astore X167.here hx rfl (hb hby at_134) rfl rfl (l' := #[.val (.int p1), .val (.int p2), .val (.int p3), .val (.int p4), .val (.int p5), .val (.int p6), .val (.int bR), .val (.int (((p2.toUInt32 >>> ((2 : Int32) &&& 31).toUInt32).toInt32) &&& (3 : Int32))), .val (.int bR), .val (.int tT), .val (.int kk), .val (.int (0 : Int32)), .val (.int bq), .val (.ref b161), .unset, .unset, .unset, .unset, .unset]) rfl) ?_
          show own_Fin p e below _ (T167.setTop (mkF m 136 #[.val (.int p1), .val (.int p2), .val (.int p3), .val (.int p4), .val (.int p5), .val (.int p6), .val (.int bR), .val (.int (((p2.toUInt32 >>> ((2 : Int32) &&& 31).toUInt32).toInt32) &&& (3 : Int32))), .val (.int bR), .val (.int tT), .val (.int kk), .val (.int (0 : Int32)), .val (.int bq), .val (.ref b161), .unset, .unset, .unset, .unset, .unset] []))
          obtain ⟨T173, h173, X173, e173, E173, A173, D173, -, st173⟩ := newO X167 hx hZ167 hown167 (hw _ (List.mem_of_getElem? (i := 42) rfl)) (hw _ (List.mem_of_getElem? (i := 43) rfl)) (hw _ (List.mem_of_getElem? (i := 44) rfl)) rfl (g := (mkF m 136 #[.val (.int p1), .val (.int p2), .val (.int p3), .val (.int p4), .val (.int p5), .val (.int p6), .val (.int bR), .val (.int (((p2.toUInt32 >>> ((2 : Int32) &&& 31).toUInt32).toInt32) &&& (3 : Int32))), .val (.int bR), .val (.int tT), .val (.int kk), .val (.int (0 : Int32)), .val (.int bq), .val (.ref b161), .unset, .unset, .unset, .unset, .unset] [])) rfl (hb hby at_136) (by decide) (by decide)
          obtain ⟨b173, g173⟩ : ∃ z, z = T167.heap.size := ⟨_, rfl⟩
          rw [← g173] at A173 D173 st173
          have ne173_b161 : b161 ≠ b173 := own_ne_of (Z := Z) E167q.lt g173
          have y174 := (CHv.ext E173 A167.1)
          have y175 := (CHr.trans y168 (CHr.ext E173 A167.1))
          have y176 := (Nat.le_trans y169 E173.1)
          have y177 := (Nat.le_trans y170 E173.1)
          have y178 := (Safe.ext E173 A167.1 y171)
          have y179 := (E167q.ext E173)
          have y180 := (F167a.ext E173)
          have y181 := (F167b.ext E173)
          have y182 := (Safe.ext E173 A167.1 (Safe.new (Nat.le_of_eq g173.symm)))
          have gn173 : n0 ≤ b173 := Nat.le_trans y170 (Nat.le_of_eq g173.symm)
          have F173_rate : Fld Z h173 b173 "com/example/curves_to_bounds/curvestobounds/curve/TokenBucket" "rate" "D" (.double (0 : UInt64)) := D173 (Or.inr (hw _ (List.mem_of_getElem? (i := 53) rfl))) (ty := .double) (by decide)
          have F173_burst : Fld Z h173 b173 "com/example/curves_to_bounds/curvestobounds/curve/TokenBucket" "burst" "D" (.double (0 : UInt64)) := D173 (Or.inr (hw _ (List.mem_of_getElem? (i := 55) rfl))) (ty := .double) (by decide)
          refine own_on st173 ?_
          show own_Fin p e below _ (T173.setTop (mkF m 139 #[.val (.int p1), .val (.int p2), .val (.int p3), .val (.int p4), .val (.int p5), .val (.int p6), .val (.int bR), .val (.int (((p2.toUInt32 >>> ((2 : Int32) &&& 31).toUInt32).toInt32) &&& (3 : Int32))), .val (.int bR), .val (.int tT), .val (.int kk), .val (.int (0 : Int32)), .val (.int bq), .val (.ref b161), .unset, .unset, .unset, .unset, .unset] [(.ref b173)]))
          refine own_on (fun tq => XS.dup X173.here hx rfl (hb hby at_139) rfl rfl) ?_
          show own_Fin p e below _ (T173.setTop (mkF m 140 #[.val (.int p1), .val (.int p2), .val (.int p3), .val (.int p4), .val (.int p5), .val (.int p6), .val (.int bR), .val (.int (((p2.toUInt32 >>> ((2 : Int32) &&& 31).toUInt32).toInt32) &&& (3 : Int32))), .val (.int bR), .val (.int tT), .val (.int kk), .val (.int (0 : Int32)), .val (.int bq), .val (.ref b161), .unset, .unset, .unset, .unset, .unset] [(.ref b173), (.ref b173)]))
          refine own_on (fun tq => XS.iload X173.here hx rfl (hb hby at_140) rfl) ?_
          show own_Fin p e below _ (T173.setTop (mkF m 142 #[.val (.int p1), .val (.int p2), .val (.int p3), .val (.int p4), .val (.int p5), .val (.int p6), .val (.int bR), .val (.int (((p2.toUInt32 >>> ((2 : Int32) &&& 31).toUInt32).toInt32) &&& (3 : Int32))), .val (.int bR), .val (.int tT), .val (.int kk), .val (.int (0 : Int32)), .val (.int bq), .val (.ref b161), .unset, .unset, .unset, .unset, .unset] [(.int bR), (.ref b173), (.ref b173)]))
          refine own_on (fun tq => XS.i2dS X173.here hx rfl (hb hby at_142) rfl (i2d_w _)) ?_
          show own_Fin p e below _ (T173.setTop (mkF m 143 #[.val (.int p1), .val (.int p2), .val (.int p3), .val (.int p4), .val (.int p5), .val (.int p6), .val (.int bR), .val (.int (((p2.toUInt32 >>> ((2 : Int32) &&& 31).toUInt32).toInt32) &&& (3 : Int32))), .val (.int bR), .val (.int tT), .val (.int kk), .val (.int (0 : Int32)), .val (.int bq), .val (.ref b161), .unset, .unset, .unset, .unset, .unset] [(.double (FP.l2d bR.toInt64)), (.ref b173), (.ref b173)]))
          refine own_on (fun tq => XS.iload X173.here hx rfl (hb hby at_143) rfl) ?_
          show own_Fin p e below _ (T173.setTop (mkF m 145 #[.val (.int p1), .val (.int p2), .val (.int p3), .val (.int p4), .val (.int p5), .val (.int p6), .val (.int bR), .val (.int (((p2.toUInt32 >>> ((2 : Int32) &&& 31).toUInt32).toInt32) &&& (3 : Int32))), .val (.int bR), .val (.int tT), .val (.int kk), .val (.int (0 : Int32)), .val (.int bq), .val (.ref b161), .unset, .unset, .unset, .unset, .unset] [(.int bq), (.double (FP.l2d bR.toInt64)), (.ref b173), (.ref b173)]))
          refine own_on (fun tq => XS.i2dS X173.here hx rfl (hb hby at_145) rfl (i2d_w _)) ?_
          show own_Fin p e below _ (T173.setTop (mkF m 146 #[.val (.int p1), .val (.int p2), .val (.int p3), .val (.int p4), .val (.int p5), .val (.int p6), .val (.int bR), .val (.int (((p2.toUInt32 >>> ((2 : Int32) &&& 31).toUInt32).toInt32) &&& (3 : Int32))), .val (.int bR), .val (.int tT), .val (.int kk), .val (.int (0 : Int32)), .val (.int bq), .val (.ref b161), .unset, .unset, .unset, .unset, .unset] [(.double (FP.l2d bq.toInt64)), (.double (FP.l2d bR.toInt64)), (.ref b173), (.ref b173)]))
          obtain ⟨_, _, ⟨T183, L183, k183, n183⟩, -, X183', S183', gr183, ⟨Lc183, hQ183, l183, y183, z183, A183⟩, st183⟩ := X173.specialBackS hx (y := (⟨"com/example/curves_to_bounds/curvestobounds/curve/TokenBucket", "<init>", "(DD)V"⟩ : MethodName)) rfl hown167 (mvT hZ167 (hw _ (List.mem_of_getElem? (i := 45) rfl))) (mvT hZ167 (hw _ (List.mem_of_getElem? (i := 46) rfl))) (mvT hZ167 (hw _ (List.mem_of_getElem? (i := 47) rfl))) (by decide) (backOfSH (s := s) (W := 1) (rm7 l Z a0 hw [] b173 (FP.l2d bR.toInt64) (FP.l2d bq.toInt64) h173 n0 (by exact y177) hEL (own_okI rR.1) (own_okI b0) A173 F173_rate F173_burst gn173) hZ167 (hw _ (List.mem_of_getElem? (i := 47) rfl)) (hw _ (List.mem_of_getElem? (i := 44) rfl)) (by decide) (by decide) hEL y174) (g := (mkF m 146 #[.val (.int p1), .val (.int p2), .val (.int p3), .val (.int p4), .val (.int p5), .val (.int p6), .val (.int bR), .val (.int (((p2.toUInt32 >>> ((2 : Int32) &&& 31).toUInt32).toInt32) &&& (3 : Int32))), .val (.int bR), .val (.int tT), .val (.int kk), .val (.int (0 : Int32)), .val (.int bq), .val (.ref b161), .unset, .unset, .unset, .unset, .unset] [(.double (FP.l2d bq.toInt64)), (.double (FP.l2d bR.toInt64)), (.ref b173), (.ref b173)])) rfl (by rw [hml]; rfl) (Steps.refl _) (a := b173) (argsL := [(.double (FP.l2d bR.toInt64)), (.double (FP.l2d bq.toInt64))]) (rest := [(.ref b173)]) (lenOf pd_5 rfl) rfl (by show 2 * 0 + _ ≤ _; exact Nat.le_of_eq rfl) (hb hby at_146) (fun _ _ => ⟨rfl, e173, (by decide : 6 + 4 ≤ _), (by decide : 56 + 44 ≤ _)⟩)
          dsimp only [Pt.U, Pt.locs, Pt.cells, Pt.slots] at X183' S183' gr183 l183 y183 z183 st183 hQ183 A183
          subst l183 y183 z183
          obtain ⟨X183, hS183, hZ183, hown183⟩ := rebS hS167 (by first | exact y176 | (rw [e173]; exact y176)) X183' S183' gr183 hZ167 hown167
          obtain ⟨rfl, N183q, K183, E183q, F183a, F183b⟩ := hQ183
          have N183 := Fr.app N167 N183q
          have y184 := (CHr.trans y175 A183)
          have y185 := (Nat.le_refl (Array.size T183.heap))
          have y186 := (Nat.le_trans y177 K183.1)
          have y187 := (CHr.safe A183 y181.lt y178)
          have y188 := (y179.keep K183)
          have y189 := (y180.keep K183 (ninS ne173_b161 nin0))
          have y190 := (y181.keep K183 (ninS ne173_b161 nin0))
          have y191 := (CHr.safe A183 F173_burst.lt y182)
          have y192 := (A173.keep K183)
          refine own_via st183 ?_
          show own_Fin p e below _ (T183.setTop (mkF m 149 #[.val (.int p1), .val (.int p2), .val (.int p3), .val (.int p4), .val (.int p5), .val (.int p6), .val (.int bR), .val (.int (((p2.toUInt32 >>> ((2 : Int32) &&& 31).toUInt32).toInt32) &&& (3 : Int32))), .val (.int bR), .val (.int tT), .val (.int kk), .val (.int (0 : Int32)), .val (.int bq), .val (.ref b161), .unset, .unset, .unset, .unset, .unset] [(.ref b173)]))
          refine own_on (fun tq => XS.astore X183.here hx rfl (hb hby at_149) rfl rfl (l' := #[.val (.int p1), .val (.int p2), .val (.int p3), .val (.int p4), .val (.int p5), .val (.int p6), .val (.int bR), .val (.int (((p2.toUInt32 >>> ((2 : Int32) &&& 31).toUInt32).toInt32) &&& (3 : Int32))), .val (.int bR), .val (.int tT), .val (.int kk), .val (.int (0 : Int32)), .val (.int bq), .val (.ref b161), .val (.ref b173), .unset, .unset, .unset, .unset]) rfl) ?_
          show own_Fin p e below _ (T183.setTop (mkF m 151 #[.val (.int p1), .val (.int p2), .val (.int p3), .val (.int p4), .val (.int p5), .val (.int p6), .val (.int bR), .val (.int (((p2.toUInt32 >>> ((2 : Int32) &&& 31).toUInt32).toInt32) &&& (3 : Int32))), .val (.int bR), .val (.int tT), .val (.int kk), .val (.int (0 : Int32)), .val (.int bq), .val (.ref b161), .val (.ref b173), .unset, .unset, .unset, .unset] []))
          refine own_on (fun tq => XS.aload X183.here hx rfl (hb hby at_151) rfl rfl) ?_
          show own_Fin p e below _ (T183.setTop (mkF m 153 #[.val (.int p1), .val (.int p2), .val (.int p3), .val (.int p4), .val (.int p5), .val (.int p6), .val (.int bR), .val (.int (((p2.toUInt32 >>> ((2 : Int32) &&& 31).toUInt32).toInt32) &&& (3 : Int32))), .val (.int bR), .val (.int tT), .val (.int kk), .val (.int (0 : Int32)), .val (.int bq), .val (.ref b161), .val (.ref b173), .unset, .unset, .unset, .unset] [(.ref b161)]))
          refine own_on (fun tq => XS.aload X183.here hx rfl (hb hby at_153) rfl rfl) ?_
          show own_Fin p e below _ (T183.setTop (mkF m 155 #[.val (.int p1), .val (.int p2), .val (.int p3), .val (.int p4), .val (.int p5), .val (.int p6), .val (.int bR), .val (.int (((p2.toUInt32 >>> ((2 : Int32) &&& 31).toUInt32).toInt32) &&& (3 : Int32))), .val (.int bR), .val (.int tT), .val (.int kk), .val (.int (0 : Int32)), .val (.int bq), .val (.ref b161), .val (.ref b173), .unset, .unset, .unset, .unset] [(.ref b173), (.ref b161)]))
          obtain ⟨cq193, kq193, q193a, q193b, q193c⟩ := isOf hZ183 rfl y188
          obtain ⟨_, _, ⟨T193, L193, k193, n193⟩, -, X193, ⟨Lc193, hQ193, l193, y193, z193⟩, st193⟩ := X183.virtualBack hx (y := (⟨"com/example/curves_to_bounds/curvestobounds/curve/RateLatency", "delayBound", "(Lcom/example/curves_to_bounds/curvestobounds/curve/TokenBucket;)D"⟩ : MethodName)) (z := (⟨"com/example/curves_to_bounds/curvestobounds/curve/RateLatency", "delayBound", "(Lcom/example/curves_to_bounds/curvestobounds/curve/TokenBucket;)D"⟩ : MethodName)) hown183 (mvT hZ183 (hw _ (List.mem_of_getElem? (i := 56) rfl))) (mvT hZ183 (hw _ (List.mem_of_getElem? (i := 57) rfl))) (notFace_of_selects (args := #[]) (mvT hZ183 (hw _ (List.mem_of_getElem? (i := 59) rfl)))) (mvT hZ183 (hw _ (List.mem_of_getElem? (i := 59) rfl))) (mvT hZ183 (hw _ (List.mem_of_getElem? (i := 58) rfl))) (by decide) (backOf (W := 0) (rm8 l Z a0 hw [] b161 b173 (bR.toInt64) (tT.toInt64) (bR.toInt64) (bq.toInt64) T183.heap n0 (by exact y186) y189 y190 F183a F183b E183q (own_b32 _) (own_b32 _) (fun q_ => absurd (own_z0 hc160) q_)) hZ183 (hw _ (List.mem_of_getElem? (i := 60) rfl)) (hw _ (List.mem_of_getElem? (i := 4) rfl)) (by decide) (by decide)) q193a q193c (g := (mkF m 155 #[.val (.int p1), .val (.int p2), .val (.int p3), .val (.int p4), .val (.int p5), .val (.int p6), .val (.int bR), .val (.int (((p2.toUInt32 >>> ((2 : Int32) &&& 31).toUInt32).toInt32) &&& (3 : Int32))), .val (.int bR), .val (.int tT), .val (.int kk), .val (.int (0 : Int32)), .val (.int bq), .val (.ref b161), .val (.ref b173), .unset, .unset, .unset, .unset] [(.ref b173), (.ref b161)])) rfl (by rw [hml]; rfl) (Steps.refl _) (argsL := [(.ref b173)]) (rest := []) (lenOf pd_6 rfl) rfl (by show 2 * 0 + _ ≤ _; exact Nat.le_of_eq rfl) (hb hby at_155) (fun _ _ => ⟨rfl, rfl, (by decide : 10 + 0 ≤ _), (by decide : 100 + 0 ≤ _)⟩)
          dsimp only [Pt.U, Pt.locs, Pt.cells, Pt.slots] at X193 l193 y193 z193 st193 hQ193
          subst l193 y193 z193
          obtain ⟨rfl, N193q, e193⟩ := hQ193
          have N193 := Fr.app N183 N193q
          refine own_via st193 ?_
          show own_Fin p e below _ (T193.setTop (mkF m 158 #[.val (.int p1), .val (.int p2), .val (.int p3), .val (.int p4), .val (.int p5), .val (.int p6), .val (.int bR), .val (.int (((p2.toUInt32 >>> ((2 : Int32) &&& 31).toUInt32).toInt32) &&& (3 : Int32))), .val (.int bR), .val (.int tT), .val (.int kk), .val (.int (0 : Int32)), .val (.int bq), .val (.ref b161), .val (.ref b173), .unset, .unset, .unset, .unset] [(.double (if bR.toInt64 = 0 ∨ bR.toInt64 < bR.toInt64 then (9218868437227405312 : UInt64) else FP.dadd (FP.l2d tT.toInt64) (FP.ddiv (FP.l2d bq.toInt64) (FP.l2d bR.toInt64))))]))
          obtain ⟨bd, hbd⟩ : ∃ q : UInt64, q = (if bR.toInt64 = 0 ∨ bR.toInt64 < bR.toInt64 then (9218868437227405312 : UInt64) else FP.dadd (FP.l2d tT.toInt64) (FP.ddiv (FP.l2d bq.toInt64) (FP.l2d bR.toInt64))) := ⟨_, rfl⟩
          rw [← hbd]
          show own_Fin p e below _ (T193.setTop (mkF m 158 #[.val (.int p1), .val (.int p2), .val (.int p3), .val (.int p4), .val (.int p5), .val (.int p6), .val (.int bR), .val (.int (((p2.toUInt32 >>> ((2 : Int32) &&& 31).toUInt32).toInt32) &&& (3 : Int32))), .val (.int bR), .val (.int tT), .val (.int kk), .val (.int (0 : Int32)), .val (.int bq), .val (.ref b161), .val (.ref b173), .unset, .unset, .unset, .unset] [(.double bd)]))
          refine own_on (fun tq => XS.dstore X193.here hx rfl (hb hby at_158) rfl (l' := #[.val (.int p1), .val (.int p2), .val (.int p3), .val (.int p4), .val (.int p5), .val (.int p6), .val (.int bR), .val (.int (((p2.toUInt32 >>> ((2 : Int32) &&& 31).toUInt32).toInt32) &&& (3 : Int32))), .val (.int bR), .val (.int tT), .val (.int kk), .val (.int (0 : Int32)), .val (.int bq), .val (.ref b161), .val (.ref b173), .val (.double bd), .second, .unset, .unset]) rfl) ?_
          show own_Fin p e below _ (T193.setTop (mkF m 160 #[.val (.int p1), .val (.int p2), .val (.int p3), .val (.int p4), .val (.int p5), .val (.int p6), .val (.int bR), .val (.int (((p2.toUInt32 >>> ((2 : Int32) &&& 31).toUInt32).toInt32) &&& (3 : Int32))), .val (.int bR), .val (.int tT), .val (.int kk), .val (.int (0 : Int32)), .val (.int bq), .val (.ref b161), .val (.ref b173), .val (.double bd), .second, .unset, .unset] []))
          refine own_on (fun tq => XS.iload X193.here hx rfl (hb hby at_160) rfl) ?_
          show own_Fin p e below _ (T193.setTop (mkF m 162 #[.val (.int p1), .val (.int p2), .val (.int p3), .val (.int p4), .val (.int p5), .val (.int p6), .val (.int bR), .val (.int (((p2.toUInt32 >>> ((2 : Int32) &&& 31).toUInt32).toInt32) &&& (3 : Int32))), .val (.int bR), .val (.int tT), .val (.int kk), .val (.int (0 : Int32)), .val (.int bq), .val (.ref b161), .val (.ref b173), .val (.double bd), .second, .unset, .unset] [(.int bR)]))
          refine own_on (fun tq => XS.ifYes X193.here hx rfl (pc0 := 162) (pc' := 172) rfl (hb hby at_162) rfl ((if0 _ _).trans (teq hc160).1) (by decide) (by decide)) ?_
          show own_Fin p e below _ (T193.setTop (mkF m 172 #[.val (.int p1), .val (.int p2), .val (.int p3), .val (.int p4), .val (.int p5), .val (.int p6), .val (.int bR), .val (.int (((p2.toUInt32 >>> ((2 : Int32) &&& 31).toUInt32).toInt32) &&& (3 : Int32))), .val (.int bR), .val (.int tT), .val (.int kk), .val (.int (0 : Int32)), .val (.int bq), .val (.ref b161), .val (.ref b173), .val (.double bd), .second, .unset, .unset] []))
          refine own_on (fun tq => XS.dload X193.here hx rfl (hb hby at_172) rfl) ?_
          show own_Fin p e below _ (T193.setTop (mkF m 174 #[.val (.int p1), .val (.int p2), .val (.int p3), .val (.int p4), .val (.int p5), .val (.int p6), .val (.int bR), .val (.int (((p2.toUInt32 >>> ((2 : Int32) &&& 31).toUInt32).toInt32) &&& (3 : Int32))), .val (.int bR), .val (.int tT), .val (.int kk), .val (.int (0 : Int32)), .val (.int bq), .val (.ref b161), .val (.ref b173), .val (.double bd), .second, .unset, .unset] [(.double bd)]))
          refine own_on (fun tq => X193.ldc2DoubleC hx hown183 (mvT hZ183 (hw _ (List.mem_of_getElem? (i := 62) rfl))) (g := (mkF m 174 #[.val (.int p1), .val (.int p2), .val (.int p3), .val (.int p4), .val (.int p5), .val (.int p6), .val (.int bR), .val (.int (((p2.toUInt32 >>> ((2 : Int32) &&& 31).toUInt32).toInt32) &&& (3 : Int32))), .val (.int bR), .val (.int tT), .val (.int kk), .val (.int (0 : Int32)), .val (.int bq), .val (.ref b161), .val (.ref b173), .val (.double bd), .second, .unset, .unset] [(.double bd)])) rfl (hb hby at_174) tq) ?_
          show own_Fin p e below _ (T193.setTop (mkF m 177 #[.val (.int p1), .val (.int p2), .val (.int p3), .val (.int p4), .val (.int p5), .val (.int p6), .val (.int bR), .val (.int (((p2.toUInt32 >>> ((2 : Int32) &&& 31).toUInt32).toInt32) &&& (3 : Int32))), .val (.int bR), .val (.int tT), .val (.int kk), .val (.int (0 : Int32)), .val (.int bq), .val (.ref b161), .val (.ref b173), .val (.double bd), .second, .unset, .unset] [(.double (9218868437227405312 : UInt64)), (.double bd)]))
          refine own_on (fun tq => XS.dcmpS X193.here hx rfl (hb hby at_177) rfl (own_pinf (hbd.trans (if_pos (Or.inl (own_z0 hc160)))))) ?_
          show own_Fin p e below _ (T193.setTop (mkF m 178 #[.val (.int p1), .val (.int p2), .val (.int p3), .val (.int p4), .val (.int p5), .val (.int p6), .val (.int bR), .val (.int (((p2.toUInt32 >>> ((2 : Int32) &&& 31).toUInt32).toInt32) &&& (3 : Int32))), .val (.int bR), .val (.int tT), .val (.int kk), .val (.int (0 : Int32)), .val (.int bq), .val (.ref b161), .val (.ref b173), .val (.double bd), .second, .unset, .unset] [(.int (0 : Int32))]))
          refine own_on (fun tq => XS.ifNo X193.here hx rfl (hb hby at_178) rfl ((if0 _ _).trans (teq (by decide : (0 : Int32) = (0 : Int32))).2)) ?_
          show own_Fin p e below _ (T193.setTop (mkF m 181 #[.val (.int p1), .val (.int p2), .val (.int p3), .val (.int p4), .val (.int p5), .val (.int p6), .val (.int bR), .val (.int (((p2.toUInt32 >>> ((2 : Int32) &&& 31).toUInt32).toInt32) &&& (3 : Int32))), .val (.int bR), .val (.int tT), .val (.int kk), .val (.int (0 : Int32)), .val (.int bq), .val (.ref b161), .val (.ref b173), .val (.double bd), .second, .unset, .unset] []))
          refine own_on (fun tq => XS.iconst X193.here hx rfl (hb hby at_181)) ?_
          show own_Fin p e below _ (T193.setTop (mkF m 182 #[.val (.int p1), .val (.int p2), .val (.int p3), .val (.int p4), .val (.int p5), .val (.int p6), .val (.int bR), .val (.int (((p2.toUInt32 >>> ((2 : Int32) &&& 31).toUInt32).toInt32) &&& (3 : Int32))), .val (.int bR), .val (.int tT), .val (.int kk), .val (.int (0 : Int32)), .val (.int bq), .val (.ref b161), .val (.ref b173), .val (.double bd), .second, .unset, .unset] [(.int (1 : Int32))]))
          refine own_on (fun tq => XS.goto X193.here hx rfl (pc0 := 182) (pc' := 186) rfl (hb hby at_182) (by decide) (by decide)) ?_
          show own_Fin p e below _ (T193.setTop (mkF m 186 #[.val (.int p1), .val (.int p2), .val (.int p3), .val (.int p4), .val (.int p5), .val (.int p6), .val (.int bR), .val (.int (((p2.toUInt32 >>> ((2 : Int32) &&& 31).toUInt32).toInt32) &&& (3 : Int32))), .val (.int bR), .val (.int tT), .val (.int kk), .val (.int (0 : Int32)), .val (.int bq), .val (.ref b161), .val (.ref b173), .val (.double bd), .second, .unset, .unset] [(.int (1 : Int32))]))
          exact own_retW (t := .boolean) X193 (Z := Z) (EL := own_EL) (a0 := a0) hx hlk hret rfl (Or.inl ⟨rfl, (by simp), _, rfl⟩) (hb hby at_186) hS183 (by rw [e193]; exact y185) hZ183 hEL (by rw [hh, e193]; exact y184) (⟨rfl, N193⟩) (by decide) (by decide)
        · refine own_on (fun tq => XS.ifYes X0.here hx rfl (pc0 := 81) (pc' := 88) rfl (hb hby at_81) rfl ((if0 _ _).trans (feq hc160).2) (by decide) (by decide)) ?_
          show own_Fin p e below _ (s₁.setTop (mkF m 88 #[.val (.int p1), .val (.int p2), .val (.int p3), .val (.int p4), .val (.int p5), .val (.int p6), .val (.int bR), .val (.int (((p2.toUInt32 >>> ((2 : Int32) &&& 31).toUInt32).toInt32) &&& (3 : Int32))), .val (.int bR), .val (.int tT), .val (.int kk), .unset, .unset, .unset, .unset, .unset, .unset, .unset, .unset] []))
          refine own_on (fun tq => XS.iload X0.here hx rfl (hb hby at_88) rfl) ?_
          show own_Fin p e below _ (s₁.setTop (mkF m 90 #[.val (.int p1), .val (.int p2), .val (.int p3), .val (.int p4), .val (.int p5), .val (.int p6), .val (.int bR), .val (.int (((p2.toUInt32 >>> ((2 : Int32) &&& 31).toUInt32).toInt32) &&& (3 : Int32))), .val (.int bR), .val (.int tT), .val (.int kk), .unset, .unset, .unset, .unset, .unset, .unset, .unset, .unset] [(.int p6)]))
          refine own_on (fun tq => X0.ldcInt hx hown (mvT hZ (hw _ (List.mem_of_getElem? (i := 1) rfl))) (g := (mkF m 90 #[.val (.int p1), .val (.int p2), .val (.int p3), .val (.int p4), .val (.int p5), .val (.int p6), .val (.int bR), .val (.int (((p2.toUInt32 >>> ((2 : Int32) &&& 31).toUInt32).toInt32) &&& (3 : Int32))), .val (.int bR), .val (.int tT), .val (.int kk), .unset, .unset, .unset, .unset, .unset, .unset, .unset, .unset] [(.int p6)])) rfl (hb hby at_90) tq) ?_
          show own_Fin p e below _ (s₁.setTop (mkF m 92 #[.val (.int p1), .val (.int p2), .val (.int p3), .val (.int p4), .val (.int p5), .val (.int p6), .val (.int bR), .val (.int (((p2.toUInt32 >>> ((2 : Int32) &&& 31).toUInt32).toInt32) &&& (3 : Int32))), .val (.int bR), .val (.int tT), .val (.int kk), .unset, .unset, .unset, .unset, .unset, .unset, .unset, .unset] [(.int (2147483647 : Int32)), (.int p6)]))
          refine own_on (fun tq => XS.iand X0.here hx rfl (hb hby at_92) rfl) ?_
          show own_Fin p e below _ (s₁.setTop (mkF m 93 #[.val (.int p1), .val (.int p2), .val (.int p3), .val (.int p4), .val (.int p5), .val (.int p6), .val (.int bR), .val (.int (((p2.toUInt32 >>> ((2 : Int32) &&& 31).toUInt32).toInt32) &&& (3 : Int32))), .val (.int bR), .val (.int tT), .val (.int kk), .unset, .unset, .unset, .unset, .unset, .unset, .unset, .unset] [(.int (p6 &&& (2147483647 : Int32)))]))
          refine own_on (fun tq => XS.iload X0.here hx rfl (hb hby at_93) rfl) ?_
          show own_Fin p e below _ (s₁.setTop (mkF m 95 #[.val (.int p1), .val (.int p2), .val (.int p3), .val (.int p4), .val (.int p5), .val (.int p6), .val (.int bR), .val (.int (((p2.toUInt32 >>> ((2 : Int32) &&& 31).toUInt32).toInt32) &&& (3 : Int32))), .val (.int bR), .val (.int tT), .val (.int kk), .unset, .unset, .unset, .unset, .unset, .unset, .unset, .unset] [(.int bR), (.int (p6 &&& (2147483647 : Int32)))]))
          refine own_on (fun tq => iremM X0 hx rfl (hb hby at_95) rfl hc160) ?_
          show own_Fin p e below _ (s₁.setTop (mkF m 96 #[.val (.int p1), .val (.int p2), .val (.int p3), .val (.int p4), .val (.int p5), .val (.int p6), .val (.int bR), .val (.int (((p2.toUInt32 >>> ((2 : Int32) &&& 31).toUInt32).toInt32) &&& (3 : Int32))), .val (.int bR), .val (.int tT), .val (.int kk), .unset, .unset, .unset, .unset, .unset, .unset, .unset, .unset] [(.int ((p6 &&& (2147483647 : Int32)) % bR))]))
          refine own_on (fun tq => XS.istore X0.here hx rfl (hb hby at_96) rfl (l' := #[.val (.int p1), .val (.int p2), .val (.int p3), .val (.int p4), .val (.int p5), .val (.int p6), .val (.int bR), .val (.int (((p2.toUInt32 >>> ((2 : Int32) &&& 31).toUInt32).toInt32) &&& (3 : Int32))), .val (.int bR), .val (.int tT), .val (.int kk), .val (.int ((p6 &&& (2147483647 : Int32)) % bR)), .unset, .unset, .unset, .unset, .unset, .unset, .unset]) rfl) ?_
          show own_Fin p e below _ (s₁.setTop (mkF m 98 #[.val (.int p1), .val (.int p2), .val (.int p3), .val (.int p4), .val (.int p5), .val (.int p6), .val (.int bR), .val (.int (((p2.toUInt32 >>> ((2 : Int32) &&& 31).toUInt32).toInt32) &&& (3 : Int32))), .val (.int bR), .val (.int tT), .val (.int kk), .val (.int ((p6 &&& (2147483647 : Int32)) % bR)), .unset, .unset, .unset, .unset, .unset, .unset, .unset] []))
          obtain ⟨mq, hmq⟩ : ∃ q : Int32, q = ((p6 &&& (2147483647 : Int32)) % bR) := ⟨_, rfl⟩
          have rm : 0 ≤ mq.toInt ∧ mq.toInt < bR.toInt := hmq ▸ own_rm rR hc160
          rw [← hmq]
          show own_Fin p e below _ (s₁.setTop (mkF m 98 #[.val (.int p1), .val (.int p2), .val (.int p3), .val (.int p4), .val (.int p5), .val (.int p6), .val (.int bR), .val (.int (((p2.toUInt32 >>> ((2 : Int32) &&& 31).toUInt32).toInt32) &&& (3 : Int32))), .val (.int bR), .val (.int tT), .val (.int kk), .val (.int mq), .unset, .unset, .unset, .unset, .unset, .unset, .unset] []))
          refine own_on (fun tq => XS.iload X0.here hx rfl (hb hby at_98) rfl) ?_
          show own_Fin p e below _ (s₁.setTop (mkF m 100 #[.val (.int p1), .val (.int p2), .val (.int p3), .val (.int p4), .val (.int p5), .val (.int p6), .val (.int bR), .val (.int (((p2.toUInt32 >>> ((2 : Int32) &&& 31).toUInt32).toInt32) &&& (3 : Int32))), .val (.int bR), .val (.int tT), .val (.int kk), .val (.int mq), .unset, .unset, .unset, .unset, .unset, .unset, .unset] [(.int bR)]))
          refine own_on (fun tq => XS.ifYes X0.here hx rfl (pc0 := 100) (pc' := 111) rfl (hb hby at_100) rfl ((if0 _ _).trans (feq hc160).2) (by decide) (by decide)) ?_
          show own_Fin p e below _ (s₁.setTop (mkF m 111 #[.val (.int p1), .val (.int p2), .val (.int p3), .val (.int p4), .val (.int p5), .val (.int p6), .val (.int bR), .val (.int (((p2.toUInt32 >>> ((2 : Int32) &&& 31).toUInt32).toInt32) &&& (3 : Int32))), .val (.int bR), .val (.int tT), .val (.int kk), .val (.int mq), .unset, .unset, .unset, .unset, .unset, .unset, .unset] []))
          refine own_on (fun tq => XS.iload X0.here hx rfl (hb hby at_111) rfl) ?_
          show own_Fin p e below _ (s₁.setTop (mkF m 113 #[.val (.int p1), .val (.int p2), .val (.int p3), .val (.int p4), .val (.int p5), .val (.int p6), .val (.int bR), .val (.int (((p2.toUInt32 >>> ((2 : Int32) &&& 31).toUInt32).toInt32) &&& (3 : Int32))), .val (.int bR), .val (.int tT), .val (.int kk), .val (.int mq), .unset, .unset, .unset, .unset, .unset, .unset, .unset] [(.int bR)]))
          refine own_on (fun tq => XS.iload X0.here hx rfl (hb hby at_113) rfl) ?_
          show own_Fin p e below _ (s₁.setTop (mkF m 115 #[.val (.int p1), .val (.int p2), .val (.int p3), .val (.int p4), .val (.int p5), .val (.int p6), .val (.int bR), .val (.int (((p2.toUInt32 >>> ((2 : Int32) &&& 31).toUInt32).toInt32) &&& (3 : Int32))), .val (.int bR), .val (.int tT), .val (.int kk), .val (.int mq), .unset, .unset, .unset, .unset, .unset, .unset, .unset] [(.int kk), (.int bR)]))
          refine own_on (fun tq => XS.imul X0.here hx rfl (hb hby at_115) rfl) ?_
          show own_Fin p e below _ (s₁.setTop (mkF m 116 #[.val (.int p1), .val (.int p2), .val (.int p3), .val (.int p4), .val (.int p5), .val (.int p6), .val (.int bR), .val (.int (((p2.toUInt32 >>> ((2 : Int32) &&& 31).toUInt32).toInt32) &&& (3 : Int32))), .val (.int bR), .val (.int tT), .val (.int kk), .val (.int mq), .unset, .unset, .unset, .unset, .unset, .unset, .unset] [(.int (bR * kk))]))
          refine own_on (fun tq => XS.iload X0.here hx rfl (hb hby at_116) rfl) ?_
          show own_Fin p e below _ (s₁.setTop (mkF m 118 #[.val (.int p1), .val (.int p2), .val (.int p3), .val (.int p4), .val (.int p5), .val (.int p6), .val (.int bR), .val (.int (((p2.toUInt32 >>> ((2 : Int32) &&& 31).toUInt32).toInt32) &&& (3 : Int32))), .val (.int bR), .val (.int tT), .val (.int kk), .val (.int mq), .unset, .unset, .unset, .unset, .unset, .unset, .unset] [(.int mq), (.int (bR * kk))]))
          refine own_on (fun tq => XS.iadd X0.here hx rfl (hb hby at_118) rfl) ?_
          show own_Fin p e below _ (s₁.setTop (mkF m 119 #[.val (.int p1), .val (.int p2), .val (.int p3), .val (.int p4), .val (.int p5), .val (.int p6), .val (.int bR), .val (.int (((p2.toUInt32 >>> ((2 : Int32) &&& 31).toUInt32).toInt32) &&& (3 : Int32))), .val (.int bR), .val (.int tT), .val (.int kk), .val (.int mq), .unset, .unset, .unset, .unset, .unset, .unset, .unset] [(.int ((bR * kk) + mq))]))
          refine own_on (fun tq => XS.istore X0.here hx rfl (hb hby at_119) rfl (l' := #[.val (.int p1), .val (.int p2), .val (.int p3), .val (.int p4), .val (.int p5), .val (.int p6), .val (.int bR), .val (.int (((p2.toUInt32 >>> ((2 : Int32) &&& 31).toUInt32).toInt32) &&& (3 : Int32))), .val (.int bR), .val (.int tT), .val (.int kk), .val (.int mq), .val (.int ((bR * kk) + mq)), .unset, .unset, .unset, .unset, .unset, .unset]) rfl) ?_
          show own_Fin p e below _ (s₁.setTop (mkF m 121 #[.val (.int p1), .val (.int p2), .val (.int p3), .val (.int p4), .val (.int p5), .val (.int p6), .val (.int bR), .val (.int (((p2.toUInt32 >>> ((2 : Int32) &&& 31).toUInt32).toInt32) &&& (3 : Int32))), .val (.int bR), .val (.int tT), .val (.int kk), .val (.int mq), .val (.int ((bR * kk) + mq)), .unset, .unset, .unset, .unset, .unset, .unset] []))
          obtain ⟨bq, hbq⟩ : ∃ q : Int32, q = ((bR * kk) + mq) := ⟨_, rfl⟩
          have hbb : bq.toInt = bR.toInt * kk.toInt + mq.toInt ∧ 0 ≤ bq.toInt := hbq ▸ own_rb rR rk rm
          rw [← hbq]
          show own_Fin p e below _ (s₁.setTop (mkF m 121 #[.val (.int p1), .val (.int p2), .val (.int p3), .val (.int p4), .val (.int p5), .val (.int p6), .val (.int bR), .val (.int (((p2.toUInt32 >>> ((2 : Int32) &&& 31).toUInt32).toInt32) &&& (3 : Int32))), .val (.int bR), .val (.int tT), .val (.int kk), .val (.int mq), .val (.int bq), .unset, .unset, .unset, .unset, .unset, .unset] []))
          obtain ⟨T194, h194, X194, e194, E194, A194, D194, -, st194⟩ := newO X0 hx hZ hown (hw _ (List.mem_of_getElem? (i := 2) rfl)) (hw _ (List.mem_of_getElem? (i := 3) rfl)) (hw _ (List.mem_of_getElem? (i := 4) rfl)) e0 (g := (mkF m 121 #[.val (.int p1), .val (.int p2), .val (.int p3), .val (.int p4), .val (.int p5), .val (.int p6), .val (.int bR), .val (.int (((p2.toUInt32 >>> ((2 : Int32) &&& 31).toUInt32).toInt32) &&& (3 : Int32))), .val (.int bR), .val (.int tT), .val (.int kk), .val (.int mq), .val (.int bq), .unset, .unset, .unset, .unset, .unset, .unset] [])) rfl (hb hby at_121) (by decide) (by decide)
          obtain ⟨b194, g194⟩ : ∃ z, z = h0.size := ⟨_, rfl⟩
          rw [← g194] at A194 D194 st194
          have y195 := (CHv.ext E194 CH0)
          have y196 := (CHr.trans (CHr.refl CH0) (CHr.ext E194 CH0))
          have y197 := (Nat.le_trans (Nat.zero_le _) E194.1)
          have y198 := (Nat.le_trans Z0 E194.1)
          have y199 := (Safe.ext E194 CH0 (Safe.new (Nat.le_of_eq g194.symm)))
          have gn194 : n0 ≤ b194 := Nat.le_trans Z0 (Nat.le_of_eq g194.symm)
          have F194_rate : Fld Z h194 b194 "com/example/curves_to_bounds/curvestobounds/curve/RateLatency" "rate" "D" (.double (0 : UInt64)) := D194 (Or.inr (hw _ (List.mem_of_getElem? (i := 39) rfl))) (ty := .double) (by decide)
          have F194_latency : Fld Z h194 b194 "com/example/curves_to_bounds/curvestobounds/curve/RateLatency" "latency" "D" (.double (0 : UInt64)) := D194 (Or.inr (hw _ (List.mem_of_getElem? (i := 41) rfl))) (ty := .double) (by decide)
          refine own_on st194 ?_
          show own_Fin p e below _ (T194.setTop (mkF m 124 #[.val (.int p1), .val (.int p2), .val (.int p3), .val (.int p4), .val (.int p5), .val (.int p6), .val (.int bR), .val (.int (((p2.toUInt32 >>> ((2 : Int32) &&& 31).toUInt32).toInt32) &&& (3 : Int32))), .val (.int bR), .val (.int tT), .val (.int kk), .val (.int mq), .val (.int bq), .unset, .unset, .unset, .unset, .unset, .unset] [(.ref b194)]))
          refine own_on (fun tq => XS.dup X194.here hx rfl (hb hby at_124) rfl rfl) ?_
          show own_Fin p e below _ (T194.setTop (mkF m 125 #[.val (.int p1), .val (.int p2), .val (.int p3), .val (.int p4), .val (.int p5), .val (.int p6), .val (.int bR), .val (.int (((p2.toUInt32 >>> ((2 : Int32) &&& 31).toUInt32).toInt32) &&& (3 : Int32))), .val (.int bR), .val (.int tT), .val (.int kk), .val (.int mq), .val (.int bq), .unset, .unset, .unset, .unset, .unset, .unset] [(.ref b194), (.ref b194)]))
          refine own_on (fun tq => XS.iload X194.here hx rfl (hb hby at_125) rfl) ?_
          show own_Fin p e below _ (T194.setTop (mkF m 127 #[.val (.int p1), .val (.int p2), .val (.int p3), .val (.int p4), .val (.int p5), .val (.int p6), .val (.int bR), .val (.int (((p2.toUInt32 >>> ((2 : Int32) &&& 31).toUInt32).toInt32) &&& (3 : Int32))), .val (.int bR), .val (.int tT), .val (.int kk), .val (.int mq), .val (.int bq), .unset, .unset, .unset, .unset, .unset, .unset] [(.int bR), (.ref b194), (.ref b194)]))
          refine own_on (fun tq => XS.i2dS X194.here hx rfl (hb hby at_127) rfl (i2d_w _)) ?_
          show own_Fin p e below _ (T194.setTop (mkF m 128 #[.val (.int p1), .val (.int p2), .val (.int p3), .val (.int p4), .val (.int p5), .val (.int p6), .val (.int bR), .val (.int (((p2.toUInt32 >>> ((2 : Int32) &&& 31).toUInt32).toInt32) &&& (3 : Int32))), .val (.int bR), .val (.int tT), .val (.int kk), .val (.int mq), .val (.int bq), .unset, .unset, .unset, .unset, .unset, .unset] [(.double (FP.l2d bR.toInt64)), (.ref b194), (.ref b194)]))
          refine own_on (fun tq => XS.iload X194.here hx rfl (hb hby at_128) rfl) ?_
          show own_Fin p e below _ (T194.setTop (mkF m 130 #[.val (.int p1), .val (.int p2), .val (.int p3), .val (.int p4), .val (.int p5), .val (.int p6), .val (.int bR), .val (.int (((p2.toUInt32 >>> ((2 : Int32) &&& 31).toUInt32).toInt32) &&& (3 : Int32))), .val (.int bR), .val (.int tT), .val (.int kk), .val (.int mq), .val (.int bq), .unset, .unset, .unset, .unset, .unset, .unset] [(.int tT), (.double (FP.l2d bR.toInt64)), (.ref b194), (.ref b194)]))
          refine own_on (fun tq => XS.i2dS X194.here hx rfl (hb hby at_130) rfl (i2d_w _)) ?_
          show own_Fin p e below _ (T194.setTop (mkF m 131 #[.val (.int p1), .val (.int p2), .val (.int p3), .val (.int p4), .val (.int p5), .val (.int p6), .val (.int bR), .val (.int (((p2.toUInt32 >>> ((2 : Int32) &&& 31).toUInt32).toInt32) &&& (3 : Int32))), .val (.int bR), .val (.int tT), .val (.int kk), .val (.int mq), .val (.int bq), .unset, .unset, .unset, .unset, .unset, .unset] [(.double (FP.l2d tT.toInt64)), (.double (FP.l2d bR.toInt64)), (.ref b194), (.ref b194)]))
          obtain ⟨_, _, ⟨T200, L200, k200, n200⟩, -, X200', S200', gr200, ⟨Lc200, hQ200, l200, y200, z200, A200⟩, st200⟩ := X194.specialBackS hx (y := (⟨"com/example/curves_to_bounds/curvestobounds/curve/RateLatency", "<init>", "(DD)V"⟩ : MethodName)) rfl hown (mvT hZ (hw _ (List.mem_of_getElem? (i := 5) rfl))) (mvT hZ (hw _ (List.mem_of_getElem? (i := 6) rfl))) (mvT hZ (hw _ (List.mem_of_getElem? (i := 7) rfl))) (by decide) (backOfSH (s := s) (W := 1) (rm1 l Z a0 hw [] b194 (FP.l2d bR.toInt64) (FP.l2d tT.toInt64) h194 n0 (by exact y198) hEL (own_okI rR.1) (own_okI rT.1) A194 F194_rate F194_latency gn194) hZ (hw _ (List.mem_of_getElem? (i := 7) rfl)) (hw _ (List.mem_of_getElem? (i := 4) rfl)) (by decide) (by decide) hEL y195) (g := (mkF m 131 #[.val (.int p1), .val (.int p2), .val (.int p3), .val (.int p4), .val (.int p5), .val (.int p6), .val (.int bR), .val (.int (((p2.toUInt32 >>> ((2 : Int32) &&& 31).toUInt32).toInt32) &&& (3 : Int32))), .val (.int bR), .val (.int tT), .val (.int kk), .val (.int mq), .val (.int bq), .unset, .unset, .unset, .unset, .unset, .unset] [(.double (FP.l2d tT.toInt64)), (.double (FP.l2d bR.toInt64)), (.ref b194), (.ref b194)])) rfl (by rw [hml]; rfl) (Steps.refl _) (a := b194) (argsL := [(.double (FP.l2d bR.toInt64)), (.double (FP.l2d tT.toInt64))]) (rest := [(.ref b194)]) (lenOf pd_5 rfl) rfl (by show 2 * 0 + _ ≤ _; exact Nat.le_of_eq rfl) (hb hby at_131) (fun _ _ => ⟨rfl, e194, (by decide : 1 + 4 ≤ _), (by decide : 2 + 52 ≤ _)⟩)
          dsimp only [Pt.U, Pt.locs, Pt.cells, Pt.slots] at X200' S200' gr200 l200 y200 z200 st200 hQ200 A200
          subst l200 y200 z200
          obtain ⟨X200, hS200, hZ200, hown200⟩ := rebS hS0 (by first | exact y197 | (rw [e194]; exact y197)) X200' S200' gr200 hZ hown
          obtain ⟨rfl, N200q, K200, E200q, F200a, F200b⟩ := hQ200
          have N200 := Fr.app N0 N200q
          have y201 := (CHr.trans y196 A200)
          have y202 := (Nat.le_refl (Array.size T200.heap))
          have y203 := (Nat.le_trans y198 K200.1)
          have y204 := (CHr.safe A200 F194_latency.lt y199)
          have y205 := (A194.keep K200)
          refine own_via st200 ?_
          show own_Fin p e below _ (T200.setTop (mkF m 134 #[.val (.int p1), .val (.int p2), .val (.int p3), .val (.int p4), .val (.int p5), .val (.int p6), .val (.int bR), .val (.int (((p2.toUInt32 >>> ((2 : Int32) &&& 31).toUInt32).toInt32) &&& (3 : Int32))), .val (.int bR), .val (.int tT), .val (.int kk), .val (.int mq), .val (.int bq), .unset, .unset, .unset, .unset, .unset, .unset] [(.ref b194)]))
          refine own_on (fun tq => XS.astore X200.here hx rfl (hb hby at_134) rfl rfl (l' := #[.val (.int p1), .val (.int p2), .val (.int p3), .val (.int p4), .val (.int p5), .val (.int p6), .val (.int bR), .val (.int (((p2.toUInt32 >>> ((2 : Int32) &&& 31).toUInt32).toInt32) &&& (3 : Int32))), .val (.int bR), .val (.int tT), .val (.int kk), .val (.int mq), .val (.int bq), .val (.ref b194), .unset, .unset, .unset, .unset, .unset]) rfl) ?_
          show own_Fin p e below _ (T200.setTop (mkF m 136 #[.val (.int p1), .val (.int p2), .val (.int p3), .val (.int p4), .val (.int p5), .val (.int p6), .val (.int bR), .val (.int (((p2.toUInt32 >>> ((2 : Int32) &&& 31).toUInt32).toInt32) &&& (3 : Int32))), .val (.int bR), .val (.int tT), .val (.int kk), .val (.int mq), .val (.int bq), .val (.ref b194), .unset, .unset, .unset, .unset, .unset] []))
          obtain ⟨T206, h206, X206, e206, E206, A206, D206, -, st206⟩ := newO X200 hx hZ200 hown200 (hw _ (List.mem_of_getElem? (i := 42) rfl)) (hw _ (List.mem_of_getElem? (i := 43) rfl)) (hw _ (List.mem_of_getElem? (i := 44) rfl)) rfl (g := (mkF m 136 #[.val (.int p1), .val (.int p2), .val (.int p3), .val (.int p4), .val (.int p5), .val (.int p6), .val (.int bR), .val (.int (((p2.toUInt32 >>> ((2 : Int32) &&& 31).toUInt32).toInt32) &&& (3 : Int32))), .val (.int bR), .val (.int tT), .val (.int kk), .val (.int mq), .val (.int bq), .val (.ref b194), .unset, .unset, .unset, .unset, .unset] [])) rfl (hb hby at_136) (by decide) (by decide)
          obtain ⟨b206, g206⟩ : ∃ z, z = T200.heap.size := ⟨_, rfl⟩
          rw [← g206] at A206 D206 st206
          have ne206_b194 : b194 ≠ b206 := own_ne_of (Z := Z) E200q.lt g206
          have y207 := (CHv.ext E206 A200.1)
          have y208 := (CHr.trans y201 (CHr.ext E206 A200.1))
          have y209 := (Nat.le_trans y202 E206.1)
          have y210 := (Nat.le_trans y203 E206.1)
          have y211 := (Safe.ext E206 A200.1 y204)
          have y212 := (E200q.ext E206)
          have y213 := (F200a.ext E206)
          have y214 := (F200b.ext E206)
          have y215 := (Safe.ext E206 A200.1 (Safe.new (Nat.le_of_eq g206.symm)))
          have gn206 : n0 ≤ b206 := Nat.le_trans y203 (Nat.le_of_eq g206.symm)
          have F206_rate : Fld Z h206 b206 "com/example/curves_to_bounds/curvestobounds/curve/TokenBucket" "rate" "D" (.double (0 : UInt64)) := D206 (Or.inr (hw _ (List.mem_of_getElem? (i := 53) rfl))) (ty := .double) (by decide)
          have F206_burst : Fld Z h206 b206 "com/example/curves_to_bounds/curvestobounds/curve/TokenBucket" "burst" "D" (.double (0 : UInt64)) := D206 (Or.inr (hw _ (List.mem_of_getElem? (i := 55) rfl))) (ty := .double) (by decide)
          refine own_on st206 ?_
          show own_Fin p e below _ (T206.setTop (mkF m 139 #[.val (.int p1), .val (.int p2), .val (.int p3), .val (.int p4), .val (.int p5), .val (.int p6), .val (.int bR), .val (.int (((p2.toUInt32 >>> ((2 : Int32) &&& 31).toUInt32).toInt32) &&& (3 : Int32))), .val (.int bR), .val (.int tT), .val (.int kk), .val (.int mq), .val (.int bq), .val (.ref b194), .unset, .unset, .unset, .unset, .unset] [(.ref b206)]))
          refine own_on (fun tq => XS.dup X206.here hx rfl (hb hby at_139) rfl rfl) ?_
          show own_Fin p e below _ (T206.setTop (mkF m 140 #[.val (.int p1), .val (.int p2), .val (.int p3), .val (.int p4), .val (.int p5), .val (.int p6), .val (.int bR), .val (.int (((p2.toUInt32 >>> ((2 : Int32) &&& 31).toUInt32).toInt32) &&& (3 : Int32))), .val (.int bR), .val (.int tT), .val (.int kk), .val (.int mq), .val (.int bq), .val (.ref b194), .unset, .unset, .unset, .unset, .unset] [(.ref b206), (.ref b206)]))
          refine own_on (fun tq => XS.iload X206.here hx rfl (hb hby at_140) rfl) ?_
          show own_Fin p e below _ (T206.setTop (mkF m 142 #[.val (.int p1), .val (.int p2), .val (.int p3), .val (.int p4), .val (.int p5), .val (.int p6), .val (.int bR), .val (.int (((p2.toUInt32 >>> ((2 : Int32) &&& 31).toUInt32).toInt32) &&& (3 : Int32))), .val (.int bR), .val (.int tT), .val (.int kk), .val (.int mq), .val (.int bq), .val (.ref b194), .unset, .unset, .unset, .unset, .unset] [(.int bR), (.ref b206), (.ref b206)]))
          refine own_on (fun tq => XS.i2dS X206.here hx rfl (hb hby at_142) rfl (i2d_w _)) ?_
          show own_Fin p e below _ (T206.setTop (mkF m 143 #[.val (.int p1), .val (.int p2), .val (.int p3), .val (.int p4), .val (.int p5), .val (.int p6), .val (.int bR), .val (.int (((p2.toUInt32 >>> ((2 : Int32) &&& 31).toUInt32).toInt32) &&& (3 : Int32))), .val (.int bR), .val (.int tT), .val (.int kk), .val (.int mq), .val (.int bq), .val (.ref b194), .unset, .unset, .unset, .unset, .unset] [(.double (FP.l2d bR.toInt64)), (.ref b206), (.ref b206)]))
          refine own_on (fun tq => XS.iload X206.here hx rfl (hb hby at_143) rfl) ?_
          show own_Fin p e below _ (T206.setTop (mkF m 145 #[.val (.int p1), .val (.int p2), .val (.int p3), .val (.int p4), .val (.int p5), .val (.int p6), .val (.int bR), .val (.int (((p2.toUInt32 >>> ((2 : Int32) &&& 31).toUInt32).toInt32) &&& (3 : Int32))), .val (.int bR), .val (.int tT), .val (.int kk), .val (.int mq), .val (.int bq), .val (.ref b194), .unset, .unset, .unset, .unset, .unset] [(.int bq), (.double (FP.l2d bR.toInt64)), (.ref b206), (.ref b206)]))
          refine own_on (fun tq => XS.i2dS X206.here hx rfl (hb hby at_145) rfl (i2d_w _)) ?_
          show own_Fin p e below _ (T206.setTop (mkF m 146 #[.val (.int p1), .val (.int p2), .val (.int p3), .val (.int p4), .val (.int p5), .val (.int p6), .val (.int bR), .val (.int (((p2.toUInt32 >>> ((2 : Int32) &&& 31).toUInt32).toInt32) &&& (3 : Int32))), .val (.int bR), .val (.int tT), .val (.int kk), .val (.int mq), .val (.int bq), .val (.ref b194), .unset, .unset, .unset, .unset, .unset] [(.double (FP.l2d bq.toInt64)), (.double (FP.l2d bR.toInt64)), (.ref b206), (.ref b206)]))
          obtain ⟨_, _, ⟨T216, L216, k216, n216⟩, -, X216', S216', gr216, ⟨Lc216, hQ216, l216, y216, z216, A216⟩, st216⟩ := X206.specialBackS hx (y := (⟨"com/example/curves_to_bounds/curvestobounds/curve/TokenBucket", "<init>", "(DD)V"⟩ : MethodName)) rfl hown200 (mvT hZ200 (hw _ (List.mem_of_getElem? (i := 45) rfl))) (mvT hZ200 (hw _ (List.mem_of_getElem? (i := 46) rfl))) (mvT hZ200 (hw _ (List.mem_of_getElem? (i := 47) rfl))) (by decide) (backOfSH (s := s) (W := 1) (rm7 l Z a0 hw [] b206 (FP.l2d bR.toInt64) (FP.l2d bq.toInt64) h206 n0 (by exact y210) hEL (own_okI rR.1) (own_okI hbb.2) A206 F206_rate F206_burst gn206) hZ200 (hw _ (List.mem_of_getElem? (i := 47) rfl)) (hw _ (List.mem_of_getElem? (i := 44) rfl)) (by decide) (by decide) hEL y207) (g := (mkF m 146 #[.val (.int p1), .val (.int p2), .val (.int p3), .val (.int p4), .val (.int p5), .val (.int p6), .val (.int bR), .val (.int (((p2.toUInt32 >>> ((2 : Int32) &&& 31).toUInt32).toInt32) &&& (3 : Int32))), .val (.int bR), .val (.int tT), .val (.int kk), .val (.int mq), .val (.int bq), .val (.ref b194), .unset, .unset, .unset, .unset, .unset] [(.double (FP.l2d bq.toInt64)), (.double (FP.l2d bR.toInt64)), (.ref b206), (.ref b206)])) rfl (by rw [hml]; rfl) (Steps.refl _) (a := b206) (argsL := [(.double (FP.l2d bR.toInt64)), (.double (FP.l2d bq.toInt64))]) (rest := [(.ref b206)]) (lenOf pd_5 rfl) rfl (by show 2 * 0 + _ ≤ _; exact Nat.le_of_eq rfl) (hb hby at_146) (fun _ _ => ⟨rfl, e206, (by decide : 6 + 4 ≤ _), (by decide : 56 + 44 ≤ _)⟩)
          dsimp only [Pt.U, Pt.locs, Pt.cells, Pt.slots] at X216' S216' gr216 l216 y216 z216 st216 hQ216 A216
          subst l216 y216 z216
          obtain ⟨X216, hS216, hZ216, hown216⟩ := rebS hS200 (by first | exact y209 | (rw [e206]; exact y209)) X216' S216' gr216 hZ200 hown200
          obtain ⟨rfl, N216q, K216, E216q, F216a, F216b⟩ := hQ216
          have N216 := Fr.app N200 N216q
          have y217 := (CHr.trans y208 A216)
          have y218 := (Nat.le_refl (Array.size T216.heap))
          have y219 := (Nat.le_trans y210 K216.1)
          have y220 := (CHr.safe A216 y214.lt y211)
          have y221 := (y212.keep K216)
          have y222 := (y213.keep K216 (ninS ne206_b194 nin0))
          have y223 := (y214.keep K216 (ninS ne206_b194 nin0))
          have y224 := (CHr.safe A216 F206_burst.lt y215)
          have y225 := (A206.keep K216)
          refine own_via st216 ?_
          show own_Fin p e below _ (T216.setTop (mkF m 149 #[.val (.int p1), .val (.int p2), .val (.int p3), .val (.int p4), .val (.int p5), .val (.int p6), .val (.int bR), .val (.int (((p2.toUInt32 >>> ((2 : Int32) &&& 31).toUInt32).toInt32) &&& (3 : Int32))), .val (.int bR), .val (.int tT), .val (.int kk), .val (.int mq), .val (.int bq), .val (.ref b194), .unset, .unset, .unset, .unset, .unset] [(.ref b206)]))
          refine own_on (fun tq => XS.astore X216.here hx rfl (hb hby at_149) rfl rfl (l' := #[.val (.int p1), .val (.int p2), .val (.int p3), .val (.int p4), .val (.int p5), .val (.int p6), .val (.int bR), .val (.int (((p2.toUInt32 >>> ((2 : Int32) &&& 31).toUInt32).toInt32) &&& (3 : Int32))), .val (.int bR), .val (.int tT), .val (.int kk), .val (.int mq), .val (.int bq), .val (.ref b194), .val (.ref b206), .unset, .unset, .unset, .unset]) rfl) ?_
          show own_Fin p e below _ (T216.setTop (mkF m 151 #[.val (.int p1), .val (.int p2), .val (.int p3), .val (.int p4), .val (.int p5), .val (.int p6), .val (.int bR), .val (.int (((p2.toUInt32 >>> ((2 : Int32) &&& 31).toUInt32).toInt32) &&& (3 : Int32))), .val (.int bR), .val (.int tT), .val (.int kk), .val (.int mq), .val (.int bq), .val (.ref b194), .val (.ref b206), .unset, .unset, .unset, .unset] []))
          refine own_on (fun tq => XS.aload X216.here hx rfl (hb hby at_151) rfl rfl) ?_
          show own_Fin p e below _ (T216.setTop (mkF m 153 #[.val (.int p1), .val (.int p2), .val (.int p3), .val (.int p4), .val (.int p5), .val (.int p6), .val (.int bR), .val (.int (((p2.toUInt32 >>> ((2 : Int32) &&& 31).toUInt32).toInt32) &&& (3 : Int32))), .val (.int bR), .val (.int tT), .val (.int kk), .val (.int mq), .val (.int bq), .val (.ref b194), .val (.ref b206), .unset, .unset, .unset, .unset] [(.ref b194)]))
          refine own_on (fun tq => XS.aload X216.here hx rfl (hb hby at_153) rfl rfl) ?_
          show own_Fin p e below _ (T216.setTop (mkF m 155 #[.val (.int p1), .val (.int p2), .val (.int p3), .val (.int p4), .val (.int p5), .val (.int p6), .val (.int bR), .val (.int (((p2.toUInt32 >>> ((2 : Int32) &&& 31).toUInt32).toInt32) &&& (3 : Int32))), .val (.int bR), .val (.int tT), .val (.int kk), .val (.int mq), .val (.int bq), .val (.ref b194), .val (.ref b206), .unset, .unset, .unset, .unset] [(.ref b206), (.ref b194)]))
          obtain ⟨cq226, kq226, q226a, q226b, q226c⟩ := isOf hZ216 rfl y221
          obtain ⟨_, _, ⟨T226, L226, k226, n226⟩, -, X226, ⟨Lc226, hQ226, l226, y226, z226⟩, st226⟩ := X216.virtualBack hx (y := (⟨"com/example/curves_to_bounds/curvestobounds/curve/RateLatency", "delayBound", "(Lcom/example/curves_to_bounds/curvestobounds/curve/TokenBucket;)D"⟩ : MethodName)) (z := (⟨"com/example/curves_to_bounds/curvestobounds/curve/RateLatency", "delayBound", "(Lcom/example/curves_to_bounds/curvestobounds/curve/TokenBucket;)D"⟩ : MethodName)) hown216 (mvT hZ216 (hw _ (List.mem_of_getElem? (i := 56) rfl))) (mvT hZ216 (hw _ (List.mem_of_getElem? (i := 57) rfl))) (notFace_of_selects (args := #[]) (mvT hZ216 (hw _ (List.mem_of_getElem? (i := 59) rfl)))) (mvT hZ216 (hw _ (List.mem_of_getElem? (i := 59) rfl))) (mvT hZ216 (hw _ (List.mem_of_getElem? (i := 58) rfl))) (by decide) (backOf (W := 0) (rm8 l Z a0 hw [] b194 b206 (bR.toInt64) (tT.toInt64) (bR.toInt64) (bq.toInt64) T216.heap n0 (by exact y219) y222 y223 F216a F216b E216q (own_b32 _) (own_b32 _) (fun _ => own_nn rR hc160 rT rk rm hbb.1)) hZ216 (hw _ (List.mem_of_getElem? (i := 60) rfl)) (hw _ (List.mem_of_getElem? (i := 4) rfl)) (by decide) (by decide)) q226a q226c (g := (mkF m 155 #[.val (.int p1), .val (.int p2), .val (.int p3), .val (.int p4), .val (.int p5), .val (.int p6), .val (.int bR), .val (.int (((p2.toUInt32 >>> ((2 : Int32) &&& 31).toUInt32).toInt32) &&& (3 : Int32))), .val (.int bR), .val (.int tT), .val (.int kk), .val (.int mq), .val (.int bq), .val (.ref b194), .val (.ref b206), .unset, .unset, .unset, .unset] [(.ref b206), (.ref b194)])) rfl (by rw [hml]; rfl) (Steps.refl _) (argsL := [(.ref b206)]) (rest := []) (lenOf pd_6 rfl) rfl (by show 2 * 0 + _ ≤ _; exact Nat.le_of_eq rfl) (hb hby at_155) (fun _ _ => ⟨rfl, rfl, (by decide : 10 + 0 ≤ _), (by decide : 100 + 0 ≤ _)⟩)
          dsimp only [Pt.U, Pt.locs, Pt.cells, Pt.slots] at X226 l226 y226 z226 st226 hQ226
          subst l226 y226 z226
          obtain ⟨rfl, N226q, e226⟩ := hQ226
          have N226 := Fr.app N216 N226q
          refine own_via st226 ?_
          show own_Fin p e below _ (T226.setTop (mkF m 158 #[.val (.int p1), .val (.int p2), .val (.int p3), .val (.int p4), .val (.int p5), .val (.int p6), .val (.int bR), .val (.int (((p2.toUInt32 >>> ((2 : Int32) &&& 31).toUInt32).toInt32) &&& (3 : Int32))), .val (.int bR), .val (.int tT), .val (.int kk), .val (.int mq), .val (.int bq), .val (.ref b194), .val (.ref b206), .unset, .unset, .unset, .unset] [(.double (if bR.toInt64 = 0 ∨ bR.toInt64 < bR.toInt64 then (9218868437227405312 : UInt64) else FP.dadd (FP.l2d tT.toInt64) (FP.ddiv (FP.l2d bq.toInt64) (FP.l2d bR.toInt64))))]))
          obtain ⟨bd, hbd⟩ : ∃ q : UInt64, q = (if bR.toInt64 = 0 ∨ bR.toInt64 < bR.toInt64 then (9218868437227405312 : UInt64) else FP.dadd (FP.l2d tT.toInt64) (FP.ddiv (FP.l2d bq.toInt64) (FP.l2d bR.toInt64))) := ⟨_, rfl⟩
          rw [← hbd]
          show own_Fin p e below _ (T226.setTop (mkF m 158 #[.val (.int p1), .val (.int p2), .val (.int p3), .val (.int p4), .val (.int p5), .val (.int p6), .val (.int bR), .val (.int (((p2.toUInt32 >>> ((2 : Int32) &&& 31).toUInt32).toInt32) &&& (3 : Int32))), .val (.int bR), .val (.int tT), .val (.int kk), .val (.int mq), .val (.int bq), .val (.ref b194), .val (.ref b206), .unset, .unset, .unset, .unset] [(.double bd)]))
          refine own_on (fun tq => XS.dstore X226.here hx rfl (hb hby at_158) rfl (l' := #[.val (.int p1), .val (.int p2), .val (.int p3), .val (.int p4), .val (.int p5), .val (.int p6), .val (.int bR), .val (.int (((p2.toUInt32 >>> ((2 : Int32) &&& 31).toUInt32).toInt32) &&& (3 : Int32))), .val (.int bR), .val (.int tT), .val (.int kk), .val (.int mq), .val (.int bq), .val (.ref b194), .val (.ref b206), .val (.double bd), .second, .unset, .unset]) rfl) ?_
          show own_Fin p e below _ (T226.setTop (mkF m 160 #[.val (.int p1), .val (.int p2), .val (.int p3), .val (.int p4), .val (.int p5), .val (.int p6), .val (.int bR), .val (.int (((p2.toUInt32 >>> ((2 : Int32) &&& 31).toUInt32).toInt32) &&& (3 : Int32))), .val (.int bR), .val (.int tT), .val (.int kk), .val (.int mq), .val (.int bq), .val (.ref b194), .val (.ref b206), .val (.double bd), .second, .unset, .unset] []))
          refine own_on (fun tq => XS.iload X226.here hx rfl (hb hby at_160) rfl) ?_
          show own_Fin p e below _ (T226.setTop (mkF m 162 #[.val (.int p1), .val (.int p2), .val (.int p3), .val (.int p4), .val (.int p5), .val (.int p6), .val (.int bR), .val (.int (((p2.toUInt32 >>> ((2 : Int32) &&& 31).toUInt32).toInt32) &&& (3 : Int32))), .val (.int bR), .val (.int tT), .val (.int kk), .val (.int mq), .val (.int bq), .val (.ref b194), .val (.ref b206), .val (.double bd), .second, .unset, .unset] [(.int bR)]))
          refine own_on (fun tq => XS.ifNo X226.here hx rfl (hb hby at_162) rfl ((if0 _ _).trans (feq hc160).1)) ?_
          show own_Fin p e below _ (T226.setTop (mkF m 165 #[.val (.int p1), .val (.int p2), .val (.int p3), .val (.int p4), .val (.int p5), .val (.int p6), .val (.int bR), .val (.int (((p2.toUInt32 >>> ((2 : Int32) &&& 31).toUInt32).toInt32) &&& (3 : Int32))), .val (.int bR), .val (.int tT), .val (.int kk), .val (.int mq), .val (.int bq), .val (.ref b194), .val (.ref b206), .val (.double bd), .second, .unset, .unset] []))
          refine own_on (fun tq => XS.iload X226.here hx rfl (hb hby at_165) rfl) ?_
          show own_Fin p e below _ (T226.setTop (mkF m 167 #[.val (.int p1), .val (.int p2), .val (.int p3), .val (.int p4), .val (.int p5), .val (.int p6), .val (.int bR), .val (.int (((p2.toUInt32 >>> ((2 : Int32) &&& 31).toUInt32).toInt32) &&& (3 : Int32))), .val (.int bR), .val (.int tT), .val (.int kk), .val (.int mq), .val (.int bq), .val (.ref b194), .val (.ref b206), .val (.double bd), .second, .unset, .unset] [(.int bR)]))
          refine own_on (fun tq => XS.iload X226.here hx rfl (hb hby at_167) rfl) ?_
          show own_Fin p e below _ (T226.setTop (mkF m 169 #[.val (.int p1), .val (.int p2), .val (.int p3), .val (.int p4), .val (.int p5), .val (.int p6), .val (.int bR), .val (.int (((p2.toUInt32 >>> ((2 : Int32) &&& 31).toUInt32).toInt32) &&& (3 : Int32))), .val (.int bR), .val (.int tT), .val (.int kk), .val (.int mq), .val (.int bq), .val (.ref b194), .val (.ref b206), .val (.double bd), .second, .unset, .unset] [(.int bR), (.int bR)]))
          refine own_on (fun tq => XS.icmpYes X226.here hx rfl (pc0 := 169) (pc' := 187) rfl (hb hby at_169) rfl (flt (fun q_ => absurd (Int32.lt_iff_toInt_lt.mp q_) (Int.lt_irrefl _))).2.2.2 (by decide) (by decide)) ?_
          show own_Fin p e below _ (T226.setTop (mkF m 187 #[.val (.int p1), .val (.int p2), .val (.int p3), .val (.int p4), .val (.int p5), .val (.int p6), .val (.int bR), .val (.int (((p2.toUInt32 >>> ((2 : Int32) &&& 31).toUInt32).toInt32) &&& (3 : Int32))), .val (.int bR), .val (.int tT), .val (.int kk), .val (.int mq), .val (.int bq), .val (.ref b194), .val (.ref b206), .val (.double bd), .second, .unset, .unset] []))
          refine own_on (fun tq => XS.iload X226.here hx rfl (hb hby at_187) rfl) ?_
          show own_Fin p e below _ (T226.setTop (mkF m 189 #[.val (.int p1), .val (.int p2), .val (.int p3), .val (.int p4), .val (.int p5), .val (.int p6), .val (.int bR), .val (.int (((p2.toUInt32 >>> ((2 : Int32) &&& 31).toUInt32).toInt32) &&& (3 : Int32))), .val (.int bR), .val (.int tT), .val (.int kk), .val (.int mq), .val (.int bq), .val (.ref b194), .val (.ref b206), .val (.double bd), .second, .unset, .unset] [(.int tT)]))
          refine own_on (fun tq => XS.iload X226.here hx rfl (hb hby at_189) rfl) ?_
          show own_Fin p e below _ (T226.setTop (mkF m 191 #[.val (.int p1), .val (.int p2), .val (.int p3), .val (.int p4), .val (.int p5), .val (.int p6), .val (.int bR), .val (.int (((p2.toUInt32 >>> ((2 : Int32) &&& 31).toUInt32).toInt32) &&& (3 : Int32))), .val (.int bR), .val (.int tT), .val (.int kk), .val (.int mq), .val (.int bq), .val (.ref b194), .val (.ref b206), .val (.double bd), .second, .unset, .unset] [(.int kk), (.int tT)]))
          refine own_on (fun tq => XS.iadd X226.here hx rfl (hb hby at_191) rfl) ?_
          show own_Fin p e below _ (T226.setTop (mkF m 192 #[.val (.int p1), .val (.int p2), .val (.int p3), .val (.int p4), .val (.int p5), .val (.int p6), .val (.int bR), .val (.int (((p2.toUInt32 >>> ((2 : Int32) &&& 31).toUInt32).toInt32) &&& (3 : Int32))), .val (.int bR), .val (.int tT), .val (.int kk), .val (.int mq), .val (.int bq), .val (.ref b194), .val (.ref b206), .val (.double bd), .second, .unset, .unset] [(.int (tT + kk))]))
          refine own_on (fun tq => XS.i2dS X226.here hx rfl (hb hby at_192) rfl (i2d_w _)) ?_
          show own_Fin p e below _ (T226.setTop (mkF m 193 #[.val (.int p1), .val (.int p2), .val (.int p3), .val (.int p4), .val (.int p5), .val (.int p6), .val (.int bR), .val (.int (((p2.toUInt32 >>> ((2 : Int32) &&& 31).toUInt32).toInt32) &&& (3 : Int32))), .val (.int bR), .val (.int tT), .val (.int kk), .val (.int mq), .val (.int bq), .val (.ref b194), .val (.ref b206), .val (.double bd), .second, .unset, .unset] [(.double (FP.l2d (tT + kk).toInt64))]))
          refine own_on (fun tq => XS.dstore X226.here hx rfl (hb hby at_193) rfl (l' := #[.val (.int p1), .val (.int p2), .val (.int p3), .val (.int p4), .val (.int p5), .val (.int p6), .val (.int bR), .val (.int (((p2.toUInt32 >>> ((2 : Int32) &&& 31).toUInt32).toInt32) &&& (3 : Int32))), .val (.int bR), .val (.int tT), .val (.int kk), .val (.int mq), .val (.int bq), .val (.ref b194), .val (.ref b206), .val (.double bd), .second, .val (.double (FP.l2d (tT + kk).toInt64)), .second]) rfl) ?_
          show own_Fin p e below _ (T226.setTop (mkF m 195 #[.val (.int p1), .val (.int p2), .val (.int p3), .val (.int p4), .val (.int p5), .val (.int p6), .val (.int bR), .val (.int (((p2.toUInt32 >>> ((2 : Int32) &&& 31).toUInt32).toInt32) &&& (3 : Int32))), .val (.int bR), .val (.int tT), .val (.int kk), .val (.int mq), .val (.int bq), .val (.ref b194), .val (.ref b206), .val (.double bd), .second, .val (.double (FP.l2d (tT + kk).toInt64)), .second] []))
          refine own_on (fun tq => XS.iload X226.here hx rfl (hb hby at_195) rfl) ?_
          show own_Fin p e below _ (T226.setTop (mkF m 197 #[.val (.int p1), .val (.int p2), .val (.int p3), .val (.int p4), .val (.int p5), .val (.int p6), .val (.int bR), .val (.int (((p2.toUInt32 >>> ((2 : Int32) &&& 31).toUInt32).toInt32) &&& (3 : Int32))), .val (.int bR), .val (.int tT), .val (.int kk), .val (.int mq), .val (.int bq), .val (.ref b194), .val (.ref b206), .val (.double bd), .second, .val (.double (FP.l2d (tT + kk).toInt64)), .second] [(.int mq)]))
          by_cases hc227 : mq = (0 : Int32)
          · refine own_on (fun tq => XS.ifNo X226.here hx rfl (hb hby at_197) rfl ((if0 _ _).trans (teq hc227).2)) ?_
            show own_Fin p e below _ (T226.setTop (mkF m 200 #[.val (.int p1), .val (.int p2), .val (.int p3), .val (.int p4), .val (.int p5), .val (.int p6), .val (.int bR), .val (.int (((p2.toUInt32 >>> ((2 : Int32) &&& 31).toUInt32).toInt32) &&& (3 : Int32))), .val (.int bR), .val (.int tT), .val (.int kk), .val (.int mq), .val (.int bq), .val (.ref b194), .val (.ref b206), .val (.double bd), .second, .val (.double (FP.l2d (tT + kk).toInt64)), .second] []))
            refine own_on (fun tq => XS.dload X226.here hx rfl (hb hby at_200) rfl) ?_
            show own_Fin p e below _ (T226.setTop (mkF m 202 #[.val (.int p1), .val (.int p2), .val (.int p3), .val (.int p4), .val (.int p5), .val (.int p6), .val (.int bR), .val (.int (((p2.toUInt32 >>> ((2 : Int32) &&& 31).toUInt32).toInt32) &&& (3 : Int32))), .val (.int bR), .val (.int tT), .val (.int kk), .val (.int mq), .val (.int bq), .val (.ref b194), .val (.ref b206), .val (.double bd), .second, .val (.double (FP.l2d (tT + kk).toInt64)), .second] [(.double bd)]))
            refine own_on (fun tq => XS.dload X226.here hx rfl (hb hby at_202) rfl) ?_
            show own_Fin p e below _ (T226.setTop (mkF m 204 #[.val (.int p1), .val (.int p2), .val (.int p3), .val (.int p4), .val (.int p5), .val (.int p6), .val (.int bR), .val (.int (((p2.toUInt32 >>> ((2 : Int32) &&& 31).toUInt32).toInt32) &&& (3 : Int32))), .val (.int bR), .val (.int tT), .val (.int kk), .val (.int mq), .val (.int bq), .val (.ref b194), .val (.ref b206), .val (.double bd), .second, .val (.double (FP.l2d (tT + kk).toInt64)), .second] [(.double (FP.l2d (tT + kk).toInt64)), (.double bd)]))
            refine own_on (fun tq => XS.dcmpS X226.here hx rfl (hb hby at_204) rfl ((own_law rR hc160 (fun q_ => absurd (Int32.lt_iff_toInt_lt.mp q_) (Int.lt_irrefl _)) rT rk rm hbb.1 hbd).1 hc227)) ?_
            show own_Fin p e below _ (T226.setTop (mkF m 205 #[.val (.int p1), .val (.int p2), .val (.int p3), .val (.int p4), .val (.int p5), .val (.int p6), .val (.int bR), .val (.int (((p2.toUInt32 >>> ((2 : Int32) &&& 31).toUInt32).toInt32) &&& (3 : Int32))), .val (.int bR), .val (.int tT), .val (.int kk), .val (.int mq), .val (.int bq), .val (.ref b194), .val (.ref b206), .val (.double bd), .second, .val (.double (FP.l2d (tT + kk).toInt64)), .second] [(.int (0 : Int32))]))
            refine own_on (fun tq => XS.ifNo X226.here hx rfl (hb hby at_205) rfl ((if0 _ _).trans (teq (by decide : (0 : Int32) = (0 : Int32))).2)) ?_
            show own_Fin p e below _ (T226.setTop (mkF m 208 #[.val (.int p1), .val (.int p2), .val (.int p3), .val (.int p4), .val (.int p5), .val (.int p6), .val (.int bR), .val (.int (((p2.toUInt32 >>> ((2 : Int32) &&& 31).toUInt32).toInt32) &&& (3 : Int32))), .val (.int bR), .val (.int tT), .val (.int kk), .val (.int mq), .val (.int bq), .val (.ref b194), .val (.ref b206), .val (.double bd), .second, .val (.double (FP.l2d (tT + kk).toInt64)), .second] []))
            refine own_on (fun tq => XS.iconst X226.here hx rfl (hb hby at_208)) ?_
            show own_Fin p e below _ (T226.setTop (mkF m 209 #[.val (.int p1), .val (.int p2), .val (.int p3), .val (.int p4), .val (.int p5), .val (.int p6), .val (.int bR), .val (.int (((p2.toUInt32 >>> ((2 : Int32) &&& 31).toUInt32).toInt32) &&& (3 : Int32))), .val (.int bR), .val (.int tT), .val (.int kk), .val (.int mq), .val (.int bq), .val (.ref b194), .val (.ref b206), .val (.double bd), .second, .val (.double (FP.l2d (tT + kk).toInt64)), .second] [(.int (1 : Int32))]))
            refine own_on (fun tq => XS.goto X226.here hx rfl (pc0 := 209) (pc' := 213) rfl (hb hby at_209) (by decide) (by decide)) ?_
            show own_Fin p e below _ (T226.setTop (mkF m 213 #[.val (.int p1), .val (.int p2), .val (.int p3), .val (.int p4), .val (.int p5), .val (.int p6), .val (.int bR), .val (.int (((p2.toUInt32 >>> ((2 : Int32) &&& 31).toUInt32).toInt32) &&& (3 : Int32))), .val (.int bR), .val (.int tT), .val (.int kk), .val (.int mq), .val (.int bq), .val (.ref b194), .val (.ref b206), .val (.double bd), .second, .val (.double (FP.l2d (tT + kk).toInt64)), .second] [(.int (1 : Int32))]))
            exact own_retW (t := .boolean) X226 (Z := Z) (EL := own_EL) (a0 := a0) hx hlk hret rfl (Or.inl ⟨rfl, (by simp), _, rfl⟩) (hb hby at_213) hS216 (by rw [e226]; exact y218) hZ216 hEL (by rw [hh, e226]; exact y217) (⟨rfl, N226⟩) (by decide) (by decide)
          · refine own_on (fun tq => XS.ifYes X226.here hx rfl (pc0 := 197) (pc' := 214) rfl (hb hby at_197) rfl ((if0 _ _).trans (feq hc227).2) (by decide) (by decide)) ?_
            show own_Fin p e below _ (T226.setTop (mkF m 214 #[.val (.int p1), .val (.int p2), .val (.int p3), .val (.int p4), .val (.int p5), .val (.int p6), .val (.int bR), .val (.int (((p2.toUInt32 >>> ((2 : Int32) &&& 31).toUInt32).toInt32) &&& (3 : Int32))), .val (.int bR), .val (.int tT), .val (.int kk), .val (.int mq), .val (.int bq), .val (.ref b194), .val (.ref b206), .val (.double bd), .second, .val (.double (FP.l2d (tT + kk).toInt64)), .second] []))
            refine own_on (fun tq => XS.dload X226.here hx rfl (hb hby at_214) rfl) ?_
            show own_Fin p e below _ (T226.setTop (mkF m 216 #[.val (.int p1), .val (.int p2), .val (.int p3), .val (.int p4), .val (.int p5), .val (.int p6), .val (.int bR), .val (.int (((p2.toUInt32 >>> ((2 : Int32) &&& 31).toUInt32).toInt32) &&& (3 : Int32))), .val (.int bR), .val (.int tT), .val (.int kk), .val (.int mq), .val (.int bq), .val (.ref b194), .val (.ref b206), .val (.double bd), .second, .val (.double (FP.l2d (tT + kk).toInt64)), .second] [(.double (FP.l2d (tT + kk).toInt64))]))
            refine own_on (fun tq => XS.dload X226.here hx rfl (hb hby at_216) rfl) ?_
            show own_Fin p e below _ (T226.setTop (mkF m 218 #[.val (.int p1), .val (.int p2), .val (.int p3), .val (.int p4), .val (.int p5), .val (.int p6), .val (.int bR), .val (.int (((p2.toUInt32 >>> ((2 : Int32) &&& 31).toUInt32).toInt32) &&& (3 : Int32))), .val (.int bR), .val (.int tT), .val (.int kk), .val (.int mq), .val (.int bq), .val (.ref b194), .val (.ref b206), .val (.double bd), .second, .val (.double (FP.l2d (tT + kk).toInt64)), .second] [(.double bd), (.double (FP.l2d (tT + kk).toInt64))]))
            refine own_on (fun tq => XS.dcmpS X226.here hx rfl (hb hby at_218) rfl ((own_law rR hc160 (fun q_ => absurd (Int32.lt_iff_toInt_lt.mp q_) (Int.lt_irrefl _)) rT rk rm hbb.1 hbd).2 hc227).1) ?_
            show own_Fin p e below _ (T226.setTop (mkF m 219 #[.val (.int p1), .val (.int p2), .val (.int p3), .val (.int p4), .val (.int p5), .val (.int p6), .val (.int bR), .val (.int (((p2.toUInt32 >>> ((2 : Int32) &&& 31).toUInt32).toInt32) &&& (3 : Int32))), .val (.int bR), .val (.int tT), .val (.int kk), .val (.int mq), .val (.int bq), .val (.ref b194), .val (.ref b206), .val (.double bd), .second, .val (.double (FP.l2d (tT + kk).toInt64)), .second] [(.int (-1 : Int32))]))
            refine own_on (fun tq => XS.ifNo X226.here hx rfl (hb hby at_219) rfl ((if0 _ _).trans (tlt (by decide : (-1 : Int32) < (0 : Int32))).2.1)) ?_
            show own_Fin p e below _ (T226.setTop (mkF m 222 #[.val (.int p1), .val (.int p2), .val (.int p3), .val (.int p4), .val (.int p5), .val (.int p6), .val (.int bR), .val (.int (((p2.toUInt32 >>> ((2 : Int32) &&& 31).toUInt32).toInt32) &&& (3 : Int32))), .val (.int bR), .val (.int tT), .val (.int kk), .val (.int mq), .val (.int bq), .val (.ref b194), .val (.ref b206), .val (.double bd), .second, .val (.double (FP.l2d (tT + kk).toInt64)), .second] []))
            refine own_on (fun tq => XS.dload X226.here hx rfl (hb hby at_222) rfl) ?_
            show own_Fin p e below _ (T226.setTop (mkF m 224 #[.val (.int p1), .val (.int p2), .val (.int p3), .val (.int p4), .val (.int p5), .val (.int p6), .val (.int bR), .val (.int (((p2.toUInt32 >>> ((2 : Int32) &&& 31).toUInt32).toInt32) &&& (3 : Int32))), .val (.int bR), .val (.int tT), .val (.int kk), .val (.int mq), .val (.int bq), .val (.ref b194), .val (.ref b206), .val (.double bd), .second, .val (.double (FP.l2d (tT + kk).toInt64)), .second] [(.double bd)]))
            refine own_on (fun tq => XS.dload X226.here hx rfl (hb hby at_224) rfl) ?_
            show own_Fin p e below _ (T226.setTop (mkF m 226 #[.val (.int p1), .val (.int p2), .val (.int p3), .val (.int p4), .val (.int p5), .val (.int p6), .val (.int bR), .val (.int (((p2.toUInt32 >>> ((2 : Int32) &&& 31).toUInt32).toInt32) &&& (3 : Int32))), .val (.int bR), .val (.int tT), .val (.int kk), .val (.int mq), .val (.int bq), .val (.ref b194), .val (.ref b206), .val (.double bd), .second, .val (.double (FP.l2d (tT + kk).toInt64)), .second] [(.double (FP.l2d (tT + kk).toInt64)), (.double bd)]))
            refine own_on (fun tq => XS.dconst1 X226.here hx rfl (hb hby at_226) own_dc1) ?_
            show own_Fin p e below _ (T226.setTop (mkF m 227 #[.val (.int p1), .val (.int p2), .val (.int p3), .val (.int p4), .val (.int p5), .val (.int p6), .val (.int bR), .val (.int (((p2.toUInt32 >>> ((2 : Int32) &&& 31).toUInt32).toInt32) &&& (3 : Int32))), .val (.int bR), .val (.int tT), .val (.int kk), .val (.int mq), .val (.int bq), .val (.ref b194), .val (.ref b206), .val (.double bd), .second, .val (.double (FP.l2d (tT + kk).toInt64)), .second] [(.double (FP.l2d (1 : Int64))), (.double (FP.l2d (tT + kk).toInt64)), (.double bd)]))
            refine own_on (fun tq => XS.daddS X226.here hx rfl (hb hby at_227) rfl (nn_w (dadd_w (own_b32 (tT + kk)) own_B1)) (dadd_w (own_b32 (tT + kk)) own_B1)) ?_
            show own_Fin p e below _ (T226.setTop (mkF m 228 #[.val (.int p1), .val (.int p2), .val (.int p3), .val (.int p4), .val (.int p5), .val (.int p6), .val (.int bR), .val (.int (((p2.toUInt32 >>> ((2 : Int32) &&& 31).toUInt32).toInt32) &&& (3 : Int32))), .val (.int bR), .val (.int tT), .val (.int kk), .val (.int mq), .val (.int bq), .val (.ref b194), .val (.ref b206), .val (.double bd), .second, .val (.double (FP.l2d (tT + kk).toInt64)), .second] [(.double (FP.l2d ((tT + kk).toInt64 + (1 : Int64)))), (.double bd)]))
            refine own_on (fun tq => XS.dcmpS X226.here hx rfl (hb hby at_228) rfl ((own_law rR hc160 (fun q_ => absurd (Int32.lt_iff_toInt_lt.mp q_) (Int.lt_irrefl _)) rT rk rm hbb.1 hbd).2 hc227).2) ?_
            show own_Fin p e below _ (T226.setTop (mkF m 229 #[.val (.int p1), .val (.int p2), .val (.int p3), .val (.int p4), .val (.int p5), .val (.int p6), .val (.int bR), .val (.int (((p2.toUInt32 >>> ((2 : Int32) &&& 31).toUInt32).toInt32) &&& (3 : Int32))), .val (.int bR), .val (.int tT), .val (.int kk), .val (.int mq), .val (.int bq), .val (.ref b194), .val (.ref b206), .val (.double bd), .second, .val (.double (FP.l2d (tT + kk).toInt64)), .second] [(.int (-1 : Int32))]))
            refine own_on (fun tq => XS.ifNo X226.here hx rfl (hb hby at_229) rfl ((if0 _ _).trans (tlt (by decide : (-1 : Int32) < (0 : Int32))).2.1)) ?_
            show own_Fin p e below _ (T226.setTop (mkF m 232 #[.val (.int p1), .val (.int p2), .val (.int p3), .val (.int p4), .val (.int p5), .val (.int p6), .val (.int bR), .val (.int (((p2.toUInt32 >>> ((2 : Int32) &&& 31).toUInt32).toInt32) &&& (3 : Int32))), .val (.int bR), .val (.int tT), .val (.int kk), .val (.int mq), .val (.int bq), .val (.ref b194), .val (.ref b206), .val (.double bd), .second, .val (.double (FP.l2d (tT + kk).toInt64)), .second] []))
            refine own_on (fun tq => XS.iconst X226.here hx rfl (hb hby at_232)) ?_
            show own_Fin p e below _ (T226.setTop (mkF m 233 #[.val (.int p1), .val (.int p2), .val (.int p3), .val (.int p4), .val (.int p5), .val (.int p6), .val (.int bR), .val (.int (((p2.toUInt32 >>> ((2 : Int32) &&& 31).toUInt32).toInt32) &&& (3 : Int32))), .val (.int bR), .val (.int tT), .val (.int kk), .val (.int mq), .val (.int bq), .val (.ref b194), .val (.ref b206), .val (.double bd), .second, .val (.double (FP.l2d (tT + kk).toInt64)), .second] [(.int (1 : Int32))]))
            refine own_on (fun tq => XS.goto X226.here hx rfl (pc0 := 233) (pc' := 237) rfl (hb hby at_233) (by decide) (by decide)) ?_
            show own_Fin p e below _ (T226.setTop (mkF m 237 #[.val (.int p1), .val (.int p2), .val (.int p3), .val (.int p4), .val (.int p5), .val (.int p6), .val (.int bR), .val (.int (((p2.toUInt32 >>> ((2 : Int32) &&& 31).toUInt32).toInt32) &&& (3 : Int32))), .val (.int bR), .val (.int tT), .val (.int kk), .val (.int mq), .val (.int bq), .val (.ref b194), .val (.ref b206), .val (.double bd), .second, .val (.double (FP.l2d (tT + kk).toInt64)), .second] [(.int (1 : Int32))]))
            exact own_retW (t := .boolean) X226 (Z := Z) (EL := own_EL) (a0 := a0) hx hlk hret rfl (Or.inl ⟨rfl, (by simp), _, rfl⟩) (hb hby at_237) hS216 (by rw [e226]; exact y218) hZ216 hEL (by rw [hh, e226]; exact y217) (⟨rfl, N226⟩) (by decide) (by decide)
      · refine own_on (fun tq => XS.icmpYes X0.here hx rfl (pc0 := 44) (pc' := 54) rfl (hb hby at_44) rfl (feq hc159).2 (by decide) (by decide)) ?_
        show own_Fin p e below _ (s₁.setTop (mkF m 54 #[.val (.int p1), .val (.int p2), .val (.int p3), .val (.int p4), .val (.int p5), .val (.int p6), .val (.int bR), .val (.int (((p2.toUInt32 >>> ((2 : Int32) &&& 31).toUInt32).toInt32) &&& (3 : Int32))), .unset, .unset, .unset, .unset, .unset, .unset, .unset, .unset, .unset, .unset, .unset] []))
        refine own_on (fun tq => XS.iloadN X0.here hx rfl (hb hby at_54) rfl) ?_
        show own_Fin p e below _ (s₁.setTop (mkF m 55 #[.val (.int p1), .val (.int p2), .val (.int p3), .val (.int p4), .val (.int p5), .val (.int p6), .val (.int bR), .val (.int (((p2.toUInt32 >>> ((2 : Int32) &&& 31).toUInt32).toInt32) &&& (3 : Int32))), .unset, .unset, .unset, .unset, .unset, .unset, .unset, .unset, .unset, .unset, .unset] [(.int p3)]))
        refine own_on (fun tq => X0.ldcInt hx hown (mvT hZ (hw _ (List.mem_of_getElem? (i := 1) rfl))) (g := (mkF m 55 #[.val (.int p1), .val (.int p2), .val (.int p3), .val (.int p4), .val (.int p5), .val (.int p6), .val (.int bR), .val (.int (((p2.toUInt32 >>> ((2 : Int32) &&& 31).toUInt32).toInt32) &&& (3 : Int32))), .unset, .unset, .unset, .unset, .unset, .unset, .unset, .unset, .unset, .unset, .unset] [(.int p3)])) rfl (hb hby at_55) tq) ?_
        show own_Fin p e below _ (s₁.setTop (mkF m 57 #[.val (.int p1), .val (.int p2), .val (.int p3), .val (.int p4), .val (.int p5), .val (.int p6), .val (.int bR), .val (.int (((p2.toUInt32 >>> ((2 : Int32) &&& 31).toUInt32).toInt32) &&& (3 : Int32))), .unset, .unset, .unset, .unset, .unset, .unset, .unset, .unset, .unset, .unset, .unset] [(.int (2147483647 : Int32)), (.int p3)]))
        refine own_on (fun tq => XS.iand X0.here hx rfl (hb hby at_57) rfl) ?_
        show own_Fin p e below _ (s₁.setTop (mkF m 58 #[.val (.int p1), .val (.int p2), .val (.int p3), .val (.int p4), .val (.int p5), .val (.int p6), .val (.int bR), .val (.int (((p2.toUInt32 >>> ((2 : Int32) &&& 31).toUInt32).toInt32) &&& (3 : Int32))), .unset, .unset, .unset, .unset, .unset, .unset, .unset, .unset, .unset, .unset, .unset] [(.int (p3 &&& (2147483647 : Int32)))]))
        refine own_on (fun tq => XS.iload X0.here hx rfl (hb hby at_58) rfl) ?_
        show own_Fin p e below _ (s₁.setTop (mkF m 60 #[.val (.int p1), .val (.int p2), .val (.int p3), .val (.int p4), .val (.int p5), .val (.int p6), .val (.int bR), .val (.int (((p2.toUInt32 >>> ((2 : Int32) &&& 31).toUInt32).toInt32) &&& (3 : Int32))), .unset, .unset, .unset, .unset, .unset, .unset, .unset, .unset, .unset, .unset, .unset] [(.int bR), (.int (p3 &&& (2147483647 : Int32)))]))
        refine own_on (fun tq => XS.iconst X0.here hx rfl (hb hby at_60)) ?_
        show own_Fin p e below _ (s₁.setTop (mkF m 61 #[.val (.int p1), .val (.int p2), .val (.int p3), .val (.int p4), .val (.int p5), .val (.int p6), .val (.int bR), .val (.int (((p2.toUInt32 >>> ((2 : Int32) &&& 31).toUInt32).toInt32) &&& (3 : Int32))), .unset, .unset, .unset, .unset, .unset, .unset, .unset, .unset, .unset, .unset, .unset] [(.int (1 : Int32)), (.int bR), (.int (p3 &&& (2147483647 : Int32)))]))
        refine own_on (fun tq => XS.iadd X0.here hx rfl (hb hby at_61) rfl) ?_
        show own_Fin p e below _ (s₁.setTop (mkF m 62 #[.val (.int p1), .val (.int p2), .val (.int p3), .val (.int p4), .val (.int p5), .val (.int p6), .val (.int bR), .val (.int (((p2.toUInt32 >>> ((2 : Int32) &&& 31).toUInt32).toInt32) &&& (3 : Int32))), .unset, .unset, .unset, .unset, .unset, .unset, .unset, .unset, .unset, .unset, .unset] [(.int (bR + (1 : Int32))), (.int (p3 &&& (2147483647 : Int32)))]))
        refine own_on (fun tq => iremM X0 hx rfl (hb hby at_62) rfl (own_n1 rR)) ?_
        show own_Fin p e below _ (s₁.setTop (mkF m 63 #[.val (.int p1), .val (.int p2), .val (.int p3), .val (.int p4), .val (.int p5), .val (.int p6), .val (.int bR), .val (.int (((p2.toUInt32 >>> ((2 : Int32) &&& 31).toUInt32).toInt32) &&& (3 : Int32))), .unset, .unset, .unset, .unset, .unset, .unset, .unset, .unset, .unset, .unset, .unset] [(.int ((p3 &&& (2147483647 : Int32)) % (bR + (1 : Int32))))]))
        refine own_on (fun tq => XS.istore X0.here hx rfl (hb hby at_63) rfl (l' := #[.val (.int p1), .val (.int p2), .val (.int p3), .val (.int p4), .val (.int p5), .val (.int p6), .val (.int bR), .val (.int (((p2.toUInt32 >>> ((2 : Int32) &&& 31).toUInt32).toInt32) &&& (3 : Int32))), .val (.int ((p3 &&& (2147483647 : Int32)) % (bR + (1 : Int32)))), .unset, .unset, .unset, .unset, .unset, .unset, .unset, .unset, .unset, .unset]) rfl) ?_
        show own_Fin p e below _ (s₁.setTop (mkF m 65 #[.val (.int p1), .val (.int p2), .val (.int p3), .val (.int p4), .val (.int p5), .val (.int p6), .val (.int bR), .val (.int (((p2.toUInt32 >>> ((2 : Int32) &&& 31).toUInt32).toInt32) &&& (3 : Int32))), .val (.int ((p3 &&& (2147483647 : Int32)) % (bR + (1 : Int32)))), .unset, .unset, .unset, .unset, .unset, .unset, .unset, .unset, .unset, .unset] []))
        obtain ⟨rr, hrr⟩ : ∃ q : Int32, q = ((p3 &&& (2147483647 : Int32)) % (bR + (1 : Int32))) := ⟨_, rfl⟩
        have r0 : 0 ≤ rr.toInt := hrr ▸ own_rc rR
        rw [← hrr]
        show own_Fin p e below _ (s₁.setTop (mkF m 65 #[.val (.int p1), .val (.int p2), .val (.int p3), .val (.int p4), .val (.int p5), .val (.int p6), .val (.int bR), .val (.int (((p2.toUInt32 >>> ((2 : Int32) &&& 31).toUInt32).toInt32) &&& (3 : Int32))), .val (.int rr), .unset, .unset, .unset, .unset, .unset, .unset, .unset, .unset, .unset, .unset] []))
        refine own_on (fun tq => XS.iloadN X0.here hx rfl (hb hby at_65) rfl) ?_
        show own_Fin p e below _ (s₁.setTop (mkF m 66 #[.val (.int p1), .val (.int p2), .val (.int p3), .val (.int p4), .val (.int p5), .val (.int p6), .val (.int bR), .val (.int (((p2.toUInt32 >>> ((2 : Int32) &&& 31).toUInt32).toInt32) &&& (3 : Int32))), .val (.int rr), .unset, .unset, .unset, .unset, .unset, .unset, .unset, .unset, .unset, .unset] [(.int p4)]))
        refine own_on (fun tq => X0.ldcInt hx hown (mvT hZ (hw _ (List.mem_of_getElem? (i := 0) rfl))) (g := (mkF m 66 #[.val (.int p1), .val (.int p2), .val (.int p3), .val (.int p4), .val (.int p5), .val (.int p6), .val (.int bR), .val (.int (((p2.toUInt32 >>> ((2 : Int32) &&& 31).toUInt32).toInt32) &&& (3 : Int32))), .val (.int rr), .unset, .unset, .unset, .unset, .unset, .unset, .unset, .unset, .unset, .unset] [(.int p4)])) rfl (hb hby at_66) tq) ?_
        show own_Fin p e below _ (s₁.setTop (mkF m 68 #[.val (.int p1), .val (.int p2), .val (.int p3), .val (.int p4), .val (.int p5), .val (.int p6), .val (.int bR), .val (.int (((p2.toUInt32 >>> ((2 : Int32) &&& 31).toUInt32).toInt32) &&& (3 : Int32))), .val (.int rr), .unset, .unset, .unset, .unset, .unset, .unset, .unset, .unset, .unset, .unset] [(.int (65535 : Int32)), (.int p4)]))
        refine own_on (fun tq => XS.iand X0.here hx rfl (hb hby at_68) rfl) ?_
        show own_Fin p e below _ (s₁.setTop (mkF m 69 #[.val (.int p1), .val (.int p2), .val (.int p3), .val (.int p4), .val (.int p5), .val (.int p6), .val (.int bR), .val (.int (((p2.toUInt32 >>> ((2 : Int32) &&& 31).toUInt32).toInt32) &&& (3 : Int32))), .val (.int rr), .unset, .unset, .unset, .unset, .unset, .unset, .unset, .unset, .unset, .unset] [(.int (p4 &&& (65535 : Int32)))]))
        refine own_on (fun tq => XS.istore X0.here hx rfl (hb hby at_69) rfl (l' := #[.val (.int p1), .val (.int p2), .val (.int p3), .val (.int p4), .val (.int p5), .val (.int p6), .val (.int bR), .val (.int (((p2.toUInt32 >>> ((2 : Int32) &&& 31).toUInt32).toInt32) &&& (3 : Int32))), .val (.int rr), .val (.int (p4 &&& (65535 : Int32))), .unset, .unset, .unset, .unset, .unset, .unset, .unset, .unset, .unset]) rfl) ?_
        show own_Fin p e below _ (s₁.setTop (mkF m 71 #[.val (.int p1), .val (.int p2), .val (.int p3), .val (.int p4), .val (.int p5), .val (.int p6), .val (.int bR), .val (.int (((p2.toUInt32 >>> ((2 : Int32) &&& 31).toUInt32).toInt32) &&& (3 : Int32))), .val (.int rr), .val (.int (p4 &&& (65535 : Int32))), .unset, .unset, .unset, .unset, .unset, .unset, .unset, .unset, .unset] []))
        obtain ⟨tT, htT⟩ : ∃ q : Int32, q = (p4 &&& (65535 : Int32)) := ⟨_, rfl⟩
        have rT : 0 ≤ tT.toInt ∧ tT.toInt ≤ 65535 := htT ▸ own_m16 p4
        rw [← htT]
        show own_Fin p e below _ (s₁.setTop (mkF m 71 #[.val (.int p1), .val (.int p2), .val (.int p3), .val (.int p4), .val (.int p5), .val (.int p6), .val (.int bR), .val (.int (((p2.toUInt32 >>> ((2 : Int32) &&& 31).toUInt32).toInt32) &&& (3 : Int32))), .val (.int rr), .val (.int tT), .unset, .unset, .unset, .unset, .unset, .unset, .unset, .unset, .unset] []))
        refine own_on (fun tq => XS.iload X0.here hx rfl (hb hby at_71) rfl) ?_
        show own_Fin p e below _ (s₁.setTop (mkF m 73 #[.val (.int p1), .val (.int p2), .val (.int p3), .val (.int p4), .val (.int p5), .val (.int p6), .val (.int bR), .val (.int (((p2.toUInt32 >>> ((2 : Int32) &&& 31).toUInt32).toInt32) &&& (3 : Int32))), .val (.int rr), .val (.int tT), .unset, .unset, .unset, .unset, .unset, .unset, .unset, .unset, .unset] [(.int p5)]))
        refine own_on (fun tq => XS.sipush X0.here hx rfl (hb hby at_73)) ?_
        show own_Fin p e below _ (s₁.setTop (mkF m 76 #[.val (.int p1), .val (.int p2), .val (.int p3), .val (.int p4), .val (.int p5), .val (.int p6), .val (.int bR), .val (.int (((p2.toUInt32 >>> ((2 : Int32) &&& 31).toUInt32).toInt32) &&& (3 : Int32))), .val (.int rr), .val (.int tT), .unset, .unset, .unset, .unset, .unset, .unset, .unset, .unset, .unset] [(.int (32767 : Int32)), (.int p5)]))
        refine own_on (fun tq => XS.iand X0.here hx rfl (hb hby at_76) rfl) ?_
        show own_Fin p e below _ (s₁.setTop (mkF m 77 #[.val (.int p1), .val (.int p2), .val (.int p3), .val (.int p4), .val (.int p5), .val (.int p6), .val (.int bR), .val (.int (((p2.toUInt32 >>> ((2 : Int32) &&& 31).toUInt32).toInt32) &&& (3 : Int32))), .val (.int rr), .val (.int tT), .unset, .unset, .unset, .unset, .unset, .unset, .unset, .unset, .unset] [(.int (p5 &&& (32767 : Int32)))]))
        refine own_on (fun tq => XS.istore X0.here hx rfl (hb hby at_77) rfl (l' := #[.val (.int p1), .val (.int p2), .val (.int p3), .val (.int p4), .val (.int p5), .val (.int p6), .val (.int bR), .val (.int (((p2.toUInt32 >>> ((2 : Int32) &&& 31).toUInt32).toInt32) &&& (3 : Int32))), .val (.int rr), .val (.int tT), .val (.int (p5 &&& (32767 : Int32))), .unset, .unset, .unset, .unset, .unset, .unset, .unset, .unset]) rfl) ?_
        show own_Fin p e below _ (s₁.setTop (mkF m 79 #[.val (.int p1), .val (.int p2), .val (.int p3), .val (.int p4), .val (.int p5), .val (.int p6), .val (.int bR), .val (.int (((p2.toUInt32 >>> ((2 : Int32) &&& 31).toUInt32).toInt32) &&& (3 : Int32))), .val (.int rr), .val (.int tT), .val (.int (p5 &&& (32767 : Int32))), .unset, .unset, .unset, .unset, .unset, .unset, .unset, .unset] []))
        obtain ⟨kk, hkk⟩ : ∃ q : Int32, q = (p5 &&& (32767 : Int32)) := ⟨_, rfl⟩
        have rk : 0 ≤ kk.toInt ∧ kk.toInt ≤ 32767 := hkk ▸ own_m15 p5
        rw [← hkk]
        show own_Fin p e below _ (s₁.setTop (mkF m 79 #[.val (.int p1), .val (.int p2), .val (.int p3), .val (.int p4), .val (.int p5), .val (.int p6), .val (.int bR), .val (.int (((p2.toUInt32 >>> ((2 : Int32) &&& 31).toUInt32).toInt32) &&& (3 : Int32))), .val (.int rr), .val (.int tT), .val (.int kk), .unset, .unset, .unset, .unset, .unset, .unset, .unset, .unset] []))
        refine own_on (fun tq => XS.iload X0.here hx rfl (hb hby at_79) rfl) ?_
        show own_Fin p e below _ (s₁.setTop (mkF m 81 #[.val (.int p1), .val (.int p2), .val (.int p3), .val (.int p4), .val (.int p5), .val (.int p6), .val (.int bR), .val (.int (((p2.toUInt32 >>> ((2 : Int32) &&& 31).toUInt32).toInt32) &&& (3 : Int32))), .val (.int rr), .val (.int tT), .val (.int kk), .unset, .unset, .unset, .unset, .unset, .unset, .unset, .unset] [(.int bR)]))
        by_cases hc228 : bR = (0 : Int32)
        · refine own_on (fun tq => XS.ifNo X0.here hx rfl (hb hby at_81) rfl ((if0 _ _).trans (teq hc228).2)) ?_
          show own_Fin p e below _ (s₁.setTop (mkF m 84 #[.val (.int p1), .val (.int p2), .val (.int p3), .val (.int p4), .val (.int p5), .val (.int p6), .val (.int bR), .val (.int (((p2.toUInt32 >>> ((2 : Int32) &&& 31).toUInt32).toInt32) &&& (3 : Int32))), .val (.int rr), .val (.int tT), .val (.int kk), .unset, .unset, .unset, .unset, .unset, .unset, .unset, .unset] []))
          refine own_on (fun tq => XS.iconst X0.here hx rfl (hb hby at_84)) ?_
          show own_Fin p e below _ (s₁.setTop (mkF m 85 #[.val (.int p1), .val (.int p2), .val (.int p3), .val (.int p4), .val (.int p5), .val (.int p6), .val (.int bR), .val (.int (((p2.toUInt32 >>> ((2 : Int32) &&& 31).toUInt32).toInt32) &&& (3 : Int32))), .val (.int rr), .val (.int tT), .val (.int kk), .unset, .unset, .unset, .unset, .unset, .unset, .unset, .unset] [(.int (0 : Int32))]))
          refine own_on (fun tq => XS.goto X0.here hx rfl (pc0 := 85) (pc' := 96) rfl (hb hby at_85) (by decide) (by decide)) ?_
          show own_Fin p e below _ (s₁.setTop (mkF m 96 #[.val (.int p1), .val (.int p2), .val (.int p3), .val (.int p4), .val (.int p5), .val (.int p6), .val (.int bR), .val (.int (((p2.toUInt32 >>> ((2 : Int32) &&& 31).toUInt32).toInt32) &&& (3 : Int32))), .val (.int rr), .val (.int tT), .val (.int kk), .unset, .unset, .unset, .unset, .unset, .unset, .unset, .unset] [(.int (0 : Int32))]))
          refine own_on (fun tq => XS.istore X0.here hx rfl (hb hby at_96) rfl (l' := #[.val (.int p1), .val (.int p2), .val (.int p3), .val (.int p4), .val (.int p5), .val (.int p6), .val (.int bR), .val (.int (((p2.toUInt32 >>> ((2 : Int32) &&& 31).toUInt32).toInt32) &&& (3 : Int32))), .val (.int rr), .val (.int tT), .val (.int kk), .val (.int (0 : Int32)), .unset, .unset, .unset, .unset, .unset, .unset, .unset]) rfl) ?_
          show own_Fin p e below _ (s₁.setTop (mkF m 98 #[.val (.int p1), .val (.int p2), .val (.int p3), .val (.int p4), .val (.int p5), .val (.int p6), .val (.int bR), .val (.int (((p2.toUInt32 >>> ((2 : Int32) &&& 31).toUInt32).toInt32) &&& (3 : Int32))), .val (.int rr), .val (.int tT), .val (.int kk), .val (.int (0 : Int32)), .unset, .unset, .unset, .unset, .unset, .unset, .unset] []))
          refine own_on (fun tq => XS.iload X0.here hx rfl (hb hby at_98) rfl) ?_
          show own_Fin p e below _ (s₁.setTop (mkF m 100 #[.val (.int p1), .val (.int p2), .val (.int p3), .val (.int p4), .val (.int p5), .val (.int p6), .val (.int bR), .val (.int (((p2.toUInt32 >>> ((2 : Int32) &&& 31).toUInt32).toInt32) &&& (3 : Int32))), .val (.int rr), .val (.int tT), .val (.int kk), .val (.int (0 : Int32)), .unset, .unset, .unset, .unset, .unset, .unset, .unset] [(.int bR)]))
          refine own_on (fun tq => XS.ifNo X0.here hx rfl (hb hby at_100) rfl ((if0 _ _).trans (teq hc228).2)) ?_
          show own_Fin p e below _ (s₁.setTop (mkF m 103 #[.val (.int p1), .val (.int p2), .val (.int p3), .val (.int p4), .val (.int p5), .val (.int p6), .val (.int bR), .val (.int (((p2.toUInt32 >>> ((2 : Int32) &&& 31).toUInt32).toInt32) &&& (3 : Int32))), .val (.int rr), .val (.int tT), .val (.int kk), .val (.int (0 : Int32)), .unset, .unset, .unset, .unset, .unset, .unset, .unset] []))
          refine own_on (fun tq => XS.iload X0.here hx rfl (hb hby at_103) rfl) ?_
          show own_Fin p e below _ (s₁.setTop (mkF m 105 #[.val (.int p1), .val (.int p2), .val (.int p3), .val (.int p4), .val (.int p5), .val (.int p6), .val (.int bR), .val (.int (((p2.toUInt32 >>> ((2 : Int32) &&& 31).toUInt32).toInt32) &&& (3 : Int32))), .val (.int rr), .val (.int tT), .val (.int kk), .val (.int (0 : Int32)), .unset, .unset, .unset, .unset, .unset, .unset, .unset] [(.int p5)]))
          refine own_on (fun tq => X0.ldcInt hx hown (mvT hZ (hw _ (List.mem_of_getElem? (i := 1) rfl))) (g := (mkF m 105 #[.val (.int p1), .val (.int p2), .val (.int p3), .val (.int p4), .val (.int p5), .val (.int p6), .val (.int bR), .val (.int (((p2.toUInt32 >>> ((2 : Int32) &&& 31).toUInt32).toInt32) &&& (3 : Int32))), .val (.int rr), .val (.int tT), .val (.int kk), .val (.int (0 : Int32)), .unset, .unset, .unset, .unset, .unset, .unset, .unset] [(.int p5)])) rfl (hb hby at_105) tq) ?_
          show own_Fin p e below _ (s₁.setTop (mkF m 107 #[.val (.int p1), .val (.int p2), .val (.int p3), .val (.int p4), .val (.int p5), .val (.int p6), .val (.int bR), .val (.int (((p2.toUInt32 >>> ((2 : Int32) &&& 31).toUInt32).toInt32) &&& (3 : Int32))), .val (.int rr), .val (.int tT), .val (.int kk), .val (.int (0 : Int32)), .unset, .unset, .unset, .unset, .unset, .unset, .unset] [(.int (2147483647 : Int32)), (.int p5)]))
          refine own_on (fun tq => XS.iand X0.here hx rfl (hb hby at_107) rfl) ?_
          show own_Fin p e below _ (s₁.setTop (mkF m 108 #[.val (.int p1), .val (.int p2), .val (.int p3), .val (.int p4), .val (.int p5), .val (.int p6), .val (.int bR), .val (.int (((p2.toUInt32 >>> ((2 : Int32) &&& 31).toUInt32).toInt32) &&& (3 : Int32))), .val (.int rr), .val (.int tT), .val (.int kk), .val (.int (0 : Int32)), .unset, .unset, .unset, .unset, .unset, .unset, .unset] [(.int (p5 &&& (2147483647 : Int32)))]))
          refine own_on (fun tq => XS.goto X0.here hx rfl (pc0 := 108) (pc' := 119) rfl (hb hby at_108) (by decide) (by decide)) ?_
          show own_Fin p e below _ (s₁.setTop (mkF m 119 #[.val (.int p1), .val (.int p2), .val (.int p3), .val (.int p4), .val (.int p5), .val (.int p6), .val (.int bR), .val (.int (((p2.toUInt32 >>> ((2 : Int32) &&& 31).toUInt32).toInt32) &&& (3 : Int32))), .val (.int rr), .val (.int tT), .val (.int kk), .val (.int (0 : Int32)), .unset, .unset, .unset, .unset, .unset, .unset, .unset] [(.int (p5 &&& (2147483647 : Int32)))]))
          refine own_on (fun tq => XS.istore X0.here hx rfl (hb hby at_119) rfl (l' := #[.val (.int p1), .val (.int p2), .val (.int p3), .val (.int p4), .val (.int p5), .val (.int p6), .val (.int bR), .val (.int (((p2.toUInt32 >>> ((2 : Int32) &&& 31).toUInt32).toInt32) &&& (3 : Int32))), .val (.int rr), .val (.int tT), .val (.int kk), .val (.int (0 : Int32)), .val (.int (p5 &&& (2147483647 : Int32))), .unset, .unset, .unset, .unset, .unset, .unset]) rfl) ?_
          show own_Fin p e below _ (s₁.setTop (mkF m 121 #[.val (.int p1), .val (.int p2), .val (.int p3), .val (.int p4), .val (.int p5), .val (.int p6), .val (.int bR), .val (.int (((p2.toUInt32 >>> ((2 : Int32) &&& 31).toUInt32).toInt32) &&& (3 : Int32))), .val (.int rr), .val (.int tT), .val (.int kk), .val (.int (0 : Int32)), .val (.int (p5 &&& (2147483647 : Int32))), .unset, .unset, .unset, .unset, .unset, .unset] []))
          obtain ⟨bq, hbq⟩ : ∃ q : Int32, q = (p5 &&& (2147483647 : Int32)) := ⟨_, rfl⟩
          have b0 : 0 ≤ bq.toInt := hbq ▸ own_m31 p5
          rw [← hbq]
          show own_Fin p e below _ (s₁.setTop (mkF m 121 #[.val (.int p1), .val (.int p2), .val (.int p3), .val (.int p4), .val (.int p5), .val (.int p6), .val (.int bR), .val (.int (((p2.toUInt32 >>> ((2 : Int32) &&& 31).toUInt32).toInt32) &&& (3 : Int32))), .val (.int rr), .val (.int tT), .val (.int kk), .val (.int (0 : Int32)), .val (.int bq), .unset, .unset, .unset, .unset, .unset, .unset] []))
          obtain ⟨T229, h229, X229, e229, E229, A229, D229, -, st229⟩ := newO X0 hx hZ hown (hw _ (List.mem_of_getElem? (i := 2) rfl)) (hw _ (List.mem_of_getElem? (i := 3) rfl)) (hw _ (List.mem_of_getElem? (i := 4) rfl)) e0 (g := (mkF m 121 #[.val (.int p1), .val (.int p2), .val (.int p3), .val (.int p4), .val (.int p5), .val (.int p6), .val (.int bR), .val (.int (((p2.toUInt32 >>> ((2 : Int32) &&& 31).toUInt32).toInt32) &&& (3 : Int32))), .val (.int rr), .val (.int tT), .val (.int kk), .val (.int (0 : Int32)), .val (.int bq), .unset, .unset, .unset, .unset, .unset, .unset] [])) rfl (hb hby at_121) (by decide) (by decide)
          obtain ⟨b229, g229⟩ : ∃ z, z = h0.size := ⟨_, rfl⟩
          rw [← g229] at A229 D229 st229
          have y230 := (CHv.ext E229 CH0)
          have y231 := (CHr.trans (CHr.refl CH0) (CHr.ext E229 CH0))
          have y232 := (Nat.le_trans (Nat.zero_le _) E229.1)
          have y233 := (Nat.le_trans Z0 E229.1)
          have y234 := (Safe.ext E229 CH0 (Safe.new (Nat.le_of_eq g229.symm)))
          have gn229 : n0 ≤ b229 := Nat.le_trans Z0 (Nat.le_of_eq g229.symm)
          have F229_rate : Fld Z h229 b229 "com/example/curves_to_bounds/curvestobounds/curve/RateLatency" "rate" "D" (.double (0 : UInt64)) := D229 (Or.inr (hw _ (List.mem_of_getElem? (i := 39) rfl))) (ty := .double) (by decide)
          have F229_latency : Fld Z h229 b229 "com/example/curves_to_bounds/curvestobounds/curve/RateLatency" "latency" "D" (.double (0 : UInt64)) := D229 (Or.inr (hw _ (List.mem_of_getElem? (i := 41) rfl))) (ty := .double) (by decide)
          refine own_on st229 ?_
          show own_Fin p e below _ (T229.setTop (mkF m 124 #[.val (.int p1), .val (.int p2), .val (.int p3), .val (.int p4), .val (.int p5), .val (.int p6), .val (.int bR), .val (.int (((p2.toUInt32 >>> ((2 : Int32) &&& 31).toUInt32).toInt32) &&& (3 : Int32))), .val (.int rr), .val (.int tT), .val (.int kk), .val (.int (0 : Int32)), .val (.int bq), .unset, .unset, .unset, .unset, .unset, .unset] [(.ref b229)]))
          refine own_on (fun tq => XS.dup X229.here hx rfl (hb hby at_124) rfl rfl) ?_
          show own_Fin p e below _ (T229.setTop (mkF m 125 #[.val (.int p1), .val (.int p2), .val (.int p3), .val (.int p4), .val (.int p5), .val (.int p6), .val (.int bR), .val (.int (((p2.toUInt32 >>> ((2 : Int32) &&& 31).toUInt32).toInt32) &&& (3 : Int32))), .val (.int rr), .val (.int tT), .val (.int kk), .val (.int (0 : Int32)), .val (.int bq), .unset, .unset, .unset, .unset, .unset, .unset] [(.ref b229), (.ref b229)]))
          refine own_on (fun tq => XS.iload X229.here hx rfl (hb hby at_125) rfl) ?_
          show own_Fin p e below _ (T229.setTop (mkF m 127 #[.val (.int p1), .val (.int p2), .val (.int p3), .val (.int p4), .val (.int p5), .val (.int p6), .val (.int bR), .val (.int (((p2.toUInt32 >>> ((2 : Int32) &&& 31).toUInt32).toInt32) &&& (3 : Int32))), .val (.int rr), .val (.int tT), .val (.int kk), .val (.int (0 : Int32)), .val (.int bq), .unset, .unset, .unset, .unset, .unset, .unset] [(.int bR), (.ref b229), (.ref b229)]))
          refine own_on (fun tq => XS.i2dS X229.here hx rfl (hb hby at_127) rfl (i2d_w _)) ?_
          show own_Fin p e below _ (T229.setTop (mkF m 128 #[.val (.int p1), .val (.int p2), .val (.int p3), .val (.int p4), .val (.int p5), .val (.int p6), .val (.int bR), .val (.int (((p2.toUInt32 >>> ((2 : Int32) &&& 31).toUInt32).toInt32) &&& (3 : Int32))), .val (.int rr), .val (.int tT), .val (.int kk), .val (.int (0 : Int32)), .val (.int bq), .unset, .unset, .unset, .unset, .unset, .unset] [(.double (FP.l2d bR.toInt64)), (.ref b229), (.ref b229)]))
          refine own_on (fun tq => XS.iload X229.here hx rfl (hb hby at_128) rfl) ?_
          show own_Fin p e below _ (T229.setTop (mkF m 130 #[.val (.int p1), .val (.int p2), .val (.int p3), .val (.int p4), .val (.int p5), .val (.int p6), .val (.int bR), .val (.int (((p2.toUInt32 >>> ((2 : Int32) &&& 31).toUInt32).toInt32) &&& (3 : Int32))), .val (.int rr), .val (.int tT), .val (.int kk), .val (.int (0 : Int32)), .val (.int bq), .unset, .unset, .unset, .unset, .unset, .unset] [(.int tT), (.double (FP.l2d bR.toInt64)), (.ref b229), (.ref b229)]))
          refine own_on (fun tq => XS.i2dS X229.here hx rfl (hb hby at_130) rfl (i2d_w _)) ?_
          show own_Fin p e below _ (T229.setTop (mkF m 131 #[.val (.int p1), .val (.int p2), .val (.int p3), .val (.int p4), .val (.int p5), .val (.int p6), .val (.int bR), .val (.int (((p2.toUInt32 >>> ((2 : Int32) &&& 31).toUInt32).toInt32) &&& (3 : Int32))), .val (.int rr), .val (.int tT), .val (.int kk), .val (.int (0 : Int32)), .val (.int bq), .unset, .unset, .unset, .unset, .unset, .unset] [(.double (FP.l2d tT.toInt64)), (.double (FP.l2d bR.toInt64)), (.ref b229), (.ref b229)]))
          obtain ⟨_, _, ⟨T235, L235, k235, n235⟩, -, X235', S235', gr235, ⟨Lc235, hQ235, l235, y235, z235, A235⟩, st235⟩ := X229.specialBackS hx (y := (⟨"com/example/curves_to_bounds/curvestobounds/curve/RateLatency", "<init>", "(DD)V"⟩ : MethodName)) rfl hown (mvT hZ (hw _ (List.mem_of_getElem? (i := 5) rfl))) (mvT hZ (hw _ (List.mem_of_getElem? (i := 6) rfl))) (mvT hZ (hw _ (List.mem_of_getElem? (i := 7) rfl))) (by decide) (backOfSH (s := s) (W := 1) (rm1 l Z a0 hw [] b229 (FP.l2d bR.toInt64) (FP.l2d tT.toInt64) h229 n0 (by exact y233) hEL (own_okI rR.1) (own_okI rT.1) A229 F229_rate F229_latency gn229) hZ (hw _ (List.mem_of_getElem? (i := 7) rfl)) (hw _ (List.mem_of_getElem? (i := 4) rfl)) (by decide) (by decide) hEL y230) (g := (mkF m 131 #[.val (.int p1), .val (.int p2), .val (.int p3), .val (.int p4), .val (.int p5), .val (.int p6), .val (.int bR), .val (.int (((p2.toUInt32 >>> ((2 : Int32) &&& 31).toUInt32).toInt32) &&& (3 : Int32))), .val (.int rr), .val (.int tT), .val (.int kk), .val (.int (0 : Int32)), .val (.int bq), .unset, .unset, .unset, .unset, .unset, .unset] [(.double (FP.l2d tT.toInt64)), (.double (FP.l2d bR.toInt64)), (.ref b229), (.ref b229)])) rfl (by rw [hml]; rfl) (Steps.refl _) (a := b229) (argsL := [(.double (FP.l2d bR.toInt64)), (.double (FP.l2d tT.toInt64))]) (rest := [(.ref b229)]) (lenOf pd_5 rfl) rfl (by show 2 * 0 + _ ≤ _; exact Nat.le_of_eq rfl) (hb hby at_131) (fun _ _ => ⟨rfl, e229, (by decide : 1 + 4 ≤ _), (by decide : 2 + 52 ≤ _)⟩)
          dsimp only [Pt.U, Pt.locs, Pt.cells, Pt.slots] at X235' S235' gr235 l235 y235 z235 st235 hQ235 A235
          subst l235 y235 z235
          obtain ⟨X235, hS235, hZ235, hown235⟩ := rebS hS0 (by first | exact y232 | (rw [e229]; exact y232)) X235' S235' gr235 hZ hown
          obtain ⟨rfl, N235q, K235, E235q, F235a, F235b⟩ := hQ235
          have N235 := Fr.app N0 N235q
          have y236 := (CHr.trans y231 A235)
          have y237 := (Nat.le_refl (Array.size T235.heap))
          have y238 := (Nat.le_trans y233 K235.1)
          have y239 := (CHr.safe A235 F229_latency.lt y234)
          have y240 := (A229.keep K235)
          refine own_via st235 ?_
          show own_Fin p e below _ (T235.setTop (mkF m 134 #[.val (.int p1), .val (.int p2), .val (.int p3), .val (.int p4), .val (.int p5), .val (.int p6), .val (.int bR), .val (.int (((p2.toUInt32 >>> ((2 : Int32) &&& 31).toUInt32).toInt32) &&& (3 : Int32))), .val (.int rr), .val (.int tT), .val (.int kk), .val (.int (0 : Int32)), .val (.int bq), .unset, .unset, .unset, .unset, .unset, .unset] [(.ref b229)]))
          refine own_on (fun tq => XS.astore X235.here hx rfl (hb hby at_134) rfl rfl (l' := #[.val (.int p1), .val (.int p2), .val (.int p3), .val (.int p4), .val (.int p5), .val (.int p6), .val (.int bR), .val (.int (((p2.toUInt32 >>> ((2 : Int32) &&& 31).toUInt32).toInt32) &&& (3 : Int32))), .val (.int rr), .val (.int tT), .val (.int kk), .val (.int (0 : Int32)), .val (.int bq), .val (.ref b229), .unset, .unset, .unset, .unset, .unset]) rfl) ?_
          show own_Fin p e below _ (T235.setTop (mkF m 136 #[.val (.int p1), .val (.int p2), .val (.int p3), .val (.int p4), .val (.int p5), .val (.int p6), .val (.int bR), .val (.int (((p2.toUInt32 >>> ((2 : Int32) &&& 31).toUInt32).toInt32) &&& (3 : Int32))), .val (.int rr), .val (.int tT), .val (.int kk), .val (.int (0 : Int32)), .val (.int bq), .val (.ref b229), .unset, .unset, .unset, .unset, .unset] []))
          obtain ⟨T241, h241, X241, e241, E241, A241, D241, -, st241⟩ := newO X235 hx hZ235 hown235 (hw _ (List.mem_of_getElem? (i := 42) rfl)) (hw _ (List.mem_of_getElem? (i := 43) rfl)) (hw _ (List.mem_of_getElem? (i := 44) rfl)) rfl (g := (mkF m 136 #[.val (.int p1), .val (.int p2), .val (.int p3), .val (.int p4), .val (.int p5), .val (.int p6), .val (.int bR), .val (.int (((p2.toUInt32 >>> ((2 : Int32) &&& 31).toUInt32).toInt32) &&& (3 : Int32))), .val (.int rr), .val (.int tT), .val (.int kk), .val (.int (0 : Int32)), .val (.int bq), .val (.ref b229), .unset, .unset, .unset, .unset, .unset] [])) rfl (hb hby at_136) (by decide) (by decide)
          obtain ⟨b241, g241⟩ : ∃ z, z = T235.heap.size := ⟨_, rfl⟩
          rw [← g241] at A241 D241 st241
          have ne241_b229 : b229 ≠ b241 := own_ne_of (Z := Z) E235q.lt g241
          have y242 := (CHv.ext E241 A235.1)
          have y243 := (CHr.trans y236 (CHr.ext E241 A235.1))
          have y244 := (Nat.le_trans y237 E241.1)
          have y245 := (Nat.le_trans y238 E241.1)
          have y246 := (Safe.ext E241 A235.1 y239)
          have y247 := (E235q.ext E241)
          have y248 := (F235a.ext E241)
          have y249 := (F235b.ext E241)
          have y250 := (Safe.ext E241 A235.1 (Safe.new (Nat.le_of_eq g241.symm)))
          have gn241 : n0 ≤ b241 := Nat.le_trans y238 (Nat.le_of_eq g241.symm)
          have F241_rate : Fld Z h241 b241 "com/example/curves_to_bounds/curvestobounds/curve/TokenBucket" "rate" "D" (.double (0 : UInt64)) := D241 (Or.inr (hw _ (List.mem_of_getElem? (i := 53) rfl))) (ty := .double) (by decide)
          have F241_burst : Fld Z h241 b241 "com/example/curves_to_bounds/curvestobounds/curve/TokenBucket" "burst" "D" (.double (0 : UInt64)) := D241 (Or.inr (hw _ (List.mem_of_getElem? (i := 55) rfl))) (ty := .double) (by decide)
          refine own_on st241 ?_
          show own_Fin p e below _ (T241.setTop (mkF m 139 #[.val (.int p1), .val (.int p2), .val (.int p3), .val (.int p4), .val (.int p5), .val (.int p6), .val (.int bR), .val (.int (((p2.toUInt32 >>> ((2 : Int32) &&& 31).toUInt32).toInt32) &&& (3 : Int32))), .val (.int rr), .val (.int tT), .val (.int kk), .val (.int (0 : Int32)), .val (.int bq), .val (.ref b229), .unset, .unset, .unset, .unset, .unset] [(.ref b241)]))
          refine own_on (fun tq => XS.dup X241.here hx rfl (hb hby at_139) rfl rfl) ?_
          show own_Fin p e below _ (T241.setTop (mkF m 140 #[.val (.int p1), .val (.int p2), .val (.int p3), .val (.int p4), .val (.int p5), .val (.int p6), .val (.int bR), .val (.int (((p2.toUInt32 >>> ((2 : Int32) &&& 31).toUInt32).toInt32) &&& (3 : Int32))), .val (.int rr), .val (.int tT), .val (.int kk), .val (.int (0 : Int32)), .val (.int bq), .val (.ref b229), .unset, .unset, .unset, .unset, .unset] [(.ref b241), (.ref b241)]))
          refine own_on (fun tq => XS.iload X241.here hx rfl (hb hby at_140) rfl) ?_
          show own_Fin p e below _ (T241.setTop (mkF m 142 #[.val (.int p1), .val (.int p2), .val (.int p3), .val (.int p4), .val (.int p5), .val (.int p6), .val (.int bR), .val (.int (((p2.toUInt32 >>> ((2 : Int32) &&& 31).toUInt32).toInt32) &&& (3 : Int32))), .val (.int rr), .val (.int tT), .val (.int kk), .val (.int (0 : Int32)), .val (.int bq), .val (.ref b229), .unset, .unset, .unset, .unset, .unset] [(.int rr), (.ref b241), (.ref b241)]))
          refine own_on (fun tq => XS.i2dS X241.here hx rfl (hb hby at_142) rfl (i2d_w _)) ?_
          show own_Fin p e below _ (T241.setTop (mkF m 143 #[.val (.int p1), .val (.int p2), .val (.int p3), .val (.int p4), .val (.int p5), .val (.int p6), .val (.int bR), .val (.int (((p2.toUInt32 >>> ((2 : Int32) &&& 31).toUInt32).toInt32) &&& (3 : Int32))), .val (.int rr), .val (.int tT), .val (.int kk), .val (.int (0 : Int32)), .val (.int bq), .val (.ref b229), .unset, .unset, .unset, .unset, .unset] [(.double (FP.l2d rr.toInt64)), (.ref b241), (.ref b241)]))
          refine own_on (fun tq => XS.iload X241.here hx rfl (hb hby at_143) rfl) ?_
          show own_Fin p e below _ (T241.setTop (mkF m 145 #[.val (.int p1), .val (.int p2), .val (.int p3), .val (.int p4), .val (.int p5), .val (.int p6), .val (.int bR), .val (.int (((p2.toUInt32 >>> ((2 : Int32) &&& 31).toUInt32).toInt32) &&& (3 : Int32))), .val (.int rr), .val (.int tT), .val (.int kk), .val (.int (0 : Int32)), .val (.int bq), .val (.ref b229), .unset, .unset, .unset, .unset, .unset] [(.int bq), (.double (FP.l2d rr.toInt64)), (.ref b241), (.ref b241)]))
          refine own_on (fun tq => XS.i2dS X241.here hx rfl (hb hby at_145) rfl (i2d_w _)) ?_
          show own_Fin p e below _ (T241.setTop (mkF m 146 #[.val (.int p1), .val (.int p2), .val (.int p3), .val (.int p4), .val (.int p5), .val (.int p6), .val (.int bR), .val (.int (((p2.toUInt32 >>> ((2 : Int32) &&& 31).toUInt32).toInt32) &&& (3 : Int32))), .val (.int rr), .val (.int tT), .val (.int kk), .val (.int (0 : Int32)), .val (.int bq), .val (.ref b229), .unset, .unset, .unset, .unset, .unset] [(.double (FP.l2d bq.toInt64)), (.double (FP.l2d rr.toInt64)), (.ref b241), (.ref b241)]))
          obtain ⟨_, _, ⟨T251, L251, k251, n251⟩, -, X251', S251', gr251, ⟨Lc251, hQ251, l251, y251, z251, A251⟩, st251⟩ := X241.specialBackS hx (y := (⟨"com/example/curves_to_bounds/curvestobounds/curve/TokenBucket", "<init>", "(DD)V"⟩ : MethodName)) rfl hown235 (mvT hZ235 (hw _ (List.mem_of_getElem? (i := 45) rfl))) (mvT hZ235 (hw _ (List.mem_of_getElem? (i := 46) rfl))) (mvT hZ235 (hw _ (List.mem_of_getElem? (i := 47) rfl))) (by decide) (backOfSH (s := s) (W := 1) (rm7 l Z a0 hw [] b241 (FP.l2d rr.toInt64) (FP.l2d bq.toInt64) h241 n0 (by exact y245) hEL (own_okI r0) (own_okI b0) A241 F241_rate F241_burst gn241) hZ235 (hw _ (List.mem_of_getElem? (i := 47) rfl)) (hw _ (List.mem_of_getElem? (i := 44) rfl)) (by decide) (by decide) hEL y242) (g := (mkF m 146 #[.val (.int p1), .val (.int p2), .val (.int p3), .val (.int p4), .val (.int p5), .val (.int p6), .val (.int bR), .val (.int (((p2.toUInt32 >>> ((2 : Int32) &&& 31).toUInt32).toInt32) &&& (3 : Int32))), .val (.int rr), .val (.int tT), .val (.int kk), .val (.int (0 : Int32)), .val (.int bq), .val (.ref b229), .unset, .unset, .unset, .unset, .unset] [(.double (FP.l2d bq.toInt64)), (.double (FP.l2d rr.toInt64)), (.ref b241), (.ref b241)])) rfl (by rw [hml]; rfl) (Steps.refl _) (a := b241) (argsL := [(.double (FP.l2d rr.toInt64)), (.double (FP.l2d bq.toInt64))]) (rest := [(.ref b241)]) (lenOf pd_5 rfl) rfl (by show 2 * 0 + _ ≤ _; exact Nat.le_of_eq rfl) (hb hby at_146) (fun _ _ => ⟨rfl, e241, (by decide : 6 + 4 ≤ _), (by decide : 56 + 44 ≤ _)⟩)
          dsimp only [Pt.U, Pt.locs, Pt.cells, Pt.slots] at X251' S251' gr251 l251 y251 z251 st251 hQ251 A251
          subst l251 y251 z251
          obtain ⟨X251, hS251, hZ251, hown251⟩ := rebS hS235 (by first | exact y244 | (rw [e241]; exact y244)) X251' S251' gr251 hZ235 hown235
          obtain ⟨rfl, N251q, K251, E251q, F251a, F251b⟩ := hQ251
          have N251 := Fr.app N235 N251q
          have y252 := (CHr.trans y243 A251)
          have y253 := (Nat.le_refl (Array.size T251.heap))
          have y254 := (Nat.le_trans y245 K251.1)
          have y255 := (CHr.safe A251 y249.lt y246)
          have y256 := (y247.keep K251)
          have y257 := (y248.keep K251 (ninS ne241_b229 nin0))
          have y258 := (y249.keep K251 (ninS ne241_b229 nin0))
          have y259 := (CHr.safe A251 F241_burst.lt y250)
          have y260 := (A241.keep K251)
          refine own_via st251 ?_
          show own_Fin p e below _ (T251.setTop (mkF m 149 #[.val (.int p1), .val (.int p2), .val (.int p3), .val (.int p4), .val (.int p5), .val (.int p6), .val (.int bR), .val (.int (((p2.toUInt32 >>> ((2 : Int32) &&& 31).toUInt32).toInt32) &&& (3 : Int32))), .val (.int rr), .val (.int tT), .val (.int kk), .val (.int (0 : Int32)), .val (.int bq), .val (.ref b229), .unset, .unset, .unset, .unset, .unset] [(.ref b241)]))
          refine own_on (fun tq => XS.astore X251.here hx rfl (hb hby at_149) rfl rfl (l' := #[.val (.int p1), .val (.int p2), .val (.int p3), .val (.int p4), .val (.int p5), .val (.int p6), .val (.int bR), .val (.int (((p2.toUInt32 >>> ((2 : Int32) &&& 31).toUInt32).toInt32) &&& (3 : Int32))), .val (.int rr), .val (.int tT), .val (.int kk), .val (.int (0 : Int32)), .val (.int bq), .val (.ref b229), .val (.ref b241), .unset, .unset, .unset, .unset]) rfl) ?_
          show own_Fin p e below _ (T251.setTop (mkF m 151 #[.val (.int p1), .val (.int p2), .val (.int p3), .val (.int p4), .val (.int p5), .val (.int p6), .val (.int bR), .val (.int (((p2.toUInt32 >>> ((2 : Int32) &&& 31).toUInt32).toInt32) &&& (3 : Int32))), .val (.int rr), .val (.int tT), .val (.int kk), .val (.int (0 : Int32)), .val (.int bq), .val (.ref b229), .val (.ref b241), .unset, .unset, .unset, .unset] []))
          refine own_on (fun tq => XS.aload X251.here hx rfl (hb hby at_151) rfl rfl) ?_
          show own_Fin p e below _ (T251.setTop (mkF m 153 #[.val (.int p1), .val (.int p2), .val (.int p3), .val (.int p4), .val (.int p5), .val (.int p6), .val (.int bR), .val (.int (((p2.toUInt32 >>> ((2 : Int32) &&& 31).toUInt32).toInt32) &&& (3 : Int32))), .val (.int rr), .val (.int tT), .val (.int kk), .val (.int (0 : Int32)), .val (.int bq), .val (.ref b229), .val (.ref b241), .unset, .unset, .unset, .unset] [(.ref b229)]))
          refine own_on (fun tq => XS.aload X251.here hx rfl (hb hby at_153) rfl rfl) ?_
          show own_Fin p e below _ (T251.setTop (mkF m 155 #[.val (.int p1), .val (.int p2), .val (.int p3), .val (.int p4), .val (.int p5), .val (.int p6), .val (.int bR), .val (.int (((p2.toUInt32 >>> ((2 : Int32) &&& 31).toUInt32).toInt32) &&& (3 : Int32))), .val (.int rr), .val (.int tT), .val (.int kk), .val (.int (0 : Int32)), .val (.int bq), .val (.ref b229), .val (.ref b241), .unset, .unset, .unset, .unset] [(.ref b241), (.ref b229)]))
          obtain ⟨cq261, kq261, q261a, q261b, q261c⟩ := isOf hZ251 rfl y256
          obtain ⟨_, _, ⟨T261, L261, k261, n261⟩, -, X261, ⟨Lc261, hQ261, l261, y261, z261⟩, st261⟩ := X251.virtualBack hx (y := (⟨"com/example/curves_to_bounds/curvestobounds/curve/RateLatency", "delayBound", "(Lcom/example/curves_to_bounds/curvestobounds/curve/TokenBucket;)D"⟩ : MethodName)) (z := (⟨"com/example/curves_to_bounds/curvestobounds/curve/RateLatency", "delayBound", "(Lcom/example/curves_to_bounds/curvestobounds/curve/TokenBucket;)D"⟩ : MethodName)) hown251 (mvT hZ251 (hw _ (List.mem_of_getElem? (i := 56) rfl))) (mvT hZ251 (hw _ (List.mem_of_getElem? (i := 57) rfl))) (notFace_of_selects (args := #[]) (mvT hZ251 (hw _ (List.mem_of_getElem? (i := 59) rfl)))) (mvT hZ251 (hw _ (List.mem_of_getElem? (i := 59) rfl))) (mvT hZ251 (hw _ (List.mem_of_getElem? (i := 58) rfl))) (by decide) (backOf (W := 0) (rm8 l Z a0 hw [] b229 b241 (bR.toInt64) (tT.toInt64) (rr.toInt64) (bq.toInt64) T251.heap n0 (by exact y254) y257 y258 F251a F251b E251q (own_b32 _) (own_b32 _) (fun q_ => absurd (own_z0 hc228) q_)) hZ251 (hw _ (List.mem_of_getElem? (i := 60) rfl)) (hw _ (List.mem_of_getElem? (i := 4) rfl)) (by decide) (by decide)) q261a q261c (g := (mkF m 155 #[.val (.int p1), .val (.int p2), .val (.int p3), .val (.int p4), .val (.int p5), .val (.int p6), .val (.int bR), .val (.int (((p2.toUInt32 >>> ((2 : Int32) &&& 31).toUInt32).toInt32) &&& (3 : Int32))), .val (.int rr), .val (.int tT), .val (.int kk), .val (.int (0 : Int32)), .val (.int bq), .val (.ref b229), .val (.ref b241), .unset, .unset, .unset, .unset] [(.ref b241), (.ref b229)])) rfl (by rw [hml]; rfl) (Steps.refl _) (argsL := [(.ref b241)]) (rest := []) (lenOf pd_6 rfl) rfl (by show 2 * 0 + _ ≤ _; exact Nat.le_of_eq rfl) (hb hby at_155) (fun _ _ => ⟨rfl, rfl, (by decide : 10 + 0 ≤ _), (by decide : 100 + 0 ≤ _)⟩)
          dsimp only [Pt.U, Pt.locs, Pt.cells, Pt.slots] at X261 l261 y261 z261 st261 hQ261
          subst l261 y261 z261
          obtain ⟨rfl, N261q, e261⟩ := hQ261
          have N261 := Fr.app N251 N261q
          refine own_via st261 ?_
          show own_Fin p e below _ (T261.setTop (mkF m 158 #[.val (.int p1), .val (.int p2), .val (.int p3), .val (.int p4), .val (.int p5), .val (.int p6), .val (.int bR), .val (.int (((p2.toUInt32 >>> ((2 : Int32) &&& 31).toUInt32).toInt32) &&& (3 : Int32))), .val (.int rr), .val (.int tT), .val (.int kk), .val (.int (0 : Int32)), .val (.int bq), .val (.ref b229), .val (.ref b241), .unset, .unset, .unset, .unset] [(.double (if bR.toInt64 = 0 ∨ bR.toInt64 < rr.toInt64 then (9218868437227405312 : UInt64) else FP.dadd (FP.l2d tT.toInt64) (FP.ddiv (FP.l2d bq.toInt64) (FP.l2d bR.toInt64))))]))
          obtain ⟨bd, hbd⟩ : ∃ q : UInt64, q = (if bR.toInt64 = 0 ∨ bR.toInt64 < rr.toInt64 then (9218868437227405312 : UInt64) else FP.dadd (FP.l2d tT.toInt64) (FP.ddiv (FP.l2d bq.toInt64) (FP.l2d bR.toInt64))) := ⟨_, rfl⟩
          rw [← hbd]
          show own_Fin p e below _ (T261.setTop (mkF m 158 #[.val (.int p1), .val (.int p2), .val (.int p3), .val (.int p4), .val (.int p5), .val (.int p6), .val (.int bR), .val (.int (((p2.toUInt32 >>> ((2 : Int32) &&& 31).toUInt32).toInt32) &&& (3 : Int32))), .val (.int rr), .val (.int tT), .val (.int kk), .val (.int (0 : Int32)), .val (.int bq), .val (.ref b229), .val (.ref b241), .unset, .unset, .unset, .unset] [(.double bd)]))
          refine own_on (fun tq => XS.dstore X261.here hx rfl (hb hby at_158) rfl (l' := #[.val (.int p1), .val (.int p2), .val (.int p3), .val (.int p4), .val (.int p5), .val (.int p6), .val (.int bR), .val (.int (((p2.toUInt32 >>> ((2 : Int32) &&& 31).toUInt32).toInt32) &&& (3 : Int32))), .val (.int rr), .val (.int tT), .val (.int kk), .val (.int (0 : Int32)), .val (.int bq), .val (.ref b229), .val (.ref b241), .val (.double bd), .second, .unset, .unset]) rfl) ?_
          show own_Fin p e below _ (T261.setTop (mkF m 160 #[.val (.int p1), .val (.int p2), .val (.int p3), .val (.int p4), .val (.int p5), .val (.int p6), .val (.int bR), .val (.int (((p2.toUInt32 >>> ((2 : Int32) &&& 31).toUInt32).toInt32) &&& (3 : Int32))), .val (.int rr), .val (.int tT), .val (.int kk), .val (.int (0 : Int32)), .val (.int bq), .val (.ref b229), .val (.ref b241), .val (.double bd), .second, .unset, .unset] []))
          refine own_on (fun tq => XS.iload X261.here hx rfl (hb hby at_160) rfl) ?_
          show own_Fin p e below _ (T261.setTop (mkF m 162 #[.val (.int p1), .val (.int p2), .val (.int p3), .val (.int p4), .val (.int p5), .val (.int p6), .val (.int bR), .val (.int (((p2.toUInt32 >>> ((2 : Int32) &&& 31).toUInt32).toInt32) &&& (3 : Int32))), .val (.int rr), .val (.int tT), .val (.int kk), .val (.int (0 : Int32)), .val (.int bq), .val (.ref b229), .val (.ref b241), .val (.double bd), .second, .unset, .unset] [(.int bR)]))
          refine own_on (fun tq => XS.ifYes X261.here hx rfl (pc0 := 162) (pc' := 172) rfl (hb hby at_162) rfl ((if0 _ _).trans (teq hc228).1) (by decide) (by decide)) ?_
          show own_Fin p e below _ (T261.setTop (mkF m 172 #[.val (.int p1), .val (.int p2), .val (.int p3), .val (.int p4), .val (.int p5), .val (.int p6), .val (.int bR), .val (.int (((p2.toUInt32 >>> ((2 : Int32) &&& 31).toUInt32).toInt32) &&& (3 : Int32))), .val (.int rr), .val (.int tT), .val (.int kk), .val (.int (0 : Int32)), .val (.int bq), .val (.ref b229), .val (.ref b241), .val (.double bd), .second, .unset, .unset] []))
          refine own_on (fun tq => XS.dload X261.here hx rfl (hb hby at_172) rfl) ?_
          show own_Fin p e below _ (T261.setTop (mkF m 174 #[.val (.int p1), .val (.int p2), .val (.int p3), .val (.int p4), .val (.int p5), .val (.int p6), .val (.int bR), .val (.int (((p2.toUInt32 >>> ((2 : Int32) &&& 31).toUInt32).toInt32) &&& (3 : Int32))), .val (.int rr), .val (.int tT), .val (.int kk), .val (.int (0 : Int32)), .val (.int bq), .val (.ref b229), .val (.ref b241), .val (.double bd), .second, .unset, .unset] [(.double bd)]))
          refine own_on (fun tq => X261.ldc2DoubleC hx hown251 (mvT hZ251 (hw _ (List.mem_of_getElem? (i := 62) rfl))) (g := (mkF m 174 #[.val (.int p1), .val (.int p2), .val (.int p3), .val (.int p4), .val (.int p5), .val (.int p6), .val (.int bR), .val (.int (((p2.toUInt32 >>> ((2 : Int32) &&& 31).toUInt32).toInt32) &&& (3 : Int32))), .val (.int rr), .val (.int tT), .val (.int kk), .val (.int (0 : Int32)), .val (.int bq), .val (.ref b229), .val (.ref b241), .val (.double bd), .second, .unset, .unset] [(.double bd)])) rfl (hb hby at_174) tq) ?_
          show own_Fin p e below _ (T261.setTop (mkF m 177 #[.val (.int p1), .val (.int p2), .val (.int p3), .val (.int p4), .val (.int p5), .val (.int p6), .val (.int bR), .val (.int (((p2.toUInt32 >>> ((2 : Int32) &&& 31).toUInt32).toInt32) &&& (3 : Int32))), .val (.int rr), .val (.int tT), .val (.int kk), .val (.int (0 : Int32)), .val (.int bq), .val (.ref b229), .val (.ref b241), .val (.double bd), .second, .unset, .unset] [(.double (9218868437227405312 : UInt64)), (.double bd)]))
          refine own_on (fun tq => XS.dcmpS X261.here hx rfl (hb hby at_177) rfl (own_pinf (hbd.trans (if_pos (Or.inl (own_z0 hc228)))))) ?_
          show own_Fin p e below _ (T261.setTop (mkF m 178 #[.val (.int p1), .val (.int p2), .val (.int p3), .val (.int p4), .val (.int p5), .val (.int p6), .val (.int bR), .val (.int (((p2.toUInt32 >>> ((2 : Int32) &&& 31).toUInt32).toInt32) &&& (3 : Int32))), .val (.int rr), .val (.int tT), .val (.int kk), .val (.int (0 : Int32)), .val (.int bq), .val (.ref b229), .val (.ref b241), .val (.double bd), .second, .unset, .unset] [(.int (0 : Int32))]))
          refine own_on (fun tq => XS.ifNo X261.here hx rfl (hb hby at_178) rfl ((if0 _ _).trans (teq (by decide : (0 : Int32) = (0 : Int32))).2)) ?_
          show own_Fin p e below _ (T261.setTop (mkF m 181 #[.val (.int p1), .val (.int p2), .val (.int p3), .val (.int p4), .val (.int p5), .val (.int p6), .val (.int bR), .val (.int (((p2.toUInt32 >>> ((2 : Int32) &&& 31).toUInt32).toInt32) &&& (3 : Int32))), .val (.int rr), .val (.int tT), .val (.int kk), .val (.int (0 : Int32)), .val (.int bq), .val (.ref b229), .val (.ref b241), .val (.double bd), .second, .unset, .unset] []))
          refine own_on (fun tq => XS.iconst X261.here hx rfl (hb hby at_181)) ?_
          show own_Fin p e below _ (T261.setTop (mkF m 182 #[.val (.int p1), .val (.int p2), .val (.int p3), .val (.int p4), .val (.int p5), .val (.int p6), .val (.int bR), .val (.int (((p2.toUInt32 >>> ((2 : Int32) &&& 31).toUInt32).toInt32) &&& (3 : Int32))), .val (.int rr), .val (.int tT), .val (.int kk), .val (.int (0 : Int32)), .val (.int bq), .val (.ref b229), .val (.ref b241), .val (.double bd), .second, .unset, .unset] [(.int (1 : Int32))]))
          refine own_on (fun tq => XS.goto X261.here hx rfl (pc0 := 182) (pc' := 186) rfl (hb hby at_182) (by decide) (by decide)) ?_
          show own_Fin p e below _ (T261.setTop (mkF m 186 #[.val (.int p1), .val (.int p2), .val (.int p3), .val (.int p4), .val (.int p5), .val (.int p6), .val (.int bR), .val (.int (((p2.toUInt32 >>> ((2 : Int32) &&& 31).toUInt32).toInt32) &&& (3 : Int32))), .val (.int rr), .val (.int tT), .val (.int kk), .val (.int (0 : Int32)), .val (.int bq), .val (.ref b229), .val (.ref b241), .val (.double bd), .second, .unset, .unset] [(.int (1 : Int32))]))
          exact own_retW (t := .boolean) X261 (Z := Z) (EL := own_EL) (a0 := a0) hx hlk hret rfl (Or.inl ⟨rfl, (by simp), _, rfl⟩) (hb hby at_186) hS251 (by rw [e261]; exact y253) hZ251 hEL (by rw [hh, e261]; exact y252) (⟨rfl, N261⟩) (by decide) (by decide)
        · refine own_on (fun tq => XS.ifYes X0.here hx rfl (pc0 := 81) (pc' := 88) rfl (hb hby at_81) rfl ((if0 _ _).trans (feq hc228).2) (by decide) (by decide)) ?_
          show own_Fin p e below _ (s₁.setTop (mkF m 88 #[.val (.int p1), .val (.int p2), .val (.int p3), .val (.int p4), .val (.int p5), .val (.int p6), .val (.int bR), .val (.int (((p2.toUInt32 >>> ((2 : Int32) &&& 31).toUInt32).toInt32) &&& (3 : Int32))), .val (.int rr), .val (.int tT), .val (.int kk), .unset, .unset, .unset, .unset, .unset, .unset, .unset, .unset] []))
          refine own_on (fun tq => XS.iload X0.here hx rfl (hb hby at_88) rfl) ?_
          show own_Fin p e below _ (s₁.setTop (mkF m 90 #[.val (.int p1), .val (.int p2), .val (.int p3), .val (.int p4), .val (.int p5), .val (.int p6), .val (.int bR), .val (.int (((p2.toUInt32 >>> ((2 : Int32) &&& 31).toUInt32).toInt32) &&& (3 : Int32))), .val (.int rr), .val (.int tT), .val (.int kk), .unset, .unset, .unset, .unset, .unset, .unset, .unset, .unset] [(.int p6)]))
          refine own_on (fun tq => X0.ldcInt hx hown (mvT hZ (hw _ (List.mem_of_getElem? (i := 1) rfl))) (g := (mkF m 90 #[.val (.int p1), .val (.int p2), .val (.int p3), .val (.int p4), .val (.int p5), .val (.int p6), .val (.int bR), .val (.int (((p2.toUInt32 >>> ((2 : Int32) &&& 31).toUInt32).toInt32) &&& (3 : Int32))), .val (.int rr), .val (.int tT), .val (.int kk), .unset, .unset, .unset, .unset, .unset, .unset, .unset, .unset] [(.int p6)])) rfl (hb hby at_90) tq) ?_
          show own_Fin p e below _ (s₁.setTop (mkF m 92 #[.val (.int p1), .val (.int p2), .val (.int p3), .val (.int p4), .val (.int p5), .val (.int p6), .val (.int bR), .val (.int (((p2.toUInt32 >>> ((2 : Int32) &&& 31).toUInt32).toInt32) &&& (3 : Int32))), .val (.int rr), .val (.int tT), .val (.int kk), .unset, .unset, .unset, .unset, .unset, .unset, .unset, .unset] [(.int (2147483647 : Int32)), (.int p6)]))
          refine own_on (fun tq => XS.iand X0.here hx rfl (hb hby at_92) rfl) ?_
          show own_Fin p e below _ (s₁.setTop (mkF m 93 #[.val (.int p1), .val (.int p2), .val (.int p3), .val (.int p4), .val (.int p5), .val (.int p6), .val (.int bR), .val (.int (((p2.toUInt32 >>> ((2 : Int32) &&& 31).toUInt32).toInt32) &&& (3 : Int32))), .val (.int rr), .val (.int tT), .val (.int kk), .unset, .unset, .unset, .unset, .unset, .unset, .unset, .unset] [(.int (p6 &&& (2147483647 : Int32)))]))
          refine own_on (fun tq => XS.iload X0.here hx rfl (hb hby at_93) rfl) ?_
          show own_Fin p e below _ (s₁.setTop (mkF m 95 #[.val (.int p1), .val (.int p2), .val (.int p3), .val (.int p4), .val (.int p5), .val (.int p6), .val (.int bR), .val (.int (((p2.toUInt32 >>> ((2 : Int32) &&& 31).toUInt32).toInt32) &&& (3 : Int32))), .val (.int rr), .val (.int tT), .val (.int kk), .unset, .unset, .unset, .unset, .unset, .unset, .unset, .unset] [(.int bR), (.int (p6 &&& (2147483647 : Int32)))]))
          refine own_on (fun tq => iremM X0 hx rfl (hb hby at_95) rfl hc228) ?_
          show own_Fin p e below _ (s₁.setTop (mkF m 96 #[.val (.int p1), .val (.int p2), .val (.int p3), .val (.int p4), .val (.int p5), .val (.int p6), .val (.int bR), .val (.int (((p2.toUInt32 >>> ((2 : Int32) &&& 31).toUInt32).toInt32) &&& (3 : Int32))), .val (.int rr), .val (.int tT), .val (.int kk), .unset, .unset, .unset, .unset, .unset, .unset, .unset, .unset] [(.int ((p6 &&& (2147483647 : Int32)) % bR))]))
          refine own_on (fun tq => XS.istore X0.here hx rfl (hb hby at_96) rfl (l' := #[.val (.int p1), .val (.int p2), .val (.int p3), .val (.int p4), .val (.int p5), .val (.int p6), .val (.int bR), .val (.int (((p2.toUInt32 >>> ((2 : Int32) &&& 31).toUInt32).toInt32) &&& (3 : Int32))), .val (.int rr), .val (.int tT), .val (.int kk), .val (.int ((p6 &&& (2147483647 : Int32)) % bR)), .unset, .unset, .unset, .unset, .unset, .unset, .unset]) rfl) ?_
          show own_Fin p e below _ (s₁.setTop (mkF m 98 #[.val (.int p1), .val (.int p2), .val (.int p3), .val (.int p4), .val (.int p5), .val (.int p6), .val (.int bR), .val (.int (((p2.toUInt32 >>> ((2 : Int32) &&& 31).toUInt32).toInt32) &&& (3 : Int32))), .val (.int rr), .val (.int tT), .val (.int kk), .val (.int ((p6 &&& (2147483647 : Int32)) % bR)), .unset, .unset, .unset, .unset, .unset, .unset, .unset] []))
          obtain ⟨mq, hmq⟩ : ∃ q : Int32, q = ((p6 &&& (2147483647 : Int32)) % bR) := ⟨_, rfl⟩
          have rm : 0 ≤ mq.toInt ∧ mq.toInt < bR.toInt := hmq ▸ own_rm rR hc228
          rw [← hmq]
          show own_Fin p e below _ (s₁.setTop (mkF m 98 #[.val (.int p1), .val (.int p2), .val (.int p3), .val (.int p4), .val (.int p5), .val (.int p6), .val (.int bR), .val (.int (((p2.toUInt32 >>> ((2 : Int32) &&& 31).toUInt32).toInt32) &&& (3 : Int32))), .val (.int rr), .val (.int tT), .val (.int kk), .val (.int mq), .unset, .unset, .unset, .unset, .unset, .unset, .unset] []))
          refine own_on (fun tq => XS.iload X0.here hx rfl (hb hby at_98) rfl) ?_
          show own_Fin p e below _ (s₁.setTop (mkF m 100 #[.val (.int p1), .val (.int p2), .val (.int p3), .val (.int p4), .val (.int p5), .val (.int p6), .val (.int bR), .val (.int (((p2.toUInt32 >>> ((2 : Int32) &&& 31).toUInt32).toInt32) &&& (3 : Int32))), .val (.int rr), .val (.int tT), .val (.int kk), .val (.int mq), .unset, .unset, .unset, .unset, .unset, .unset, .unset] [(.int bR)]))
          refine own_on (fun tq => XS.ifYes X0.here hx rfl (pc0 := 100) (pc' := 111) rfl (hb hby at_100) rfl ((if0 _ _).trans (feq hc228).2) (by decide) (by decide)) ?_
          show own_Fin p e below _ (s₁.setTop (mkF m 111 #[.val (.int p1), .val (.int p2), .val (.int p3), .val (.int p4), .val (.int p5), .val (.int p6), .val (.int bR), .val (.int (((p2.toUInt32 >>> ((2 : Int32) &&& 31).toUInt32).toInt32) &&& (3 : Int32))), .val (.int rr), .val (.int tT), .val (.int kk), .val (.int mq), .unset, .unset, .unset, .unset, .unset, .unset, .unset] []))
          refine own_on (fun tq => XS.iload X0.here hx rfl (hb hby at_111) rfl) ?_
          show own_Fin p e below _ (s₁.setTop (mkF m 113 #[.val (.int p1), .val (.int p2), .val (.int p3), .val (.int p4), .val (.int p5), .val (.int p6), .val (.int bR), .val (.int (((p2.toUInt32 >>> ((2 : Int32) &&& 31).toUInt32).toInt32) &&& (3 : Int32))), .val (.int rr), .val (.int tT), .val (.int kk), .val (.int mq), .unset, .unset, .unset, .unset, .unset, .unset, .unset] [(.int bR)]))
          refine own_on (fun tq => XS.iload X0.here hx rfl (hb hby at_113) rfl) ?_
          show own_Fin p e below _ (s₁.setTop (mkF m 115 #[.val (.int p1), .val (.int p2), .val (.int p3), .val (.int p4), .val (.int p5), .val (.int p6), .val (.int bR), .val (.int (((p2.toUInt32 >>> ((2 : Int32) &&& 31).toUInt32).toInt32) &&& (3 : Int32))), .val (.int rr), .val (.int tT), .val (.int kk), .val (.int mq), .unset, .unset, .unset, .unset, .unset, .unset, .unset] [(.int kk), (.int bR)]))
          refine own_on (fun tq => XS.imul X0.here hx rfl (hb hby at_115) rfl) ?_
          show own_Fin p e below _ (s₁.setTop (mkF m 116 #[.val (.int p1), .val (.int p2), .val (.int p3), .val (.int p4), .val (.int p5), .val (.int p6), .val (.int bR), .val (.int (((p2.toUInt32 >>> ((2 : Int32) &&& 31).toUInt32).toInt32) &&& (3 : Int32))), .val (.int rr), .val (.int tT), .val (.int kk), .val (.int mq), .unset, .unset, .unset, .unset, .unset, .unset, .unset] [(.int (bR * kk))]))
          refine own_on (fun tq => XS.iload X0.here hx rfl (hb hby at_116) rfl) ?_
          show own_Fin p e below _ (s₁.setTop (mkF m 118 #[.val (.int p1), .val (.int p2), .val (.int p3), .val (.int p4), .val (.int p5), .val (.int p6), .val (.int bR), .val (.int (((p2.toUInt32 >>> ((2 : Int32) &&& 31).toUInt32).toInt32) &&& (3 : Int32))), .val (.int rr), .val (.int tT), .val (.int kk), .val (.int mq), .unset, .unset, .unset, .unset, .unset, .unset, .unset] [(.int mq), (.int (bR * kk))]))
          refine own_on (fun tq => XS.iadd X0.here hx rfl (hb hby at_118) rfl) ?_
          show own_Fin p e below _ (s₁.setTop (mkF m 119 #[.val (.int p1), .val (.int p2), .val (.int p3), .val (.int p4), .val (.int p5), .val (.int p6), .val (.int bR), .val (.int (((p2.toUInt32 >>> ((2 : Int32) &&& 31).toUInt32).toInt32) &&& (3 : Int32))), .val (.int rr), .val (.int tT), .val (.int kk), .val (.int mq), .unset, .unset, .unset, .unset, .unset, .unset, .unset] [(.int ((bR * kk) + mq))]))
          refine own_on (fun tq => XS.istore X0.here hx rfl (hb hby at_119) rfl (l' := #[.val (.int p1), .val (.int p2), .val (.int p3), .val (.int p4), .val (.int p5), .val (.int p6), .val (.int bR), .val (.int (((p2.toUInt32 >>> ((2 : Int32) &&& 31).toUInt32).toInt32) &&& (3 : Int32))), .val (.int rr), .val (.int tT), .val (.int kk), .val (.int mq), .val (.int ((bR * kk) + mq)), .unset, .unset, .unset, .unset, .unset, .unset]) rfl) ?_
          show own_Fin p e below _ (s₁.setTop (mkF m 121 #[.val (.int p1), .val (.int p2), .val (.int p3), .val (.int p4), .val (.int p5), .val (.int p6), .val (.int bR), .val (.int (((p2.toUInt32 >>> ((2 : Int32) &&& 31).toUInt32).toInt32) &&& (3 : Int32))), .val (.int rr), .val (.int tT), .val (.int kk), .val (.int mq), .val (.int ((bR * kk) + mq)), .unset, .unset, .unset, .unset, .unset, .unset] []))
          obtain ⟨bq, hbq⟩ : ∃ q : Int32, q = ((bR * kk) + mq) := ⟨_, rfl⟩
          have hbb : bq.toInt = bR.toInt * kk.toInt + mq.toInt ∧ 0 ≤ bq.toInt := hbq ▸ own_rb rR rk rm
          rw [← hbq]
          show own_Fin p e below _ (s₁.setTop (mkF m 121 #[.val (.int p1), .val (.int p2), .val (.int p3), .val (.int p4), .val (.int p5), .val (.int p6), .val (.int bR), .val (.int (((p2.toUInt32 >>> ((2 : Int32) &&& 31).toUInt32).toInt32) &&& (3 : Int32))), .val (.int rr), .val (.int tT), .val (.int kk), .val (.int mq), .val (.int bq), .unset, .unset, .unset, .unset, .unset, .unset] []))
          obtain ⟨T262, h262, X262, e262, E262, A262, D262, -, st262⟩ := newO X0 hx hZ hown (hw _ (List.mem_of_getElem? (i := 2) rfl)) (hw _ (List.mem_of_getElem? (i := 3) rfl)) (hw _ (List.mem_of_getElem? (i := 4) rfl)) e0 (g := (mkF m 121 #[.val (.int p1), .val (.int p2), .val (.int p3), .val (.int p4), .val (.int p5), .val (.int p6), .val (.int bR), .val (.int (((p2.toUInt32 >>> ((2 : Int32) &&& 31).toUInt32).toInt32) &&& (3 : Int32))), .val (.int rr), .val (.int tT), .val (.int kk), .val (.int mq), .val (.int bq), .unset, .unset, .unset, .unset, .unset, .unset] [])) rfl (hb hby at_121) (by decide) (by decide)
          obtain ⟨b262, g262⟩ : ∃ z, z = h0.size := ⟨_, rfl⟩
          rw [← g262] at A262 D262 st262
          have y263 := (CHv.ext E262 CH0)
          have y264 := (CHr.trans (CHr.refl CH0) (CHr.ext E262 CH0))
          have y265 := (Nat.le_trans (Nat.zero_le _) E262.1)
          have y266 := (Nat.le_trans Z0 E262.1)
          have y267 := (Safe.ext E262 CH0 (Safe.new (Nat.le_of_eq g262.symm)))
          have gn262 : n0 ≤ b262 := Nat.le_trans Z0 (Nat.le_of_eq g262.symm)
          have F262_rate : Fld Z h262 b262 "com/example/curves_to_bounds/curvestobounds/curve/RateLatency" "rate" "D" (.double (0 : UInt64)) := D262 (Or.inr (hw _ (List.mem_of_getElem? (i := 39) rfl))) (ty := .double) (by decide)
          have F262_latency : Fld Z h262 b262 "com/example/curves_to_bounds/curvestobounds/curve/RateLatency" "latency" "D" (.double (0 : UInt64)) := D262 (Or.inr (hw _ (List.mem_of_getElem? (i := 41) rfl))) (ty := .double) (by decide)
          refine own_on st262 ?_
          show own_Fin p e below _ (T262.setTop (mkF m 124 #[.val (.int p1), .val (.int p2), .val (.int p3), .val (.int p4), .val (.int p5), .val (.int p6), .val (.int bR), .val (.int (((p2.toUInt32 >>> ((2 : Int32) &&& 31).toUInt32).toInt32) &&& (3 : Int32))), .val (.int rr), .val (.int tT), .val (.int kk), .val (.int mq), .val (.int bq), .unset, .unset, .unset, .unset, .unset, .unset] [(.ref b262)]))
          refine own_on (fun tq => XS.dup X262.here hx rfl (hb hby at_124) rfl rfl) ?_
          show own_Fin p e below _ (T262.setTop (mkF m 125 #[.val (.int p1), .val (.int p2), .val (.int p3), .val (.int p4), .val (.int p5), .val (.int p6), .val (.int bR), .val (.int (((p2.toUInt32 >>> ((2 : Int32) &&& 31).toUInt32).toInt32) &&& (3 : Int32))), .val (.int rr), .val (.int tT), .val (.int kk), .val (.int mq), .val (.int bq), .unset, .unset, .unset, .unset, .unset, .unset] [(.ref b262), (.ref b262)]))
          refine own_on (fun tq => XS.iload X262.here hx rfl (hb hby at_125) rfl) ?_
          show own_Fin p e below _ (T262.setTop (mkF m 127 #[.val (.int p1), .val (.int p2), .val (.int p3), .val (.int p4), .val (.int p5), .val (.int p6), .val (.int bR), .val (.int (((p2.toUInt32 >>> ((2 : Int32) &&& 31).toUInt32).toInt32) &&& (3 : Int32))), .val (.int rr), .val (.int tT), .val (.int kk), .val (.int mq), .val (.int bq), .unset, .unset, .unset, .unset, .unset, .unset] [(.int bR), (.ref b262), (.ref b262)]))
          refine own_on (fun tq => XS.i2dS X262.here hx rfl (hb hby at_127) rfl (i2d_w _)) ?_
          show own_Fin p e below _ (T262.setTop (mkF m 128 #[.val (.int p1), .val (.int p2), .val (.int p3), .val (.int p4), .val (.int p5), .val (.int p6), .val (.int bR), .val (.int (((p2.toUInt32 >>> ((2 : Int32) &&& 31).toUInt32).toInt32) &&& (3 : Int32))), .val (.int rr), .val (.int tT), .val (.int kk), .val (.int mq), .val (.int bq), .unset, .unset, .unset, .unset, .unset, .unset] [(.double (FP.l2d bR.toInt64)), (.ref b262), (.ref b262)]))
          refine own_on (fun tq => XS.iload X262.here hx rfl (hb hby at_128) rfl) ?_
          show own_Fin p e below _ (T262.setTop (mkF m 130 #[.val (.int p1), .val (.int p2), .val (.int p3), .val (.int p4), .val (.int p5), .val (.int p6), .val (.int bR), .val (.int (((p2.toUInt32 >>> ((2 : Int32) &&& 31).toUInt32).toInt32) &&& (3 : Int32))), .val (.int rr), .val (.int tT), .val (.int kk), .val (.int mq), .val (.int bq), .unset, .unset, .unset, .unset, .unset, .unset] [(.int tT), (.double (FP.l2d bR.toInt64)), (.ref b262), (.ref b262)]))
          refine own_on (fun tq => XS.i2dS X262.here hx rfl (hb hby at_130) rfl (i2d_w _)) ?_
          show own_Fin p e below _ (T262.setTop (mkF m 131 #[.val (.int p1), .val (.int p2), .val (.int p3), .val (.int p4), .val (.int p5), .val (.int p6), .val (.int bR), .val (.int (((p2.toUInt32 >>> ((2 : Int32) &&& 31).toUInt32).toInt32) &&& (3 : Int32))), .val (.int rr), .val (.int tT), .val (.int kk), .val (.int mq), .val (.int bq), .unset, .unset, .unset, .unset, .unset, .unset] [(.double (FP.l2d tT.toInt64)), (.double (FP.l2d bR.toInt64)), (.ref b262), (.ref b262)]))
          obtain ⟨_, _, ⟨T268, L268, k268, n268⟩, -, X268', S268', gr268, ⟨Lc268, hQ268, l268, y268, z268, A268⟩, st268⟩ := X262.specialBackS hx (y := (⟨"com/example/curves_to_bounds/curvestobounds/curve/RateLatency", "<init>", "(DD)V"⟩ : MethodName)) rfl hown (mvT hZ (hw _ (List.mem_of_getElem? (i := 5) rfl))) (mvT hZ (hw _ (List.mem_of_getElem? (i := 6) rfl))) (mvT hZ (hw _ (List.mem_of_getElem? (i := 7) rfl))) (by decide) (backOfSH (s := s) (W := 1) (rm1 l Z a0 hw [] b262 (FP.l2d bR.toInt64) (FP.l2d tT.toInt64) h262 n0 (by exact y266) hEL (own_okI rR.1) (own_okI rT.1) A262 F262_rate F262_latency gn262) hZ (hw _ (List.mem_of_getElem? (i := 7) rfl)) (hw _ (List.mem_of_getElem? (i := 4) rfl)) (by decide) (by decide) hEL y263) (g := (mkF m 131 #[.val (.int p1), .val (.int p2), .val (.int p3), .val (.int p4), .val (.int p5), .val (.int p6), .val (.int bR), .val (.int (((p2.toUInt32 >>> ((2 : Int32) &&& 31).toUInt32).toInt32) &&& (3 : Int32))), .val (.int rr), .val (.int tT), .val (.int kk), .val (.int mq), .val (.int bq), .unset, .unset, .unset, .unset, .unset, .unset] [(.double (FP.l2d tT.toInt64)), (.double (FP.l2d bR.toInt64)), (.ref b262), (.ref b262)])) rfl (by rw [hml]; rfl) (Steps.refl _) (a := b262) (argsL := [(.double (FP.l2d bR.toInt64)), (.double (FP.l2d tT.toInt64))]) (rest := [(.ref b262)]) (lenOf pd_5 rfl) rfl (by show 2 * 0 + _ ≤ _; exact Nat.le_of_eq rfl) (hb hby at_131) (fun _ _ => ⟨rfl, e262, (by decide : 1 + 4 ≤ _), (by decide : 2 + 52 ≤ _)⟩)
          dsimp only [Pt.U, Pt.locs, Pt.cells, Pt.slots] at X268' S268' gr268 l268 y268 z268 st268 hQ268 A268
          subst l268 y268 z268
          obtain ⟨X268, hS268, hZ268, hown268⟩ := rebS hS0 (by first | exact y265 | (rw [e262]; exact y265)) X268' S268' gr268 hZ hown
          obtain ⟨rfl, N268q, K268, E268q, F268a, F268b⟩ := hQ268
          have N268 := Fr.app N0 N268q
          have y269 := (CHr.trans y264 A268)
          have y270 := (Nat.le_refl (Array.size T268.heap))
          have y271 := (Nat.le_trans y266 K268.1)
          have y272 := (CHr.safe A268 F262_latency.lt y267)
          have y273 := (A262.keep K268)
          refine own_via st268 ?_
          show own_Fin p e below _ (T268.setTop (mkF m 134 #[.val (.int p1), .val (.int p2), .val (.int p3), .val (.int p4), .val (.int p5), .val (.int p6), .val (.int bR), .val (.int (((p2.toUInt32 >>> ((2 : Int32) &&& 31).toUInt32).toInt32) &&& (3 : Int32))), .val (.int rr), .val (.int tT), .val (.int kk), .val (.int mq), .val (.int bq), .unset, .unset, .unset, .unset, .unset, .unset] [(.ref b262)]))
          refine own_on (fun tq => XS.astore X268.here hx rfl (hb hby at_134) rfl rfl (l' := #[.val (.int p1), .val (.int p2), .val (.int p3), .val (.int p4), .val (.int p5), .val (.int p6), .val (.int bR), .val (.int (((p2.toUInt32 >>> ((2 : Int32) &&& 31).toUInt32).toInt32) &&& (3 : Int32))), .val (.int rr), .val (.int tT), .val (.int kk), .val (.int mq), .val (.int bq), .val (.ref b262), .unset, .unset, .unset, .unset, .unset]) rfl) ?_
          show own_Fin p e below _ (T268.setTop (mkF m 136 #[.val (.int p1), .val (.int p2), .val (.int p3), .val (.int p4), .val (.int p5), .val (.int p6), .val (.int bR), .val (.int (((p2.toUInt32 >>> ((2 : Int32) &&& 31).toUInt32).toInt32) &&& (3 : Int32))), .val (.int rr), .val (.int tT), .val (.int kk), .val (.int mq), .val (.int bq), .val (.ref b262), .unset, .unset, .unset, .unset, .unset] []))
          obtain ⟨T274, h274, X274, e274, E274, A274, D274, -, st274⟩ := newO X268 hx hZ268 hown268 (hw _ (List.mem_of_getElem? (i := 42) rfl)) (hw _ (List.mem_of_getElem? (i := 43) rfl)) (hw _ (List.mem_of_getElem? (i := 44) rfl)) rfl (g := (mkF m 136 #[.val (.int p1), .val (.int p2), .val (.int p3), .val (.int p4), .val (.int p5), .val (.int p6), .val (.int bR), .val (.int (((p2.toUInt32 >>> ((2 : Int32) &&& 31).toUInt32).toInt32) &&& (3 : Int32))), .val (.int rr), .val (.int tT), .val (.int kk), .val (.int mq), .val (.int bq), .val (.ref b262), .unset, .unset, .unset, .unset, .unset] [])) rfl (hb hby at_136) (by decide) (by decide)
          obtain ⟨b274, g274⟩ : ∃ z, z = T268.heap.size := ⟨_, rfl⟩
          rw [← g274] at A274 D274 st274
          have ne274_b262 : b262 ≠ b274 := own_ne_of (Z := Z) E268q.lt g274
          have y275 := (CHv.ext E274 A268.1)
          have y276 := (CHr.trans y269 (CHr.ext E274 A268.1))
          have y277 := (Nat.le_trans y270 E274.1)
          have y278 := (Nat.le_trans y271 E274.1)
          have y279 := (Safe.ext E274 A268.1 y272)
          have y280 := (E268q.ext E274)
          have y281 := (F268a.ext E274)
          have y282 := (F268b.ext E274)
          have y283 := (Safe.ext E274 A268.1 (Safe.new (Nat.le_of_eq g274.symm)))
          have gn274 : n0 ≤ b274 := Nat.le_trans y271 (Nat.le_of_eq g274.symm)
          have F274_rate : Fld Z h274 b274 "com/example/curves_to_bounds/curvestobounds/curve/TokenBucket" "rate" "D" (.double (0 : UInt64)) := D274 (Or.inr (hw _ (List.mem_of_getElem? (i := 53) rfl))) (ty := .double) (by decide)
          have F274_burst : Fld Z h274 b274 "com/example/curves_to_bounds/curvestobounds/curve/TokenBucket" "burst" "D" (.double (0 : UInt64)) := D274 (Or.inr (hw _ (List.mem_of_getElem? (i := 55) rfl))) (ty := .double) (by decide)
          refine own_on st274 ?_
          show own_Fin p e below _ (T274.setTop (mkF m 139 #[.val (.int p1), .val (.int p2), .val (.int p3), .val (.int p4), .val (.int p5), .val (.int p6), .val (.int bR), .val (.int (((p2.toUInt32 >>> ((2 : Int32) &&& 31).toUInt32).toInt32) &&& (3 : Int32))), .val (.int rr), .val (.int tT), .val (.int kk), .val (.int mq), .val (.int bq), .val (.ref b262), .unset, .unset, .unset, .unset, .unset] [(.ref b274)]))
          refine own_on (fun tq => XS.dup X274.here hx rfl (hb hby at_139) rfl rfl) ?_
          show own_Fin p e below _ (T274.setTop (mkF m 140 #[.val (.int p1), .val (.int p2), .val (.int p3), .val (.int p4), .val (.int p5), .val (.int p6), .val (.int bR), .val (.int (((p2.toUInt32 >>> ((2 : Int32) &&& 31).toUInt32).toInt32) &&& (3 : Int32))), .val (.int rr), .val (.int tT), .val (.int kk), .val (.int mq), .val (.int bq), .val (.ref b262), .unset, .unset, .unset, .unset, .unset] [(.ref b274), (.ref b274)]))
          refine own_on (fun tq => XS.iload X274.here hx rfl (hb hby at_140) rfl) ?_
          show own_Fin p e below _ (T274.setTop (mkF m 142 #[.val (.int p1), .val (.int p2), .val (.int p3), .val (.int p4), .val (.int p5), .val (.int p6), .val (.int bR), .val (.int (((p2.toUInt32 >>> ((2 : Int32) &&& 31).toUInt32).toInt32) &&& (3 : Int32))), .val (.int rr), .val (.int tT), .val (.int kk), .val (.int mq), .val (.int bq), .val (.ref b262), .unset, .unset, .unset, .unset, .unset] [(.int rr), (.ref b274), (.ref b274)]))
          refine own_on (fun tq => XS.i2dS X274.here hx rfl (hb hby at_142) rfl (i2d_w _)) ?_
          show own_Fin p e below _ (T274.setTop (mkF m 143 #[.val (.int p1), .val (.int p2), .val (.int p3), .val (.int p4), .val (.int p5), .val (.int p6), .val (.int bR), .val (.int (((p2.toUInt32 >>> ((2 : Int32) &&& 31).toUInt32).toInt32) &&& (3 : Int32))), .val (.int rr), .val (.int tT), .val (.int kk), .val (.int mq), .val (.int bq), .val (.ref b262), .unset, .unset, .unset, .unset, .unset] [(.double (FP.l2d rr.toInt64)), (.ref b274), (.ref b274)]))
          refine own_on (fun tq => XS.iload X274.here hx rfl (hb hby at_143) rfl) ?_
          show own_Fin p e below _ (T274.setTop (mkF m 145 #[.val (.int p1), .val (.int p2), .val (.int p3), .val (.int p4), .val (.int p5), .val (.int p6), .val (.int bR), .val (.int (((p2.toUInt32 >>> ((2 : Int32) &&& 31).toUInt32).toInt32) &&& (3 : Int32))), .val (.int rr), .val (.int tT), .val (.int kk), .val (.int mq), .val (.int bq), .val (.ref b262), .unset, .unset, .unset, .unset, .unset] [(.int bq), (.double (FP.l2d rr.toInt64)), (.ref b274), (.ref b274)]))
          refine own_on (fun tq => XS.i2dS X274.here hx rfl (hb hby at_145) rfl (i2d_w _)) ?_
          show own_Fin p e below _ (T274.setTop (mkF m 146 #[.val (.int p1), .val (.int p2), .val (.int p3), .val (.int p4), .val (.int p5), .val (.int p6), .val (.int bR), .val (.int (((p2.toUInt32 >>> ((2 : Int32) &&& 31).toUInt32).toInt32) &&& (3 : Int32))), .val (.int rr), .val (.int tT), .val (.int kk), .val (.int mq), .val (.int bq), .val (.ref b262), .unset, .unset, .unset, .unset, .unset] [(.double (FP.l2d bq.toInt64)), (.double (FP.l2d rr.toInt64)), (.ref b274), (.ref b274)]))
          obtain ⟨_, _, ⟨T284, L284, k284, n284⟩, -, X284', S284', gr284, ⟨Lc284, hQ284, l284, y284, z284, A284⟩, st284⟩ := X274.specialBackS hx (y := (⟨"com/example/curves_to_bounds/curvestobounds/curve/TokenBucket", "<init>", "(DD)V"⟩ : MethodName)) rfl hown268 (mvT hZ268 (hw _ (List.mem_of_getElem? (i := 45) rfl))) (mvT hZ268 (hw _ (List.mem_of_getElem? (i := 46) rfl))) (mvT hZ268 (hw _ (List.mem_of_getElem? (i := 47) rfl))) (by decide) (backOfSH (s := s) (W := 1) (rm7 l Z a0 hw [] b274 (FP.l2d rr.toInt64) (FP.l2d bq.toInt64) h274 n0 (by exact y278) hEL (own_okI r0) (own_okI hbb.2) A274 F274_rate F274_burst gn274) hZ268 (hw _ (List.mem_of_getElem? (i := 47) rfl)) (hw _ (List.mem_of_getElem? (i := 44) rfl)) (by decide) (by decide) hEL y275) (g := (mkF m 146 #[.val (.int p1), .val (.int p2), .val (.int p3), .val (.int p4), .val (.int p5), .val (.int p6), .val (.int bR), .val (.int (((p2.toUInt32 >>> ((2 : Int32) &&& 31).toUInt32).toInt32) &&& (3 : Int32))), .val (.int rr), .val (.int tT), .val (.int kk), .val (.int mq), .val (.int bq), .val (.ref b262), .unset, .unset, .unset, .unset, .unset] [(.double (FP.l2d bq.toInt64)), (.double (FP.l2d rr.toInt64)), (.ref b274), (.ref b274)])) rfl (by rw [hml]; rfl) (Steps.refl _) (a := b274) (argsL := [(.double (FP.l2d rr.toInt64)), (.double (FP.l2d bq.toInt64))]) (rest := [(.ref b274)]) (lenOf pd_5 rfl) rfl (by show 2 * 0 + _ ≤ _; exact Nat.le_of_eq rfl) (hb hby at_146) (fun _ _ => ⟨rfl, e274, (by decide : 6 + 4 ≤ _), (by decide : 56 + 44 ≤ _)⟩)
          dsimp only [Pt.U, Pt.locs, Pt.cells, Pt.slots] at X284' S284' gr284 l284 y284 z284 st284 hQ284 A284
          subst l284 y284 z284
          obtain ⟨X284, hS284, hZ284, hown284⟩ := rebS hS268 (by first | exact y277 | (rw [e274]; exact y277)) X284' S284' gr284 hZ268 hown268
          obtain ⟨rfl, N284q, K284, E284q, F284a, F284b⟩ := hQ284
          have N284 := Fr.app N268 N284q
          have y285 := (CHr.trans y276 A284)
          have y286 := (Nat.le_refl (Array.size T284.heap))
          have y287 := (Nat.le_trans y278 K284.1)
          have y288 := (CHr.safe A284 y282.lt y279)
          have y289 := (y280.keep K284)
          have y290 := (y281.keep K284 (ninS ne274_b262 nin0))
          have y291 := (y282.keep K284 (ninS ne274_b262 nin0))
          have y292 := (CHr.safe A284 F274_burst.lt y283)
          have y293 := (A274.keep K284)
          refine own_via st284 ?_
          show own_Fin p e below _ (T284.setTop (mkF m 149 #[.val (.int p1), .val (.int p2), .val (.int p3), .val (.int p4), .val (.int p5), .val (.int p6), .val (.int bR), .val (.int (((p2.toUInt32 >>> ((2 : Int32) &&& 31).toUInt32).toInt32) &&& (3 : Int32))), .val (.int rr), .val (.int tT), .val (.int kk), .val (.int mq), .val (.int bq), .val (.ref b262), .unset, .unset, .unset, .unset, .unset] [(.ref b274)]))
          refine own_on (fun tq => XS.astore X284.here hx rfl (hb hby at_149) rfl rfl (l' := #[.val (.int p1), .val (.int p2), .val (.int p3), .val (.int p4), .val (.int p5), .val (.int p6), .val (.int bR), .val (.int (((p2.toUInt32 >>> ((2 : Int32) &&& 31).toUInt32).toInt32) &&& (3 : Int32))), .val (.int rr), .val (.int tT), .val (.int kk), .val (.int mq), .val (.int bq), .val (.ref b262), .val (.ref b274), .unset, .unset, .unset, .unset]) rfl) ?_
          show own_Fin p e below _ (T284.setTop (mkF m 151 #[.val (.int p1), .val (.int p2), .val (.int p3), .val (.int p4), .val (.int p5), .val (.int p6), .val (.int bR), .val (.int (((p2.toUInt32 >>> ((2 : Int32) &&& 31).toUInt32).toInt32) &&& (3 : Int32))), .val (.int rr), .val (.int tT), .val (.int kk), .val (.int mq), .val (.int bq), .val (.ref b262), .val (.ref b274), .unset, .unset, .unset, .unset] []))
          refine own_on (fun tq => XS.aload X284.here hx rfl (hb hby at_151) rfl rfl) ?_
          show own_Fin p e below _ (T284.setTop (mkF m 153 #[.val (.int p1), .val (.int p2), .val (.int p3), .val (.int p4), .val (.int p5), .val (.int p6), .val (.int bR), .val (.int (((p2.toUInt32 >>> ((2 : Int32) &&& 31).toUInt32).toInt32) &&& (3 : Int32))), .val (.int rr), .val (.int tT), .val (.int kk), .val (.int mq), .val (.int bq), .val (.ref b262), .val (.ref b274), .unset, .unset, .unset, .unset] [(.ref b262)]))
          refine own_on (fun tq => XS.aload X284.here hx rfl (hb hby at_153) rfl rfl) ?_
          show own_Fin p e below _ (T284.setTop (mkF m 155 #[.val (.int p1), .val (.int p2), .val (.int p3), .val (.int p4), .val (.int p5), .val (.int p6), .val (.int bR), .val (.int (((p2.toUInt32 >>> ((2 : Int32) &&& 31).toUInt32).toInt32) &&& (3 : Int32))), .val (.int rr), .val (.int tT), .val (.int kk), .val (.int mq), .val (.int bq), .val (.ref b262), .val (.ref b274), .unset, .unset, .unset, .unset] [(.ref b274), (.ref b262)]))
          obtain ⟨cq294, kq294, q294a, q294b, q294c⟩ := isOf hZ284 rfl y289
          obtain ⟨_, _, ⟨T294, L294, k294, n294⟩, -, X294, ⟨Lc294, hQ294, l294, y294, z294⟩, st294⟩ := X284.virtualBack hx (y := (⟨"com/example/curves_to_bounds/curvestobounds/curve/RateLatency", "delayBound", "(Lcom/example/curves_to_bounds/curvestobounds/curve/TokenBucket;)D"⟩ : MethodName)) (z := (⟨"com/example/curves_to_bounds/curvestobounds/curve/RateLatency", "delayBound", "(Lcom/example/curves_to_bounds/curvestobounds/curve/TokenBucket;)D"⟩ : MethodName)) hown284 (mvT hZ284 (hw _ (List.mem_of_getElem? (i := 56) rfl))) (mvT hZ284 (hw _ (List.mem_of_getElem? (i := 57) rfl))) (notFace_of_selects (args := #[]) (mvT hZ284 (hw _ (List.mem_of_getElem? (i := 59) rfl)))) (mvT hZ284 (hw _ (List.mem_of_getElem? (i := 59) rfl))) (mvT hZ284 (hw _ (List.mem_of_getElem? (i := 58) rfl))) (by decide) (backOf (W := 0) (rm8 l Z a0 hw [] b262 b274 (bR.toInt64) (tT.toInt64) (rr.toInt64) (bq.toInt64) T284.heap n0 (by exact y287) y290 y291 F284a F284b E284q (own_b32 _) (own_b32 _) (fun _ => own_nn rR hc228 rT rk rm hbb.1)) hZ284 (hw _ (List.mem_of_getElem? (i := 60) rfl)) (hw _ (List.mem_of_getElem? (i := 4) rfl)) (by decide) (by decide)) q294a q294c (g := (mkF m 155 #[.val (.int p1), .val (.int p2), .val (.int p3), .val (.int p4), .val (.int p5), .val (.int p6), .val (.int bR), .val (.int (((p2.toUInt32 >>> ((2 : Int32) &&& 31).toUInt32).toInt32) &&& (3 : Int32))), .val (.int rr), .val (.int tT), .val (.int kk), .val (.int mq), .val (.int bq), .val (.ref b262), .val (.ref b274), .unset, .unset, .unset, .unset] [(.ref b274), (.ref b262)])) rfl (by rw [hml]; rfl) (Steps.refl _) (argsL := [(.ref b274)]) (rest := []) (lenOf pd_6 rfl) rfl (by show 2 * 0 + _ ≤ _; exact Nat.le_of_eq rfl) (hb hby at_155) (fun _ _ => ⟨rfl, rfl, (by decide : 10 + 0 ≤ _), (by decide : 100 + 0 ≤ _)⟩)
          dsimp only [Pt.U, Pt.locs, Pt.cells, Pt.slots] at X294 l294 y294 z294 st294 hQ294
          subst l294 y294 z294
          obtain ⟨rfl, N294q, e294⟩ := hQ294
          have N294 := Fr.app N284 N294q
          refine own_via st294 ?_
          show own_Fin p e below _ (T294.setTop (mkF m 158 #[.val (.int p1), .val (.int p2), .val (.int p3), .val (.int p4), .val (.int p5), .val (.int p6), .val (.int bR), .val (.int (((p2.toUInt32 >>> ((2 : Int32) &&& 31).toUInt32).toInt32) &&& (3 : Int32))), .val (.int rr), .val (.int tT), .val (.int kk), .val (.int mq), .val (.int bq), .val (.ref b262), .val (.ref b274), .unset, .unset, .unset, .unset] [(.double (if bR.toInt64 = 0 ∨ bR.toInt64 < rr.toInt64 then (9218868437227405312 : UInt64) else FP.dadd (FP.l2d tT.toInt64) (FP.ddiv (FP.l2d bq.toInt64) (FP.l2d bR.toInt64))))]))
          obtain ⟨bd, hbd⟩ : ∃ q : UInt64, q = (if bR.toInt64 = 0 ∨ bR.toInt64 < rr.toInt64 then (9218868437227405312 : UInt64) else FP.dadd (FP.l2d tT.toInt64) (FP.ddiv (FP.l2d bq.toInt64) (FP.l2d bR.toInt64))) := ⟨_, rfl⟩
          rw [← hbd]
          show own_Fin p e below _ (T294.setTop (mkF m 158 #[.val (.int p1), .val (.int p2), .val (.int p3), .val (.int p4), .val (.int p5), .val (.int p6), .val (.int bR), .val (.int (((p2.toUInt32 >>> ((2 : Int32) &&& 31).toUInt32).toInt32) &&& (3 : Int32))), .val (.int rr), .val (.int tT), .val (.int kk), .val (.int mq), .val (.int bq), .val (.ref b262), .val (.ref b274), .unset, .unset, .unset, .unset] [(.double bd)]))
          refine own_on (fun tq => XS.dstore X294.here hx rfl (hb hby at_158) rfl (l' := #[.val (.int p1), .val (.int p2), .val (.int p3), .val (.int p4), .val (.int p5), .val (.int p6), .val (.int bR), .val (.int (((p2.toUInt32 >>> ((2 : Int32) &&& 31).toUInt32).toInt32) &&& (3 : Int32))), .val (.int rr), .val (.int tT), .val (.int kk), .val (.int mq), .val (.int bq), .val (.ref b262), .val (.ref b274), .val (.double bd), .second, .unset, .unset]) rfl) ?_
          show own_Fin p e below _ (T294.setTop (mkF m 160 #[.val (.int p1), .val (.int p2), .val (.int p3), .val (.int p4), .val (.int p5), .val (.int p6), .val (.int bR), .val (.int (((p2.toUInt32 >>> ((2 : Int32) &&& 31).toUInt32).toInt32) &&& (3 : Int32))), .val (.int rr), .val (.int tT), .val (.int kk), .val (.int mq), .val (.int bq), .val (.ref b262), .val (.ref b274), .val (.double bd), .second, .unset, .unset] []))
          refine own_on (fun tq => XS.iload X294.here hx rfl (hb hby at_160) rfl) ?_
          show own_Fin p e below _ (T294.setTop (mkF m 162 #[.val (.int p1), .val (.int p2), .val (.int p3), .val (.int p4), .val (.int p5), .val (.int p6), .val (.int bR), .val (.int (((p2.toUInt32 >>> ((2 : Int32) &&& 31).toUInt32).toInt32) &&& (3 : Int32))), .val (.int rr), .val (.int tT), .val (.int kk), .val (.int mq), .val (.int bq), .val (.ref b262), .val (.ref b274), .val (.double bd), .second, .unset, .unset] [(.int bR)]))
          refine own_on (fun tq => XS.ifNo X294.here hx rfl (hb hby at_162) rfl ((if0 _ _).trans (feq hc228).1)) ?_
          show own_Fin p e below _ (T294.setTop (mkF m 165 #[.val (.int p1), .val (.int p2), .val (.int p3), .val (.int p4), .val (.int p5), .val (.int p6), .val (.int bR), .val (.int (((p2.toUInt32 >>> ((2 : Int32) &&& 31).toUInt32).toInt32) &&& (3 : Int32))), .val (.int rr), .val (.int tT), .val (.int kk), .val (.int mq), .val (.int bq), .val (.ref b262), .val (.ref b274), .val (.double bd), .second, .unset, .unset] []))
          refine own_on (fun tq => XS.iload X294.here hx rfl (hb hby at_165) rfl) ?_
          show own_Fin p e below _ (T294.setTop (mkF m 167 #[.val (.int p1), .val (.int p2), .val (.int p3), .val (.int p4), .val (.int p5), .val (.int p6), .val (.int bR), .val (.int (((p2.toUInt32 >>> ((2 : Int32) &&& 31).toUInt32).toInt32) &&& (3 : Int32))), .val (.int rr), .val (.int tT), .val (.int kk), .val (.int mq), .val (.int bq), .val (.ref b262), .val (.ref b274), .val (.double bd), .second, .unset, .unset] [(.int rr)]))
          refine own_on (fun tq => XS.iload X294.here hx rfl (hb hby at_167) rfl) ?_
          show own_Fin p e below _ (T294.setTop (mkF m 169 #[.val (.int p1), .val (.int p2), .val (.int p3), .val (.int p4), .val (.int p5), .val (.int p6), .val (.int bR), .val (.int (((p2.toUInt32 >>> ((2 : Int32) &&& 31).toUInt32).toInt32) &&& (3 : Int32))), .val (.int rr), .val (.int tT), .val (.int kk), .val (.int mq), .val (.int bq), .val (.ref b262), .val (.ref b274), .val (.double bd), .second, .unset, .unset] [(.int bR), (.int rr)]))
          by_cases hc295 : bR < rr
          · refine own_on (fun tq => XS.icmpNo X294.here hx rfl (hb hby at_169) rfl (tlt hc295).2.2.2) ?_
            show own_Fin p e below _ (T294.setTop (mkF m 172 #[.val (.int p1), .val (.int p2), .val (.int p3), .val (.int p4), .val (.int p5), .val (.int p6), .val (.int bR), .val (.int (((p2.toUInt32 >>> ((2 : Int32) &&& 31).toUInt32).toInt32) &&& (3 : Int32))), .val (.int rr), .val (.int tT), .val (.int kk), .val (.int mq), .val (.int bq), .val (.ref b262), .val (.ref b274), .val (.double bd), .second, .unset, .unset] []))
            refine own_on (fun tq => XS.dload X294.here hx rfl (hb hby at_172) rfl) ?_
            show own_Fin p e below _ (T294.setTop (mkF m 174 #[.val (.int p1), .val (.int p2), .val (.int p3), .val (.int p4), .val (.int p5), .val (.int p6), .val (.int bR), .val (.int (((p2.toUInt32 >>> ((2 : Int32) &&& 31).toUInt32).toInt32) &&& (3 : Int32))), .val (.int rr), .val (.int tT), .val (.int kk), .val (.int mq), .val (.int bq), .val (.ref b262), .val (.ref b274), .val (.double bd), .second, .unset, .unset] [(.double bd)]))
            refine own_on (fun tq => X294.ldc2DoubleC hx hown284 (mvT hZ284 (hw _ (List.mem_of_getElem? (i := 62) rfl))) (g := (mkF m 174 #[.val (.int p1), .val (.int p2), .val (.int p3), .val (.int p4), .val (.int p5), .val (.int p6), .val (.int bR), .val (.int (((p2.toUInt32 >>> ((2 : Int32) &&& 31).toUInt32).toInt32) &&& (3 : Int32))), .val (.int rr), .val (.int tT), .val (.int kk), .val (.int mq), .val (.int bq), .val (.ref b262), .val (.ref b274), .val (.double bd), .second, .unset, .unset] [(.double bd)])) rfl (hb hby at_174) tq) ?_
            show own_Fin p e below _ (T294.setTop (mkF m 177 #[.val (.int p1), .val (.int p2), .val (.int p3), .val (.int p4), .val (.int p5), .val (.int p6), .val (.int bR), .val (.int (((p2.toUInt32 >>> ((2 : Int32) &&& 31).toUInt32).toInt32) &&& (3 : Int32))), .val (.int rr), .val (.int tT), .val (.int kk), .val (.int mq), .val (.int bq), .val (.ref b262), .val (.ref b274), .val (.double bd), .second, .unset, .unset] [(.double (9218868437227405312 : UInt64)), (.double bd)]))
            refine own_on (fun tq => XS.dcmpS X294.here hx rfl (hb hby at_177) rfl (own_pinf (hbd.trans (if_pos (Or.inr (own_lt64 hc295)))))) ?_
            show own_Fin p e below _ (T294.setTop (mkF m 178 #[.val (.int p1), .val (.int p2), .val (.int p3), .val (.int p4), .val (.int p5), .val (.int p6), .val (.int bR), .val (.int (((p2.toUInt32 >>> ((2 : Int32) &&& 31).toUInt32).toInt32) &&& (3 : Int32))), .val (.int rr), .val (.int tT), .val (.int kk), .val (.int mq), .val (.int bq), .val (.ref b262), .val (.ref b274), .val (.double bd), .second, .unset, .unset] [(.int (0 : Int32))]))
            refine own_on (fun tq => XS.ifNo X294.here hx rfl (hb hby at_178) rfl ((if0 _ _).trans (teq (by decide : (0 : Int32) = (0 : Int32))).2)) ?_
            show own_Fin p e below _ (T294.setTop (mkF m 181 #[.val (.int p1), .val (.int p2), .val (.int p3), .val (.int p4), .val (.int p5), .val (.int p6), .val (.int bR), .val (.int (((p2.toUInt32 >>> ((2 : Int32) &&& 31).toUInt32).toInt32) &&& (3 : Int32))), .val (.int rr), .val (.int tT), .val (.int kk), .val (.int mq), .val (.int bq), .val (.ref b262), .val (.ref b274), .val (.double bd), .second, .unset, .unset] []))
            refine own_on (fun tq => XS.iconst X294.here hx rfl (hb hby at_181)) ?_
            show own_Fin p e below _ (T294.setTop (mkF m 182 #[.val (.int p1), .val (.int p2), .val (.int p3), .val (.int p4), .val (.int p5), .val (.int p6), .val (.int bR), .val (.int (((p2.toUInt32 >>> ((2 : Int32) &&& 31).toUInt32).toInt32) &&& (3 : Int32))), .val (.int rr), .val (.int tT), .val (.int kk), .val (.int mq), .val (.int bq), .val (.ref b262), .val (.ref b274), .val (.double bd), .second, .unset, .unset] [(.int (1 : Int32))]))
            refine own_on (fun tq => XS.goto X294.here hx rfl (pc0 := 182) (pc' := 186) rfl (hb hby at_182) (by decide) (by decide)) ?_
            show own_Fin p e below _ (T294.setTop (mkF m 186 #[.val (.int p1), .val (.int p2), .val (.int p3), .val (.int p4), .val (.int p5), .val (.int p6), .val (.int bR), .val (.int (((p2.toUInt32 >>> ((2 : Int32) &&& 31).toUInt32).toInt32) &&& (3 : Int32))), .val (.int rr), .val (.int tT), .val (.int kk), .val (.int mq), .val (.int bq), .val (.ref b262), .val (.ref b274), .val (.double bd), .second, .unset, .unset] [(.int (1 : Int32))]))
            exact own_retW (t := .boolean) X294 (Z := Z) (EL := own_EL) (a0 := a0) hx hlk hret rfl (Or.inl ⟨rfl, (by simp), _, rfl⟩) (hb hby at_186) hS284 (by rw [e294]; exact y286) hZ284 hEL (by rw [hh, e294]; exact y285) (⟨rfl, N294⟩) (by decide) (by decide)
          · refine own_on (fun tq => XS.icmpYes X294.here hx rfl (pc0 := 169) (pc' := 187) rfl (hb hby at_169) rfl (flt hc295).2.2.2 (by decide) (by decide)) ?_
            show own_Fin p e below _ (T294.setTop (mkF m 187 #[.val (.int p1), .val (.int p2), .val (.int p3), .val (.int p4), .val (.int p5), .val (.int p6), .val (.int bR), .val (.int (((p2.toUInt32 >>> ((2 : Int32) &&& 31).toUInt32).toInt32) &&& (3 : Int32))), .val (.int rr), .val (.int tT), .val (.int kk), .val (.int mq), .val (.int bq), .val (.ref b262), .val (.ref b274), .val (.double bd), .second, .unset, .unset] []))
            refine own_on (fun tq => XS.iload X294.here hx rfl (hb hby at_187) rfl) ?_
            show own_Fin p e below _ (T294.setTop (mkF m 189 #[.val (.int p1), .val (.int p2), .val (.int p3), .val (.int p4), .val (.int p5), .val (.int p6), .val (.int bR), .val (.int (((p2.toUInt32 >>> ((2 : Int32) &&& 31).toUInt32).toInt32) &&& (3 : Int32))), .val (.int rr), .val (.int tT), .val (.int kk), .val (.int mq), .val (.int bq), .val (.ref b262), .val (.ref b274), .val (.double bd), .second, .unset, .unset] [(.int tT)]))
            refine own_on (fun tq => XS.iload X294.here hx rfl (hb hby at_189) rfl) ?_
            show own_Fin p e below _ (T294.setTop (mkF m 191 #[.val (.int p1), .val (.int p2), .val (.int p3), .val (.int p4), .val (.int p5), .val (.int p6), .val (.int bR), .val (.int (((p2.toUInt32 >>> ((2 : Int32) &&& 31).toUInt32).toInt32) &&& (3 : Int32))), .val (.int rr), .val (.int tT), .val (.int kk), .val (.int mq), .val (.int bq), .val (.ref b262), .val (.ref b274), .val (.double bd), .second, .unset, .unset] [(.int kk), (.int tT)]))
            refine own_on (fun tq => XS.iadd X294.here hx rfl (hb hby at_191) rfl) ?_
            show own_Fin p e below _ (T294.setTop (mkF m 192 #[.val (.int p1), .val (.int p2), .val (.int p3), .val (.int p4), .val (.int p5), .val (.int p6), .val (.int bR), .val (.int (((p2.toUInt32 >>> ((2 : Int32) &&& 31).toUInt32).toInt32) &&& (3 : Int32))), .val (.int rr), .val (.int tT), .val (.int kk), .val (.int mq), .val (.int bq), .val (.ref b262), .val (.ref b274), .val (.double bd), .second, .unset, .unset] [(.int (tT + kk))]))
            refine own_on (fun tq => XS.i2dS X294.here hx rfl (hb hby at_192) rfl (i2d_w _)) ?_
            show own_Fin p e below _ (T294.setTop (mkF m 193 #[.val (.int p1), .val (.int p2), .val (.int p3), .val (.int p4), .val (.int p5), .val (.int p6), .val (.int bR), .val (.int (((p2.toUInt32 >>> ((2 : Int32) &&& 31).toUInt32).toInt32) &&& (3 : Int32))), .val (.int rr), .val (.int tT), .val (.int kk), .val (.int mq), .val (.int bq), .val (.ref b262), .val (.ref b274), .val (.double bd), .second, .unset, .unset] [(.double (FP.l2d (tT + kk).toInt64))]))
            refine own_on (fun tq => XS.dstore X294.here hx rfl (hb hby at_193) rfl (l' := #[.val (.int p1), .val (.int p2), .val (.int p3), .val (.int p4), .val (.int p5), .val (.int p6), .val (.int bR), .val (.int (((p2.toUInt32 >>> ((2 : Int32) &&& 31).toUInt32).toInt32) &&& (3 : Int32))), .val (.int rr), .val (.int tT), .val (.int kk), .val (.int mq), .val (.int bq), .val (.ref b262), .val (.ref b274), .val (.double bd), .second, .val (.double (FP.l2d (tT + kk).toInt64)), .second]) rfl) ?_
            show own_Fin p e below _ (T294.setTop (mkF m 195 #[.val (.int p1), .val (.int p2), .val (.int p3), .val (.int p4), .val (.int p5), .val (.int p6), .val (.int bR), .val (.int (((p2.toUInt32 >>> ((2 : Int32) &&& 31).toUInt32).toInt32) &&& (3 : Int32))), .val (.int rr), .val (.int tT), .val (.int kk), .val (.int mq), .val (.int bq), .val (.ref b262), .val (.ref b274), .val (.double bd), .second, .val (.double (FP.l2d (tT + kk).toInt64)), .second] []))
            refine own_on (fun tq => XS.iload X294.here hx rfl (hb hby at_195) rfl) ?_
            show own_Fin p e below _ (T294.setTop (mkF m 197 #[.val (.int p1), .val (.int p2), .val (.int p3), .val (.int p4), .val (.int p5), .val (.int p6), .val (.int bR), .val (.int (((p2.toUInt32 >>> ((2 : Int32) &&& 31).toUInt32).toInt32) &&& (3 : Int32))), .val (.int rr), .val (.int tT), .val (.int kk), .val (.int mq), .val (.int bq), .val (.ref b262), .val (.ref b274), .val (.double bd), .second, .val (.double (FP.l2d (tT + kk).toInt64)), .second] [(.int mq)]))
            by_cases hc296 : mq = (0 : Int32)
            · refine own_on (fun tq => XS.ifNo X294.here hx rfl (hb hby at_197) rfl ((if0 _ _).trans (teq hc296).2)) ?_
              show own_Fin p e below _ (T294.setTop (mkF m 200 #[.val (.int p1), .val (.int p2), .val (.int p3), .val (.int p4), .val (.int p5), .val (.int p6), .val (.int bR), .val (.int (((p2.toUInt32 >>> ((2 : Int32) &&& 31).toUInt32).toInt32) &&& (3 : Int32))), .val (.int rr), .val (.int tT), .val (.int kk), .val (.int mq), .val (.int bq), .val (.ref b262), .val (.ref b274), .val (.double bd), .second, .val (.double (FP.l2d (tT + kk).toInt64)), .second] []))
              refine own_on (fun tq => XS.dload X294.here hx rfl (hb hby at_200) rfl) ?_
              show own_Fin p e below _ (T294.setTop (mkF m 202 #[.val (.int p1), .val (.int p2), .val (.int p3), .val (.int p4), .val (.int p5), .val (.int p6), .val (.int bR), .val (.int (((p2.toUInt32 >>> ((2 : Int32) &&& 31).toUInt32).toInt32) &&& (3 : Int32))), .val (.int rr), .val (.int tT), .val (.int kk), .val (.int mq), .val (.int bq), .val (.ref b262), .val (.ref b274), .val (.double bd), .second, .val (.double (FP.l2d (tT + kk).toInt64)), .second] [(.double bd)]))
              refine own_on (fun tq => XS.dload X294.here hx rfl (hb hby at_202) rfl) ?_
              show own_Fin p e below _ (T294.setTop (mkF m 204 #[.val (.int p1), .val (.int p2), .val (.int p3), .val (.int p4), .val (.int p5), .val (.int p6), .val (.int bR), .val (.int (((p2.toUInt32 >>> ((2 : Int32) &&& 31).toUInt32).toInt32) &&& (3 : Int32))), .val (.int rr), .val (.int tT), .val (.int kk), .val (.int mq), .val (.int bq), .val (.ref b262), .val (.ref b274), .val (.double bd), .second, .val (.double (FP.l2d (tT + kk).toInt64)), .second] [(.double (FP.l2d (tT + kk).toInt64)), (.double bd)]))
              refine own_on (fun tq => XS.dcmpS X294.here hx rfl (hb hby at_204) rfl ((own_law rR hc228 hc295 rT rk rm hbb.1 hbd).1 hc296)) ?_
              show own_Fin p e below _ (T294.setTop (mkF m 205 #[.val (.int p1), .val (.int p2), .val (.int p3), .val (.int p4), .val (.int p5), .val (.int p6), .val (.int bR), .val (.int (((p2.toUInt32 >>> ((2 : Int32) &&& 31).toUInt32).toInt32) &&& (3 : Int32))), .val (.int rr), .val (.int tT), .val (.int kk), .val (.int mq), .val (.int bq), .val (.ref b262), .val (.ref b274), .val (.double bd), .second, .val (.double (FP.l2d (tT + kk).toInt64)), .second] [(.int (0 : Int32))]))
              refine own_on (fun tq => XS.ifNo X294.here hx rfl (hb hby at_205) rfl ((if0 _ _).trans (teq (by decide : (0 : Int32) = (0 : Int32))).2)) ?_
              show own_Fin p e below _ (T294.setTop (mkF m 208 #[.val (.int p1), .val (.int p2), .val (.int p3), .val (.int p4), .val (.int p5), .val (.int p6), .val (.int bR), .val (.int (((p2.toUInt32 >>> ((2 : Int32) &&& 31).toUInt32).toInt32) &&& (3 : Int32))), .val (.int rr), .val (.int tT), .val (.int kk), .val (.int mq), .val (.int bq), .val (.ref b262), .val (.ref b274), .val (.double bd), .second, .val (.double (FP.l2d (tT + kk).toInt64)), .second] []))
              refine own_on (fun tq => XS.iconst X294.here hx rfl (hb hby at_208)) ?_
              show own_Fin p e below _ (T294.setTop (mkF m 209 #[.val (.int p1), .val (.int p2), .val (.int p3), .val (.int p4), .val (.int p5), .val (.int p6), .val (.int bR), .val (.int (((p2.toUInt32 >>> ((2 : Int32) &&& 31).toUInt32).toInt32) &&& (3 : Int32))), .val (.int rr), .val (.int tT), .val (.int kk), .val (.int mq), .val (.int bq), .val (.ref b262), .val (.ref b274), .val (.double bd), .second, .val (.double (FP.l2d (tT + kk).toInt64)), .second] [(.int (1 : Int32))]))
              refine own_on (fun tq => XS.goto X294.here hx rfl (pc0 := 209) (pc' := 213) rfl (hb hby at_209) (by decide) (by decide)) ?_
              show own_Fin p e below _ (T294.setTop (mkF m 213 #[.val (.int p1), .val (.int p2), .val (.int p3), .val (.int p4), .val (.int p5), .val (.int p6), .val (.int bR), .val (.int (((p2.toUInt32 >>> ((2 : Int32) &&& 31).toUInt32).toInt32) &&& (3 : Int32))), .val (.int rr), .val (.int tT), .val (.int kk), .val (.int mq), .val (.int bq), .val (.ref b262), .val (.ref b274), .val (.double bd), .second, .val (.double (FP.l2d (tT + kk).toInt64)), .second] [(.int (1 : Int32))]))
              exact own_retW (t := .boolean) X294 (Z := Z) (EL := own_EL) (a0 := a0) hx hlk hret rfl (Or.inl ⟨rfl, (by simp), _, rfl⟩) (hb hby at_213) hS284 (by rw [e294]; exact y286) hZ284 hEL (by rw [hh, e294]; exact y285) (⟨rfl, N294⟩) (by decide) (by decide)
            · refine own_on (fun tq => XS.ifYes X294.here hx rfl (pc0 := 197) (pc' := 214) rfl (hb hby at_197) rfl ((if0 _ _).trans (feq hc296).2) (by decide) (by decide)) ?_
              show own_Fin p e below _ (T294.setTop (mkF m 214 #[.val (.int p1), .val (.int p2), .val (.int p3), .val (.int p4), .val (.int p5), .val (.int p6), .val (.int bR), .val (.int (((p2.toUInt32 >>> ((2 : Int32) &&& 31).toUInt32).toInt32) &&& (3 : Int32))), .val (.int rr), .val (.int tT), .val (.int kk), .val (.int mq), .val (.int bq), .val (.ref b262), .val (.ref b274), .val (.double bd), .second, .val (.double (FP.l2d (tT + kk).toInt64)), .second] []))
              refine own_on (fun tq => XS.dload X294.here hx rfl (hb hby at_214) rfl) ?_
              show own_Fin p e below _ (T294.setTop (mkF m 216 #[.val (.int p1), .val (.int p2), .val (.int p3), .val (.int p4), .val (.int p5), .val (.int p6), .val (.int bR), .val (.int (((p2.toUInt32 >>> ((2 : Int32) &&& 31).toUInt32).toInt32) &&& (3 : Int32))), .val (.int rr), .val (.int tT), .val (.int kk), .val (.int mq), .val (.int bq), .val (.ref b262), .val (.ref b274), .val (.double bd), .second, .val (.double (FP.l2d (tT + kk).toInt64)), .second] [(.double (FP.l2d (tT + kk).toInt64))]))
              refine own_on (fun tq => XS.dload X294.here hx rfl (hb hby at_216) rfl) ?_
              show own_Fin p e below _ (T294.setTop (mkF m 218 #[.val (.int p1), .val (.int p2), .val (.int p3), .val (.int p4), .val (.int p5), .val (.int p6), .val (.int bR), .val (.int (((p2.toUInt32 >>> ((2 : Int32) &&& 31).toUInt32).toInt32) &&& (3 : Int32))), .val (.int rr), .val (.int tT), .val (.int kk), .val (.int mq), .val (.int bq), .val (.ref b262), .val (.ref b274), .val (.double bd), .second, .val (.double (FP.l2d (tT + kk).toInt64)), .second] [(.double bd), (.double (FP.l2d (tT + kk).toInt64))]))
              refine own_on (fun tq => XS.dcmpS X294.here hx rfl (hb hby at_218) rfl ((own_law rR hc228 hc295 rT rk rm hbb.1 hbd).2 hc296).1) ?_
              show own_Fin p e below _ (T294.setTop (mkF m 219 #[.val (.int p1), .val (.int p2), .val (.int p3), .val (.int p4), .val (.int p5), .val (.int p6), .val (.int bR), .val (.int (((p2.toUInt32 >>> ((2 : Int32) &&& 31).toUInt32).toInt32) &&& (3 : Int32))), .val (.int rr), .val (.int tT), .val (.int kk), .val (.int mq), .val (.int bq), .val (.ref b262), .val (.ref b274), .val (.double bd), .second, .val (.double (FP.l2d (tT + kk).toInt64)), .second] [(.int (-1 : Int32))]))
              refine own_on (fun tq => XS.ifNo X294.here hx rfl (hb hby at_219) rfl ((if0 _ _).trans (tlt (by decide : (-1 : Int32) < (0 : Int32))).2.1)) ?_
              show own_Fin p e below _ (T294.setTop (mkF m 222 #[.val (.int p1), .val (.int p2), .val (.int p3), .val (.int p4), .val (.int p5), .val (.int p6), .val (.int bR), .val (.int (((p2.toUInt32 >>> ((2 : Int32) &&& 31).toUInt32).toInt32) &&& (3 : Int32))), .val (.int rr), .val (.int tT), .val (.int kk), .val (.int mq), .val (.int bq), .val (.ref b262), .val (.ref b274), .val (.double bd), .second, .val (.double (FP.l2d (tT + kk).toInt64)), .second] []))
              refine own_on (fun tq => XS.dload X294.here hx rfl (hb hby at_222) rfl) ?_
              show own_Fin p e below _ (T294.setTop (mkF m 224 #[.val (.int p1), .val (.int p2), .val (.int p3), .val (.int p4), .val (.int p5), .val (.int p6), .val (.int bR), .val (.int (((p2.toUInt32 >>> ((2 : Int32) &&& 31).toUInt32).toInt32) &&& (3 : Int32))), .val (.int rr), .val (.int tT), .val (.int kk), .val (.int mq), .val (.int bq), .val (.ref b262), .val (.ref b274), .val (.double bd), .second, .val (.double (FP.l2d (tT + kk).toInt64)), .second] [(.double bd)]))
              refine own_on (fun tq => XS.dload X294.here hx rfl (hb hby at_224) rfl) ?_
              show own_Fin p e below _ (T294.setTop (mkF m 226 #[.val (.int p1), .val (.int p2), .val (.int p3), .val (.int p4), .val (.int p5), .val (.int p6), .val (.int bR), .val (.int (((p2.toUInt32 >>> ((2 : Int32) &&& 31).toUInt32).toInt32) &&& (3 : Int32))), .val (.int rr), .val (.int tT), .val (.int kk), .val (.int mq), .val (.int bq), .val (.ref b262), .val (.ref b274), .val (.double bd), .second, .val (.double (FP.l2d (tT + kk).toInt64)), .second] [(.double (FP.l2d (tT + kk).toInt64)), (.double bd)]))
              refine own_on (fun tq => XS.dconst1 X294.here hx rfl (hb hby at_226) own_dc1) ?_
              show own_Fin p e below _ (T294.setTop (mkF m 227 #[.val (.int p1), .val (.int p2), .val (.int p3), .val (.int p4), .val (.int p5), .val (.int p6), .val (.int bR), .val (.int (((p2.toUInt32 >>> ((2 : Int32) &&& 31).toUInt32).toInt32) &&& (3 : Int32))), .val (.int rr), .val (.int tT), .val (.int kk), .val (.int mq), .val (.int bq), .val (.ref b262), .val (.ref b274), .val (.double bd), .second, .val (.double (FP.l2d (tT + kk).toInt64)), .second] [(.double (FP.l2d (1 : Int64))), (.double (FP.l2d (tT + kk).toInt64)), (.double bd)]))
              refine own_on (fun tq => XS.daddS X294.here hx rfl (hb hby at_227) rfl (nn_w (dadd_w (own_b32 (tT + kk)) own_B1)) (dadd_w (own_b32 (tT + kk)) own_B1)) ?_
              show own_Fin p e below _ (T294.setTop (mkF m 228 #[.val (.int p1), .val (.int p2), .val (.int p3), .val (.int p4), .val (.int p5), .val (.int p6), .val (.int bR), .val (.int (((p2.toUInt32 >>> ((2 : Int32) &&& 31).toUInt32).toInt32) &&& (3 : Int32))), .val (.int rr), .val (.int tT), .val (.int kk), .val (.int mq), .val (.int bq), .val (.ref b262), .val (.ref b274), .val (.double bd), .second, .val (.double (FP.l2d (tT + kk).toInt64)), .second] [(.double (FP.l2d ((tT + kk).toInt64 + (1 : Int64)))), (.double bd)]))
              refine own_on (fun tq => XS.dcmpS X294.here hx rfl (hb hby at_228) rfl ((own_law rR hc228 hc295 rT rk rm hbb.1 hbd).2 hc296).2) ?_
              show own_Fin p e below _ (T294.setTop (mkF m 229 #[.val (.int p1), .val (.int p2), .val (.int p3), .val (.int p4), .val (.int p5), .val (.int p6), .val (.int bR), .val (.int (((p2.toUInt32 >>> ((2 : Int32) &&& 31).toUInt32).toInt32) &&& (3 : Int32))), .val (.int rr), .val (.int tT), .val (.int kk), .val (.int mq), .val (.int bq), .val (.ref b262), .val (.ref b274), .val (.double bd), .second, .val (.double (FP.l2d (tT + kk).toInt64)), .second] [(.int (-1 : Int32))]))
              refine own_on (fun tq => XS.ifNo X294.here hx rfl (hb hby at_229) rfl ((if0 _ _).trans (tlt (by decide : (-1 : Int32) < (0 : Int32))).2.1)) ?_
              show own_Fin p e below _ (T294.setTop (mkF m 232 #[.val (.int p1), .val (.int p2), .val (.int p3), .val (.int p4), .val (.int p5), .val (.int p6), .val (.int bR), .val (.int (((p2.toUInt32 >>> ((2 : Int32) &&& 31).toUInt32).toInt32) &&& (3 : Int32))), .val (.int rr), .val (.int tT), .val (.int kk), .val (.int mq), .val (.int bq), .val (.ref b262), .val (.ref b274), .val (.double bd), .second, .val (.double (FP.l2d (tT + kk).toInt64)), .second] []))
              refine own_on (fun tq => XS.iconst X294.here hx rfl (hb hby at_232)) ?_
              show own_Fin p e below _ (T294.setTop (mkF m 233 #[.val (.int p1), .val (.int p2), .val (.int p3), .val (.int p4), .val (.int p5), .val (.int p6), .val (.int bR), .val (.int (((p2.toUInt32 >>> ((2 : Int32) &&& 31).toUInt32).toInt32) &&& (3 : Int32))), .val (.int rr), .val (.int tT), .val (.int kk), .val (.int mq), .val (.int bq), .val (.ref b262), .val (.ref b274), .val (.double bd), .second, .val (.double (FP.l2d (tT + kk).toInt64)), .second] [(.int (1 : Int32))]))
              refine own_on (fun tq => XS.goto X294.here hx rfl (pc0 := 233) (pc' := 237) rfl (hb hby at_233) (by decide) (by decide)) ?_
              show own_Fin p e below _ (T294.setTop (mkF m 237 #[.val (.int p1), .val (.int p2), .val (.int p3), .val (.int p4), .val (.int p5), .val (.int p6), .val (.int bR), .val (.int (((p2.toUInt32 >>> ((2 : Int32) &&& 31).toUInt32).toInt32) &&& (3 : Int32))), .val (.int rr), .val (.int tT), .val (.int kk), .val (.int mq), .val (.int bq), .val (.ref b262), .val (.ref b274), .val (.double bd), .second, .val (.double (FP.l2d (tT + kk).toInt64)), .second] [(.int (1 : Int32))]))
              exact own_retW (t := .boolean) X294 (Z := Z) (EL := own_EL) (a0 := a0) hx hlk hret rfl (Or.inl ⟨rfl, (by simp), _, rfl⟩) (hb hby at_237) hS284 (by rw [e294]; exact y286) hZ284 hEL (by rw [hh, e294]; exact y285) (⟨rfl, N294⟩) (by decide) (by decide)
  · refine own_on (fun tq => XS.ifYes X0.here hx rfl (pc0 := 9) (pc' := 15) rfl (hb hby at_9) rfl ((if0 _ _).trans (feq hc88).2) (by decide) (by decide)) ?_
    show own_Fin p e below _ (s₁.setTop (mkF m 15 #[.val (.int p1), .val (.int p2), .val (.int p3), .val (.int p4), .val (.int p5), .val (.int p6), .val (.int (p1 &&& (65535 : Int32))), .unset, .unset, .unset, .unset, .unset, .unset, .unset, .unset, .unset, .unset, .unset, .unset] []))
    obtain ⟨bR, hbR⟩ : ∃ q : Int32, q = (p1 &&& (65535 : Int32)) := ⟨_, rfl⟩
    have rR : 0 ≤ bR.toInt ∧ bR.toInt ≤ 65535 := hbR ▸ own_m16 p1
    rw [← hbR]
    show own_Fin p e below _ (s₁.setTop (mkF m 15 #[.val (.int p1), .val (.int p2), .val (.int p3), .val (.int p4), .val (.int p5), .val (.int p6), .val (.int bR), .unset, .unset, .unset, .unset, .unset, .unset, .unset, .unset, .unset, .unset, .unset, .unset] []))
    refine own_on (fun tq => XS.iloadN X0.here hx rfl (hb hby at_15) rfl) ?_
    show own_Fin p e below _ (s₁.setTop (mkF m 16 #[.val (.int p1), .val (.int p2), .val (.int p3), .val (.int p4), .val (.int p5), .val (.int p6), .val (.int bR), .unset, .unset, .unset, .unset, .unset, .unset, .unset, .unset, .unset, .unset, .unset, .unset] [(.int p2)]))
    refine own_on (fun tq => XS.iconst X0.here hx rfl (hb hby at_16)) ?_
    show own_Fin p e below _ (s₁.setTop (mkF m 17 #[.val (.int p1), .val (.int p2), .val (.int p3), .val (.int p4), .val (.int p5), .val (.int p6), .val (.int bR), .unset, .unset, .unset, .unset, .unset, .unset, .unset, .unset, .unset, .unset, .unset, .unset] [(.int (2 : Int32)), (.int p2)]))
    refine own_on (fun tq => XS.iushr X0.here hx rfl (hb hby at_17) rfl) ?_
    show own_Fin p e below _ (s₁.setTop (mkF m 18 #[.val (.int p1), .val (.int p2), .val (.int p3), .val (.int p4), .val (.int p5), .val (.int p6), .val (.int bR), .unset, .unset, .unset, .unset, .unset, .unset, .unset, .unset, .unset, .unset, .unset, .unset] [(.int ((p2.toUInt32 >>> ((2 : Int32) &&& 31).toUInt32).toInt32))]))
    refine own_on (fun tq => XS.iconst X0.here hx rfl (hb hby at_18)) ?_
    show own_Fin p e below _ (s₁.setTop (mkF m 19 #[.val (.int p1), .val (.int p2), .val (.int p3), .val (.int p4), .val (.int p5), .val (.int p6), .val (.int bR), .unset, .unset, .unset, .unset, .unset, .unset, .unset, .unset, .unset, .unset, .unset, .unset] [(.int (3 : Int32)), (.int ((p2.toUInt32 >>> ((2 : Int32) &&& 31).toUInt32).toInt32))]))
    refine own_on (fun tq => XS.iand X0.here hx rfl (hb hby at_19) rfl) ?_
    show own_Fin p e below _ (s₁.setTop (mkF m 20 #[.val (.int p1), .val (.int p2), .val (.int p3), .val (.int p4), .val (.int p5), .val (.int p6), .val (.int bR), .unset, .unset, .unset, .unset, .unset, .unset, .unset, .unset, .unset, .unset, .unset, .unset] [(.int (((p2.toUInt32 >>> ((2 : Int32) &&& 31).toUInt32).toInt32) &&& (3 : Int32)))]))
    refine own_on (fun tq => XS.istore X0.here hx rfl (hb hby at_20) rfl (l' := #[.val (.int p1), .val (.int p2), .val (.int p3), .val (.int p4), .val (.int p5), .val (.int p6), .val (.int bR), .val (.int (((p2.toUInt32 >>> ((2 : Int32) &&& 31).toUInt32).toInt32) &&& (3 : Int32))), .unset, .unset, .unset, .unset, .unset, .unset, .unset, .unset, .unset, .unset, .unset]) rfl) ?_
    show own_Fin p e below _ (s₁.setTop (mkF m 22 #[.val (.int p1), .val (.int p2), .val (.int p3), .val (.int p4), .val (.int p5), .val (.int p6), .val (.int bR), .val (.int (((p2.toUInt32 >>> ((2 : Int32) &&& 31).toUInt32).toInt32) &&& (3 : Int32))), .unset, .unset, .unset, .unset, .unset, .unset, .unset, .unset, .unset, .unset, .unset] []))
    refine own_on (fun tq => XS.iload X0.here hx rfl (hb hby at_22) rfl) ?_
    show own_Fin p e below _ (s₁.setTop (mkF m 24 #[.val (.int p1), .val (.int p2), .val (.int p3), .val (.int p4), .val (.int p5), .val (.int p6), .val (.int bR), .val (.int (((p2.toUInt32 >>> ((2 : Int32) &&& 31).toUInt32).toInt32) &&& (3 : Int32))), .unset, .unset, .unset, .unset, .unset, .unset, .unset, .unset, .unset, .unset, .unset] [(.int (((p2.toUInt32 >>> ((2 : Int32) &&& 31).toUInt32).toInt32) &&& (3 : Int32)))]))
    by_cases hc297 : (((p2.toUInt32 >>> ((2 : Int32) &&& 31).toUInt32).toInt32) &&& (3 : Int32)) = (0 : Int32)
    · refine own_on (fun tq => XS.ifNo X0.here hx rfl (hb hby at_24) rfl ((if0 _ _).trans (teq hc297).2)) ?_
      show own_Fin p e below _ (s₁.setTop (mkF m 27 #[.val (.int p1), .val (.int p2), .val (.int p3), .val (.int p4), .val (.int p5), .val (.int p6), .val (.int bR), .val (.int (((p2.toUInt32 >>> ((2 : Int32) &&& 31).toUInt32).toInt32) &&& (3 : Int32))), .unset, .unset, .unset, .unset, .unset, .unset, .unset, .unset, .unset, .unset, .unset] []))
      refine own_on (fun tq => XS.iload X0.here hx rfl (hb hby at_27) rfl) ?_
      show own_Fin p e below _ (s₁.setTop (mkF m 29 #[.val (.int p1), .val (.int p2), .val (.int p3), .val (.int p4), .val (.int p5), .val (.int p6), .val (.int bR), .val (.int (((p2.toUInt32 >>> ((2 : Int32) &&& 31).toUInt32).toInt32) &&& (3 : Int32))), .unset, .unset, .unset, .unset, .unset, .unset, .unset, .unset, .unset, .unset, .unset] [(.int bR)]))
      refine own_on (fun tq => XS.iconst X0.here hx rfl (hb hby at_29)) ?_
      show own_Fin p e below _ (s₁.setTop (mkF m 30 #[.val (.int p1), .val (.int p2), .val (.int p3), .val (.int p4), .val (.int p5), .val (.int p6), .val (.int bR), .val (.int (((p2.toUInt32 >>> ((2 : Int32) &&& 31).toUInt32).toInt32) &&& (3 : Int32))), .unset, .unset, .unset, .unset, .unset, .unset, .unset, .unset, .unset, .unset, .unset] [(.int (1 : Int32)), (.int bR)]))
      refine own_on (fun tq => XS.iadd X0.here hx rfl (hb hby at_30) rfl) ?_
      show own_Fin p e below _ (s₁.setTop (mkF m 31 #[.val (.int p1), .val (.int p2), .val (.int p3), .val (.int p4), .val (.int p5), .val (.int p6), .val (.int bR), .val (.int (((p2.toUInt32 >>> ((2 : Int32) &&& 31).toUInt32).toInt32) &&& (3 : Int32))), .unset, .unset, .unset, .unset, .unset, .unset, .unset, .unset, .unset, .unset, .unset] [(.int (bR + (1 : Int32)))]))
      refine own_on (fun tq => XS.iloadN X0.here hx rfl (hb hby at_31) rfl) ?_
      show own_Fin p e below _ (s₁.setTop (mkF m 32 #[.val (.int p1), .val (.int p2), .val (.int p3), .val (.int p4), .val (.int p5), .val (.int p6), .val (.int bR), .val (.int (((p2.toUInt32 >>> ((2 : Int32) &&& 31).toUInt32).toInt32) &&& (3 : Int32))), .unset, .unset, .unset, .unset, .unset, .unset, .unset, .unset, .unset, .unset, .unset] [(.int p3), (.int (bR + (1 : Int32)))]))
      refine own_on (fun tq => X0.ldcInt hx hown (mvT hZ (hw _ (List.mem_of_getElem? (i := 0) rfl))) (g := (mkF m 32 #[.val (.int p1), .val (.int p2), .val (.int p3), .val (.int p4), .val (.int p5), .val (.int p6), .val (.int bR), .val (.int (((p2.toUInt32 >>> ((2 : Int32) &&& 31).toUInt32).toInt32) &&& (3 : Int32))), .unset, .unset, .unset, .unset, .unset, .unset, .unset, .unset, .unset, .unset, .unset] [(.int p3), (.int (bR + (1 : Int32)))])) rfl (hb hby at_32) tq) ?_
      show own_Fin p e below _ (s₁.setTop (mkF m 34 #[.val (.int p1), .val (.int p2), .val (.int p3), .val (.int p4), .val (.int p5), .val (.int p6), .val (.int bR), .val (.int (((p2.toUInt32 >>> ((2 : Int32) &&& 31).toUInt32).toInt32) &&& (3 : Int32))), .unset, .unset, .unset, .unset, .unset, .unset, .unset, .unset, .unset, .unset, .unset] [(.int (65535 : Int32)), (.int p3), (.int (bR + (1 : Int32)))]))
      refine own_on (fun tq => XS.iand X0.here hx rfl (hb hby at_34) rfl) ?_
      show own_Fin p e below _ (s₁.setTop (mkF m 35 #[.val (.int p1), .val (.int p2), .val (.int p3), .val (.int p4), .val (.int p5), .val (.int p6), .val (.int bR), .val (.int (((p2.toUInt32 >>> ((2 : Int32) &&& 31).toUInt32).toInt32) &&& (3 : Int32))), .unset, .unset, .unset, .unset, .unset, .unset, .unset, .unset, .unset, .unset, .unset] [(.int (p3 &&& (65535 : Int32))), (.int (bR + (1 : Int32)))]))
      refine own_on (fun tq => XS.iadd X0.here hx rfl (hb hby at_35) rfl) ?_
      show own_Fin p e below _ (s₁.setTop (mkF m 36 #[.val (.int p1), .val (.int p2), .val (.int p3), .val (.int p4), .val (.int p5), .val (.int p6), .val (.int bR), .val (.int (((p2.toUInt32 >>> ((2 : Int32) &&& 31).toUInt32).toInt32) &&& (3 : Int32))), .unset, .unset, .unset, .unset, .unset, .unset, .unset, .unset, .unset, .unset, .unset] [(.int ((bR + (1 : Int32)) + (p3 &&& (65535 : Int32))))]))
      refine own_on (fun tq => XS.istore X0.here hx rfl (hb hby at_36) rfl (l' := #[.val (.int p1), .val (.int p2), .val (.int p3), .val (.int p4), .val (.int p5), .val (.int p6), .val (.int bR), .val (.int (((p2.toUInt32 >>> ((2 : Int32) &&& 31).toUInt32).toInt32) &&& (3 : Int32))), .val (.int ((bR + (1 : Int32)) + (p3 &&& (65535 : Int32)))), .unset, .unset, .unset, .unset, .unset, .unset, .unset, .unset, .unset, .unset]) rfl) ?_
      show own_Fin p e below _ (s₁.setTop (mkF m 38 #[.val (.int p1), .val (.int p2), .val (.int p3), .val (.int p4), .val (.int p5), .val (.int p6), .val (.int bR), .val (.int (((p2.toUInt32 >>> ((2 : Int32) &&& 31).toUInt32).toInt32) &&& (3 : Int32))), .val (.int ((bR + (1 : Int32)) + (p3 &&& (65535 : Int32)))), .unset, .unset, .unset, .unset, .unset, .unset, .unset, .unset, .unset, .unset] []))
      refine own_on (fun tq => XS.goto X0.here hx rfl (pc0 := 38) (pc' := 65) rfl (hb hby at_38) (by decide) (by decide)) ?_
      show own_Fin p e below _ (s₁.setTop (mkF m 65 #[.val (.int p1), .val (.int p2), .val (.int p3), .val (.int p4), .val (.int p5), .val (.int p6), .val (.int bR), .val (.int (((p2.toUInt32 >>> ((2 : Int32) &&& 31).toUInt32).toInt32) &&& (3 : Int32))), .val (.int ((bR + (1 : Int32)) + (p3 &&& (65535 : Int32)))), .unset, .unset, .unset, .unset, .unset, .unset, .unset, .unset, .unset, .unset] []))
      obtain ⟨rr, hrr⟩ : ∃ q : Int32, q = ((bR + (1 : Int32)) + (p3 &&& (65535 : Int32))) := ⟨_, rfl⟩
      have r0 : 0 ≤ rr.toInt := hrr ▸ own_ra rR
      rw [← hrr]
      show own_Fin p e below _ (s₁.setTop (mkF m 65 #[.val (.int p1), .val (.int p2), .val (.int p3), .val (.int p4), .val (.int p5), .val (.int p6), .val (.int bR), .val (.int (((p2.toUInt32 >>> ((2 : Int32) &&& 31).toUInt32).toInt32) &&& (3 : Int32))), .val (.int rr), .unset, .unset, .unset, .unset, .unset, .unset, .unset, .unset, .unset, .unset] []))
      refine own_on (fun tq => XS.iloadN X0.here hx rfl (hb hby at_65) rfl) ?_
      show own_Fin p e below _ (s₁.setTop (mkF m 66 #[.val (.int p1), .val (.int p2), .val (.int p3), .val (.int p4), .val (.int p5), .val (.int p6), .val (.int bR), .val (.int (((p2.toUInt32 >>> ((2 : Int32) &&& 31).toUInt32).toInt32) &&& (3 : Int32))), .val (.int rr), .unset, .unset, .unset, .unset, .unset, .unset, .unset, .unset, .unset, .unset] [(.int p4)]))
      refine own_on (fun tq => X0.ldcInt hx hown (mvT hZ (hw _ (List.mem_of_getElem? (i := 0) rfl))) (g := (mkF m 66 #[.val (.int p1), .val (.int p2), .val (.int p3), .val (.int p4), .val (.int p5), .val (.int p6), .val (.int bR), .val (.int (((p2.toUInt32 >>> ((2 : Int32) &&& 31).toUInt32).toInt32) &&& (3 : Int32))), .val (.int rr), .unset, .unset, .unset, .unset, .unset, .unset, .unset, .unset, .unset, .unset] [(.int p4)])) rfl (hb hby at_66) tq) ?_
      show own_Fin p e below _ (s₁.setTop (mkF m 68 #[.val (.int p1), .val (.int p2), .val (.int p3), .val (.int p4), .val (.int p5), .val (.int p6), .val (.int bR), .val (.int (((p2.toUInt32 >>> ((2 : Int32) &&& 31).toUInt32).toInt32) &&& (3 : Int32))), .val (.int rr), .unset, .unset, .unset, .unset, .unset, .unset, .unset, .unset, .unset, .unset] [(.int (65535 : Int32)), (.int p4)]))
      refine own_on (fun tq => XS.iand X0.here hx rfl (hb hby at_68) rfl) ?_
      show own_Fin p e below _ (s₁.setTop (mkF m 69 #[.val (.int p1), .val (.int p2), .val (.int p3), .val (.int p4), .val (.int p5), .val (.int p6), .val (.int bR), .val (.int (((p2.toUInt32 >>> ((2 : Int32) &&& 31).toUInt32).toInt32) &&& (3 : Int32))), .val (.int rr), .unset, .unset, .unset, .unset, .unset, .unset, .unset, .unset, .unset, .unset] [(.int (p4 &&& (65535 : Int32)))]))
      refine own_on (fun tq => XS.istore X0.here hx rfl (hb hby at_69) rfl (l' := #[.val (.int p1), .val (.int p2), .val (.int p3), .val (.int p4), .val (.int p5), .val (.int p6), .val (.int bR), .val (.int (((p2.toUInt32 >>> ((2 : Int32) &&& 31).toUInt32).toInt32) &&& (3 : Int32))), .val (.int rr), .val (.int (p4 &&& (65535 : Int32))), .unset, .unset, .unset, .unset, .unset, .unset, .unset, .unset, .unset]) rfl) ?_
      show own_Fin p e below _ (s₁.setTop (mkF m 71 #[.val (.int p1), .val (.int p2), .val (.int p3), .val (.int p4), .val (.int p5), .val (.int p6), .val (.int bR), .val (.int (((p2.toUInt32 >>> ((2 : Int32) &&& 31).toUInt32).toInt32) &&& (3 : Int32))), .val (.int rr), .val (.int (p4 &&& (65535 : Int32))), .unset, .unset, .unset, .unset, .unset, .unset, .unset, .unset, .unset] []))
      obtain ⟨tT, htT⟩ : ∃ q : Int32, q = (p4 &&& (65535 : Int32)) := ⟨_, rfl⟩
      have rT : 0 ≤ tT.toInt ∧ tT.toInt ≤ 65535 := htT ▸ own_m16 p4
      rw [← htT]
      show own_Fin p e below _ (s₁.setTop (mkF m 71 #[.val (.int p1), .val (.int p2), .val (.int p3), .val (.int p4), .val (.int p5), .val (.int p6), .val (.int bR), .val (.int (((p2.toUInt32 >>> ((2 : Int32) &&& 31).toUInt32).toInt32) &&& (3 : Int32))), .val (.int rr), .val (.int tT), .unset, .unset, .unset, .unset, .unset, .unset, .unset, .unset, .unset] []))
      refine own_on (fun tq => XS.iload X0.here hx rfl (hb hby at_71) rfl) ?_
      show own_Fin p e below _ (s₁.setTop (mkF m 73 #[.val (.int p1), .val (.int p2), .val (.int p3), .val (.int p4), .val (.int p5), .val (.int p6), .val (.int bR), .val (.int (((p2.toUInt32 >>> ((2 : Int32) &&& 31).toUInt32).toInt32) &&& (3 : Int32))), .val (.int rr), .val (.int tT), .unset, .unset, .unset, .unset, .unset, .unset, .unset, .unset, .unset] [(.int p5)]))
      refine own_on (fun tq => XS.sipush X0.here hx rfl (hb hby at_73)) ?_
      show own_Fin p e below _ (s₁.setTop (mkF m 76 #[.val (.int p1), .val (.int p2), .val (.int p3), .val (.int p4), .val (.int p5), .val (.int p6), .val (.int bR), .val (.int (((p2.toUInt32 >>> ((2 : Int32) &&& 31).toUInt32).toInt32) &&& (3 : Int32))), .val (.int rr), .val (.int tT), .unset, .unset, .unset, .unset, .unset, .unset, .unset, .unset, .unset] [(.int (32767 : Int32)), (.int p5)]))
      refine own_on (fun tq => XS.iand X0.here hx rfl (hb hby at_76) rfl) ?_
      show own_Fin p e below _ (s₁.setTop (mkF m 77 #[.val (.int p1), .val (.int p2), .val (.int p3), .val (.int p4), .val (.int p5), .val (.int p6), .val (.int bR), .val (.int (((p2.toUInt32 >>> ((2 : Int32) &&& 31).toUInt32).toInt32) &&& (3 : Int32))), .val (.int rr), .val (.int tT), .unset, .unset, .unset, .unset, .unset, .unset, .unset, .unset, .unset] [(.int (p5 &&& (32767 : Int32)))]))
      refine own_on (fun tq => XS.istore X0.here hx rfl (hb hby at_77) rfl (l' := #[.val (.int p1), .val (.int p2), .val (.int p3), .val (.int p4), .val (.int p5), .val (.int p6), .val (.int bR), .val (.int (((p2.toUInt32 >>> ((2 : Int32) &&& 31).toUInt32).toInt32) &&& (3 : Int32))), .val (.int rr), .val (.int tT), .val (.int (p5 &&& (32767 : Int32))), .unset, .unset, .unset, .unset, .unset, .unset, .unset, .unset]) rfl) ?_
      show own_Fin p e below _ (s₁.setTop (mkF m 79 #[.val (.int p1), .val (.int p2), .val (.int p3), .val (.int p4), .val (.int p5), .val (.int p6), .val (.int bR), .val (.int (((p2.toUInt32 >>> ((2 : Int32) &&& 31).toUInt32).toInt32) &&& (3 : Int32))), .val (.int rr), .val (.int tT), .val (.int (p5 &&& (32767 : Int32))), .unset, .unset, .unset, .unset, .unset, .unset, .unset, .unset] []))
      obtain ⟨kk, hkk⟩ : ∃ q : Int32, q = (p5 &&& (32767 : Int32)) := ⟨_, rfl⟩
      have rk : 0 ≤ kk.toInt ∧ kk.toInt ≤ 32767 := hkk ▸ own_m15 p5
      rw [← hkk]
      show own_Fin p e below _ (s₁.setTop (mkF m 79 #[.val (.int p1), .val (.int p2), .val (.int p3), .val (.int p4), .val (.int p5), .val (.int p6), .val (.int bR), .val (.int (((p2.toUInt32 >>> ((2 : Int32) &&& 31).toUInt32).toInt32) &&& (3 : Int32))), .val (.int rr), .val (.int tT), .val (.int kk), .unset, .unset, .unset, .unset, .unset, .unset, .unset, .unset] []))
      refine own_on (fun tq => XS.iload X0.here hx rfl (hb hby at_79) rfl) ?_
      show own_Fin p e below _ (s₁.setTop (mkF m 81 #[.val (.int p1), .val (.int p2), .val (.int p3), .val (.int p4), .val (.int p5), .val (.int p6), .val (.int bR), .val (.int (((p2.toUInt32 >>> ((2 : Int32) &&& 31).toUInt32).toInt32) &&& (3 : Int32))), .val (.int rr), .val (.int tT), .val (.int kk), .unset, .unset, .unset, .unset, .unset, .unset, .unset, .unset] [(.int bR)]))
      by_cases hc298 : bR = (0 : Int32)
      · refine own_on (fun tq => XS.ifNo X0.here hx rfl (hb hby at_81) rfl ((if0 _ _).trans (teq hc298).2)) ?_
        show own_Fin p e below _ (s₁.setTop (mkF m 84 #[.val (.int p1), .val (.int p2), .val (.int p3), .val (.int p4), .val (.int p5), .val (.int p6), .val (.int bR), .val (.int (((p2.toUInt32 >>> ((2 : Int32) &&& 31).toUInt32).toInt32) &&& (3 : Int32))), .val (.int rr), .val (.int tT), .val (.int kk), .unset, .unset, .unset, .unset, .unset, .unset, .unset, .unset] []))
        refine own_on (fun tq => XS.iconst X0.here hx rfl (hb hby at_84)) ?_
        show own_Fin p e below _ (s₁.setTop (mkF m 85 #[.val (.int p1), .val (.int p2), .val (.int p3), .val (.int p4), .val (.int p5), .val (.int p6), .val (.int bR), .val (.int (((p2.toUInt32 >>> ((2 : Int32) &&& 31).toUInt32).toInt32) &&& (3 : Int32))), .val (.int rr), .val (.int tT), .val (.int kk), .unset, .unset, .unset, .unset, .unset, .unset, .unset, .unset] [(.int (0 : Int32))]))
        refine own_on (fun tq => XS.goto X0.here hx rfl (pc0 := 85) (pc' := 96) rfl (hb hby at_85) (by decide) (by decide)) ?_
        show own_Fin p e below _ (s₁.setTop (mkF m 96 #[.val (.int p1), .val (.int p2), .val (.int p3), .val (.int p4), .val (.int p5), .val (.int p6), .val (.int bR), .val (.int (((p2.toUInt32 >>> ((2 : Int32) &&& 31).toUInt32).toInt32) &&& (3 : Int32))), .val (.int rr), .val (.int tT), .val (.int kk), .unset, .unset, .unset, .unset, .unset, .unset, .unset, .unset] [(.int (0 : Int32))]))
        refine own_on (fun tq => XS.istore X0.here hx rfl (hb hby at_96) rfl (l' := #[.val (.int p1), .val (.int p2), .val (.int p3), .val (.int p4), .val (.int p5), .val (.int p6), .val (.int bR), .val (.int (((p2.toUInt32 >>> ((2 : Int32) &&& 31).toUInt32).toInt32) &&& (3 : Int32))), .val (.int rr), .val (.int tT), .val (.int kk), .val (.int (0 : Int32)), .unset, .unset, .unset, .unset, .unset, .unset, .unset]) rfl) ?_
        show own_Fin p e below _ (s₁.setTop (mkF m 98 #[.val (.int p1), .val (.int p2), .val (.int p3), .val (.int p4), .val (.int p5), .val (.int p6), .val (.int bR), .val (.int (((p2.toUInt32 >>> ((2 : Int32) &&& 31).toUInt32).toInt32) &&& (3 : Int32))), .val (.int rr), .val (.int tT), .val (.int kk), .val (.int (0 : Int32)), .unset, .unset, .unset, .unset, .unset, .unset, .unset] []))
        refine own_on (fun tq => XS.iload X0.here hx rfl (hb hby at_98) rfl) ?_
        show own_Fin p e below _ (s₁.setTop (mkF m 100 #[.val (.int p1), .val (.int p2), .val (.int p3), .val (.int p4), .val (.int p5), .val (.int p6), .val (.int bR), .val (.int (((p2.toUInt32 >>> ((2 : Int32) &&& 31).toUInt32).toInt32) &&& (3 : Int32))), .val (.int rr), .val (.int tT), .val (.int kk), .val (.int (0 : Int32)), .unset, .unset, .unset, .unset, .unset, .unset, .unset] [(.int bR)]))
        refine own_on (fun tq => XS.ifNo X0.here hx rfl (hb hby at_100) rfl ((if0 _ _).trans (teq hc298).2)) ?_
        show own_Fin p e below _ (s₁.setTop (mkF m 103 #[.val (.int p1), .val (.int p2), .val (.int p3), .val (.int p4), .val (.int p5), .val (.int p6), .val (.int bR), .val (.int (((p2.toUInt32 >>> ((2 : Int32) &&& 31).toUInt32).toInt32) &&& (3 : Int32))), .val (.int rr), .val (.int tT), .val (.int kk), .val (.int (0 : Int32)), .unset, .unset, .unset, .unset, .unset, .unset, .unset] []))
        refine own_on (fun tq => XS.iload X0.here hx rfl (hb hby at_103) rfl) ?_
        show own_Fin p e below _ (s₁.setTop (mkF m 105 #[.val (.int p1), .val (.int p2), .val (.int p3), .val (.int p4), .val (.int p5), .val (.int p6), .val (.int bR), .val (.int (((p2.toUInt32 >>> ((2 : Int32) &&& 31).toUInt32).toInt32) &&& (3 : Int32))), .val (.int rr), .val (.int tT), .val (.int kk), .val (.int (0 : Int32)), .unset, .unset, .unset, .unset, .unset, .unset, .unset] [(.int p5)]))
        refine own_on (fun tq => X0.ldcInt hx hown (mvT hZ (hw _ (List.mem_of_getElem? (i := 1) rfl))) (g := (mkF m 105 #[.val (.int p1), .val (.int p2), .val (.int p3), .val (.int p4), .val (.int p5), .val (.int p6), .val (.int bR), .val (.int (((p2.toUInt32 >>> ((2 : Int32) &&& 31).toUInt32).toInt32) &&& (3 : Int32))), .val (.int rr), .val (.int tT), .val (.int kk), .val (.int (0 : Int32)), .unset, .unset, .unset, .unset, .unset, .unset, .unset] [(.int p5)])) rfl (hb hby at_105) tq) ?_
        show own_Fin p e below _ (s₁.setTop (mkF m 107 #[.val (.int p1), .val (.int p2), .val (.int p3), .val (.int p4), .val (.int p5), .val (.int p6), .val (.int bR), .val (.int (((p2.toUInt32 >>> ((2 : Int32) &&& 31).toUInt32).toInt32) &&& (3 : Int32))), .val (.int rr), .val (.int tT), .val (.int kk), .val (.int (0 : Int32)), .unset, .unset, .unset, .unset, .unset, .unset, .unset] [(.int (2147483647 : Int32)), (.int p5)]))
        refine own_on (fun tq => XS.iand X0.here hx rfl (hb hby at_107) rfl) ?_
        show own_Fin p e below _ (s₁.setTop (mkF m 108 #[.val (.int p1), .val (.int p2), .val (.int p3), .val (.int p4), .val (.int p5), .val (.int p6), .val (.int bR), .val (.int (((p2.toUInt32 >>> ((2 : Int32) &&& 31).toUInt32).toInt32) &&& (3 : Int32))), .val (.int rr), .val (.int tT), .val (.int kk), .val (.int (0 : Int32)), .unset, .unset, .unset, .unset, .unset, .unset, .unset] [(.int (p5 &&& (2147483647 : Int32)))]))
        refine own_on (fun tq => XS.goto X0.here hx rfl (pc0 := 108) (pc' := 119) rfl (hb hby at_108) (by decide) (by decide)) ?_
        show own_Fin p e below _ (s₁.setTop (mkF m 119 #[.val (.int p1), .val (.int p2), .val (.int p3), .val (.int p4), .val (.int p5), .val (.int p6), .val (.int bR), .val (.int (((p2.toUInt32 >>> ((2 : Int32) &&& 31).toUInt32).toInt32) &&& (3 : Int32))), .val (.int rr), .val (.int tT), .val (.int kk), .val (.int (0 : Int32)), .unset, .unset, .unset, .unset, .unset, .unset, .unset] [(.int (p5 &&& (2147483647 : Int32)))]))
        refine own_on (fun tq => XS.istore X0.here hx rfl (hb hby at_119) rfl (l' := #[.val (.int p1), .val (.int p2), .val (.int p3), .val (.int p4), .val (.int p5), .val (.int p6), .val (.int bR), .val (.int (((p2.toUInt32 >>> ((2 : Int32) &&& 31).toUInt32).toInt32) &&& (3 : Int32))), .val (.int rr), .val (.int tT), .val (.int kk), .val (.int (0 : Int32)), .val (.int (p5 &&& (2147483647 : Int32))), .unset, .unset, .unset, .unset, .unset, .unset]) rfl) ?_
        show own_Fin p e below _ (s₁.setTop (mkF m 121 #[.val (.int p1), .val (.int p2), .val (.int p3), .val (.int p4), .val (.int p5), .val (.int p6), .val (.int bR), .val (.int (((p2.toUInt32 >>> ((2 : Int32) &&& 31).toUInt32).toInt32) &&& (3 : Int32))), .val (.int rr), .val (.int tT), .val (.int kk), .val (.int (0 : Int32)), .val (.int (p5 &&& (2147483647 : Int32))), .unset, .unset, .unset, .unset, .unset, .unset] []))
        obtain ⟨bq, hbq⟩ : ∃ q : Int32, q = (p5 &&& (2147483647 : Int32)) := ⟨_, rfl⟩
        have b0 : 0 ≤ bq.toInt := hbq ▸ own_m31 p5
        rw [← hbq]
        show own_Fin p e below _ (s₁.setTop (mkF m 121 #[.val (.int p1), .val (.int p2), .val (.int p3), .val (.int p4), .val (.int p5), .val (.int p6), .val (.int bR), .val (.int (((p2.toUInt32 >>> ((2 : Int32) &&& 31).toUInt32).toInt32) &&& (3 : Int32))), .val (.int rr), .val (.int tT), .val (.int kk), .val (.int (0 : Int32)), .val (.int bq), .unset, .unset, .unset, .unset, .unset, .unset] []))
        obtain ⟨T299, h299, X299, e299, E299, A299, D299, -, st299⟩ := newO X0 hx hZ hown (hw _ (List.mem_of_getElem? (i := 2) rfl)) (hw _ (List.mem_of_getElem? (i := 3) rfl)) (hw _ (List.mem_of_getElem? (i := 4) rfl)) e0 (g := (mkF m 121 #[.val (.int p1), .val (.int p2), .val (.int p3), .val (.int p4), .val (.int p5), .val (.int p6), .val (.int bR), .val (.int (((p2.toUInt32 >>> ((2 : Int32) &&& 31).toUInt32).toInt32) &&& (3 : Int32))), .val (.int rr), .val (.int tT), .val (.int kk), .val (.int (0 : Int32)), .val (.int bq), .unset, .unset, .unset, .unset, .unset, .unset] [])) rfl (hb hby at_121) (by decide) (by decide)
        obtain ⟨b299, g299⟩ : ∃ z, z = h0.size := ⟨_, rfl⟩
        rw [← g299] at A299 D299 st299
        have y300 := (CHv.ext E299 CH0)
        have y301 := (CHr.trans (CHr.refl CH0) (CHr.ext E299 CH0))
        have y302 := (Nat.le_trans (Nat.zero_le _) E299.1)
        have y303 := (Nat.le_trans Z0 E299.1)
        have y304 := (Safe.ext E299 CH0 (Safe.new (Nat.le_of_eq g299.symm)))
        have gn299 : n0 ≤ b299 := Nat.le_trans Z0 (Nat.le_of_eq g299.symm)
        have F299_rate : Fld Z h299 b299 "com/example/curves_to_bounds/curvestobounds/curve/RateLatency" "rate" "D" (.double (0 : UInt64)) := D299 (Or.inr (hw _ (List.mem_of_getElem? (i := 39) rfl))) (ty := .double) (by decide)
        have F299_latency : Fld Z h299 b299 "com/example/curves_to_bounds/curvestobounds/curve/RateLatency" "latency" "D" (.double (0 : UInt64)) := D299 (Or.inr (hw _ (List.mem_of_getElem? (i := 41) rfl))) (ty := .double) (by decide)
        refine own_on st299 ?_
        show own_Fin p e below _ (T299.setTop (mkF m 124 #[.val (.int p1), .val (.int p2), .val (.int p3), .val (.int p4), .val (.int p5), .val (.int p6), .val (.int bR), .val (.int (((p2.toUInt32 >>> ((2 : Int32) &&& 31).toUInt32).toInt32) &&& (3 : Int32))), .val (.int rr), .val (.int tT), .val (.int kk), .val (.int (0 : Int32)), .val (.int bq), .unset, .unset, .unset, .unset, .unset, .unset] [(.ref b299)]))
        refine own_on (fun tq => XS.dup X299.here hx rfl (hb hby at_124) rfl rfl) ?_
        show own_Fin p e below _ (T299.setTop (mkF m 125 #[.val (.int p1), .val (.int p2), .val (.int p3), .val (.int p4), .val (.int p5), .val (.int p6), .val (.int bR), .val (.int (((p2.toUInt32 >>> ((2 : Int32) &&& 31).toUInt32).toInt32) &&& (3 : Int32))), .val (.int rr), .val (.int tT), .val (.int kk), .val (.int (0 : Int32)), .val (.int bq), .unset, .unset, .unset, .unset, .unset, .unset] [(.ref b299), (.ref b299)]))
        refine own_on (fun tq => XS.iload X299.here hx rfl (hb hby at_125) rfl) ?_
        show own_Fin p e below _ (T299.setTop (mkF m 127 #[.val (.int p1), .val (.int p2), .val (.int p3), .val (.int p4), .val (.int p5), .val (.int p6), .val (.int bR), .val (.int (((p2.toUInt32 >>> ((2 : Int32) &&& 31).toUInt32).toInt32) &&& (3 : Int32))), .val (.int rr), .val (.int tT), .val (.int kk), .val (.int (0 : Int32)), .val (.int bq), .unset, .unset, .unset, .unset, .unset, .unset] [(.int bR), (.ref b299), (.ref b299)]))
        refine own_on (fun tq => XS.i2dS X299.here hx rfl (hb hby at_127) rfl (i2d_w _)) ?_
        show own_Fin p e below _ (T299.setTop (mkF m 128 #[.val (.int p1), .val (.int p2), .val (.int p3), .val (.int p4), .val (.int p5), .val (.int p6), .val (.int bR), .val (.int (((p2.toUInt32 >>> ((2 : Int32) &&& 31).toUInt32).toInt32) &&& (3 : Int32))), .val (.int rr), .val (.int tT), .val (.int kk), .val (.int (0 : Int32)), .val (.int bq), .unset, .unset, .unset, .unset, .unset, .unset] [(.double (FP.l2d bR.toInt64)), (.ref b299), (.ref b299)]))
        refine own_on (fun tq => XS.iload X299.here hx rfl (hb hby at_128) rfl) ?_
        show own_Fin p e below _ (T299.setTop (mkF m 130 #[.val (.int p1), .val (.int p2), .val (.int p3), .val (.int p4), .val (.int p5), .val (.int p6), .val (.int bR), .val (.int (((p2.toUInt32 >>> ((2 : Int32) &&& 31).toUInt32).toInt32) &&& (3 : Int32))), .val (.int rr), .val (.int tT), .val (.int kk), .val (.int (0 : Int32)), .val (.int bq), .unset, .unset, .unset, .unset, .unset, .unset] [(.int tT), (.double (FP.l2d bR.toInt64)), (.ref b299), (.ref b299)]))
        refine own_on (fun tq => XS.i2dS X299.here hx rfl (hb hby at_130) rfl (i2d_w _)) ?_
        show own_Fin p e below _ (T299.setTop (mkF m 131 #[.val (.int p1), .val (.int p2), .val (.int p3), .val (.int p4), .val (.int p5), .val (.int p6), .val (.int bR), .val (.int (((p2.toUInt32 >>> ((2 : Int32) &&& 31).toUInt32).toInt32) &&& (3 : Int32))), .val (.int rr), .val (.int tT), .val (.int kk), .val (.int (0 : Int32)), .val (.int bq), .unset, .unset, .unset, .unset, .unset, .unset] [(.double (FP.l2d tT.toInt64)), (.double (FP.l2d bR.toInt64)), (.ref b299), (.ref b299)]))
        obtain ⟨_, _, ⟨T305, L305, k305, n305⟩, -, X305', S305', gr305, ⟨Lc305, hQ305, l305, y305, z305, A305⟩, st305⟩ := X299.specialBackS hx (y := (⟨"com/example/curves_to_bounds/curvestobounds/curve/RateLatency", "<init>", "(DD)V"⟩ : MethodName)) rfl hown (mvT hZ (hw _ (List.mem_of_getElem? (i := 5) rfl))) (mvT hZ (hw _ (List.mem_of_getElem? (i := 6) rfl))) (mvT hZ (hw _ (List.mem_of_getElem? (i := 7) rfl))) (by decide) (backOfSH (s := s) (W := 1) (rm1 l Z a0 hw [] b299 (FP.l2d bR.toInt64) (FP.l2d tT.toInt64) h299 n0 (by exact y303) hEL (own_okI rR.1) (own_okI rT.1) A299 F299_rate F299_latency gn299) hZ (hw _ (List.mem_of_getElem? (i := 7) rfl)) (hw _ (List.mem_of_getElem? (i := 4) rfl)) (by decide) (by decide) hEL y300) (g := (mkF m 131 #[.val (.int p1), .val (.int p2), .val (.int p3), .val (.int p4), .val (.int p5), .val (.int p6), .val (.int bR), .val (.int (((p2.toUInt32 >>> ((2 : Int32) &&& 31).toUInt32).toInt32) &&& (3 : Int32))), .val (.int rr), .val (.int tT), .val (.int kk), .val (.int (0 : Int32)), .val (.int bq), .unset, .unset, .unset, .unset, .unset, .unset] [(.double (FP.l2d tT.toInt64)), (.double (FP.l2d bR.toInt64)), (.ref b299), (.ref b299)])) rfl (by rw [hml]; rfl) (Steps.refl _) (a := b299) (argsL := [(.double (FP.l2d bR.toInt64)), (.double (FP.l2d tT.toInt64))]) (rest := [(.ref b299)]) (lenOf pd_5 rfl) rfl (by show 2 * 0 + _ ≤ _; exact Nat.le_of_eq rfl) (hb hby at_131) (fun _ _ => ⟨rfl, e299, (by decide : 1 + 4 ≤ _), (by decide : 2 + 52 ≤ _)⟩)
        dsimp only [Pt.U, Pt.locs, Pt.cells, Pt.slots] at X305' S305' gr305 l305 y305 z305 st305 hQ305 A305
        subst l305 y305 z305
        obtain ⟨X305, hS305, hZ305, hown305⟩ := rebS hS0 (by first | exact y302 | (rw [e299]; exact y302)) X305' S305' gr305 hZ hown
        obtain ⟨rfl, N305q, K305, E305q, F305a, F305b⟩ := hQ305
        have N305 := Fr.app N0 N305q
        have y306 := (CHr.trans y301 A305)
        have y307 := (Nat.le_refl (Array.size T305.heap))
        have y308 := (Nat.le_trans y303 K305.1)
        have y309 := (CHr.safe A305 F299_latency.lt y304)
        have y310 := (A299.keep K305)
        refine own_via st305 ?_
        show own_Fin p e below _ (T305.setTop (mkF m 134 #[.val (.int p1), .val (.int p2), .val (.int p3), .val (.int p4), .val (.int p5), .val (.int p6), .val (.int bR), .val (.int (((p2.toUInt32 >>> ((2 : Int32) &&& 31).toUInt32).toInt32) &&& (3 : Int32))), .val (.int rr), .val (.int tT), .val (.int kk), .val (.int (0 : Int32)), .val (.int bq), .unset, .unset, .unset, .unset, .unset, .unset] [(.ref b299)]))
        refine own_on (fun tq => XS.astore X305.here hx rfl (hb hby at_134) rfl rfl (l' := #[.val (.int p1), .val (.int p2), .val (.int p3), .val (.int p4), .val (.int p5), .val (.int p6), .val (.int bR), .val (.int (((p2.toUInt32 >>> ((2 : Int32) &&& 31).toUInt32).toInt32) &&& (3 : Int32))), .val (.int rr), .val (.int tT), .val (.int kk), .val (.int (0 : Int32)), .val (.int bq), .val (.ref b299), .unset, .unset, .unset, .unset, .unset]) rfl) ?_
        show own_Fin p e below _ (T305.setTop (mkF m 136 #[.val (.int p1), .val (.int p2), .val (.int p3), .val (.int p4), .val (.int p5), .val (.int p6), .val (.int bR), .val (.int (((p2.toUInt32 >>> ((2 : Int32) &&& 31).toUInt32).toInt32) &&& (3 : Int32))), .val (.int rr), .val (.int tT), .val (.int kk), .val (.int (0 : Int32)), .val (.int bq), .val (.ref b299), .unset, .unset, .unset, .unset, .unset] []))
        obtain ⟨T311, h311, X311, e311, E311, A311, D311, -, st311⟩ := newO X305 hx hZ305 hown305 (hw _ (List.mem_of_getElem? (i := 42) rfl)) (hw _ (List.mem_of_getElem? (i := 43) rfl)) (hw _ (List.mem_of_getElem? (i := 44) rfl)) rfl (g := (mkF m 136 #[.val (.int p1), .val (.int p2), .val (.int p3), .val (.int p4), .val (.int p5), .val (.int p6), .val (.int bR), .val (.int (((p2.toUInt32 >>> ((2 : Int32) &&& 31).toUInt32).toInt32) &&& (3 : Int32))), .val (.int rr), .val (.int tT), .val (.int kk), .val (.int (0 : Int32)), .val (.int bq), .val (.ref b299), .unset, .unset, .unset, .unset, .unset] [])) rfl (hb hby at_136) (by decide) (by decide)
        obtain ⟨b311, g311⟩ : ∃ z, z = T305.heap.size := ⟨_, rfl⟩
        rw [← g311] at A311 D311 st311
        have ne311_b299 : b299 ≠ b311 := own_ne_of (Z := Z) E305q.lt g311
        have y312 := (CHv.ext E311 A305.1)
        have y313 := (CHr.trans y306 (CHr.ext E311 A305.1))
        have y314 := (Nat.le_trans y307 E311.1)
        have y315 := (Nat.le_trans y308 E311.1)
        have y316 := (Safe.ext E311 A305.1 y309)
        have y317 := (E305q.ext E311)
        have y318 := (F305a.ext E311)
        have y319 := (F305b.ext E311)
        have y320 := (Safe.ext E311 A305.1 (Safe.new (Nat.le_of_eq g311.symm)))
        have gn311 : n0 ≤ b311 := Nat.le_trans y308 (Nat.le_of_eq g311.symm)
        have F311_rate : Fld Z h311 b311 "com/example/curves_to_bounds/curvestobounds/curve/TokenBucket" "rate" "D" (.double (0 : UInt64)) := D311 (Or.inr (hw _ (List.mem_of_getElem? (i := 53) rfl))) (ty := .double) (by decide)
        have F311_burst : Fld Z h311 b311 "com/example/curves_to_bounds/curvestobounds/curve/TokenBucket" "burst" "D" (.double (0 : UInt64)) := D311 (Or.inr (hw _ (List.mem_of_getElem? (i := 55) rfl))) (ty := .double) (by decide)
        refine own_on st311 ?_
        show own_Fin p e below _ (T311.setTop (mkF m 139 #[.val (.int p1), .val (.int p2), .val (.int p3), .val (.int p4), .val (.int p5), .val (.int p6), .val (.int bR), .val (.int (((p2.toUInt32 >>> ((2 : Int32) &&& 31).toUInt32).toInt32) &&& (3 : Int32))), .val (.int rr), .val (.int tT), .val (.int kk), .val (.int (0 : Int32)), .val (.int bq), .val (.ref b299), .unset, .unset, .unset, .unset, .unset] [(.ref b311)]))
        refine own_on (fun tq => XS.dup X311.here hx rfl (hb hby at_139) rfl rfl) ?_
        show own_Fin p e below _ (T311.setTop (mkF m 140 #[.val (.int p1), .val (.int p2), .val (.int p3), .val (.int p4), .val (.int p5), .val (.int p6), .val (.int bR), .val (.int (((p2.toUInt32 >>> ((2 : Int32) &&& 31).toUInt32).toInt32) &&& (3 : Int32))), .val (.int rr), .val (.int tT), .val (.int kk), .val (.int (0 : Int32)), .val (.int bq), .val (.ref b299), .unset, .unset, .unset, .unset, .unset] [(.ref b311), (.ref b311)]))
        refine own_on (fun tq => XS.iload X311.here hx rfl (hb hby at_140) rfl) ?_
        show own_Fin p e below _ (T311.setTop (mkF m 142 #[.val (.int p1), .val (.int p2), .val (.int p3), .val (.int p4), .val (.int p5), .val (.int p6), .val (.int bR), .val (.int (((p2.toUInt32 >>> ((2 : Int32) &&& 31).toUInt32).toInt32) &&& (3 : Int32))), .val (.int rr), .val (.int tT), .val (.int kk), .val (.int (0 : Int32)), .val (.int bq), .val (.ref b299), .unset, .unset, .unset, .unset, .unset] [(.int rr), (.ref b311), (.ref b311)]))
        refine own_on (fun tq => XS.i2dS X311.here hx rfl (hb hby at_142) rfl (i2d_w _)) ?_
        show own_Fin p e below _ (T311.setTop (mkF m 143 #[.val (.int p1), .val (.int p2), .val (.int p3), .val (.int p4), .val (.int p5), .val (.int p6), .val (.int bR), .val (.int (((p2.toUInt32 >>> ((2 : Int32) &&& 31).toUInt32).toInt32) &&& (3 : Int32))), .val (.int rr), .val (.int tT), .val (.int kk), .val (.int (0 : Int32)), .val (.int bq), .val (.ref b299), .unset, .unset, .unset, .unset, .unset] [(.double (FP.l2d rr.toInt64)), (.ref b311), (.ref b311)]))
        refine own_on (fun tq => XS.iload X311.here hx rfl (hb hby at_143) rfl) ?_
        show own_Fin p e below _ (T311.setTop (mkF m 145 #[.val (.int p1), .val (.int p2), .val (.int p3), .val (.int p4), .val (.int p5), .val (.int p6), .val (.int bR), .val (.int (((p2.toUInt32 >>> ((2 : Int32) &&& 31).toUInt32).toInt32) &&& (3 : Int32))), .val (.int rr), .val (.int tT), .val (.int kk), .val (.int (0 : Int32)), .val (.int bq), .val (.ref b299), .unset, .unset, .unset, .unset, .unset] [(.int bq), (.double (FP.l2d rr.toInt64)), (.ref b311), (.ref b311)]))
        refine own_on (fun tq => XS.i2dS X311.here hx rfl (hb hby at_145) rfl (i2d_w _)) ?_
        show own_Fin p e below _ (T311.setTop (mkF m 146 #[.val (.int p1), .val (.int p2), .val (.int p3), .val (.int p4), .val (.int p5), .val (.int p6), .val (.int bR), .val (.int (((p2.toUInt32 >>> ((2 : Int32) &&& 31).toUInt32).toInt32) &&& (3 : Int32))), .val (.int rr), .val (.int tT), .val (.int kk), .val (.int (0 : Int32)), .val (.int bq), .val (.ref b299), .unset, .unset, .unset, .unset, .unset] [(.double (FP.l2d bq.toInt64)), (.double (FP.l2d rr.toInt64)), (.ref b311), (.ref b311)]))
        obtain ⟨_, _, ⟨T321, L321, k321, n321⟩, -, X321', S321', gr321, ⟨Lc321, hQ321, l321, y321, z321, A321⟩, st321⟩ := X311.specialBackS hx (y := (⟨"com/example/curves_to_bounds/curvestobounds/curve/TokenBucket", "<init>", "(DD)V"⟩ : MethodName)) rfl hown305 (mvT hZ305 (hw _ (List.mem_of_getElem? (i := 45) rfl))) (mvT hZ305 (hw _ (List.mem_of_getElem? (i := 46) rfl))) (mvT hZ305 (hw _ (List.mem_of_getElem? (i := 47) rfl))) (by decide) (backOfSH (s := s) (W := 1) (rm7 l Z a0 hw [] b311 (FP.l2d rr.toInt64) (FP.l2d bq.toInt64) h311 n0 (by exact y315) hEL (own_okI r0) (own_okI b0) A311 F311_rate F311_burst gn311) hZ305 (hw _ (List.mem_of_getElem? (i := 47) rfl)) (hw _ (List.mem_of_getElem? (i := 44) rfl)) (by decide) (by decide) hEL y312) (g := (mkF m 146 #[.val (.int p1), .val (.int p2), .val (.int p3), .val (.int p4), .val (.int p5), .val (.int p6), .val (.int bR), .val (.int (((p2.toUInt32 >>> ((2 : Int32) &&& 31).toUInt32).toInt32) &&& (3 : Int32))), .val (.int rr), .val (.int tT), .val (.int kk), .val (.int (0 : Int32)), .val (.int bq), .val (.ref b299), .unset, .unset, .unset, .unset, .unset] [(.double (FP.l2d bq.toInt64)), (.double (FP.l2d rr.toInt64)), (.ref b311), (.ref b311)])) rfl (by rw [hml]; rfl) (Steps.refl _) (a := b311) (argsL := [(.double (FP.l2d rr.toInt64)), (.double (FP.l2d bq.toInt64))]) (rest := [(.ref b311)]) (lenOf pd_5 rfl) rfl (by show 2 * 0 + _ ≤ _; exact Nat.le_of_eq rfl) (hb hby at_146) (fun _ _ => ⟨rfl, e311, (by decide : 6 + 4 ≤ _), (by decide : 56 + 44 ≤ _)⟩)
        dsimp only [Pt.U, Pt.locs, Pt.cells, Pt.slots] at X321' S321' gr321 l321 y321 z321 st321 hQ321 A321
        subst l321 y321 z321
        obtain ⟨X321, hS321, hZ321, hown321⟩ := rebS hS305 (by first | exact y314 | (rw [e311]; exact y314)) X321' S321' gr321 hZ305 hown305
        obtain ⟨rfl, N321q, K321, E321q, F321a, F321b⟩ := hQ321
        have N321 := Fr.app N305 N321q
        have y322 := (CHr.trans y313 A321)
        have y323 := (Nat.le_refl (Array.size T321.heap))
        have y324 := (Nat.le_trans y315 K321.1)
        have y325 := (CHr.safe A321 y319.lt y316)
        have y326 := (y317.keep K321)
        have y327 := (y318.keep K321 (ninS ne311_b299 nin0))
        have y328 := (y319.keep K321 (ninS ne311_b299 nin0))
        have y329 := (CHr.safe A321 F311_burst.lt y320)
        have y330 := (A311.keep K321)
        refine own_via st321 ?_
        show own_Fin p e below _ (T321.setTop (mkF m 149 #[.val (.int p1), .val (.int p2), .val (.int p3), .val (.int p4), .val (.int p5), .val (.int p6), .val (.int bR), .val (.int (((p2.toUInt32 >>> ((2 : Int32) &&& 31).toUInt32).toInt32) &&& (3 : Int32))), .val (.int rr), .val (.int tT), .val (.int kk), .val (.int (0 : Int32)), .val (.int bq), .val (.ref b299), .unset, .unset, .unset, .unset, .unset] [(.ref b311)]))
        refine own_on (fun tq => XS.astore X321.here hx rfl (hb hby at_149) rfl rfl (l' := #[.val (.int p1), .val (.int p2), .val (.int p3), .val (.int p4), .val (.int p5), .val (.int p6), .val (.int bR), .val (.int (((p2.toUInt32 >>> ((2 : Int32) &&& 31).toUInt32).toInt32) &&& (3 : Int32))), .val (.int rr), .val (.int tT), .val (.int kk), .val (.int (0 : Int32)), .val (.int bq), .val (.ref b299), .val (.ref b311), .unset, .unset, .unset, .unset]) rfl) ?_
        show own_Fin p e below _ (T321.setTop (mkF m 151 #[.val (.int p1), .val (.int p2), .val (.int p3), .val (.int p4), .val (.int p5), .val (.int p6), .val (.int bR), .val (.int (((p2.toUInt32 >>> ((2 : Int32) &&& 31).toUInt32).toInt32) &&& (3 : Int32))), .val (.int rr), .val (.int tT), .val (.int kk), .val (.int (0 : Int32)), .val (.int bq), .val (.ref b299), .val (.ref b311), .unset, .unset, .unset, .unset] []))
        refine own_on (fun tq => XS.aload X321.here hx rfl (hb hby at_151) rfl rfl) ?_
        show own_Fin p e below _ (T321.setTop (mkF m 153 #[.val (.int p1), .val (.int p2), .val (.int p3), .val (.int p4), .val (.int p5), .val (.int p6), .val (.int bR), .val (.int (((p2.toUInt32 >>> ((2 : Int32) &&& 31).toUInt32).toInt32) &&& (3 : Int32))), .val (.int rr), .val (.int tT), .val (.int kk), .val (.int (0 : Int32)), .val (.int bq), .val (.ref b299), .val (.ref b311), .unset, .unset, .unset, .unset] [(.ref b299)]))
        refine own_on (fun tq => XS.aload X321.here hx rfl (hb hby at_153) rfl rfl) ?_
        show own_Fin p e below _ (T321.setTop (mkF m 155 #[.val (.int p1), .val (.int p2), .val (.int p3), .val (.int p4), .val (.int p5), .val (.int p6), .val (.int bR), .val (.int (((p2.toUInt32 >>> ((2 : Int32) &&& 31).toUInt32).toInt32) &&& (3 : Int32))), .val (.int rr), .val (.int tT), .val (.int kk), .val (.int (0 : Int32)), .val (.int bq), .val (.ref b299), .val (.ref b311), .unset, .unset, .unset, .unset] [(.ref b311), (.ref b299)]))
        obtain ⟨cq331, kq331, q331a, q331b, q331c⟩ := isOf hZ321 rfl y326
        obtain ⟨_, _, ⟨T331, L331, k331, n331⟩, -, X331, ⟨Lc331, hQ331, l331, y331, z331⟩, st331⟩ := X321.virtualBack hx (y := (⟨"com/example/curves_to_bounds/curvestobounds/curve/RateLatency", "delayBound", "(Lcom/example/curves_to_bounds/curvestobounds/curve/TokenBucket;)D"⟩ : MethodName)) (z := (⟨"com/example/curves_to_bounds/curvestobounds/curve/RateLatency", "delayBound", "(Lcom/example/curves_to_bounds/curvestobounds/curve/TokenBucket;)D"⟩ : MethodName)) hown321 (mvT hZ321 (hw _ (List.mem_of_getElem? (i := 56) rfl))) (mvT hZ321 (hw _ (List.mem_of_getElem? (i := 57) rfl))) (notFace_of_selects (args := #[]) (mvT hZ321 (hw _ (List.mem_of_getElem? (i := 59) rfl)))) (mvT hZ321 (hw _ (List.mem_of_getElem? (i := 59) rfl))) (mvT hZ321 (hw _ (List.mem_of_getElem? (i := 58) rfl))) (by decide) (backOf (W := 0) (rm8 l Z a0 hw [] b299 b311 (bR.toInt64) (tT.toInt64) (rr.toInt64) (bq.toInt64) T321.heap n0 (by exact y324) y327 y328 F321a F321b E321q (own_b32 _) (own_b32 _) (fun q_ => absurd (own_z0 hc298) q_)) hZ321 (hw _ (List.mem_of_getElem? (i := 60) rfl)) (hw _ (List.mem_of_getElem? (i := 4) rfl)) (by decide) (by decide)) q331a q331c (g := (mkF m 155 #[.val (.int p1), .val (.int p2), .val (.int p3), .val (.int p4), .val (.int p5), .val (.int p6), .val (.int bR), .val (.int (((p2.toUInt32 >>> ((2 : Int32) &&& 31).toUInt32).toInt32) &&& (3 : Int32))), .val (.int rr), .val (.int tT), .val (.int kk), .val (.int (0 : Int32)), .val (.int bq), .val (.ref b299), .val (.ref b311), .unset, .unset, .unset, .unset] [(.ref b311), (.ref b299)])) rfl (by rw [hml]; rfl) (Steps.refl _) (argsL := [(.ref b311)]) (rest := []) (lenOf pd_6 rfl) rfl (by show 2 * 0 + _ ≤ _; exact Nat.le_of_eq rfl) (hb hby at_155) (fun _ _ => ⟨rfl, rfl, (by decide : 10 + 0 ≤ _), (by decide : 100 + 0 ≤ _)⟩)
        dsimp only [Pt.U, Pt.locs, Pt.cells, Pt.slots] at X331 l331 y331 z331 st331 hQ331
        subst l331 y331 z331
        obtain ⟨rfl, N331q, e331⟩ := hQ331
        have N331 := Fr.app N321 N331q
        refine own_via st331 ?_
        show own_Fin p e below _ (T331.setTop (mkF m 158 #[.val (.int p1), .val (.int p2), .val (.int p3), .val (.int p4), .val (.int p5), .val (.int p6), .val (.int bR), .val (.int (((p2.toUInt32 >>> ((2 : Int32) &&& 31).toUInt32).toInt32) &&& (3 : Int32))), .val (.int rr), .val (.int tT), .val (.int kk), .val (.int (0 : Int32)), .val (.int bq), .val (.ref b299), .val (.ref b311), .unset, .unset, .unset, .unset] [(.double (if bR.toInt64 = 0 ∨ bR.toInt64 < rr.toInt64 then (9218868437227405312 : UInt64) else FP.dadd (FP.l2d tT.toInt64) (FP.ddiv (FP.l2d bq.toInt64) (FP.l2d bR.toInt64))))]))
        obtain ⟨bd, hbd⟩ : ∃ q : UInt64, q = (if bR.toInt64 = 0 ∨ bR.toInt64 < rr.toInt64 then (9218868437227405312 : UInt64) else FP.dadd (FP.l2d tT.toInt64) (FP.ddiv (FP.l2d bq.toInt64) (FP.l2d bR.toInt64))) := ⟨_, rfl⟩
        rw [← hbd]
        show own_Fin p e below _ (T331.setTop (mkF m 158 #[.val (.int p1), .val (.int p2), .val (.int p3), .val (.int p4), .val (.int p5), .val (.int p6), .val (.int bR), .val (.int (((p2.toUInt32 >>> ((2 : Int32) &&& 31).toUInt32).toInt32) &&& (3 : Int32))), .val (.int rr), .val (.int tT), .val (.int kk), .val (.int (0 : Int32)), .val (.int bq), .val (.ref b299), .val (.ref b311), .unset, .unset, .unset, .unset] [(.double bd)]))
        refine own_on (fun tq => XS.dstore X331.here hx rfl (hb hby at_158) rfl (l' := #[.val (.int p1), .val (.int p2), .val (.int p3), .val (.int p4), .val (.int p5), .val (.int p6), .val (.int bR), .val (.int (((p2.toUInt32 >>> ((2 : Int32) &&& 31).toUInt32).toInt32) &&& (3 : Int32))), .val (.int rr), .val (.int tT), .val (.int kk), .val (.int (0 : Int32)), .val (.int bq), .val (.ref b299), .val (.ref b311), .val (.double bd), .second, .unset, .unset]) rfl) ?_
        show own_Fin p e below _ (T331.setTop (mkF m 160 #[.val (.int p1), .val (.int p2), .val (.int p3), .val (.int p4), .val (.int p5), .val (.int p6), .val (.int bR), .val (.int (((p2.toUInt32 >>> ((2 : Int32) &&& 31).toUInt32).toInt32) &&& (3 : Int32))), .val (.int rr), .val (.int tT), .val (.int kk), .val (.int (0 : Int32)), .val (.int bq), .val (.ref b299), .val (.ref b311), .val (.double bd), .second, .unset, .unset] []))
        refine own_on (fun tq => XS.iload X331.here hx rfl (hb hby at_160) rfl) ?_
        show own_Fin p e below _ (T331.setTop (mkF m 162 #[.val (.int p1), .val (.int p2), .val (.int p3), .val (.int p4), .val (.int p5), .val (.int p6), .val (.int bR), .val (.int (((p2.toUInt32 >>> ((2 : Int32) &&& 31).toUInt32).toInt32) &&& (3 : Int32))), .val (.int rr), .val (.int tT), .val (.int kk), .val (.int (0 : Int32)), .val (.int bq), .val (.ref b299), .val (.ref b311), .val (.double bd), .second, .unset, .unset] [(.int bR)]))
        refine own_on (fun tq => XS.ifYes X331.here hx rfl (pc0 := 162) (pc' := 172) rfl (hb hby at_162) rfl ((if0 _ _).trans (teq hc298).1) (by decide) (by decide)) ?_
        show own_Fin p e below _ (T331.setTop (mkF m 172 #[.val (.int p1), .val (.int p2), .val (.int p3), .val (.int p4), .val (.int p5), .val (.int p6), .val (.int bR), .val (.int (((p2.toUInt32 >>> ((2 : Int32) &&& 31).toUInt32).toInt32) &&& (3 : Int32))), .val (.int rr), .val (.int tT), .val (.int kk), .val (.int (0 : Int32)), .val (.int bq), .val (.ref b299), .val (.ref b311), .val (.double bd), .second, .unset, .unset] []))
        refine own_on (fun tq => XS.dload X331.here hx rfl (hb hby at_172) rfl) ?_
        show own_Fin p e below _ (T331.setTop (mkF m 174 #[.val (.int p1), .val (.int p2), .val (.int p3), .val (.int p4), .val (.int p5), .val (.int p6), .val (.int bR), .val (.int (((p2.toUInt32 >>> ((2 : Int32) &&& 31).toUInt32).toInt32) &&& (3 : Int32))), .val (.int rr), .val (.int tT), .val (.int kk), .val (.int (0 : Int32)), .val (.int bq), .val (.ref b299), .val (.ref b311), .val (.double bd), .second, .unset, .unset] [(.double bd)]))
        refine own_on (fun tq => X331.ldc2DoubleC hx hown321 (mvT hZ321 (hw _ (List.mem_of_getElem? (i := 62) rfl))) (g := (mkF m 174 #[.val (.int p1), .val (.int p2), .val (.int p3), .val (.int p4), .val (.int p5), .val (.int p6), .val (.int bR), .val (.int (((p2.toUInt32 >>> ((2 : Int32) &&& 31).toUInt32).toInt32) &&& (3 : Int32))), .val (.int rr), .val (.int tT), .val (.int kk), .val (.int (0 : Int32)), .val (.int bq), .val (.ref b299), .val (.ref b311), .val (.double bd), .second, .unset, .unset] [(.double bd)])) rfl (hb hby at_174) tq) ?_
        show own_Fin p e below _ (T331.setTop (mkF m 177 #[.val (.int p1), .val (.int p2), .val (.int p3), .val (.int p4), .val (.int p5), .val (.int p6), .val (.int bR), .val (.int (((p2.toUInt32 >>> ((2 : Int32) &&& 31).toUInt32).toInt32) &&& (3 : Int32))), .val (.int rr), .val (.int tT), .val (.int kk), .val (.int (0 : Int32)), .val (.int bq), .val (.ref b299), .val (.ref b311), .val (.double bd), .second, .unset, .unset] [(.double (9218868437227405312 : UInt64)), (.double bd)]))
        refine own_on (fun tq => XS.dcmpS X331.here hx rfl (hb hby at_177) rfl (own_pinf (hbd.trans (if_pos (Or.inl (own_z0 hc298)))))) ?_
        show own_Fin p e below _ (T331.setTop (mkF m 178 #[.val (.int p1), .val (.int p2), .val (.int p3), .val (.int p4), .val (.int p5), .val (.int p6), .val (.int bR), .val (.int (((p2.toUInt32 >>> ((2 : Int32) &&& 31).toUInt32).toInt32) &&& (3 : Int32))), .val (.int rr), .val (.int tT), .val (.int kk), .val (.int (0 : Int32)), .val (.int bq), .val (.ref b299), .val (.ref b311), .val (.double bd), .second, .unset, .unset] [(.int (0 : Int32))]))
        refine own_on (fun tq => XS.ifNo X331.here hx rfl (hb hby at_178) rfl ((if0 _ _).trans (teq (by decide : (0 : Int32) = (0 : Int32))).2)) ?_
        show own_Fin p e below _ (T331.setTop (mkF m 181 #[.val (.int p1), .val (.int p2), .val (.int p3), .val (.int p4), .val (.int p5), .val (.int p6), .val (.int bR), .val (.int (((p2.toUInt32 >>> ((2 : Int32) &&& 31).toUInt32).toInt32) &&& (3 : Int32))), .val (.int rr), .val (.int tT), .val (.int kk), .val (.int (0 : Int32)), .val (.int bq), .val (.ref b299), .val (.ref b311), .val (.double bd), .second, .unset, .unset] []))
        refine own_on (fun tq => XS.iconst X331.here hx rfl (hb hby at_181)) ?_
        show own_Fin p e below _ (T331.setTop (mkF m 182 #[.val (.int p1), .val (.int p2), .val (.int p3), .val (.int p4), .val (.int p5), .val (.int p6), .val (.int bR), .val (.int (((p2.toUInt32 >>> ((2 : Int32) &&& 31).toUInt32).toInt32) &&& (3 : Int32))), .val (.int rr), .val (.int tT), .val (.int kk), .val (.int (0 : Int32)), .val (.int bq), .val (.ref b299), .val (.ref b311), .val (.double bd), .second, .unset, .unset] [(.int (1 : Int32))]))
        refine own_on (fun tq => XS.goto X331.here hx rfl (pc0 := 182) (pc' := 186) rfl (hb hby at_182) (by decide) (by decide)) ?_
        show own_Fin p e below _ (T331.setTop (mkF m 186 #[.val (.int p1), .val (.int p2), .val (.int p3), .val (.int p4), .val (.int p5), .val (.int p6), .val (.int bR), .val (.int (((p2.toUInt32 >>> ((2 : Int32) &&& 31).toUInt32).toInt32) &&& (3 : Int32))), .val (.int rr), .val (.int tT), .val (.int kk), .val (.int (0 : Int32)), .val (.int bq), .val (.ref b299), .val (.ref b311), .val (.double bd), .second, .unset, .unset] [(.int (1 : Int32))]))
        exact own_retW (t := .boolean) X331 (Z := Z) (EL := own_EL) (a0 := a0) hx hlk hret rfl (Or.inl ⟨rfl, (by simp), _, rfl⟩) (hb hby at_186) hS321 (by rw [e331]; exact y323) hZ321 hEL (by rw [hh, e331]; exact y322) (⟨rfl, N331⟩) (by decide) (by decide)
      · refine own_on (fun tq => XS.ifYes X0.here hx rfl (pc0 := 81) (pc' := 88) rfl (hb hby at_81) rfl ((if0 _ _).trans (feq hc298).2) (by decide) (by decide)) ?_
        show own_Fin p e below _ (s₁.setTop (mkF m 88 #[.val (.int p1), .val (.int p2), .val (.int p3), .val (.int p4), .val (.int p5), .val (.int p6), .val (.int bR), .val (.int (((p2.toUInt32 >>> ((2 : Int32) &&& 31).toUInt32).toInt32) &&& (3 : Int32))), .val (.int rr), .val (.int tT), .val (.int kk), .unset, .unset, .unset, .unset, .unset, .unset, .unset, .unset] []))
        refine own_on (fun tq => XS.iload X0.here hx rfl (hb hby at_88) rfl) ?_
        show own_Fin p e below _ (s₁.setTop (mkF m 90 #[.val (.int p1), .val (.int p2), .val (.int p3), .val (.int p4), .val (.int p5), .val (.int p6), .val (.int bR), .val (.int (((p2.toUInt32 >>> ((2 : Int32) &&& 31).toUInt32).toInt32) &&& (3 : Int32))), .val (.int rr), .val (.int tT), .val (.int kk), .unset, .unset, .unset, .unset, .unset, .unset, .unset, .unset] [(.int p6)]))
        refine own_on (fun tq => X0.ldcInt hx hown (mvT hZ (hw _ (List.mem_of_getElem? (i := 1) rfl))) (g := (mkF m 90 #[.val (.int p1), .val (.int p2), .val (.int p3), .val (.int p4), .val (.int p5), .val (.int p6), .val (.int bR), .val (.int (((p2.toUInt32 >>> ((2 : Int32) &&& 31).toUInt32).toInt32) &&& (3 : Int32))), .val (.int rr), .val (.int tT), .val (.int kk), .unset, .unset, .unset, .unset, .unset, .unset, .unset, .unset] [(.int p6)])) rfl (hb hby at_90) tq) ?_
        show own_Fin p e below _ (s₁.setTop (mkF m 92 #[.val (.int p1), .val (.int p2), .val (.int p3), .val (.int p4), .val (.int p5), .val (.int p6), .val (.int bR), .val (.int (((p2.toUInt32 >>> ((2 : Int32) &&& 31).toUInt32).toInt32) &&& (3 : Int32))), .val (.int rr), .val (.int tT), .val (.int kk), .unset, .unset, .unset, .unset, .unset, .unset, .unset, .unset] [(.int (2147483647 : Int32)), (.int p6)]))
        refine own_on (fun tq => XS.iand X0.here hx rfl (hb hby at_92) rfl) ?_
        show own_Fin p e below _ (s₁.setTop (mkF m 93 #[.val (.int p1), .val (.int p2), .val (.int p3), .val (.int p4), .val (.int p5), .val (.int p6), .val (.int bR), .val (.int (((p2.toUInt32 >>> ((2 : Int32) &&& 31).toUInt32).toInt32) &&& (3 : Int32))), .val (.int rr), .val (.int tT), .val (.int kk), .unset, .unset, .unset, .unset, .unset, .unset, .unset, .unset] [(.int (p6 &&& (2147483647 : Int32)))]))
        refine own_on (fun tq => XS.iload X0.here hx rfl (hb hby at_93) rfl) ?_
        show own_Fin p e below _ (s₁.setTop (mkF m 95 #[.val (.int p1), .val (.int p2), .val (.int p3), .val (.int p4), .val (.int p5), .val (.int p6), .val (.int bR), .val (.int (((p2.toUInt32 >>> ((2 : Int32) &&& 31).toUInt32).toInt32) &&& (3 : Int32))), .val (.int rr), .val (.int tT), .val (.int kk), .unset, .unset, .unset, .unset, .unset, .unset, .unset, .unset] [(.int bR), (.int (p6 &&& (2147483647 : Int32)))]))
        refine own_on (fun tq => iremM X0 hx rfl (hb hby at_95) rfl hc298) ?_
        show own_Fin p e below _ (s₁.setTop (mkF m 96 #[.val (.int p1), .val (.int p2), .val (.int p3), .val (.int p4), .val (.int p5), .val (.int p6), .val (.int bR), .val (.int (((p2.toUInt32 >>> ((2 : Int32) &&& 31).toUInt32).toInt32) &&& (3 : Int32))), .val (.int rr), .val (.int tT), .val (.int kk), .unset, .unset, .unset, .unset, .unset, .unset, .unset, .unset] [(.int ((p6 &&& (2147483647 : Int32)) % bR))]))
        refine own_on (fun tq => XS.istore X0.here hx rfl (hb hby at_96) rfl (l' := #[.val (.int p1), .val (.int p2), .val (.int p3), .val (.int p4), .val (.int p5), .val (.int p6), .val (.int bR), .val (.int (((p2.toUInt32 >>> ((2 : Int32) &&& 31).toUInt32).toInt32) &&& (3 : Int32))), .val (.int rr), .val (.int tT), .val (.int kk), .val (.int ((p6 &&& (2147483647 : Int32)) % bR)), .unset, .unset, .unset, .unset, .unset, .unset, .unset]) rfl) ?_
        show own_Fin p e below _ (s₁.setTop (mkF m 98 #[.val (.int p1), .val (.int p2), .val (.int p3), .val (.int p4), .val (.int p5), .val (.int p6), .val (.int bR), .val (.int (((p2.toUInt32 >>> ((2 : Int32) &&& 31).toUInt32).toInt32) &&& (3 : Int32))), .val (.int rr), .val (.int tT), .val (.int kk), .val (.int ((p6 &&& (2147483647 : Int32)) % bR)), .unset, .unset, .unset, .unset, .unset, .unset, .unset] []))
        obtain ⟨mq, hmq⟩ : ∃ q : Int32, q = ((p6 &&& (2147483647 : Int32)) % bR) := ⟨_, rfl⟩
        have rm : 0 ≤ mq.toInt ∧ mq.toInt < bR.toInt := hmq ▸ own_rm rR hc298
        rw [← hmq]
        show own_Fin p e below _ (s₁.setTop (mkF m 98 #[.val (.int p1), .val (.int p2), .val (.int p3), .val (.int p4), .val (.int p5), .val (.int p6), .val (.int bR), .val (.int (((p2.toUInt32 >>> ((2 : Int32) &&& 31).toUInt32).toInt32) &&& (3 : Int32))), .val (.int rr), .val (.int tT), .val (.int kk), .val (.int mq), .unset, .unset, .unset, .unset, .unset, .unset, .unset] []))
        refine own_on (fun tq => XS.iload X0.here hx rfl (hb hby at_98) rfl) ?_
        show own_Fin p e below _ (s₁.setTop (mkF m 100 #[.val (.int p1), .val (.int p2), .val (.int p3), .val (.int p4), .val (.int p5), .val (.int p6), .val (.int bR), .val (.int (((p2.toUInt32 >>> ((2 : Int32) &&& 31).toUInt32).toInt32) &&& (3 : Int32))), .val (.int rr), .val (.int tT), .val (.int kk), .val (.int mq), .unset, .unset, .unset, .unset, .unset, .unset, .unset] [(.int bR)]))
        refine own_on (fun tq => XS.ifYes X0.here hx rfl (pc0 := 100) (pc' := 111) rfl (hb hby at_100) rfl ((if0 _ _).trans (feq hc298).2) (by decide) (by decide)) ?_
        show own_Fin p e below _ (s₁.setTop (mkF m 111 #[.val (.int p1), .val (.int p2), .val (.int p3), .val (.int p4), .val (.int p5), .val (.int p6), .val (.int bR), .val (.int (((p2.toUInt32 >>> ((2 : Int32) &&& 31).toUInt32).toInt32) &&& (3 : Int32))), .val (.int rr), .val (.int tT), .val (.int kk), .val (.int mq), .unset, .unset, .unset, .unset, .unset, .unset, .unset] []))
        refine own_on (fun tq => XS.iload X0.here hx rfl (hb hby at_111) rfl) ?_
        show own_Fin p e below _ (s₁.setTop (mkF m 113 #[.val (.int p1), .val (.int p2), .val (.int p3), .val (.int p4), .val (.int p5), .val (.int p6), .val (.int bR), .val (.int (((p2.toUInt32 >>> ((2 : Int32) &&& 31).toUInt32).toInt32) &&& (3 : Int32))), .val (.int rr), .val (.int tT), .val (.int kk), .val (.int mq), .unset, .unset, .unset, .unset, .unset, .unset, .unset] [(.int bR)]))
        refine own_on (fun tq => XS.iload X0.here hx rfl (hb hby at_113) rfl) ?_
        show own_Fin p e below _ (s₁.setTop (mkF m 115 #[.val (.int p1), .val (.int p2), .val (.int p3), .val (.int p4), .val (.int p5), .val (.int p6), .val (.int bR), .val (.int (((p2.toUInt32 >>> ((2 : Int32) &&& 31).toUInt32).toInt32) &&& (3 : Int32))), .val (.int rr), .val (.int tT), .val (.int kk), .val (.int mq), .unset, .unset, .unset, .unset, .unset, .unset, .unset] [(.int kk), (.int bR)]))
        refine own_on (fun tq => XS.imul X0.here hx rfl (hb hby at_115) rfl) ?_
        show own_Fin p e below _ (s₁.setTop (mkF m 116 #[.val (.int p1), .val (.int p2), .val (.int p3), .val (.int p4), .val (.int p5), .val (.int p6), .val (.int bR), .val (.int (((p2.toUInt32 >>> ((2 : Int32) &&& 31).toUInt32).toInt32) &&& (3 : Int32))), .val (.int rr), .val (.int tT), .val (.int kk), .val (.int mq), .unset, .unset, .unset, .unset, .unset, .unset, .unset] [(.int (bR * kk))]))
        refine own_on (fun tq => XS.iload X0.here hx rfl (hb hby at_116) rfl) ?_
        show own_Fin p e below _ (s₁.setTop (mkF m 118 #[.val (.int p1), .val (.int p2), .val (.int p3), .val (.int p4), .val (.int p5), .val (.int p6), .val (.int bR), .val (.int (((p2.toUInt32 >>> ((2 : Int32) &&& 31).toUInt32).toInt32) &&& (3 : Int32))), .val (.int rr), .val (.int tT), .val (.int kk), .val (.int mq), .unset, .unset, .unset, .unset, .unset, .unset, .unset] [(.int mq), (.int (bR * kk))]))
        refine own_on (fun tq => XS.iadd X0.here hx rfl (hb hby at_118) rfl) ?_
        show own_Fin p e below _ (s₁.setTop (mkF m 119 #[.val (.int p1), .val (.int p2), .val (.int p3), .val (.int p4), .val (.int p5), .val (.int p6), .val (.int bR), .val (.int (((p2.toUInt32 >>> ((2 : Int32) &&& 31).toUInt32).toInt32) &&& (3 : Int32))), .val (.int rr), .val (.int tT), .val (.int kk), .val (.int mq), .unset, .unset, .unset, .unset, .unset, .unset, .unset] [(.int ((bR * kk) + mq))]))
        refine own_on (fun tq => XS.istore X0.here hx rfl (hb hby at_119) rfl (l' := #[.val (.int p1), .val (.int p2), .val (.int p3), .val (.int p4), .val (.int p5), .val (.int p6), .val (.int bR), .val (.int (((p2.toUInt32 >>> ((2 : Int32) &&& 31).toUInt32).toInt32) &&& (3 : Int32))), .val (.int rr), .val (.int tT), .val (.int kk), .val (.int mq), .val (.int ((bR * kk) + mq)), .unset, .unset, .unset, .unset, .unset, .unset]) rfl) ?_
        show own_Fin p e below _ (s₁.setTop (mkF m 121 #[.val (.int p1), .val (.int p2), .val (.int p3), .val (.int p4), .val (.int p5), .val (.int p6), .val (.int bR), .val (.int (((p2.toUInt32 >>> ((2 : Int32) &&& 31).toUInt32).toInt32) &&& (3 : Int32))), .val (.int rr), .val (.int tT), .val (.int kk), .val (.int mq), .val (.int ((bR * kk) + mq)), .unset, .unset, .unset, .unset, .unset, .unset] []))
        obtain ⟨bq, hbq⟩ : ∃ q : Int32, q = ((bR * kk) + mq) := ⟨_, rfl⟩
        have hbb : bq.toInt = bR.toInt * kk.toInt + mq.toInt ∧ 0 ≤ bq.toInt := hbq ▸ own_rb rR rk rm
        rw [← hbq]
        show own_Fin p e below _ (s₁.setTop (mkF m 121 #[.val (.int p1), .val (.int p2), .val (.int p3), .val (.int p4), .val (.int p5), .val (.int p6), .val (.int bR), .val (.int (((p2.toUInt32 >>> ((2 : Int32) &&& 31).toUInt32).toInt32) &&& (3 : Int32))), .val (.int rr), .val (.int tT), .val (.int kk), .val (.int mq), .val (.int bq), .unset, .unset, .unset, .unset, .unset, .unset] []))
        obtain ⟨T332, h332, X332, e332, E332, A332, D332, -, st332⟩ := newO X0 hx hZ hown (hw _ (List.mem_of_getElem? (i := 2) rfl)) (hw _ (List.mem_of_getElem? (i := 3) rfl)) (hw _ (List.mem_of_getElem? (i := 4) rfl)) e0 (g := (mkF m 121 #[.val (.int p1), .val (.int p2), .val (.int p3), .val (.int p4), .val (.int p5), .val (.int p6), .val (.int bR), .val (.int (((p2.toUInt32 >>> ((2 : Int32) &&& 31).toUInt32).toInt32) &&& (3 : Int32))), .val (.int rr), .val (.int tT), .val (.int kk), .val (.int mq), .val (.int bq), .unset, .unset, .unset, .unset, .unset, .unset] [])) rfl (hb hby at_121) (by decide) (by decide)
        obtain ⟨b332, g332⟩ : ∃ z, z = h0.size := ⟨_, rfl⟩
        rw [← g332] at A332 D332 st332
        have y333 := (CHv.ext E332 CH0)
        have y334 := (CHr.trans (CHr.refl CH0) (CHr.ext E332 CH0))
        have y335 := (Nat.le_trans (Nat.zero_le _) E332.1)
        have y336 := (Nat.le_trans Z0 E332.1)
        have y337 := (Safe.ext E332 CH0 (Safe.new (Nat.le_of_eq g332.symm)))
        have gn332 : n0 ≤ b332 := Nat.le_trans Z0 (Nat.le_of_eq g332.symm)
        have F332_rate : Fld Z h332 b332 "com/example/curves_to_bounds/curvestobounds/curve/RateLatency" "rate" "D" (.double (0 : UInt64)) := D332 (Or.inr (hw _ (List.mem_of_getElem? (i := 39) rfl))) (ty := .double) (by decide)
        have F332_latency : Fld Z h332 b332 "com/example/curves_to_bounds/curvestobounds/curve/RateLatency" "latency" "D" (.double (0 : UInt64)) := D332 (Or.inr (hw _ (List.mem_of_getElem? (i := 41) rfl))) (ty := .double) (by decide)
        refine own_on st332 ?_
        show own_Fin p e below _ (T332.setTop (mkF m 124 #[.val (.int p1), .val (.int p2), .val (.int p3), .val (.int p4), .val (.int p5), .val (.int p6), .val (.int bR), .val (.int (((p2.toUInt32 >>> ((2 : Int32) &&& 31).toUInt32).toInt32) &&& (3 : Int32))), .val (.int rr), .val (.int tT), .val (.int kk), .val (.int mq), .val (.int bq), .unset, .unset, .unset, .unset, .unset, .unset] [(.ref b332)]))
        refine own_on (fun tq => XS.dup X332.here hx rfl (hb hby at_124) rfl rfl) ?_
        show own_Fin p e below _ (T332.setTop (mkF m 125 #[.val (.int p1), .val (.int p2), .val (.int p3), .val (.int p4), .val (.int p5), .val (.int p6), .val (.int bR), .val (.int (((p2.toUInt32 >>> ((2 : Int32) &&& 31).toUInt32).toInt32) &&& (3 : Int32))), .val (.int rr), .val (.int tT), .val (.int kk), .val (.int mq), .val (.int bq), .unset, .unset, .unset, .unset, .unset, .unset] [(.ref b332), (.ref b332)]))
        refine own_on (fun tq => XS.iload X332.here hx rfl (hb hby at_125) rfl) ?_
        show own_Fin p e below _ (T332.setTop (mkF m 127 #[.val (.int p1), .val (.int p2), .val (.int p3), .val (.int p4), .val (.int p5), .val (.int p6), .val (.int bR), .val (.int (((p2.toUInt32 >>> ((2 : Int32) &&& 31).toUInt32).toInt32) &&& (3 : Int32))), .val (.int rr), .val (.int tT), .val (.int kk), .val (.int mq), .val (.int bq), .unset, .unset, .unset, .unset, .unset, .unset] [(.int bR), (.ref b332), (.ref b332)]))
        refine own_on (fun tq => XS.i2dS X332.here hx rfl (hb hby at_127) rfl (i2d_w _)) ?_
        show own_Fin p e below _ (T332.setTop (mkF m 128 #[.val (.int p1), .val (.int p2), .val (.int p3), .val (.int p4), .val (.int p5), .val (.int p6), .val (.int bR), .val (.int (((p2.toUInt32 >>> ((2 : Int32) &&& 31).toUInt32).toInt32) &&& (3 : Int32))), .val (.int rr), .val (.int tT), .val (.int kk), .val (.int mq), .val (.int bq), .unset, .unset, .unset, .unset, .unset, .unset] [(.double (FP.l2d bR.toInt64)), (.ref b332), (.ref b332)]))
        refine own_on (fun tq => XS.iload X332.here hx rfl (hb hby at_128) rfl) ?_
        show own_Fin p e below _ (T332.setTop (mkF m 130 #[.val (.int p1), .val (.int p2), .val (.int p3), .val (.int p4), .val (.int p5), .val (.int p6), .val (.int bR), .val (.int (((p2.toUInt32 >>> ((2 : Int32) &&& 31).toUInt32).toInt32) &&& (3 : Int32))), .val (.int rr), .val (.int tT), .val (.int kk), .val (.int mq), .val (.int bq), .unset, .unset, .unset, .unset, .unset, .unset] [(.int tT), (.double (FP.l2d bR.toInt64)), (.ref b332), (.ref b332)]))
        refine own_on (fun tq => XS.i2dS X332.here hx rfl (hb hby at_130) rfl (i2d_w _)) ?_
        show own_Fin p e below _ (T332.setTop (mkF m 131 #[.val (.int p1), .val (.int p2), .val (.int p3), .val (.int p4), .val (.int p5), .val (.int p6), .val (.int bR), .val (.int (((p2.toUInt32 >>> ((2 : Int32) &&& 31).toUInt32).toInt32) &&& (3 : Int32))), .val (.int rr), .val (.int tT), .val (.int kk), .val (.int mq), .val (.int bq), .unset, .unset, .unset, .unset, .unset, .unset] [(.double (FP.l2d tT.toInt64)), (.double (FP.l2d bR.toInt64)), (.ref b332), (.ref b332)]))
        obtain ⟨_, _, ⟨T338, L338, k338, n338⟩, -, X338', S338', gr338, ⟨Lc338, hQ338, l338, y338, z338, A338⟩, st338⟩ := X332.specialBackS hx (y := (⟨"com/example/curves_to_bounds/curvestobounds/curve/RateLatency", "<init>", "(DD)V"⟩ : MethodName)) rfl hown (mvT hZ (hw _ (List.mem_of_getElem? (i := 5) rfl))) (mvT hZ (hw _ (List.mem_of_getElem? (i := 6) rfl))) (mvT hZ (hw _ (List.mem_of_getElem? (i := 7) rfl))) (by decide) (backOfSH (s := s) (W := 1) (rm1 l Z a0 hw [] b332 (FP.l2d bR.toInt64) (FP.l2d tT.toInt64) h332 n0 (by exact y336) hEL (own_okI rR.1) (own_okI rT.1) A332 F332_rate F332_latency gn332) hZ (hw _ (List.mem_of_getElem? (i := 7) rfl)) (hw _ (List.mem_of_getElem? (i := 4) rfl)) (by decide) (by decide) hEL y333) (g := (mkF m 131 #[.val (.int p1), .val (.int p2), .val (.int p3), .val (.int p4), .val (.int p5), .val (.int p6), .val (.int bR), .val (.int (((p2.toUInt32 >>> ((2 : Int32) &&& 31).toUInt32).toInt32) &&& (3 : Int32))), .val (.int rr), .val (.int tT), .val (.int kk), .val (.int mq), .val (.int bq), .unset, .unset, .unset, .unset, .unset, .unset] [(.double (FP.l2d tT.toInt64)), (.double (FP.l2d bR.toInt64)), (.ref b332), (.ref b332)])) rfl (by rw [hml]; rfl) (Steps.refl _) (a := b332) (argsL := [(.double (FP.l2d bR.toInt64)), (.double (FP.l2d tT.toInt64))]) (rest := [(.ref b332)]) (lenOf pd_5 rfl) rfl (by show 2 * 0 + _ ≤ _; exact Nat.le_of_eq rfl) (hb hby at_131) (fun _ _ => ⟨rfl, e332, (by decide : 1 + 4 ≤ _), (by decide : 2 + 52 ≤ _)⟩)
        dsimp only [Pt.U, Pt.locs, Pt.cells, Pt.slots] at X338' S338' gr338 l338 y338 z338 st338 hQ338 A338
        subst l338 y338 z338
        obtain ⟨X338, hS338, hZ338, hown338⟩ := rebS hS0 (by first | exact y335 | (rw [e332]; exact y335)) X338' S338' gr338 hZ hown
        obtain ⟨rfl, N338q, K338, E338q, F338a, F338b⟩ := hQ338
        have N338 := Fr.app N0 N338q
        have y339 := (CHr.trans y334 A338)
        have y340 := (Nat.le_refl (Array.size T338.heap))
        have y341 := (Nat.le_trans y336 K338.1)
        have y342 := (CHr.safe A338 F332_latency.lt y337)
        have y343 := (A332.keep K338)
        refine own_via st338 ?_
        show own_Fin p e below _ (T338.setTop (mkF m 134 #[.val (.int p1), .val (.int p2), .val (.int p3), .val (.int p4), .val (.int p5), .val (.int p6), .val (.int bR), .val (.int (((p2.toUInt32 >>> ((2 : Int32) &&& 31).toUInt32).toInt32) &&& (3 : Int32))), .val (.int rr), .val (.int tT), .val (.int kk), .val (.int mq), .val (.int bq), .unset, .unset, .unset, .unset, .unset, .unset] [(.ref b332)]))
        refine own_on (fun tq => XS.astore X338.here hx rfl (hb hby at_134) rfl rfl (l' := #[.val (.int p1), .val (.int p2), .val (.int p3), .val (.int p4), .val (.int p5), .val (.int p6), .val (.int bR), .val (.int (((p2.toUInt32 >>> ((2 : Int32) &&& 31).toUInt32).toInt32) &&& (3 : Int32))), .val (.int rr), .val (.int tT), .val (.int kk), .val (.int mq), .val (.int bq), .val (.ref b332), .unset, .unset, .unset, .unset, .unset]) rfl) ?_
        show own_Fin p e below _ (T338.setTop (mkF m 136 #[.val (.int p1), .val (.int p2), .val (.int p3), .val (.int p4), .val (.int p5), .val (.int p6), .val (.int bR), .val (.int (((p2.toUInt32 >>> ((2 : Int32) &&& 31).toUInt32).toInt32) &&& (3 : Int32))), .val (.int rr), .val (.int tT), .val (.int kk), .val (.int mq), .val (.int bq), .val (.ref b332), .unset, .unset, .unset, .unset, .unset] []))
        obtain ⟨T344, h344, X344, e344, E344, A344, D344, -, st344⟩ := newO X338 hx hZ338 hown338 (hw _ (List.mem_of_getElem? (i := 42) rfl)) (hw _ (List.mem_of_getElem? (i := 43) rfl)) (hw _ (List.mem_of_getElem? (i := 44) rfl)) rfl (g := (mkF m 136 #[.val (.int p1), .val (.int p2), .val (.int p3), .val (.int p4), .val (.int p5), .val (.int p6), .val (.int bR), .val (.int (((p2.toUInt32 >>> ((2 : Int32) &&& 31).toUInt32).toInt32) &&& (3 : Int32))), .val (.int rr), .val (.int tT), .val (.int kk), .val (.int mq), .val (.int bq), .val (.ref b332), .unset, .unset, .unset, .unset, .unset] [])) rfl (hb hby at_136) (by decide) (by decide)
        obtain ⟨b344, g344⟩ : ∃ z, z = T338.heap.size := ⟨_, rfl⟩
        rw [← g344] at A344 D344 st344
        have ne344_b332 : b332 ≠ b344 := own_ne_of (Z := Z) E338q.lt g344
        have y345 := (CHv.ext E344 A338.1)
        have y346 := (CHr.trans y339 (CHr.ext E344 A338.1))
        have y347 := (Nat.le_trans y340 E344.1)
        have y348 := (Nat.le_trans y341 E344.1)
        have y349 := (Safe.ext E344 A338.1 y342)
        have y350 := (E338q.ext E344)
        have y351 := (F338a.ext E344)
        have y352 := (F338b.ext E344)
        have y353 := (Safe.ext E344 A338.1 (Safe.new (Nat.le_of_eq g344.symm)))
        have gn344 : n0 ≤ b344 := Nat.le_trans y341 (Nat.le_of_eq g344.symm)
        have F344_rate : Fld Z h344 b344 "com/example/curves_to_bounds/curvestobounds/curve/TokenBucket" "rate" "D" (.double (0 : UInt64)) := D344 (Or.inr (hw _ (List.mem_of_getElem? (i := 53) rfl))) (ty := .double) (by decide)
        have F344_burst : Fld Z h344 b344 "com/example/curves_to_bounds/curvestobounds/curve/TokenBucket" "burst" "D" (.double (0 : UInt64)) := D344 (Or.inr (hw _ (List.mem_of_getElem? (i := 55) rfl))) (ty := .double) (by decide)
        refine own_on st344 ?_
        show own_Fin p e below _ (T344.setTop (mkF m 139 #[.val (.int p1), .val (.int p2), .val (.int p3), .val (.int p4), .val (.int p5), .val (.int p6), .val (.int bR), .val (.int (((p2.toUInt32 >>> ((2 : Int32) &&& 31).toUInt32).toInt32) &&& (3 : Int32))), .val (.int rr), .val (.int tT), .val (.int kk), .val (.int mq), .val (.int bq), .val (.ref b332), .unset, .unset, .unset, .unset, .unset] [(.ref b344)]))
        refine own_on (fun tq => XS.dup X344.here hx rfl (hb hby at_139) rfl rfl) ?_
        show own_Fin p e below _ (T344.setTop (mkF m 140 #[.val (.int p1), .val (.int p2), .val (.int p3), .val (.int p4), .val (.int p5), .val (.int p6), .val (.int bR), .val (.int (((p2.toUInt32 >>> ((2 : Int32) &&& 31).toUInt32).toInt32) &&& (3 : Int32))), .val (.int rr), .val (.int tT), .val (.int kk), .val (.int mq), .val (.int bq), .val (.ref b332), .unset, .unset, .unset, .unset, .unset] [(.ref b344), (.ref b344)]))
        refine own_on (fun tq => XS.iload X344.here hx rfl (hb hby at_140) rfl) ?_
        show own_Fin p e below _ (T344.setTop (mkF m 142 #[.val (.int p1), .val (.int p2), .val (.int p3), .val (.int p4), .val (.int p5), .val (.int p6), .val (.int bR), .val (.int (((p2.toUInt32 >>> ((2 : Int32) &&& 31).toUInt32).toInt32) &&& (3 : Int32))), .val (.int rr), .val (.int tT), .val (.int kk), .val (.int mq), .val (.int bq), .val (.ref b332), .unset, .unset, .unset, .unset, .unset] [(.int rr), (.ref b344), (.ref b344)]))
        refine own_on (fun tq => XS.i2dS X344.here hx rfl (hb hby at_142) rfl (i2d_w _)) ?_
        show own_Fin p e below _ (T344.setTop (mkF m 143 #[.val (.int p1), .val (.int p2), .val (.int p3), .val (.int p4), .val (.int p5), .val (.int p6), .val (.int bR), .val (.int (((p2.toUInt32 >>> ((2 : Int32) &&& 31).toUInt32).toInt32) &&& (3 : Int32))), .val (.int rr), .val (.int tT), .val (.int kk), .val (.int mq), .val (.int bq), .val (.ref b332), .unset, .unset, .unset, .unset, .unset] [(.double (FP.l2d rr.toInt64)), (.ref b344), (.ref b344)]))
        refine own_on (fun tq => XS.iload X344.here hx rfl (hb hby at_143) rfl) ?_
        show own_Fin p e below _ (T344.setTop (mkF m 145 #[.val (.int p1), .val (.int p2), .val (.int p3), .val (.int p4), .val (.int p5), .val (.int p6), .val (.int bR), .val (.int (((p2.toUInt32 >>> ((2 : Int32) &&& 31).toUInt32).toInt32) &&& (3 : Int32))), .val (.int rr), .val (.int tT), .val (.int kk), .val (.int mq), .val (.int bq), .val (.ref b332), .unset, .unset, .unset, .unset, .unset] [(.int bq), (.double (FP.l2d rr.toInt64)), (.ref b344), (.ref b344)]))
        refine own_on (fun tq => XS.i2dS X344.here hx rfl (hb hby at_145) rfl (i2d_w _)) ?_
        show own_Fin p e below _ (T344.setTop (mkF m 146 #[.val (.int p1), .val (.int p2), .val (.int p3), .val (.int p4), .val (.int p5), .val (.int p6), .val (.int bR), .val (.int (((p2.toUInt32 >>> ((2 : Int32) &&& 31).toUInt32).toInt32) &&& (3 : Int32))), .val (.int rr), .val (.int tT), .val (.int kk), .val (.int mq), .val (.int bq), .val (.ref b332), .unset, .unset, .unset, .unset, .unset] [(.double (FP.l2d bq.toInt64)), (.double (FP.l2d rr.toInt64)), (.ref b344), (.ref b344)]))
        obtain ⟨_, _, ⟨T354, L354, k354, n354⟩, -, X354', S354', gr354, ⟨Lc354, hQ354, l354, y354, z354, A354⟩, st354⟩ := X344.specialBackS hx (y := (⟨"com/example/curves_to_bounds/curvestobounds/curve/TokenBucket", "<init>", "(DD)V"⟩ : MethodName)) rfl hown338 (mvT hZ338 (hw _ (List.mem_of_getElem? (i := 45) rfl))) (mvT hZ338 (hw _ (List.mem_of_getElem? (i := 46) rfl))) (mvT hZ338 (hw _ (List.mem_of_getElem? (i := 47) rfl))) (by decide) (backOfSH (s := s) (W := 1) (rm7 l Z a0 hw [] b344 (FP.l2d rr.toInt64) (FP.l2d bq.toInt64) h344 n0 (by exact y348) hEL (own_okI r0) (own_okI hbb.2) A344 F344_rate F344_burst gn344) hZ338 (hw _ (List.mem_of_getElem? (i := 47) rfl)) (hw _ (List.mem_of_getElem? (i := 44) rfl)) (by decide) (by decide) hEL y345) (g := (mkF m 146 #[.val (.int p1), .val (.int p2), .val (.int p3), .val (.int p4), .val (.int p5), .val (.int p6), .val (.int bR), .val (.int (((p2.toUInt32 >>> ((2 : Int32) &&& 31).toUInt32).toInt32) &&& (3 : Int32))), .val (.int rr), .val (.int tT), .val (.int kk), .val (.int mq), .val (.int bq), .val (.ref b332), .unset, .unset, .unset, .unset, .unset] [(.double (FP.l2d bq.toInt64)), (.double (FP.l2d rr.toInt64)), (.ref b344), (.ref b344)])) rfl (by rw [hml]; rfl) (Steps.refl _) (a := b344) (argsL := [(.double (FP.l2d rr.toInt64)), (.double (FP.l2d bq.toInt64))]) (rest := [(.ref b344)]) (lenOf pd_5 rfl) rfl (by show 2 * 0 + _ ≤ _; exact Nat.le_of_eq rfl) (hb hby at_146) (fun _ _ => ⟨rfl, e344, (by decide : 6 + 4 ≤ _), (by decide : 56 + 44 ≤ _)⟩)
        dsimp only [Pt.U, Pt.locs, Pt.cells, Pt.slots] at X354' S354' gr354 l354 y354 z354 st354 hQ354 A354
        subst l354 y354 z354
        obtain ⟨X354, hS354, hZ354, hown354⟩ := rebS hS338 (by first | exact y347 | (rw [e344]; exact y347)) X354' S354' gr354 hZ338 hown338
        obtain ⟨rfl, N354q, K354, E354q, F354a, F354b⟩ := hQ354
        have N354 := Fr.app N338 N354q
        have y355 := (CHr.trans y346 A354)
        have y356 := (Nat.le_refl (Array.size T354.heap))
        have y357 := (Nat.le_trans y348 K354.1)
        have y358 := (CHr.safe A354 y352.lt y349)
        have y359 := (y350.keep K354)
        have y360 := (y351.keep K354 (ninS ne344_b332 nin0))
        have y361 := (y352.keep K354 (ninS ne344_b332 nin0))
        have y362 := (CHr.safe A354 F344_burst.lt y353)
        have y363 := (A344.keep K354)
        refine own_via st354 ?_
        show own_Fin p e below _ (T354.setTop (mkF m 149 #[.val (.int p1), .val (.int p2), .val (.int p3), .val (.int p4), .val (.int p5), .val (.int p6), .val (.int bR), .val (.int (((p2.toUInt32 >>> ((2 : Int32) &&& 31).toUInt32).toInt32) &&& (3 : Int32))), .val (.int rr), .val (.int tT), .val (.int kk), .val (.int mq), .val (.int bq), .val (.ref b332), .unset, .unset, .unset, .unset, .unset] [(.ref b344)]))
        refine own_on (fun tq => XS.astore X354.here hx rfl (hb hby at_149) rfl rfl (l' := #[.val (.int p1), .val (.int p2), .val (.int p3), .val (.int p4), .val (.int p5), .val (.int p6), .val (.int bR), .val (.int (((p2.toUInt32 >>> ((2 : Int32) &&& 31).toUInt32).toInt32) &&& (3 : Int32))), .val (.int rr), .val (.int tT), .val (.int kk), .val (.int mq), .val (.int bq), .val (.ref b332), .val (.ref b344), .unset, .unset, .unset, .unset]) rfl) ?_
        show own_Fin p e below _ (T354.setTop (mkF m 151 #[.val (.int p1), .val (.int p2), .val (.int p3), .val (.int p4), .val (.int p5), .val (.int p6), .val (.int bR), .val (.int (((p2.toUInt32 >>> ((2 : Int32) &&& 31).toUInt32).toInt32) &&& (3 : Int32))), .val (.int rr), .val (.int tT), .val (.int kk), .val (.int mq), .val (.int bq), .val (.ref b332), .val (.ref b344), .unset, .unset, .unset, .unset] []))
        refine own_on (fun tq => XS.aload X354.here hx rfl (hb hby at_151) rfl rfl) ?_
        show own_Fin p e below _ (T354.setTop (mkF m 153 #[.val (.int p1), .val (.int p2), .val (.int p3), .val (.int p4), .val (.int p5), .val (.int p6), .val (.int bR), .val (.int (((p2.toUInt32 >>> ((2 : Int32) &&& 31).toUInt32).toInt32) &&& (3 : Int32))), .val (.int rr), .val (.int tT), .val (.int kk), .val (.int mq), .val (.int bq), .val (.ref b332), .val (.ref b344), .unset, .unset, .unset, .unset] [(.ref b332)]))
        refine own_on (fun tq => XS.aload X354.here hx rfl (hb hby at_153) rfl rfl) ?_
        show own_Fin p e below _ (T354.setTop (mkF m 155 #[.val (.int p1), .val (.int p2), .val (.int p3), .val (.int p4), .val (.int p5), .val (.int p6), .val (.int bR), .val (.int (((p2.toUInt32 >>> ((2 : Int32) &&& 31).toUInt32).toInt32) &&& (3 : Int32))), .val (.int rr), .val (.int tT), .val (.int kk), .val (.int mq), .val (.int bq), .val (.ref b332), .val (.ref b344), .unset, .unset, .unset, .unset] [(.ref b344), (.ref b332)]))
        obtain ⟨cq364, kq364, q364a, q364b, q364c⟩ := isOf hZ354 rfl y359
        obtain ⟨_, _, ⟨T364, L364, k364, n364⟩, -, X364, ⟨Lc364, hQ364, l364, y364, z364⟩, st364⟩ := X354.virtualBack hx (y := (⟨"com/example/curves_to_bounds/curvestobounds/curve/RateLatency", "delayBound", "(Lcom/example/curves_to_bounds/curvestobounds/curve/TokenBucket;)D"⟩ : MethodName)) (z := (⟨"com/example/curves_to_bounds/curvestobounds/curve/RateLatency", "delayBound", "(Lcom/example/curves_to_bounds/curvestobounds/curve/TokenBucket;)D"⟩ : MethodName)) hown354 (mvT hZ354 (hw _ (List.mem_of_getElem? (i := 56) rfl))) (mvT hZ354 (hw _ (List.mem_of_getElem? (i := 57) rfl))) (notFace_of_selects (args := #[]) (mvT hZ354 (hw _ (List.mem_of_getElem? (i := 59) rfl)))) (mvT hZ354 (hw _ (List.mem_of_getElem? (i := 59) rfl))) (mvT hZ354 (hw _ (List.mem_of_getElem? (i := 58) rfl))) (by decide) (backOf (W := 0) (rm8 l Z a0 hw [] b332 b344 (bR.toInt64) (tT.toInt64) (rr.toInt64) (bq.toInt64) T354.heap n0 (by exact y357) y360 y361 F354a F354b E354q (own_b32 _) (own_b32 _) (fun _ => own_nn rR hc298 rT rk rm hbb.1)) hZ354 (hw _ (List.mem_of_getElem? (i := 60) rfl)) (hw _ (List.mem_of_getElem? (i := 4) rfl)) (by decide) (by decide)) q364a q364c (g := (mkF m 155 #[.val (.int p1), .val (.int p2), .val (.int p3), .val (.int p4), .val (.int p5), .val (.int p6), .val (.int bR), .val (.int (((p2.toUInt32 >>> ((2 : Int32) &&& 31).toUInt32).toInt32) &&& (3 : Int32))), .val (.int rr), .val (.int tT), .val (.int kk), .val (.int mq), .val (.int bq), .val (.ref b332), .val (.ref b344), .unset, .unset, .unset, .unset] [(.ref b344), (.ref b332)])) rfl (by rw [hml]; rfl) (Steps.refl _) (argsL := [(.ref b344)]) (rest := []) (lenOf pd_6 rfl) rfl (by show 2 * 0 + _ ≤ _; exact Nat.le_of_eq rfl) (hb hby at_155) (fun _ _ => ⟨rfl, rfl, (by decide : 10 + 0 ≤ _), (by decide : 100 + 0 ≤ _)⟩)
        dsimp only [Pt.U, Pt.locs, Pt.cells, Pt.slots] at X364 l364 y364 z364 st364 hQ364
        subst l364 y364 z364
        obtain ⟨rfl, N364q, e364⟩ := hQ364
        have N364 := Fr.app N354 N364q
        refine own_via st364 ?_
        show own_Fin p e below _ (T364.setTop (mkF m 158 #[.val (.int p1), .val (.int p2), .val (.int p3), .val (.int p4), .val (.int p5), .val (.int p6), .val (.int bR), .val (.int (((p2.toUInt32 >>> ((2 : Int32) &&& 31).toUInt32).toInt32) &&& (3 : Int32))), .val (.int rr), .val (.int tT), .val (.int kk), .val (.int mq), .val (.int bq), .val (.ref b332), .val (.ref b344), .unset, .unset, .unset, .unset] [(.double (if bR.toInt64 = 0 ∨ bR.toInt64 < rr.toInt64 then (9218868437227405312 : UInt64) else FP.dadd (FP.l2d tT.toInt64) (FP.ddiv (FP.l2d bq.toInt64) (FP.l2d bR.toInt64))))]))
        obtain ⟨bd, hbd⟩ : ∃ q : UInt64, q = (if bR.toInt64 = 0 ∨ bR.toInt64 < rr.toInt64 then (9218868437227405312 : UInt64) else FP.dadd (FP.l2d tT.toInt64) (FP.ddiv (FP.l2d bq.toInt64) (FP.l2d bR.toInt64))) := ⟨_, rfl⟩
        rw [← hbd]
        show own_Fin p e below _ (T364.setTop (mkF m 158 #[.val (.int p1), .val (.int p2), .val (.int p3), .val (.int p4), .val (.int p5), .val (.int p6), .val (.int bR), .val (.int (((p2.toUInt32 >>> ((2 : Int32) &&& 31).toUInt32).toInt32) &&& (3 : Int32))), .val (.int rr), .val (.int tT), .val (.int kk), .val (.int mq), .val (.int bq), .val (.ref b332), .val (.ref b344), .unset, .unset, .unset, .unset] [(.double bd)]))
        refine own_on (fun tq => XS.dstore X364.here hx rfl (hb hby at_158) rfl (l' := #[.val (.int p1), .val (.int p2), .val (.int p3), .val (.int p4), .val (.int p5), .val (.int p6), .val (.int bR), .val (.int (((p2.toUInt32 >>> ((2 : Int32) &&& 31).toUInt32).toInt32) &&& (3 : Int32))), .val (.int rr), .val (.int tT), .val (.int kk), .val (.int mq), .val (.int bq), .val (.ref b332), .val (.ref b344), .val (.double bd), .second, .unset, .unset]) rfl) ?_
        show own_Fin p e below _ (T364.setTop (mkF m 160 #[.val (.int p1), .val (.int p2), .val (.int p3), .val (.int p4), .val (.int p5), .val (.int p6), .val (.int bR), .val (.int (((p2.toUInt32 >>> ((2 : Int32) &&& 31).toUInt32).toInt32) &&& (3 : Int32))), .val (.int rr), .val (.int tT), .val (.int kk), .val (.int mq), .val (.int bq), .val (.ref b332), .val (.ref b344), .val (.double bd), .second, .unset, .unset] []))
        refine own_on (fun tq => XS.iload X364.here hx rfl (hb hby at_160) rfl) ?_
        show own_Fin p e below _ (T364.setTop (mkF m 162 #[.val (.int p1), .val (.int p2), .val (.int p3), .val (.int p4), .val (.int p5), .val (.int p6), .val (.int bR), .val (.int (((p2.toUInt32 >>> ((2 : Int32) &&& 31).toUInt32).toInt32) &&& (3 : Int32))), .val (.int rr), .val (.int tT), .val (.int kk), .val (.int mq), .val (.int bq), .val (.ref b332), .val (.ref b344), .val (.double bd), .second, .unset, .unset] [(.int bR)]))
        refine own_on (fun tq => XS.ifNo X364.here hx rfl (hb hby at_162) rfl ((if0 _ _).trans (feq hc298).1)) ?_
        show own_Fin p e below _ (T364.setTop (mkF m 165 #[.val (.int p1), .val (.int p2), .val (.int p3), .val (.int p4), .val (.int p5), .val (.int p6), .val (.int bR), .val (.int (((p2.toUInt32 >>> ((2 : Int32) &&& 31).toUInt32).toInt32) &&& (3 : Int32))), .val (.int rr), .val (.int tT), .val (.int kk), .val (.int mq), .val (.int bq), .val (.ref b332), .val (.ref b344), .val (.double bd), .second, .unset, .unset] []))
        refine own_on (fun tq => XS.iload X364.here hx rfl (hb hby at_165) rfl) ?_
        show own_Fin p e below _ (T364.setTop (mkF m 167 #[.val (.int p1), .val (.int p2), .val (.int p3), .val (.int p4), .val (.int p5), .val (.int p6), .val (.int bR), .val (.int (((p2.toUInt32 >>> ((2 : Int32) &&& 31).toUInt32).toInt32) &&& (3 : Int32))), .val (.int rr), .val (.int tT), .val (.int kk), .val (.int mq), .val (.int bq), .val (.ref b332), .val (.ref b344), .val (.double bd), .second, .unset, .unset] [(.int rr)]))
        refine own_on (fun tq => XS.iload X364.here hx rfl (hb hby at_167) rfl) ?_
        show own_Fin p e below _ (T364.setTop (mkF m 169 #[.val (.int p1), .val (.int p2), .val (.int p3), .val (.int p4), .val (.int p5), .val (.int p6), .val (.int bR), .val (.int (((p2.toUInt32 >>> ((2 : Int32) &&& 31).toUInt32).toInt32) &&& (3 : Int32))), .val (.int rr), .val (.int tT), .val (.int kk), .val (.int mq), .val (.int bq), .val (.ref b332), .val (.ref b344), .val (.double bd), .second, .unset, .unset] [(.int bR), (.int rr)]))
        by_cases hc365 : bR < rr
        · refine own_on (fun tq => XS.icmpNo X364.here hx rfl (hb hby at_169) rfl (tlt hc365).2.2.2) ?_
          show own_Fin p e below _ (T364.setTop (mkF m 172 #[.val (.int p1), .val (.int p2), .val (.int p3), .val (.int p4), .val (.int p5), .val (.int p6), .val (.int bR), .val (.int (((p2.toUInt32 >>> ((2 : Int32) &&& 31).toUInt32).toInt32) &&& (3 : Int32))), .val (.int rr), .val (.int tT), .val (.int kk), .val (.int mq), .val (.int bq), .val (.ref b332), .val (.ref b344), .val (.double bd), .second, .unset, .unset] []))
          refine own_on (fun tq => XS.dload X364.here hx rfl (hb hby at_172) rfl) ?_
          show own_Fin p e below _ (T364.setTop (mkF m 174 #[.val (.int p1), .val (.int p2), .val (.int p3), .val (.int p4), .val (.int p5), .val (.int p6), .val (.int bR), .val (.int (((p2.toUInt32 >>> ((2 : Int32) &&& 31).toUInt32).toInt32) &&& (3 : Int32))), .val (.int rr), .val (.int tT), .val (.int kk), .val (.int mq), .val (.int bq), .val (.ref b332), .val (.ref b344), .val (.double bd), .second, .unset, .unset] [(.double bd)]))
          refine own_on (fun tq => X364.ldc2DoubleC hx hown354 (mvT hZ354 (hw _ (List.mem_of_getElem? (i := 62) rfl))) (g := (mkF m 174 #[.val (.int p1), .val (.int p2), .val (.int p3), .val (.int p4), .val (.int p5), .val (.int p6), .val (.int bR), .val (.int (((p2.toUInt32 >>> ((2 : Int32) &&& 31).toUInt32).toInt32) &&& (3 : Int32))), .val (.int rr), .val (.int tT), .val (.int kk), .val (.int mq), .val (.int bq), .val (.ref b332), .val (.ref b344), .val (.double bd), .second, .unset, .unset] [(.double bd)])) rfl (hb hby at_174) tq) ?_
          show own_Fin p e below _ (T364.setTop (mkF m 177 #[.val (.int p1), .val (.int p2), .val (.int p3), .val (.int p4), .val (.int p5), .val (.int p6), .val (.int bR), .val (.int (((p2.toUInt32 >>> ((2 : Int32) &&& 31).toUInt32).toInt32) &&& (3 : Int32))), .val (.int rr), .val (.int tT), .val (.int kk), .val (.int mq), .val (.int bq), .val (.ref b332), .val (.ref b344), .val (.double bd), .second, .unset, .unset] [(.double (9218868437227405312 : UInt64)), (.double bd)]))
          refine own_on (fun tq => XS.dcmpS X364.here hx rfl (hb hby at_177) rfl (own_pinf (hbd.trans (if_pos (Or.inr (own_lt64 hc365)))))) ?_
          show own_Fin p e below _ (T364.setTop (mkF m 178 #[.val (.int p1), .val (.int p2), .val (.int p3), .val (.int p4), .val (.int p5), .val (.int p6), .val (.int bR), .val (.int (((p2.toUInt32 >>> ((2 : Int32) &&& 31).toUInt32).toInt32) &&& (3 : Int32))), .val (.int rr), .val (.int tT), .val (.int kk), .val (.int mq), .val (.int bq), .val (.ref b332), .val (.ref b344), .val (.double bd), .second, .unset, .unset] [(.int (0 : Int32))]))
          refine own_on (fun tq => XS.ifNo X364.here hx rfl (hb hby at_178) rfl ((if0 _ _).trans (teq (by decide : (0 : Int32) = (0 : Int32))).2)) ?_
          show own_Fin p e below _ (T364.setTop (mkF m 181 #[.val (.int p1), .val (.int p2), .val (.int p3), .val (.int p4), .val (.int p5), .val (.int p6), .val (.int bR), .val (.int (((p2.toUInt32 >>> ((2 : Int32) &&& 31).toUInt32).toInt32) &&& (3 : Int32))), .val (.int rr), .val (.int tT), .val (.int kk), .val (.int mq), .val (.int bq), .val (.ref b332), .val (.ref b344), .val (.double bd), .second, .unset, .unset] []))
          refine own_on (fun tq => XS.iconst X364.here hx rfl (hb hby at_181)) ?_
          show own_Fin p e below _ (T364.setTop (mkF m 182 #[.val (.int p1), .val (.int p2), .val (.int p3), .val (.int p4), .val (.int p5), .val (.int p6), .val (.int bR), .val (.int (((p2.toUInt32 >>> ((2 : Int32) &&& 31).toUInt32).toInt32) &&& (3 : Int32))), .val (.int rr), .val (.int tT), .val (.int kk), .val (.int mq), .val (.int bq), .val (.ref b332), .val (.ref b344), .val (.double bd), .second, .unset, .unset] [(.int (1 : Int32))]))
          refine own_on (fun tq => XS.goto X364.here hx rfl (pc0 := 182) (pc' := 186) rfl (hb hby at_182) (by decide) (by decide)) ?_
          show own_Fin p e below _ (T364.setTop (mkF m 186 #[.val (.int p1), .val (.int p2), .val (.int p3), .val (.int p4), .val (.int p5), .val (.int p6), .val (.int bR), .val (.int (((p2.toUInt32 >>> ((2 : Int32) &&& 31).toUInt32).toInt32) &&& (3 : Int32))), .val (.int rr), .val (.int tT), .val (.int kk), .val (.int mq), .val (.int bq), .val (.ref b332), .val (.ref b344), .val (.double bd), .second, .unset, .unset] [(.int (1 : Int32))]))
          exact own_retW (t := .boolean) X364 (Z := Z) (EL := own_EL) (a0 := a0) hx hlk hret rfl (Or.inl ⟨rfl, (by simp), _, rfl⟩) (hb hby at_186) hS354 (by rw [e364]; exact y356) hZ354 hEL (by rw [hh, e364]; exact y355) (⟨rfl, N364⟩) (by decide) (by decide)
        · refine own_on (fun tq => XS.icmpYes X364.here hx rfl (pc0 := 169) (pc' := 187) rfl (hb hby at_169) rfl (flt hc365).2.2.2 (by decide) (by decide)) ?_
          show own_Fin p e below _ (T364.setTop (mkF m 187 #[.val (.int p1), .val (.int p2), .val (.int p3), .val (.int p4), .val (.int p5), .val (.int p6), .val (.int bR), .val (.int (((p2.toUInt32 >>> ((2 : Int32) &&& 31).toUInt32).toInt32) &&& (3 : Int32))), .val (.int rr), .val (.int tT), .val (.int kk), .val (.int mq), .val (.int bq), .val (.ref b332), .val (.ref b344), .val (.double bd), .second, .unset, .unset] []))
          refine own_on (fun tq => XS.iload X364.here hx rfl (hb hby at_187) rfl) ?_
          show own_Fin p e below _ (T364.setTop (mkF m 189 #[.val (.int p1), .val (.int p2), .val (.int p3), .val (.int p4), .val (.int p5), .val (.int p6), .val (.int bR), .val (.int (((p2.toUInt32 >>> ((2 : Int32) &&& 31).toUInt32).toInt32) &&& (3 : Int32))), .val (.int rr), .val (.int tT), .val (.int kk), .val (.int mq), .val (.int bq), .val (.ref b332), .val (.ref b344), .val (.double bd), .second, .unset, .unset] [(.int tT)]))
          refine own_on (fun tq => XS.iload X364.here hx rfl (hb hby at_189) rfl) ?_
          show own_Fin p e below _ (T364.setTop (mkF m 191 #[.val (.int p1), .val (.int p2), .val (.int p3), .val (.int p4), .val (.int p5), .val (.int p6), .val (.int bR), .val (.int (((p2.toUInt32 >>> ((2 : Int32) &&& 31).toUInt32).toInt32) &&& (3 : Int32))), .val (.int rr), .val (.int tT), .val (.int kk), .val (.int mq), .val (.int bq), .val (.ref b332), .val (.ref b344), .val (.double bd), .second, .unset, .unset] [(.int kk), (.int tT)]))
          refine own_on (fun tq => XS.iadd X364.here hx rfl (hb hby at_191) rfl) ?_
          show own_Fin p e below _ (T364.setTop (mkF m 192 #[.val (.int p1), .val (.int p2), .val (.int p3), .val (.int p4), .val (.int p5), .val (.int p6), .val (.int bR), .val (.int (((p2.toUInt32 >>> ((2 : Int32) &&& 31).toUInt32).toInt32) &&& (3 : Int32))), .val (.int rr), .val (.int tT), .val (.int kk), .val (.int mq), .val (.int bq), .val (.ref b332), .val (.ref b344), .val (.double bd), .second, .unset, .unset] [(.int (tT + kk))]))
          refine own_on (fun tq => XS.i2dS X364.here hx rfl (hb hby at_192) rfl (i2d_w _)) ?_
          show own_Fin p e below _ (T364.setTop (mkF m 193 #[.val (.int p1), .val (.int p2), .val (.int p3), .val (.int p4), .val (.int p5), .val (.int p6), .val (.int bR), .val (.int (((p2.toUInt32 >>> ((2 : Int32) &&& 31).toUInt32).toInt32) &&& (3 : Int32))), .val (.int rr), .val (.int tT), .val (.int kk), .val (.int mq), .val (.int bq), .val (.ref b332), .val (.ref b344), .val (.double bd), .second, .unset, .unset] [(.double (FP.l2d (tT + kk).toInt64))]))
          refine own_on (fun tq => XS.dstore X364.here hx rfl (hb hby at_193) rfl (l' := #[.val (.int p1), .val (.int p2), .val (.int p3), .val (.int p4), .val (.int p5), .val (.int p6), .val (.int bR), .val (.int (((p2.toUInt32 >>> ((2 : Int32) &&& 31).toUInt32).toInt32) &&& (3 : Int32))), .val (.int rr), .val (.int tT), .val (.int kk), .val (.int mq), .val (.int bq), .val (.ref b332), .val (.ref b344), .val (.double bd), .second, .val (.double (FP.l2d (tT + kk).toInt64)), .second]) rfl) ?_
          show own_Fin p e below _ (T364.setTop (mkF m 195 #[.val (.int p1), .val (.int p2), .val (.int p3), .val (.int p4), .val (.int p5), .val (.int p6), .val (.int bR), .val (.int (((p2.toUInt32 >>> ((2 : Int32) &&& 31).toUInt32).toInt32) &&& (3 : Int32))), .val (.int rr), .val (.int tT), .val (.int kk), .val (.int mq), .val (.int bq), .val (.ref b332), .val (.ref b344), .val (.double bd), .second, .val (.double (FP.l2d (tT + kk).toInt64)), .second] []))
          refine own_on (fun tq => XS.iload X364.here hx rfl (hb hby at_195) rfl) ?_
          show own_Fin p e below _ (T364.setTop (mkF m 197 #[.val (.int p1), .val (.int p2), .val (.int p3), .val (.int p4), .val (.int p5), .val (.int p6), .val (.int bR), .val (.int (((p2.toUInt32 >>> ((2 : Int32) &&& 31).toUInt32).toInt32) &&& (3 : Int32))), .val (.int rr), .val (.int tT), .val (.int kk), .val (.int mq), .val (.int bq), .val (.ref b332), .val (.ref b344), .val (.double bd), .second, .val (.double (FP.l2d (tT + kk).toInt64)), .second] [(.int mq)]))
          by_cases hc366 : mq = (0 : Int32)
          · refine own_on (fun tq => XS.ifNo X364.here hx rfl (hb hby at_197) rfl ((if0 _ _).trans (teq hc366).2)) ?_
            show own_Fin p e below _ (T364.setTop (mkF m 200 #[.val (.int p1), .val (.int p2), .val (.int p3), .val (.int p4), .val (.int p5), .val (.int p6), .val (.int bR), .val (.int (((p2.toUInt32 >>> ((2 : Int32) &&& 31).toUInt32).toInt32) &&& (3 : Int32))), .val (.int rr), .val (.int tT), .val (.int kk), .val (.int mq), .val (.int bq), .val (.ref b332), .val (.ref b344), .val (.double bd), .second, .val (.double (FP.l2d (tT + kk).toInt64)), .second] []))
            refine own_on (fun tq => XS.dload X364.here hx rfl (hb hby at_200) rfl) ?_
            show own_Fin p e below _ (T364.setTop (mkF m 202 #[.val (.int p1), .val (.int p2), .val (.int p3), .val (.int p4), .val (.int p5), .val (.int p6), .val (.int bR), .val (.int (((p2.toUInt32 >>> ((2 : Int32) &&& 31).toUInt32).toInt32) &&& (3 : Int32))), .val (.int rr), .val (.int tT), .val (.int kk), .val (.int mq), .val (.int bq), .val (.ref b332), .val (.ref b344), .val (.double bd), .second, .val (.double (FP.l2d (tT + kk).toInt64)), .second] [(.double bd)]))
            refine own_on (fun tq => XS.dload X364.here hx rfl (hb hby at_202) rfl) ?_
            show own_Fin p e below _ (T364.setTop (mkF m 204 #[.val (.int p1), .val (.int p2), .val (.int p3), .val (.int p4), .val (.int p5), .val (.int p6), .val (.int bR), .val (.int (((p2.toUInt32 >>> ((2 : Int32) &&& 31).toUInt32).toInt32) &&& (3 : Int32))), .val (.int rr), .val (.int tT), .val (.int kk), .val (.int mq), .val (.int bq), .val (.ref b332), .val (.ref b344), .val (.double bd), .second, .val (.double (FP.l2d (tT + kk).toInt64)), .second] [(.double (FP.l2d (tT + kk).toInt64)), (.double bd)]))
            refine own_on (fun tq => XS.dcmpS X364.here hx rfl (hb hby at_204) rfl ((own_law rR hc298 hc365 rT rk rm hbb.1 hbd).1 hc366)) ?_
            show own_Fin p e below _ (T364.setTop (mkF m 205 #[.val (.int p1), .val (.int p2), .val (.int p3), .val (.int p4), .val (.int p5), .val (.int p6), .val (.int bR), .val (.int (((p2.toUInt32 >>> ((2 : Int32) &&& 31).toUInt32).toInt32) &&& (3 : Int32))), .val (.int rr), .val (.int tT), .val (.int kk), .val (.int mq), .val (.int bq), .val (.ref b332), .val (.ref b344), .val (.double bd), .second, .val (.double (FP.l2d (tT + kk).toInt64)), .second] [(.int (0 : Int32))]))
            refine own_on (fun tq => XS.ifNo X364.here hx rfl (hb hby at_205) rfl ((if0 _ _).trans (teq (by decide : (0 : Int32) = (0 : Int32))).2)) ?_
            show own_Fin p e below _ (T364.setTop (mkF m 208 #[.val (.int p1), .val (.int p2), .val (.int p3), .val (.int p4), .val (.int p5), .val (.int p6), .val (.int bR), .val (.int (((p2.toUInt32 >>> ((2 : Int32) &&& 31).toUInt32).toInt32) &&& (3 : Int32))), .val (.int rr), .val (.int tT), .val (.int kk), .val (.int mq), .val (.int bq), .val (.ref b332), .val (.ref b344), .val (.double bd), .second, .val (.double (FP.l2d (tT + kk).toInt64)), .second] []))
            refine own_on (fun tq => XS.iconst X364.here hx rfl (hb hby at_208)) ?_
            show own_Fin p e below _ (T364.setTop (mkF m 209 #[.val (.int p1), .val (.int p2), .val (.int p3), .val (.int p4), .val (.int p5), .val (.int p6), .val (.int bR), .val (.int (((p2.toUInt32 >>> ((2 : Int32) &&& 31).toUInt32).toInt32) &&& (3 : Int32))), .val (.int rr), .val (.int tT), .val (.int kk), .val (.int mq), .val (.int bq), .val (.ref b332), .val (.ref b344), .val (.double bd), .second, .val (.double (FP.l2d (tT + kk).toInt64)), .second] [(.int (1 : Int32))]))
            refine own_on (fun tq => XS.goto X364.here hx rfl (pc0 := 209) (pc' := 213) rfl (hb hby at_209) (by decide) (by decide)) ?_
            show own_Fin p e below _ (T364.setTop (mkF m 213 #[.val (.int p1), .val (.int p2), .val (.int p3), .val (.int p4), .val (.int p5), .val (.int p6), .val (.int bR), .val (.int (((p2.toUInt32 >>> ((2 : Int32) &&& 31).toUInt32).toInt32) &&& (3 : Int32))), .val (.int rr), .val (.int tT), .val (.int kk), .val (.int mq), .val (.int bq), .val (.ref b332), .val (.ref b344), .val (.double bd), .second, .val (.double (FP.l2d (tT + kk).toInt64)), .second] [(.int (1 : Int32))]))
            exact own_retW (t := .boolean) X364 (Z := Z) (EL := own_EL) (a0 := a0) hx hlk hret rfl (Or.inl ⟨rfl, (by simp), _, rfl⟩) (hb hby at_213) hS354 (by rw [e364]; exact y356) hZ354 hEL (by rw [hh, e364]; exact y355) (⟨rfl, N364⟩) (by decide) (by decide)
          · refine own_on (fun tq => XS.ifYes X364.here hx rfl (pc0 := 197) (pc' := 214) rfl (hb hby at_197) rfl ((if0 _ _).trans (feq hc366).2) (by decide) (by decide)) ?_
            show own_Fin p e below _ (T364.setTop (mkF m 214 #[.val (.int p1), .val (.int p2), .val (.int p3), .val (.int p4), .val (.int p5), .val (.int p6), .val (.int bR), .val (.int (((p2.toUInt32 >>> ((2 : Int32) &&& 31).toUInt32).toInt32) &&& (3 : Int32))), .val (.int rr), .val (.int tT), .val (.int kk), .val (.int mq), .val (.int bq), .val (.ref b332), .val (.ref b344), .val (.double bd), .second, .val (.double (FP.l2d (tT + kk).toInt64)), .second] []))
            refine own_on (fun tq => XS.dload X364.here hx rfl (hb hby at_214) rfl) ?_
            show own_Fin p e below _ (T364.setTop (mkF m 216 #[.val (.int p1), .val (.int p2), .val (.int p3), .val (.int p4), .val (.int p5), .val (.int p6), .val (.int bR), .val (.int (((p2.toUInt32 >>> ((2 : Int32) &&& 31).toUInt32).toInt32) &&& (3 : Int32))), .val (.int rr), .val (.int tT), .val (.int kk), .val (.int mq), .val (.int bq), .val (.ref b332), .val (.ref b344), .val (.double bd), .second, .val (.double (FP.l2d (tT + kk).toInt64)), .second] [(.double (FP.l2d (tT + kk).toInt64))]))
            refine own_on (fun tq => XS.dload X364.here hx rfl (hb hby at_216) rfl) ?_
            show own_Fin p e below _ (T364.setTop (mkF m 218 #[.val (.int p1), .val (.int p2), .val (.int p3), .val (.int p4), .val (.int p5), .val (.int p6), .val (.int bR), .val (.int (((p2.toUInt32 >>> ((2 : Int32) &&& 31).toUInt32).toInt32) &&& (3 : Int32))), .val (.int rr), .val (.int tT), .val (.int kk), .val (.int mq), .val (.int bq), .val (.ref b332), .val (.ref b344), .val (.double bd), .second, .val (.double (FP.l2d (tT + kk).toInt64)), .second] [(.double bd), (.double (FP.l2d (tT + kk).toInt64))]))
            refine own_on (fun tq => XS.dcmpS X364.here hx rfl (hb hby at_218) rfl ((own_law rR hc298 hc365 rT rk rm hbb.1 hbd).2 hc366).1) ?_
            show own_Fin p e below _ (T364.setTop (mkF m 219 #[.val (.int p1), .val (.int p2), .val (.int p3), .val (.int p4), .val (.int p5), .val (.int p6), .val (.int bR), .val (.int (((p2.toUInt32 >>> ((2 : Int32) &&& 31).toUInt32).toInt32) &&& (3 : Int32))), .val (.int rr), .val (.int tT), .val (.int kk), .val (.int mq), .val (.int bq), .val (.ref b332), .val (.ref b344), .val (.double bd), .second, .val (.double (FP.l2d (tT + kk).toInt64)), .second] [(.int (-1 : Int32))]))
            refine own_on (fun tq => XS.ifNo X364.here hx rfl (hb hby at_219) rfl ((if0 _ _).trans (tlt (by decide : (-1 : Int32) < (0 : Int32))).2.1)) ?_
            show own_Fin p e below _ (T364.setTop (mkF m 222 #[.val (.int p1), .val (.int p2), .val (.int p3), .val (.int p4), .val (.int p5), .val (.int p6), .val (.int bR), .val (.int (((p2.toUInt32 >>> ((2 : Int32) &&& 31).toUInt32).toInt32) &&& (3 : Int32))), .val (.int rr), .val (.int tT), .val (.int kk), .val (.int mq), .val (.int bq), .val (.ref b332), .val (.ref b344), .val (.double bd), .second, .val (.double (FP.l2d (tT + kk).toInt64)), .second] []))
            refine own_on (fun tq => XS.dload X364.here hx rfl (hb hby at_222) rfl) ?_
            show own_Fin p e below _ (T364.setTop (mkF m 224 #[.val (.int p1), .val (.int p2), .val (.int p3), .val (.int p4), .val (.int p5), .val (.int p6), .val (.int bR), .val (.int (((p2.toUInt32 >>> ((2 : Int32) &&& 31).toUInt32).toInt32) &&& (3 : Int32))), .val (.int rr), .val (.int tT), .val (.int kk), .val (.int mq), .val (.int bq), .val (.ref b332), .val (.ref b344), .val (.double bd), .second, .val (.double (FP.l2d (tT + kk).toInt64)), .second] [(.double bd)]))
            refine own_on (fun tq => XS.dload X364.here hx rfl (hb hby at_224) rfl) ?_
            show own_Fin p e below _ (T364.setTop (mkF m 226 #[.val (.int p1), .val (.int p2), .val (.int p3), .val (.int p4), .val (.int p5), .val (.int p6), .val (.int bR), .val (.int (((p2.toUInt32 >>> ((2 : Int32) &&& 31).toUInt32).toInt32) &&& (3 : Int32))), .val (.int rr), .val (.int tT), .val (.int kk), .val (.int mq), .val (.int bq), .val (.ref b332), .val (.ref b344), .val (.double bd), .second, .val (.double (FP.l2d (tT + kk).toInt64)), .second] [(.double (FP.l2d (tT + kk).toInt64)), (.double bd)]))
            refine own_on (fun tq => XS.dconst1 X364.here hx rfl (hb hby at_226) own_dc1) ?_
            show own_Fin p e below _ (T364.setTop (mkF m 227 #[.val (.int p1), .val (.int p2), .val (.int p3), .val (.int p4), .val (.int p5), .val (.int p6), .val (.int bR), .val (.int (((p2.toUInt32 >>> ((2 : Int32) &&& 31).toUInt32).toInt32) &&& (3 : Int32))), .val (.int rr), .val (.int tT), .val (.int kk), .val (.int mq), .val (.int bq), .val (.ref b332), .val (.ref b344), .val (.double bd), .second, .val (.double (FP.l2d (tT + kk).toInt64)), .second] [(.double (FP.l2d (1 : Int64))), (.double (FP.l2d (tT + kk).toInt64)), (.double bd)]))
            refine own_on (fun tq => XS.daddS X364.here hx rfl (hb hby at_227) rfl (nn_w (dadd_w (own_b32 (tT + kk)) own_B1)) (dadd_w (own_b32 (tT + kk)) own_B1)) ?_
            show own_Fin p e below _ (T364.setTop (mkF m 228 #[.val (.int p1), .val (.int p2), .val (.int p3), .val (.int p4), .val (.int p5), .val (.int p6), .val (.int bR), .val (.int (((p2.toUInt32 >>> ((2 : Int32) &&& 31).toUInt32).toInt32) &&& (3 : Int32))), .val (.int rr), .val (.int tT), .val (.int kk), .val (.int mq), .val (.int bq), .val (.ref b332), .val (.ref b344), .val (.double bd), .second, .val (.double (FP.l2d (tT + kk).toInt64)), .second] [(.double (FP.l2d ((tT + kk).toInt64 + (1 : Int64)))), (.double bd)]))
            refine own_on (fun tq => XS.dcmpS X364.here hx rfl (hb hby at_228) rfl ((own_law rR hc298 hc365 rT rk rm hbb.1 hbd).2 hc366).2) ?_
            show own_Fin p e below _ (T364.setTop (mkF m 229 #[.val (.int p1), .val (.int p2), .val (.int p3), .val (.int p4), .val (.int p5), .val (.int p6), .val (.int bR), .val (.int (((p2.toUInt32 >>> ((2 : Int32) &&& 31).toUInt32).toInt32) &&& (3 : Int32))), .val (.int rr), .val (.int tT), .val (.int kk), .val (.int mq), .val (.int bq), .val (.ref b332), .val (.ref b344), .val (.double bd), .second, .val (.double (FP.l2d (tT + kk).toInt64)), .second] [(.int (-1 : Int32))]))
            refine own_on (fun tq => XS.ifNo X364.here hx rfl (hb hby at_229) rfl ((if0 _ _).trans (tlt (by decide : (-1 : Int32) < (0 : Int32))).2.1)) ?_
            show own_Fin p e below _ (T364.setTop (mkF m 232 #[.val (.int p1), .val (.int p2), .val (.int p3), .val (.int p4), .val (.int p5), .val (.int p6), .val (.int bR), .val (.int (((p2.toUInt32 >>> ((2 : Int32) &&& 31).toUInt32).toInt32) &&& (3 : Int32))), .val (.int rr), .val (.int tT), .val (.int kk), .val (.int mq), .val (.int bq), .val (.ref b332), .val (.ref b344), .val (.double bd), .second, .val (.double (FP.l2d (tT + kk).toInt64)), .second] []))
            refine own_on (fun tq => XS.iconst X364.here hx rfl (hb hby at_232)) ?_
            show own_Fin p e below _ (T364.setTop (mkF m 233 #[.val (.int p1), .val (.int p2), .val (.int p3), .val (.int p4), .val (.int p5), .val (.int p6), .val (.int bR), .val (.int (((p2.toUInt32 >>> ((2 : Int32) &&& 31).toUInt32).toInt32) &&& (3 : Int32))), .val (.int rr), .val (.int tT), .val (.int kk), .val (.int mq), .val (.int bq), .val (.ref b332), .val (.ref b344), .val (.double bd), .second, .val (.double (FP.l2d (tT + kk).toInt64)), .second] [(.int (1 : Int32))]))
            refine own_on (fun tq => XS.goto X364.here hx rfl (pc0 := 233) (pc' := 237) rfl (hb hby at_233) (by decide) (by decide)) ?_
            show own_Fin p e below _ (T364.setTop (mkF m 237 #[.val (.int p1), .val (.int p2), .val (.int p3), .val (.int p4), .val (.int p5), .val (.int p6), .val (.int bR), .val (.int (((p2.toUInt32 >>> ((2 : Int32) &&& 31).toUInt32).toInt32) &&& (3 : Int32))), .val (.int rr), .val (.int tT), .val (.int kk), .val (.int mq), .val (.int bq), .val (.ref b332), .val (.ref b344), .val (.double bd), .second, .val (.double (FP.l2d (tT + kk).toInt64)), .second] [(.int (1 : Int32))]))
            exact own_retW (t := .boolean) X364 (Z := Z) (EL := own_EL) (a0 := a0) hx hlk hret rfl (Or.inl ⟨rfl, (by simp), _, rfl⟩) (hb hby at_237) hS354 (by rw [e364]; exact y356) hZ354 hEL (by rw [hh, e364]; exact y355) (⟨rfl, N364⟩) (by decide) (by decide)
    · refine own_on (fun tq => XS.ifYes X0.here hx rfl (pc0 := 24) (pc' := 41) rfl (hb hby at_24) rfl ((if0 _ _).trans (feq hc297).2) (by decide) (by decide)) ?_
      show own_Fin p e below _ (s₁.setTop (mkF m 41 #[.val (.int p1), .val (.int p2), .val (.int p3), .val (.int p4), .val (.int p5), .val (.int p6), .val (.int bR), .val (.int (((p2.toUInt32 >>> ((2 : Int32) &&& 31).toUInt32).toInt32) &&& (3 : Int32))), .unset, .unset, .unset, .unset, .unset, .unset, .unset, .unset, .unset, .unset, .unset] []))
      refine own_on (fun tq => XS.iload X0.here hx rfl (hb hby at_41) rfl) ?_
      show own_Fin p e below _ (s₁.setTop (mkF m 43 #[.val (.int p1), .val (.int p2), .val (.int p3), .val (.int p4), .val (.int p5), .val (.int p6), .val (.int bR), .val (.int (((p2.toUInt32 >>> ((2 : Int32) &&& 31).toUInt32).toInt32) &&& (3 : Int32))), .unset, .unset, .unset, .unset, .unset, .unset, .unset, .unset, .unset, .unset, .unset] [(.int (((p2.toUInt32 >>> ((2 : Int32) &&& 31).toUInt32).toInt32) &&& (3 : Int32)))]))
      refine own_on (fun tq => XS.iconst X0.here hx rfl (hb hby at_43)) ?_
      show own_Fin p e below _ (s₁.setTop (mkF m 44 #[.val (.int p1), .val (.int p2), .val (.int p3), .val (.int p4), .val (.int p5), .val (.int p6), .val (.int bR), .val (.int (((p2.toUInt32 >>> ((2 : Int32) &&& 31).toUInt32).toInt32) &&& (3 : Int32))), .unset, .unset, .unset, .unset, .unset, .unset, .unset, .unset, .unset, .unset, .unset] [(.int (1 : Int32)), (.int (((p2.toUInt32 >>> ((2 : Int32) &&& 31).toUInt32).toInt32) &&& (3 : Int32)))]))
      by_cases hc367 : (((p2.toUInt32 >>> ((2 : Int32) &&& 31).toUInt32).toInt32) &&& (3 : Int32)) = (1 : Int32)
      · refine own_on (fun tq => XS.icmpNo X0.here hx rfl (hb hby at_44) rfl (teq hc367).2) ?_
        show own_Fin p e below _ (s₁.setTop (mkF m 47 #[.val (.int p1), .val (.int p2), .val (.int p3), .val (.int p4), .val (.int p5), .val (.int p6), .val (.int bR), .val (.int (((p2.toUInt32 >>> ((2 : Int32) &&& 31).toUInt32).toInt32) &&& (3 : Int32))), .unset, .unset, .unset, .unset, .unset, .unset, .unset, .unset, .unset, .unset, .unset] []))
        refine own_on (fun tq => XS.iload X0.here hx rfl (hb hby at_47) rfl) ?_
        show own_Fin p e below _ (s₁.setTop (mkF m 49 #[.val (.int p1), .val (.int p2), .val (.int p3), .val (.int p4), .val (.int p5), .val (.int p6), .val (.int bR), .val (.int (((p2.toUInt32 >>> ((2 : Int32) &&& 31).toUInt32).toInt32) &&& (3 : Int32))), .unset, .unset, .unset, .unset, .unset, .unset, .unset, .unset, .unset, .unset, .unset] [(.int bR)]))
        refine own_on (fun tq => XS.istore X0.here hx rfl (hb hby at_49) rfl (l' := #[.val (.int p1), .val (.int p2), .val (.int p3), .val (.int p4), .val (.int p5), .val (.int p6), .val (.int bR), .val (.int (((p2.toUInt32 >>> ((2 : Int32) &&& 31).toUInt32).toInt32) &&& (3 : Int32))), .val (.int bR), .unset, .unset, .unset, .unset, .unset, .unset, .unset, .unset, .unset, .unset]) rfl) ?_
        show own_Fin p e below _ (s₁.setTop (mkF m 51 #[.val (.int p1), .val (.int p2), .val (.int p3), .val (.int p4), .val (.int p5), .val (.int p6), .val (.int bR), .val (.int (((p2.toUInt32 >>> ((2 : Int32) &&& 31).toUInt32).toInt32) &&& (3 : Int32))), .val (.int bR), .unset, .unset, .unset, .unset, .unset, .unset, .unset, .unset, .unset, .unset] []))
        refine own_on (fun tq => XS.goto X0.here hx rfl (pc0 := 51) (pc' := 65) rfl (hb hby at_51) (by decide) (by decide)) ?_
        show own_Fin p e below _ (s₁.setTop (mkF m 65 #[.val (.int p1), .val (.int p2), .val (.int p3), .val (.int p4), .val (.int p5), .val (.int p6), .val (.int bR), .val (.int (((p2.toUInt32 >>> ((2 : Int32) &&& 31).toUInt32).toInt32) &&& (3 : Int32))), .val (.int bR), .unset, .unset, .unset, .unset, .unset, .unset, .unset, .unset, .unset, .unset] []))
        refine own_on (fun tq => XS.iloadN X0.here hx rfl (hb hby at_65) rfl) ?_
        show own_Fin p e below _ (s₁.setTop (mkF m 66 #[.val (.int p1), .val (.int p2), .val (.int p3), .val (.int p4), .val (.int p5), .val (.int p6), .val (.int bR), .val (.int (((p2.toUInt32 >>> ((2 : Int32) &&& 31).toUInt32).toInt32) &&& (3 : Int32))), .val (.int bR), .unset, .unset, .unset, .unset, .unset, .unset, .unset, .unset, .unset, .unset] [(.int p4)]))
        refine own_on (fun tq => X0.ldcInt hx hown (mvT hZ (hw _ (List.mem_of_getElem? (i := 0) rfl))) (g := (mkF m 66 #[.val (.int p1), .val (.int p2), .val (.int p3), .val (.int p4), .val (.int p5), .val (.int p6), .val (.int bR), .val (.int (((p2.toUInt32 >>> ((2 : Int32) &&& 31).toUInt32).toInt32) &&& (3 : Int32))), .val (.int bR), .unset, .unset, .unset, .unset, .unset, .unset, .unset, .unset, .unset, .unset] [(.int p4)])) rfl (hb hby at_66) tq) ?_
        show own_Fin p e below _ (s₁.setTop (mkF m 68 #[.val (.int p1), .val (.int p2), .val (.int p3), .val (.int p4), .val (.int p5), .val (.int p6), .val (.int bR), .val (.int (((p2.toUInt32 >>> ((2 : Int32) &&& 31).toUInt32).toInt32) &&& (3 : Int32))), .val (.int bR), .unset, .unset, .unset, .unset, .unset, .unset, .unset, .unset, .unset, .unset] [(.int (65535 : Int32)), (.int p4)]))
        refine own_on (fun tq => XS.iand X0.here hx rfl (hb hby at_68) rfl) ?_
        show own_Fin p e below _ (s₁.setTop (mkF m 69 #[.val (.int p1), .val (.int p2), .val (.int p3), .val (.int p4), .val (.int p5), .val (.int p6), .val (.int bR), .val (.int (((p2.toUInt32 >>> ((2 : Int32) &&& 31).toUInt32).toInt32) &&& (3 : Int32))), .val (.int bR), .unset, .unset, .unset, .unset, .unset, .unset, .unset, .unset, .unset, .unset] [(.int (p4 &&& (65535 : Int32)))]))
        refine own_on (fun tq => XS.istore X0.here hx rfl (hb hby at_69) rfl (l' := #[.val (.int p1), .val (.int p2), .val (.int p3), .val (.int p4), .val (.int p5), .val (.int p6), .val (.int bR), .val (.int (((p2.toUInt32 >>> ((2 : Int32) &&& 31).toUInt32).toInt32) &&& (3 : Int32))), .val (.int bR), .val (.int (p4 &&& (65535 : Int32))), .unset, .unset, .unset, .unset, .unset, .unset, .unset, .unset, .unset]) rfl) ?_
        show own_Fin p e below _ (s₁.setTop (mkF m 71 #[.val (.int p1), .val (.int p2), .val (.int p3), .val (.int p4), .val (.int p5), .val (.int p6), .val (.int bR), .val (.int (((p2.toUInt32 >>> ((2 : Int32) &&& 31).toUInt32).toInt32) &&& (3 : Int32))), .val (.int bR), .val (.int (p4 &&& (65535 : Int32))), .unset, .unset, .unset, .unset, .unset, .unset, .unset, .unset, .unset] []))
        obtain ⟨tT, htT⟩ : ∃ q : Int32, q = (p4 &&& (65535 : Int32)) := ⟨_, rfl⟩
        have rT : 0 ≤ tT.toInt ∧ tT.toInt ≤ 65535 := htT ▸ own_m16 p4
        rw [← htT]
        show own_Fin p e below _ (s₁.setTop (mkF m 71 #[.val (.int p1), .val (.int p2), .val (.int p3), .val (.int p4), .val (.int p5), .val (.int p6), .val (.int bR), .val (.int (((p2.toUInt32 >>> ((2 : Int32) &&& 31).toUInt32).toInt32) &&& (3 : Int32))), .val (.int bR), .val (.int tT), .unset, .unset, .unset, .unset, .unset, .unset, .unset, .unset, .unset] []))
        refine own_on (fun tq => XS.iload X0.here hx rfl (hb hby at_71) rfl) ?_
        show own_Fin p e below _ (s₁.setTop (mkF m 73 #[.val (.int p1), .val (.int p2), .val (.int p3), .val (.int p4), .val (.int p5), .val (.int p6), .val (.int bR), .val (.int (((p2.toUInt32 >>> ((2 : Int32) &&& 31).toUInt32).toInt32) &&& (3 : Int32))), .val (.int bR), .val (.int tT), .unset, .unset, .unset, .unset, .unset, .unset, .unset, .unset, .unset] [(.int p5)]))
        refine own_on (fun tq => XS.sipush X0.here hx rfl (hb hby at_73)) ?_
        show own_Fin p e below _ (s₁.setTop (mkF m 76 #[.val (.int p1), .val (.int p2), .val (.int p3), .val (.int p4), .val (.int p5), .val (.int p6), .val (.int bR), .val (.int (((p2.toUInt32 >>> ((2 : Int32) &&& 31).toUInt32).toInt32) &&& (3 : Int32))), .val (.int bR), .val (.int tT), .unset, .unset, .unset, .unset, .unset, .unset, .unset, .unset, .unset] [(.int (32767 : Int32)), (.int p5)]))
        refine own_on (fun tq => XS.iand X0.here hx rfl (hb hby at_76) rfl) ?_
        show own_Fin p e below _ (s₁.setTop (mkF m 77 #[.val (.int p1), .val (.int p2), .val (.int p3), .val (.int p4), .val (.int p5), .val (.int p6), .val (.int bR), .val (.int (((p2.toUInt32 >>> ((2 : Int32) &&& 31).toUInt32).toInt32) &&& (3 : Int32))), .val (.int bR), .val (.int tT), .unset, .unset, .unset, .unset, .unset, .unset, .unset, .unset, .unset] [(.int (p5 &&& (32767 : Int32)))]))
        refine own_on (fun tq => XS.istore X0.here hx rfl (hb hby at_77) rfl (l' := #[.val (.int p1), .val (.int p2), .val (.int p3), .val (.int p4), .val (.int p5), .val (.int p6), .val (.int bR), .val (.int (((p2.toUInt32 >>> ((2 : Int32) &&& 31).toUInt32).toInt32) &&& (3 : Int32))), .val (.int bR), .val (.int tT), .val (.int (p5 &&& (32767 : Int32))), .unset, .unset, .unset, .unset, .unset, .unset, .unset, .unset]) rfl) ?_
        show own_Fin p e below _ (s₁.setTop (mkF m 79 #[.val (.int p1), .val (.int p2), .val (.int p3), .val (.int p4), .val (.int p5), .val (.int p6), .val (.int bR), .val (.int (((p2.toUInt32 >>> ((2 : Int32) &&& 31).toUInt32).toInt32) &&& (3 : Int32))), .val (.int bR), .val (.int tT), .val (.int (p5 &&& (32767 : Int32))), .unset, .unset, .unset, .unset, .unset, .unset, .unset, .unset] []))
        obtain ⟨kk, hkk⟩ : ∃ q : Int32, q = (p5 &&& (32767 : Int32)) := ⟨_, rfl⟩
        have rk : 0 ≤ kk.toInt ∧ kk.toInt ≤ 32767 := hkk ▸ own_m15 p5
        rw [← hkk]
        show own_Fin p e below _ (s₁.setTop (mkF m 79 #[.val (.int p1), .val (.int p2), .val (.int p3), .val (.int p4), .val (.int p5), .val (.int p6), .val (.int bR), .val (.int (((p2.toUInt32 >>> ((2 : Int32) &&& 31).toUInt32).toInt32) &&& (3 : Int32))), .val (.int bR), .val (.int tT), .val (.int kk), .unset, .unset, .unset, .unset, .unset, .unset, .unset, .unset] []))
        refine own_on (fun tq => XS.iload X0.here hx rfl (hb hby at_79) rfl) ?_
        show own_Fin p e below _ (s₁.setTop (mkF m 81 #[.val (.int p1), .val (.int p2), .val (.int p3), .val (.int p4), .val (.int p5), .val (.int p6), .val (.int bR), .val (.int (((p2.toUInt32 >>> ((2 : Int32) &&& 31).toUInt32).toInt32) &&& (3 : Int32))), .val (.int bR), .val (.int tT), .val (.int kk), .unset, .unset, .unset, .unset, .unset, .unset, .unset, .unset] [(.int bR)]))
        by_cases hc368 : bR = (0 : Int32)
        · refine own_on (fun tq => XS.ifNo X0.here hx rfl (hb hby at_81) rfl ((if0 _ _).trans (teq hc368).2)) ?_
          show own_Fin p e below _ (s₁.setTop (mkF m 84 #[.val (.int p1), .val (.int p2), .val (.int p3), .val (.int p4), .val (.int p5), .val (.int p6), .val (.int bR), .val (.int (((p2.toUInt32 >>> ((2 : Int32) &&& 31).toUInt32).toInt32) &&& (3 : Int32))), .val (.int bR), .val (.int tT), .val (.int kk), .unset, .unset, .unset, .unset, .unset, .unset, .unset, .unset] []))
          refine own_on (fun tq => XS.iconst X0.here hx rfl (hb hby at_84)) ?_
          show own_Fin p e below _ (s₁.setTop (mkF m 85 #[.val (.int p1), .val (.int p2), .val (.int p3), .val (.int p4), .val (.int p5), .val (.int p6), .val (.int bR), .val (.int (((p2.toUInt32 >>> ((2 : Int32) &&& 31).toUInt32).toInt32) &&& (3 : Int32))), .val (.int bR), .val (.int tT), .val (.int kk), .unset, .unset, .unset, .unset, .unset, .unset, .unset, .unset] [(.int (0 : Int32))]))
          refine own_on (fun tq => XS.goto X0.here hx rfl (pc0 := 85) (pc' := 96) rfl (hb hby at_85) (by decide) (by decide)) ?_
          show own_Fin p e below _ (s₁.setTop (mkF m 96 #[.val (.int p1), .val (.int p2), .val (.int p3), .val (.int p4), .val (.int p5), .val (.int p6), .val (.int bR), .val (.int (((p2.toUInt32 >>> ((2 : Int32) &&& 31).toUInt32).toInt32) &&& (3 : Int32))), .val (.int bR), .val (.int tT), .val (.int kk), .unset, .unset, .unset, .unset, .unset, .unset, .unset, .unset] [(.int (0 : Int32))]))
          refine own_on (fun tq => XS.istore X0.here hx rfl (hb hby at_96) rfl (l' := #[.val (.int p1), .val (.int p2), .val (.int p3), .val (.int p4), .val (.int p5), .val (.int p6), .val (.int bR), .val (.int (((p2.toUInt32 >>> ((2 : Int32) &&& 31).toUInt32).toInt32) &&& (3 : Int32))), .val (.int bR), .val (.int tT), .val (.int kk), .val (.int (0 : Int32)), .unset, .unset, .unset, .unset, .unset, .unset, .unset]) rfl) ?_
          show own_Fin p e below _ (s₁.setTop (mkF m 98 #[.val (.int p1), .val (.int p2), .val (.int p3), .val (.int p4), .val (.int p5), .val (.int p6), .val (.int bR), .val (.int (((p2.toUInt32 >>> ((2 : Int32) &&& 31).toUInt32).toInt32) &&& (3 : Int32))), .val (.int bR), .val (.int tT), .val (.int kk), .val (.int (0 : Int32)), .unset, .unset, .unset, .unset, .unset, .unset, .unset] []))
          refine own_on (fun tq => XS.iload X0.here hx rfl (hb hby at_98) rfl) ?_
          show own_Fin p e below _ (s₁.setTop (mkF m 100 #[.val (.int p1), .val (.int p2), .val (.int p3), .val (.int p4), .val (.int p5), .val (.int p6), .val (.int bR), .val (.int (((p2.toUInt32 >>> ((2 : Int32) &&& 31).toUInt32).toInt32) &&& (3 : Int32))), .val (.int bR), .val (.int tT), .val (.int kk), .val (.int (0 : Int32)), .unset, .unset, .unset, .unset, .unset, .unset, .unset] [(.int bR)]))
          refine own_on (fun tq => XS.ifNo X0.here hx rfl (hb hby at_100) rfl ((if0 _ _).trans (teq hc368).2)) ?_
          show own_Fin p e below _ (s₁.setTop (mkF m 103 #[.val (.int p1), .val (.int p2), .val (.int p3), .val (.int p4), .val (.int p5), .val (.int p6), .val (.int bR), .val (.int (((p2.toUInt32 >>> ((2 : Int32) &&& 31).toUInt32).toInt32) &&& (3 : Int32))), .val (.int bR), .val (.int tT), .val (.int kk), .val (.int (0 : Int32)), .unset, .unset, .unset, .unset, .unset, .unset, .unset] []))
          refine own_on (fun tq => XS.iload X0.here hx rfl (hb hby at_103) rfl) ?_
          show own_Fin p e below _ (s₁.setTop (mkF m 105 #[.val (.int p1), .val (.int p2), .val (.int p3), .val (.int p4), .val (.int p5), .val (.int p6), .val (.int bR), .val (.int (((p2.toUInt32 >>> ((2 : Int32) &&& 31).toUInt32).toInt32) &&& (3 : Int32))), .val (.int bR), .val (.int tT), .val (.int kk), .val (.int (0 : Int32)), .unset, .unset, .unset, .unset, .unset, .unset, .unset] [(.int p5)]))
          refine own_on (fun tq => X0.ldcInt hx hown (mvT hZ (hw _ (List.mem_of_getElem? (i := 1) rfl))) (g := (mkF m 105 #[.val (.int p1), .val (.int p2), .val (.int p3), .val (.int p4), .val (.int p5), .val (.int p6), .val (.int bR), .val (.int (((p2.toUInt32 >>> ((2 : Int32) &&& 31).toUInt32).toInt32) &&& (3 : Int32))), .val (.int bR), .val (.int tT), .val (.int kk), .val (.int (0 : Int32)), .unset, .unset, .unset, .unset, .unset, .unset, .unset] [(.int p5)])) rfl (hb hby at_105) tq) ?_
          show own_Fin p e below _ (s₁.setTop (mkF m 107 #[.val (.int p1), .val (.int p2), .val (.int p3), .val (.int p4), .val (.int p5), .val (.int p6), .val (.int bR), .val (.int (((p2.toUInt32 >>> ((2 : Int32) &&& 31).toUInt32).toInt32) &&& (3 : Int32))), .val (.int bR), .val (.int tT), .val (.int kk), .val (.int (0 : Int32)), .unset, .unset, .unset, .unset, .unset, .unset, .unset] [(.int (2147483647 : Int32)), (.int p5)]))
          refine own_on (fun tq => XS.iand X0.here hx rfl (hb hby at_107) rfl) ?_
          show own_Fin p e below _ (s₁.setTop (mkF m 108 #[.val (.int p1), .val (.int p2), .val (.int p3), .val (.int p4), .val (.int p5), .val (.int p6), .val (.int bR), .val (.int (((p2.toUInt32 >>> ((2 : Int32) &&& 31).toUInt32).toInt32) &&& (3 : Int32))), .val (.int bR), .val (.int tT), .val (.int kk), .val (.int (0 : Int32)), .unset, .unset, .unset, .unset, .unset, .unset, .unset] [(.int (p5 &&& (2147483647 : Int32)))]))
          refine own_on (fun tq => XS.goto X0.here hx rfl (pc0 := 108) (pc' := 119) rfl (hb hby at_108) (by decide) (by decide)) ?_
          show own_Fin p e below _ (s₁.setTop (mkF m 119 #[.val (.int p1), .val (.int p2), .val (.int p3), .val (.int p4), .val (.int p5), .val (.int p6), .val (.int bR), .val (.int (((p2.toUInt32 >>> ((2 : Int32) &&& 31).toUInt32).toInt32) &&& (3 : Int32))), .val (.int bR), .val (.int tT), .val (.int kk), .val (.int (0 : Int32)), .unset, .unset, .unset, .unset, .unset, .unset, .unset] [(.int (p5 &&& (2147483647 : Int32)))]))
          refine own_on (fun tq => XS.istore X0.here hx rfl (hb hby at_119) rfl (l' := #[.val (.int p1), .val (.int p2), .val (.int p3), .val (.int p4), .val (.int p5), .val (.int p6), .val (.int bR), .val (.int (((p2.toUInt32 >>> ((2 : Int32) &&& 31).toUInt32).toInt32) &&& (3 : Int32))), .val (.int bR), .val (.int tT), .val (.int kk), .val (.int (0 : Int32)), .val (.int (p5 &&& (2147483647 : Int32))), .unset, .unset, .unset, .unset, .unset, .unset]) rfl) ?_
          show own_Fin p e below _ (s₁.setTop (mkF m 121 #[.val (.int p1), .val (.int p2), .val (.int p3), .val (.int p4), .val (.int p5), .val (.int p6), .val (.int bR), .val (.int (((p2.toUInt32 >>> ((2 : Int32) &&& 31).toUInt32).toInt32) &&& (3 : Int32))), .val (.int bR), .val (.int tT), .val (.int kk), .val (.int (0 : Int32)), .val (.int (p5 &&& (2147483647 : Int32))), .unset, .unset, .unset, .unset, .unset, .unset] []))
          obtain ⟨bq, hbq⟩ : ∃ q : Int32, q = (p5 &&& (2147483647 : Int32)) := ⟨_, rfl⟩
          have b0 : 0 ≤ bq.toInt := hbq ▸ own_m31 p5
          rw [← hbq]
          show own_Fin p e below _ (s₁.setTop (mkF m 121 #[.val (.int p1), .val (.int p2), .val (.int p3), .val (.int p4), .val (.int p5), .val (.int p6), .val (.int bR), .val (.int (((p2.toUInt32 >>> ((2 : Int32) &&& 31).toUInt32).toInt32) &&& (3 : Int32))), .val (.int bR), .val (.int tT), .val (.int kk), .val (.int (0 : Int32)), .val (.int bq), .unset, .unset, .unset, .unset, .unset, .unset] []))
          obtain ⟨T369, h369, X369, e369, E369, A369, D369, -, st369⟩ := newO X0 hx hZ hown (hw _ (List.mem_of_getElem? (i := 2) rfl)) (hw _ (List.mem_of_getElem? (i := 3) rfl)) (hw _ (List.mem_of_getElem? (i := 4) rfl)) e0 (g := (mkF m 121 #[.val (.int p1), .val (.int p2), .val (.int p3), .val (.int p4), .val (.int p5), .val (.int p6), .val (.int bR), .val (.int (((p2.toUInt32 >>> ((2 : Int32) &&& 31).toUInt32).toInt32) &&& (3 : Int32))), .val (.int bR), .val (.int tT), .val (.int kk), .val (.int (0 : Int32)), .val (.int bq), .unset, .unset, .unset, .unset, .unset, .unset] [])) rfl (hb hby at_121) (by decide) (by decide)
          obtain ⟨b369, g369⟩ : ∃ z, z = h0.size := ⟨_, rfl⟩
          rw [← g369] at A369 D369 st369
          have y370 := (CHv.ext E369 CH0)
          have y371 := (CHr.trans (CHr.refl CH0) (CHr.ext E369 CH0))
          have y372 := (Nat.le_trans (Nat.zero_le _) E369.1)
          have y373 := (Nat.le_trans Z0 E369.1)
          have y374 := (Safe.ext E369 CH0 (Safe.new (Nat.le_of_eq g369.symm)))
          have gn369 : n0 ≤ b369 := Nat.le_trans Z0 (Nat.le_of_eq g369.symm)
          have F369_rate : Fld Z h369 b369 "com/example/curves_to_bounds/curvestobounds/curve/RateLatency" "rate" "D" (.double (0 : UInt64)) := D369 (Or.inr (hw _ (List.mem_of_getElem? (i := 39) rfl))) (ty := .double) (by decide)
          have F369_latency : Fld Z h369 b369 "com/example/curves_to_bounds/curvestobounds/curve/RateLatency" "latency" "D" (.double (0 : UInt64)) := D369 (Or.inr (hw _ (List.mem_of_getElem? (i := 41) rfl))) (ty := .double) (by decide)
          refine own_on st369 ?_
          show own_Fin p e below _ (T369.setTop (mkF m 124 #[.val (.int p1), .val (.int p2), .val (.int p3), .val (.int p4), .val (.int p5), .val (.int p6), .val (.int bR), .val (.int (((p2.toUInt32 >>> ((2 : Int32) &&& 31).toUInt32).toInt32) &&& (3 : Int32))), .val (.int bR), .val (.int tT), .val (.int kk), .val (.int (0 : Int32)), .val (.int bq), .unset, .unset, .unset, .unset, .unset, .unset] [(.ref b369)]))
          refine own_on (fun tq => XS.dup X369.here hx rfl (hb hby at_124) rfl rfl) ?_
          show own_Fin p e below _ (T369.setTop (mkF m 125 #[.val (.int p1), .val (.int p2), .val (.int p3), .val (.int p4), .val (.int p5), .val (.int p6), .val (.int bR), .val (.int (((p2.toUInt32 >>> ((2 : Int32) &&& 31).toUInt32).toInt32) &&& (3 : Int32))), .val (.int bR), .val (.int tT), .val (.int kk), .val (.int (0 : Int32)), .val (.int bq), .unset, .unset, .unset, .unset, .unset, .unset] [(.ref b369), (.ref b369)]))
          refine own_on (fun tq => XS.iload X369.here hx rfl (hb hby at_125) rfl) ?_
          show own_Fin p e below _ (T369.setTop (mkF m 127 #[.val (.int p1), .val (.int p2), .val (.int p3), .val (.int p4), .val (.int p5), .val (.int p6), .val (.int bR), .val (.int (((p2.toUInt32 >>> ((2 : Int32) &&& 31).toUInt32).toInt32) &&& (3 : Int32))), .val (.int bR), .val (.int tT), .val (.int kk), .val (.int (0 : Int32)), .val (.int bq), .unset, .unset, .unset, .unset, .unset, .unset] [(.int bR), (.ref b369), (.ref b369)]))
          refine own_on (fun tq => XS.i2dS X369.here hx rfl (hb hby at_127) rfl (i2d_w _)) ?_
          show own_Fin p e below _ (T369.setTop (mkF m 128 #[.val (.int p1), .val (.int p2), .val (.int p3), .val (.int p4), .val (.int p5), .val (.int p6), .val (.int bR), .val (.int (((p2.toUInt32 >>> ((2 : Int32) &&& 31).toUInt32).toInt32) &&& (3 : Int32))), .val (.int bR), .val (.int tT), .val (.int kk), .val (.int (0 : Int32)), .val (.int bq), .unset, .unset, .unset, .unset, .unset, .unset] [(.double (FP.l2d bR.toInt64)), (.ref b369), (.ref b369)]))
          refine own_on (fun tq => XS.iload X369.here hx rfl (hb hby at_128) rfl) ?_
          show own_Fin p e below _ (T369.setTop (mkF m 130 #[.val (.int p1), .val (.int p2), .val (.int p3), .val (.int p4), .val (.int p5), .val (.int p6), .val (.int bR), .val (.int (((p2.toUInt32 >>> ((2 : Int32) &&& 31).toUInt32).toInt32) &&& (3 : Int32))), .val (.int bR), .val (.int tT), .val (.int kk), .val (.int (0 : Int32)), .val (.int bq), .unset, .unset, .unset, .unset, .unset, .unset] [(.int tT), (.double (FP.l2d bR.toInt64)), (.ref b369), (.ref b369)]))
          refine own_on (fun tq => XS.i2dS X369.here hx rfl (hb hby at_130) rfl (i2d_w _)) ?_
          show own_Fin p e below _ (T369.setTop (mkF m 131 #[.val (.int p1), .val (.int p2), .val (.int p3), .val (.int p4), .val (.int p5), .val (.int p6), .val (.int bR), .val (.int (((p2.toUInt32 >>> ((2 : Int32) &&& 31).toUInt32).toInt32) &&& (3 : Int32))), .val (.int bR), .val (.int tT), .val (.int kk), .val (.int (0 : Int32)), .val (.int bq), .unset, .unset, .unset, .unset, .unset, .unset] [(.double (FP.l2d tT.toInt64)), (.double (FP.l2d bR.toInt64)), (.ref b369), (.ref b369)]))
          obtain ⟨_, _, ⟨T375, L375, k375, n375⟩, -, X375', S375', gr375, ⟨Lc375, hQ375, l375, y375, z375, A375⟩, st375⟩ := X369.specialBackS hx (y := (⟨"com/example/curves_to_bounds/curvestobounds/curve/RateLatency", "<init>", "(DD)V"⟩ : MethodName)) rfl hown (mvT hZ (hw _ (List.mem_of_getElem? (i := 5) rfl))) (mvT hZ (hw _ (List.mem_of_getElem? (i := 6) rfl))) (mvT hZ (hw _ (List.mem_of_getElem? (i := 7) rfl))) (by decide) (backOfSH (s := s) (W := 1) (rm1 l Z a0 hw [] b369 (FP.l2d bR.toInt64) (FP.l2d tT.toInt64) h369 n0 (by exact y373) hEL (own_okI rR.1) (own_okI rT.1) A369 F369_rate F369_latency gn369) hZ (hw _ (List.mem_of_getElem? (i := 7) rfl)) (hw _ (List.mem_of_getElem? (i := 4) rfl)) (by decide) (by decide) hEL y370) (g := (mkF m 131 #[.val (.int p1), .val (.int p2), .val (.int p3), .val (.int p4), .val (.int p5), .val (.int p6), .val (.int bR), .val (.int (((p2.toUInt32 >>> ((2 : Int32) &&& 31).toUInt32).toInt32) &&& (3 : Int32))), .val (.int bR), .val (.int tT), .val (.int kk), .val (.int (0 : Int32)), .val (.int bq), .unset, .unset, .unset, .unset, .unset, .unset] [(.double (FP.l2d tT.toInt64)), (.double (FP.l2d bR.toInt64)), (.ref b369), (.ref b369)])) rfl (by rw [hml]; rfl) (Steps.refl _) (a := b369) (argsL := [(.double (FP.l2d bR.toInt64)), (.double (FP.l2d tT.toInt64))]) (rest := [(.ref b369)]) (lenOf pd_5 rfl) rfl (by show 2 * 0 + _ ≤ _; exact Nat.le_of_eq rfl) (hb hby at_131) (fun _ _ => ⟨rfl, e369, (by decide : 1 + 4 ≤ _), (by decide : 2 + 52 ≤ _)⟩)
          dsimp only [Pt.U, Pt.locs, Pt.cells, Pt.slots] at X375' S375' gr375 l375 y375 z375 st375 hQ375 A375
          subst l375 y375 z375
          obtain ⟨X375, hS375, hZ375, hown375⟩ := rebS hS0 (by first | exact y372 | (rw [e369]; exact y372)) X375' S375' gr375 hZ hown
          obtain ⟨rfl, N375q, K375, E375q, F375a, F375b⟩ := hQ375
          have N375 := Fr.app N0 N375q
          have y376 := (CHr.trans y371 A375)
          have y377 := (Nat.le_refl (Array.size T375.heap))
          have y378 := (Nat.le_trans y373 K375.1)
          have y379 := (CHr.safe A375 F369_latency.lt y374)
          have y380 := (A369.keep K375)
          refine own_via st375 ?_
          show own_Fin p e below _ (T375.setTop (mkF m 134 #[.val (.int p1), .val (.int p2), .val (.int p3), .val (.int p4), .val (.int p5), .val (.int p6), .val (.int bR), .val (.int (((p2.toUInt32 >>> ((2 : Int32) &&& 31).toUInt32).toInt32) &&& (3 : Int32))), .val (.int bR), .val (.int tT), .val (.int kk), .val (.int (0 : Int32)), .val (.int bq), .unset, .unset, .unset, .unset, .unset, .unset] [(.ref b369)]))
          refine own_on (fun tq => XS.astore X375.here hx rfl (hb hby at_134) rfl rfl (l' := #[.val (.int p1), .val (.int p2), .val (.int p3), .val (.int p4), .val (.int p5), .val (.int p6), .val (.int bR), .val (.int (((p2.toUInt32 >>> ((2 : Int32) &&& 31).toUInt32).toInt32) &&& (3 : Int32))), .val (.int bR), .val (.int tT), .val (.int kk), .val (.int (0 : Int32)), .val (.int bq), .val (.ref b369), .unset, .unset, .unset, .unset, .unset]) rfl) ?_
          show own_Fin p e below _ (T375.setTop (mkF m 136 #[.val (.int p1), .val (.int p2), .val (.int p3), .val (.int p4), .val (.int p5), .val (.int p6), .val (.int bR), .val (.int (((p2.toUInt32 >>> ((2 : Int32) &&& 31).toUInt32).toInt32) &&& (3 : Int32))), .val (.int bR), .val (.int tT), .val (.int kk), .val (.int (0 : Int32)), .val (.int bq), .val (.ref b369), .unset, .unset, .unset, .unset, .unset] []))
          obtain ⟨T381, h381, X381, e381, E381, A381, D381, -, st381⟩ := newO X375 hx hZ375 hown375 (hw _ (List.mem_of_getElem? (i := 42) rfl)) (hw _ (List.mem_of_getElem? (i := 43) rfl)) (hw _ (List.mem_of_getElem? (i := 44) rfl)) rfl (g := (mkF m 136 #[.val (.int p1), .val (.int p2), .val (.int p3), .val (.int p4), .val (.int p5), .val (.int p6), .val (.int bR), .val (.int (((p2.toUInt32 >>> ((2 : Int32) &&& 31).toUInt32).toInt32) &&& (3 : Int32))), .val (.int bR), .val (.int tT), .val (.int kk), .val (.int (0 : Int32)), .val (.int bq), .val (.ref b369), .unset, .unset, .unset, .unset, .unset] [])) rfl (hb hby at_136) (by decide) (by decide)
          obtain ⟨b381, g381⟩ : ∃ z, z = T375.heap.size := ⟨_, rfl⟩
          rw [← g381] at A381 D381 st381
          have ne381_b369 : b369 ≠ b381 := own_ne_of (Z := Z) E375q.lt g381
          have y382 := (CHv.ext E381 A375.1)
          have y383 := (CHr.trans y376 (CHr.ext E381 A375.1))
          have y384 := (Nat.le_trans y377 E381.1)
          have y385 := (Nat.le_trans y378 E381.1)
          have y386 := (Safe.ext E381 A375.1 y379)
          have y387 := (E375q.ext E381)
          have y388 := (F375a.ext E381)
          have y389 := (F375b.ext E381)
          have y390 := (Safe.ext E381 A375.1 (Safe.new (Nat.le_of_eq g381.symm)))
          have gn381 : n0 ≤ b381 := Nat.le_trans y378 (Nat.le_of_eq g381.symm)
          have F381_rate : Fld Z h381 b381 "com/example/curves_to_bounds/curvestobounds/curve/TokenBucket" "rate" "D" (.double (0 : UInt64)) := D381 (Or.inr (hw _ (List.mem_of_getElem? (i := 53) rfl))) (ty := .double) (by decide)
          have F381_burst : Fld Z h381 b381 "com/example/curves_to_bounds/curvestobounds/curve/TokenBucket" "burst" "D" (.double (0 : UInt64)) := D381 (Or.inr (hw _ (List.mem_of_getElem? (i := 55) rfl))) (ty := .double) (by decide)
          refine own_on st381 ?_
          show own_Fin p e below _ (T381.setTop (mkF m 139 #[.val (.int p1), .val (.int p2), .val (.int p3), .val (.int p4), .val (.int p5), .val (.int p6), .val (.int bR), .val (.int (((p2.toUInt32 >>> ((2 : Int32) &&& 31).toUInt32).toInt32) &&& (3 : Int32))), .val (.int bR), .val (.int tT), .val (.int kk), .val (.int (0 : Int32)), .val (.int bq), .val (.ref b369), .unset, .unset, .unset, .unset, .unset] [(.ref b381)]))
          refine own_on (fun tq => XS.dup X381.here hx rfl (hb hby at_139) rfl rfl) ?_
          show own_Fin p e below _ (T381.setTop (mkF m 140 #[.val (.int p1), .val (.int p2), .val (.int p3), .val (.int p4), .val (.int p5), .val (.int p6), .val (.int bR), .val (.int (((p2.toUInt32 >>> ((2 : Int32) &&& 31).toUInt32).toInt32) &&& (3 : Int32))), .val (.int bR), .val (.int tT), .val (.int kk), .val (.int (0 : Int32)), .val (.int bq), .val (.ref b369), .unset, .unset, .unset, .unset, .unset] [(.ref b381), (.ref b381)]))
          refine own_on (fun tq => XS.iload X381.here hx rfl (hb hby at_140) rfl) ?_
          show own_Fin p e below _ (T381.setTop (mkF m 142 #[.val (.int p1), .val (.int p2), .val (.int p3), .val (.int p4), .val (.int p5), .val (.int p6), .val (.int bR), .val (.int (((p2.toUInt32 >>> ((2 : Int32) &&& 31).toUInt32).toInt32) &&& (3 : Int32))), .val (.int bR), .val (.int tT), .val (.int kk), .val (.int (0 : Int32)), .val (.int bq), .val (.ref b369), .unset, .unset, .unset, .unset, .unset] [(.int bR), (.ref b381), (.ref b381)]))
          refine own_on (fun tq => XS.i2dS X381.here hx rfl (hb hby at_142) rfl (i2d_w _)) ?_
          show own_Fin p e below _ (T381.setTop (mkF m 143 #[.val (.int p1), .val (.int p2), .val (.int p3), .val (.int p4), .val (.int p5), .val (.int p6), .val (.int bR), .val (.int (((p2.toUInt32 >>> ((2 : Int32) &&& 31).toUInt32).toInt32) &&& (3 : Int32))), .val (.int bR), .val (.int tT), .val (.int kk), .val (.int (0 : Int32)), .val (.int bq), .val (.ref b369), .unset, .unset, .unset, .unset, .unset] [(.double (FP.l2d bR.toInt64)), (.ref b381), (.ref b381)]))
          refine own_on (fun tq => XS.iload X381.here hx rfl (hb hby at_143) rfl) ?_
          show own_Fin p e below _ (T381.setTop (mkF m 145 #[.val (.int p1), .val (.int p2), .val (.int p3), .val (.int p4), .val (.int p5), .val (.int p6), .val (.int bR), .val (.int (((p2.toUInt32 >>> ((2 : Int32) &&& 31).toUInt32).toInt32) &&& (3 : Int32))), .val (.int bR), .val (.int tT), .val (.int kk), .val (.int (0 : Int32)), .val (.int bq), .val (.ref b369), .unset, .unset, .unset, .unset, .unset] [(.int bq), (.double (FP.l2d bR.toInt64)), (.ref b381), (.ref b381)]))
          refine own_on (fun tq => XS.i2dS X381.here hx rfl (hb hby at_145) rfl (i2d_w _)) ?_
          show own_Fin p e below _ (T381.setTop (mkF m 146 #[.val (.int p1), .val (.int p2), .val (.int p3), .val (.int p4), .val (.int p5), .val (.int p6), .val (.int bR), .val (.int (((p2.toUInt32 >>> ((2 : Int32) &&& 31).toUInt32).toInt32) &&& (3 : Int32))), .val (.int bR), .val (.int tT), .val (.int kk), .val (.int (0 : Int32)), .val (.int bq), .val (.ref b369), .unset, .unset, .unset, .unset, .unset] [(.double (FP.l2d bq.toInt64)), (.double (FP.l2d bR.toInt64)), (.ref b381), (.ref b381)]))
          obtain ⟨_, _, ⟨T391, L391, k391, n391⟩, -, X391', S391', gr391, ⟨Lc391, hQ391, l391, y391, z391, A391⟩, st391⟩ := X381.specialBackS hx (y := (⟨"com/example/curves_to_bounds/curvestobounds/curve/TokenBucket", "<init>", "(DD)V"⟩ : MethodName)) rfl hown375 (mvT hZ375 (hw _ (List.mem_of_getElem? (i := 45) rfl))) (mvT hZ375 (hw _ (List.mem_of_getElem? (i := 46) rfl))) (mvT hZ375 (hw _ (List.mem_of_getElem? (i := 47) rfl))) (by decide) (backOfSH (s := s) (W := 1) (rm7 l Z a0 hw [] b381 (FP.l2d bR.toInt64) (FP.l2d bq.toInt64) h381 n0 (by exact y385) hEL (own_okI rR.1) (own_okI b0) A381 F381_rate F381_burst gn381) hZ375 (hw _ (List.mem_of_getElem? (i := 47) rfl)) (hw _ (List.mem_of_getElem? (i := 44) rfl)) (by decide) (by decide) hEL y382) (g := (mkF m 146 #[.val (.int p1), .val (.int p2), .val (.int p3), .val (.int p4), .val (.int p5), .val (.int p6), .val (.int bR), .val (.int (((p2.toUInt32 >>> ((2 : Int32) &&& 31).toUInt32).toInt32) &&& (3 : Int32))), .val (.int bR), .val (.int tT), .val (.int kk), .val (.int (0 : Int32)), .val (.int bq), .val (.ref b369), .unset, .unset, .unset, .unset, .unset] [(.double (FP.l2d bq.toInt64)), (.double (FP.l2d bR.toInt64)), (.ref b381), (.ref b381)])) rfl (by rw [hml]; rfl) (Steps.refl _) (a := b381) (argsL := [(.double (FP.l2d bR.toInt64)), (.double (FP.l2d bq.toInt64))]) (rest := [(.ref b381)]) (lenOf pd_5 rfl) rfl (by show 2 * 0 + _ ≤ _; exact Nat.le_of_eq rfl) (hb hby at_146) (fun _ _ => ⟨rfl, e381, (by decide : 6 + 4 ≤ _), (by decide : 56 + 44 ≤ _)⟩)
          dsimp only [Pt.U, Pt.locs, Pt.cells, Pt.slots] at X391' S391' gr391 l391 y391 z391 st391 hQ391 A391
          subst l391 y391 z391
          obtain ⟨X391, hS391, hZ391, hown391⟩ := rebS hS375 (by first | exact y384 | (rw [e381]; exact y384)) X391' S391' gr391 hZ375 hown375
          obtain ⟨rfl, N391q, K391, E391q, F391a, F391b⟩ := hQ391
          have N391 := Fr.app N375 N391q
          have y392 := (CHr.trans y383 A391)
          have y393 := (Nat.le_refl (Array.size T391.heap))
          have y394 := (Nat.le_trans y385 K391.1)
          have y395 := (CHr.safe A391 y389.lt y386)
          have y396 := (y387.keep K391)
          have y397 := (y388.keep K391 (ninS ne381_b369 nin0))
          have y398 := (y389.keep K391 (ninS ne381_b369 nin0))
          have y399 := (CHr.safe A391 F381_burst.lt y390)
          have y400 := (A381.keep K391)
          refine own_via st391 ?_
          show own_Fin p e below _ (T391.setTop (mkF m 149 #[.val (.int p1), .val (.int p2), .val (.int p3), .val (.int p4), .val (.int p5), .val (.int p6), .val (.int bR), .val (.int (((p2.toUInt32 >>> ((2 : Int32) &&& 31).toUInt32).toInt32) &&& (3 : Int32))), .val (.int bR), .val (.int tT), .val (.int kk), .val (.int (0 : Int32)), .val (.int bq), .val (.ref b369), .unset, .unset, .unset, .unset, .unset] [(.ref b381)]))
          refine own_on (fun tq => XS.astore X391.here hx rfl (hb hby at_149) rfl rfl (l' := #[.val (.int p1), .val (.int p2), .val (.int p3), .val (.int p4), .val (.int p5), .val (.int p6), .val (.int bR), .val (.int (((p2.toUInt32 >>> ((2 : Int32) &&& 31).toUInt32).toInt32) &&& (3 : Int32))), .val (.int bR), .val (.int tT), .val (.int kk), .val (.int (0 : Int32)), .val (.int bq), .val (.ref b369), .val (.ref b381), .unset, .unset, .unset, .unset]) rfl) ?_
          show own_Fin p e below _ (T391.setTop (mkF m 151 #[.val (.int p1), .val (.int p2), .val (.int p3), .val (.int p4), .val (.int p5), .val (.int p6), .val (.int bR), .val (.int (((p2.toUInt32 >>> ((2 : Int32) &&& 31).toUInt32).toInt32) &&& (3 : Int32))), .val (.int bR), .val (.int tT), .val (.int kk), .val (.int (0 : Int32)), .val (.int bq), .val (.ref b369), .val (.ref b381), .unset, .unset, .unset, .unset] []))
          refine own_on (fun tq => XS.aload X391.here hx rfl (hb hby at_151) rfl rfl) ?_
          show own_Fin p e below _ (T391.setTop (mkF m 153 #[.val (.int p1), .val (.int p2), .val (.int p3), .val (.int p4), .val (.int p5), .val (.int p6), .val (.int bR), .val (.int (((p2.toUInt32 >>> ((2 : Int32) &&& 31).toUInt32).toInt32) &&& (3 : Int32))), .val (.int bR), .val (.int tT), .val (.int kk), .val (.int (0 : Int32)), .val (.int bq), .val (.ref b369), .val (.ref b381), .unset, .unset, .unset, .unset] [(.ref b369)]))
          refine own_on (fun tq => XS.aload X391.here hx rfl (hb hby at_153) rfl rfl) ?_
          show own_Fin p e below _ (T391.setTop (mkF m 155 #[.val (.int p1), .val (.int p2), .val (.int p3), .val (.int p4), .val (.int p5), .val (.int p6), .val (.int bR), .val (.int (((p2.toUInt32 >>> ((2 : Int32) &&& 31).toUInt32).toInt32) &&& (3 : Int32))), .val (.int bR), .val (.int tT), .val (.int kk), .val (.int (0 : Int32)), .val (.int bq), .val (.ref b369), .val (.ref b381), .unset, .unset, .unset, .unset] [(.ref b381), (.ref b369)]))
          obtain ⟨cq401, kq401, q401a, q401b, q401c⟩ := isOf hZ391 rfl y396
          obtain ⟨_, _, ⟨T401, L401, k401, n401⟩, -, X401, ⟨Lc401, hQ401, l401, y401, z401⟩, st401⟩ := X391.virtualBack hx (y := (⟨"com/example/curves_to_bounds/curvestobounds/curve/RateLatency", "delayBound", "(Lcom/example/curves_to_bounds/curvestobounds/curve/TokenBucket;)D"⟩ : MethodName)) (z := (⟨"com/example/curves_to_bounds/curvestobounds/curve/RateLatency", "delayBound", "(Lcom/example/curves_to_bounds/curvestobounds/curve/TokenBucket;)D"⟩ : MethodName)) hown391 (mvT hZ391 (hw _ (List.mem_of_getElem? (i := 56) rfl))) (mvT hZ391 (hw _ (List.mem_of_getElem? (i := 57) rfl))) (notFace_of_selects (args := #[]) (mvT hZ391 (hw _ (List.mem_of_getElem? (i := 59) rfl)))) (mvT hZ391 (hw _ (List.mem_of_getElem? (i := 59) rfl))) (mvT hZ391 (hw _ (List.mem_of_getElem? (i := 58) rfl))) (by decide) (backOf (W := 0) (rm8 l Z a0 hw [] b369 b381 (bR.toInt64) (tT.toInt64) (bR.toInt64) (bq.toInt64) T391.heap n0 (by exact y394) y397 y398 F391a F391b E391q (own_b32 _) (own_b32 _) (fun q_ => absurd (own_z0 hc368) q_)) hZ391 (hw _ (List.mem_of_getElem? (i := 60) rfl)) (hw _ (List.mem_of_getElem? (i := 4) rfl)) (by decide) (by decide)) q401a q401c (g := (mkF m 155 #[.val (.int p1), .val (.int p2), .val (.int p3), .val (.int p4), .val (.int p5), .val (.int p6), .val (.int bR), .val (.int (((p2.toUInt32 >>> ((2 : Int32) &&& 31).toUInt32).toInt32) &&& (3 : Int32))), .val (.int bR), .val (.int tT), .val (.int kk), .val (.int (0 : Int32)), .val (.int bq), .val (.ref b369), .val (.ref b381), .unset, .unset, .unset, .unset] [(.ref b381), (.ref b369)])) rfl (by rw [hml]; rfl) (Steps.refl _) (argsL := [(.ref b381)]) (rest := []) (lenOf pd_6 rfl) rfl (by show 2 * 0 + _ ≤ _; exact Nat.le_of_eq rfl) (hb hby at_155) (fun _ _ => ⟨rfl, rfl, (by decide : 10 + 0 ≤ _), (by decide : 100 + 0 ≤ _)⟩)
          dsimp only [Pt.U, Pt.locs, Pt.cells, Pt.slots] at X401 l401 y401 z401 st401 hQ401
          subst l401 y401 z401
          obtain ⟨rfl, N401q, e401⟩ := hQ401
          have N401 := Fr.app N391 N401q
          refine own_via st401 ?_
          show own_Fin p e below _ (T401.setTop (mkF m 158 #[.val (.int p1), .val (.int p2), .val (.int p3), .val (.int p4), .val (.int p5), .val (.int p6), .val (.int bR), .val (.int (((p2.toUInt32 >>> ((2 : Int32) &&& 31).toUInt32).toInt32) &&& (3 : Int32))), .val (.int bR), .val (.int tT), .val (.int kk), .val (.int (0 : Int32)), .val (.int bq), .val (.ref b369), .val (.ref b381), .unset, .unset, .unset, .unset] [(.double (if bR.toInt64 = 0 ∨ bR.toInt64 < bR.toInt64 then (9218868437227405312 : UInt64) else FP.dadd (FP.l2d tT.toInt64) (FP.ddiv (FP.l2d bq.toInt64) (FP.l2d bR.toInt64))))]))
          obtain ⟨bd, hbd⟩ : ∃ q : UInt64, q = (if bR.toInt64 = 0 ∨ bR.toInt64 < bR.toInt64 then (9218868437227405312 : UInt64) else FP.dadd (FP.l2d tT.toInt64) (FP.ddiv (FP.l2d bq.toInt64) (FP.l2d bR.toInt64))) := ⟨_, rfl⟩
          rw [← hbd]
          show own_Fin p e below _ (T401.setTop (mkF m 158 #[.val (.int p1), .val (.int p2), .val (.int p3), .val (.int p4), .val (.int p5), .val (.int p6), .val (.int bR), .val (.int (((p2.toUInt32 >>> ((2 : Int32) &&& 31).toUInt32).toInt32) &&& (3 : Int32))), .val (.int bR), .val (.int tT), .val (.int kk), .val (.int (0 : Int32)), .val (.int bq), .val (.ref b369), .val (.ref b381), .unset, .unset, .unset, .unset] [(.double bd)]))
          refine own_on (fun tq => XS.dstore X401.here hx rfl (hb hby at_158) rfl (l' := #[.val (.int p1), .val (.int p2), .val (.int p3), .val (.int p4), .val (.int p5), .val (.int p6), .val (.int bR), .val (.int (((p2.toUInt32 >>> ((2 : Int32) &&& 31).toUInt32).toInt32) &&& (3 : Int32))), .val (.int bR), .val (.int tT), .val (.int kk), .val (.int (0 : Int32)), .val (.int bq), .val (.ref b369), .val (.ref b381), .val (.double bd), .second, .unset, .unset]) rfl) ?_
          show own_Fin p e below _ (T401.setTop (mkF m 160 #[.val (.int p1), .val (.int p2), .val (.int p3), .val (.int p4), .val (.int p5), .val (.int p6), .val (.int bR), .val (.int (((p2.toUInt32 >>> ((2 : Int32) &&& 31).toUInt32).toInt32) &&& (3 : Int32))), .val (.int bR), .val (.int tT), .val (.int kk), .val (.int (0 : Int32)), .val (.int bq), .val (.ref b369), .val (.ref b381), .val (.double bd), .second, .unset, .unset] []))
          refine own_on (fun tq => XS.iload X401.here hx rfl (hb hby at_160) rfl) ?_
          show own_Fin p e below _ (T401.setTop (mkF m 162 #[.val (.int p1), .val (.int p2), .val (.int p3), .val (.int p4), .val (.int p5), .val (.int p6), .val (.int bR), .val (.int (((p2.toUInt32 >>> ((2 : Int32) &&& 31).toUInt32).toInt32) &&& (3 : Int32))), .val (.int bR), .val (.int tT), .val (.int kk), .val (.int (0 : Int32)), .val (.int bq), .val (.ref b369), .val (.ref b381), .val (.double bd), .second, .unset, .unset] [(.int bR)]))
          refine own_on (fun tq => XS.ifYes X401.here hx rfl (pc0 := 162) (pc' := 172) rfl (hb hby at_162) rfl ((if0 _ _).trans (teq hc368).1) (by decide) (by decide)) ?_
          show own_Fin p e below _ (T401.setTop (mkF m 172 #[.val (.int p1), .val (.int p2), .val (.int p3), .val (.int p4), .val (.int p5), .val (.int p6), .val (.int bR), .val (.int (((p2.toUInt32 >>> ((2 : Int32) &&& 31).toUInt32).toInt32) &&& (3 : Int32))), .val (.int bR), .val (.int tT), .val (.int kk), .val (.int (0 : Int32)), .val (.int bq), .val (.ref b369), .val (.ref b381), .val (.double bd), .second, .unset, .unset] []))
          refine own_on (fun tq => XS.dload X401.here hx rfl (hb hby at_172) rfl) ?_
          show own_Fin p e below _ (T401.setTop (mkF m 174 #[.val (.int p1), .val (.int p2), .val (.int p3), .val (.int p4), .val (.int p5), .val (.int p6), .val (.int bR), .val (.int (((p2.toUInt32 >>> ((2 : Int32) &&& 31).toUInt32).toInt32) &&& (3 : Int32))), .val (.int bR), .val (.int tT), .val (.int kk), .val (.int (0 : Int32)), .val (.int bq), .val (.ref b369), .val (.ref b381), .val (.double bd), .second, .unset, .unset] [(.double bd)]))
          refine own_on (fun tq => X401.ldc2DoubleC hx hown391 (mvT hZ391 (hw _ (List.mem_of_getElem? (i := 62) rfl))) (g := (mkF m 174 #[.val (.int p1), .val (.int p2), .val (.int p3), .val (.int p4), .val (.int p5), .val (.int p6), .val (.int bR), .val (.int (((p2.toUInt32 >>> ((2 : Int32) &&& 31).toUInt32).toInt32) &&& (3 : Int32))), .val (.int bR), .val (.int tT), .val (.int kk), .val (.int (0 : Int32)), .val (.int bq), .val (.ref b369), .val (.ref b381), .val (.double bd), .second, .unset, .unset] [(.double bd)])) rfl (hb hby at_174) tq) ?_
          show own_Fin p e below _ (T401.setTop (mkF m 177 #[.val (.int p1), .val (.int p2), .val (.int p3), .val (.int p4), .val (.int p5), .val (.int p6), .val (.int bR), .val (.int (((p2.toUInt32 >>> ((2 : Int32) &&& 31).toUInt32).toInt32) &&& (3 : Int32))), .val (.int bR), .val (.int tT), .val (.int kk), .val (.int (0 : Int32)), .val (.int bq), .val (.ref b369), .val (.ref b381), .val (.double bd), .second, .unset, .unset] [(.double (9218868437227405312 : UInt64)), (.double bd)]))
          refine own_on (fun tq => XS.dcmpS X401.here hx rfl (hb hby at_177) rfl (own_pinf (hbd.trans (if_pos (Or.inl (own_z0 hc368)))))) ?_
          show own_Fin p e below _ (T401.setTop (mkF m 178 #[.val (.int p1), .val (.int p2), .val (.int p3), .val (.int p4), .val (.int p5), .val (.int p6), .val (.int bR), .val (.int (((p2.toUInt32 >>> ((2 : Int32) &&& 31).toUInt32).toInt32) &&& (3 : Int32))), .val (.int bR), .val (.int tT), .val (.int kk), .val (.int (0 : Int32)), .val (.int bq), .val (.ref b369), .val (.ref b381), .val (.double bd), .second, .unset, .unset] [(.int (0 : Int32))]))
          refine own_on (fun tq => XS.ifNo X401.here hx rfl (hb hby at_178) rfl ((if0 _ _).trans (teq (by decide : (0 : Int32) = (0 : Int32))).2)) ?_
          show own_Fin p e below _ (T401.setTop (mkF m 181 #[.val (.int p1), .val (.int p2), .val (.int p3), .val (.int p4), .val (.int p5), .val (.int p6), .val (.int bR), .val (.int (((p2.toUInt32 >>> ((2 : Int32) &&& 31).toUInt32).toInt32) &&& (3 : Int32))), .val (.int bR), .val (.int tT), .val (.int kk), .val (.int (0 : Int32)), .val (.int bq), .val (.ref b369), .val (.ref b381), .val (.double bd), .second, .unset, .unset] []))
          refine own_on (fun tq => XS.iconst X401.here hx rfl (hb hby at_181)) ?_
          show own_Fin p e below _ (T401.setTop (mkF m 182 #[.val (.int p1), .val (.int p2), .val (.int p3), .val (.int p4), .val (.int p5), .val (.int p6), .val (.int bR), .val (.int (((p2.toUInt32 >>> ((2 : Int32) &&& 31).toUInt32).toInt32) &&& (3 : Int32))), .val (.int bR), .val (.int tT), .val (.int kk), .val (.int (0 : Int32)), .val (.int bq), .val (.ref b369), .val (.ref b381), .val (.double bd), .second, .unset, .unset] [(.int (1 : Int32))]))
          refine own_on (fun tq => XS.goto X401.here hx rfl (pc0 := 182) (pc' := 186) rfl (hb hby at_182) (by decide) (by decide)) ?_
          show own_Fin p e below _ (T401.setTop (mkF m 186 #[.val (.int p1), .val (.int p2), .val (.int p3), .val (.int p4), .val (.int p5), .val (.int p6), .val (.int bR), .val (.int (((p2.toUInt32 >>> ((2 : Int32) &&& 31).toUInt32).toInt32) &&& (3 : Int32))), .val (.int bR), .val (.int tT), .val (.int kk), .val (.int (0 : Int32)), .val (.int bq), .val (.ref b369), .val (.ref b381), .val (.double bd), .second, .unset, .unset] [(.int (1 : Int32))]))
          exact own_retW (t := .boolean) X401 (Z := Z) (EL := own_EL) (a0 := a0) hx hlk hret rfl (Or.inl ⟨rfl, (by simp), _, rfl⟩) (hb hby at_186) hS391 (by rw [e401]; exact y393) hZ391 hEL (by rw [hh, e401]; exact y392) (⟨rfl, N401⟩) (by decide) (by decide)
        · refine own_on (fun tq => XS.ifYes X0.here hx rfl (pc0 := 81) (pc' := 88) rfl (hb hby at_81) rfl ((if0 _ _).trans (feq hc368).2) (by decide) (by decide)) ?_
          show own_Fin p e below _ (s₁.setTop (mkF m 88 #[.val (.int p1), .val (.int p2), .val (.int p3), .val (.int p4), .val (.int p5), .val (.int p6), .val (.int bR), .val (.int (((p2.toUInt32 >>> ((2 : Int32) &&& 31).toUInt32).toInt32) &&& (3 : Int32))), .val (.int bR), .val (.int tT), .val (.int kk), .unset, .unset, .unset, .unset, .unset, .unset, .unset, .unset] []))
          refine own_on (fun tq => XS.iload X0.here hx rfl (hb hby at_88) rfl) ?_
          show own_Fin p e below _ (s₁.setTop (mkF m 90 #[.val (.int p1), .val (.int p2), .val (.int p3), .val (.int p4), .val (.int p5), .val (.int p6), .val (.int bR), .val (.int (((p2.toUInt32 >>> ((2 : Int32) &&& 31).toUInt32).toInt32) &&& (3 : Int32))), .val (.int bR), .val (.int tT), .val (.int kk), .unset, .unset, .unset, .unset, .unset, .unset, .unset, .unset] [(.int p6)]))
          refine own_on (fun tq => X0.ldcInt hx hown (mvT hZ (hw _ (List.mem_of_getElem? (i := 1) rfl))) (g := (mkF m 90 #[.val (.int p1), .val (.int p2), .val (.int p3), .val (.int p4), .val (.int p5), .val (.int p6), .val (.int bR), .val (.int (((p2.toUInt32 >>> ((2 : Int32) &&& 31).toUInt32).toInt32) &&& (3 : Int32))), .val (.int bR), .val (.int tT), .val (.int kk), .unset, .unset, .unset, .unset, .unset, .unset, .unset, .unset] [(.int p6)])) rfl (hb hby at_90) tq) ?_
          show own_Fin p e below _ (s₁.setTop (mkF m 92 #[.val (.int p1), .val (.int p2), .val (.int p3), .val (.int p4), .val (.int p5), .val (.int p6), .val (.int bR), .val (.int (((p2.toUInt32 >>> ((2 : Int32) &&& 31).toUInt32).toInt32) &&& (3 : Int32))), .val (.int bR), .val (.int tT), .val (.int kk), .unset, .unset, .unset, .unset, .unset, .unset, .unset, .unset] [(.int (2147483647 : Int32)), (.int p6)]))
          refine own_on (fun tq => XS.iand X0.here hx rfl (hb hby at_92) rfl) ?_
          show own_Fin p e below _ (s₁.setTop (mkF m 93 #[.val (.int p1), .val (.int p2), .val (.int p3), .val (.int p4), .val (.int p5), .val (.int p6), .val (.int bR), .val (.int (((p2.toUInt32 >>> ((2 : Int32) &&& 31).toUInt32).toInt32) &&& (3 : Int32))), .val (.int bR), .val (.int tT), .val (.int kk), .unset, .unset, .unset, .unset, .unset, .unset, .unset, .unset] [(.int (p6 &&& (2147483647 : Int32)))]))
          refine own_on (fun tq => XS.iload X0.here hx rfl (hb hby at_93) rfl) ?_
          show own_Fin p e below _ (s₁.setTop (mkF m 95 #[.val (.int p1), .val (.int p2), .val (.int p3), .val (.int p4), .val (.int p5), .val (.int p6), .val (.int bR), .val (.int (((p2.toUInt32 >>> ((2 : Int32) &&& 31).toUInt32).toInt32) &&& (3 : Int32))), .val (.int bR), .val (.int tT), .val (.int kk), .unset, .unset, .unset, .unset, .unset, .unset, .unset, .unset] [(.int bR), (.int (p6 &&& (2147483647 : Int32)))]))
          refine own_on (fun tq => iremM X0 hx rfl (hb hby at_95) rfl hc368) ?_
          show own_Fin p e below _ (s₁.setTop (mkF m 96 #[.val (.int p1), .val (.int p2), .val (.int p3), .val (.int p4), .val (.int p5), .val (.int p6), .val (.int bR), .val (.int (((p2.toUInt32 >>> ((2 : Int32) &&& 31).toUInt32).toInt32) &&& (3 : Int32))), .val (.int bR), .val (.int tT), .val (.int kk), .unset, .unset, .unset, .unset, .unset, .unset, .unset, .unset] [(.int ((p6 &&& (2147483647 : Int32)) % bR))]))
          refine own_on (fun tq => XS.istore X0.here hx rfl (hb hby at_96) rfl (l' := #[.val (.int p1), .val (.int p2), .val (.int p3), .val (.int p4), .val (.int p5), .val (.int p6), .val (.int bR), .val (.int (((p2.toUInt32 >>> ((2 : Int32) &&& 31).toUInt32).toInt32) &&& (3 : Int32))), .val (.int bR), .val (.int tT), .val (.int kk), .val (.int ((p6 &&& (2147483647 : Int32)) % bR)), .unset, .unset, .unset, .unset, .unset, .unset, .unset]) rfl) ?_
          show own_Fin p e below _ (s₁.setTop (mkF m 98 #[.val (.int p1), .val (.int p2), .val (.int p3), .val (.int p4), .val (.int p5), .val (.int p6), .val (.int bR), .val (.int (((p2.toUInt32 >>> ((2 : Int32) &&& 31).toUInt32).toInt32) &&& (3 : Int32))), .val (.int bR), .val (.int tT), .val (.int kk), .val (.int ((p6 &&& (2147483647 : Int32)) % bR)), .unset, .unset, .unset, .unset, .unset, .unset, .unset] []))
          obtain ⟨mq, hmq⟩ : ∃ q : Int32, q = ((p6 &&& (2147483647 : Int32)) % bR) := ⟨_, rfl⟩
          have rm : 0 ≤ mq.toInt ∧ mq.toInt < bR.toInt := hmq ▸ own_rm rR hc368
          rw [← hmq]
          show own_Fin p e below _ (s₁.setTop (mkF m 98 #[.val (.int p1), .val (.int p2), .val (.int p3), .val (.int p4), .val (.int p5), .val (.int p6), .val (.int bR), .val (.int (((p2.toUInt32 >>> ((2 : Int32) &&& 31).toUInt32).toInt32) &&& (3 : Int32))), .val (.int bR), .val (.int tT), .val (.int kk), .val (.int mq), .unset, .unset, .unset, .unset, .unset, .unset, .unset] []))
          refine own_on (fun tq => XS.iload X0.here hx rfl (hb hby at_98) rfl) ?_
          show own_Fin p e below _ (s₁.setTop (mkF m 100 #[.val (.int p1), .val (.int p2), .val (.int p3), .val (.int p4), .val (.int p5), .val (.int p6), .val (.int bR), .val (.int (((p2.toUInt32 >>> ((2 : Int32) &&& 31).toUInt32).toInt32) &&& (3 : Int32))), .val (.int bR), .val (.int tT), .val (.int kk), .val (.int mq), .unset, .unset, .unset, .unset, .unset, .unset, .unset] [(.int bR)]))
          refine own_on (fun tq => XS.ifYes X0.here hx rfl (pc0 := 100) (pc' := 111) rfl (hb hby at_100) rfl ((if0 _ _).trans (feq hc368).2) (by decide) (by decide)) ?_
          show own_Fin p e below _ (s₁.setTop (mkF m 111 #[.val (.int p1), .val (.int p2), .val (.int p3), .val (.int p4), .val (.int p5), .val (.int p6), .val (.int bR), .val (.int (((p2.toUInt32 >>> ((2 : Int32) &&& 31).toUInt32).toInt32) &&& (3 : Int32))), .val (.int bR), .val (.int tT), .val (.int kk), .val (.int mq), .unset, .unset, .unset, .unset, .unset, .unset, .unset] []))
          refine own_on (fun tq => XS.iload X0.here hx rfl (hb hby at_111) rfl) ?_
          show own_Fin p e below _ (s₁.setTop (mkF m 113 #[.val (.int p1), .val (.int p2), .val (.int p3), .val (.int p4), .val (.int p5), .val (.int p6), .val (.int bR), .val (.int (((p2.toUInt32 >>> ((2 : Int32) &&& 31).toUInt32).toInt32) &&& (3 : Int32))), .val (.int bR), .val (.int tT), .val (.int kk), .val (.int mq), .unset, .unset, .unset, .unset, .unset, .unset, .unset] [(.int bR)]))
          refine own_on (fun tq => XS.iload X0.here hx rfl (hb hby at_113) rfl) ?_
          show own_Fin p e below _ (s₁.setTop (mkF m 115 #[.val (.int p1), .val (.int p2), .val (.int p3), .val (.int p4), .val (.int p5), .val (.int p6), .val (.int bR), .val (.int (((p2.toUInt32 >>> ((2 : Int32) &&& 31).toUInt32).toInt32) &&& (3 : Int32))), .val (.int bR), .val (.int tT), .val (.int kk), .val (.int mq), .unset, .unset, .unset, .unset, .unset, .unset, .unset] [(.int kk), (.int bR)]))
          refine own_on (fun tq => XS.imul X0.here hx rfl (hb hby at_115) rfl) ?_
          show own_Fin p e below _ (s₁.setTop (mkF m 116 #[.val (.int p1), .val (.int p2), .val (.int p3), .val (.int p4), .val (.int p5), .val (.int p6), .val (.int bR), .val (.int (((p2.toUInt32 >>> ((2 : Int32) &&& 31).toUInt32).toInt32) &&& (3 : Int32))), .val (.int bR), .val (.int tT), .val (.int kk), .val (.int mq), .unset, .unset, .unset, .unset, .unset, .unset, .unset] [(.int (bR * kk))]))
          refine own_on (fun tq => XS.iload X0.here hx rfl (hb hby at_116) rfl) ?_
          show own_Fin p e below _ (s₁.setTop (mkF m 118 #[.val (.int p1), .val (.int p2), .val (.int p3), .val (.int p4), .val (.int p5), .val (.int p6), .val (.int bR), .val (.int (((p2.toUInt32 >>> ((2 : Int32) &&& 31).toUInt32).toInt32) &&& (3 : Int32))), .val (.int bR), .val (.int tT), .val (.int kk), .val (.int mq), .unset, .unset, .unset, .unset, .unset, .unset, .unset] [(.int mq), (.int (bR * kk))]))
          refine own_on (fun tq => XS.iadd X0.here hx rfl (hb hby at_118) rfl) ?_
          show own_Fin p e below _ (s₁.setTop (mkF m 119 #[.val (.int p1), .val (.int p2), .val (.int p3), .val (.int p4), .val (.int p5), .val (.int p6), .val (.int bR), .val (.int (((p2.toUInt32 >>> ((2 : Int32) &&& 31).toUInt32).toInt32) &&& (3 : Int32))), .val (.int bR), .val (.int tT), .val (.int kk), .val (.int mq), .unset, .unset, .unset, .unset, .unset, .unset, .unset] [(.int ((bR * kk) + mq))]))
          refine own_on (fun tq => XS.istore X0.here hx rfl (hb hby at_119) rfl (l' := #[.val (.int p1), .val (.int p2), .val (.int p3), .val (.int p4), .val (.int p5), .val (.int p6), .val (.int bR), .val (.int (((p2.toUInt32 >>> ((2 : Int32) &&& 31).toUInt32).toInt32) &&& (3 : Int32))), .val (.int bR), .val (.int tT), .val (.int kk), .val (.int mq), .val (.int ((bR * kk) + mq)), .unset, .unset, .unset, .unset, .unset, .unset]) rfl) ?_
          show own_Fin p e below _ (s₁.setTop (mkF m 121 #[.val (.int p1), .val (.int p2), .val (.int p3), .val (.int p4), .val (.int p5), .val (.int p6), .val (.int bR), .val (.int (((p2.toUInt32 >>> ((2 : Int32) &&& 31).toUInt32).toInt32) &&& (3 : Int32))), .val (.int bR), .val (.int tT), .val (.int kk), .val (.int mq), .val (.int ((bR * kk) + mq)), .unset, .unset, .unset, .unset, .unset, .unset] []))
          obtain ⟨bq, hbq⟩ : ∃ q : Int32, q = ((bR * kk) + mq) := ⟨_, rfl⟩
          have hbb : bq.toInt = bR.toInt * kk.toInt + mq.toInt ∧ 0 ≤ bq.toInt := hbq ▸ own_rb rR rk rm
          rw [← hbq]
          show own_Fin p e below _ (s₁.setTop (mkF m 121 #[.val (.int p1), .val (.int p2), .val (.int p3), .val (.int p4), .val (.int p5), .val (.int p6), .val (.int bR), .val (.int (((p2.toUInt32 >>> ((2 : Int32) &&& 31).toUInt32).toInt32) &&& (3 : Int32))), .val (.int bR), .val (.int tT), .val (.int kk), .val (.int mq), .val (.int bq), .unset, .unset, .unset, .unset, .unset, .unset] []))
          obtain ⟨T402, h402, X402, e402, E402, A402, D402, -, st402⟩ := newO X0 hx hZ hown (hw _ (List.mem_of_getElem? (i := 2) rfl)) (hw _ (List.mem_of_getElem? (i := 3) rfl)) (hw _ (List.mem_of_getElem? (i := 4) rfl)) e0 (g := (mkF m 121 #[.val (.int p1), .val (.int p2), .val (.int p3), .val (.int p4), .val (.int p5), .val (.int p6), .val (.int bR), .val (.int (((p2.toUInt32 >>> ((2 : Int32) &&& 31).toUInt32).toInt32) &&& (3 : Int32))), .val (.int bR), .val (.int tT), .val (.int kk), .val (.int mq), .val (.int bq), .unset, .unset, .unset, .unset, .unset, .unset] [])) rfl (hb hby at_121) (by decide) (by decide)
          obtain ⟨b402, g402⟩ : ∃ z, z = h0.size := ⟨_, rfl⟩
          rw [← g402] at A402 D402 st402
          have y403 := (CHv.ext E402 CH0)
          have y404 := (CHr.trans (CHr.refl CH0) (CHr.ext E402 CH0))
          have y405 := (Nat.le_trans (Nat.zero_le _) E402.1)
          have y406 := (Nat.le_trans Z0 E402.1)
          have y407 := (Safe.ext E402 CH0 (Safe.new (Nat.le_of_eq g402.symm)))
          have gn402 : n0 ≤ b402 := Nat.le_trans Z0 (Nat.le_of_eq g402.symm)
          have F402_rate : Fld Z h402 b402 "com/example/curves_to_bounds/curvestobounds/curve/RateLatency" "rate" "D" (.double (0 : UInt64)) := D402 (Or.inr (hw _ (List.mem_of_getElem? (i := 39) rfl))) (ty := .double) (by decide)
          have F402_latency : Fld Z h402 b402 "com/example/curves_to_bounds/curvestobounds/curve/RateLatency" "latency" "D" (.double (0 : UInt64)) := D402 (Or.inr (hw _ (List.mem_of_getElem? (i := 41) rfl))) (ty := .double) (by decide)
          refine own_on st402 ?_
          show own_Fin p e below _ (T402.setTop (mkF m 124 #[.val (.int p1), .val (.int p2), .val (.int p3), .val (.int p4), .val (.int p5), .val (.int p6), .val (.int bR), .val (.int (((p2.toUInt32 >>> ((2 : Int32) &&& 31).toUInt32).toInt32) &&& (3 : Int32))), .val (.int bR), .val (.int tT), .val (.int kk), .val (.int mq), .val (.int bq), .unset, .unset, .unset, .unset, .unset, .unset] [(.ref b402)]))
          refine own_on (fun tq => XS.dup X402.here hx rfl (hb hby at_124) rfl rfl) ?_
          show own_Fin p e below _ (T402.setTop (mkF m 125 #[.val (.int p1), .val (.int p2), .val (.int p3), .val (.int p4), .val (.int p5), .val (.int p6), .val (.int bR), .val (.int (((p2.toUInt32 >>> ((2 : Int32) &&& 31).toUInt32).toInt32) &&& (3 : Int32))), .val (.int bR), .val (.int tT), .val (.int kk), .val (.int mq), .val (.int bq), .unset, .unset, .unset, .unset, .unset, .unset] [(.ref b402), (.ref b402)]))
          refine own_on (fun tq => XS.iload X402.here hx rfl (hb hby at_125) rfl) ?_
          show own_Fin p e below _ (T402.setTop (mkF m 127 #[.val (.int p1), .val (.int p2), .val (.int p3), .val (.int p4), .val (.int p5), .val (.int p6), .val (.int bR), .val (.int (((p2.toUInt32 >>> ((2 : Int32) &&& 31).toUInt32).toInt32) &&& (3 : Int32))), .val (.int bR), .val (.int tT), .val (.int kk), .val (.int mq), .val (.int bq), .unset, .unset, .unset, .unset, .unset, .unset] [(.int bR), (.ref b402), (.ref b402)]))
          refine own_on (fun tq => XS.i2dS X402.here hx rfl (hb hby at_127) rfl (i2d_w _)) ?_
          show own_Fin p e below _ (T402.setTop (mkF m 128 #[.val (.int p1), .val (.int p2), .val (.int p3), .val (.int p4), .val (.int p5), .val (.int p6), .val (.int bR), .val (.int (((p2.toUInt32 >>> ((2 : Int32) &&& 31).toUInt32).toInt32) &&& (3 : Int32))), .val (.int bR), .val (.int tT), .val (.int kk), .val (.int mq), .val (.int bq), .unset, .unset, .unset, .unset, .unset, .unset] [(.double (FP.l2d bR.toInt64)), (.ref b402), (.ref b402)]))
          refine own_on (fun tq => XS.iload X402.here hx rfl (hb hby at_128) rfl) ?_
          show own_Fin p e below _ (T402.setTop (mkF m 130 #[.val (.int p1), .val (.int p2), .val (.int p3), .val (.int p4), .val (.int p5), .val (.int p6), .val (.int bR), .val (.int (((p2.toUInt32 >>> ((2 : Int32) &&& 31).toUInt32).toInt32) &&& (3 : Int32))), .val (.int bR), .val (.int tT), .val (.int kk), .val (.int mq), .val (.int bq), .unset, .unset, .unset, .unset, .unset, .unset] [(.int tT), (.double (FP.l2d bR.toInt64)), (.ref b402), (.ref b402)]))
          refine own_on (fun tq => XS.i2dS X402.here hx rfl (hb hby at_130) rfl (i2d_w _)) ?_
          show own_Fin p e below _ (T402.setTop (mkF m 131 #[.val (.int p1), .val (.int p2), .val (.int p3), .val (.int p4), .val (.int p5), .val (.int p6), .val (.int bR), .val (.int (((p2.toUInt32 >>> ((2 : Int32) &&& 31).toUInt32).toInt32) &&& (3 : Int32))), .val (.int bR), .val (.int tT), .val (.int kk), .val (.int mq), .val (.int bq), .unset, .unset, .unset, .unset, .unset, .unset] [(.double (FP.l2d tT.toInt64)), (.double (FP.l2d bR.toInt64)), (.ref b402), (.ref b402)]))
          obtain ⟨_, _, ⟨T408, L408, k408, n408⟩, -, X408', S408', gr408, ⟨Lc408, hQ408, l408, y408, z408, A408⟩, st408⟩ := X402.specialBackS hx (y := (⟨"com/example/curves_to_bounds/curvestobounds/curve/RateLatency", "<init>", "(DD)V"⟩ : MethodName)) rfl hown (mvT hZ (hw _ (List.mem_of_getElem? (i := 5) rfl))) (mvT hZ (hw _ (List.mem_of_getElem? (i := 6) rfl))) (mvT hZ (hw _ (List.mem_of_getElem? (i := 7) rfl))) (by decide) (backOfSH (s := s) (W := 1) (rm1 l Z a0 hw [] b402 (FP.l2d bR.toInt64) (FP.l2d tT.toInt64) h402 n0 (by exact y406) hEL (own_okI rR.1) (own_okI rT.1) A402 F402_rate F402_latency gn402) hZ (hw _ (List.mem_of_getElem? (i := 7) rfl)) (hw _ (List.mem_of_getElem? (i := 4) rfl)) (by decide) (by decide) hEL y403) (g := (mkF m 131 #[.val (.int p1), .val (.int p2), .val (.int p3), .val (.int p4), .val (.int p5), .val (.int p6), .val (.int bR), .val (.int (((p2.toUInt32 >>> ((2 : Int32) &&& 31).toUInt32).toInt32) &&& (3 : Int32))), .val (.int bR), .val (.int tT), .val (.int kk), .val (.int mq), .val (.int bq), .unset, .unset, .unset, .unset, .unset, .unset] [(.double (FP.l2d tT.toInt64)), (.double (FP.l2d bR.toInt64)), (.ref b402), (.ref b402)])) rfl (by rw [hml]; rfl) (Steps.refl _) (a := b402) (argsL := [(.double (FP.l2d bR.toInt64)), (.double (FP.l2d tT.toInt64))]) (rest := [(.ref b402)]) (lenOf pd_5 rfl) rfl (by show 2 * 0 + _ ≤ _; exact Nat.le_of_eq rfl) (hb hby at_131) (fun _ _ => ⟨rfl, e402, (by decide : 1 + 4 ≤ _), (by decide : 2 + 52 ≤ _)⟩)
          dsimp only [Pt.U, Pt.locs, Pt.cells, Pt.slots] at X408' S408' gr408 l408 y408 z408 st408 hQ408 A408
          subst l408 y408 z408
          obtain ⟨X408, hS408, hZ408, hown408⟩ := rebS hS0 (by first | exact y405 | (rw [e402]; exact y405)) X408' S408' gr408 hZ hown
          obtain ⟨rfl, N408q, K408, E408q, F408a, F408b⟩ := hQ408
          have N408 := Fr.app N0 N408q
          have y409 := (CHr.trans y404 A408)
          have y410 := (Nat.le_refl (Array.size T408.heap))
          have y411 := (Nat.le_trans y406 K408.1)
          have y412 := (CHr.safe A408 F402_latency.lt y407)
          have y413 := (A402.keep K408)
          refine own_via st408 ?_
          show own_Fin p e below _ (T408.setTop (mkF m 134 #[.val (.int p1), .val (.int p2), .val (.int p3), .val (.int p4), .val (.int p5), .val (.int p6), .val (.int bR), .val (.int (((p2.toUInt32 >>> ((2 : Int32) &&& 31).toUInt32).toInt32) &&& (3 : Int32))), .val (.int bR), .val (.int tT), .val (.int kk), .val (.int mq), .val (.int bq), .unset, .unset, .unset, .unset, .unset, .unset] [(.ref b402)]))
          refine own_on (fun tq => XS.astore X408.here hx rfl (hb hby at_134) rfl rfl (l' := #[.val (.int p1), .val (.int p2), .val (.int p3), .val (.int p4), .val (.int p5), .val (.int p6), .val (.int bR), .val (.int (((p2.toUInt32 >>> ((2 : Int32) &&& 31).toUInt32).toInt32) &&& (3 : Int32))), .val (.int bR), .val (.int tT), .val (.int kk), .val (.int mq), .val (.int bq), .val (.ref b402), .unset, .unset, .unset, .unset, .unset]) rfl) ?_
          show own_Fin p e below _ (T408.setTop (mkF m 136 #[.val (.int p1), .val (.int p2), .val (.int p3), .val (.int p4), .val (.int p5), .val (.int p6), .val (.int bR), .val (.int (((p2.toUInt32 >>> ((2 : Int32) &&& 31).toUInt32).toInt32) &&& (3 : Int32))), .val (.int bR), .val (.int tT), .val (.int kk), .val (.int mq), .val (.int bq), .val (.ref b402), .unset, .unset, .unset, .unset, .unset] []))
          obtain ⟨T414, h414, X414, e414, E414, A414, D414, -, st414⟩ := newO X408 hx hZ408 hown408 (hw _ (List.mem_of_getElem? (i := 42) rfl)) (hw _ (List.mem_of_getElem? (i := 43) rfl)) (hw _ (List.mem_of_getElem? (i := 44) rfl)) rfl (g := (mkF m 136 #[.val (.int p1), .val (.int p2), .val (.int p3), .val (.int p4), .val (.int p5), .val (.int p6), .val (.int bR), .val (.int (((p2.toUInt32 >>> ((2 : Int32) &&& 31).toUInt32).toInt32) &&& (3 : Int32))), .val (.int bR), .val (.int tT), .val (.int kk), .val (.int mq), .val (.int bq), .val (.ref b402), .unset, .unset, .unset, .unset, .unset] [])) rfl (hb hby at_136) (by decide) (by decide)
          obtain ⟨b414, g414⟩ : ∃ z, z = T408.heap.size := ⟨_, rfl⟩
          rw [← g414] at A414 D414 st414
          have ne414_b402 : b402 ≠ b414 := own_ne_of (Z := Z) E408q.lt g414
          have y415 := (CHv.ext E414 A408.1)
          have y416 := (CHr.trans y409 (CHr.ext E414 A408.1))
          have y417 := (Nat.le_trans y410 E414.1)
          have y418 := (Nat.le_trans y411 E414.1)
          have y419 := (Safe.ext E414 A408.1 y412)
          have y420 := (E408q.ext E414)
          have y421 := (F408a.ext E414)
          have y422 := (F408b.ext E414)
          have y423 := (Safe.ext E414 A408.1 (Safe.new (Nat.le_of_eq g414.symm)))
          have gn414 : n0 ≤ b414 := Nat.le_trans y411 (Nat.le_of_eq g414.symm)
          have F414_rate : Fld Z h414 b414 "com/example/curves_to_bounds/curvestobounds/curve/TokenBucket" "rate" "D" (.double (0 : UInt64)) := D414 (Or.inr (hw _ (List.mem_of_getElem? (i := 53) rfl))) (ty := .double) (by decide)
          have F414_burst : Fld Z h414 b414 "com/example/curves_to_bounds/curvestobounds/curve/TokenBucket" "burst" "D" (.double (0 : UInt64)) := D414 (Or.inr (hw _ (List.mem_of_getElem? (i := 55) rfl))) (ty := .double) (by decide)
          refine own_on st414 ?_
          show own_Fin p e below _ (T414.setTop (mkF m 139 #[.val (.int p1), .val (.int p2), .val (.int p3), .val (.int p4), .val (.int p5), .val (.int p6), .val (.int bR), .val (.int (((p2.toUInt32 >>> ((2 : Int32) &&& 31).toUInt32).toInt32) &&& (3 : Int32))), .val (.int bR), .val (.int tT), .val (.int kk), .val (.int mq), .val (.int bq), .val (.ref b402), .unset, .unset, .unset, .unset, .unset] [(.ref b414)]))
          refine own_on (fun tq => XS.dup X414.here hx rfl (hb hby at_139) rfl rfl) ?_
          show own_Fin p e below _ (T414.setTop (mkF m 140 #[.val (.int p1), .val (.int p2), .val (.int p3), .val (.int p4), .val (.int p5), .val (.int p6), .val (.int bR), .val (.int (((p2.toUInt32 >>> ((2 : Int32) &&& 31).toUInt32).toInt32) &&& (3 : Int32))), .val (.int bR), .val (.int tT), .val (.int kk), .val (.int mq), .val (.int bq), .val (.ref b402), .unset, .unset, .unset, .unset, .unset] [(.ref b414), (.ref b414)]))
          refine own_on (fun tq => XS.iload X414.here hx rfl (hb hby at_140) rfl) ?_
          show own_Fin p e below _ (T414.setTop (mkF m 142 #[.val (.int p1), .val (.int p2), .val (.int p3), .val (.int p4), .val (.int p5), .val (.int p6), .val (.int bR), .val (.int (((p2.toUInt32 >>> ((2 : Int32) &&& 31).toUInt32).toInt32) &&& (3 : Int32))), .val (.int bR), .val (.int tT), .val (.int kk), .val (.int mq), .val (.int bq), .val (.ref b402), .unset, .unset, .unset, .unset, .unset] [(.int bR), (.ref b414), (.ref b414)]))
          refine own_on (fun tq => XS.i2dS X414.here hx rfl (hb hby at_142) rfl (i2d_w _)) ?_
          show own_Fin p e below _ (T414.setTop (mkF m 143 #[.val (.int p1), .val (.int p2), .val (.int p3), .val (.int p4), .val (.int p5), .val (.int p6), .val (.int bR), .val (.int (((p2.toUInt32 >>> ((2 : Int32) &&& 31).toUInt32).toInt32) &&& (3 : Int32))), .val (.int bR), .val (.int tT), .val (.int kk), .val (.int mq), .val (.int bq), .val (.ref b402), .unset, .unset, .unset, .unset, .unset] [(.double (FP.l2d bR.toInt64)), (.ref b414), (.ref b414)]))
          refine own_on (fun tq => XS.iload X414.here hx rfl (hb hby at_143) rfl) ?_
          show own_Fin p e below _ (T414.setTop (mkF m 145 #[.val (.int p1), .val (.int p2), .val (.int p3), .val (.int p4), .val (.int p5), .val (.int p6), .val (.int bR), .val (.int (((p2.toUInt32 >>> ((2 : Int32) &&& 31).toUInt32).toInt32) &&& (3 : Int32))), .val (.int bR), .val (.int tT), .val (.int kk), .val (.int mq), .val (.int bq), .val (.ref b402), .unset, .unset, .unset, .unset, .unset] [(.int bq), (.double (FP.l2d bR.toInt64)), (.ref b414), (.ref b414)]))
          refine own_on (fun tq => XS.i2dS X414.here hx rfl (hb hby at_145) rfl (i2d_w _)) ?_
          show own_Fin p e below _ (T414.setTop (mkF m 146 #[.val (.int p1), .val (.int p2), .val (.int p3), .val (.int p4), .val (.int p5), .val (.int p6), .val (.int bR), .val (.int (((p2.toUInt32 >>> ((2 : Int32) &&& 31).toUInt32).toInt32) &&& (3 : Int32))), .val (.int bR), .val (.int tT), .val (.int kk), .val (.int mq), .val (.int bq), .val (.ref b402), .unset, .unset, .unset, .unset, .unset] [(.double (FP.l2d bq.toInt64)), (.double (FP.l2d bR.toInt64)), (.ref b414), (.ref b414)]))
          obtain ⟨_, _, ⟨T424, L424, k424, n424⟩, -, X424', S424', gr424, ⟨Lc424, hQ424, l424, y424, z424, A424⟩, st424⟩ := X414.specialBackS hx (y := (⟨"com/example/curves_to_bounds/curvestobounds/curve/TokenBucket", "<init>", "(DD)V"⟩ : MethodName)) rfl hown408 (mvT hZ408 (hw _ (List.mem_of_getElem? (i := 45) rfl))) (mvT hZ408 (hw _ (List.mem_of_getElem? (i := 46) rfl))) (mvT hZ408 (hw _ (List.mem_of_getElem? (i := 47) rfl))) (by decide) (backOfSH (s := s) (W := 1) (rm7 l Z a0 hw [] b414 (FP.l2d bR.toInt64) (FP.l2d bq.toInt64) h414 n0 (by exact y418) hEL (own_okI rR.1) (own_okI hbb.2) A414 F414_rate F414_burst gn414) hZ408 (hw _ (List.mem_of_getElem? (i := 47) rfl)) (hw _ (List.mem_of_getElem? (i := 44) rfl)) (by decide) (by decide) hEL y415) (g := (mkF m 146 #[.val (.int p1), .val (.int p2), .val (.int p3), .val (.int p4), .val (.int p5), .val (.int p6), .val (.int bR), .val (.int (((p2.toUInt32 >>> ((2 : Int32) &&& 31).toUInt32).toInt32) &&& (3 : Int32))), .val (.int bR), .val (.int tT), .val (.int kk), .val (.int mq), .val (.int bq), .val (.ref b402), .unset, .unset, .unset, .unset, .unset] [(.double (FP.l2d bq.toInt64)), (.double (FP.l2d bR.toInt64)), (.ref b414), (.ref b414)])) rfl (by rw [hml]; rfl) (Steps.refl _) (a := b414) (argsL := [(.double (FP.l2d bR.toInt64)), (.double (FP.l2d bq.toInt64))]) (rest := [(.ref b414)]) (lenOf pd_5 rfl) rfl (by show 2 * 0 + _ ≤ _; exact Nat.le_of_eq rfl) (hb hby at_146) (fun _ _ => ⟨rfl, e414, (by decide : 6 + 4 ≤ _), (by decide : 56 + 44 ≤ _)⟩)
          dsimp only [Pt.U, Pt.locs, Pt.cells, Pt.slots] at X424' S424' gr424 l424 y424 z424 st424 hQ424 A424
          subst l424 y424 z424
          obtain ⟨X424, hS424, hZ424, hown424⟩ := rebS hS408 (by first | exact y417 | (rw [e414]; exact y417)) X424' S424' gr424 hZ408 hown408
          obtain ⟨rfl, N424q, K424, E424q, F424a, F424b⟩ := hQ424
          have N424 := Fr.app N408 N424q
          have y425 := (CHr.trans y416 A424)
          have y426 := (Nat.le_refl (Array.size T424.heap))
          have y427 := (Nat.le_trans y418 K424.1)
          have y428 := (CHr.safe A424 y422.lt y419)
          have y429 := (y420.keep K424)
          have y430 := (y421.keep K424 (ninS ne414_b402 nin0))
          have y431 := (y422.keep K424 (ninS ne414_b402 nin0))
          have y432 := (CHr.safe A424 F414_burst.lt y423)
          have y433 := (A414.keep K424)
          refine own_via st424 ?_
          show own_Fin p e below _ (T424.setTop (mkF m 149 #[.val (.int p1), .val (.int p2), .val (.int p3), .val (.int p4), .val (.int p5), .val (.int p6), .val (.int bR), .val (.int (((p2.toUInt32 >>> ((2 : Int32) &&& 31).toUInt32).toInt32) &&& (3 : Int32))), .val (.int bR), .val (.int tT), .val (.int kk), .val (.int mq), .val (.int bq), .val (.ref b402), .unset, .unset, .unset, .unset, .unset] [(.ref b414)]))
          refine own_on (fun tq => XS.astore X424.here hx rfl (hb hby at_149) rfl rfl (l' := #[.val (.int p1), .val (.int p2), .val (.int p3), .val (.int p4), .val (.int p5), .val (.int p6), .val (.int bR), .val (.int (((p2.toUInt32 >>> ((2 : Int32) &&& 31).toUInt32).toInt32) &&& (3 : Int32))), .val (.int bR), .val (.int tT), .val (.int kk), .val (.int mq), .val (.int bq), .val (.ref b402), .val (.ref b414), .unset, .unset, .unset, .unset]) rfl) ?_
          show own_Fin p e below _ (T424.setTop (mkF m 151 #[.val (.int p1), .val (.int p2), .val (.int p3), .val (.int p4), .val (.int p5), .val (.int p6), .val (.int bR), .val (.int (((p2.toUInt32 >>> ((2 : Int32) &&& 31).toUInt32).toInt32) &&& (3 : Int32))), .val (.int bR), .val (.int tT), .val (.int kk), .val (.int mq), .val (.int bq), .val (.ref b402), .val (.ref b414), .unset, .unset, .unset, .unset] []))
          refine own_on (fun tq => XS.aload X424.here hx rfl (hb hby at_151) rfl rfl) ?_
          show own_Fin p e below _ (T424.setTop (mkF m 153 #[.val (.int p1), .val (.int p2), .val (.int p3), .val (.int p4), .val (.int p5), .val (.int p6), .val (.int bR), .val (.int (((p2.toUInt32 >>> ((2 : Int32) &&& 31).toUInt32).toInt32) &&& (3 : Int32))), .val (.int bR), .val (.int tT), .val (.int kk), .val (.int mq), .val (.int bq), .val (.ref b402), .val (.ref b414), .unset, .unset, .unset, .unset] [(.ref b402)]))
          refine own_on (fun tq => XS.aload X424.here hx rfl (hb hby at_153) rfl rfl) ?_
          show own_Fin p e below _ (T424.setTop (mkF m 155 #[.val (.int p1), .val (.int p2), .val (.int p3), .val (.int p4), .val (.int p5), .val (.int p6), .val (.int bR), .val (.int (((p2.toUInt32 >>> ((2 : Int32) &&& 31).toUInt32).toInt32) &&& (3 : Int32))), .val (.int bR), .val (.int tT), .val (.int kk), .val (.int mq), .val (.int bq), .val (.ref b402), .val (.ref b414), .unset, .unset, .unset, .unset] [(.ref b414), (.ref b402)]))
          obtain ⟨cq434, kq434, q434a, q434b, q434c⟩ := isOf hZ424 rfl y429
          obtain ⟨_, _, ⟨T434, L434, k434, n434⟩, -, X434, ⟨Lc434, hQ434, l434, y434, z434⟩, st434⟩ := X424.virtualBack hx (y := (⟨"com/example/curves_to_bounds/curvestobounds/curve/RateLatency", "delayBound", "(Lcom/example/curves_to_bounds/curvestobounds/curve/TokenBucket;)D"⟩ : MethodName)) (z := (⟨"com/example/curves_to_bounds/curvestobounds/curve/RateLatency", "delayBound", "(Lcom/example/curves_to_bounds/curvestobounds/curve/TokenBucket;)D"⟩ : MethodName)) hown424 (mvT hZ424 (hw _ (List.mem_of_getElem? (i := 56) rfl))) (mvT hZ424 (hw _ (List.mem_of_getElem? (i := 57) rfl))) (notFace_of_selects (args := #[]) (mvT hZ424 (hw _ (List.mem_of_getElem? (i := 59) rfl)))) (mvT hZ424 (hw _ (List.mem_of_getElem? (i := 59) rfl))) (mvT hZ424 (hw _ (List.mem_of_getElem? (i := 58) rfl))) (by decide) (backOf (W := 0) (rm8 l Z a0 hw [] b402 b414 (bR.toInt64) (tT.toInt64) (bR.toInt64) (bq.toInt64) T424.heap n0 (by exact y427) y430 y431 F424a F424b E424q (own_b32 _) (own_b32 _) (fun _ => own_nn rR hc368 rT rk rm hbb.1)) hZ424 (hw _ (List.mem_of_getElem? (i := 60) rfl)) (hw _ (List.mem_of_getElem? (i := 4) rfl)) (by decide) (by decide)) q434a q434c (g := (mkF m 155 #[.val (.int p1), .val (.int p2), .val (.int p3), .val (.int p4), .val (.int p5), .val (.int p6), .val (.int bR), .val (.int (((p2.toUInt32 >>> ((2 : Int32) &&& 31).toUInt32).toInt32) &&& (3 : Int32))), .val (.int bR), .val (.int tT), .val (.int kk), .val (.int mq), .val (.int bq), .val (.ref b402), .val (.ref b414), .unset, .unset, .unset, .unset] [(.ref b414), (.ref b402)])) rfl (by rw [hml]; rfl) (Steps.refl _) (argsL := [(.ref b414)]) (rest := []) (lenOf pd_6 rfl) rfl (by show 2 * 0 + _ ≤ _; exact Nat.le_of_eq rfl) (hb hby at_155) (fun _ _ => ⟨rfl, rfl, (by decide : 10 + 0 ≤ _), (by decide : 100 + 0 ≤ _)⟩)
          dsimp only [Pt.U, Pt.locs, Pt.cells, Pt.slots] at X434 l434 y434 z434 st434 hQ434
          subst l434 y434 z434
          obtain ⟨rfl, N434q, e434⟩ := hQ434
          have N434 := Fr.app N424 N434q
          refine own_via st434 ?_
          show own_Fin p e below _ (T434.setTop (mkF m 158 #[.val (.int p1), .val (.int p2), .val (.int p3), .val (.int p4), .val (.int p5), .val (.int p6), .val (.int bR), .val (.int (((p2.toUInt32 >>> ((2 : Int32) &&& 31).toUInt32).toInt32) &&& (3 : Int32))), .val (.int bR), .val (.int tT), .val (.int kk), .val (.int mq), .val (.int bq), .val (.ref b402), .val (.ref b414), .unset, .unset, .unset, .unset] [(.double (if bR.toInt64 = 0 ∨ bR.toInt64 < bR.toInt64 then (9218868437227405312 : UInt64) else FP.dadd (FP.l2d tT.toInt64) (FP.ddiv (FP.l2d bq.toInt64) (FP.l2d bR.toInt64))))]))
          obtain ⟨bd, hbd⟩ : ∃ q : UInt64, q = (if bR.toInt64 = 0 ∨ bR.toInt64 < bR.toInt64 then (9218868437227405312 : UInt64) else FP.dadd (FP.l2d tT.toInt64) (FP.ddiv (FP.l2d bq.toInt64) (FP.l2d bR.toInt64))) := ⟨_, rfl⟩
          rw [← hbd]
          show own_Fin p e below _ (T434.setTop (mkF m 158 #[.val (.int p1), .val (.int p2), .val (.int p3), .val (.int p4), .val (.int p5), .val (.int p6), .val (.int bR), .val (.int (((p2.toUInt32 >>> ((2 : Int32) &&& 31).toUInt32).toInt32) &&& (3 : Int32))), .val (.int bR), .val (.int tT), .val (.int kk), .val (.int mq), .val (.int bq), .val (.ref b402), .val (.ref b414), .unset, .unset, .unset, .unset] [(.double bd)]))
          refine own_on (fun tq => XS.dstore X434.here hx rfl (hb hby at_158) rfl (l' := #[.val (.int p1), .val (.int p2), .val (.int p3), .val (.int p4), .val (.int p5), .val (.int p6), .val (.int bR), .val (.int (((p2.toUInt32 >>> ((2 : Int32) &&& 31).toUInt32).toInt32) &&& (3 : Int32))), .val (.int bR), .val (.int tT), .val (.int kk), .val (.int mq), .val (.int bq), .val (.ref b402), .val (.ref b414), .val (.double bd), .second, .unset, .unset]) rfl) ?_
          show own_Fin p e below _ (T434.setTop (mkF m 160 #[.val (.int p1), .val (.int p2), .val (.int p3), .val (.int p4), .val (.int p5), .val (.int p6), .val (.int bR), .val (.int (((p2.toUInt32 >>> ((2 : Int32) &&& 31).toUInt32).toInt32) &&& (3 : Int32))), .val (.int bR), .val (.int tT), .val (.int kk), .val (.int mq), .val (.int bq), .val (.ref b402), .val (.ref b414), .val (.double bd), .second, .unset, .unset] []))
          refine own_on (fun tq => XS.iload X434.here hx rfl (hb hby at_160) rfl) ?_
          show own_Fin p e below _ (T434.setTop (mkF m 162 #[.val (.int p1), .val (.int p2), .val (.int p3), .val (.int p4), .val (.int p5), .val (.int p6), .val (.int bR), .val (.int (((p2.toUInt32 >>> ((2 : Int32) &&& 31).toUInt32).toInt32) &&& (3 : Int32))), .val (.int bR), .val (.int tT), .val (.int kk), .val (.int mq), .val (.int bq), .val (.ref b402), .val (.ref b414), .val (.double bd), .second, .unset, .unset] [(.int bR)]))
          refine own_on (fun tq => XS.ifNo X434.here hx rfl (hb hby at_162) rfl ((if0 _ _).trans (feq hc368).1)) ?_
          show own_Fin p e below _ (T434.setTop (mkF m 165 #[.val (.int p1), .val (.int p2), .val (.int p3), .val (.int p4), .val (.int p5), .val (.int p6), .val (.int bR), .val (.int (((p2.toUInt32 >>> ((2 : Int32) &&& 31).toUInt32).toInt32) &&& (3 : Int32))), .val (.int bR), .val (.int tT), .val (.int kk), .val (.int mq), .val (.int bq), .val (.ref b402), .val (.ref b414), .val (.double bd), .second, .unset, .unset] []))
          refine own_on (fun tq => XS.iload X434.here hx rfl (hb hby at_165) rfl) ?_
          show own_Fin p e below _ (T434.setTop (mkF m 167 #[.val (.int p1), .val (.int p2), .val (.int p3), .val (.int p4), .val (.int p5), .val (.int p6), .val (.int bR), .val (.int (((p2.toUInt32 >>> ((2 : Int32) &&& 31).toUInt32).toInt32) &&& (3 : Int32))), .val (.int bR), .val (.int tT), .val (.int kk), .val (.int mq), .val (.int bq), .val (.ref b402), .val (.ref b414), .val (.double bd), .second, .unset, .unset] [(.int bR)]))
          refine own_on (fun tq => XS.iload X434.here hx rfl (hb hby at_167) rfl) ?_
          show own_Fin p e below _ (T434.setTop (mkF m 169 #[.val (.int p1), .val (.int p2), .val (.int p3), .val (.int p4), .val (.int p5), .val (.int p6), .val (.int bR), .val (.int (((p2.toUInt32 >>> ((2 : Int32) &&& 31).toUInt32).toInt32) &&& (3 : Int32))), .val (.int bR), .val (.int tT), .val (.int kk), .val (.int mq), .val (.int bq), .val (.ref b402), .val (.ref b414), .val (.double bd), .second, .unset, .unset] [(.int bR), (.int bR)]))
          refine own_on (fun tq => XS.icmpYes X434.here hx rfl (pc0 := 169) (pc' := 187) rfl (hb hby at_169) rfl (flt (fun q_ => absurd (Int32.lt_iff_toInt_lt.mp q_) (Int.lt_irrefl _))).2.2.2 (by decide) (by decide)) ?_
          show own_Fin p e below _ (T434.setTop (mkF m 187 #[.val (.int p1), .val (.int p2), .val (.int p3), .val (.int p4), .val (.int p5), .val (.int p6), .val (.int bR), .val (.int (((p2.toUInt32 >>> ((2 : Int32) &&& 31).toUInt32).toInt32) &&& (3 : Int32))), .val (.int bR), .val (.int tT), .val (.int kk), .val (.int mq), .val (.int bq), .val (.ref b402), .val (.ref b414), .val (.double bd), .second, .unset, .unset] []))
          refine own_on (fun tq => XS.iload X434.here hx rfl (hb hby at_187) rfl) ?_
          show own_Fin p e below _ (T434.setTop (mkF m 189 #[.val (.int p1), .val (.int p2), .val (.int p3), .val (.int p4), .val (.int p5), .val (.int p6), .val (.int bR), .val (.int (((p2.toUInt32 >>> ((2 : Int32) &&& 31).toUInt32).toInt32) &&& (3 : Int32))), .val (.int bR), .val (.int tT), .val (.int kk), .val (.int mq), .val (.int bq), .val (.ref b402), .val (.ref b414), .val (.double bd), .second, .unset, .unset] [(.int tT)]))
          refine own_on (fun tq => XS.iload X434.here hx rfl (hb hby at_189) rfl) ?_
          show own_Fin p e below _ (T434.setTop (mkF m 191 #[.val (.int p1), .val (.int p2), .val (.int p3), .val (.int p4), .val (.int p5), .val (.int p6), .val (.int bR), .val (.int (((p2.toUInt32 >>> ((2 : Int32) &&& 31).toUInt32).toInt32) &&& (3 : Int32))), .val (.int bR), .val (.int tT), .val (.int kk), .val (.int mq), .val (.int bq), .val (.ref b402), .val (.ref b414), .val (.double bd), .second, .unset, .unset] [(.int kk), (.int tT)]))
          refine own_on (fun tq => XS.iadd X434.here hx rfl (hb hby at_191) rfl) ?_
          show own_Fin p e below _ (T434.setTop (mkF m 192 #[.val (.int p1), .val (.int p2), .val (.int p3), .val (.int p4), .val (.int p5), .val (.int p6), .val (.int bR), .val (.int (((p2.toUInt32 >>> ((2 : Int32) &&& 31).toUInt32).toInt32) &&& (3 : Int32))), .val (.int bR), .val (.int tT), .val (.int kk), .val (.int mq), .val (.int bq), .val (.ref b402), .val (.ref b414), .val (.double bd), .second, .unset, .unset] [(.int (tT + kk))]))
          refine own_on (fun tq => XS.i2dS X434.here hx rfl (hb hby at_192) rfl (i2d_w _)) ?_
          show own_Fin p e below _ (T434.setTop (mkF m 193 #[.val (.int p1), .val (.int p2), .val (.int p3), .val (.int p4), .val (.int p5), .val (.int p6), .val (.int bR), .val (.int (((p2.toUInt32 >>> ((2 : Int32) &&& 31).toUInt32).toInt32) &&& (3 : Int32))), .val (.int bR), .val (.int tT), .val (.int kk), .val (.int mq), .val (.int bq), .val (.ref b402), .val (.ref b414), .val (.double bd), .second, .unset, .unset] [(.double (FP.l2d (tT + kk).toInt64))]))
          refine own_on (fun tq => XS.dstore X434.here hx rfl (hb hby at_193) rfl (l' := #[.val (.int p1), .val (.int p2), .val (.int p3), .val (.int p4), .val (.int p5), .val (.int p6), .val (.int bR), .val (.int (((p2.toUInt32 >>> ((2 : Int32) &&& 31).toUInt32).toInt32) &&& (3 : Int32))), .val (.int bR), .val (.int tT), .val (.int kk), .val (.int mq), .val (.int bq), .val (.ref b402), .val (.ref b414), .val (.double bd), .second, .val (.double (FP.l2d (tT + kk).toInt64)), .second]) rfl) ?_
          show own_Fin p e below _ (T434.setTop (mkF m 195 #[.val (.int p1), .val (.int p2), .val (.int p3), .val (.int p4), .val (.int p5), .val (.int p6), .val (.int bR), .val (.int (((p2.toUInt32 >>> ((2 : Int32) &&& 31).toUInt32).toInt32) &&& (3 : Int32))), .val (.int bR), .val (.int tT), .val (.int kk), .val (.int mq), .val (.int bq), .val (.ref b402), .val (.ref b414), .val (.double bd), .second, .val (.double (FP.l2d (tT + kk).toInt64)), .second] []))
          refine own_on (fun tq => XS.iload X434.here hx rfl (hb hby at_195) rfl) ?_
          show own_Fin p e below _ (T434.setTop (mkF m 197 #[.val (.int p1), .val (.int p2), .val (.int p3), .val (.int p4), .val (.int p5), .val (.int p6), .val (.int bR), .val (.int (((p2.toUInt32 >>> ((2 : Int32) &&& 31).toUInt32).toInt32) &&& (3 : Int32))), .val (.int bR), .val (.int tT), .val (.int kk), .val (.int mq), .val (.int bq), .val (.ref b402), .val (.ref b414), .val (.double bd), .second, .val (.double (FP.l2d (tT + kk).toInt64)), .second] [(.int mq)]))
          by_cases hc435 : mq = (0 : Int32)
          · refine own_on (fun tq => XS.ifNo X434.here hx rfl (hb hby at_197) rfl ((if0 _ _).trans (teq hc435).2)) ?_
            show own_Fin p e below _ (T434.setTop (mkF m 200 #[.val (.int p1), .val (.int p2), .val (.int p3), .val (.int p4), .val (.int p5), .val (.int p6), .val (.int bR), .val (.int (((p2.toUInt32 >>> ((2 : Int32) &&& 31).toUInt32).toInt32) &&& (3 : Int32))), .val (.int bR), .val (.int tT), .val (.int kk), .val (.int mq), .val (.int bq), .val (.ref b402), .val (.ref b414), .val (.double bd), .second, .val (.double (FP.l2d (tT + kk).toInt64)), .second] []))
            refine own_on (fun tq => XS.dload X434.here hx rfl (hb hby at_200) rfl) ?_
            show own_Fin p e below _ (T434.setTop (mkF m 202 #[.val (.int p1), .val (.int p2), .val (.int p3), .val (.int p4), .val (.int p5), .val (.int p6), .val (.int bR), .val (.int (((p2.toUInt32 >>> ((2 : Int32) &&& 31).toUInt32).toInt32) &&& (3 : Int32))), .val (.int bR), .val (.int tT), .val (.int kk), .val (.int mq), .val (.int bq), .val (.ref b402), .val (.ref b414), .val (.double bd), .second, .val (.double (FP.l2d (tT + kk).toInt64)), .second] [(.double bd)]))
            refine own_on (fun tq => XS.dload X434.here hx rfl (hb hby at_202) rfl) ?_
            show own_Fin p e below _ (T434.setTop (mkF m 204 #[.val (.int p1), .val (.int p2), .val (.int p3), .val (.int p4), .val (.int p5), .val (.int p6), .val (.int bR), .val (.int (((p2.toUInt32 >>> ((2 : Int32) &&& 31).toUInt32).toInt32) &&& (3 : Int32))), .val (.int bR), .val (.int tT), .val (.int kk), .val (.int mq), .val (.int bq), .val (.ref b402), .val (.ref b414), .val (.double bd), .second, .val (.double (FP.l2d (tT + kk).toInt64)), .second] [(.double (FP.l2d (tT + kk).toInt64)), (.double bd)]))
            refine own_on (fun tq => XS.dcmpS X434.here hx rfl (hb hby at_204) rfl ((own_law rR hc368 (fun q_ => absurd (Int32.lt_iff_toInt_lt.mp q_) (Int.lt_irrefl _)) rT rk rm hbb.1 hbd).1 hc435)) ?_
            show own_Fin p e below _ (T434.setTop (mkF m 205 #[.val (.int p1), .val (.int p2), .val (.int p3), .val (.int p4), .val (.int p5), .val (.int p6), .val (.int bR), .val (.int (((p2.toUInt32 >>> ((2 : Int32) &&& 31).toUInt32).toInt32) &&& (3 : Int32))), .val (.int bR), .val (.int tT), .val (.int kk), .val (.int mq), .val (.int bq), .val (.ref b402), .val (.ref b414), .val (.double bd), .second, .val (.double (FP.l2d (tT + kk).toInt64)), .second] [(.int (0 : Int32))]))
            refine own_on (fun tq => XS.ifNo X434.here hx rfl (hb hby at_205) rfl ((if0 _ _).trans (teq (by decide : (0 : Int32) = (0 : Int32))).2)) ?_
            show own_Fin p e below _ (T434.setTop (mkF m 208 #[.val (.int p1), .val (.int p2), .val (.int p3), .val (.int p4), .val (.int p5), .val (.int p6), .val (.int bR), .val (.int (((p2.toUInt32 >>> ((2 : Int32) &&& 31).toUInt32).toInt32) &&& (3 : Int32))), .val (.int bR), .val (.int tT), .val (.int kk), .val (.int mq), .val (.int bq), .val (.ref b402), .val (.ref b414), .val (.double bd), .second, .val (.double (FP.l2d (tT + kk).toInt64)), .second] []))
            refine own_on (fun tq => XS.iconst X434.here hx rfl (hb hby at_208)) ?_
            show own_Fin p e below _ (T434.setTop (mkF m 209 #[.val (.int p1), .val (.int p2), .val (.int p3), .val (.int p4), .val (.int p5), .val (.int p6), .val (.int bR), .val (.int (((p2.toUInt32 >>> ((2 : Int32) &&& 31).toUInt32).toInt32) &&& (3 : Int32))), .val (.int bR), .val (.int tT), .val (.int kk), .val (.int mq), .val (.int bq), .val (.ref b402), .val (.ref b414), .val (.double bd), .second, .val (.double (FP.l2d (tT + kk).toInt64)), .second] [(.int (1 : Int32))]))
            refine own_on (fun tq => XS.goto X434.here hx rfl (pc0 := 209) (pc' := 213) rfl (hb hby at_209) (by decide) (by decide)) ?_
            show own_Fin p e below _ (T434.setTop (mkF m 213 #[.val (.int p1), .val (.int p2), .val (.int p3), .val (.int p4), .val (.int p5), .val (.int p6), .val (.int bR), .val (.int (((p2.toUInt32 >>> ((2 : Int32) &&& 31).toUInt32).toInt32) &&& (3 : Int32))), .val (.int bR), .val (.int tT), .val (.int kk), .val (.int mq), .val (.int bq), .val (.ref b402), .val (.ref b414), .val (.double bd), .second, .val (.double (FP.l2d (tT + kk).toInt64)), .second] [(.int (1 : Int32))]))
            exact own_retW (t := .boolean) X434 (Z := Z) (EL := own_EL) (a0 := a0) hx hlk hret rfl (Or.inl ⟨rfl, (by simp), _, rfl⟩) (hb hby at_213) hS424 (by rw [e434]; exact y426) hZ424 hEL (by rw [hh, e434]; exact y425) (⟨rfl, N434⟩) (by decide) (by decide)
          · refine own_on (fun tq => XS.ifYes X434.here hx rfl (pc0 := 197) (pc' := 214) rfl (hb hby at_197) rfl ((if0 _ _).trans (feq hc435).2) (by decide) (by decide)) ?_
            show own_Fin p e below _ (T434.setTop (mkF m 214 #[.val (.int p1), .val (.int p2), .val (.int p3), .val (.int p4), .val (.int p5), .val (.int p6), .val (.int bR), .val (.int (((p2.toUInt32 >>> ((2 : Int32) &&& 31).toUInt32).toInt32) &&& (3 : Int32))), .val (.int bR), .val (.int tT), .val (.int kk), .val (.int mq), .val (.int bq), .val (.ref b402), .val (.ref b414), .val (.double bd), .second, .val (.double (FP.l2d (tT + kk).toInt64)), .second] []))
            refine own_on (fun tq => XS.dload X434.here hx rfl (hb hby at_214) rfl) ?_
            show own_Fin p e below _ (T434.setTop (mkF m 216 #[.val (.int p1), .val (.int p2), .val (.int p3), .val (.int p4), .val (.int p5), .val (.int p6), .val (.int bR), .val (.int (((p2.toUInt32 >>> ((2 : Int32) &&& 31).toUInt32).toInt32) &&& (3 : Int32))), .val (.int bR), .val (.int tT), .val (.int kk), .val (.int mq), .val (.int bq), .val (.ref b402), .val (.ref b414), .val (.double bd), .second, .val (.double (FP.l2d (tT + kk).toInt64)), .second] [(.double (FP.l2d (tT + kk).toInt64))]))
            refine own_on (fun tq => XS.dload X434.here hx rfl (hb hby at_216) rfl) ?_
            show own_Fin p e below _ (T434.setTop (mkF m 218 #[.val (.int p1), .val (.int p2), .val (.int p3), .val (.int p4), .val (.int p5), .val (.int p6), .val (.int bR), .val (.int (((p2.toUInt32 >>> ((2 : Int32) &&& 31).toUInt32).toInt32) &&& (3 : Int32))), .val (.int bR), .val (.int tT), .val (.int kk), .val (.int mq), .val (.int bq), .val (.ref b402), .val (.ref b414), .val (.double bd), .second, .val (.double (FP.l2d (tT + kk).toInt64)), .second] [(.double bd), (.double (FP.l2d (tT + kk).toInt64))]))
            refine own_on (fun tq => XS.dcmpS X434.here hx rfl (hb hby at_218) rfl ((own_law rR hc368 (fun q_ => absurd (Int32.lt_iff_toInt_lt.mp q_) (Int.lt_irrefl _)) rT rk rm hbb.1 hbd).2 hc435).1) ?_
            show own_Fin p e below _ (T434.setTop (mkF m 219 #[.val (.int p1), .val (.int p2), .val (.int p3), .val (.int p4), .val (.int p5), .val (.int p6), .val (.int bR), .val (.int (((p2.toUInt32 >>> ((2 : Int32) &&& 31).toUInt32).toInt32) &&& (3 : Int32))), .val (.int bR), .val (.int tT), .val (.int kk), .val (.int mq), .val (.int bq), .val (.ref b402), .val (.ref b414), .val (.double bd), .second, .val (.double (FP.l2d (tT + kk).toInt64)), .second] [(.int (-1 : Int32))]))
            refine own_on (fun tq => XS.ifNo X434.here hx rfl (hb hby at_219) rfl ((if0 _ _).trans (tlt (by decide : (-1 : Int32) < (0 : Int32))).2.1)) ?_
            show own_Fin p e below _ (T434.setTop (mkF m 222 #[.val (.int p1), .val (.int p2), .val (.int p3), .val (.int p4), .val (.int p5), .val (.int p6), .val (.int bR), .val (.int (((p2.toUInt32 >>> ((2 : Int32) &&& 31).toUInt32).toInt32) &&& (3 : Int32))), .val (.int bR), .val (.int tT), .val (.int kk), .val (.int mq), .val (.int bq), .val (.ref b402), .val (.ref b414), .val (.double bd), .second, .val (.double (FP.l2d (tT + kk).toInt64)), .second] []))
            refine own_on (fun tq => XS.dload X434.here hx rfl (hb hby at_222) rfl) ?_
            show own_Fin p e below _ (T434.setTop (mkF m 224 #[.val (.int p1), .val (.int p2), .val (.int p3), .val (.int p4), .val (.int p5), .val (.int p6), .val (.int bR), .val (.int (((p2.toUInt32 >>> ((2 : Int32) &&& 31).toUInt32).toInt32) &&& (3 : Int32))), .val (.int bR), .val (.int tT), .val (.int kk), .val (.int mq), .val (.int bq), .val (.ref b402), .val (.ref b414), .val (.double bd), .second, .val (.double (FP.l2d (tT + kk).toInt64)), .second] [(.double bd)]))
            refine own_on (fun tq => XS.dload X434.here hx rfl (hb hby at_224) rfl) ?_
            show own_Fin p e below _ (T434.setTop (mkF m 226 #[.val (.int p1), .val (.int p2), .val (.int p3), .val (.int p4), .val (.int p5), .val (.int p6), .val (.int bR), .val (.int (((p2.toUInt32 >>> ((2 : Int32) &&& 31).toUInt32).toInt32) &&& (3 : Int32))), .val (.int bR), .val (.int tT), .val (.int kk), .val (.int mq), .val (.int bq), .val (.ref b402), .val (.ref b414), .val (.double bd), .second, .val (.double (FP.l2d (tT + kk).toInt64)), .second] [(.double (FP.l2d (tT + kk).toInt64)), (.double bd)]))
            refine own_on (fun tq => XS.dconst1 X434.here hx rfl (hb hby at_226) own_dc1) ?_
            show own_Fin p e below _ (T434.setTop (mkF m 227 #[.val (.int p1), .val (.int p2), .val (.int p3), .val (.int p4), .val (.int p5), .val (.int p6), .val (.int bR), .val (.int (((p2.toUInt32 >>> ((2 : Int32) &&& 31).toUInt32).toInt32) &&& (3 : Int32))), .val (.int bR), .val (.int tT), .val (.int kk), .val (.int mq), .val (.int bq), .val (.ref b402), .val (.ref b414), .val (.double bd), .second, .val (.double (FP.l2d (tT + kk).toInt64)), .second] [(.double (FP.l2d (1 : Int64))), (.double (FP.l2d (tT + kk).toInt64)), (.double bd)]))
            refine own_on (fun tq => XS.daddS X434.here hx rfl (hb hby at_227) rfl (nn_w (dadd_w (own_b32 (tT + kk)) own_B1)) (dadd_w (own_b32 (tT + kk)) own_B1)) ?_
            show own_Fin p e below _ (T434.setTop (mkF m 228 #[.val (.int p1), .val (.int p2), .val (.int p3), .val (.int p4), .val (.int p5), .val (.int p6), .val (.int bR), .val (.int (((p2.toUInt32 >>> ((2 : Int32) &&& 31).toUInt32).toInt32) &&& (3 : Int32))), .val (.int bR), .val (.int tT), .val (.int kk), .val (.int mq), .val (.int bq), .val (.ref b402), .val (.ref b414), .val (.double bd), .second, .val (.double (FP.l2d (tT + kk).toInt64)), .second] [(.double (FP.l2d ((tT + kk).toInt64 + (1 : Int64)))), (.double bd)]))
            refine own_on (fun tq => XS.dcmpS X434.here hx rfl (hb hby at_228) rfl ((own_law rR hc368 (fun q_ => absurd (Int32.lt_iff_toInt_lt.mp q_) (Int.lt_irrefl _)) rT rk rm hbb.1 hbd).2 hc435).2) ?_
            show own_Fin p e below _ (T434.setTop (mkF m 229 #[.val (.int p1), .val (.int p2), .val (.int p3), .val (.int p4), .val (.int p5), .val (.int p6), .val (.int bR), .val (.int (((p2.toUInt32 >>> ((2 : Int32) &&& 31).toUInt32).toInt32) &&& (3 : Int32))), .val (.int bR), .val (.int tT), .val (.int kk), .val (.int mq), .val (.int bq), .val (.ref b402), .val (.ref b414), .val (.double bd), .second, .val (.double (FP.l2d (tT + kk).toInt64)), .second] [(.int (-1 : Int32))]))
            refine own_on (fun tq => XS.ifNo X434.here hx rfl (hb hby at_229) rfl ((if0 _ _).trans (tlt (by decide : (-1 : Int32) < (0 : Int32))).2.1)) ?_
            show own_Fin p e below _ (T434.setTop (mkF m 232 #[.val (.int p1), .val (.int p2), .val (.int p3), .val (.int p4), .val (.int p5), .val (.int p6), .val (.int bR), .val (.int (((p2.toUInt32 >>> ((2 : Int32) &&& 31).toUInt32).toInt32) &&& (3 : Int32))), .val (.int bR), .val (.int tT), .val (.int kk), .val (.int mq), .val (.int bq), .val (.ref b402), .val (.ref b414), .val (.double bd), .second, .val (.double (FP.l2d (tT + kk).toInt64)), .second] []))
            refine own_on (fun tq => XS.iconst X434.here hx rfl (hb hby at_232)) ?_
            show own_Fin p e below _ (T434.setTop (mkF m 233 #[.val (.int p1), .val (.int p2), .val (.int p3), .val (.int p4), .val (.int p5), .val (.int p6), .val (.int bR), .val (.int (((p2.toUInt32 >>> ((2 : Int32) &&& 31).toUInt32).toInt32) &&& (3 : Int32))), .val (.int bR), .val (.int tT), .val (.int kk), .val (.int mq), .val (.int bq), .val (.ref b402), .val (.ref b414), .val (.double bd), .second, .val (.double (FP.l2d (tT + kk).toInt64)), .second] [(.int (1 : Int32))]))
            refine own_on (fun tq => XS.goto X434.here hx rfl (pc0 := 233) (pc' := 237) rfl (hb hby at_233) (by decide) (by decide)) ?_
            show own_Fin p e below _ (T434.setTop (mkF m 237 #[.val (.int p1), .val (.int p2), .val (.int p3), .val (.int p4), .val (.int p5), .val (.int p6), .val (.int bR), .val (.int (((p2.toUInt32 >>> ((2 : Int32) &&& 31).toUInt32).toInt32) &&& (3 : Int32))), .val (.int bR), .val (.int tT), .val (.int kk), .val (.int mq), .val (.int bq), .val (.ref b402), .val (.ref b414), .val (.double bd), .second, .val (.double (FP.l2d (tT + kk).toInt64)), .second] [(.int (1 : Int32))]))
            exact own_retW (t := .boolean) X434 (Z := Z) (EL := own_EL) (a0 := a0) hx hlk hret rfl (Or.inl ⟨rfl, (by simp), _, rfl⟩) (hb hby at_237) hS424 (by rw [e434]; exact y426) hZ424 hEL (by rw [hh, e434]; exact y425) (⟨rfl, N434⟩) (by decide) (by decide)
      · refine own_on (fun tq => XS.icmpYes X0.here hx rfl (pc0 := 44) (pc' := 54) rfl (hb hby at_44) rfl (feq hc367).2 (by decide) (by decide)) ?_
        show own_Fin p e below _ (s₁.setTop (mkF m 54 #[.val (.int p1), .val (.int p2), .val (.int p3), .val (.int p4), .val (.int p5), .val (.int p6), .val (.int bR), .val (.int (((p2.toUInt32 >>> ((2 : Int32) &&& 31).toUInt32).toInt32) &&& (3 : Int32))), .unset, .unset, .unset, .unset, .unset, .unset, .unset, .unset, .unset, .unset, .unset] []))
        refine own_on (fun tq => XS.iloadN X0.here hx rfl (hb hby at_54) rfl) ?_
        show own_Fin p e below _ (s₁.setTop (mkF m 55 #[.val (.int p1), .val (.int p2), .val (.int p3), .val (.int p4), .val (.int p5), .val (.int p6), .val (.int bR), .val (.int (((p2.toUInt32 >>> ((2 : Int32) &&& 31).toUInt32).toInt32) &&& (3 : Int32))), .unset, .unset, .unset, .unset, .unset, .unset, .unset, .unset, .unset, .unset, .unset] [(.int p3)]))
        refine own_on (fun tq => X0.ldcInt hx hown (mvT hZ (hw _ (List.mem_of_getElem? (i := 1) rfl))) (g := (mkF m 55 #[.val (.int p1), .val (.int p2), .val (.int p3), .val (.int p4), .val (.int p5), .val (.int p6), .val (.int bR), .val (.int (((p2.toUInt32 >>> ((2 : Int32) &&& 31).toUInt32).toInt32) &&& (3 : Int32))), .unset, .unset, .unset, .unset, .unset, .unset, .unset, .unset, .unset, .unset, .unset] [(.int p3)])) rfl (hb hby at_55) tq) ?_
        show own_Fin p e below _ (s₁.setTop (mkF m 57 #[.val (.int p1), .val (.int p2), .val (.int p3), .val (.int p4), .val (.int p5), .val (.int p6), .val (.int bR), .val (.int (((p2.toUInt32 >>> ((2 : Int32) &&& 31).toUInt32).toInt32) &&& (3 : Int32))), .unset, .unset, .unset, .unset, .unset, .unset, .unset, .unset, .unset, .unset, .unset] [(.int (2147483647 : Int32)), (.int p3)]))
        refine own_on (fun tq => XS.iand X0.here hx rfl (hb hby at_57) rfl) ?_
        show own_Fin p e below _ (s₁.setTop (mkF m 58 #[.val (.int p1), .val (.int p2), .val (.int p3), .val (.int p4), .val (.int p5), .val (.int p6), .val (.int bR), .val (.int (((p2.toUInt32 >>> ((2 : Int32) &&& 31).toUInt32).toInt32) &&& (3 : Int32))), .unset, .unset, .unset, .unset, .unset, .unset, .unset, .unset, .unset, .unset, .unset] [(.int (p3 &&& (2147483647 : Int32)))]))
        refine own_on (fun tq => XS.iload X0.here hx rfl (hb hby at_58) rfl) ?_
        show own_Fin p e below _ (s₁.setTop (mkF m 60 #[.val (.int p1), .val (.int p2), .val (.int p3), .val (.int p4), .val (.int p5), .val (.int p6), .val (.int bR), .val (.int (((p2.toUInt32 >>> ((2 : Int32) &&& 31).toUInt32).toInt32) &&& (3 : Int32))), .unset, .unset, .unset, .unset, .unset, .unset, .unset, .unset, .unset, .unset, .unset] [(.int bR), (.int (p3 &&& (2147483647 : Int32)))]))
        refine own_on (fun tq => XS.iconst X0.here hx rfl (hb hby at_60)) ?_
        show own_Fin p e below _ (s₁.setTop (mkF m 61 #[.val (.int p1), .val (.int p2), .val (.int p3), .val (.int p4), .val (.int p5), .val (.int p6), .val (.int bR), .val (.int (((p2.toUInt32 >>> ((2 : Int32) &&& 31).toUInt32).toInt32) &&& (3 : Int32))), .unset, .unset, .unset, .unset, .unset, .unset, .unset, .unset, .unset, .unset, .unset] [(.int (1 : Int32)), (.int bR), (.int (p3 &&& (2147483647 : Int32)))]))
        refine own_on (fun tq => XS.iadd X0.here hx rfl (hb hby at_61) rfl) ?_
        show own_Fin p e below _ (s₁.setTop (mkF m 62 #[.val (.int p1), .val (.int p2), .val (.int p3), .val (.int p4), .val (.int p5), .val (.int p6), .val (.int bR), .val (.int (((p2.toUInt32 >>> ((2 : Int32) &&& 31).toUInt32).toInt32) &&& (3 : Int32))), .unset, .unset, .unset, .unset, .unset, .unset, .unset, .unset, .unset, .unset, .unset] [(.int (bR + (1 : Int32))), (.int (p3 &&& (2147483647 : Int32)))]))
        refine own_on (fun tq => iremM X0 hx rfl (hb hby at_62) rfl (own_n1 rR)) ?_
        show own_Fin p e below _ (s₁.setTop (mkF m 63 #[.val (.int p1), .val (.int p2), .val (.int p3), .val (.int p4), .val (.int p5), .val (.int p6), .val (.int bR), .val (.int (((p2.toUInt32 >>> ((2 : Int32) &&& 31).toUInt32).toInt32) &&& (3 : Int32))), .unset, .unset, .unset, .unset, .unset, .unset, .unset, .unset, .unset, .unset, .unset] [(.int ((p3 &&& (2147483647 : Int32)) % (bR + (1 : Int32))))]))
        refine own_on (fun tq => XS.istore X0.here hx rfl (hb hby at_63) rfl (l' := #[.val (.int p1), .val (.int p2), .val (.int p3), .val (.int p4), .val (.int p5), .val (.int p6), .val (.int bR), .val (.int (((p2.toUInt32 >>> ((2 : Int32) &&& 31).toUInt32).toInt32) &&& (3 : Int32))), .val (.int ((p3 &&& (2147483647 : Int32)) % (bR + (1 : Int32)))), .unset, .unset, .unset, .unset, .unset, .unset, .unset, .unset, .unset, .unset]) rfl) ?_
        show own_Fin p e below _ (s₁.setTop (mkF m 65 #[.val (.int p1), .val (.int p2), .val (.int p3), .val (.int p4), .val (.int p5), .val (.int p6), .val (.int bR), .val (.int (((p2.toUInt32 >>> ((2 : Int32) &&& 31).toUInt32).toInt32) &&& (3 : Int32))), .val (.int ((p3 &&& (2147483647 : Int32)) % (bR + (1 : Int32)))), .unset, .unset, .unset, .unset, .unset, .unset, .unset, .unset, .unset, .unset] []))
        obtain ⟨rr, hrr⟩ : ∃ q : Int32, q = ((p3 &&& (2147483647 : Int32)) % (bR + (1 : Int32))) := ⟨_, rfl⟩
        have r0 : 0 ≤ rr.toInt := hrr ▸ own_rc rR
        rw [← hrr]
        show own_Fin p e below _ (s₁.setTop (mkF m 65 #[.val (.int p1), .val (.int p2), .val (.int p3), .val (.int p4), .val (.int p5), .val (.int p6), .val (.int bR), .val (.int (((p2.toUInt32 >>> ((2 : Int32) &&& 31).toUInt32).toInt32) &&& (3 : Int32))), .val (.int rr), .unset, .unset, .unset, .unset, .unset, .unset, .unset, .unset, .unset, .unset] []))
        refine own_on (fun tq => XS.iloadN X0.here hx rfl (hb hby at_65) rfl) ?_
        show own_Fin p e below _ (s₁.setTop (mkF m 66 #[.val (.int p1), .val (.int p2), .val (.int p3), .val (.int p4), .val (.int p5), .val (.int p6), .val (.int bR), .val (.int (((p2.toUInt32 >>> ((2 : Int32) &&& 31).toUInt32).toInt32) &&& (3 : Int32))), .val (.int rr), .unset, .unset, .unset, .unset, .unset, .unset, .unset, .unset, .unset, .unset] [(.int p4)]))
        refine own_on (fun tq => X0.ldcInt hx hown (mvT hZ (hw _ (List.mem_of_getElem? (i := 0) rfl))) (g := (mkF m 66 #[.val (.int p1), .val (.int p2), .val (.int p3), .val (.int p4), .val (.int p5), .val (.int p6), .val (.int bR), .val (.int (((p2.toUInt32 >>> ((2 : Int32) &&& 31).toUInt32).toInt32) &&& (3 : Int32))), .val (.int rr), .unset, .unset, .unset, .unset, .unset, .unset, .unset, .unset, .unset, .unset] [(.int p4)])) rfl (hb hby at_66) tq) ?_
        show own_Fin p e below _ (s₁.setTop (mkF m 68 #[.val (.int p1), .val (.int p2), .val (.int p3), .val (.int p4), .val (.int p5), .val (.int p6), .val (.int bR), .val (.int (((p2.toUInt32 >>> ((2 : Int32) &&& 31).toUInt32).toInt32) &&& (3 : Int32))), .val (.int rr), .unset, .unset, .unset, .unset, .unset, .unset, .unset, .unset, .unset, .unset] [(.int (65535 : Int32)), (.int p4)]))
        refine own_on (fun tq => XS.iand X0.here hx rfl (hb hby at_68) rfl) ?_
        show own_Fin p e below _ (s₁.setTop (mkF m 69 #[.val (.int p1), .val (.int p2), .val (.int p3), .val (.int p4), .val (.int p5), .val (.int p6), .val (.int bR), .val (.int (((p2.toUInt32 >>> ((2 : Int32) &&& 31).toUInt32).toInt32) &&& (3 : Int32))), .val (.int rr), .unset, .unset, .unset, .unset, .unset, .unset, .unset, .unset, .unset, .unset] [(.int (p4 &&& (65535 : Int32)))]))
        refine own_on (fun tq => XS.istore X0.here hx rfl (hb hby at_69) rfl (l' := #[.val (.int p1), .val (.int p2), .val (.int p3), .val (.int p4), .val (.int p5), .val (.int p6), .val (.int bR), .val (.int (((p2.toUInt32 >>> ((2 : Int32) &&& 31).toUInt32).toInt32) &&& (3 : Int32))), .val (.int rr), .val (.int (p4 &&& (65535 : Int32))), .unset, .unset, .unset, .unset, .unset, .unset, .unset, .unset, .unset]) rfl) ?_
        show own_Fin p e below _ (s₁.setTop (mkF m 71 #[.val (.int p1), .val (.int p2), .val (.int p3), .val (.int p4), .val (.int p5), .val (.int p6), .val (.int bR), .val (.int (((p2.toUInt32 >>> ((2 : Int32) &&& 31).toUInt32).toInt32) &&& (3 : Int32))), .val (.int rr), .val (.int (p4 &&& (65535 : Int32))), .unset, .unset, .unset, .unset, .unset, .unset, .unset, .unset, .unset] []))
        obtain ⟨tT, htT⟩ : ∃ q : Int32, q = (p4 &&& (65535 : Int32)) := ⟨_, rfl⟩
        have rT : 0 ≤ tT.toInt ∧ tT.toInt ≤ 65535 := htT ▸ own_m16 p4
        rw [← htT]
        show own_Fin p e below _ (s₁.setTop (mkF m 71 #[.val (.int p1), .val (.int p2), .val (.int p3), .val (.int p4), .val (.int p5), .val (.int p6), .val (.int bR), .val (.int (((p2.toUInt32 >>> ((2 : Int32) &&& 31).toUInt32).toInt32) &&& (3 : Int32))), .val (.int rr), .val (.int tT), .unset, .unset, .unset, .unset, .unset, .unset, .unset, .unset, .unset] []))
        refine own_on (fun tq => XS.iload X0.here hx rfl (hb hby at_71) rfl) ?_
        show own_Fin p e below _ (s₁.setTop (mkF m 73 #[.val (.int p1), .val (.int p2), .val (.int p3), .val (.int p4), .val (.int p5), .val (.int p6), .val (.int bR), .val (.int (((p2.toUInt32 >>> ((2 : Int32) &&& 31).toUInt32).toInt32) &&& (3 : Int32))), .val (.int rr), .val (.int tT), .unset, .unset, .unset, .unset, .unset, .unset, .unset, .unset, .unset] [(.int p5)]))
        refine own_on (fun tq => XS.sipush X0.here hx rfl (hb hby at_73)) ?_
        show own_Fin p e below _ (s₁.setTop (mkF m 76 #[.val (.int p1), .val (.int p2), .val (.int p3), .val (.int p4), .val (.int p5), .val (.int p6), .val (.int bR), .val (.int (((p2.toUInt32 >>> ((2 : Int32) &&& 31).toUInt32).toInt32) &&& (3 : Int32))), .val (.int rr), .val (.int tT), .unset, .unset, .unset, .unset, .unset, .unset, .unset, .unset, .unset] [(.int (32767 : Int32)), (.int p5)]))
        refine own_on (fun tq => XS.iand X0.here hx rfl (hb hby at_76) rfl) ?_
        show own_Fin p e below _ (s₁.setTop (mkF m 77 #[.val (.int p1), .val (.int p2), .val (.int p3), .val (.int p4), .val (.int p5), .val (.int p6), .val (.int bR), .val (.int (((p2.toUInt32 >>> ((2 : Int32) &&& 31).toUInt32).toInt32) &&& (3 : Int32))), .val (.int rr), .val (.int tT), .unset, .unset, .unset, .unset, .unset, .unset, .unset, .unset, .unset] [(.int (p5 &&& (32767 : Int32)))]))
        refine own_on (fun tq => XS.istore X0.here hx rfl (hb hby at_77) rfl (l' := #[.val (.int p1), .val (.int p2), .val (.int p3), .val (.int p4), .val (.int p5), .val (.int p6), .val (.int bR), .val (.int (((p2.toUInt32 >>> ((2 : Int32) &&& 31).toUInt32).toInt32) &&& (3 : Int32))), .val (.int rr), .val (.int tT), .val (.int (p5 &&& (32767 : Int32))), .unset, .unset, .unset, .unset, .unset, .unset, .unset, .unset]) rfl) ?_
        show own_Fin p e below _ (s₁.setTop (mkF m 79 #[.val (.int p1), .val (.int p2), .val (.int p3), .val (.int p4), .val (.int p5), .val (.int p6), .val (.int bR), .val (.int (((p2.toUInt32 >>> ((2 : Int32) &&& 31).toUInt32).toInt32) &&& (3 : Int32))), .val (.int rr), .val (.int tT), .val (.int (p5 &&& (32767 : Int32))), .unset, .unset, .unset, .unset, .unset, .unset, .unset, .unset] []))
        obtain ⟨kk, hkk⟩ : ∃ q : Int32, q = (p5 &&& (32767 : Int32)) := ⟨_, rfl⟩
        have rk : 0 ≤ kk.toInt ∧ kk.toInt ≤ 32767 := hkk ▸ own_m15 p5
        rw [← hkk]
        show own_Fin p e below _ (s₁.setTop (mkF m 79 #[.val (.int p1), .val (.int p2), .val (.int p3), .val (.int p4), .val (.int p5), .val (.int p6), .val (.int bR), .val (.int (((p2.toUInt32 >>> ((2 : Int32) &&& 31).toUInt32).toInt32) &&& (3 : Int32))), .val (.int rr), .val (.int tT), .val (.int kk), .unset, .unset, .unset, .unset, .unset, .unset, .unset, .unset] []))
        refine own_on (fun tq => XS.iload X0.here hx rfl (hb hby at_79) rfl) ?_
        show own_Fin p e below _ (s₁.setTop (mkF m 81 #[.val (.int p1), .val (.int p2), .val (.int p3), .val (.int p4), .val (.int p5), .val (.int p6), .val (.int bR), .val (.int (((p2.toUInt32 >>> ((2 : Int32) &&& 31).toUInt32).toInt32) &&& (3 : Int32))), .val (.int rr), .val (.int tT), .val (.int kk), .unset, .unset, .unset, .unset, .unset, .unset, .unset, .unset] [(.int bR)]))
        by_cases hc436 : bR = (0 : Int32)
        · refine own_on (fun tq => XS.ifNo X0.here hx rfl (hb hby at_81) rfl ((if0 _ _).trans (teq hc436).2)) ?_
          show own_Fin p e below _ (s₁.setTop (mkF m 84 #[.val (.int p1), .val (.int p2), .val (.int p3), .val (.int p4), .val (.int p5), .val (.int p6), .val (.int bR), .val (.int (((p2.toUInt32 >>> ((2 : Int32) &&& 31).toUInt32).toInt32) &&& (3 : Int32))), .val (.int rr), .val (.int tT), .val (.int kk), .unset, .unset, .unset, .unset, .unset, .unset, .unset, .unset] []))
          refine own_on (fun tq => XS.iconst X0.here hx rfl (hb hby at_84)) ?_
          show own_Fin p e below _ (s₁.setTop (mkF m 85 #[.val (.int p1), .val (.int p2), .val (.int p3), .val (.int p4), .val (.int p5), .val (.int p6), .val (.int bR), .val (.int (((p2.toUInt32 >>> ((2 : Int32) &&& 31).toUInt32).toInt32) &&& (3 : Int32))), .val (.int rr), .val (.int tT), .val (.int kk), .unset, .unset, .unset, .unset, .unset, .unset, .unset, .unset] [(.int (0 : Int32))]))
          refine own_on (fun tq => XS.goto X0.here hx rfl (pc0 := 85) (pc' := 96) rfl (hb hby at_85) (by decide) (by decide)) ?_
          show own_Fin p e below _ (s₁.setTop (mkF m 96 #[.val (.int p1), .val (.int p2), .val (.int p3), .val (.int p4), .val (.int p5), .val (.int p6), .val (.int bR), .val (.int (((p2.toUInt32 >>> ((2 : Int32) &&& 31).toUInt32).toInt32) &&& (3 : Int32))), .val (.int rr), .val (.int tT), .val (.int kk), .unset, .unset, .unset, .unset, .unset, .unset, .unset, .unset] [(.int (0 : Int32))]))
          refine own_on (fun tq => XS.istore X0.here hx rfl (hb hby at_96) rfl (l' := #[.val (.int p1), .val (.int p2), .val (.int p3), .val (.int p4), .val (.int p5), .val (.int p6), .val (.int bR), .val (.int (((p2.toUInt32 >>> ((2 : Int32) &&& 31).toUInt32).toInt32) &&& (3 : Int32))), .val (.int rr), .val (.int tT), .val (.int kk), .val (.int (0 : Int32)), .unset, .unset, .unset, .unset, .unset, .unset, .unset]) rfl) ?_
          show own_Fin p e below _ (s₁.setTop (mkF m 98 #[.val (.int p1), .val (.int p2), .val (.int p3), .val (.int p4), .val (.int p5), .val (.int p6), .val (.int bR), .val (.int (((p2.toUInt32 >>> ((2 : Int32) &&& 31).toUInt32).toInt32) &&& (3 : Int32))), .val (.int rr), .val (.int tT), .val (.int kk), .val (.int (0 : Int32)), .unset, .unset, .unset, .unset, .unset, .unset, .unset] []))
          refine own_on (fun tq => XS.iload X0.here hx rfl (hb hby at_98) rfl) ?_
          show own_Fin p e below _ (s₁.setTop (mkF m 100 #[.val (.int p1), .val (.int p2), .val (.int p3), .val (.int p4), .val (.int p5), .val (.int p6), .val (.int bR), .val (.int (((p2.toUInt32 >>> ((2 : Int32) &&& 31).toUInt32).toInt32) &&& (3 : Int32))), .val (.int rr), .val (.int tT), .val (.int kk), .val (.int (0 : Int32)), .unset, .unset, .unset, .unset, .unset, .unset, .unset] [(.int bR)]))
          refine own_on (fun tq => XS.ifNo X0.here hx rfl (hb hby at_100) rfl ((if0 _ _).trans (teq hc436).2)) ?_
          show own_Fin p e below _ (s₁.setTop (mkF m 103 #[.val (.int p1), .val (.int p2), .val (.int p3), .val (.int p4), .val (.int p5), .val (.int p6), .val (.int bR), .val (.int (((p2.toUInt32 >>> ((2 : Int32) &&& 31).toUInt32).toInt32) &&& (3 : Int32))), .val (.int rr), .val (.int tT), .val (.int kk), .val (.int (0 : Int32)), .unset, .unset, .unset, .unset, .unset, .unset, .unset] []))
          refine own_on (fun tq => XS.iload X0.here hx rfl (hb hby at_103) rfl) ?_
          show own_Fin p e below _ (s₁.setTop (mkF m 105 #[.val (.int p1), .val (.int p2), .val (.int p3), .val (.int p4), .val (.int p5), .val (.int p6), .val (.int bR), .val (.int (((p2.toUInt32 >>> ((2 : Int32) &&& 31).toUInt32).toInt32) &&& (3 : Int32))), .val (.int rr), .val (.int tT), .val (.int kk), .val (.int (0 : Int32)), .unset, .unset, .unset, .unset, .unset, .unset, .unset] [(.int p5)]))
          refine own_on (fun tq => X0.ldcInt hx hown (mvT hZ (hw _ (List.mem_of_getElem? (i := 1) rfl))) (g := (mkF m 105 #[.val (.int p1), .val (.int p2), .val (.int p3), .val (.int p4), .val (.int p5), .val (.int p6), .val (.int bR), .val (.int (((p2.toUInt32 >>> ((2 : Int32) &&& 31).toUInt32).toInt32) &&& (3 : Int32))), .val (.int rr), .val (.int tT), .val (.int kk), .val (.int (0 : Int32)), .unset, .unset, .unset, .unset, .unset, .unset, .unset] [(.int p5)])) rfl (hb hby at_105) tq) ?_
          show own_Fin p e below _ (s₁.setTop (mkF m 107 #[.val (.int p1), .val (.int p2), .val (.int p3), .val (.int p4), .val (.int p5), .val (.int p6), .val (.int bR), .val (.int (((p2.toUInt32 >>> ((2 : Int32) &&& 31).toUInt32).toInt32) &&& (3 : Int32))), .val (.int rr), .val (.int tT), .val (.int kk), .val (.int (0 : Int32)), .unset, .unset, .unset, .unset, .unset, .unset, .unset] [(.int (2147483647 : Int32)), (.int p5)]))
          refine own_on (fun tq => XS.iand X0.here hx rfl (hb hby at_107) rfl) ?_
          show own_Fin p e below _ (s₁.setTop (mkF m 108 #[.val (.int p1), .val (.int p2), .val (.int p3), .val (.int p4), .val (.int p5), .val (.int p6), .val (.int bR), .val (.int (((p2.toUInt32 >>> ((2 : Int32) &&& 31).toUInt32).toInt32) &&& (3 : Int32))), .val (.int rr), .val (.int tT), .val (.int kk), .val (.int (0 : Int32)), .unset, .unset, .unset, .unset, .unset, .unset, .unset] [(.int (p5 &&& (2147483647 : Int32)))]))
          refine own_on (fun tq => XS.goto X0.here hx rfl (pc0 := 108) (pc' := 119) rfl (hb hby at_108) (by decide) (by decide)) ?_
          show own_Fin p e below _ (s₁.setTop (mkF m 119 #[.val (.int p1), .val (.int p2), .val (.int p3), .val (.int p4), .val (.int p5), .val (.int p6), .val (.int bR), .val (.int (((p2.toUInt32 >>> ((2 : Int32) &&& 31).toUInt32).toInt32) &&& (3 : Int32))), .val (.int rr), .val (.int tT), .val (.int kk), .val (.int (0 : Int32)), .unset, .unset, .unset, .unset, .unset, .unset, .unset] [(.int (p5 &&& (2147483647 : Int32)))]))
          refine own_on (fun tq => XS.istore X0.here hx rfl (hb hby at_119) rfl (l' := #[.val (.int p1), .val (.int p2), .val (.int p3), .val (.int p4), .val (.int p5), .val (.int p6), .val (.int bR), .val (.int (((p2.toUInt32 >>> ((2 : Int32) &&& 31).toUInt32).toInt32) &&& (3 : Int32))), .val (.int rr), .val (.int tT), .val (.int kk), .val (.int (0 : Int32)), .val (.int (p5 &&& (2147483647 : Int32))), .unset, .unset, .unset, .unset, .unset, .unset]) rfl) ?_
          show own_Fin p e below _ (s₁.setTop (mkF m 121 #[.val (.int p1), .val (.int p2), .val (.int p3), .val (.int p4), .val (.int p5), .val (.int p6), .val (.int bR), .val (.int (((p2.toUInt32 >>> ((2 : Int32) &&& 31).toUInt32).toInt32) &&& (3 : Int32))), .val (.int rr), .val (.int tT), .val (.int kk), .val (.int (0 : Int32)), .val (.int (p5 &&& (2147483647 : Int32))), .unset, .unset, .unset, .unset, .unset, .unset] []))
          obtain ⟨bq, hbq⟩ : ∃ q : Int32, q = (p5 &&& (2147483647 : Int32)) := ⟨_, rfl⟩
          have b0 : 0 ≤ bq.toInt := hbq ▸ own_m31 p5
          rw [← hbq]
          show own_Fin p e below _ (s₁.setTop (mkF m 121 #[.val (.int p1), .val (.int p2), .val (.int p3), .val (.int p4), .val (.int p5), .val (.int p6), .val (.int bR), .val (.int (((p2.toUInt32 >>> ((2 : Int32) &&& 31).toUInt32).toInt32) &&& (3 : Int32))), .val (.int rr), .val (.int tT), .val (.int kk), .val (.int (0 : Int32)), .val (.int bq), .unset, .unset, .unset, .unset, .unset, .unset] []))
          obtain ⟨T437, h437, X437, e437, E437, A437, D437, -, st437⟩ := newO X0 hx hZ hown (hw _ (List.mem_of_getElem? (i := 2) rfl)) (hw _ (List.mem_of_getElem? (i := 3) rfl)) (hw _ (List.mem_of_getElem? (i := 4) rfl)) e0 (g := (mkF m 121 #[.val (.int p1), .val (.int p2), .val (.int p3), .val (.int p4), .val (.int p5), .val (.int p6), .val (.int bR), .val (.int (((p2.toUInt32 >>> ((2 : Int32) &&& 31).toUInt32).toInt32) &&& (3 : Int32))), .val (.int rr), .val (.int tT), .val (.int kk), .val (.int (0 : Int32)), .val (.int bq), .unset, .unset, .unset, .unset, .unset, .unset] [])) rfl (hb hby at_121) (by decide) (by decide)
          obtain ⟨b437, g437⟩ : ∃ z, z = h0.size := ⟨_, rfl⟩
          rw [← g437] at A437 D437 st437
          have y438 := (CHv.ext E437 CH0)
          have y439 := (CHr.trans (CHr.refl CH0) (CHr.ext E437 CH0))
          have y440 := (Nat.le_trans (Nat.zero_le _) E437.1)
          have y441 := (Nat.le_trans Z0 E437.1)
          have y442 := (Safe.ext E437 CH0 (Safe.new (Nat.le_of_eq g437.symm)))
          have gn437 : n0 ≤ b437 := Nat.le_trans Z0 (Nat.le_of_eq g437.symm)
          have F437_rate : Fld Z h437 b437 "com/example/curves_to_bounds/curvestobounds/curve/RateLatency" "rate" "D" (.double (0 : UInt64)) := D437 (Or.inr (hw _ (List.mem_of_getElem? (i := 39) rfl))) (ty := .double) (by decide)
          have F437_latency : Fld Z h437 b437 "com/example/curves_to_bounds/curvestobounds/curve/RateLatency" "latency" "D" (.double (0 : UInt64)) := D437 (Or.inr (hw _ (List.mem_of_getElem? (i := 41) rfl))) (ty := .double) (by decide)
          refine own_on st437 ?_
          show own_Fin p e below _ (T437.setTop (mkF m 124 #[.val (.int p1), .val (.int p2), .val (.int p3), .val (.int p4), .val (.int p5), .val (.int p6), .val (.int bR), .val (.int (((p2.toUInt32 >>> ((2 : Int32) &&& 31).toUInt32).toInt32) &&& (3 : Int32))), .val (.int rr), .val (.int tT), .val (.int kk), .val (.int (0 : Int32)), .val (.int bq), .unset, .unset, .unset, .unset, .unset, .unset] [(.ref b437)]))
          refine own_on (fun tq => XS.dup X437.here hx rfl (hb hby at_124) rfl rfl) ?_
          show own_Fin p e below _ (T437.setTop (mkF m 125 #[.val (.int p1), .val (.int p2), .val (.int p3), .val (.int p4), .val (.int p5), .val (.int p6), .val (.int bR), .val (.int (((p2.toUInt32 >>> ((2 : Int32) &&& 31).toUInt32).toInt32) &&& (3 : Int32))), .val (.int rr), .val (.int tT), .val (.int kk), .val (.int (0 : Int32)), .val (.int bq), .unset, .unset, .unset, .unset, .unset, .unset] [(.ref b437), (.ref b437)]))
          refine own_on (fun tq => XS.iload X437.here hx rfl (hb hby at_125) rfl) ?_
          show own_Fin p e below _ (T437.setTop (mkF m 127 #[.val (.int p1), .val (.int p2), .val (.int p3), .val (.int p4), .val (.int p5), .val (.int p6), .val (.int bR), .val (.int (((p2.toUInt32 >>> ((2 : Int32) &&& 31).toUInt32).toInt32) &&& (3 : Int32))), .val (.int rr), .val (.int tT), .val (.int kk), .val (.int (0 : Int32)), .val (.int bq), .unset, .unset, .unset, .unset, .unset, .unset] [(.int bR), (.ref b437), (.ref b437)]))
          refine own_on (fun tq => XS.i2dS X437.here hx rfl (hb hby at_127) rfl (i2d_w _)) ?_
          show own_Fin p e below _ (T437.setTop (mkF m 128 #[.val (.int p1), .val (.int p2), .val (.int p3), .val (.int p4), .val (.int p5), .val (.int p6), .val (.int bR), .val (.int (((p2.toUInt32 >>> ((2 : Int32) &&& 31).toUInt32).toInt32) &&& (3 : Int32))), .val (.int rr), .val (.int tT), .val (.int kk), .val (.int (0 : Int32)), .val (.int bq), .unset, .unset, .unset, .unset, .unset, .unset] [(.double (FP.l2d bR.toInt64)), (.ref b437), (.ref b437)]))
          refine own_on (fun tq => XS.iload X437.here hx rfl (hb hby at_128) rfl) ?_
          show own_Fin p e below _ (T437.setTop (mkF m 130 #[.val (.int p1), .val (.int p2), .val (.int p3), .val (.int p4), .val (.int p5), .val (.int p6), .val (.int bR), .val (.int (((p2.toUInt32 >>> ((2 : Int32) &&& 31).toUInt32).toInt32) &&& (3 : Int32))), .val (.int rr), .val (.int tT), .val (.int kk), .val (.int (0 : Int32)), .val (.int bq), .unset, .unset, .unset, .unset, .unset, .unset] [(.int tT), (.double (FP.l2d bR.toInt64)), (.ref b437), (.ref b437)]))
          refine own_on (fun tq => XS.i2dS X437.here hx rfl (hb hby at_130) rfl (i2d_w _)) ?_
          show own_Fin p e below _ (T437.setTop (mkF m 131 #[.val (.int p1), .val (.int p2), .val (.int p3), .val (.int p4), .val (.int p5), .val (.int p6), .val (.int bR), .val (.int (((p2.toUInt32 >>> ((2 : Int32) &&& 31).toUInt32).toInt32) &&& (3 : Int32))), .val (.int rr), .val (.int tT), .val (.int kk), .val (.int (0 : Int32)), .val (.int bq), .unset, .unset, .unset, .unset, .unset, .unset] [(.double (FP.l2d tT.toInt64)), (.double (FP.l2d bR.toInt64)), (.ref b437), (.ref b437)]))
          obtain ⟨_, _, ⟨T443, L443, k443, n443⟩, -, X443', S443', gr443, ⟨Lc443, hQ443, l443, y443, z443, A443⟩, st443⟩ := X437.specialBackS hx (y := (⟨"com/example/curves_to_bounds/curvestobounds/curve/RateLatency", "<init>", "(DD)V"⟩ : MethodName)) rfl hown (mvT hZ (hw _ (List.mem_of_getElem? (i := 5) rfl))) (mvT hZ (hw _ (List.mem_of_getElem? (i := 6) rfl))) (mvT hZ (hw _ (List.mem_of_getElem? (i := 7) rfl))) (by decide) (backOfSH (s := s) (W := 1) (rm1 l Z a0 hw [] b437 (FP.l2d bR.toInt64) (FP.l2d tT.toInt64) h437 n0 (by exact y441) hEL (own_okI rR.1) (own_okI rT.1) A437 F437_rate F437_latency gn437) hZ (hw _ (List.mem_of_getElem? (i := 7) rfl)) (hw _ (List.mem_of_getElem? (i := 4) rfl)) (by decide) (by decide) hEL y438) (g := (mkF m 131 #[.val (.int p1), .val (.int p2), .val (.int p3), .val (.int p4), .val (.int p5), .val (.int p6), .val (.int bR), .val (.int (((p2.toUInt32 >>> ((2 : Int32) &&& 31).toUInt32).toInt32) &&& (3 : Int32))), .val (.int rr), .val (.int tT), .val (.int kk), .val (.int (0 : Int32)), .val (.int bq), .unset, .unset, .unset, .unset, .unset, .unset] [(.double (FP.l2d tT.toInt64)), (.double (FP.l2d bR.toInt64)), (.ref b437), (.ref b437)])) rfl (by rw [hml]; rfl) (Steps.refl _) (a := b437) (argsL := [(.double (FP.l2d bR.toInt64)), (.double (FP.l2d tT.toInt64))]) (rest := [(.ref b437)]) (lenOf pd_5 rfl) rfl (by show 2 * 0 + _ ≤ _; exact Nat.le_of_eq rfl) (hb hby at_131) (fun _ _ => ⟨rfl, e437, (by decide : 1 + 4 ≤ _), (by decide : 2 + 52 ≤ _)⟩)
          dsimp only [Pt.U, Pt.locs, Pt.cells, Pt.slots] at X443' S443' gr443 l443 y443 z443 st443 hQ443 A443
          subst l443 y443 z443
          obtain ⟨X443, hS443, hZ443, hown443⟩ := rebS hS0 (by first | exact y440 | (rw [e437]; exact y440)) X443' S443' gr443 hZ hown
          obtain ⟨rfl, N443q, K443, E443q, F443a, F443b⟩ := hQ443
          have N443 := Fr.app N0 N443q
          have y444 := (CHr.trans y439 A443)
          have y445 := (Nat.le_refl (Array.size T443.heap))
          have y446 := (Nat.le_trans y441 K443.1)
          have y447 := (CHr.safe A443 F437_latency.lt y442)
          have y448 := (A437.keep K443)
          refine own_via st443 ?_
          show own_Fin p e below _ (T443.setTop (mkF m 134 #[.val (.int p1), .val (.int p2), .val (.int p3), .val (.int p4), .val (.int p5), .val (.int p6), .val (.int bR), .val (.int (((p2.toUInt32 >>> ((2 : Int32) &&& 31).toUInt32).toInt32) &&& (3 : Int32))), .val (.int rr), .val (.int tT), .val (.int kk), .val (.int (0 : Int32)), .val (.int bq), .unset, .unset, .unset, .unset, .unset, .unset] [(.ref b437)]))
          refine own_on (fun tq => XS.astore X443.here hx rfl (hb hby at_134) rfl rfl (l' := #[.val (.int p1), .val (.int p2), .val (.int p3), .val (.int p4), .val (.int p5), .val (.int p6), .val (.int bR), .val (.int (((p2.toUInt32 >>> ((2 : Int32) &&& 31).toUInt32).toInt32) &&& (3 : Int32))), .val (.int rr), .val (.int tT), .val (.int kk), .val (.int (0 : Int32)), .val (.int bq), .val (.ref b437), .unset, .unset, .unset, .unset, .unset]) rfl) ?_
          show own_Fin p e below _ (T443.setTop (mkF m 136 #[.val (.int p1), .val (.int p2), .val (.int p3), .val (.int p4), .val (.int p5), .val (.int p6), .val (.int bR), .val (.int (((p2.toUInt32 >>> ((2 : Int32) &&& 31).toUInt32).toInt32) &&& (3 : Int32))), .val (.int rr), .val (.int tT), .val (.int kk), .val (.int (0 : Int32)), .val (.int bq), .val (.ref b437), .unset, .unset, .unset, .unset, .unset] []))
          obtain ⟨T449, h449, X449, e449, E449, A449, D449, -, st449⟩ := newO X443 hx hZ443 hown443 (hw _ (List.mem_of_getElem? (i := 42) rfl)) (hw _ (List.mem_of_getElem? (i := 43) rfl)) (hw _ (List.mem_of_getElem? (i := 44) rfl)) rfl (g := (mkF m 136 #[.val (.int p1), .val (.int p2), .val (.int p3), .val (.int p4), .val (.int p5), .val (.int p6), .val (.int bR), .val (.int (((p2.toUInt32 >>> ((2 : Int32) &&& 31).toUInt32).toInt32) &&& (3 : Int32))), .val (.int rr), .val (.int tT), .val (.int kk), .val (.int (0 : Int32)), .val (.int bq), .val (.ref b437), .unset, .unset, .unset, .unset, .unset] [])) rfl (hb hby at_136) (by decide) (by decide)
          obtain ⟨b449, g449⟩ : ∃ z, z = T443.heap.size := ⟨_, rfl⟩
          rw [← g449] at A449 D449 st449
          have ne449_b437 : b437 ≠ b449 := own_ne_of (Z := Z) E443q.lt g449
          have y450 := (CHv.ext E449 A443.1)
          have y451 := (CHr.trans y444 (CHr.ext E449 A443.1))
          have y452 := (Nat.le_trans y445 E449.1)
          have y453 := (Nat.le_trans y446 E449.1)
          have y454 := (Safe.ext E449 A443.1 y447)
          have y455 := (E443q.ext E449)
          have y456 := (F443a.ext E449)
          have y457 := (F443b.ext E449)
          have y458 := (Safe.ext E449 A443.1 (Safe.new (Nat.le_of_eq g449.symm)))
          have gn449 : n0 ≤ b449 := Nat.le_trans y446 (Nat.le_of_eq g449.symm)
          have F449_rate : Fld Z h449 b449 "com/example/curves_to_bounds/curvestobounds/curve/TokenBucket" "rate" "D" (.double (0 : UInt64)) := D449 (Or.inr (hw _ (List.mem_of_getElem? (i := 53) rfl))) (ty := .double) (by decide)
          have F449_burst : Fld Z h449 b449 "com/example/curves_to_bounds/curvestobounds/curve/TokenBucket" "burst" "D" (.double (0 : UInt64)) := D449 (Or.inr (hw _ (List.mem_of_getElem? (i := 55) rfl))) (ty := .double) (by decide)
          refine own_on st449 ?_
          show own_Fin p e below _ (T449.setTop (mkF m 139 #[.val (.int p1), .val (.int p2), .val (.int p3), .val (.int p4), .val (.int p5), .val (.int p6), .val (.int bR), .val (.int (((p2.toUInt32 >>> ((2 : Int32) &&& 31).toUInt32).toInt32) &&& (3 : Int32))), .val (.int rr), .val (.int tT), .val (.int kk), .val (.int (0 : Int32)), .val (.int bq), .val (.ref b437), .unset, .unset, .unset, .unset, .unset] [(.ref b449)]))
          refine own_on (fun tq => XS.dup X449.here hx rfl (hb hby at_139) rfl rfl) ?_
          show own_Fin p e below _ (T449.setTop (mkF m 140 #[.val (.int p1), .val (.int p2), .val (.int p3), .val (.int p4), .val (.int p5), .val (.int p6), .val (.int bR), .val (.int (((p2.toUInt32 >>> ((2 : Int32) &&& 31).toUInt32).toInt32) &&& (3 : Int32))), .val (.int rr), .val (.int tT), .val (.int kk), .val (.int (0 : Int32)), .val (.int bq), .val (.ref b437), .unset, .unset, .unset, .unset, .unset] [(.ref b449), (.ref b449)]))
          refine own_on (fun tq => XS.iload X449.here hx rfl (hb hby at_140) rfl) ?_
          show own_Fin p e below _ (T449.setTop (mkF m 142 #[.val (.int p1), .val (.int p2), .val (.int p3), .val (.int p4), .val (.int p5), .val (.int p6), .val (.int bR), .val (.int (((p2.toUInt32 >>> ((2 : Int32) &&& 31).toUInt32).toInt32) &&& (3 : Int32))), .val (.int rr), .val (.int tT), .val (.int kk), .val (.int (0 : Int32)), .val (.int bq), .val (.ref b437), .unset, .unset, .unset, .unset, .unset] [(.int rr), (.ref b449), (.ref b449)]))
          refine own_on (fun tq => XS.i2dS X449.here hx rfl (hb hby at_142) rfl (i2d_w _)) ?_
          show own_Fin p e below _ (T449.setTop (mkF m 143 #[.val (.int p1), .val (.int p2), .val (.int p3), .val (.int p4), .val (.int p5), .val (.int p6), .val (.int bR), .val (.int (((p2.toUInt32 >>> ((2 : Int32) &&& 31).toUInt32).toInt32) &&& (3 : Int32))), .val (.int rr), .val (.int tT), .val (.int kk), .val (.int (0 : Int32)), .val (.int bq), .val (.ref b437), .unset, .unset, .unset, .unset, .unset] [(.double (FP.l2d rr.toInt64)), (.ref b449), (.ref b449)]))
          refine own_on (fun tq => XS.iload X449.here hx rfl (hb hby at_143) rfl) ?_
          show own_Fin p e below _ (T449.setTop (mkF m 145 #[.val (.int p1), .val (.int p2), .val (.int p3), .val (.int p4), .val (.int p5), .val (.int p6), .val (.int bR), .val (.int (((p2.toUInt32 >>> ((2 : Int32) &&& 31).toUInt32).toInt32) &&& (3 : Int32))), .val (.int rr), .val (.int tT), .val (.int kk), .val (.int (0 : Int32)), .val (.int bq), .val (.ref b437), .unset, .unset, .unset, .unset, .unset] [(.int bq), (.double (FP.l2d rr.toInt64)), (.ref b449), (.ref b449)]))
          refine own_on (fun tq => XS.i2dS X449.here hx rfl (hb hby at_145) rfl (i2d_w _)) ?_
          show own_Fin p e below _ (T449.setTop (mkF m 146 #[.val (.int p1), .val (.int p2), .val (.int p3), .val (.int p4), .val (.int p5), .val (.int p6), .val (.int bR), .val (.int (((p2.toUInt32 >>> ((2 : Int32) &&& 31).toUInt32).toInt32) &&& (3 : Int32))), .val (.int rr), .val (.int tT), .val (.int kk), .val (.int (0 : Int32)), .val (.int bq), .val (.ref b437), .unset, .unset, .unset, .unset, .unset] [(.double (FP.l2d bq.toInt64)), (.double (FP.l2d rr.toInt64)), (.ref b449), (.ref b449)]))
          obtain ⟨_, _, ⟨T459, L459, k459, n459⟩, -, X459', S459', gr459, ⟨Lc459, hQ459, l459, y459, z459, A459⟩, st459⟩ := X449.specialBackS hx (y := (⟨"com/example/curves_to_bounds/curvestobounds/curve/TokenBucket", "<init>", "(DD)V"⟩ : MethodName)) rfl hown443 (mvT hZ443 (hw _ (List.mem_of_getElem? (i := 45) rfl))) (mvT hZ443 (hw _ (List.mem_of_getElem? (i := 46) rfl))) (mvT hZ443 (hw _ (List.mem_of_getElem? (i := 47) rfl))) (by decide) (backOfSH (s := s) (W := 1) (rm7 l Z a0 hw [] b449 (FP.l2d rr.toInt64) (FP.l2d bq.toInt64) h449 n0 (by exact y453) hEL (own_okI r0) (own_okI b0) A449 F449_rate F449_burst gn449) hZ443 (hw _ (List.mem_of_getElem? (i := 47) rfl)) (hw _ (List.mem_of_getElem? (i := 44) rfl)) (by decide) (by decide) hEL y450) (g := (mkF m 146 #[.val (.int p1), .val (.int p2), .val (.int p3), .val (.int p4), .val (.int p5), .val (.int p6), .val (.int bR), .val (.int (((p2.toUInt32 >>> ((2 : Int32) &&& 31).toUInt32).toInt32) &&& (3 : Int32))), .val (.int rr), .val (.int tT), .val (.int kk), .val (.int (0 : Int32)), .val (.int bq), .val (.ref b437), .unset, .unset, .unset, .unset, .unset] [(.double (FP.l2d bq.toInt64)), (.double (FP.l2d rr.toInt64)), (.ref b449), (.ref b449)])) rfl (by rw [hml]; rfl) (Steps.refl _) (a := b449) (argsL := [(.double (FP.l2d rr.toInt64)), (.double (FP.l2d bq.toInt64))]) (rest := [(.ref b449)]) (lenOf pd_5 rfl) rfl (by show 2 * 0 + _ ≤ _; exact Nat.le_of_eq rfl) (hb hby at_146) (fun _ _ => ⟨rfl, e449, (by decide : 6 + 4 ≤ _), (by decide : 56 + 44 ≤ _)⟩)
          dsimp only [Pt.U, Pt.locs, Pt.cells, Pt.slots] at X459' S459' gr459 l459 y459 z459 st459 hQ459 A459
          subst l459 y459 z459
          obtain ⟨X459, hS459, hZ459, hown459⟩ := rebS hS443 (by first | exact y452 | (rw [e449]; exact y452)) X459' S459' gr459 hZ443 hown443
          obtain ⟨rfl, N459q, K459, E459q, F459a, F459b⟩ := hQ459
          have N459 := Fr.app N443 N459q
          have y460 := (CHr.trans y451 A459)
          have y461 := (Nat.le_refl (Array.size T459.heap))
          have y462 := (Nat.le_trans y453 K459.1)
          have y463 := (CHr.safe A459 y457.lt y454)
          have y464 := (y455.keep K459)
          have y465 := (y456.keep K459 (ninS ne449_b437 nin0))
          have y466 := (y457.keep K459 (ninS ne449_b437 nin0))
          have y467 := (CHr.safe A459 F449_burst.lt y458)
          have y468 := (A449.keep K459)
          refine own_via st459 ?_
          show own_Fin p e below _ (T459.setTop (mkF m 149 #[.val (.int p1), .val (.int p2), .val (.int p3), .val (.int p4), .val (.int p5), .val (.int p6), .val (.int bR), .val (.int (((p2.toUInt32 >>> ((2 : Int32) &&& 31).toUInt32).toInt32) &&& (3 : Int32))), .val (.int rr), .val (.int tT), .val (.int kk), .val (.int (0 : Int32)), .val (.int bq), .val (.ref b437), .unset, .unset, .unset, .unset, .unset] [(.ref b449)]))
          refine own_on (fun tq => XS.astore X459.here hx rfl (hb hby at_149) rfl rfl (l' := #[.val (.int p1), .val (.int p2), .val (.int p3), .val (.int p4), .val (.int p5), .val (.int p6), .val (.int bR), .val (.int (((p2.toUInt32 >>> ((2 : Int32) &&& 31).toUInt32).toInt32) &&& (3 : Int32))), .val (.int rr), .val (.int tT), .val (.int kk), .val (.int (0 : Int32)), .val (.int bq), .val (.ref b437), .val (.ref b449), .unset, .unset, .unset, .unset]) rfl) ?_
          show own_Fin p e below _ (T459.setTop (mkF m 151 #[.val (.int p1), .val (.int p2), .val (.int p3), .val (.int p4), .val (.int p5), .val (.int p6), .val (.int bR), .val (.int (((p2.toUInt32 >>> ((2 : Int32) &&& 31).toUInt32).toInt32) &&& (3 : Int32))), .val (.int rr), .val (.int tT), .val (.int kk), .val (.int (0 : Int32)), .val (.int bq), .val (.ref b437), .val (.ref b449), .unset, .unset, .unset, .unset] []))
          refine own_on (fun tq => XS.aload X459.here hx rfl (hb hby at_151) rfl rfl) ?_
          show own_Fin p e below _ (T459.setTop (mkF m 153 #[.val (.int p1), .val (.int p2), .val (.int p3), .val (.int p4), .val (.int p5), .val (.int p6), .val (.int bR), .val (.int (((p2.toUInt32 >>> ((2 : Int32) &&& 31).toUInt32).toInt32) &&& (3 : Int32))), .val (.int rr), .val (.int tT), .val (.int kk), .val (.int (0 : Int32)), .val (.int bq), .val (.ref b437), .val (.ref b449), .unset, .unset, .unset, .unset] [(.ref b437)]))
          refine own_on (fun tq => XS.aload X459.here hx rfl (hb hby at_153) rfl rfl) ?_
          show own_Fin p e below _ (T459.setTop (mkF m 155 #[.val (.int p1), .val (.int p2), .val (.int p3), .val (.int p4), .val (.int p5), .val (.int p6), .val (.int bR), .val (.int (((p2.toUInt32 >>> ((2 : Int32) &&& 31).toUInt32).toInt32) &&& (3 : Int32))), .val (.int rr), .val (.int tT), .val (.int kk), .val (.int (0 : Int32)), .val (.int bq), .val (.ref b437), .val (.ref b449), .unset, .unset, .unset, .unset] [(.ref b449), (.ref b437)]))
          obtain ⟨cq469, kq469, q469a, q469b, q469c⟩ := isOf hZ459 rfl y464
          obtain ⟨_, _, ⟨T469, L469, k469, n469⟩, -, X469, ⟨Lc469, hQ469, l469, y469, z469⟩, st469⟩ := X459.virtualBack hx (y := (⟨"com/example/curves_to_bounds/curvestobounds/curve/RateLatency", "delayBound", "(Lcom/example/curves_to_bounds/curvestobounds/curve/TokenBucket;)D"⟩ : MethodName)) (z := (⟨"com/example/curves_to_bounds/curvestobounds/curve/RateLatency", "delayBound", "(Lcom/example/curves_to_bounds/curvestobounds/curve/TokenBucket;)D"⟩ : MethodName)) hown459 (mvT hZ459 (hw _ (List.mem_of_getElem? (i := 56) rfl))) (mvT hZ459 (hw _ (List.mem_of_getElem? (i := 57) rfl))) (notFace_of_selects (args := #[]) (mvT hZ459 (hw _ (List.mem_of_getElem? (i := 59) rfl)))) (mvT hZ459 (hw _ (List.mem_of_getElem? (i := 59) rfl))) (mvT hZ459 (hw _ (List.mem_of_getElem? (i := 58) rfl))) (by decide) (backOf (W := 0) (rm8 l Z a0 hw [] b437 b449 (bR.toInt64) (tT.toInt64) (rr.toInt64) (bq.toInt64) T459.heap n0 (by exact y462) y465 y466 F459a F459b E459q (own_b32 _) (own_b32 _) (fun q_ => absurd (own_z0 hc436) q_)) hZ459 (hw _ (List.mem_of_getElem? (i := 60) rfl)) (hw _ (List.mem_of_getElem? (i := 4) rfl)) (by decide) (by decide)) q469a q469c (g := (mkF m 155 #[.val (.int p1), .val (.int p2), .val (.int p3), .val (.int p4), .val (.int p5), .val (.int p6), .val (.int bR), .val (.int (((p2.toUInt32 >>> ((2 : Int32) &&& 31).toUInt32).toInt32) &&& (3 : Int32))), .val (.int rr), .val (.int tT), .val (.int kk), .val (.int (0 : Int32)), .val (.int bq), .val (.ref b437), .val (.ref b449), .unset, .unset, .unset, .unset] [(.ref b449), (.ref b437)])) rfl (by rw [hml]; rfl) (Steps.refl _) (argsL := [(.ref b449)]) (rest := []) (lenOf pd_6 rfl) rfl (by show 2 * 0 + _ ≤ _; exact Nat.le_of_eq rfl) (hb hby at_155) (fun _ _ => ⟨rfl, rfl, (by decide : 10 + 0 ≤ _), (by decide : 100 + 0 ≤ _)⟩)
          dsimp only [Pt.U, Pt.locs, Pt.cells, Pt.slots] at X469 l469 y469 z469 st469 hQ469
          subst l469 y469 z469
          obtain ⟨rfl, N469q, e469⟩ := hQ469
          have N469 := Fr.app N459 N469q
          refine own_via st469 ?_
          show own_Fin p e below _ (T469.setTop (mkF m 158 #[.val (.int p1), .val (.int p2), .val (.int p3), .val (.int p4), .val (.int p5), .val (.int p6), .val (.int bR), .val (.int (((p2.toUInt32 >>> ((2 : Int32) &&& 31).toUInt32).toInt32) &&& (3 : Int32))), .val (.int rr), .val (.int tT), .val (.int kk), .val (.int (0 : Int32)), .val (.int bq), .val (.ref b437), .val (.ref b449), .unset, .unset, .unset, .unset] [(.double (if bR.toInt64 = 0 ∨ bR.toInt64 < rr.toInt64 then (9218868437227405312 : UInt64) else FP.dadd (FP.l2d tT.toInt64) (FP.ddiv (FP.l2d bq.toInt64) (FP.l2d bR.toInt64))))]))
          obtain ⟨bd, hbd⟩ : ∃ q : UInt64, q = (if bR.toInt64 = 0 ∨ bR.toInt64 < rr.toInt64 then (9218868437227405312 : UInt64) else FP.dadd (FP.l2d tT.toInt64) (FP.ddiv (FP.l2d bq.toInt64) (FP.l2d bR.toInt64))) := ⟨_, rfl⟩
          rw [← hbd]
          show own_Fin p e below _ (T469.setTop (mkF m 158 #[.val (.int p1), .val (.int p2), .val (.int p3), .val (.int p4), .val (.int p5), .val (.int p6), .val (.int bR), .val (.int (((p2.toUInt32 >>> ((2 : Int32) &&& 31).toUInt32).toInt32) &&& (3 : Int32))), .val (.int rr), .val (.int tT), .val (.int kk), .val (.int (0 : Int32)), .val (.int bq), .val (.ref b437), .val (.ref b449), .unset, .unset, .unset, .unset] [(.double bd)]))
          refine own_on (fun tq => XS.dstore X469.here hx rfl (hb hby at_158) rfl (l' := #[.val (.int p1), .val (.int p2), .val (.int p3), .val (.int p4), .val (.int p5), .val (.int p6), .val (.int bR), .val (.int (((p2.toUInt32 >>> ((2 : Int32) &&& 31).toUInt32).toInt32) &&& (3 : Int32))), .val (.int rr), .val (.int tT), .val (.int kk), .val (.int (0 : Int32)), .val (.int bq), .val (.ref b437), .val (.ref b449), .val (.double bd), .second, .unset, .unset]) rfl) ?_
          show own_Fin p e below _ (T469.setTop (mkF m 160 #[.val (.int p1), .val (.int p2), .val (.int p3), .val (.int p4), .val (.int p5), .val (.int p6), .val (.int bR), .val (.int (((p2.toUInt32 >>> ((2 : Int32) &&& 31).toUInt32).toInt32) &&& (3 : Int32))), .val (.int rr), .val (.int tT), .val (.int kk), .val (.int (0 : Int32)), .val (.int bq), .val (.ref b437), .val (.ref b449), .val (.double bd), .second, .unset, .unset] []))
          refine own_on (fun tq => XS.iload X469.here hx rfl (hb hby at_160) rfl) ?_
          show own_Fin p e below _ (T469.setTop (mkF m 162 #[.val (.int p1), .val (.int p2), .val (.int p3), .val (.int p4), .val (.int p5), .val (.int p6), .val (.int bR), .val (.int (((p2.toUInt32 >>> ((2 : Int32) &&& 31).toUInt32).toInt32) &&& (3 : Int32))), .val (.int rr), .val (.int tT), .val (.int kk), .val (.int (0 : Int32)), .val (.int bq), .val (.ref b437), .val (.ref b449), .val (.double bd), .second, .unset, .unset] [(.int bR)]))
          refine own_on (fun tq => XS.ifYes X469.here hx rfl (pc0 := 162) (pc' := 172) rfl (hb hby at_162) rfl ((if0 _ _).trans (teq hc436).1) (by decide) (by decide)) ?_
          show own_Fin p e below _ (T469.setTop (mkF m 172 #[.val (.int p1), .val (.int p2), .val (.int p3), .val (.int p4), .val (.int p5), .val (.int p6), .val (.int bR), .val (.int (((p2.toUInt32 >>> ((2 : Int32) &&& 31).toUInt32).toInt32) &&& (3 : Int32))), .val (.int rr), .val (.int tT), .val (.int kk), .val (.int (0 : Int32)), .val (.int bq), .val (.ref b437), .val (.ref b449), .val (.double bd), .second, .unset, .unset] []))
          refine own_on (fun tq => XS.dload X469.here hx rfl (hb hby at_172) rfl) ?_
          show own_Fin p e below _ (T469.setTop (mkF m 174 #[.val (.int p1), .val (.int p2), .val (.int p3), .val (.int p4), .val (.int p5), .val (.int p6), .val (.int bR), .val (.int (((p2.toUInt32 >>> ((2 : Int32) &&& 31).toUInt32).toInt32) &&& (3 : Int32))), .val (.int rr), .val (.int tT), .val (.int kk), .val (.int (0 : Int32)), .val (.int bq), .val (.ref b437), .val (.ref b449), .val (.double bd), .second, .unset, .unset] [(.double bd)]))
          refine own_on (fun tq => X469.ldc2DoubleC hx hown459 (mvT hZ459 (hw _ (List.mem_of_getElem? (i := 62) rfl))) (g := (mkF m 174 #[.val (.int p1), .val (.int p2), .val (.int p3), .val (.int p4), .val (.int p5), .val (.int p6), .val (.int bR), .val (.int (((p2.toUInt32 >>> ((2 : Int32) &&& 31).toUInt32).toInt32) &&& (3 : Int32))), .val (.int rr), .val (.int tT), .val (.int kk), .val (.int (0 : Int32)), .val (.int bq), .val (.ref b437), .val (.ref b449), .val (.double bd), .second, .unset, .unset] [(.double bd)])) rfl (hb hby at_174) tq) ?_
          show own_Fin p e below _ (T469.setTop (mkF m 177 #[.val (.int p1), .val (.int p2), .val (.int p3), .val (.int p4), .val (.int p5), .val (.int p6), .val (.int bR), .val (.int (((p2.toUInt32 >>> ((2 : Int32) &&& 31).toUInt32).toInt32) &&& (3 : Int32))), .val (.int rr), .val (.int tT), .val (.int kk), .val (.int (0 : Int32)), .val (.int bq), .val (.ref b437), .val (.ref b449), .val (.double bd), .second, .unset, .unset] [(.double (9218868437227405312 : UInt64)), (.double bd)]))
          refine own_on (fun tq => XS.dcmpS X469.here hx rfl (hb hby at_177) rfl (own_pinf (hbd.trans (if_pos (Or.inl (own_z0 hc436)))))) ?_
          show own_Fin p e below _ (T469.setTop (mkF m 178 #[.val (.int p1), .val (.int p2), .val (.int p3), .val (.int p4), .val (.int p5), .val (.int p6), .val (.int bR), .val (.int (((p2.toUInt32 >>> ((2 : Int32) &&& 31).toUInt32).toInt32) &&& (3 : Int32))), .val (.int rr), .val (.int tT), .val (.int kk), .val (.int (0 : Int32)), .val (.int bq), .val (.ref b437), .val (.ref b449), .val (.double bd), .second, .unset, .unset] [(.int (0 : Int32))]))
          refine own_on (fun tq => XS.ifNo X469.here hx rfl (hb hby at_178) rfl ((if0 _ _).trans (teq (by decide : (0 : Int32) = (0 : Int32))).2)) ?_
          show own_Fin p e below _ (T469.setTop (mkF m 181 #[.val (.int p1), .val (.int p2), .val (.int p3), .val (.int p4), .val (.int p5), .val (.int p6), .val (.int bR), .val (.int (((p2.toUInt32 >>> ((2 : Int32) &&& 31).toUInt32).toInt32) &&& (3 : Int32))), .val (.int rr), .val (.int tT), .val (.int kk), .val (.int (0 : Int32)), .val (.int bq), .val (.ref b437), .val (.ref b449), .val (.double bd), .second, .unset, .unset] []))
          refine own_on (fun tq => XS.iconst X469.here hx rfl (hb hby at_181)) ?_
          show own_Fin p e below _ (T469.setTop (mkF m 182 #[.val (.int p1), .val (.int p2), .val (.int p3), .val (.int p4), .val (.int p5), .val (.int p6), .val (.int bR), .val (.int (((p2.toUInt32 >>> ((2 : Int32) &&& 31).toUInt32).toInt32) &&& (3 : Int32))), .val (.int rr), .val (.int tT), .val (.int kk), .val (.int (0 : Int32)), .val (.int bq), .val (.ref b437), .val (.ref b449), .val (.double bd), .second, .unset, .unset] [(.int (1 : Int32))]))
          refine own_on (fun tq => XS.goto X469.here hx rfl (pc0 := 182) (pc' := 186) rfl (hb hby at_182) (by decide) (by decide)) ?_
          show own_Fin p e below _ (T469.setTop (mkF m 186 #[.val (.int p1), .val (.int p2), .val (.int p3), .val (.int p4), .val (.int p5), .val (.int p6), .val (.int bR), .val (.int (((p2.toUInt32 >>> ((2 : Int32) &&& 31).toUInt32).toInt32) &&& (3 : Int32))), .val (.int rr), .val (.int tT), .val (.int kk), .val (.int (0 : Int32)), .val (.int bq), .val (.ref b437), .val (.ref b449), .val (.double bd), .second, .unset, .unset] [(.int (1 : Int32))]))
          exact own_retW (t := .boolean) X469 (Z := Z) (EL := own_EL) (a0 := a0) hx hlk hret rfl (Or.inl ⟨rfl, (by simp), _, rfl⟩) (hb hby at_186) hS459 (by rw [e469]; exact y461) hZ459 hEL (by rw [hh, e469]; exact y460) (⟨rfl, N469⟩) (by decide) (by decide)
        · refine own_on (fun tq => XS.ifYes X0.here hx rfl (pc0 := 81) (pc' := 88) rfl (hb hby at_81) rfl ((if0 _ _).trans (feq hc436).2) (by decide) (by decide)) ?_
          show own_Fin p e below _ (s₁.setTop (mkF m 88 #[.val (.int p1), .val (.int p2), .val (.int p3), .val (.int p4), .val (.int p5), .val (.int p6), .val (.int bR), .val (.int (((p2.toUInt32 >>> ((2 : Int32) &&& 31).toUInt32).toInt32) &&& (3 : Int32))), .val (.int rr), .val (.int tT), .val (.int kk), .unset, .unset, .unset, .unset, .unset, .unset, .unset, .unset] []))
          refine own_on (fun tq => XS.iload X0.here hx rfl (hb hby at_88) rfl) ?_
          show own_Fin p e below _ (s₁.setTop (mkF m 90 #[.val (.int p1), .val (.int p2), .val (.int p3), .val (.int p4), .val (.int p5), .val (.int p6), .val (.int bR), .val (.int (((p2.toUInt32 >>> ((2 : Int32) &&& 31).toUInt32).toInt32) &&& (3 : Int32))), .val (.int rr), .val (.int tT), .val (.int kk), .unset, .unset, .unset, .unset, .unset, .unset, .unset, .unset] [(.int p6)]))
          refine own_on (fun tq => X0.ldcInt hx hown (mvT hZ (hw _ (List.mem_of_getElem? (i := 1) rfl))) (g := (mkF m 90 #[.val (.int p1), .val (.int p2), .val (.int p3), .val (.int p4), .val (.int p5), .val (.int p6), .val (.int bR), .val (.int (((p2.toUInt32 >>> ((2 : Int32) &&& 31).toUInt32).toInt32) &&& (3 : Int32))), .val (.int rr), .val (.int tT), .val (.int kk), .unset, .unset, .unset, .unset, .unset, .unset, .unset, .unset] [(.int p6)])) rfl (hb hby at_90) tq) ?_
          show own_Fin p e below _ (s₁.setTop (mkF m 92 #[.val (.int p1), .val (.int p2), .val (.int p3), .val (.int p4), .val (.int p5), .val (.int p6), .val (.int bR), .val (.int (((p2.toUInt32 >>> ((2 : Int32) &&& 31).toUInt32).toInt32) &&& (3 : Int32))), .val (.int rr), .val (.int tT), .val (.int kk), .unset, .unset, .unset, .unset, .unset, .unset, .unset, .unset] [(.int (2147483647 : Int32)), (.int p6)]))
          refine own_on (fun tq => XS.iand X0.here hx rfl (hb hby at_92) rfl) ?_
          show own_Fin p e below _ (s₁.setTop (mkF m 93 #[.val (.int p1), .val (.int p2), .val (.int p3), .val (.int p4), .val (.int p5), .val (.int p6), .val (.int bR), .val (.int (((p2.toUInt32 >>> ((2 : Int32) &&& 31).toUInt32).toInt32) &&& (3 : Int32))), .val (.int rr), .val (.int tT), .val (.int kk), .unset, .unset, .unset, .unset, .unset, .unset, .unset, .unset] [(.int (p6 &&& (2147483647 : Int32)))]))
          refine own_on (fun tq => XS.iload X0.here hx rfl (hb hby at_93) rfl) ?_
          show own_Fin p e below _ (s₁.setTop (mkF m 95 #[.val (.int p1), .val (.int p2), .val (.int p3), .val (.int p4), .val (.int p5), .val (.int p6), .val (.int bR), .val (.int (((p2.toUInt32 >>> ((2 : Int32) &&& 31).toUInt32).toInt32) &&& (3 : Int32))), .val (.int rr), .val (.int tT), .val (.int kk), .unset, .unset, .unset, .unset, .unset, .unset, .unset, .unset] [(.int bR), (.int (p6 &&& (2147483647 : Int32)))]))
          refine own_on (fun tq => iremM X0 hx rfl (hb hby at_95) rfl hc436) ?_
          show own_Fin p e below _ (s₁.setTop (mkF m 96 #[.val (.int p1), .val (.int p2), .val (.int p3), .val (.int p4), .val (.int p5), .val (.int p6), .val (.int bR), .val (.int (((p2.toUInt32 >>> ((2 : Int32) &&& 31).toUInt32).toInt32) &&& (3 : Int32))), .val (.int rr), .val (.int tT), .val (.int kk), .unset, .unset, .unset, .unset, .unset, .unset, .unset, .unset] [(.int ((p6 &&& (2147483647 : Int32)) % bR))]))
          refine own_on (fun tq => XS.istore X0.here hx rfl (hb hby at_96) rfl (l' := #[.val (.int p1), .val (.int p2), .val (.int p3), .val (.int p4), .val (.int p5), .val (.int p6), .val (.int bR), .val (.int (((p2.toUInt32 >>> ((2 : Int32) &&& 31).toUInt32).toInt32) &&& (3 : Int32))), .val (.int rr), .val (.int tT), .val (.int kk), .val (.int ((p6 &&& (2147483647 : Int32)) % bR)), .unset, .unset, .unset, .unset, .unset, .unset, .unset]) rfl) ?_
          show own_Fin p e below _ (s₁.setTop (mkF m 98 #[.val (.int p1), .val (.int p2), .val (.int p3), .val (.int p4), .val (.int p5), .val (.int p6), .val (.int bR), .val (.int (((p2.toUInt32 >>> ((2 : Int32) &&& 31).toUInt32).toInt32) &&& (3 : Int32))), .val (.int rr), .val (.int tT), .val (.int kk), .val (.int ((p6 &&& (2147483647 : Int32)) % bR)), .unset, .unset, .unset, .unset, .unset, .unset, .unset] []))
          obtain ⟨mq, hmq⟩ : ∃ q : Int32, q = ((p6 &&& (2147483647 : Int32)) % bR) := ⟨_, rfl⟩
          have rm : 0 ≤ mq.toInt ∧ mq.toInt < bR.toInt := hmq ▸ own_rm rR hc436
          rw [← hmq]
          show own_Fin p e below _ (s₁.setTop (mkF m 98 #[.val (.int p1), .val (.int p2), .val (.int p3), .val (.int p4), .val (.int p5), .val (.int p6), .val (.int bR), .val (.int (((p2.toUInt32 >>> ((2 : Int32) &&& 31).toUInt32).toInt32) &&& (3 : Int32))), .val (.int rr), .val (.int tT), .val (.int kk), .val (.int mq), .unset, .unset, .unset, .unset, .unset, .unset, .unset] []))
          refine own_on (fun tq => XS.iload X0.here hx rfl (hb hby at_98) rfl) ?_
          show own_Fin p e below _ (s₁.setTop (mkF m 100 #[.val (.int p1), .val (.int p2), .val (.int p3), .val (.int p4), .val (.int p5), .val (.int p6), .val (.int bR), .val (.int (((p2.toUInt32 >>> ((2 : Int32) &&& 31).toUInt32).toInt32) &&& (3 : Int32))), .val (.int rr), .val (.int tT), .val (.int kk), .val (.int mq), .unset, .unset, .unset, .unset, .unset, .unset, .unset] [(.int bR)]))
          refine own_on (fun tq => XS.ifYes X0.here hx rfl (pc0 := 100) (pc' := 111) rfl (hb hby at_100) rfl ((if0 _ _).trans (feq hc436).2) (by decide) (by decide)) ?_
          show own_Fin p e below _ (s₁.setTop (mkF m 111 #[.val (.int p1), .val (.int p2), .val (.int p3), .val (.int p4), .val (.int p5), .val (.int p6), .val (.int bR), .val (.int (((p2.toUInt32 >>> ((2 : Int32) &&& 31).toUInt32).toInt32) &&& (3 : Int32))), .val (.int rr), .val (.int tT), .val (.int kk), .val (.int mq), .unset, .unset, .unset, .unset, .unset, .unset, .unset] []))
          refine own_on (fun tq => XS.iload X0.here hx rfl (hb hby at_111) rfl) ?_
          show own_Fin p e below _ (s₁.setTop (mkF m 113 #[.val (.int p1), .val (.int p2), .val (.int p3), .val (.int p4), .val (.int p5), .val (.int p6), .val (.int bR), .val (.int (((p2.toUInt32 >>> ((2 : Int32) &&& 31).toUInt32).toInt32) &&& (3 : Int32))), .val (.int rr), .val (.int tT), .val (.int kk), .val (.int mq), .unset, .unset, .unset, .unset, .unset, .unset, .unset] [(.int bR)]))
          refine own_on (fun tq => XS.iload X0.here hx rfl (hb hby at_113) rfl) ?_
          show own_Fin p e below _ (s₁.setTop (mkF m 115 #[.val (.int p1), .val (.int p2), .val (.int p3), .val (.int p4), .val (.int p5), .val (.int p6), .val (.int bR), .val (.int (((p2.toUInt32 >>> ((2 : Int32) &&& 31).toUInt32).toInt32) &&& (3 : Int32))), .val (.int rr), .val (.int tT), .val (.int kk), .val (.int mq), .unset, .unset, .unset, .unset, .unset, .unset, .unset] [(.int kk), (.int bR)]))
          refine own_on (fun tq => XS.imul X0.here hx rfl (hb hby at_115) rfl) ?_
          show own_Fin p e below _ (s₁.setTop (mkF m 116 #[.val (.int p1), .val (.int p2), .val (.int p3), .val (.int p4), .val (.int p5), .val (.int p6), .val (.int bR), .val (.int (((p2.toUInt32 >>> ((2 : Int32) &&& 31).toUInt32).toInt32) &&& (3 : Int32))), .val (.int rr), .val (.int tT), .val (.int kk), .val (.int mq), .unset, .unset, .unset, .unset, .unset, .unset, .unset] [(.int (bR * kk))]))
          refine own_on (fun tq => XS.iload X0.here hx rfl (hb hby at_116) rfl) ?_
          show own_Fin p e below _ (s₁.setTop (mkF m 118 #[.val (.int p1), .val (.int p2), .val (.int p3), .val (.int p4), .val (.int p5), .val (.int p6), .val (.int bR), .val (.int (((p2.toUInt32 >>> ((2 : Int32) &&& 31).toUInt32).toInt32) &&& (3 : Int32))), .val (.int rr), .val (.int tT), .val (.int kk), .val (.int mq), .unset, .unset, .unset, .unset, .unset, .unset, .unset] [(.int mq), (.int (bR * kk))]))
          refine own_on (fun tq => XS.iadd X0.here hx rfl (hb hby at_118) rfl) ?_
          show own_Fin p e below _ (s₁.setTop (mkF m 119 #[.val (.int p1), .val (.int p2), .val (.int p3), .val (.int p4), .val (.int p5), .val (.int p6), .val (.int bR), .val (.int (((p2.toUInt32 >>> ((2 : Int32) &&& 31).toUInt32).toInt32) &&& (3 : Int32))), .val (.int rr), .val (.int tT), .val (.int kk), .val (.int mq), .unset, .unset, .unset, .unset, .unset, .unset, .unset] [(.int ((bR * kk) + mq))]))
          refine own_on (fun tq => XS.istore X0.here hx rfl (hb hby at_119) rfl (l' := #[.val (.int p1), .val (.int p2), .val (.int p3), .val (.int p4), .val (.int p5), .val (.int p6), .val (.int bR), .val (.int (((p2.toUInt32 >>> ((2 : Int32) &&& 31).toUInt32).toInt32) &&& (3 : Int32))), .val (.int rr), .val (.int tT), .val (.int kk), .val (.int mq), .val (.int ((bR * kk) + mq)), .unset, .unset, .unset, .unset, .unset, .unset]) rfl) ?_
          show own_Fin p e below _ (s₁.setTop (mkF m 121 #[.val (.int p1), .val (.int p2), .val (.int p3), .val (.int p4), .val (.int p5), .val (.int p6), .val (.int bR), .val (.int (((p2.toUInt32 >>> ((2 : Int32) &&& 31).toUInt32).toInt32) &&& (3 : Int32))), .val (.int rr), .val (.int tT), .val (.int kk), .val (.int mq), .val (.int ((bR * kk) + mq)), .unset, .unset, .unset, .unset, .unset, .unset] []))
          obtain ⟨bq, hbq⟩ : ∃ q : Int32, q = ((bR * kk) + mq) := ⟨_, rfl⟩
          have hbb : bq.toInt = bR.toInt * kk.toInt + mq.toInt ∧ 0 ≤ bq.toInt := hbq ▸ own_rb rR rk rm
          rw [← hbq]
          show own_Fin p e below _ (s₁.setTop (mkF m 121 #[.val (.int p1), .val (.int p2), .val (.int p3), .val (.int p4), .val (.int p5), .val (.int p6), .val (.int bR), .val (.int (((p2.toUInt32 >>> ((2 : Int32) &&& 31).toUInt32).toInt32) &&& (3 : Int32))), .val (.int rr), .val (.int tT), .val (.int kk), .val (.int mq), .val (.int bq), .unset, .unset, .unset, .unset, .unset, .unset] []))
          obtain ⟨T470, h470, X470, e470, E470, A470, D470, -, st470⟩ := newO X0 hx hZ hown (hw _ (List.mem_of_getElem? (i := 2) rfl)) (hw _ (List.mem_of_getElem? (i := 3) rfl)) (hw _ (List.mem_of_getElem? (i := 4) rfl)) e0 (g := (mkF m 121 #[.val (.int p1), .val (.int p2), .val (.int p3), .val (.int p4), .val (.int p5), .val (.int p6), .val (.int bR), .val (.int (((p2.toUInt32 >>> ((2 : Int32) &&& 31).toUInt32).toInt32) &&& (3 : Int32))), .val (.int rr), .val (.int tT), .val (.int kk), .val (.int mq), .val (.int bq), .unset, .unset, .unset, .unset, .unset, .unset] [])) rfl (hb hby at_121) (by decide) (by decide)
          obtain ⟨b470, g470⟩ : ∃ z, z = h0.size := ⟨_, rfl⟩
          rw [← g470] at A470 D470 st470
          have y471 := (CHv.ext E470 CH0)
          have y472 := (CHr.trans (CHr.refl CH0) (CHr.ext E470 CH0))
          have y473 := (Nat.le_trans (Nat.zero_le _) E470.1)
          have y474 := (Nat.le_trans Z0 E470.1)
          have y475 := (Safe.ext E470 CH0 (Safe.new (Nat.le_of_eq g470.symm)))
          have gn470 : n0 ≤ b470 := Nat.le_trans Z0 (Nat.le_of_eq g470.symm)
          have F470_rate : Fld Z h470 b470 "com/example/curves_to_bounds/curvestobounds/curve/RateLatency" "rate" "D" (.double (0 : UInt64)) := D470 (Or.inr (hw _ (List.mem_of_getElem? (i := 39) rfl))) (ty := .double) (by decide)
          have F470_latency : Fld Z h470 b470 "com/example/curves_to_bounds/curvestobounds/curve/RateLatency" "latency" "D" (.double (0 : UInt64)) := D470 (Or.inr (hw _ (List.mem_of_getElem? (i := 41) rfl))) (ty := .double) (by decide)
          refine own_on st470 ?_
          show own_Fin p e below _ (T470.setTop (mkF m 124 #[.val (.int p1), .val (.int p2), .val (.int p3), .val (.int p4), .val (.int p5), .val (.int p6), .val (.int bR), .val (.int (((p2.toUInt32 >>> ((2 : Int32) &&& 31).toUInt32).toInt32) &&& (3 : Int32))), .val (.int rr), .val (.int tT), .val (.int kk), .val (.int mq), .val (.int bq), .unset, .unset, .unset, .unset, .unset, .unset] [(.ref b470)]))
          refine own_on (fun tq => XS.dup X470.here hx rfl (hb hby at_124) rfl rfl) ?_
          show own_Fin p e below _ (T470.setTop (mkF m 125 #[.val (.int p1), .val (.int p2), .val (.int p3), .val (.int p4), .val (.int p5), .val (.int p6), .val (.int bR), .val (.int (((p2.toUInt32 >>> ((2 : Int32) &&& 31).toUInt32).toInt32) &&& (3 : Int32))), .val (.int rr), .val (.int tT), .val (.int kk), .val (.int mq), .val (.int bq), .unset, .unset, .unset, .unset, .unset, .unset] [(.ref b470), (.ref b470)]))
          refine own_on (fun tq => XS.iload X470.here hx rfl (hb hby at_125) rfl) ?_
          show own_Fin p e below _ (T470.setTop (mkF m 127 #[.val (.int p1), .val (.int p2), .val (.int p3), .val (.int p4), .val (.int p5), .val (.int p6), .val (.int bR), .val (.int (((p2.toUInt32 >>> ((2 : Int32) &&& 31).toUInt32).toInt32) &&& (3 : Int32))), .val (.int rr), .val (.int tT), .val (.int kk), .val (.int mq), .val (.int bq), .unset, .unset, .unset, .unset, .unset, .unset] [(.int bR), (.ref b470), (.ref b470)]))
          refine own_on (fun tq => XS.i2dS X470.here hx rfl (hb hby at_127) rfl (i2d_w _)) ?_
          show own_Fin p e below _ (T470.setTop (mkF m 128 #[.val (.int p1), .val (.int p2), .val (.int p3), .val (.int p4), .val (.int p5), .val (.int p6), .val (.int bR), .val (.int (((p2.toUInt32 >>> ((2 : Int32) &&& 31).toUInt32).toInt32) &&& (3 : Int32))), .val (.int rr), .val (.int tT), .val (.int kk), .val (.int mq), .val (.int bq), .unset, .unset, .unset, .unset, .unset, .unset] [(.double (FP.l2d bR.toInt64)), (.ref b470), (.ref b470)]))
          refine own_on (fun tq => XS.iload X470.here hx rfl (hb hby at_128) rfl) ?_
          show own_Fin p e below _ (T470.setTop (mkF m 130 #[.val (.int p1), .val (.int p2), .val (.int p3), .val (.int p4), .val (.int p5), .val (.int p6), .val (.int bR), .val (.int (((p2.toUInt32 >>> ((2 : Int32) &&& 31).toUInt32).toInt32) &&& (3 : Int32))), .val (.int rr), .val (.int tT), .val (.int kk), .val (.int mq), .val (.int bq), .unset, .unset, .unset, .unset, .unset, .unset] [(.int tT), (.double (FP.l2d bR.toInt64)), (.ref b470), (.ref b470)]))
          refine own_on (fun tq => XS.i2dS X470.here hx rfl (hb hby at_130) rfl (i2d_w _)) ?_
          show own_Fin p e below _ (T470.setTop (mkF m 131 #[.val (.int p1), .val (.int p2), .val (.int p3), .val (.int p4), .val (.int p5), .val (.int p6), .val (.int bR), .val (.int (((p2.toUInt32 >>> ((2 : Int32) &&& 31).toUInt32).toInt32) &&& (3 : Int32))), .val (.int rr), .val (.int tT), .val (.int kk), .val (.int mq), .val (.int bq), .unset, .unset, .unset, .unset, .unset, .unset] [(.double (FP.l2d tT.toInt64)), (.double (FP.l2d bR.toInt64)), (.ref b470), (.ref b470)]))
          obtain ⟨_, _, ⟨T476, L476, k476, n476⟩, -, X476', S476', gr476, ⟨Lc476, hQ476, l476, y476, z476, A476⟩, st476⟩ := X470.specialBackS hx (y := (⟨"com/example/curves_to_bounds/curvestobounds/curve/RateLatency", "<init>", "(DD)V"⟩ : MethodName)) rfl hown (mvT hZ (hw _ (List.mem_of_getElem? (i := 5) rfl))) (mvT hZ (hw _ (List.mem_of_getElem? (i := 6) rfl))) (mvT hZ (hw _ (List.mem_of_getElem? (i := 7) rfl))) (by decide) (backOfSH (s := s) (W := 1) (rm1 l Z a0 hw [] b470 (FP.l2d bR.toInt64) (FP.l2d tT.toInt64) h470 n0 (by exact y474) hEL (own_okI rR.1) (own_okI rT.1) A470 F470_rate F470_latency gn470) hZ (hw _ (List.mem_of_getElem? (i := 7) rfl)) (hw _ (List.mem_of_getElem? (i := 4) rfl)) (by decide) (by decide) hEL y471) (g := (mkF m 131 #[.val (.int p1), .val (.int p2), .val (.int p3), .val (.int p4), .val (.int p5), .val (.int p6), .val (.int bR), .val (.int (((p2.toUInt32 >>> ((2 : Int32) &&& 31).toUInt32).toInt32) &&& (3 : Int32))), .val (.int rr), .val (.int tT), .val (.int kk), .val (.int mq), .val (.int bq), .unset, .unset, .unset, .unset, .unset, .unset] [(.double (FP.l2d tT.toInt64)), (.double (FP.l2d bR.toInt64)), (.ref b470), (.ref b470)])) rfl (by rw [hml]; rfl) (Steps.refl _) (a := b470) (argsL := [(.double (FP.l2d bR.toInt64)), (.double (FP.l2d tT.toInt64))]) (rest := [(.ref b470)]) (lenOf pd_5 rfl) rfl (by show 2 * 0 + _ ≤ _; exact Nat.le_of_eq rfl) (hb hby at_131) (fun _ _ => ⟨rfl, e470, (by decide : 1 + 4 ≤ _), (by decide : 2 + 52 ≤ _)⟩)
          dsimp only [Pt.U, Pt.locs, Pt.cells, Pt.slots] at X476' S476' gr476 l476 y476 z476 st476 hQ476 A476
          subst l476 y476 z476
          obtain ⟨X476, hS476, hZ476, hown476⟩ := rebS hS0 (by first | exact y473 | (rw [e470]; exact y473)) X476' S476' gr476 hZ hown
          obtain ⟨rfl, N476q, K476, E476q, F476a, F476b⟩ := hQ476
          have N476 := Fr.app N0 N476q
          have y477 := (CHr.trans y472 A476)
          have y478 := (Nat.le_refl (Array.size T476.heap))
          have y479 := (Nat.le_trans y474 K476.1)
          have y480 := (CHr.safe A476 F470_latency.lt y475)
          have y481 := (A470.keep K476)
          refine own_via st476 ?_
          show own_Fin p e below _ (T476.setTop (mkF m 134 #[.val (.int p1), .val (.int p2), .val (.int p3), .val (.int p4), .val (.int p5), .val (.int p6), .val (.int bR), .val (.int (((p2.toUInt32 >>> ((2 : Int32) &&& 31).toUInt32).toInt32) &&& (3 : Int32))), .val (.int rr), .val (.int tT), .val (.int kk), .val (.int mq), .val (.int bq), .unset, .unset, .unset, .unset, .unset, .unset] [(.ref b470)]))
          refine own_on (fun tq => XS.astore X476.here hx rfl (hb hby at_134) rfl rfl (l' := #[.val (.int p1), .val (.int p2), .val (.int p3), .val (.int p4), .val (.int p5), .val (.int p6), .val (.int bR), .val (.int (((p2.toUInt32 >>> ((2 : Int32) &&& 31).toUInt32).toInt32) &&& (3 : Int32))), .val (.int rr), .val (.int tT), .val (.int kk), .val (.int mq), .val (.int bq), .val (.ref b470), .unset, .unset, .unset, .unset, .unset]) rfl) ?_
          show own_Fin p e below _ (T476.setTop (mkF m 136 #[.val (.int p1), .val (.int p2), .val (.int p3), .val (.int p4), .val (.int p5), .val (.int p6), .val (.int bR), .val (.int (((p2.toUInt32 >>> ((2 : Int32) &&& 31).toUInt32).toInt32) &&& (3 : Int32))), .val (.int rr), .val (.int tT), .val (.int kk), .val (.int mq), .val (.int bq), .val (.ref b470), .unset, .unset, .unset, .unset, .unset] []))
          obtain ⟨T482, h482, X482, e482, E482, A482, D482, -, st482⟩ := newO X476 hx hZ476 hown476 (hw _ (List.mem_of_getElem? (i := 42) rfl)) (hw _ (List.mem_of_getElem? (i := 43) rfl)) (hw _ (List.mem_of_getElem? (i := 44) rfl)) rfl (g := (mkF m 136 #[.val (.int p1), .val (.int p2), .val (.int p3), .val (.int p4), .val (.int p5), .val (.int p6), .val (.int bR), .val (.int (((p2.toUInt32 >>> ((2 : Int32) &&& 31).toUInt32).toInt32) &&& (3 : Int32))), .val (.int rr), .val (.int tT), .val (.int kk), .val (.int mq), .val (.int bq), .val (.ref b470), .unset, .unset, .unset, .unset, .unset] [])) rfl (hb hby at_136) (by decide) (by decide)
          obtain ⟨b482, g482⟩ : ∃ z, z = T476.heap.size := ⟨_, rfl⟩
          rw [← g482] at A482 D482 st482
          have ne482_b470 : b470 ≠ b482 := own_ne_of (Z := Z) E476q.lt g482
          have y483 := (CHv.ext E482 A476.1)
          have y484 := (CHr.trans y477 (CHr.ext E482 A476.1))
          have y485 := (Nat.le_trans y478 E482.1)
          have y486 := (Nat.le_trans y479 E482.1)
          have y487 := (Safe.ext E482 A476.1 y480)
          have y488 := (E476q.ext E482)
          have y489 := (F476a.ext E482)
          have y490 := (F476b.ext E482)
          have y491 := (Safe.ext E482 A476.1 (Safe.new (Nat.le_of_eq g482.symm)))
          have gn482 : n0 ≤ b482 := Nat.le_trans y479 (Nat.le_of_eq g482.symm)
          have F482_rate : Fld Z h482 b482 "com/example/curves_to_bounds/curvestobounds/curve/TokenBucket" "rate" "D" (.double (0 : UInt64)) := D482 (Or.inr (hw _ (List.mem_of_getElem? (i := 53) rfl))) (ty := .double) (by decide)
          have F482_burst : Fld Z h482 b482 "com/example/curves_to_bounds/curvestobounds/curve/TokenBucket" "burst" "D" (.double (0 : UInt64)) := D482 (Or.inr (hw _ (List.mem_of_getElem? (i := 55) rfl))) (ty := .double) (by decide)
          refine own_on st482 ?_
          show own_Fin p e below _ (T482.setTop (mkF m 139 #[.val (.int p1), .val (.int p2), .val (.int p3), .val (.int p4), .val (.int p5), .val (.int p6), .val (.int bR), .val (.int (((p2.toUInt32 >>> ((2 : Int32) &&& 31).toUInt32).toInt32) &&& (3 : Int32))), .val (.int rr), .val (.int tT), .val (.int kk), .val (.int mq), .val (.int bq), .val (.ref b470), .unset, .unset, .unset, .unset, .unset] [(.ref b482)]))
          refine own_on (fun tq => XS.dup X482.here hx rfl (hb hby at_139) rfl rfl) ?_
          show own_Fin p e below _ (T482.setTop (mkF m 140 #[.val (.int p1), .val (.int p2), .val (.int p3), .val (.int p4), .val (.int p5), .val (.int p6), .val (.int bR), .val (.int (((p2.toUInt32 >>> ((2 : Int32) &&& 31).toUInt32).toInt32) &&& (3 : Int32))), .val (.int rr), .val (.int tT), .val (.int kk), .val (.int mq), .val (.int bq), .val (.ref b470), .unset, .unset, .unset, .unset, .unset] [(.ref b482), (.ref b482)]))
          refine own_on (fun tq => XS.iload X482.here hx rfl (hb hby at_140) rfl) ?_
          show own_Fin p e below _ (T482.setTop (mkF m 142 #[.val (.int p1), .val (.int p2), .val (.int p3), .val (.int p4), .val (.int p5), .val (.int p6), .val (.int bR), .val (.int (((p2.toUInt32 >>> ((2 : Int32) &&& 31).toUInt32).toInt32) &&& (3 : Int32))), .val (.int rr), .val (.int tT), .val (.int kk), .val (.int mq), .val (.int bq), .val (.ref b470), .unset, .unset, .unset, .unset, .unset] [(.int rr), (.ref b482), (.ref b482)]))
          refine own_on (fun tq => XS.i2dS X482.here hx rfl (hb hby at_142) rfl (i2d_w _)) ?_
          show own_Fin p e below _ (T482.setTop (mkF m 143 #[.val (.int p1), .val (.int p2), .val (.int p3), .val (.int p4), .val (.int p5), .val (.int p6), .val (.int bR), .val (.int (((p2.toUInt32 >>> ((2 : Int32) &&& 31).toUInt32).toInt32) &&& (3 : Int32))), .val (.int rr), .val (.int tT), .val (.int kk), .val (.int mq), .val (.int bq), .val (.ref b470), .unset, .unset, .unset, .unset, .unset] [(.double (FP.l2d rr.toInt64)), (.ref b482), (.ref b482)]))
          refine own_on (fun tq => XS.iload X482.here hx rfl (hb hby at_143) rfl) ?_
          show own_Fin p e below _ (T482.setTop (mkF m 145 #[.val (.int p1), .val (.int p2), .val (.int p3), .val (.int p4), .val (.int p5), .val (.int p6), .val (.int bR), .val (.int (((p2.toUInt32 >>> ((2 : Int32) &&& 31).toUInt32).toInt32) &&& (3 : Int32))), .val (.int rr), .val (.int tT), .val (.int kk), .val (.int mq), .val (.int bq), .val (.ref b470), .unset, .unset, .unset, .unset, .unset] [(.int bq), (.double (FP.l2d rr.toInt64)), (.ref b482), (.ref b482)]))
          refine own_on (fun tq => XS.i2dS X482.here hx rfl (hb hby at_145) rfl (i2d_w _)) ?_
          show own_Fin p e below _ (T482.setTop (mkF m 146 #[.val (.int p1), .val (.int p2), .val (.int p3), .val (.int p4), .val (.int p5), .val (.int p6), .val (.int bR), .val (.int (((p2.toUInt32 >>> ((2 : Int32) &&& 31).toUInt32).toInt32) &&& (3 : Int32))), .val (.int rr), .val (.int tT), .val (.int kk), .val (.int mq), .val (.int bq), .val (.ref b470), .unset, .unset, .unset, .unset, .unset] [(.double (FP.l2d bq.toInt64)), (.double (FP.l2d rr.toInt64)), (.ref b482), (.ref b482)]))
          obtain ⟨_, _, ⟨T492, L492, k492, n492⟩, -, X492', S492', gr492, ⟨Lc492, hQ492, l492, y492, z492, A492⟩, st492⟩ := X482.specialBackS hx (y := (⟨"com/example/curves_to_bounds/curvestobounds/curve/TokenBucket", "<init>", "(DD)V"⟩ : MethodName)) rfl hown476 (mvT hZ476 (hw _ (List.mem_of_getElem? (i := 45) rfl))) (mvT hZ476 (hw _ (List.mem_of_getElem? (i := 46) rfl))) (mvT hZ476 (hw _ (List.mem_of_getElem? (i := 47) rfl))) (by decide) (backOfSH (s := s) (W := 1) (rm7 l Z a0 hw [] b482 (FP.l2d rr.toInt64) (FP.l2d bq.toInt64) h482 n0 (by exact y486) hEL (own_okI r0) (own_okI hbb.2) A482 F482_rate F482_burst gn482) hZ476 (hw _ (List.mem_of_getElem? (i := 47) rfl)) (hw _ (List.mem_of_getElem? (i := 44) rfl)) (by decide) (by decide) hEL y483) (g := (mkF m 146 #[.val (.int p1), .val (.int p2), .val (.int p3), .val (.int p4), .val (.int p5), .val (.int p6), .val (.int bR), .val (.int (((p2.toUInt32 >>> ((2 : Int32) &&& 31).toUInt32).toInt32) &&& (3 : Int32))), .val (.int rr), .val (.int tT), .val (.int kk), .val (.int mq), .val (.int bq), .val (.ref b470), .unset, .unset, .unset, .unset, .unset] [(.double (FP.l2d bq.toInt64)), (.double (FP.l2d rr.toInt64)), (.ref b482), (.ref b482)])) rfl (by rw [hml]; rfl) (Steps.refl _) (a := b482) (argsL := [(.double (FP.l2d rr.toInt64)), (.double (FP.l2d bq.toInt64))]) (rest := [(.ref b482)]) (lenOf pd_5 rfl) rfl (by show 2 * 0 + _ ≤ _; exact Nat.le_of_eq rfl) (hb hby at_146) (fun _ _ => ⟨rfl, e482, (by decide : 6 + 4 ≤ _), (by decide : 56 + 44 ≤ _)⟩)
          dsimp only [Pt.U, Pt.locs, Pt.cells, Pt.slots] at X492' S492' gr492 l492 y492 z492 st492 hQ492 A492
          subst l492 y492 z492
          obtain ⟨X492, hS492, hZ492, hown492⟩ := rebS hS476 (by first | exact y485 | (rw [e482]; exact y485)) X492' S492' gr492 hZ476 hown476
          obtain ⟨rfl, N492q, K492, E492q, F492a, F492b⟩ := hQ492
          have N492 := Fr.app N476 N492q
          have y493 := (CHr.trans y484 A492)
          have y494 := (Nat.le_refl (Array.size T492.heap))
          have y495 := (Nat.le_trans y486 K492.1)
          have y496 := (CHr.safe A492 y490.lt y487)
          have y497 := (y488.keep K492)
          have y498 := (y489.keep K492 (ninS ne482_b470 nin0))
          have y499 := (y490.keep K492 (ninS ne482_b470 nin0))
          have y500 := (CHr.safe A492 F482_burst.lt y491)
          have y501 := (A482.keep K492)
          refine own_via st492 ?_
          show own_Fin p e below _ (T492.setTop (mkF m 149 #[.val (.int p1), .val (.int p2), .val (.int p3), .val (.int p4), .val (.int p5), .val (.int p6), .val (.int bR), .val (.int (((p2.toUInt32 >>> ((2 : Int32) &&& 31).toUInt32).toInt32) &&& (3 : Int32))), .val (.int rr), .val (.int tT), .val (.int kk), .val (.int mq), .val (.int bq), .val (.ref b470), .unset, .unset, .unset, .unset, .unset] [(.ref b482)]))
          refine own_on (fun tq => XS.astore X492.here hx rfl (hb hby at_149) rfl rfl (l' := #[.val (.int p1), .val (.int p2), .val (.int p3), .val (.int p4), .val (.int p5), .val (.int p6), .val (.int bR), .val (.int (((p2.toUInt32 >>> ((2 : Int32) &&& 31).toUInt32).toInt32) &&& (3 : Int32))), .val (.int rr), .val (.int tT), .val (.int kk), .val (.int mq), .val (.int bq), .val (.ref b470), .val (.ref b482), .unset, .unset, .unset, .unset]) rfl) ?_
          show own_Fin p e below _ (T492.setTop (mkF m 151 #[.val (.int p1), .val (.int p2), .val (.int p3), .val (.int p4), .val (.int p5), .val (.int p6), .val (.int bR), .val (.int (((p2.toUInt32 >>> ((2 : Int32) &&& 31).toUInt32).toInt32) &&& (3 : Int32))), .val (.int rr), .val (.int tT), .val (.int kk), .val (.int mq), .val (.int bq), .val (.ref b470), .val (.ref b482), .unset, .unset, .unset, .unset] []))
          refine own_on (fun tq => XS.aload X492.here hx rfl (hb hby at_151) rfl rfl) ?_
          show own_Fin p e below _ (T492.setTop (mkF m 153 #[.val (.int p1), .val (.int p2), .val (.int p3), .val (.int p4), .val (.int p5), .val (.int p6), .val (.int bR), .val (.int (((p2.toUInt32 >>> ((2 : Int32) &&& 31).toUInt32).toInt32) &&& (3 : Int32))), .val (.int rr), .val (.int tT), .val (.int kk), .val (.int mq), .val (.int bq), .val (.ref b470), .val (.ref b482), .unset, .unset, .unset, .unset] [(.ref b470)]))
          refine own_on (fun tq => XS.aload X492.here hx rfl (hb hby at_153) rfl rfl) ?_
          show own_Fin p e below _ (T492.setTop (mkF m 155 #[.val (.int p1), .val (.int p2), .val (.int p3), .val (.int p4), .val (.int p5), .val (.int p6), .val (.int bR), .val (.int (((p2.toUInt32 >>> ((2 : Int32) &&& 31).toUInt32).toInt32) &&& (3 : Int32))), .val (.int rr), .val (.int tT), .val (.int kk), .val (.int mq), .val (.int bq), .val (.ref b470), .val (.ref b482), .unset, .unset, .unset, .unset] [(.ref b482), (.ref b470)]))
          obtain ⟨cq502, kq502, q502a, q502b, q502c⟩ := isOf hZ492 rfl y497
          obtain ⟨_, _, ⟨T502, L502, k502, n502⟩, -, X502, ⟨Lc502, hQ502, l502, y502, z502⟩, st502⟩ := X492.virtualBack hx (y := (⟨"com/example/curves_to_bounds/curvestobounds/curve/RateLatency", "delayBound", "(Lcom/example/curves_to_bounds/curvestobounds/curve/TokenBucket;)D"⟩ : MethodName)) (z := (⟨"com/example/curves_to_bounds/curvestobounds/curve/RateLatency", "delayBound", "(Lcom/example/curves_to_bounds/curvestobounds/curve/TokenBucket;)D"⟩ : MethodName)) hown492 (mvT hZ492 (hw _ (List.mem_of_getElem? (i := 56) rfl))) (mvT hZ492 (hw _ (List.mem_of_getElem? (i := 57) rfl))) (notFace_of_selects (args := #[]) (mvT hZ492 (hw _ (List.mem_of_getElem? (i := 59) rfl)))) (mvT hZ492 (hw _ (List.mem_of_getElem? (i := 59) rfl))) (mvT hZ492 (hw _ (List.mem_of_getElem? (i := 58) rfl))) (by decide) (backOf (W := 0) (rm8 l Z a0 hw [] b470 b482 (bR.toInt64) (tT.toInt64) (rr.toInt64) (bq.toInt64) T492.heap n0 (by exact y495) y498 y499 F492a F492b E492q (own_b32 _) (own_b32 _) (fun _ => own_nn rR hc436 rT rk rm hbb.1)) hZ492 (hw _ (List.mem_of_getElem? (i := 60) rfl)) (hw _ (List.mem_of_getElem? (i := 4) rfl)) (by decide) (by decide)) q502a q502c (g := (mkF m 155 #[.val (.int p1), .val (.int p2), .val (.int p3), .val (.int p4), .val (.int p5), .val (.int p6), .val (.int bR), .val (.int (((p2.toUInt32 >>> ((2 : Int32) &&& 31).toUInt32).toInt32) &&& (3 : Int32))), .val (.int rr), .val (.int tT), .val (.int kk), .val (.int mq), .val (.int bq), .val (.ref b470), .val (.ref b482), .unset, .unset, .unset, .unset] [(.ref b482), (.ref b470)])) rfl (by rw [hml]; rfl) (Steps.refl _) (argsL := [(.ref b482)]) (rest := []) (lenOf pd_6 rfl) rfl (by show 2 * 0 + _ ≤ _; exact Nat.le_of_eq rfl) (hb hby at_155) (fun _ _ => ⟨rfl, rfl, (by decide : 10 + 0 ≤ _), (by decide : 100 + 0 ≤ _)⟩)
          dsimp only [Pt.U, Pt.locs, Pt.cells, Pt.slots] at X502 l502 y502 z502 st502 hQ502
          subst l502 y502 z502
          obtain ⟨rfl, N502q, e502⟩ := hQ502
          have N502 := Fr.app N492 N502q
          refine own_via st502 ?_
          show own_Fin p e below _ (T502.setTop (mkF m 158 #[.val (.int p1), .val (.int p2), .val (.int p3), .val (.int p4), .val (.int p5), .val (.int p6), .val (.int bR), .val (.int (((p2.toUInt32 >>> ((2 : Int32) &&& 31).toUInt32).toInt32) &&& (3 : Int32))), .val (.int rr), .val (.int tT), .val (.int kk), .val (.int mq), .val (.int bq), .val (.ref b470), .val (.ref b482), .unset, .unset, .unset, .unset] [(.double (if bR.toInt64 = 0 ∨ bR.toInt64 < rr.toInt64 then (9218868437227405312 : UInt64) else FP.dadd (FP.l2d tT.toInt64) (FP.ddiv (FP.l2d bq.toInt64) (FP.l2d bR.toInt64))))]))
          obtain ⟨bd, hbd⟩ : ∃ q : UInt64, q = (if bR.toInt64 = 0 ∨ bR.toInt64 < rr.toInt64 then (9218868437227405312 : UInt64) else FP.dadd (FP.l2d tT.toInt64) (FP.ddiv (FP.l2d bq.toInt64) (FP.l2d bR.toInt64))) := ⟨_, rfl⟩
          rw [← hbd]
          show own_Fin p e below _ (T502.setTop (mkF m 158 #[.val (.int p1), .val (.int p2), .val (.int p3), .val (.int p4), .val (.int p5), .val (.int p6), .val (.int bR), .val (.int (((p2.toUInt32 >>> ((2 : Int32) &&& 31).toUInt32).toInt32) &&& (3 : Int32))), .val (.int rr), .val (.int tT), .val (.int kk), .val (.int mq), .val (.int bq), .val (.ref b470), .val (.ref b482), .unset, .unset, .unset, .unset] [(.double bd)]))
          refine own_on (fun tq => XS.dstore X502.here hx rfl (hb hby at_158) rfl (l' := #[.val (.int p1), .val (.int p2), .val (.int p3), .val (.int p4), .val (.int p5), .val (.int p6), .val (.int bR), .val (.int (((p2.toUInt32 >>> ((2 : Int32) &&& 31).toUInt32).toInt32) &&& (3 : Int32))), .val (.int rr), .val (.int tT), .val (.int kk), .val (.int mq), .val (.int bq), .val (.ref b470), .val (.ref b482), .val (.double bd), .second, .unset, .unset]) rfl) ?_
          show own_Fin p e below _ (T502.setTop (mkF m 160 #[.val (.int p1), .val (.int p2), .val (.int p3), .val (.int p4), .val (.int p5), .val (.int p6), .val (.int bR), .val (.int (((p2.toUInt32 >>> ((2 : Int32) &&& 31).toUInt32).toInt32) &&& (3 : Int32))), .val (.int rr), .val (.int tT), .val (.int kk), .val (.int mq), .val (.int bq), .val (.ref b470), .val (.ref b482), .val (.double bd), .second, .unset, .unset] []))
          refine own_on (fun tq => XS.iload X502.here hx rfl (hb hby at_160) rfl) ?_
          show own_Fin p e below _ (T502.setTop (mkF m 162 #[.val (.int p1), .val (.int p2), .val (.int p3), .val (.int p4), .val (.int p5), .val (.int p6), .val (.int bR), .val (.int (((p2.toUInt32 >>> ((2 : Int32) &&& 31).toUInt32).toInt32) &&& (3 : Int32))), .val (.int rr), .val (.int tT), .val (.int kk), .val (.int mq), .val (.int bq), .val (.ref b470), .val (.ref b482), .val (.double bd), .second, .unset, .unset] [(.int bR)]))
          refine own_on (fun tq => XS.ifNo X502.here hx rfl (hb hby at_162) rfl ((if0 _ _).trans (feq hc436).1)) ?_
          show own_Fin p e below _ (T502.setTop (mkF m 165 #[.val (.int p1), .val (.int p2), .val (.int p3), .val (.int p4), .val (.int p5), .val (.int p6), .val (.int bR), .val (.int (((p2.toUInt32 >>> ((2 : Int32) &&& 31).toUInt32).toInt32) &&& (3 : Int32))), .val (.int rr), .val (.int tT), .val (.int kk), .val (.int mq), .val (.int bq), .val (.ref b470), .val (.ref b482), .val (.double bd), .second, .unset, .unset] []))
          refine own_on (fun tq => XS.iload X502.here hx rfl (hb hby at_165) rfl) ?_
          show own_Fin p e below _ (T502.setTop (mkF m 167 #[.val (.int p1), .val (.int p2), .val (.int p3), .val (.int p4), .val (.int p5), .val (.int p6), .val (.int bR), .val (.int (((p2.toUInt32 >>> ((2 : Int32) &&& 31).toUInt32).toInt32) &&& (3 : Int32))), .val (.int rr), .val (.int tT), .val (.int kk), .val (.int mq), .val (.int bq), .val (.ref b470), .val (.ref b482), .val (.double bd), .second, .unset, .unset] [(.int rr)]))
          refine own_on (fun tq => XS.iload X502.here hx rfl (hb hby at_167) rfl) ?_
          show own_Fin p e below _ (T502.setTop (mkF m 169 #[.val (.int p1), .val (.int p2), .val (.int p3), .val (.int p4), .val (.int p5), .val (.int p6), .val (.int bR), .val (.int (((p2.toUInt32 >>> ((2 : Int32) &&& 31).toUInt32).toInt32) &&& (3 : Int32))), .val (.int rr), .val (.int tT), .val (.int kk), .val (.int mq), .val (.int bq), .val (.ref b470), .val (.ref b482), .val (.double bd), .second, .unset, .unset] [(.int bR), (.int rr)]))
          by_cases hc503 : bR < rr
          · refine own_on (fun tq => XS.icmpNo X502.here hx rfl (hb hby at_169) rfl (tlt hc503).2.2.2) ?_
            show own_Fin p e below _ (T502.setTop (mkF m 172 #[.val (.int p1), .val (.int p2), .val (.int p3), .val (.int p4), .val (.int p5), .val (.int p6), .val (.int bR), .val (.int (((p2.toUInt32 >>> ((2 : Int32) &&& 31).toUInt32).toInt32) &&& (3 : Int32))), .val (.int rr), .val (.int tT), .val (.int kk), .val (.int mq), .val (.int bq), .val (.ref b470), .val (.ref b482), .val (.double bd), .second, .unset, .unset] []))
            refine own_on (fun tq => XS.dload X502.here hx rfl (hb hby at_172) rfl) ?_
            show own_Fin p e below _ (T502.setTop (mkF m 174 #[.val (.int p1), .val (.int p2), .val (.int p3), .val (.int p4), .val (.int p5), .val (.int p6), .val (.int bR), .val (.int (((p2.toUInt32 >>> ((2 : Int32) &&& 31).toUInt32).toInt32) &&& (3 : Int32))), .val (.int rr), .val (.int tT), .val (.int kk), .val (.int mq), .val (.int bq), .val (.ref b470), .val (.ref b482), .val (.double bd), .second, .unset, .unset] [(.double bd)]))
            refine own_on (fun tq => X502.ldc2DoubleC hx hown492 (mvT hZ492 (hw _ (List.mem_of_getElem? (i := 62) rfl))) (g := (mkF m 174 #[.val (.int p1), .val (.int p2), .val (.int p3), .val (.int p4), .val (.int p5), .val (.int p6), .val (.int bR), .val (.int (((p2.toUInt32 >>> ((2 : Int32) &&& 31).toUInt32).toInt32) &&& (3 : Int32))), .val (.int rr), .val (.int tT), .val (.int kk), .val (.int mq), .val (.int bq), .val (.ref b470), .val (.ref b482), .val (.double bd), .second, .unset, .unset] [(.double bd)])) rfl (hb hby at_174) tq) ?_
            show own_Fin p e below _ (T502.setTop (mkF m 177 #[.val (.int p1), .val (.int p2), .val (.int p3), .val (.int p4), .val (.int p5), .val (.int p6), .val (.int bR), .val (.int (((p2.toUInt32 >>> ((2 : Int32) &&& 31).toUInt32).toInt32) &&& (3 : Int32))), .val (.int rr), .val (.int tT), .val (.int kk), .val (.int mq), .val (.int bq), .val (.ref b470), .val (.ref b482), .val (.double bd), .second, .unset, .unset] [(.double (9218868437227405312 : UInt64)), (.double bd)]))
            refine own_on (fun tq => XS.dcmpS X502.here hx rfl (hb hby at_177) rfl (own_pinf (hbd.trans (if_pos (Or.inr (own_lt64 hc503)))))) ?_
            show own_Fin p e below _ (T502.setTop (mkF m 178 #[.val (.int p1), .val (.int p2), .val (.int p3), .val (.int p4), .val (.int p5), .val (.int p6), .val (.int bR), .val (.int (((p2.toUInt32 >>> ((2 : Int32) &&& 31).toUInt32).toInt32) &&& (3 : Int32))), .val (.int rr), .val (.int tT), .val (.int kk), .val (.int mq), .val (.int bq), .val (.ref b470), .val (.ref b482), .val (.double bd), .second, .unset, .unset] [(.int (0 : Int32))]))
            refine own_on (fun tq => XS.ifNo X502.here hx rfl (hb hby at_178) rfl ((if0 _ _).trans (teq (by decide : (0 : Int32) = (0 : Int32))).2)) ?_
            show own_Fin p e below _ (T502.setTop (mkF m 181 #[.val (.int p1), .val (.int p2), .val (.int p3), .val (.int p4), .val (.int p5), .val (.int p6), .val (.int bR), .val (.int (((p2.toUInt32 >>> ((2 : Int32) &&& 31).toUInt32).toInt32) &&& (3 : Int32))), .val (.int rr), .val (.int tT), .val (.int kk), .val (.int mq), .val (.int bq), .val (.ref b470), .val (.ref b482), .val (.double bd), .second, .unset, .unset] []))
            refine own_on (fun tq => XS.iconst X502.here hx rfl (hb hby at_181)) ?_
            show own_Fin p e below _ (T502.setTop (mkF m 182 #[.val (.int p1), .val (.int p2), .val (.int p3), .val (.int p4), .val (.int p5), .val (.int p6), .val (.int bR), .val (.int (((p2.toUInt32 >>> ((2 : Int32) &&& 31).toUInt32).toInt32) &&& (3 : Int32))), .val (.int rr), .val (.int tT), .val (.int kk), .val (.int mq), .val (.int bq), .val (.ref b470), .val (.ref b482), .val (.double bd), .second, .unset, .unset] [(.int (1 : Int32))]))
            refine own_on (fun tq => XS.goto X502.here hx rfl (pc0 := 182) (pc' := 186) rfl (hb hby at_182) (by decide) (by decide)) ?_
            show own_Fin p e below _ (T502.setTop (mkF m 186 #[.val (.int p1), .val (.int p2), .val (.int p3), .val (.int p4), .val (.int p5), .val (.int p6), .val (.int bR), .val (.int (((p2.toUInt32 >>> ((2 : Int32) &&& 31).toUInt32).toInt32) &&& (3 : Int32))), .val (.int rr), .val (.int tT), .val (.int kk), .val (.int mq), .val (.int bq), .val (.ref b470), .val (.ref b482), .val (.double bd), .second, .unset, .unset] [(.int (1 : Int32))]))
            exact own_retW (t := .boolean) X502 (Z := Z) (EL := own_EL) (a0 := a0) hx hlk hret rfl (Or.inl ⟨rfl, (by simp), _, rfl⟩) (hb hby at_186) hS492 (by rw [e502]; exact y494) hZ492 hEL (by rw [hh, e502]; exact y493) (⟨rfl, N502⟩) (by decide) (by decide)
          · refine own_on (fun tq => XS.icmpYes X502.here hx rfl (pc0 := 169) (pc' := 187) rfl (hb hby at_169) rfl (flt hc503).2.2.2 (by decide) (by decide)) ?_
            show own_Fin p e below _ (T502.setTop (mkF m 187 #[.val (.int p1), .val (.int p2), .val (.int p3), .val (.int p4), .val (.int p5), .val (.int p6), .val (.int bR), .val (.int (((p2.toUInt32 >>> ((2 : Int32) &&& 31).toUInt32).toInt32) &&& (3 : Int32))), .val (.int rr), .val (.int tT), .val (.int kk), .val (.int mq), .val (.int bq), .val (.ref b470), .val (.ref b482), .val (.double bd), .second, .unset, .unset] []))
            refine own_on (fun tq => XS.iload X502.here hx rfl (hb hby at_187) rfl) ?_
            show own_Fin p e below _ (T502.setTop (mkF m 189 #[.val (.int p1), .val (.int p2), .val (.int p3), .val (.int p4), .val (.int p5), .val (.int p6), .val (.int bR), .val (.int (((p2.toUInt32 >>> ((2 : Int32) &&& 31).toUInt32).toInt32) &&& (3 : Int32))), .val (.int rr), .val (.int tT), .val (.int kk), .val (.int mq), .val (.int bq), .val (.ref b470), .val (.ref b482), .val (.double bd), .second, .unset, .unset] [(.int tT)]))
            refine own_on (fun tq => XS.iload X502.here hx rfl (hb hby at_189) rfl) ?_
            show own_Fin p e below _ (T502.setTop (mkF m 191 #[.val (.int p1), .val (.int p2), .val (.int p3), .val (.int p4), .val (.int p5), .val (.int p6), .val (.int bR), .val (.int (((p2.toUInt32 >>> ((2 : Int32) &&& 31).toUInt32).toInt32) &&& (3 : Int32))), .val (.int rr), .val (.int tT), .val (.int kk), .val (.int mq), .val (.int bq), .val (.ref b470), .val (.ref b482), .val (.double bd), .second, .unset, .unset] [(.int kk), (.int tT)]))
            refine own_on (fun tq => XS.iadd X502.here hx rfl (hb hby at_191) rfl) ?_
            show own_Fin p e below _ (T502.setTop (mkF m 192 #[.val (.int p1), .val (.int p2), .val (.int p3), .val (.int p4), .val (.int p5), .val (.int p6), .val (.int bR), .val (.int (((p2.toUInt32 >>> ((2 : Int32) &&& 31).toUInt32).toInt32) &&& (3 : Int32))), .val (.int rr), .val (.int tT), .val (.int kk), .val (.int mq), .val (.int bq), .val (.ref b470), .val (.ref b482), .val (.double bd), .second, .unset, .unset] [(.int (tT + kk))]))
            refine own_on (fun tq => XS.i2dS X502.here hx rfl (hb hby at_192) rfl (i2d_w _)) ?_
            show own_Fin p e below _ (T502.setTop (mkF m 193 #[.val (.int p1), .val (.int p2), .val (.int p3), .val (.int p4), .val (.int p5), .val (.int p6), .val (.int bR), .val (.int (((p2.toUInt32 >>> ((2 : Int32) &&& 31).toUInt32).toInt32) &&& (3 : Int32))), .val (.int rr), .val (.int tT), .val (.int kk), .val (.int mq), .val (.int bq), .val (.ref b470), .val (.ref b482), .val (.double bd), .second, .unset, .unset] [(.double (FP.l2d (tT + kk).toInt64))]))
            refine own_on (fun tq => XS.dstore X502.here hx rfl (hb hby at_193) rfl (l' := #[.val (.int p1), .val (.int p2), .val (.int p3), .val (.int p4), .val (.int p5), .val (.int p6), .val (.int bR), .val (.int (((p2.toUInt32 >>> ((2 : Int32) &&& 31).toUInt32).toInt32) &&& (3 : Int32))), .val (.int rr), .val (.int tT), .val (.int kk), .val (.int mq), .val (.int bq), .val (.ref b470), .val (.ref b482), .val (.double bd), .second, .val (.double (FP.l2d (tT + kk).toInt64)), .second]) rfl) ?_
            show own_Fin p e below _ (T502.setTop (mkF m 195 #[.val (.int p1), .val (.int p2), .val (.int p3), .val (.int p4), .val (.int p5), .val (.int p6), .val (.int bR), .val (.int (((p2.toUInt32 >>> ((2 : Int32) &&& 31).toUInt32).toInt32) &&& (3 : Int32))), .val (.int rr), .val (.int tT), .val (.int kk), .val (.int mq), .val (.int bq), .val (.ref b470), .val (.ref b482), .val (.double bd), .second, .val (.double (FP.l2d (tT + kk).toInt64)), .second] []))
            refine own_on (fun tq => XS.iload X502.here hx rfl (hb hby at_195) rfl) ?_
            show own_Fin p e below _ (T502.setTop (mkF m 197 #[.val (.int p1), .val (.int p2), .val (.int p3), .val (.int p4), .val (.int p5), .val (.int p6), .val (.int bR), .val (.int (((p2.toUInt32 >>> ((2 : Int32) &&& 31).toUInt32).toInt32) &&& (3 : Int32))), .val (.int rr), .val (.int tT), .val (.int kk), .val (.int mq), .val (.int bq), .val (.ref b470), .val (.ref b482), .val (.double bd), .second, .val (.double (FP.l2d (tT + kk).toInt64)), .second] [(.int mq)]))
            by_cases hc504 : mq = (0 : Int32)
            · refine own_on (fun tq => XS.ifNo X502.here hx rfl (hb hby at_197) rfl ((if0 _ _).trans (teq hc504).2)) ?_
              show own_Fin p e below _ (T502.setTop (mkF m 200 #[.val (.int p1), .val (.int p2), .val (.int p3), .val (.int p4), .val (.int p5), .val (.int p6), .val (.int bR), .val (.int (((p2.toUInt32 >>> ((2 : Int32) &&& 31).toUInt32).toInt32) &&& (3 : Int32))), .val (.int rr), .val (.int tT), .val (.int kk), .val (.int mq), .val (.int bq), .val (.ref b470), .val (.ref b482), .val (.double bd), .second, .val (.double (FP.l2d (tT + kk).toInt64)), .second] []))
              refine own_on (fun tq => XS.dload X502.here hx rfl (hb hby at_200) rfl) ?_
              show own_Fin p e below _ (T502.setTop (mkF m 202 #[.val (.int p1), .val (.int p2), .val (.int p3), .val (.int p4), .val (.int p5), .val (.int p6), .val (.int bR), .val (.int (((p2.toUInt32 >>> ((2 : Int32) &&& 31).toUInt32).toInt32) &&& (3 : Int32))), .val (.int rr), .val (.int tT), .val (.int kk), .val (.int mq), .val (.int bq), .val (.ref b470), .val (.ref b482), .val (.double bd), .second, .val (.double (FP.l2d (tT + kk).toInt64)), .second] [(.double bd)]))
              refine own_on (fun tq => XS.dload X502.here hx rfl (hb hby at_202) rfl) ?_
              show own_Fin p e below _ (T502.setTop (mkF m 204 #[.val (.int p1), .val (.int p2), .val (.int p3), .val (.int p4), .val (.int p5), .val (.int p6), .val (.int bR), .val (.int (((p2.toUInt32 >>> ((2 : Int32) &&& 31).toUInt32).toInt32) &&& (3 : Int32))), .val (.int rr), .val (.int tT), .val (.int kk), .val (.int mq), .val (.int bq), .val (.ref b470), .val (.ref b482), .val (.double bd), .second, .val (.double (FP.l2d (tT + kk).toInt64)), .second] [(.double (FP.l2d (tT + kk).toInt64)), (.double bd)]))
              refine own_on (fun tq => XS.dcmpS X502.here hx rfl (hb hby at_204) rfl ((own_law rR hc436 hc503 rT rk rm hbb.1 hbd).1 hc504)) ?_
              show own_Fin p e below _ (T502.setTop (mkF m 205 #[.val (.int p1), .val (.int p2), .val (.int p3), .val (.int p4), .val (.int p5), .val (.int p6), .val (.int bR), .val (.int (((p2.toUInt32 >>> ((2 : Int32) &&& 31).toUInt32).toInt32) &&& (3 : Int32))), .val (.int rr), .val (.int tT), .val (.int kk), .val (.int mq), .val (.int bq), .val (.ref b470), .val (.ref b482), .val (.double bd), .second, .val (.double (FP.l2d (tT + kk).toInt64)), .second] [(.int (0 : Int32))]))
              refine own_on (fun tq => XS.ifNo X502.here hx rfl (hb hby at_205) rfl ((if0 _ _).trans (teq (by decide : (0 : Int32) = (0 : Int32))).2)) ?_
              show own_Fin p e below _ (T502.setTop (mkF m 208 #[.val (.int p1), .val (.int p2), .val (.int p3), .val (.int p4), .val (.int p5), .val (.int p6), .val (.int bR), .val (.int (((p2.toUInt32 >>> ((2 : Int32) &&& 31).toUInt32).toInt32) &&& (3 : Int32))), .val (.int rr), .val (.int tT), .val (.int kk), .val (.int mq), .val (.int bq), .val (.ref b470), .val (.ref b482), .val (.double bd), .second, .val (.double (FP.l2d (tT + kk).toInt64)), .second] []))
              refine own_on (fun tq => XS.iconst X502.here hx rfl (hb hby at_208)) ?_
              show own_Fin p e below _ (T502.setTop (mkF m 209 #[.val (.int p1), .val (.int p2), .val (.int p3), .val (.int p4), .val (.int p5), .val (.int p6), .val (.int bR), .val (.int (((p2.toUInt32 >>> ((2 : Int32) &&& 31).toUInt32).toInt32) &&& (3 : Int32))), .val (.int rr), .val (.int tT), .val (.int kk), .val (.int mq), .val (.int bq), .val (.ref b470), .val (.ref b482), .val (.double bd), .second, .val (.double (FP.l2d (tT + kk).toInt64)), .second] [(.int (1 : Int32))]))
              refine own_on (fun tq => XS.goto X502.here hx rfl (pc0 := 209) (pc' := 213) rfl (hb hby at_209) (by decide) (by decide)) ?_
              show own_Fin p e below _ (T502.setTop (mkF m 213 #[.val (.int p1), .val (.int p2), .val (.int p3), .val (.int p4), .val (.int p5), .val (.int p6), .val (.int bR), .val (.int (((p2.toUInt32 >>> ((2 : Int32) &&& 31).toUInt32).toInt32) &&& (3 : Int32))), .val (.int rr), .val (.int tT), .val (.int kk), .val (.int mq), .val (.int bq), .val (.ref b470), .val (.ref b482), .val (.double bd), .second, .val (.double (FP.l2d (tT + kk).toInt64)), .second] [(.int (1 : Int32))]))
              exact own_retW (t := .boolean) X502 (Z := Z) (EL := own_EL) (a0 := a0) hx hlk hret rfl (Or.inl ⟨rfl, (by simp), _, rfl⟩) (hb hby at_213) hS492 (by rw [e502]; exact y494) hZ492 hEL (by rw [hh, e502]; exact y493) (⟨rfl, N502⟩) (by decide) (by decide)
            · refine own_on (fun tq => XS.ifYes X502.here hx rfl (pc0 := 197) (pc' := 214) rfl (hb hby at_197) rfl ((if0 _ _).trans (feq hc504).2) (by decide) (by decide)) ?_
              show own_Fin p e below _ (T502.setTop (mkF m 214 #[.val (.int p1), .val (.int p2), .val (.int p3), .val (.int p4), .val (.int p5), .val (.int p6), .val (.int bR), .val (.int (((p2.toUInt32 >>> ((2 : Int32) &&& 31).toUInt32).toInt32) &&& (3 : Int32))), .val (.int rr), .val (.int tT), .val (.int kk), .val (.int mq), .val (.int bq), .val (.ref b470), .val (.ref b482), .val (.double bd), .second, .val (.double (FP.l2d (tT + kk).toInt64)), .second] []))
              refine own_on (fun tq => XS.dload X502.here hx rfl (hb hby at_214) rfl) ?_
              show own_Fin p e below _ (T502.setTop (mkF m 216 #[.val (.int p1), .val (.int p2), .val (.int p3), .val (.int p4), .val (.int p5), .val (.int p6), .val (.int bR), .val (.int (((p2.toUInt32 >>> ((2 : Int32) &&& 31).toUInt32).toInt32) &&& (3 : Int32))), .val (.int rr), .val (.int tT), .val (.int kk), .val (.int mq), .val (.int bq), .val (.ref b470), .val (.ref b482), .val (.double bd), .second, .val (.double (FP.l2d (tT + kk).toInt64)), .second] [(.double (FP.l2d (tT + kk).toInt64))]))
              refine own_on (fun tq => XS.dload X502.here hx rfl (hb hby at_216) rfl) ?_
              show own_Fin p e below _ (T502.setTop (mkF m 218 #[.val (.int p1), .val (.int p2), .val (.int p3), .val (.int p4), .val (.int p5), .val (.int p6), .val (.int bR), .val (.int (((p2.toUInt32 >>> ((2 : Int32) &&& 31).toUInt32).toInt32) &&& (3 : Int32))), .val (.int rr), .val (.int tT), .val (.int kk), .val (.int mq), .val (.int bq), .val (.ref b470), .val (.ref b482), .val (.double bd), .second, .val (.double (FP.l2d (tT + kk).toInt64)), .second] [(.double bd), (.double (FP.l2d (tT + kk).toInt64))]))
              refine own_on (fun tq => XS.dcmpS X502.here hx rfl (hb hby at_218) rfl ((own_law rR hc436 hc503 rT rk rm hbb.1 hbd).2 hc504).1) ?_
              show own_Fin p e below _ (T502.setTop (mkF m 219 #[.val (.int p1), .val (.int p2), .val (.int p3), .val (.int p4), .val (.int p5), .val (.int p6), .val (.int bR), .val (.int (((p2.toUInt32 >>> ((2 : Int32) &&& 31).toUInt32).toInt32) &&& (3 : Int32))), .val (.int rr), .val (.int tT), .val (.int kk), .val (.int mq), .val (.int bq), .val (.ref b470), .val (.ref b482), .val (.double bd), .second, .val (.double (FP.l2d (tT + kk).toInt64)), .second] [(.int (-1 : Int32))]))
              refine own_on (fun tq => XS.ifNo X502.here hx rfl (hb hby at_219) rfl ((if0 _ _).trans (tlt (by decide : (-1 : Int32) < (0 : Int32))).2.1)) ?_
              show own_Fin p e below _ (T502.setTop (mkF m 222 #[.val (.int p1), .val (.int p2), .val (.int p3), .val (.int p4), .val (.int p5), .val (.int p6), .val (.int bR), .val (.int (((p2.toUInt32 >>> ((2 : Int32) &&& 31).toUInt32).toInt32) &&& (3 : Int32))), .val (.int rr), .val (.int tT), .val (.int kk), .val (.int mq), .val (.int bq), .val (.ref b470), .val (.ref b482), .val (.double bd), .second, .val (.double (FP.l2d (tT + kk).toInt64)), .second] []))
              refine own_on (fun tq => XS.dload X502.here hx rfl (hb hby at_222) rfl) ?_
              show own_Fin p e below _ (T502.setTop (mkF m 224 #[.val (.int p1), .val (.int p2), .val (.int p3), .val (.int p4), .val (.int p5), .val (.int p6), .val (.int bR), .val (.int (((p2.toUInt32 >>> ((2 : Int32) &&& 31).toUInt32).toInt32) &&& (3 : Int32))), .val (.int rr), .val (.int tT), .val (.int kk), .val (.int mq), .val (.int bq), .val (.ref b470), .val (.ref b482), .val (.double bd), .second, .val (.double (FP.l2d (tT + kk).toInt64)), .second] [(.double bd)]))
              refine own_on (fun tq => XS.dload X502.here hx rfl (hb hby at_224) rfl) ?_
              show own_Fin p e below _ (T502.setTop (mkF m 226 #[.val (.int p1), .val (.int p2), .val (.int p3), .val (.int p4), .val (.int p5), .val (.int p6), .val (.int bR), .val (.int (((p2.toUInt32 >>> ((2 : Int32) &&& 31).toUInt32).toInt32) &&& (3 : Int32))), .val (.int rr), .val (.int tT), .val (.int kk), .val (.int mq), .val (.int bq), .val (.ref b470), .val (.ref b482), .val (.double bd), .second, .val (.double (FP.l2d (tT + kk).toInt64)), .second] [(.double (FP.l2d (tT + kk).toInt64)), (.double bd)]))
              refine own_on (fun tq => XS.dconst1 X502.here hx rfl (hb hby at_226) own_dc1) ?_
              show own_Fin p e below _ (T502.setTop (mkF m 227 #[.val (.int p1), .val (.int p2), .val (.int p3), .val (.int p4), .val (.int p5), .val (.int p6), .val (.int bR), .val (.int (((p2.toUInt32 >>> ((2 : Int32) &&& 31).toUInt32).toInt32) &&& (3 : Int32))), .val (.int rr), .val (.int tT), .val (.int kk), .val (.int mq), .val (.int bq), .val (.ref b470), .val (.ref b482), .val (.double bd), .second, .val (.double (FP.l2d (tT + kk).toInt64)), .second] [(.double (FP.l2d (1 : Int64))), (.double (FP.l2d (tT + kk).toInt64)), (.double bd)]))
              refine own_on (fun tq => XS.daddS X502.here hx rfl (hb hby at_227) rfl (nn_w (dadd_w (own_b32 (tT + kk)) own_B1)) (dadd_w (own_b32 (tT + kk)) own_B1)) ?_
              show own_Fin p e below _ (T502.setTop (mkF m 228 #[.val (.int p1), .val (.int p2), .val (.int p3), .val (.int p4), .val (.int p5), .val (.int p6), .val (.int bR), .val (.int (((p2.toUInt32 >>> ((2 : Int32) &&& 31).toUInt32).toInt32) &&& (3 : Int32))), .val (.int rr), .val (.int tT), .val (.int kk), .val (.int mq), .val (.int bq), .val (.ref b470), .val (.ref b482), .val (.double bd), .second, .val (.double (FP.l2d (tT + kk).toInt64)), .second] [(.double (FP.l2d ((tT + kk).toInt64 + (1 : Int64)))), (.double bd)]))
              refine own_on (fun tq => XS.dcmpS X502.here hx rfl (hb hby at_228) rfl ((own_law rR hc436 hc503 rT rk rm hbb.1 hbd).2 hc504).2) ?_
              show own_Fin p e below _ (T502.setTop (mkF m 229 #[.val (.int p1), .val (.int p2), .val (.int p3), .val (.int p4), .val (.int p5), .val (.int p6), .val (.int bR), .val (.int (((p2.toUInt32 >>> ((2 : Int32) &&& 31).toUInt32).toInt32) &&& (3 : Int32))), .val (.int rr), .val (.int tT), .val (.int kk), .val (.int mq), .val (.int bq), .val (.ref b470), .val (.ref b482), .val (.double bd), .second, .val (.double (FP.l2d (tT + kk).toInt64)), .second] [(.int (-1 : Int32))]))
              refine own_on (fun tq => XS.ifNo X502.here hx rfl (hb hby at_229) rfl ((if0 _ _).trans (tlt (by decide : (-1 : Int32) < (0 : Int32))).2.1)) ?_
              show own_Fin p e below _ (T502.setTop (mkF m 232 #[.val (.int p1), .val (.int p2), .val (.int p3), .val (.int p4), .val (.int p5), .val (.int p6), .val (.int bR), .val (.int (((p2.toUInt32 >>> ((2 : Int32) &&& 31).toUInt32).toInt32) &&& (3 : Int32))), .val (.int rr), .val (.int tT), .val (.int kk), .val (.int mq), .val (.int bq), .val (.ref b470), .val (.ref b482), .val (.double bd), .second, .val (.double (FP.l2d (tT + kk).toInt64)), .second] []))
              refine own_on (fun tq => XS.iconst X502.here hx rfl (hb hby at_232)) ?_
              show own_Fin p e below _ (T502.setTop (mkF m 233 #[.val (.int p1), .val (.int p2), .val (.int p3), .val (.int p4), .val (.int p5), .val (.int p6), .val (.int bR), .val (.int (((p2.toUInt32 >>> ((2 : Int32) &&& 31).toUInt32).toInt32) &&& (3 : Int32))), .val (.int rr), .val (.int tT), .val (.int kk), .val (.int mq), .val (.int bq), .val (.ref b470), .val (.ref b482), .val (.double bd), .second, .val (.double (FP.l2d (tT + kk).toInt64)), .second] [(.int (1 : Int32))]))
              refine own_on (fun tq => XS.goto X502.here hx rfl (pc0 := 233) (pc' := 237) rfl (hb hby at_233) (by decide) (by decide)) ?_
              show own_Fin p e below _ (T502.setTop (mkF m 237 #[.val (.int p1), .val (.int p2), .val (.int p3), .val (.int p4), .val (.int p5), .val (.int p6), .val (.int bR), .val (.int (((p2.toUInt32 >>> ((2 : Int32) &&& 31).toUInt32).toInt32) &&& (3 : Int32))), .val (.int rr), .val (.int tT), .val (.int kk), .val (.int mq), .val (.int bq), .val (.ref b470), .val (.ref b482), .val (.double bd), .second, .val (.double (FP.l2d (tT + kk).toInt64)), .second] [(.int (1 : Int32))]))
              exact own_retW (t := .boolean) X502 (Z := Z) (EL := own_EL) (a0 := a0) hx hlk hret rfl (Or.inl ⟨rfl, (by simp), _, rfl⟩) (hb hby at_237) hS492 (by rw [e502]; exact y494) hZ492 hEL (by rw [hh, e502]; exact y493) (⟨rfl, N502⟩) (by decide) (by decide)
set_option maxRecDepth 65536 in
set_option maxHeartbeats 40000000 in
theorem comes_1 {Post : Tables → Env → Array Value → State → Outcome → State → Prop} (hpost : ∀ tb e args s v u, (limb_1_1.after args s (.returned v) u = true ∧ limb_1_2.after args s (.returned v) u = true ∧ True) → ReturnedEndW s (.returned v) u (Jvm.fieldLocs frame_1_writes args s ++ Jvm.arrayLocs frame_1_arrays args s ++ Jvm.staticLocs frame_1_statics s) 24 4224 → Post tb e args s (.returned v) u) :
    ArmFor flags0 classFile x code maxLocals ret World_1 tables_1 room_1 Calls_1 rest_1 Pre_1 Post := by
  intro l hfl _ _ p e ha hc hk s m args below hf hA hF happ hP
  obtain ⟨hcalls, hrest, hpre⟩ := hP
  obtain ⟨-, -, -, hnamed, -, -, -, hat⟩ := (Spec.applies_iff hf).mp happ
  obtain ⟨hg, hn⟩ := and_e (Cond.before_iff.mp (show (Jvm.Cond.and given_1 narrow_1).before args s = true from hpre))
  obtain ⟨ga0l, ga0r⟩ := and_e hg
  obtain ⟨ga1l, ga1r⟩ := and_e ga0r
  obtain ⟨ga2l, ga2r⟩ := and_e ga1r
  obtain ⟨ga3l, ga3r⟩ := and_e ga2r
  obtain ⟨ga4l, ga4r⟩ := and_e ga3r
  obtain ⟨ga5l, ga5r⟩ := and_e ga4r
  obtain ⟨w0, w1, w2, w3, w4, w5, rfl⟩ : ∃ w0 w1 w2 w3 w4 w5 : Value, args = #[w0, w1, w2, w3, w4, w5] := by
    have hs : args.size = 6 := by simpa [Cond.value, given_1] using ga0l
    obtain ⟨L⟩ := args
    match L, hs with
    | [w0, w1, w2, w3, w4, w5], _ => exact ⟨w0, w1, w2, w3, w4, w5, rfl⟩
  have hw := fun d (hd : d ∈ tables_1) => atoms_spec (ws := Jvm.Cond.code x code maxLocals ret :: tables_1) hat d (List.mem_cons_of_mem _ hd)
  have hfit : Fit s := fun {y c} hc i hi => by
    obtain ⟨ha, rfl⟩ := Array.getElem?_eq_some_iff.mp hc
    have q := List.all_eq_true.mp ((Array.all_eq_true_iff_forall_mem.mp hF) _ (Array.getElem_mem ha)) i (List.mem_range.mpr hi)
    simpa [Array.getElem?_eq_getElem hi] using q
  obtain ⟨i0, ei0⟩ := is_v ga1l
  obtain rfl : w0 = (.int i0) := Option.some.inj ei0
  obtain ⟨i1, ei1⟩ := is_v ga2l
  obtain rfl : w1 = (.int i1) := Option.some.inj ei1
  obtain ⟨i2, ei2⟩ := is_v ga3l
  obtain rfl : w2 = (.int i2) := Option.some.inj ei2
  obtain ⟨i3, ei3⟩ := is_v ga4l
  obtain rfl : w3 = (.int i3) := Option.some.inj ei3
  obtain ⟨i4, ei4⟩ := is_v ga5l
  obtain rfl : w4 = (.int i4) := Option.some.inj ei4
  obtain ⟨i5, ei5⟩ := is_v ga5r
  obtain rfl : w5 = (.int i5) := Option.some.inj ei5
  have hEL : EW s #[.int i0, .int i1, .int i2, .int i3, .int i4, .int i5] own_EL := EW.nil
  obtain ⟨n, o, h1, h2, h3, _, L, rfl, ⟨rfl, N⟩, -, hq⟩ := rm0 l s _ hw tables_1 i0 i1 i2 i3 i4 i5 s.heap s.heap.size (Nat.le_refl _) hEL  p e ha hc hk s m _ below hf ((Spec.applies_iff_loose hf).mp happ).1 ⟨rfl, State.Warmed39.refl s, rfl, (fun _ hp => by cases hp)⟩ trivial
  refine ⟨n, _, h1, h2, h3, hpost _ _ _ _ _ _ ⟨Cond.after_iff.mpr rfl, Cond.after_iff.mpr (eq_i res_at (Term.int_eval (1)) rfl), trivial⟩ ⟨hq.1, hq.2.1, hq.2.2.1, (hq.2.2.2.sift fun y hy => Or.inr (N y hy)).mono (by decide) (by decide)⟩⟩
theorem main_1_1 : Claimed_1_1 := comes_1 fun _ _ _ _ _ _ h hF => ⟨h.1, hF⟩
theorem main_1_2 : Claimed_1_2 := comes_1 fun _ _ _ _ _ _ h hF => ⟨h.2.1, hF⟩
end Jvm.Pilot.@@N@@
namespace Jvm.Pilot.@@N@@
open Jvm Jvm.ClassFile Sem Op Lib Jvm.Free Jvm.Stand Jvm.Pilot.@@N@@.Jvm.D
/-! MADE BY PROGRAM (witnessworld.py) out of the Statement's table words and the real class files: 20 classes; the members and pool entries that the words name. The judged class is class 1, her method 1. -/
namespace start1
open Jvm.ClassFile
def u (s : String) : CpInfo := .utf8 (stringToUtf16 s)
/-- a pool by its gaps: so many unusable entries, then the entry; so many at the end -/
def gap : Nat → List CpInfo → List CpInfo
  | 0, r => r
  | n + 1, r => .unusable :: gap n r
def poolList (es : List (Nat × CpInfo)) (last : Nat) : List CpInfo := es.foldr (fun e r => gap e.1 (e.2 :: r)) (gap last [])
def pool (es : List (Nat × CpInfo)) (last : Nat) : Array CpInfo := ⟨poolList es last⟩
def fileOf (pool : Array CpInfo) (this : Nat) (attrs : Array Attribute := #[]) (ms : Array MethodInfo := #[]) (fl : Nat := 33) (sup : Nat := 0) (ifs : Array Nat := #[]) (fds : Array FieldInfo := #[]) : ClassFile where
  minorVersion := 0
  majorVersion := 65
  constantPool := pool
  accessFlags := fl
  thisClass := this
  superClass := sup
  interfaces := ifs
  fields := fds
  methods := ms
  attributes := attrs
def plain (name : String) (sup : Option ClassId) : Class where
  name := name
  kind := .ordinary
  loader := none
  accessFlags := 33
  super := sup
  interfaces := #[]
  cf := none
  fields := #[]
  methods := #[]
  instanceTypes := #[]
  staticTypes := #[]
  resolved := #[]
  callSites := []
  init := .initialized
  statics := none
  mirror := none

def pool0 : Array CpInfo := pool [(5, u "<init>"), (0, u "()V"), (1, .class_ 10), (1, u "java/lang/Object")] 113

def k0c0 : Code := { maxStack := 0, maxLocals := 1, code := object_method_1_code, exceptionTable := #[], attributes := #[] }
def k0m0 : Method := { name := "<init>", desc := "()V", sig := { parameters := [], returnType := none }, accessFlags := 1, code := some k0c0 }
/-- java/lang/Object -/
def k0 : Class := { plain "java/lang/Object" none with
  accessFlags := 33
  interfaces := #[]
  cf := some (fileOf pool0 8 #[] #[{ accessFlags := 1, nameIndex := 5, descriptorIndex := 6, attributes := #[] }] 33 0 #[] #[])
  fields := #[]
  methods := #[k0m0]
  instanceTypes := #[]
  staticTypes := #[]
  resolved := Array.replicate 124 none
  statics := none }

def pool1 : Array CpInfo := pool [(2, .class_ 4), (1, u "java/lang/Object"), (0, u "<init>"), (0, u "()V"), (0, .integer 65535), (0, .integer 2147483647), (0, .class_ 10), (0, u "com/example/curves_to_bounds/curvestobounds/curve/RateLatency"), (0, .methodref 9 12), (0, .nameAndType 5 13), (0, u "(DD)V"), (0, .class_ 15), (0, u "com/example/curves_to_bounds/curvestobounds/curve/TokenBucket"), (0, .methodref 14 12), (0, .methodref 9 18), (0, .nameAndType 19 20), (0, u "delayBound"), (0, u "(Lcom/example/curves_to_bounds/curvestobounds/curve/TokenBucket;)D"), (2, .double 9218868437227405312), (1, .class_ 26), (0, u "com/example/curves_to_bounds/curvestobounds/curve/RateLatencyDelayBoundPinLaw"), (2, u "law"), (0, u "(IIIIII)Z")] 3

def k1m0 : Method := { name := "<init>", desc := "()V", sig := { parameters := [], returnType := none }, accessFlags := 1, code := none }
def k1c1 : Code := { maxStack := 6, maxLocals := 19, code := code, exceptionTable := #[], attributes := #[] }
def k1m1 : Method := { name := "law", desc := "(IIIIII)Z", sig := { parameters := [.int, .int, .int, .int, .int, .int], returnType := some .boolean }, accessFlags := 9, code := some k1c1 }
/-- com/example/curves_to_bounds/curvestobounds/curve/RateLatencyDelayBoundPinLaw -/
def k1 : Class := { plain "com/example/curves_to_bounds/curvestobounds/curve/RateLatencyDelayBoundPinLaw" (some 0) with
  accessFlags := 49
  interfaces := #[]
  cf := some (fileOf pool1 25 #[] #[{ accessFlags := 1, nameIndex := 5, descriptorIndex := 6, attributes := #[] }, { accessFlags := 9, nameIndex := 29, descriptorIndex := 30, attributes := #[] }] 49 2 #[] #[])
  fields := #[]
  methods := #[k1m0, k1m1]
  instanceTypes := #[]
  staticTypes := #[]
  resolved := Array.replicate 34 none
  statics := none }

def pool2 : Array CpInfo := pool [(1, .methodref 2 3), (0, .class_ 4), (0, .nameAndType 5 6), (0, u "java/lang/Object"), (0, u "<init>"), (0, u "()V"), (0, .class_ 8), (0, u "java/lang/Record")] 13

def k2c0 : Code := { maxStack := 1, maxLocals := 1, code := jdk_30_method_1_code, exceptionTable := #[], attributes := #[] }
def k2m0 : Method := { name := "<init>", desc := "()V", sig := { parameters := [], returnType := none }, accessFlags := 4, code := some k2c0 }
/-- java/lang/Record -/
def k2 : Class := { plain "java/lang/Record" (some 0) with
  accessFlags := 1057
  interfaces := #[]
  cf := some (fileOf pool2 7 #[] #[{ accessFlags := 4, nameIndex := 5, descriptorIndex := 6, attributes := #[] }] 1057 2 #[] #[])
  fields := #[]
  methods := #[k2m0]
  instanceTypes := #[]
  staticTypes := #[]
  resolved := Array.replicate 22 none
  statics := none }

def pool3 : Array CpInfo := pool [(1, .methodref 2 3), (0, .class_ 4), (0, .nameAndType 5 6), (0, u "java/lang/Record"), (0, u "<init>"), (0, u "()V"), (0, .string 8), (0, u "rate"), (0, .methodref 10 11), (0, .class_ 12), (0, .nameAndType 13 14), (0, u "com/example/curves_to_bounds/curvestobounds/curve/CurveParameters"), (0, u "requireFiniteNonNegative"), (0, u "(Ljava/lang/String;D)V"), (0, .string 16), (0, u "latency"), (0, .fieldref 18 19), (0, .class_ 20), (0, .nameAndType 8 21), (0, u "com/example/curves_to_bounds/curvestobounds/curve/RateLatency"), (0, u "D"), (0, .fieldref 18 23), (0, .nameAndType 16 21), (0, .methodref 25 26), (0, .class_ 27), (0, .nameAndType 8 28), (0, u "com/example/curves_to_bounds/curvestobounds/curve/TokenBucket"), (0, u "()D"), (2, .double 9218868437227405312), (1, .methodref 25 34), (0, .nameAndType 35 28), (0, u "burst"), (12, u "(DD)V"), (19, u "delayBound"), (0, u "(Lcom/example/curves_to_bounds/curvestobounds/curve/TokenBucket;)D")] 29

def k3c0 : Code := { maxStack := 3, maxLocals := 5, code := prog_24_method_1_code, exceptionTable := #[], attributes := #[] }
def k3m0 : Method := { name := "<init>", desc := "(DD)V", sig := { parameters := [.double, .double], returnType := none }, accessFlags := 1, code := some k3c0 }
def k3c1 : Code := { maxStack := 6, maxLocals := 4, code := prog_24_method_2_code, exceptionTable := #[], attributes := #[] }
def k3m1 : Method := { name := "delayBound", desc := "(Lcom/example/curves_to_bounds/curvestobounds/curve/TokenBucket;)D", sig := { parameters := [(.object "com/example/curves_to_bounds/curvestobounds/curve/TokenBucket")], returnType := some .double }, accessFlags := 1, code := some k3c1 }
/-- com/example/curves_to_bounds/curvestobounds/curve/RateLatency -/
def k3 : Class := { plain "com/example/curves_to_bounds/curvestobounds/curve/RateLatency" (some 2) with
  accessFlags := 49
  interfaces := #[]
  cf := some (fileOf pool3 18 #[] #[{ accessFlags := 1, nameIndex := 5, descriptorIndex := 48, attributes := #[] }, { accessFlags := 1, nameIndex := 68, descriptorIndex := 69, attributes := #[] }] 49 2 #[] #[{ accessFlags := 18, nameIndex := 8, descriptorIndex := 21, attributes := #[] }, { accessFlags := 18, nameIndex := 16, descriptorIndex := 21, attributes := #[] }])
  fields := #[{ name := "rate", type := .double, accessFlags := 18, slot := 0, constantValue := 0 }, { name := "latency", type := .double, accessFlags := 18, slot := 1, constantValue := 0 }]
  methods := #[k3m0, k3m1]
  instanceTypes := #[.double, .double]
  staticTypes := #[]
  resolved := Array.replicate 99 none
  statics := none }

def pool4 : Array CpInfo := pool [(1, .class_ 2), (0, u "java/io/Serializable"), (0, .class_ 4), (0, u "java/lang/Object")] 2

/-- java/io/Serializable -/
def k4 : Class := { plain "java/io/Serializable" (some 0) with
  accessFlags := 1537
  interfaces := #[]
  cf := some (fileOf pool4 1 #[] #[] 1537 3 #[] #[])
  fields := #[]
  methods := #[]
  instanceTypes := #[]
  staticTypes := #[]
  resolved := Array.replicate 7 none
  statics := none }

def pool5 : Array CpInfo := pool [(1, .class_ 2), (0, u "java/lang/Comparable"), (0, .class_ 4), (0, u "java/lang/Object")] 7

/-- java/lang/Comparable -/
def k5 : Class := { plain "java/lang/Comparable" (some 0) with
  accessFlags := 1537
  interfaces := #[]
  cf := some (fileOf pool5 1 #[] #[] 1537 3 #[] #[])
  fields := #[]
  methods := #[]
  instanceTypes := #[]
  staticTypes := #[]
  resolved := Array.replicate 12 none
  statics := none }

def pool6 : Array CpInfo := pool [(2, .class_ 4), (1, u "java/lang/CharSequence"), (42, .class_ 48), (0, u "java/lang/CharSequence$1CodePointIterator"), (10, .class_ 60), (0, u "java/lang/CharSequence$1CharIterator"), (5, .class_ 67), (0, u "java/lang/Object")] 63

/-- java/lang/CharSequence -/
def k6 : Class := { plain "java/lang/CharSequence" (some 0) with
  accessFlags := 1537
  interfaces := #[]
  cf := some (fileOf pool6 2 #[.nestMembers #[47, 59]] #[] 1537 66 #[] #[])
  fields := #[]
  methods := #[]
  instanceTypes := #[]
  staticTypes := #[]
  resolved := Array.replicate 131 none
  statics := none }

def pool7 : Array CpInfo := pool [(1, .class_ 2), (0, u "java/lang/constant/Constable"), (0, .class_ 4), (0, u "java/lang/Object")] 6

/-- java/lang/constant/Constable -/
def k7 : Class := { plain "java/lang/constant/Constable" (some 0) with
  accessFlags := 1537
  interfaces := #[]
  cf := some (fileOf pool7 1 #[] #[] 1537 3 #[] #[])
  fields := #[]
  methods := #[]
  instanceTypes := #[]
  staticTypes := #[]
  resolved := Array.replicate 11 none
  statics := none }

def pool8 : Array CpInfo := pool [(1, .class_ 2), (0, u "java/lang/constant/ConstantDesc"), (0, .class_ 4), (0, u "java/lang/Object")] 32

/-- java/lang/constant/ConstantDesc -/
def k8 : Class := { plain "java/lang/constant/ConstantDesc" (some 0) with
  accessFlags := 1537
  interfaces := #[]
  cf := some (fileOf pool8 1 #[] #[] 1537 3 #[] #[])
  fields := #[]
  methods := #[]
  instanceTypes := #[]
  staticTypes := #[]
  resolved := Array.replicate 37 none
  statics := none }

def pool9 : Array CpInfo := pool [(2, .class_ 4), (1, u "java/lang/Object"), (0, u "<init>"), (0, u "()V"), (3, .class_ 12), (1, u "java/lang/String"), (0, u "value"), (0, u "[B"), (2, u "coder"), (0, u "B"), (2, u "hash"), (0, u "I"), (2, u "hashIsZero"), (0, u "Z"), (13, u "COMPACT_STRINGS"), (534, .class_ 576), (0, u "java/lang/CharSequence"), (22, u "CASE_INSENSITIVE_ORDER"), (0, u "Ljava/util/Comparator;"), (500, u "serialPersistentFields"), (0, u "[Ljava/io/ObjectStreamField;"), (0, .class_ 1104), (0, u "java/lang/String$CaseInsensitiveComparator"), (1, .class_ 1107), (0, u "java/io/Serializable"), (0, .class_ 1109), (0, u "java/lang/Comparable"), (0, .class_ 1111), (0, u "java/lang/constant/Constable"), (0, .class_ 1113), (0, u "java/lang/constant/ConstantDesc"), (2, u "serialVersionUID"), (0, u "J"), (3, u "REPL"), (0, u "C"), (2, u "LATIN1"), (1, u "UTF16")] 323

def k9m0 : Method := { name := "<init>", desc := "()V", sig := { parameters := [], returnType := none }, accessFlags := 1, code := none }
/-- java/lang/String -/
def k9 : Class := { plain "java/lang/String" (some 0) with
  accessFlags := 49
  interfaces := #[4, 5, 6, 7, 8]
  cf := some (fileOf pool9 10 #[.nestMembers #[1103]] #[{ accessFlags := 1, nameIndex := 5, descriptorIndex := 6, attributes := #[] }] 49 2 #[1106, 1108, 575, 1110, 1112] #[{ accessFlags := 18, nameIndex := 13, descriptorIndex := 14, attributes := #[] }, { accessFlags := 18, nameIndex := 17, descriptorIndex := 18, attributes := #[] }, { accessFlags := 2, nameIndex := 21, descriptorIndex := 22, attributes := #[] }, { accessFlags := 2, nameIndex := 25, descriptorIndex := 26, attributes := #[] }, { accessFlags := 26, nameIndex := 1116, descriptorIndex := 1117, attributes := #[] }, { accessFlags := 24, nameIndex := 40, descriptorIndex := 26, attributes := #[] }, { accessFlags := 26, nameIndex := 1101, descriptorIndex := 1102, attributes := #[] }, { accessFlags := 26, nameIndex := 1121, descriptorIndex := 1122, attributes := #[] }, { accessFlags := 25, nameIndex := 599, descriptorIndex := 600, attributes := #[] }, { accessFlags := 24, nameIndex := 1125, descriptorIndex := 18, attributes := #[] }, { accessFlags := 24, nameIndex := 1127, descriptorIndex := 18, attributes := #[] }])
  fields := #[{ name := "value", type := (.array .byte), accessFlags := 18, slot := 0, constantValue := 0 }, { name := "coder", type := .byte, accessFlags := 18, slot := 1, constantValue := 0 }, { name := "hash", type := .int, accessFlags := 2, slot := 2, constantValue := 0 }, { name := "hashIsZero", type := .boolean, accessFlags := 2, slot := 3, constantValue := 0 }, { name := "serialVersionUID", type := .long, accessFlags := 26, slot := 0, constantValue := 0 }, { name := "COMPACT_STRINGS", type := .boolean, accessFlags := 24, slot := 1, constantValue := 0 }, { name := "serialPersistentFields", type := (.array (.object "java/io/ObjectStreamField")), accessFlags := 26, slot := 2, constantValue := 0 }, { name := "REPL", type := .char, accessFlags := 26, slot := 3, constantValue := 0 }, { name := "CASE_INSENSITIVE_ORDER", type := (.object "java/util/Comparator"), accessFlags := 25, slot := 4, constantValue := 0 }, { name := "LATIN1", type := .byte, accessFlags := 24, slot := 5, constantValue := 0 }, { name := "UTF16", type := .byte, accessFlags := 24, slot := 6, constantValue := 0 }]
  methods := #[k9m0]
  instanceTypes := #[(.array .byte), .byte, .int, .boolean]
  staticTypes := #[.long, .boolean, (.array (.object "java/io/ObjectStreamField")), .char, (.object "java/util/Comparator"), .byte, .byte]
  resolved := Array.replicate 1451 none
  statics := none }

def pool10 : Array CpInfo := pool [(2, .class_ 4), (1, u "java/lang/Object"), (0, u "<init>"), (0, u "()V"), (0, .methodref 8 9), (0, .class_ 10), (0, .nameAndType 11 12), (0, u "java/lang/Double"), (0, u "isFinite"), (0, u "(D)Z"), (9, .class_ 23), (0, u "com/example/curves_to_bounds/curvestobounds/curve/CurveParameters"), (2, u "requireFiniteNonNegative"), (0, u "(Ljava/lang/String;D)V")] 18

def k10m0 : Method := { name := "<init>", desc := "()V", sig := { parameters := [], returnType := none }, accessFlags := 2, code := none }
def k10c1 : Code := { maxStack := 5, maxLocals := 3, code := prog_23_method_2_code, exceptionTable := #[], attributes := #[] }
def k10m1 : Method := { name := "requireFiniteNonNegative", desc := "(Ljava/lang/String;D)V", sig := { parameters := [(.object "java/lang/String"), .double], returnType := none }, accessFlags := 8, code := some k10c1 }
/-- com/example/curves_to_bounds/curvestobounds/curve/CurveParameters -/
def k10 : Class := { plain "com/example/curves_to_bounds/curvestobounds/curve/CurveParameters" (some 0) with
  accessFlags := 32
  interfaces := #[]
  cf := some (fileOf pool10 22 #[] #[{ accessFlags := 2, nameIndex := 5, descriptorIndex := 6, attributes := #[] }, { accessFlags := 8, nameIndex := 26, descriptorIndex := 27, attributes := #[] }] 32 2 #[] #[])
  fields := #[]
  methods := #[k10m0, k10m1]
  instanceTypes := #[]
  staticTypes := #[]
  resolved := Array.replicate 46 none
  statics := none }

def pool11 : Array CpInfo := pool [(2, .class_ 4), (1, u "java/lang/Object"), (0, u "<init>"), (0, u "()V"), (1, .class_ 10), (1, u "java/lang/Number"), (2, .class_ 14), (0, u "java/io/Serializable"), (0, u "serialVersionUID"), (0, u "J")] 20

def k11m0 : Method := { name := "<init>", desc := "()V", sig := { parameters := [], returnType := none }, accessFlags := 1, code := none }
/-- java/lang/Number -/
def k11 : Class := { plain "java/lang/Number" (some 0) with
  accessFlags := 1057
  interfaces := #[4]
  cf := some (fileOf pool11 8 #[] #[{ accessFlags := 1, nameIndex := 5, descriptorIndex := 6, attributes := #[] }] 1057 2 #[13] #[{ accessFlags := 26, nameIndex := 15, descriptorIndex := 16, attributes := #[] }])
  fields := #[{ name := "serialVersionUID", type := .long, accessFlags := 26, slot := 0, constantValue := 0 }]
  methods := #[k11m0]
  instanceTypes := #[]
  staticTypes := #[.long]
  resolved := Array.replicate 37 none
  statics := none }

def pool12 : Array CpInfo := pool [(1, .class_ 2), (0, u "java/lang/Double"), (10, u "isFinite"), (0, u "(D)Z"), (8, .class_ 25), (1, u "java/lang/Math"), (12, .methodref 23 39), (0, .nameAndType 40 41), (0, u "abs"), (0, u "(D)D"), (69, .double 9218868437227405311), (2, .class_ 116), (1, u "java/lang/Number"), (3, u "value"), (0, u "D"), (51, u "TYPE"), (0, u "Ljava/lang/Class;"), (0, .class_ 176), (0, u "java/lang/Comparable"), (0, .class_ 178), (0, u "java/lang/constant/Constable"), (0, .class_ 180), (0, u "java/lang/constant/ConstantDesc"), (0, u "POSITIVE_INFINITY"), (3, u "NEGATIVE_INFINITY"), (2, u "NaN"), (2, u "MAX_VALUE"), (0, u "MIN_NORMAL"), (0, u "MIN_VALUE"), (2, u "SIZE"), (0, u "I"), (1, u "PRECISION"), (1, u "MAX_EXPONENT"), (1, u "MIN_EXPONENT"), (1, u "BYTES"), (3, u "serialVersionUID"), (0, u "J")] 79

def k12c0 : Code := { maxStack := 4, maxLocals := 2, code := jdk_117_method_8_code, exceptionTable := #[], attributes := #[] }
def k12m0 : Method := { name := "isFinite", desc := "(D)Z", sig := { parameters := [.double], returnType := some .boolean }, accessFlags := 9, code := some k12c0 }
/-- java/lang/Double -/
def k12 : Class := { plain "java/lang/Double" (some 11) with
  accessFlags := 49
  interfaces := #[5, 7, 8]
  cf := some (fileOf pool12 1 #[] #[{ accessFlags := 9, nameIndex := 13, descriptorIndex := 14, attributes := #[] }] 49 114 #[175, 177, 179] #[{ accessFlags := 25, nameIndex := 181, descriptorIndex := 121, attributes := #[] }, { accessFlags := 25, nameIndex := 185, descriptorIndex := 121, attributes := #[] }, { accessFlags := 25, nameIndex := 188, descriptorIndex := 121, attributes := #[] }, { accessFlags := 25, nameIndex := 191, descriptorIndex := 121, attributes := #[] }, { accessFlags := 25, nameIndex := 192, descriptorIndex := 121, attributes := #[] }, { accessFlags := 25, nameIndex := 193, descriptorIndex := 121, attributes := #[] }, { accessFlags := 25, nameIndex := 196, descriptorIndex := 197, attributes := #[] }, { accessFlags := 25, nameIndex := 199, descriptorIndex := 197, attributes := #[] }, { accessFlags := 25, nameIndex := 201, descriptorIndex := 197, attributes := #[] }, { accessFlags := 25, nameIndex := 203, descriptorIndex := 197, attributes := #[] }, { accessFlags := 25, nameIndex := 205, descriptorIndex := 197, attributes := #[] }, { accessFlags := 25, nameIndex := 173, descriptorIndex := 174, attributes := #[] }, { accessFlags := 18, nameIndex := 120, descriptorIndex := 121, attributes := #[] }, { accessFlags := 26, nameIndex := 209, descriptorIndex := 210, attributes := #[] }])
  fields := #[{ name := "POSITIVE_INFINITY", type := .double, accessFlags := 25, slot := 0, constantValue := 0 }, { name := "NEGATIVE_INFINITY", type := .double, accessFlags := 25, slot := 1, constantValue := 0 }, { name := "NaN", type := .double, accessFlags := 25, slot := 2, constantValue := 0 }, { name := "MAX_VALUE", type := .double, accessFlags := 25, slot := 3, constantValue := 0 }, { name := "MIN_NORMAL", type := .double, accessFlags := 25, slot := 4, constantValue := 0 }, { name := "MIN_VALUE", type := .double, accessFlags := 25, slot := 5, constantValue := 0 }, { name := "SIZE", type := .int, accessFlags := 25, slot := 6, constantValue := 0 }, { name := "PRECISION", type := .int, accessFlags := 25, slot := 7, constantValue := 0 }, { name := "MAX_EXPONENT", type := .int, accessFlags := 25, slot := 8, constantValue := 0 }, { name := "MIN_EXPONENT", type := .int, accessFlags := 25, slot := 9, constantValue := 0 }, { name := "BYTES", type := .int, accessFlags := 25, slot := 10, constantValue := 0 }, { name := "TYPE", type := (.object "java/lang/Class"), accessFlags := 25, slot := 11, constantValue := 0 }, { name := "value", type := .double, accessFlags := 18, slot := 0, constantValue := 0 }, { name := "serialVersionUID", type := .long, accessFlags := 26, slot := 12, constantValue := 0 }]
  methods := #[k12m0]
  instanceTypes := #[.double]
  staticTypes := #[.double, .double, .double, .double, .double, .double, .int, .int, .int, .int, .int, (.object "java/lang/Class"), .long]
  resolved := Array.replicate 290 none
  statics := none }

def pool13 : Array CpInfo := pool [(1, .class_ 2), (0, u "java/lang/Math"), (1, .class_ 6), (1, u "java/lang/Object"), (0, u "<init>"), (0, u "()V"), (5, u "(D)D"), (83, .class_ 100), (1, u "java/lang/Math$RandomNumberGeneratorHolder"), (23, u "abs"), (47, u "negativeZeroFloatBits"), (0, u "J"), (2, u "negativeZeroDoubleBits"), (68, u "$assertionsDisabled"), (0, u "Z"), (91, u "twoToTheDoubleScaleDown"), (0, u "D"), (4, u "twoToTheDoubleScaleUp"), (9, u "E"), (3, u "PI"), (2, u "TAU"), (2, u "DEGREES_TO_RADIANS"), (0, u "RADIANS_TO_DEGREES")] 94

def k13m0 : Method := { name := "<init>", desc := "()V", sig := { parameters := [], returnType := none }, accessFlags := 2, code := none }
def k13c1 : Code := { maxStack := 4, maxLocals := 2, code := jdk_29_method_64_code, exceptionTable := #[], attributes := #[] }
def k13m1 : Method := { name := "abs", desc := "(D)D", sig := { parameters := [.double], returnType := some .double }, accessFlags := 9, code := some k13c1 }
/-- java/lang/Math -/
def k13 : Class := { plain "java/lang/Math" (some 0) with
  accessFlags := 49
  interfaces := #[]
  cf := some (fileOf pool13 1 #[.nestMembers #[98]] #[{ accessFlags := 2, nameIndex := 7, descriptorIndex := 8, attributes := #[] }, { accessFlags := 9, nameIndex := 124, descriptorIndex := 14, attributes := #[] }] 49 4 #[] #[{ accessFlags := 25, nameIndex := 354, descriptorIndex := 339, attributes := #[] }, { accessFlags := 25, nameIndex := 358, descriptorIndex := 339, attributes := #[] }, { accessFlags := 25, nameIndex := 361, descriptorIndex := 339, attributes := #[] }, { accessFlags := 26, nameIndex := 364, descriptorIndex := 339, attributes := #[] }, { accessFlags := 26, nameIndex := 365, descriptorIndex := 339, attributes := #[] }, { accessFlags := 26, nameIndex := 172, descriptorIndex := 173, attributes := #[] }, { accessFlags := 26, nameIndex := 176, descriptorIndex := 173, attributes := #[] }, { accessFlags := 8, nameIndex := 344, descriptorIndex := 339, attributes := #[] }, { accessFlags := 8, nameIndex := 338, descriptorIndex := 339, attributes := #[] }, { accessFlags := 4120, nameIndex := 245, descriptorIndex := 246, attributes := #[] }])
  fields := #[{ name := "E", type := .double, accessFlags := 25, slot := 0, constantValue := 0 }, { name := "PI", type := .double, accessFlags := 25, slot := 1, constantValue := 0 }, { name := "TAU", type := .double, accessFlags := 25, slot := 2, constantValue := 0 }, { name := "DEGREES_TO_RADIANS", type := .double, accessFlags := 26, slot := 3, constantValue := 0 }, { name := "RADIANS_TO_DEGREES", type := .double, accessFlags := 26, slot := 4, constantValue := 0 }, { name := "negativeZeroFloatBits", type := .long, accessFlags := 26, slot := 5, constantValue := 0 }, { name := "negativeZeroDoubleBits", type := .long, accessFlags := 26, slot := 6, constantValue := 0 }, { name := "twoToTheDoubleScaleUp", type := .double, accessFlags := 8, slot := 7, constantValue := 0 }, { name := "twoToTheDoubleScaleDown", type := .double, accessFlags := 8, slot := 8, constantValue := 0 }, { name := "$assertionsDisabled", type := .boolean, accessFlags := 4120, slot := 9, constantValue := 0 }]
  methods := #[k13m0, k13m1]
  instanceTypes := #[]
  staticTypes := #[.double, .double, .double, .double, .double, .long, .long, .double, .double, .boolean]
  resolved := Array.replicate 460 none
  statics := none }

def pool14 : Array CpInfo := pool [(1, .methodref 2 3), (0, .class_ 4), (0, .nameAndType 5 6), (0, u "java/lang/Record"), (0, u "<init>"), (0, u "()V"), (0, .string 8), (0, u "rate"), (0, .methodref 10 11), (0, .class_ 12), (0, .nameAndType 13 14), (0, u "com/example/curves_to_bounds/curvestobounds/curve/CurveParameters"), (0, u "requireFiniteNonNegative"), (0, u "(Ljava/lang/String;D)V"), (0, .string 16), (0, u "burst"), (0, .fieldref 18 19), (0, .class_ 20), (0, .nameAndType 8 21), (0, u "com/example/curves_to_bounds/curvestobounds/curve/TokenBucket"), (0, u "D"), (0, .fieldref 18 23), (0, .nameAndType 16 21), (12, u "(DD)V"), (6, u "()D")] 21

def k14c0 : Code := { maxStack := 3, maxLocals := 5, code := prog_26_method_1_code, exceptionTable := #[], attributes := #[] }
def k14m0 : Method := { name := "<init>", desc := "(DD)V", sig := { parameters := [.double, .double], returnType := none }, accessFlags := 1, code := some k14c0 }
def k14c1 : Code := { maxStack := 2, maxLocals := 1, code := prog_26_method_5_code, exceptionTable := #[], attributes := #[] }
def k14m1 : Method := { name := "rate", desc := "()D", sig := { parameters := [], returnType := some .double }, accessFlags := 1, code := some k14c1 }
def k14c2 : Code := { maxStack := 2, maxLocals := 1, code := prog_26_method_6_code, exceptionTable := #[], attributes := #[] }
def k14m2 : Method := { name := "burst", desc := "()D", sig := { parameters := [], returnType := some .double }, accessFlags := 1, code := some k14c2 }
/-- com/example/curves_to_bounds/curvestobounds/curve/TokenBucket -/
def k14 : Class := { plain "com/example/curves_to_bounds/curvestobounds/curve/TokenBucket" (some 2) with
  accessFlags := 49
  interfaces := #[]
  cf := some (fileOf pool14 18 #[] #[{ accessFlags := 1, nameIndex := 5, descriptorIndex := 36, attributes := #[] }, { accessFlags := 1, nameIndex := 8, descriptorIndex := 43, attributes := #[] }, { accessFlags := 1, nameIndex := 16, descriptorIndex := 43, attributes := #[] }] 49 2 #[] #[{ accessFlags := 18, nameIndex := 8, descriptorIndex := 21, attributes := #[] }, { accessFlags := 18, nameIndex := 16, descriptorIndex := 21, attributes := #[] }])
  fields := #[{ name := "rate", type := .double, accessFlags := 18, slot := 0, constantValue := 0 }, { name := "burst", type := .double, accessFlags := 18, slot := 1, constantValue := 0 }]
  methods := #[k14m0, k14m1, k14m2]
  instanceTypes := #[.double, .double]
  staticTypes := #[]
  resolved := Array.replicate 65 none
  statics := none }

def pool15 : Array CpInfo := pool [(1, u "java/lang/Cloneable"), (0, .class_ 1), (0, u "java/lang/Object"), (0, .class_ 3)] 3

/-- java/lang/Cloneable -/
def k15 : Class := { plain "java/lang/Cloneable" (some 0) with
  accessFlags := 1537
  interfaces := #[]
  cf := some (fileOf pool15 2 #[] #[] 1537 4 #[] #[])
  fields := #[]
  methods := #[]
  instanceTypes := #[]
  staticTypes := #[]
  resolved := Array.replicate 8 none
  statics := none }

/-- the primitive byte -/
def k16 : Class := { plain "byte" none with kind := .primitive 'B', accessFlags := 0x411 }
/-- [B -/
def k17 : Class := { plain "[B" (some 0) with kind := .array 16 .byte, interfaces := #[15, 4], accessFlags := 1041 }

/-- the primitive int -/
def k18 : Class := { plain "int" none with kind := .primitive 'I', accessFlags := 0x411 }
/-- [I -/
def k19 : Class := { plain "[I" (some 0) with kind := .array 18 .int, interfaces := #[15, 4], accessFlags := 1041 }

def heap : Heap := #[]
def classes : Array Class := #[k0, k1, k2, k3, k4, k5, k6, k7, k8, k9, k10, k11, k12, k13, k14, k15, k16, k17, k18, k19]
def interned : List (Array UInt16 × Addr) := []
def slotsUsed : Nat := 0
def theMethod : MethodId := ⟨1, 1⟩
def args0 : Array Value := #[.int 5, .int 5, .int 5, .int 5, .int 5, .int 5]
def aboutOver (below : List Frame) : State where
  vm := { classes := classes, interned := interned.toArray }
  heap := heap
  slotsUsed := slotsUsed
  threads := #[{ frames := .invoking theMethod args0 :: below }]
def below0 : List Frame := [.native { method := ⟨0, 0⟩, args := #[] }]
def about1 : State := aboutOver below0
def p0 : Program := .bare "" "" ""
def e0 : Env := launch0.env 0 0 0
theorem w_frames : about1.frames = Frame.invoking theMethod args0 :: below0 := rfl
set_option maxRecDepth 65536 in
theorem w_args : argsFit about1.vm theMethod args0 = true := by decide +kernel
set_option maxRecDepth 65536 in
theorem w_heap : heapFits about1 = true := by decide +kernel
set_option maxRecDepth 65536 in
theorem w_runnable : about1.curStatus? = some .runnable := by decide +kernel
set_option maxRecDepth 65536 in
theorem w_alone : about1.alone = true := by decide +kernel
set_option maxRecDepth 65536 in
theorem w_named : about1.methodNamed? x = some theMethod := by decide +kernel
set_option maxRecDepth 65536 in
theorem w_hears : about1.hears theMethod below0 = true := by decide +kernel
set_option maxRecDepth 65536 in
theorem w_ripe : about1.ripe theMethod args0 below0 = true := by decide +kernel
theorem w_running : about1.status = .running := rfl
set_option maxRecDepth 65536 in
theorem w_room : about1.hasRoom e0.platform room_1 = true :=
  launch0.hasRoom_least _ room_1 (by decide +kernel) (by decide +kernel) (by decide +kernel) (by decide +kernel) (by decide +kernel) (by decide +kernel)
theorem allAtoms_all (ts : List Jvm.Cond) (a : Array Jvm.Value) (st : Jvm.State) : (allAtoms ts).before a st = ts.all (fun c => c.before a st) := by
  induction ts with
  | nil => rfl
  | cons c t ih =>
    show (Jvm.Cond.and c (allAtoms t)).before a st = _
    rw [Jvm.Cond.before_and, ih, List.all_cons]
def words1 : List Jvm.Cond := Jvm.Cond.code x code maxLocals ret :: tables_1
/-- a 'code' word, met by the world's own term for the bytes: nothing is compared byte by byte -/
theorem code_word {y : MethodName} {bytes : ByteArray} {mx : Nat} {rt : Option FieldType} {a : Array Value} {s : State} {m : MethodId} {meth : Method} {c : Code} (h1 : s.methodNamed? y = some m) (h2 : s.vm.method? m = some meth) (h3 : meth.code = some c) (h4 : c.code = bytes)
    (h5 : (c.maxLocals == mx && c.exceptionTable.isEmpty && decide (c.maxStack ≤ mostOperands) && decide (meth.sig.returnType = rt) && !meth.locks && decide (parseMethodDescriptor y.desc = some meth.sig)) = true) : (Jvm.Cond.code y bytes mx rt).before a s = true := by
  simp only [Bool.and_eq_true, beq_iff_eq, Bool.not_eq_true', decide_eq_true_eq] at h5
  obtain ⟨⟨⟨⟨⟨g1, g2⟩, g3⟩, g4⟩, g5⟩, g6⟩ := h5
  simp [Cond.before, Cond.holds, Cond.value, h1, h2, h3, h4, g1, g2, g3, g4, g5, g6]
def isCode : Jvm.Cond → Bool
  | .code _ _ _ _ => true
  | _ => false
theorem all_split {L : List Jvm.Cond} {P : Jvm.Cond → Bool} (h1 : L.all (fun c => isCode c || P c) = true) (h2 : ∀ c ∈ L.filter isCode, P c = true) : L.all P = true := by
  refine List.all_eq_true.mpr fun c hc => ?_
  have h := List.all_eq_true.mp h1 c hc
  rcases Bool.eq_false_or_eq_true (isCode c) with hi | hi
  · exact h2 c (List.mem_filter.mpr ⟨hc, hi⟩)
  · simpa [hi] using h
set_option maxRecDepth 65536 in
theorem w_c0 : (Jvm.Cond.code x code maxLocals ret).before args0 about1 = true := code_word (m := ⟨1, 1⟩) (meth := k1m1) (c := k1c1) (by decide +kernel) rfl rfl rfl (by decide +kernel)
set_option maxRecDepth 65536 in
theorem w_c1 : (Jvm.Cond.code ({ cls := "com/example/curves_to_bounds/curvestobounds/curve/RateLatency", name := "<init>", desc := "(DD)V" } : Jvm.MethodName) prog_24_method_1_code (5 : Nat) (Option.none : Option Jvm.ClassFile.FieldType)).before args0 about1 = true := code_word (m := ⟨3, 0⟩) (meth := k3m0) (c := k3c0) (by decide +kernel) rfl rfl rfl (by decide +kernel)
set_option maxRecDepth 65536 in
theorem w_c2 : (Jvm.Cond.code ({ cls := "java/lang/Record", name := "<init>", desc := "()V" } : Jvm.MethodName) jdk_30_method_1_code (1 : Nat) (Option.none : Option Jvm.ClassFile.FieldType)).before args0 about1 = true := code_word (m := ⟨2, 0⟩) (meth := k2m0) (c := k2c0) (by decide +kernel) rfl rfl rfl (by decide +kernel)
set_option maxRecDepth 65536 in
theorem w_c3 : (Jvm.Cond.code ({ cls := "java/lang/Object", name := "<init>", desc := "()V" } : Jvm.MethodName) object_method_1_code (1 : Nat) (Option.none : Option Jvm.ClassFile.FieldType)).before args0 about1 = true := code_word (m := ⟨0, 0⟩) (meth := k0m0) (c := k0c0) (by decide +kernel) rfl rfl rfl (by decide +kernel)
set_option maxRecDepth 65536 in
theorem w_c4 : (Jvm.Cond.code ({ cls := "com/example/curves_to_bounds/curvestobounds/curve/CurveParameters", name := "requireFiniteNonNegative", desc := "(Ljava/lang/String;D)V" } : Jvm.MethodName) prog_23_method_2_code (3 : Nat) (Option.none : Option Jvm.ClassFile.FieldType)).before args0 about1 = true := code_word (m := ⟨10, 1⟩) (meth := k10m1) (c := k10c1) (by decide +kernel) rfl rfl rfl (by decide +kernel)
set_option maxRecDepth 65536 in
theorem w_c5 : (Jvm.Cond.code ({ cls := "java/lang/Double", name := "isFinite", desc := "(D)Z" } : Jvm.MethodName) jdk_117_method_8_code (2 : Nat) (Option.some Jvm.ClassFile.FieldType.boolean)).before args0 about1 = true := code_word (m := ⟨12, 0⟩) (meth := k12m0) (c := k12c0) (by decide +kernel) rfl rfl rfl (by decide +kernel)
set_option maxRecDepth 65536 in
theorem w_c6 : (Jvm.Cond.code ({ cls := "java/lang/Math", name := "abs", desc := "(D)D" } : Jvm.MethodName) jdk_29_method_64_code (2 : Nat) (Option.some Jvm.ClassFile.FieldType.double)).before args0 about1 = true := code_word (m := ⟨13, 1⟩) (meth := k13m1) (c := k13c1) (by decide +kernel) rfl rfl rfl (by decide +kernel)
set_option maxRecDepth 65536 in
theorem w_c7 : (Jvm.Cond.code ({ cls := "com/example/curves_to_bounds/curvestobounds/curve/TokenBucket", name := "<init>", desc := "(DD)V" } : Jvm.MethodName) prog_26_method_1_code (5 : Nat) (Option.none : Option Jvm.ClassFile.FieldType)).before args0 about1 = true := code_word (m := ⟨14, 0⟩) (meth := k14m0) (c := k14c0) (by decide +kernel) rfl rfl rfl (by decide +kernel)
set_option maxRecDepth 65536 in
theorem w_c8 : (Jvm.Cond.code ({ cls := "com/example/curves_to_bounds/curvestobounds/curve/RateLatency", name := "delayBound", desc := "(Lcom/example/curves_to_bounds/curvestobounds/curve/TokenBucket;)D" } : Jvm.MethodName) prog_24_method_2_code (4 : Nat) (Option.some Jvm.ClassFile.FieldType.double)).before args0 about1 = true := code_word (m := ⟨3, 1⟩) (meth := k3m1) (c := k3c1) (by decide +kernel) rfl rfl rfl (by decide +kernel)
set_option maxRecDepth 65536 in
theorem w_c9 : (Jvm.Cond.code ({ cls := "com/example/curves_to_bounds/curvestobounds/curve/TokenBucket", name := "rate", desc := "()D" } : Jvm.MethodName) prog_26_method_5_code (1 : Nat) (Option.some Jvm.ClassFile.FieldType.double)).before args0 about1 = true := code_word (m := ⟨14, 1⟩) (meth := k14m1) (c := k14c1) (by decide +kernel) rfl rfl rfl (by decide +kernel)
set_option maxRecDepth 65536 in
theorem w_c10 : (Jvm.Cond.code ({ cls := "com/example/curves_to_bounds/curvestobounds/curve/TokenBucket", name := "burst", desc := "()D" } : Jvm.MethodName) prog_26_method_6_code (1 : Nat) (Option.some Jvm.ClassFile.FieldType.double)).before args0 about1 = true := code_word (m := ⟨14, 2⟩) (meth := k14m2) (c := k14c2) (by decide +kernel) rfl rfl rfl (by decide +kernel)
def codes1 : List Jvm.Cond := [Jvm.Cond.code x code maxLocals ret, Jvm.Cond.code ({ cls := "com/example/curves_to_bounds/curvestobounds/curve/RateLatency", name := "<init>", desc := "(DD)V" } : Jvm.MethodName) prog_24_method_1_code (5 : Nat) (Option.none : Option Jvm.ClassFile.FieldType), Jvm.Cond.code ({ cls := "java/lang/Record", name := "<init>", desc := "()V" } : Jvm.MethodName) jdk_30_method_1_code (1 : Nat) (Option.none : Option Jvm.ClassFile.FieldType), Jvm.Cond.code ({ cls := "java/lang/Object", name := "<init>", desc := "()V" } : Jvm.MethodName) object_method_1_code (1 : Nat) (Option.none : Option Jvm.ClassFile.FieldType), Jvm.Cond.code ({ cls := "com/example/curves_to_bounds/curvestobounds/curve/CurveParameters", name := "requireFiniteNonNegative", desc := "(Ljava/lang/String;D)V" } : Jvm.MethodName) prog_23_method_2_code (3 : Nat) (Option.none : Option Jvm.ClassFile.FieldType), Jvm.Cond.code ({ cls := "java/lang/Double", name := "isFinite", desc := "(D)Z" } : Jvm.MethodName) jdk_117_method_8_code (2 : Nat) (Option.some Jvm.ClassFile.FieldType.boolean), Jvm.Cond.code ({ cls := "java/lang/Math", name := "abs", desc := "(D)D" } : Jvm.MethodName) jdk_29_method_64_code (2 : Nat) (Option.some Jvm.ClassFile.FieldType.double), Jvm.Cond.code ({ cls := "com/example/curves_to_bounds/curvestobounds/curve/TokenBucket", name := "<init>", desc := "(DD)V" } : Jvm.MethodName) prog_26_method_1_code (5 : Nat) (Option.none : Option Jvm.ClassFile.FieldType), Jvm.Cond.code ({ cls := "com/example/curves_to_bounds/curvestobounds/curve/RateLatency", name := "delayBound", desc := "(Lcom/example/curves_to_bounds/curvestobounds/curve/TokenBucket;)D" } : Jvm.MethodName) prog_24_method_2_code (4 : Nat) (Option.some Jvm.ClassFile.FieldType.double), Jvm.Cond.code ({ cls := "com/example/curves_to_bounds/curvestobounds/curve/TokenBucket", name := "rate", desc := "()D" } : Jvm.MethodName) prog_26_method_5_code (1 : Nat) (Option.some Jvm.ClassFile.FieldType.double), Jvm.Cond.code ({ cls := "com/example/curves_to_bounds/curvestobounds/curve/TokenBucket", name := "burst", desc := "()D" } : Jvm.MethodName) prog_26_method_6_code (1 : Nat) (Option.some Jvm.ClassFile.FieldType.double)]
set_option maxRecDepth 65536 in
theorem codes_eq : words1.filter isCode = codes1 := rfl
theorem w_codes : ∀ c ∈ words1.filter isCode, c.before args0 about1 = true := by
  rw [codes_eq]
  intro c hc
  simp only [codes1, List.mem_cons, List.not_mem_nil, or_false] at hc
  rcases hc with rfl | rfl | rfl | rfl | rfl | rfl | rfl | rfl | rfl | rfl | rfl
  · exact w_c0
  · exact w_c1
  · exact w_c2
  · exact w_c3
  · exact w_c4
  · exact w_c5
  · exact w_c6
  · exact w_c7
  · exact w_c8
  · exact w_c9
  · exact w_c10
set_option maxRecDepth 65536 in
theorem w_t1 : (words1.take 24).all (fun c => isCode c || c.before args0 about1) = true := by decide +kernel
set_option maxRecDepth 65536 in
theorem w_t2 : ((words1.drop 24).take 24).all (fun c => isCode c || c.before args0 about1) = true := by decide +kernel
set_option maxRecDepth 65536 in
theorem w_t3 : (((words1.drop 24).drop 24).take 24).all (fun c => isCode c || c.before args0 about1) = true := by decide +kernel
set_option maxRecDepth 65536 in
theorem w_t4 : (((words1.drop 24).drop 24).drop 24).all (fun c => isCode c || c.before args0 about1) = true := by decide +kernel
theorem w_tables : (allAtoms (Jvm.Cond.code x code maxLocals ret :: tables_1)).before args0 about1 = true := by
  rw [allAtoms_all]
  show words1.all (fun c => c.before args0 about1) = true
  refine all_split ?_ w_codes
  rw [← List.take_append_drop 24 words1, List.all_append, w_t1, ← List.take_append_drop 24 (words1.drop 24), List.all_append, w_t2, ← List.take_append_drop 24 ((words1.drop 24).drop 24), List.all_append, w_t3, w_t4]
  rfl
set_option maxRecDepth 65536 in
theorem w_case : (Jvm.Cond.and given_1 narrow_1).before args0 about1 = true := by decide +kernel
theorem w_applies : (headSpec (Jvm.Cond.code x code maxLocals ret :: tables_1) room_1).applies x e0.platform about1 = true :=
  (Spec.applies_iff w_frames).mpr ⟨w_running, w_runnable, w_alone, w_named, w_hears, w_ripe, w_room, w_tables⟩
theorem atStart : AtStart classFile x code maxLocals ret World_1 tables_1 room_1 Calls_1 rest_1 Pre_1 launch0 p0 e0 about1 theMethod args0 below0 :=
  ⟨lists_1, trivial, launch0.admits_env _ _ _, launch0.least_env, fairChoices_fair.cas, fairChoices_fair.clock, w_frames, w_args, w_heap, w_applies, trivial, trivial, w_case⟩
end start1
theorem witness_1 : WitnessClaimed_1 := ⟨start1.p0, start1.e0, start1.about1, start1.theMethod, start1.args0, start1.below0, start1.atStart⟩
end Jvm.Pilot.@@N@@
