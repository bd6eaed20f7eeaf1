import JvmDerived
import JvmDerived.Pilot.@@N@@Statement
import JvmDerived.Pilot.@@N@@Code
set_option linter.unusedVariables false
set_option linter.unusedSimpArgs false
namespace Jvm.Pilot.@@N@@
open Jvm Jvm.ClassFile Sem Op Lib Jvm.Free Jvm.Stand Jvm.LawKit Jvm.RoadKit Bundle Jvm.Pilot.@@N@@.Jvm.D
section Own
variable {p : Program} {l : Launch} {e : Env} {R : Room} {s : State} {m : MethodId} {args : Array Value} {below : List Frame} {meth : Method} {c : Code} {T : State} {locs : List Loc} {cells slots : Nat} {P : Outcome → State → Prop}
/-- from S the run comes to an end that answers -/
def own_Fin (p : Program) (e : Env) (below : List Frame) (P : Outcome → State → Prop) (S : State) : Prop := ∃ s₂ o, Steps p.tables e below S s₂ ∧ s₂.status = .running ∧ Ended s₂ below o ∧ P o s₂
def own_Ans (s : State) (Q : Option Value → Heap → List Loc → Prop) (k n : Nat) (o : Outcome) (t : State) : Prop := ∃ v L, o = .returned v ∧ Q v t.heap L ∧ FrameEnd s o t L k n
theorem own_on {A B : State} (k : ∀ t, Steps p.tables e below B t → Steps p.tables e below A t) (h : own_Fin p e below P B) : own_Fin p e below P A := by
  obtain ⟨s₂, o, h1, h2⟩ := h
  exact ⟨s₂, o, k _ h1, h2⟩
theorem own_via {A B : State} (k : Steps p.tables e below A B) (h : own_Fin p e below P B) : own_Fin p e below P A := own_on (fun _ r => k.trans r) h
theorem own_cast {g g' : JFrame} (q : g = g') (h : own_Fin p e below P (T.setTop g')) : own_Fin p e below P (T.setTop g) := q ▸ h
theorem own_ret {Q : Option Value → Heap → List Loc → Prop} {k n : Nat} (X : Stand p l e R s m args below meth c T locs cells slots) (hx : p.tables.exec = Jvm.exec) (hlk : meth.locks = false) {pc : Nat} {Ls : Array Slot} {w : Value} {t : FieldType} {i : Instr} {rest : List Value} (hret : meth.sig.returnType = some t) (hn : narrow t w = w)
    (hi : (i = .ireturn ∧ (t = .int ∨ t = .boolean ∨ t = .byte ∨ t = .char ∨ t = .short) ∧ ∃ z, w = .int z) ∨ (i = .lreturn ∧ t = .long ∧ ∃ z, w = .long z) ∨ (i = .dreturn ∧ t = .double ∧ ∃ z, w = .double z) ∨ (i = .freturn ∧ t = .float ∧ ∃ z, w = .float z) ∨ (i = .areturn ∧ t.isReference = true ∧ w.isRef = true))
    (hd : decode c.code pc = .ok (i, 1)) (hQ : Q (some w) T.heap locs) (hk : cells ≤ k) (hs : slots ≤ n) : own_Fin p e below (own_Ans s Q k n) (T.setTop (mkF m pc Ls (w :: rest))) := by
  obtain ⟨fs, hr, hrun, hended, hW, hsame⟩ := X.leave (v := some w) (fun h => by rw [hret] at h; cases h) hlk
  exact ⟨_, _, retOut X hx hret hn hi hd hr, hrun, hended, _, _, rfl, hQ, ⟨_, rfl⟩, hW, hsame.mono hk hs⟩
theorem own_retV {Q : Option Value → Heap → List Loc → Prop} {k n : Nat} (X : Stand p l e R s m args below meth c T locs cells slots) (hx : p.tables.exec = Jvm.exec) (hlk : meth.locks = false) {pc : Nat} {Ls : Array Slot} (hret : meth.sig.returnType = none)
    (hd : decode c.code pc = .ok (.return_, 1)) (hQ : Q none T.heap locs) (hk : cells ≤ k) (hs : slots ≤ n) : own_Fin p e below (own_Ans s Q k n) (T.setTop (mkF m pc Ls [])) := by
  obtain ⟨fs, hr, hrun, hended, hW, hsame⟩ := X.leave (v := none) (fun _ => rfl) hlk
  exact ⟨_, _, X.returnOut hx hret hd hr, hrun, hended, _, _, rfl, hQ, ⟨_, rfl⟩, hW, hsame.mono hk hs⟩
theorem own_b1 {P : Prop} [Decidable P] (h : P) : ¬ ((if P then (1 : Int32) else 0) = 0) := by simp [h]
theorem own_b0 {P : Prop} [Decidable P] (h : ¬ P) : (if P then (1 : Int32) else 0) = 0 := by simp [h]
theorem own_nb {P : Prop} [Decidable P] : narrow .boolean (.int (if P then (1 : Int32) else 0)) = .int (if P then (1 : Int32) else 0) := by split <;> rfl
theorem own_iI {t : FieldType} (h : t = .int ∨ t = .boolean ∨ t = .byte ∨ t = .char ∨ t = .short) {w : Value} {z : Int32} (hw : w = .int z) : ((Instr.ireturn = .ireturn ∧ (t = .int ∨ t = .boolean ∨ t = .byte ∨ t = .char ∨ t = .short) ∧ ∃ z, w = .int z) ∨ (Instr.ireturn = .lreturn ∧ t = .long ∧ ∃ z, w = .long z) ∨ (Instr.ireturn = .dreturn ∧ t = .double ∧ ∃ z, w = .double z) ∨ (Instr.ireturn = .freturn ∧ t = .float ∧ ∃ z, w = .float z) ∨ (Instr.ireturn = .areturn ∧ t.isReference = true ∧ w.isRef = true)) := Or.inl ⟨rfl, h, z, hw⟩
theorem own_ne_of {Z : State} {h : Heap} {x : Addr} (q : x < h.size) {b : Addr} (g : b = h.size) : x ≠ b := Nat.ne_of_lt (Nat.lt_of_lt_of_le q (Nat.le_of_eq g.symm))
theorem own_eqf {a0 : Array Value} {C n d : String} {t : Term} {a : Addr} {k : Int32} (ev : t.eval a0 s none [] s = some (.ref a)) (h : (Jvm.Cond.eq (.field t C n d) (.int k)).value a0 s none s [] = some true) : Fld s s.heap a C n d (.int k) := by
  obtain ⟨x, y, h1, h2, h3, -⟩ := cmp_v (Or.inl h)
  have hy : y = .int k := (Option.some.inj ((show (Term.int k).eval a0 s none [] s = some (.int k) from rfl).symm.trans h2)).symm
  subst hy
  cases x <;> simp [Kin, Value.isRef] at h3
  rename_i z
  have hz : z = k := by
    have q := h
    simp only [Cond.value, h1, show (Term.int k).eval a0 s none [] s = some (.int k) from rfl] at q
    simpa using q
  subst hz
  exact Fld.start ((fld_at ev).symm.trans h1)
theorem own_len {a0 : Array Value} {t : Term} {a : Addr} {cl : Cell} {z : Int32} (ht : t.eval a0 s none [] s = some (.ref a)) (ha : s.arrayAt? a = some cl) (h : (Term.length t).eval a0 s none [] s = some (.int z)) : cl.slots.size < 2 ^ 31 ∧ cl.slots.size.toInt32 = z := by
  by_cases hl : cl.slots.size < 2 ^ 31
  · rw [len_f ht ha hl] at h
    exact ⟨hl, by simpa using h⟩
  · have hl' : ¬ cl.slots.size < 2147483648 := hl
    simp [Term.eval, ht, ha, hl'] at h
theorem own_sub {a0 : Array Value} {t u : Term} {idx : List Nat} {x y : Int32} (h1 : t.eval a0 s none idx s = some (.int x)) (h2 : u.eval a0 s none idx s = some (.int y)) : (Term.sub t u).eval a0 s none idx s = some (.int (x - y)) := by simp [Term.eval, h1, h2]
theorem own_eqx {a0 : Array Value} {t u : Term} {b : Addr} (eu : u.eval a0 s none [] s = some (.ref b)) (h : (Jvm.Cond.eq t u).value a0 s none s [] = some true) : t.eval a0 s none [] s = some (.ref b) := by
  obtain ⟨x, y, h1, h2, h3, -⟩ := cmp_v (Or.inl h)
  cases eu.symm.trans h2
  have hr : x.isRef = true := by cases x <;> simp [Kin, Value.isRef] at h3 ⊢
  have q := gotT (eq_R h1 eu hr rfl) h
  subst q
  exact h1
theorem own_eqr {a0 : Array Value} {C n d : String} {t u : Term} {a b : Addr} (ev : t.eval a0 s none [] s = some (.ref a)) (eu : u.eval a0 s none [] s = some (.ref b)) (h : (Jvm.Cond.eq (.field t C n d) u).value a0 s none s [] = some true) : Fld s s.heap a C n d (.ref b) := by
  obtain ⟨x, y, h1, h2, h3, -⟩ := cmp_v (Or.inl h)
  cases eu.symm.trans h2
  have hr : x.isRef = true := by cases x <;> simp [Kin, Value.isRef] at h3 ⊢
  have q := gotT (eq_R h1 eu hr rfl) h
  subst q
  exact Fld.start ((fld_at ev).symm.trans h1)
end Own
section OwnW
variable {p : Program} {l : Launch} {e : Env} {R : Room} {s : State} {m : MethodId} {args : Array Value} {below : List Frame} {meth : Method} {c : Code} {T : State} {locs : List Loc} {cells slots : Nat} {P : Outcome → State → Prop} {Z : State} {EL : List (String × Nat)} {a0 : Array Value} {vm0 : Vm}
def own_AnsW (s Z : State) (EL : List (String × Nat)) (Q : Option Value → Heap → List Loc → Prop) (k n : Nat) (o : Outcome) (t : State) : Prop := ∃ v L, o = .returned v ∧ Q v t.heap L ∧ CHr Z EL s.vm s.heap t.vm t.heap ∧ ReturnedEndW s o t L k n
theorem own_monoW {o : Outcome} {t : State} {L : List Loc} {k n k' n' : Nat} (h : ReturnedEndW s o t L k n) (hk : k ≤ k') (hn : n ≤ n') : ReturnedEndW s o t L k' n' := ⟨h.1, h.2.1, h.2.2.1, h.2.2.2.mono hk hn⟩
theorem own_retW {Q : Option Value → Heap → List Loc → Prop} {k n k0 : Nat} (X : Stand p l e R (s.setVm vm0) m args below meth c T locs cells slots) (hx : p.tables.exec = Jvm.exec) (hlk : meth.locks = false) {pc : Nat} {Ls : Array Slot} {w : Value} {t : FieldType} {i : Instr} {rest : List Value} (hret : meth.sig.returnType = some t) (hn : narrow t w = w)
    (hi : (i = .ireturn ∧ (t = .int ∨ t = .boolean ∨ t = .byte ∨ t = .char ∨ t = .short) ∧ ∃ z, w = .int z) ∨ (i = .lreturn ∧ t = .long ∧ ∃ z, w = .long z) ∨ (i = .dreturn ∧ t = .double ∧ ∃ z, w = .double z) ∨ (i = .freturn ∧ t = .float ∧ ∃ z, w = .float z) ∨ (i = .areturn ∧ t.isReference = true ∧ w.isRef = true))
    (hd : decode c.code pc = .ok (i, 1)) (hS : s.Since vm0 k0) (hk0 : k0 ≤ T.heap.size) (hZ : Z.Warmed39 vm0) (hEL : EW Z a0 EL) (hC : CHr Z EL s.vm s.heap vm0 T.heap) (hQ : Q (some w) T.heap locs) (hk : cells ≤ k) (hs : slots ≤ n) : own_Fin p e below (own_AnsW s Z EL Q k n) (T.setTop (mkF m pc Ls (w :: rest))) := by
  obtain ⟨fs, hr, hrun, hended, hE⟩ := X.leaveW hS hk0 (v := some w) (fun h => by rw [hret] at h; cases h) hlk
  exact ⟨_, _, retOut X hx hret hn hi hd hr, hrun, hended, _, _, rfl, hQ, (show CHr Z EL s.vm s.heap T.vm T.heap from hC.trans (CHv.at X hZ hEL hC.1)), own_monoW hE hk hs⟩
theorem own_retVW {Q : Option Value → Heap → List Loc → Prop} {k n k0 : Nat} (X : Stand p l e R (s.setVm vm0) m args below meth c T locs cells slots) (hx : p.tables.exec = Jvm.exec) (hlk : meth.locks = false) {pc : Nat} {Ls : Array Slot} (hret : meth.sig.returnType = none)
    (hd : decode c.code pc = .ok (.return_, 1)) (hS : s.Since vm0 k0) (hk0 : k0 ≤ T.heap.size) (hZ : Z.Warmed39 vm0) (hEL : EW Z a0 EL) (hC : CHr Z EL s.vm s.heap vm0 T.heap) (hQ : Q none T.heap locs) (hk : cells ≤ k) (hs : slots ≤ n) : own_Fin p e below (own_AnsW s Z EL Q k n) (T.setTop (mkF m pc Ls [])) := by
  obtain ⟨fs, hr, hrun, hended, hE⟩ := X.leaveW hS hk0 (v := none) (fun _ => rfl) hlk
  exact ⟨_, _, X.returnOut hx hret hd hr, hrun, hended, _, _, rfl, hQ, (show CHr Z EL s.vm s.heap T.vm T.heap from hC.trans (CHv.at X hZ hEL hC.1)), own_monoW hE hk hs⟩
theorem own_backX {y : MethodName} {bytes : ByteArray} {maxL : Nat} {ret : Option FieldType} {rm : Room} {len W : Nat} {as' : Array Value} {h : Heap} {Q : Option Value → Heap → List Loc → Prop} (Ex : Vm → Prop)
    (hM : MetFree l y (head1 [Jvm.Cond.code y bytes maxL ret] rm) (fun a U => a = as' ∧ Z.Warmed39 U.vm ∧ U.heap = h ∧ CHv Z EL U.vm h ∧ Ex U.vm) (fun _ _ _ _ _ => True) (fun _ U o U' => ∃ v L, o = .returned v ∧ Q v U'.heap L ∧ CHr Z EL U.vm U.heap U'.vm U'.heap ∧ ReturnedEndW U o U' L rm.cells rm.slots))
    (hZ : Z.Warmed39 vm0) (wc : (Jvm.Cond.code y bytes maxL ret).before a0 Z = true) (wz : (Jvm.Cond.initialized y.cls).before a0 Z = true) (hf : rm.frames + 1 ≤ R.frames) (hl : W + (maxL + 11) + rm.locals ≤ R.locals) (hEL : EW Z a0 EL) (H : CHv Z EL vm0 h) (hEx : ∀ vm1, CHr Z EL vm0 h vm1 h → Ex vm1) :
    BackS l R p e below (s.setVm vm0) args y len W (fun A a => a = as' ∧ A.U.heap = h ∧ A.cells + rm.cells ≤ R.cells ∧ A.slots + rm.slots ≤ R.slots)
      (fun A _ v B => ∃ L, Q v B.U.heap L ∧ B.locs = A.locs ++ L ∧ B.cells = A.cells + rm.cells ∧ B.slots = A.slots + rm.slots ∧ CHr Z EL vm0 h B.U.vm B.U.heap) := by
  refine BackS.of_freeW (bytes := bytes) (maxL := maxL) (ret := ret) (E := fun _ first o t L k n => (∃ v, o = .returned v ∧ Q v t.heap L) ∧ k = rm.cells ∧ n = rm.slots ∧ CHr Z EL first.vm first.heap t.vm t.heap) hM hf hl ?_ ?_ (fun _ _ _ _ _ _ _ _ _ => trivial) ?_ ?_
  · intro m meth c A a Y hp
    have hU : Z.Warmed39 A.U.vm := wtrans (s := s.setVm vm0) hZ Y.warmed
    exact ⟨by show (Jvm.Cond.and _ .tt).before a A.U = true; rw [Cond.before_and, mv hU wc]; rfl, mv hU wc, mv hU wz, hp.2.2.1, hp.2.2.2⟩
  · intro m meth c A a g mk Y hp
    have hA := CHv.at Y hZ hEL H
    exact ⟨hp.1, wtrans (s := s.setVm vm0) hZ Y.warmed, hp.2.1, hA.1, hEx _ hA⟩
  · intro a first o t hq
    obtain ⟨v, L, h1, h2, h3, h4⟩ := hq
    exact ⟨L, _, _, h4, ⟨v, h1, h2⟩, rfl, rfl, h3⟩
  · intro m meth c A a g mk v t L k n Y hp _ _ hE
    obtain ⟨⟨v', e3, e4⟩, e1, e2, e5⟩ := hE
    cases e3
    subst e1 e2
    refine ⟨L, e4, rfl, rfl, rfl, (CHv.at Y hZ hEL H).trans ?_⟩
    rw [← hp.2.1]
    exact e5
end OwnW
def own_EL : List (String × Nat) := []
theorem own_wS {Z : State} {a0 : Array Value} (hw : ∀ d ∈ tables_1, d.before a0 Z = true) : ∀ a ∈ Bundle.stringAtoms, a.before a0 Z = true := by
  intro a ha
  simp only [Bundle.stringAtoms, List.mem_cons, List.not_mem_nil, or_false] at ha
  rcases ha with rfl | rfl | rfl | rfl | rfl | rfl | rfl
  · exact (hw _ (List.mem_of_getElem? (i := 9) rfl))
  · exact (hw _ (List.mem_of_getElem? (i := 10) rfl))
  · exact (hw _ (List.mem_of_getElem? (i := 11) rfl))
  · exact (hw _ (List.mem_of_getElem? (i := 12) rfl))
  · exact (hw _ (List.mem_of_getElem? (i := 13) rfl))
  · exact (hw _ (List.mem_of_getElem? (i := 14) rfl))
  · exact (hw _ (List.mem_of_getElem? (i := 15) rfl))
theorem own_nz {b : Int64} (h : ¬ (lcmpW b (0 : Int64)) = (0 : Int32)) : b ≠ 0 := fun z => h ((lw_eq b 0).mpr z)
theorem own_rem {x y : Int64} (hx : 0 ≤ x.toInt) : (x - (x / y) * y).toInt = x.toInt % y.toInt := (c_lrem x y y.toInt rfl).1 hx
theorem own_z64 : (0 : Int64).toInt = 0 := by decide
theorem own_lr0 {x y : Int64} (hx : 0 ≤ x.toInt) (h : y.toInt ∣ x.toInt) : (lcmpW (x - (x / y) * y) (0 : Int64)) = (0 : Int32) := by
  rw [lw_eq, ← Int64.toInt_inj, own_rem hx, own_z64]; exact Int.emod_eq_zero_of_dvd h
theorem own_lr1 {x y : Int64} (hx : 0 ≤ x.toInt) (h : (lcmpW (x - (x / y) * y) (0 : Int64)) = (0 : Int32)) : y.toInt ∣ x.toInt := by
  rw [lw_eq, ← Int64.toInt_inj, own_rem hx, own_z64] at h; exact Int.dvd_of_emod_eq_zero h
theorem own_gt {g : Int64} (h : 0 < g.toInt) : (0 : Int32) < (lcmpW g (0 : Int64)) := by rw [lw_gt, Int64.lt_iff_toInt_lt, own_z64]; exact h
theorem own_d {z : Int32} {d : Int64} (hd : d = ((z &&& (2147483647 : Int32)).toInt64 + (1 : Int64))) : 1 ≤ d.toInt ∧ d.toInt ≤ 2147483648 := by
  have a1 : (1 : Int64).toInt = 1 := by decide
  have m := c_mask z 2147483647 31 (by decide) (by decide)
  have b1 := c_i2l (z &&& (2147483647 : Int32))
  have b2 := c_ladd (z &&& (2147483647 : Int32)).toInt64 1
  have b3 := rng64 ((z &&& (2147483647 : Int32)).toInt64 + (1 : Int64))
  subst hd
  omega
theorem own_s {z d r : Int64} (hd : 1 ≤ d.toInt ∧ d.toInt ≤ 2147483648) (hr : r = (d * ((z &&& (2147483647 : Int64)) + (1 : Int64)))) : 0 < r.toInt := by
  have a1 : (1 : Int64).toInt = 1 := by decide
  have m := c_maskL z 2147483647 31 (by decide) (by decide)
  have b2 := c_ladd (z &&& (2147483647 : Int64)) 1
  have b3 := rng64 ((z &&& (2147483647 : Int64)) + (1 : Int64))
  have k1 : 1 ≤ ((z &&& (2147483647 : Int64)) + (1 : Int64)).toInt ∧ ((z &&& (2147483647 : Int64)) + (1 : Int64)).toInt ≤ 2147483648 := by omega
  have b4 := c_lmul d ((z &&& (2147483647 : Int64)) + (1 : Int64))
  have b5 := rng64 (d * ((z &&& (2147483647 : Int64)) + (1 : Int64)))
  have b6 := mc hd.1 hd.2 k1.1 k1.2
  subst hr
  generalize d.toInt * ((z &&& (2147483647 : Int64)) + (1 : Int64)).toInt = P at *
  omega
theorem own_mx {a b r : Int64} (ha : a = 1) (hr : r = if (lcmpW a b) < (0 : Int32) then b else a) : 0 < r.toInt := by
  have a1 : (1 : Int64).toInt = 1 := by decide
  subst ha hr
  split
  · rename_i h
    rw [lw_lt, Int64.lt_iff_toInt_lt] at h; omega
  · omega
theorem pn_0 : plainName "java/lang/Record" = true := by first | (simp [plainName, overriddenIn]; done) | decide +kernel
theorem d2_0 : decode jdk_30_method_1_code 0 = .ok (.aload_n 0, 1) := by decide +kernel
theorem d2_1 : decode jdk_30_method_1_code 1 = .ok (.invokespecial 1, 3) := by decide +kernel
theorem d2_4 : decode jdk_30_method_1_code 4 = .ok (.return_, 1) := by decide +kernel
theorem ef_rm2 (m : MethodId) (x0 : Addr) : entryFrame m #[(.ref x0)] 1 = mkF m 0 #[.val (.ref x0)] [] := by first | (simp [entryFrame, mkF, argsToLocals, Value.category]; done) | rfl
def Q2 (Z : State) (a : Addr) (h0 : Heap) (n0 : Nat) (v : Option Value) (h : Heap) (L : List Loc) : Prop := v = none ∧ Fr n0 L ∧ h = h0
set_option maxRecDepth 65536 in
set_option maxHeartbeats 40000000 in
theorem rm2 (l : Launch) (Z : State) (a0 : Array Value) (hw : ∀ d ∈ tables_1, d.before a0 Z = true) (ws : List Jvm.Cond) (a : Addr) (h0 : Heap) (n0 : Nat) (Z0 : n0 ≤ h0.size) :
    MetFree l (⟨"java/lang/Record", "<init>", "()V"⟩ : MethodName) (head1 (Jvm.Cond.code (⟨"java/lang/Record", "<init>", "()V"⟩ : MethodName) jdk_30_method_1_code 1 none :: ws) ({ frames := 1, cells := 0, slots := 0, locals := 12 } : Room)) (fun as_ U => as_ = #[(.ref a)] ∧ Z.Warmed39 U.vm ∧ U.heap = h0) (fun _ _ _ _ _ => True) (fun _ U out_ U' => ∃ v L, out_ = .returned v ∧ Q2 Z a h0 n0 v U'.heap L ∧ FrameEnd U out_ U' L ({ frames := 1, cells := 0, slots := 0, locals := 12 } : Room).cells ({ frames := 1, cells := 0, slots := 0, locals := 12 } : Room).slots) := by
  refine MetFree.of_bodySF (plainFor_of_name pn_0) hisR ?_
  intro p e s m args below meth cd s₁ Bd hml0 hP hK
  obtain ⟨rfl, hZ, hh⟩ := hP
  have hx := Bd.exec
  have hby := Bd.bytes
  have hml : cd.maxLocals = 1 := hml0
  have hlk : meth.locks = false := BodyLoose.notSynchronized Bd
  have hown : s.vm.findClass "java/lang/Record" = some m.cls := findClass_of_methodNamed Bd.named
  have hnm := (name_of_methodNamed Bd.named Bd.method).1
  have hret := Bd.returns
  have X0 : Stand p l e ({ frames := 1, cells := 0, slots := 0, locals := 12 } : Room) s m #[(.ref a)] below meth cd s₁ [] 0 0 := Stand.of_body Bd
  have e0 : s₁.heap = h0 := by rw [← hh, Bd.state]; rfl
  have N0 := Fr.nil n0
  show own_Fin p e below (own_Ans s (Q2 Z a h0 n0) ({ frames := 1, cells := 0, slots := 0, locals := 12 } : Room).cells ({ frames := 1, cells := 0, slots := 0, locals := 12 } : Room).slots) (s₁.setTop (entryFrame m #[(.ref a)] 1))
  refine own_cast (ef_rm2 m a) ?_
  show own_Fin p e below _ (s₁.setTop (mkF m 0 #[.val (.ref a)] []))
  refine own_on (fun t => XS.aloadN X0.here hx rfl (hb hby d2_0) rfl rfl) ?_
  show own_Fin p e below _ (s₁.setTop (mkF m 1 #[.val (.ref a)] [(.ref a)]))
  obtain ⟨T1, X1, e1, st1⟩ := initO X0 hx hZ hown (hw _ (List.mem_of_getElem? (i := 24) rfl)) (hw _ (List.mem_of_getElem? (i := 25) rfl)) (hw _ (List.mem_of_getElem? (i := 26) rfl)) e0 (g := (mkF m 1 #[.val (.ref a)] [(.ref a)])) rfl (by rw [hml]; rfl) rfl (hb hby d2_1) (by decide) (W := 0) (by show 2 * 0 + _ ≤ _; exact Nat.le_of_eq rfl) (by decide)
  refine own_on st1 ?_
  show own_Fin p e below _ (T1.setTop (mkF m 4 #[.val (.ref a)] []))
  exact own_retV X1 hx hlk hret (hb hby d2_4) (⟨rfl, N0, e1⟩) (by decide) (by decide)
theorem pn_1 : plainName "com/example/confluent_streams/confluentstreams/Window" = true := by first | (simp [plainName, overriddenIn]; done) | decide +kernel
theorem d1_0 : decode prog_76_method_1_code 0 = .ok (.aload_n 0, 1) := by decide +kernel
theorem d1_1 : decode prog_76_method_1_code 1 = .ok (.invokespecial 1, 3) := by decide +kernel
theorem pd_0 : parseMethodDescriptor "()V" = some ⟨[], none⟩ := by decide +kernel
theorem d1_4 : decode prog_76_method_1_code 4 = .ok (.aload_n 0, 1) := by decide +kernel
theorem d1_5 : decode prog_76_method_1_code 5 = .ok (.aload_n 1, 1) := by decide +kernel
theorem d1_6 : decode prog_76_method_1_code 6 = .ok (.putfield 7, 3) := by decide +kernel
theorem d1_9 : decode prog_76_method_1_code 9 = .ok (.aload_n 0, 1) := by decide +kernel
theorem d1_10 : decode prog_76_method_1_code 10 = .ok (.lload_n 2, 1) := by decide +kernel
theorem d1_11 : decode prog_76_method_1_code 11 = .ok (.putfield 13, 3) := by decide +kernel
theorem d1_14 : decode prog_76_method_1_code 14 = .ok (.aload_n 0, 1) := by decide +kernel
theorem d1_15 : decode prog_76_method_1_code 15 = .ok (.lload 4, 2) := by decide +kernel
theorem d1_17 : decode prog_76_method_1_code 17 = .ok (.putfield 17, 3) := by decide +kernel
theorem d1_20 : decode prog_76_method_1_code 20 = .ok (.aload_n 0, 1) := by decide +kernel
theorem d1_21 : decode prog_76_method_1_code 21 = .ok (.aload 6, 2) := by decide +kernel
theorem d1_23 : decode prog_76_method_1_code 23 = .ok (.putfield 20, 3) := by decide +kernel
theorem d1_26 : decode prog_76_method_1_code 26 = .ok (.return_, 1) := by decide +kernel
theorem ef_rm1 (m : MethodId) (x0 : Addr) (x1 : Addr) (x2 : Int64) (x3 : Int64) (x4 : Value) (hr4 : x4.isRef = true) : entryFrame m #[(.ref x0), (.ref x1), (.long x2), (.long x3), x4] 7 = mkF m 0 #[.val (.ref x0), .val (.ref x1), .val (.long x2), .second, .val (.long x3), .second, .val x4] [] := by
  rcases ref_cases hr4 with rfl | ⟨_, rfl⟩ <;> first | (simp [entryFrame, mkF, argsToLocals, Value.category]; done) | rfl
def Q1 (Z : State) (a : Addr) (k : Addr) (q1 : Int64) (q2 : Int64) (on : Value) (h0 : Heap) (n0 : Nat) (v : Option Value) (h : Heap) (L : List Loc) : Prop := v = none ∧ Fr n0 L ∧ Keep h0 h [a] ∧ Exa Z h a "com/example/confluent_streams/confluentstreams/Window" ∧ Fld Z h a "com/example/confluent_streams/confluentstreams/Window" "size" "J" (.long q1) ∧ Fld Z h a "com/example/confluent_streams/confluentstreams/Window" "step" "J" (.long q2)
set_option maxRecDepth 65536 in
set_option maxHeartbeats 40000000 in
theorem rm1 (l : Launch) (Z : State) (a0 : Array Value) (hw : ∀ d ∈ tables_1, d.before a0 Z = true) (ws : List Jvm.Cond) (a : Addr) (k : Addr) (q1 : Int64) (q2 : Int64) (on : Value) (h0 : Heap) (n0 : Nat) (Z0 : n0 ≤ h0.size) (hon : on.isRef = true) (E : Exa Z h0 a "com/example/confluent_streams/confluentstreams/Window") (F0 : Fld Z h0 a "com/example/confluent_streams/confluentstreams/Window" "kind" "Lcom/example/confluent_streams/confluentstreams/Window$Kind;" .null) (F1 : Fld Z h0 a "com/example/confluent_streams/confluentstreams/Window" "size" "J" (.long (0 : Int64))) (F2 : Fld Z h0 a "com/example/confluent_streams/confluentstreams/Window" "step" "J" (.long (0 : Int64))) (F3 : Fld Z h0 a "com/example/confluent_streams/confluentstreams/Window" "on" "Ljava/lang/String;" .null) (ga : n0 ≤ a) :
    MetFree l (⟨"com/example/confluent_streams/confluentstreams/Window", "<init>", "(Lcom/example/confluent_streams/confluentstreams/Window$Kind;JJLjava/lang/String;)V"⟩ : MethodName) (head1 (Jvm.Cond.code (⟨"com/example/confluent_streams/confluentstreams/Window", "<init>", "(Lcom/example/confluent_streams/confluentstreams/Window$Kind;JJLjava/lang/String;)V"⟩ : MethodName) prog_76_method_1_code 7 none :: ws) ({ frames := 2, cells := 0, slots := 0, locals := 24 } : Room)) (fun as_ U => as_ = #[(.ref a), (.ref k), (.long q1), (.long q2), on] ∧ Z.Warmed39 U.vm ∧ U.heap = h0) (fun _ _ _ _ _ => True) (fun _ U out_ U' => ∃ v L, out_ = .returned v ∧ Q1 Z a k q1 q2 on h0 n0 v U'.heap L ∧ FrameEnd U out_ U' L ({ frames := 2, cells := 0, slots := 0, locals := 24 } : Room).cells ({ frames := 2, cells := 0, slots := 0, locals := 24 } : Room).slots) := by
  refine MetFree.of_bodySF (plainFor_of_name pn_1) hisR ?_
  intro p e s m args below meth cd s₁ Bd hml0 hP hK
  obtain ⟨rfl, hZ, hh⟩ := hP
  have hx := Bd.exec
  have hby := Bd.bytes
  have hml : cd.maxLocals = 7 := hml0
  have hlk : meth.locks = false := BodyLoose.notSynchronized Bd
  have hown : s.vm.findClass "com/example/confluent_streams/confluentstreams/Window" = some m.cls := findClass_of_methodNamed Bd.named
  have hnm := (name_of_methodNamed Bd.named Bd.method).1
  have hret := Bd.returns
  have X0 : Stand p l e ({ frames := 2, cells := 0, slots := 0, locals := 24 } : Room) s m #[(.ref a), (.ref k), (.long q1), (.long q2), on] below meth cd s₁ [] 0 0 := Stand.of_body Bd
  have e0 : s₁.heap = h0 := by rw [← hh, Bd.state]; rfl
  have N0 := Fr.nil n0
  show own_Fin p e below (own_Ans s (Q1 Z a k q1 q2 on h0 n0) ({ frames := 2, cells := 0, slots := 0, locals := 24 } : Room).cells ({ frames := 2, cells := 0, slots := 0, locals := 24 } : Room).slots) (s₁.setTop (entryFrame m #[(.ref a), (.ref k), (.long q1), (.long q2), on] 7))
  refine own_cast (ef_rm1 m a k q1 q2 on hon) ?_
  show own_Fin p e below _ (s₁.setTop (mkF m 0 #[.val (.ref a), .val (.ref k), .val (.long q1), .second, .val (.long q2), .second, .val on] []))
  refine own_on (fun t => XS.aloadN X0.here hx rfl (hb hby d1_0) rfl rfl) ?_
  show own_Fin p e below _ (s₁.setTop (mkF m 1 #[.val (.ref a), .val (.ref k), .val (.long q1), .second, .val (.long q2), .second, .val on] [(.ref a)]))
  obtain ⟨_, _, ⟨T2, L2, k2, n2⟩, -, X2, ⟨Lc2, hQ2, l2, y2, z2⟩, st2⟩ := X0.specialBack hx (y := (⟨"java/lang/Record", "<init>", "()V"⟩ : MethodName)) rfl hown (mvT hZ (hw _ (List.mem_of_getElem? (i := 19) rfl))) (mvT hZ (hw _ (List.mem_of_getElem? (i := 20) rfl))) (mvT hZ (hw _ (List.mem_of_getElem? (i := 23) rfl))) (by decide) (backOf (W := 0) (rm2 l Z a0 hw [] a h0 n0 (by exact Z0)) hZ (hw _ (List.mem_of_getElem? (i := 23) rfl)) (hw _ (List.mem_of_getElem? (i := 22) rfl)) (by decide) (by decide)) (g := (mkF m 1 #[.val (.ref a), .val (.ref k), .val (.long q1), .second, .val (.long q2), .second, .val on] [(.ref a)])) rfl (by rw [hml]; rfl) (Steps.refl _) (a := a) (argsL := []) (rest := []) (lenOf pd_0 rfl) rfl (by show 2 * 0 + _ ≤ _; exact Nat.le_of_eq rfl) (hb hby d1_1) (fun _ _ => ⟨rfl, e0, (by decide : 0 + 0 ≤ _), (by decide : 0 + 0 ≤ _)⟩)
  dsimp only [Pt.U, Pt.locs, Pt.cells, Pt.slots] at X2 l2 y2 z2 st2 hQ2
  subst l2 y2 z2
  obtain ⟨rfl, N2q, e2⟩ := hQ2
  have N2 := Fr.app N0 N2q
  refine own_via st2 ?_
  show own_Fin p e below _ (T2.setTop (mkF m 4 #[.val (.ref a), .val (.ref k), .val (.long q1), .second, .val (.long q2), .second, .val on] []))
  refine own_on (fun t => XS.aloadN X2.here hx rfl (hb hby d1_4) rfl rfl) ?_
  show own_Fin p e below _ (T2.setTop (mkF m 5 #[.val (.ref a), .val (.ref k), .val (.long q1), .second, .val (.long q2), .second, .val on] [(.ref a)]))
  refine own_on (fun t => XS.aloadN X2.here hx rfl (hb hby d1_5) rfl rfl) ?_
  show own_Fin p e below _ (T2.setTop (mkF m 6 #[.val (.ref a), .val (.ref k), .val (.long q1), .second, .val (.long q2), .second, .val on] [(.ref k), (.ref a)]))
  obtain ⟨T3, h3, X3, e3, W3, st3⟩ := putF X2 hx hZ hown (host := "") (Or.inl (hw _ (List.mem_of_getElem? (i := 27) rfl))) Via.refl e2 F0 E (Or.inr ⟨(hw _ (List.mem_of_getElem? (i := 28) rfl)), rfl, hnm⟩) (hw _ (List.mem_of_getElem? (i := 3) rfl)) (ty := (.object "com/example/confluent_streams/confluentstreams/Window$Kind")) (by decide) rfl rfl (g := (mkF m 6 #[.val (.ref a), .val (.ref k), .val (.long q1), .second, .val (.long q2), .second, .val on] [(.ref k), (.ref a)])) rfl rfl (hb hby d1_6)
  have N3 := Fr.snoc X3 N2 ga
  have y4 := (E.wr W3)
  have y5 := ((Keep.refl h0 [a]).wr W3 (Or.inl (List.mem_of_getElem? (i := 0) rfl)))
  have y6 := (Nat.le_trans Z0 (Keep.of_wr W3).1)
  have y7 := (F0.same W3)
  have y8 := (F1.other W3 (Or.inr (slot_ne (Or.inr (hw _ (List.mem_of_getElem? (i := 30) rfl))) (Or.inr (hw _ (List.mem_of_getElem? (i := 28) rfl))) (by decide) (t := .long) (t' := (.object "com/example/confluent_streams/confluentstreams/Window$Kind")) (by decide) (by decide))))
  have y9 := (F2.other W3 (Or.inr (slot_ne (Or.inr (hw _ (List.mem_of_getElem? (i := 32) rfl))) (Or.inr (hw _ (List.mem_of_getElem? (i := 28) rfl))) (by decide) (t := .long) (t' := (.object "com/example/confluent_streams/confluentstreams/Window$Kind")) (by decide) (by decide))))
  have y10 := (F3.other W3 (Or.inr (slot_ne (Or.inr (hw _ (List.mem_of_getElem? (i := 34) rfl))) (Or.inr (hw _ (List.mem_of_getElem? (i := 28) rfl))) (by decide) (t := (.object "java/lang/String")) (t' := (.object "com/example/confluent_streams/confluentstreams/Window$Kind")) (by decide) (by decide))))
  refine own_on st3 ?_
  show own_Fin p e below _ (T3.setTop (mkF m 9 #[.val (.ref a), .val (.ref k), .val (.long q1), .second, .val (.long q2), .second, .val on] []))
  refine own_on (fun t => XS.aloadN X3.here hx rfl (hb hby d1_9) rfl rfl) ?_
  show own_Fin p e below _ (T3.setTop (mkF m 10 #[.val (.ref a), .val (.ref k), .val (.long q1), .second, .val (.long q2), .second, .val on] [(.ref a)]))
  refine own_on (fun t => XS.lloadN X3.here hx rfl (hb hby d1_10) rfl) ?_
  show own_Fin p e below _ (T3.setTop (mkF m 11 #[.val (.ref a), .val (.ref k), .val (.long q1), .second, .val (.long q2), .second, .val on] [(.long q1), (.ref a)]))
  obtain ⟨T11, h11, X11, e11, W11, st11⟩ := putF X3 hx hZ hown (host := "") (Or.inl (hw _ (List.mem_of_getElem? (i := 29) rfl))) Via.refl e3 y8 y4 (Or.inr ⟨(hw _ (List.mem_of_getElem? (i := 30) rfl)), rfl, hnm⟩) (hw _ (List.mem_of_getElem? (i := 3) rfl)) (ty := .long) (by decide) rfl rfl (g := (mkF m 11 #[.val (.ref a), .val (.ref k), .val (.long q1), .second, .val (.long q2), .second, .val on] [(.long q1), (.ref a)])) rfl rfl (hb hby d1_11)
  have N11 := Fr.snoc X11 N3 ga
  have y12 := (y4.wr W11)
  have y13 := (y5.wr W11 (Or.inl (List.mem_of_getElem? (i := 0) rfl)))
  have y14 := (Nat.le_trans y6 (Keep.of_wr W11).1)
  have y15 := (y7.other W11 (Or.inr (slot_ne (Or.inr (hw _ (List.mem_of_getElem? (i := 28) rfl))) (Or.inr (hw _ (List.mem_of_getElem? (i := 30) rfl))) (by decide) (t := (.object "com/example/confluent_streams/confluentstreams/Window$Kind")) (t' := .long) (by decide) (by decide))))
  have y16 := (y8.same W11)
  have y17 := (y9.other W11 (Or.inr (slot_ne (Or.inr (hw _ (List.mem_of_getElem? (i := 32) rfl))) (Or.inr (hw _ (List.mem_of_getElem? (i := 30) rfl))) (by decide) (t := .long) (t' := .long) (by decide) (by decide))))
  have y18 := (y10.other W11 (Or.inr (slot_ne (Or.inr (hw _ (List.mem_of_getElem? (i := 34) rfl))) (Or.inr (hw _ (List.mem_of_getElem? (i := 30) rfl))) (by decide) (t := (.object "java/lang/String")) (t' := .long) (by decide) (by decide))))
  refine own_on st11 ?_
  show own_Fin p e below _ (T11.setTop (mkF m 14 #[.val (.ref a), .val (.ref k), .val (.long q1), .second, .val (.long q2), .second, .val on] []))
  refine own_on (fun t => XS.aloadN X11.here hx rfl (hb hby d1_14) rfl rfl) ?_
  show own_Fin p e below _ (T11.setTop (mkF m 15 #[.val (.ref a), .val (.ref k), .val (.long q1), .second, .val (.long q2), .second, .val on] [(.ref a)]))
  refine own_on (fun t => XS.lload X11.here hx rfl (hb hby d1_15) rfl) ?_
  show own_Fin p e below _ (T11.setTop (mkF m 17 #[.val (.ref a), .val (.ref k), .val (.long q1), .second, .val (.long q2), .second, .val on] [(.long q2), (.ref a)]))
  obtain ⟨T19, h19, X19, e19, W19, st19⟩ := putF X11 hx hZ hown (host := "") (Or.inl (hw _ (List.mem_of_getElem? (i := 31) rfl))) Via.refl e11 y17 y12 (Or.inr ⟨(hw _ (List.mem_of_getElem? (i := 32) rfl)), rfl, hnm⟩) (hw _ (List.mem_of_getElem? (i := 3) rfl)) (ty := .long) (by decide) rfl rfl (g := (mkF m 17 #[.val (.ref a), .val (.ref k), .val (.long q1), .second, .val (.long q2), .second, .val on] [(.long q2), (.ref a)])) rfl rfl (hb hby d1_17)
  have N19 := Fr.snoc X19 N11 ga
  have y20 := (y12.wr W19)
  have y21 := (y13.wr W19 (Or.inl (List.mem_of_getElem? (i := 0) rfl)))
  have y22 := (Nat.le_trans y14 (Keep.of_wr W19).1)
  have y23 := (y15.other W19 (Or.inr (slot_ne (Or.inr (hw _ (List.mem_of_getElem? (i := 28) rfl))) (Or.inr (hw _ (List.mem_of_getElem? (i := 32) rfl))) (by decide) (t := (.object "com/example/confluent_streams/confluentstreams/Window$Kind")) (t' := .long) (by decide) (by decide))))
  have y24 := (y16.other W19 (Or.inr (slot_ne (Or.inr (hw _ (List.mem_of_getElem? (i := 30) rfl))) (Or.inr (hw _ (List.mem_of_getElem? (i := 32) rfl))) (by decide) (t := .long) (t' := .long) (by decide) (by decide))))
  have y25 := (y17.same W19)
  have y26 := (y18.other W19 (Or.inr (slot_ne (Or.inr (hw _ (List.mem_of_getElem? (i := 34) rfl))) (Or.inr (hw _ (List.mem_of_getElem? (i := 32) rfl))) (by decide) (t := (.object "java/lang/String")) (t' := .long) (by decide) (by decide))))
  refine own_on st19 ?_
  show own_Fin p e below _ (T19.setTop (mkF m 20 #[.val (.ref a), .val (.ref k), .val (.long q1), .second, .val (.long q2), .second, .val on] []))
  refine own_on (fun t => XS.aloadN X19.here hx rfl (hb hby d1_20) rfl rfl) ?_
  show own_Fin p e below _ (T19.setTop (mkF m 21 #[.val (.ref a), .val (.ref k), .val (.long q1), .second, .val (.long q2), .second, .val on] [(.ref a)]))
  refine own_on (fun t => XS.aload X19.here hx rfl (hb hby d1_21) rfl hon) ?_
  show own_Fin p e below _ (T19.setTop (mkF m 23 #[.val (.ref a), .val (.ref k), .val (.long q1), .second, .val (.long q2), .second, .val on] [on, (.ref a)]))
  obtain ⟨T27, h27, X27, e27, W27, st27⟩ := putF X19 hx hZ hown (host := "") (Or.inl (hw _ (List.mem_of_getElem? (i := 33) rfl))) Via.refl e19 y26 y20 (Or.inr ⟨(hw _ (List.mem_of_getElem? (i := 34) rfl)), rfl, hnm⟩) (hw _ (List.mem_of_getElem? (i := 3) rfl)) (ty := (.object "java/lang/String")) (by decide) (by rcases ref_cases hon with h | ⟨_, h⟩ <;> subst h <;> rfl) (by rcases ref_cases hon with h | ⟨_, h⟩ <;> subst h <;> rfl) (g := (mkF m 23 #[.val (.ref a), .val (.ref k), .val (.long q1), .second, .val (.long q2), .second, .val on] [on, (.ref a)])) rfl rfl (hb hby d1_23)
  have N27 := Fr.snoc X27 N19 ga
  have y28 := (y20.wr W27)
  have y29 := (y21.wr W27 (Or.inl (List.mem_of_getElem? (i := 0) rfl)))
  have y30 := (Nat.le_trans y22 (Keep.of_wr W27).1)
  have y31 := (y23.other W27 (Or.inr (slot_ne (Or.inr (hw _ (List.mem_of_getElem? (i := 28) rfl))) (Or.inr (hw _ (List.mem_of_getElem? (i := 34) rfl))) (by decide) (t := (.object "com/example/confluent_streams/confluentstreams/Window$Kind")) (t' := (.object "java/lang/String")) (by decide) (by decide))))
  have y32 := (y24.other W27 (Or.inr (slot_ne (Or.inr (hw _ (List.mem_of_getElem? (i := 30) rfl))) (Or.inr (hw _ (List.mem_of_getElem? (i := 34) rfl))) (by decide) (t := .long) (t' := (.object "java/lang/String")) (by decide) (by decide))))
  have y33 := (y25.other W27 (Or.inr (slot_ne (Or.inr (hw _ (List.mem_of_getElem? (i := 32) rfl))) (Or.inr (hw _ (List.mem_of_getElem? (i := 34) rfl))) (by decide) (t := .long) (t' := (.object "java/lang/String")) (by decide) (by decide))))
  have y34 := (y26.same W27)
  refine own_on st27 ?_
  show own_Fin p e below _ (T27.setTop (mkF m 26 #[.val (.ref a), .val (.ref k), .val (.long q1), .second, .val (.long q2), .second, .val on] []))
  exact own_retV X27 hx hlk hret (hb hby d1_26) (by show Q1 Z a k q1 q2 on h0 n0 _ T27.heap _; rw [e27]; exact ⟨rfl, N27, y29, y28, y32, y33⟩) (by decide) (by decide)
theorem d5_6 : decode prog_76_method_7_code 6 = .ok (.lload 6, 2) := by decide +kernel
theorem d5_8 : decode prog_76_method_7_code 8 = .ok (.lconst 0, 1) := by decide +kernel
theorem d5_9 : decode prog_76_method_7_code 9 = .ok (.lcmp, 1) := by decide +kernel
theorem d5_10 : decode prog_76_method_7_code 10 = .ok (.ifCond .eq 21, 3) := by decide +kernel
theorem d5_13 : decode prog_76_method_7_code 13 = .ok (.lload 4, 2) := by decide +kernel
theorem d5_15 : decode prog_76_method_7_code 15 = .ok (.lload 6, 2) := by decide +kernel
theorem d5_17 : decode prog_76_method_7_code 17 = .ok (.lrem, 1) := by decide +kernel
theorem d5_18 : decode prog_76_method_7_code 18 = .ok (.lstore 8, 2) := by decide +kernel
theorem d5_20 : decode prog_76_method_7_code 20 = .ok (.lload 6, 2) := by decide +kernel
theorem d5_22 : decode prog_76_method_7_code 22 = .ok (.lstore 4, 2) := by decide +kernel
theorem d5_24 : decode prog_76_method_7_code 24 = .ok (.lload 8, 2) := by decide +kernel
theorem d5_26 : decode prog_76_method_7_code 26 = .ok (.lstore 6, 2) := by decide +kernel
theorem d5_28 : decode prog_76_method_7_code 28 = .ok (.goto (-22), 3) := by decide +kernel
theorem own_rb {a b : Int64} (ha : 0 ≤ a.toInt) (hb : 0 ≤ b.toInt) (hz : b ≠ 0) : 0 ≤ (a - (a / b) * b).toInt ∧ (Nat.gcd b.toInt.toNat (a - (a / b) * b).toInt.toNat : Int) = (Nat.gcd a.toInt.toNat b.toInt.toNat : Int) := by
  have e := own_rem (y := b) ha
  rw [e]
  have hb' : b.toInt ≠ 0 := fun z => hz (Int64.toInt_inj.mp (by rw [z]; decide))
  refine ⟨Int.emod_nonneg _ hb', ?_⟩
  have k1 : (a.toInt % b.toInt).toNat = a.toInt.toNat % b.toInt.toNat := Int.toNat_emod ha hb
  rw [k1, Nat.gcd_comm a.toInt.toNat, Nat.gcd_rec b.toInt.toNat a.toInt.toNat, Nat.gcd_comm b.toInt.toNat]
theorem own_dec {a b : Int64} {n : Nat} (hb : 0 ≤ b.toInt) (hz : b ≠ 0) (hn : b.toInt.toNat ≤ n + 1) (ha : 0 ≤ a.toInt := by assumption) : (a - (a / b) * b).toInt.toNat ≤ n := by
  have e := own_rem (y := b) ha
  have hb' : b.toInt ≠ 0 := fun z => hz (Int64.toInt_inj.mp (by rw [z]; decide))
  have l1 := Int.emod_lt_of_pos a.toInt (b := b.toInt) (by omega)
  rw [e]; omega
theorem own_end {a b : Int64} {g : Int} (ha : 0 ≤ a.toInt) (hz : (lcmpW b (0 : Int64)) = (0 : Int32)) (hg : (Nat.gcd a.toInt.toNat b.toInt.toNat : Int) = g) : a.toInt = g := by
  rw [lw_eq] at hz
  subst hz
  rw [own_z64] at hg
  have e : Nat.gcd a.toInt.toNat (0 : Int).toNat = a.toInt.toNat := by simp
  rw [e] at hg
  omega
set_option maxRecDepth 65536 in
set_option maxHeartbeats 40000000 in
theorem own_loop {p : Program} {l : Launch} {e : Env} {R : Room} {s : State} {m : MethodId} {args : Array Value} {below : List Frame} {meth : Method} {c : Code} {T : State} {locs : List Loc} {cells slots : Nat} {P : Outcome → State → Prop} (X : Stand p l e R s m args below meth c T locs cells slots) (hx : p.tables.exec = Jvm.exec) (hby : c.code = prog_76_method_7_code) {q1 q2 : Int64} {g : Int}
    (hfin : ∀ (a b : Int64) (l8 l9 : Slot), a.toInt = g → own_Fin p e below P (T.setTop (mkF m 31 #[.val (.long q1), .second, .val (.long q2), .second, .val (.long a), .second, .val (.long b), .second, l8, l9] []))) :
    ∀ (n : Nat) (a b : Int64) (l8 l9 : Slot), b.toInt.toNat ≤ n → (l8 = .unset ∧ l9 = .unset ∨ ∃ r : Int64, l8 = .val (.long r) ∧ l9 = .second) → 0 ≤ a.toInt → 0 ≤ b.toInt → (Nat.gcd a.toInt.toNat b.toInt.toNat : Int) = g → own_Fin p e below P (T.setTop (mkF m 6 #[.val (.long q1), .second, .val (.long q2), .second, .val (.long a), .second, .val (.long b), .second, l8, l9] [])) := by
  intro n
  induction n with
  | zero =>
    intro a b l8 l9 hn hl ha0 hb0 hg
    have hz0 : b = 0 := Int64.toInt_inj.mp (by rw [own_z64]; omega)
    subst hz0
    refine own_on (fun t => XS.lload X.here hx rfl (hb hby d5_6) rfl) ?_
    refine own_on (fun t => XS.lconst X.here hx rfl (hb hby d5_8)) ?_
    refine own_on (fun t => XS.lcmp X.here hx rfl (hb hby d5_9) rfl) ?_
    refine own_on (fun t => XS.ifYes X.here hx rfl (pc0 := 10) (pc' := 31) rfl (hb hby d5_10) rfl ((if0 _ _).trans (teq (by decide : lcmpW (0 : Int64) 0 = 0)).1) (by decide) (by decide)) ?_
    exact hfin _ _ _ _ (own_end ha0 (by decide) hg)
  | succ n ih =>
    intro a b l8 l9 hn hl ha0 hb0 hg
    rcases hl with ⟨rfl, rfl⟩ | ⟨r, rfl, rfl⟩
    · show own_Fin p e below _ (T.setTop (mkF m 6 #[.val (.long q1), .second, .val (.long q2), .second, .val (.long a), .second, .val (.long b), .second, .unset, .unset] []))
      refine own_on (fun t => XS.lload X.here hx rfl (hb hby d5_6) rfl) ?_
      show own_Fin p e below _ (T.setTop (mkF m 8 #[.val (.long q1), .second, .val (.long q2), .second, .val (.long a), .second, .val (.long b), .second, .unset, .unset] [(.long b)]))
      refine own_on (fun t => XS.lconst X.here hx rfl (hb hby d5_8)) ?_
      show own_Fin p e below _ (T.setTop (mkF m 9 #[.val (.long q1), .second, .val (.long q2), .second, .val (.long a), .second, .val (.long b), .second, .unset, .unset] [(.long (0 : Int64)), (.long b)]))
      refine own_on (fun t => XS.lcmp X.here hx rfl (hb hby d5_9) rfl) ?_
      show own_Fin p e below _ (T.setTop (mkF m 10 #[.val (.long q1), .second, .val (.long q2), .second, .val (.long a), .second, .val (.long b), .second, .unset, .unset] [(.int (lcmpW b (0 : Int64)))]))
      by_cases hc35 : (lcmpW b (0 : Int64)) = (0 : Int32)
      · refine own_on (fun t => XS.ifYes X.here hx rfl (pc0 := 10) (pc' := 31) rfl (hb hby d5_10) rfl ((if0 _ _).trans (teq hc35).1) (by decide) (by decide)) ?_
        show own_Fin p e below _ (T.setTop (mkF m 31 #[.val (.long q1), .second, .val (.long q2), .second, .val (.long a), .second, .val (.long b), .second, .unset, .unset] []))
        exact hfin _ _ _ _ (own_end ha0 hc35 hg)
      · refine own_on (fun t => XS.ifNo X.here hx rfl (hb hby d5_10) rfl ((if0 _ _).trans (feq hc35).1)) ?_
        show own_Fin p e below _ (T.setTop (mkF m 13 #[.val (.long q1), .second, .val (.long q2), .second, .val (.long a), .second, .val (.long b), .second, .unset, .unset] []))
        refine own_on (fun t => XS.lload X.here hx rfl (hb hby d5_13) rfl) ?_
        show own_Fin p e below _ (T.setTop (mkF m 15 #[.val (.long q1), .second, .val (.long q2), .second, .val (.long a), .second, .val (.long b), .second, .unset, .unset] [(.long a)]))
        refine own_on (fun t => XS.lload X.here hx rfl (hb hby d5_15) rfl) ?_
        show own_Fin p e below _ (T.setTop (mkF m 17 #[.val (.long q1), .second, .val (.long q2), .second, .val (.long a), .second, .val (.long b), .second, .unset, .unset] [(.long b), (.long a)]))
        refine own_on (fun t => XS.lrem X.here hx rfl (hb hby d5_17) rfl (own_nz hc35)) ?_
        show own_Fin p e below _ (T.setTop (mkF m 18 #[.val (.long q1), .second, .val (.long q2), .second, .val (.long a), .second, .val (.long b), .second, .unset, .unset] [(.long (a - (a / b) * b))]))
        refine own_on (fun t => XS.lstore X.here hx rfl (hb hby d5_18) rfl (l' := #[.val (.long q1), .second, .val (.long q2), .second, .val (.long a), .second, .val (.long b), .second, .val (.long (a - (a / b) * b)), .second]) rfl) ?_
        show own_Fin p e below _ (T.setTop (mkF m 20 #[.val (.long q1), .second, .val (.long q2), .second, .val (.long a), .second, .val (.long b), .second, .val (.long (a - (a / b) * b)), .second] []))
        refine own_on (fun t => XS.lload X.here hx rfl (hb hby d5_20) rfl) ?_
        show own_Fin p e below _ (T.setTop (mkF m 22 #[.val (.long q1), .second, .val (.long q2), .second, .val (.long a), .second, .val (.long b), .second, .val (.long (a - (a / b) * b)), .second] [(.long b)]))
        refine own_on (fun t => XS.lstore X.here hx rfl (hb hby d5_22) rfl (l' := #[.val (.long q1), .second, .val (.long q2), .second, .val (.long b), .second, .val (.long b), .second, .val (.long (a - (a / b) * b)), .second]) rfl) ?_
        show own_Fin p e below _ (T.setTop (mkF m 24 #[.val (.long q1), .second, .val (.long q2), .second, .val (.long b), .second, .val (.long b), .second, .val (.long (a - (a / b) * b)), .second] []))
        refine own_on (fun t => XS.lload X.here hx rfl (hb hby d5_24) rfl) ?_
        show own_Fin p e below _ (T.setTop (mkF m 26 #[.val (.long q1), .second, .val (.long q2), .second, .val (.long b), .second, .val (.long b), .second, .val (.long (a - (a / b) * b)), .second] [(.long (a - (a / b) * b))]))
        refine own_on (fun t => XS.lstore X.here hx rfl (hb hby d5_26) rfl (l' := #[.val (.long q1), .second, .val (.long q2), .second, .val (.long b), .second, .val (.long (a - (a / b) * b)), .second, .val (.long (a - (a / b) * b)), .second]) rfl) ?_
        show own_Fin p e below _ (T.setTop (mkF m 28 #[.val (.long q1), .second, .val (.long q2), .second, .val (.long b), .second, .val (.long (a - (a / b) * b)), .second, .val (.long (a - (a / b) * b)), .second] []))
        refine own_on (fun t => XS.goto X.here hx rfl (pc0 := 28) (pc' := 6) rfl (hb hby d5_28) (by decide) (by decide)) ?_
        show own_Fin p e below _ (T.setTop (mkF m 6 #[.val (.long q1), .second, .val (.long q2), .second, .val (.long b), .second, .val (.long (a - (a / b) * b)), .second, .val (.long (a - (a / b) * b)), .second] []))
        exact ih _ _ _ _ (own_dec hb0 (own_nz hc35) hn) (Or.inr ⟨_, rfl, rfl⟩) (by omega) (own_rb ha0 hb0 (own_nz hc35)).1 ((own_rb ha0 hb0 (own_nz hc35)).2.trans hg)
    · show own_Fin p e below _ (T.setTop (mkF m 6 #[.val (.long q1), .second, .val (.long q2), .second, .val (.long a), .second, .val (.long b), .second, .val (.long r), .second] []))
      refine own_on (fun t => XS.lload X.here hx rfl (hb hby d5_6) rfl) ?_
      show own_Fin p e below _ (T.setTop (mkF m 8 #[.val (.long q1), .second, .val (.long q2), .second, .val (.long a), .second, .val (.long b), .second, .val (.long r), .second] [(.long b)]))
      refine own_on (fun t => XS.lconst X.here hx rfl (hb hby d5_8)) ?_
      show own_Fin p e below _ (T.setTop (mkF m 9 #[.val (.long q1), .second, .val (.long q2), .second, .val (.long a), .second, .val (.long b), .second, .val (.long r), .second] [(.long (0 : Int64)), (.long b)]))
      refine own_on (fun t => XS.lcmp X.here hx rfl (hb hby d5_9) rfl) ?_
      show own_Fin p e below _ (T.setTop (mkF m 10 #[.val (.long q1), .second, .val (.long q2), .second, .val (.long a), .second, .val (.long b), .second, .val (.long r), .second] [(.int (lcmpW b (0 : Int64)))]))
      by_cases hc36 : (lcmpW b (0 : Int64)) = (0 : Int32)
      · refine own_on (fun t => XS.ifYes X.here hx rfl (pc0 := 10) (pc' := 31) rfl (hb hby d5_10) rfl ((if0 _ _).trans (teq hc36).1) (by decide) (by decide)) ?_
        show own_Fin p e below _ (T.setTop (mkF m 31 #[.val (.long q1), .second, .val (.long q2), .second, .val (.long a), .second, .val (.long b), .second, .val (.long r), .second] []))
        exact hfin _ _ _ _ (own_end ha0 hc36 hg)
      · refine own_on (fun t => XS.ifNo X.here hx rfl (hb hby d5_10) rfl ((if0 _ _).trans (feq hc36).1)) ?_
        show own_Fin p e below _ (T.setTop (mkF m 13 #[.val (.long q1), .second, .val (.long q2), .second, .val (.long a), .second, .val (.long b), .second, .val (.long r), .second] []))
        refine own_on (fun t => XS.lload X.here hx rfl (hb hby d5_13) rfl) ?_
        show own_Fin p e below _ (T.setTop (mkF m 15 #[.val (.long q1), .second, .val (.long q2), .second, .val (.long a), .second, .val (.long b), .second, .val (.long r), .second] [(.long a)]))
        refine own_on (fun t => XS.lload X.here hx rfl (hb hby d5_15) rfl) ?_
        show own_Fin p e below _ (T.setTop (mkF m 17 #[.val (.long q1), .second, .val (.long q2), .second, .val (.long a), .second, .val (.long b), .second, .val (.long r), .second] [(.long b), (.long a)]))
        refine own_on (fun t => XS.lrem X.here hx rfl (hb hby d5_17) rfl (own_nz hc36)) ?_
        show own_Fin p e below _ (T.setTop (mkF m 18 #[.val (.long q1), .second, .val (.long q2), .second, .val (.long a), .second, .val (.long b), .second, .val (.long r), .second] [(.long (a - (a / b) * b))]))
        refine own_on (fun t => XS.lstore X.here hx rfl (hb hby d5_18) rfl (l' := #[.val (.long q1), .second, .val (.long q2), .second, .val (.long a), .second, .val (.long b), .second, .val (.long (a - (a / b) * b)), .second]) rfl) ?_
        show own_Fin p e below _ (T.setTop (mkF m 20 #[.val (.long q1), .second, .val (.long q2), .second, .val (.long a), .second, .val (.long b), .second, .val (.long (a - (a / b) * b)), .second] []))
        refine own_on (fun t => XS.lload X.here hx rfl (hb hby d5_20) rfl) ?_
        show own_Fin p e below _ (T.setTop (mkF m 22 #[.val (.long q1), .second, .val (.long q2), .second, .val (.long a), .second, .val (.long b), .second, .val (.long (a - (a / b) * b)), .second] [(.long b)]))
        refine own_on (fun t => XS.lstore X.here hx rfl (hb hby d5_22) rfl (l' := #[.val (.long q1), .second, .val (.long q2), .second, .val (.long b), .second, .val (.long b), .second, .val (.long (a - (a / b) * b)), .second]) rfl) ?_
        show own_Fin p e below _ (T.setTop (mkF m 24 #[.val (.long q1), .second, .val (.long q2), .second, .val (.long b), .second, .val (.long b), .second, .val (.long (a - (a / b) * b)), .second] []))
        refine own_on (fun t => XS.lload X.here hx rfl (hb hby d5_24) rfl) ?_
        show own_Fin p e below _ (T.setTop (mkF m 26 #[.val (.long q1), .second, .val (.long q2), .second, .val (.long b), .second, .val (.long b), .second, .val (.long (a - (a / b) * b)), .second] [(.long (a - (a / b) * b))]))
        refine own_on (fun t => XS.lstore X.here hx rfl (hb hby d5_26) rfl (l' := #[.val (.long q1), .second, .val (.long q2), .second, .val (.long b), .second, .val (.long (a - (a / b) * b)), .second, .val (.long (a - (a / b) * b)), .second]) rfl) ?_
        show own_Fin p e below _ (T.setTop (mkF m 28 #[.val (.long q1), .second, .val (.long q2), .second, .val (.long b), .second, .val (.long (a - (a / b) * b)), .second, .val (.long (a - (a / b) * b)), .second] []))
        refine own_on (fun t => XS.goto X.here hx rfl (pc0 := 28) (pc' := 6) rfl (hb hby d5_28) (by decide) (by decide)) ?_
        show own_Fin p e below _ (T.setTop (mkF m 6 #[.val (.long q1), .second, .val (.long q2), .second, .val (.long b), .second, .val (.long (a - (a / b) * b)), .second, .val (.long (a - (a / b) * b)), .second] []))
        exact ih _ _ _ _ (own_dec hb0 (own_nz hc36) hn) (Or.inr ⟨_, rfl, rfl⟩) (by omega) (own_rb ha0 hb0 (own_nz hc36)).1 ((own_rb ha0 hb0 (own_nz hc36)).2.trans hg)
theorem d5_0 : decode prog_76_method_7_code 0 = .ok (.lload_n 0, 1) := by decide +kernel
theorem d5_1 : decode prog_76_method_7_code 1 = .ok (.lstore 4, 2) := by decide +kernel
theorem d5_3 : decode prog_76_method_7_code 3 = .ok (.lload_n 2, 1) := by decide +kernel
theorem d5_4 : decode prog_76_method_7_code 4 = .ok (.lstore 6, 2) := by decide +kernel
theorem d5_31 : decode prog_76_method_7_code 31 = .ok (.lload 4, 2) := by decide +kernel
theorem d5_33 : decode prog_76_method_7_code 33 = .ok (.lreturn, 1) := by decide +kernel
theorem ef_rm5 (m : MethodId) (x0 : Int64) (x1 : Int64) : entryFrame m #[(.long x0), (.long x1)] 10 = mkF m 0 #[.val (.long x0), .second, .val (.long x1), .second, .unset, .unset, .unset, .unset, .unset, .unset] [] := by first | (simp [entryFrame, mkF, argsToLocals, Value.category]; done) | rfl
def Q5 (Z : State) (q1 : Int64) (q2 : Int64) (h0 : Heap) (n0 : Nat) (v : Option Value) (h : Heap) (L : List Loc) : Prop := ∃ g : Int64, v = some (.long g) ∧ Fr n0 L ∧ h = h0 ∧ g.toInt = (Nat.gcd q1.toInt.toNat q2.toInt.toNat : Int)
set_option maxRecDepth 65536 in
set_option maxHeartbeats 40000000 in
theorem rm5 (l : Launch) (Z : State) (a0 : Array Value) (hw : ∀ d ∈ tables_1, d.before a0 Z = true) (ws : List Jvm.Cond) (q1 : Int64) (q2 : Int64) (h0 : Heap) (n0 : Nat) (Z0 : n0 ≤ h0.size) (h1 : 0 < q1.toInt) (h2 : 0 ≤ q2.toInt) :
    MetFree l (⟨"com/example/confluent_streams/confluentstreams/Window", "greatestCommonDivisor", "(JJ)J"⟩ : MethodName) (head1 (Jvm.Cond.code (⟨"com/example/confluent_streams/confluentstreams/Window", "greatestCommonDivisor", "(JJ)J"⟩ : MethodName) prog_76_method_7_code 10 (some .long) :: ws) ({ frames := 0, cells := 0, slots := 0, locals := 0 } : Room)) (fun as_ U => as_ = #[(.long q1), (.long q2)] ∧ Z.Warmed39 U.vm ∧ U.heap = h0) (fun _ _ _ _ _ => True) (fun _ U out_ U' => ∃ v L, out_ = .returned v ∧ Q5 Z q1 q2 h0 n0 v U'.heap L ∧ FrameEnd U out_ U' L ({ frames := 0, cells := 0, slots := 0, locals := 0 } : Room).cells ({ frames := 0, cells := 0, slots := 0, locals := 0 } : Room).slots) := by
  refine MetFree.of_bodySF (plainFor_of_name pn_1) hisR ?_
  intro p e s m args below meth cd s₁ Bd hml0 hP hK
  obtain ⟨rfl, hZ, hh⟩ := hP
  have hx := Bd.exec
  have hby := Bd.bytes
  have hml : cd.maxLocals = 10 := hml0
  have hlk : meth.locks = false := BodyLoose.notSynchronized Bd
  have hown : s.vm.findClass "com/example/confluent_streams/confluentstreams/Window" = some m.cls := findClass_of_methodNamed Bd.named
  have hnm := (name_of_methodNamed Bd.named Bd.method).1
  have hret := Bd.returns
  have X0 : Stand p l e ({ frames := 0, cells := 0, slots := 0, locals := 0 } : Room) s m #[(.long q1), (.long q2)] below meth cd s₁ [] 0 0 := Stand.of_body Bd
  have e0 : s₁.heap = h0 := by rw [← hh, Bd.state]; rfl
  have N0 := Fr.nil n0
  show own_Fin p e below (own_Ans s (Q5 Z q1 q2 h0 n0) ({ frames := 0, cells := 0, slots := 0, locals := 0 } : Room).cells ({ frames := 0, cells := 0, slots := 0, locals := 0 } : Room).slots) (s₁.setTop (entryFrame m #[(.long q1), (.long q2)] 10))
  refine own_cast (ef_rm5 m q1 q2) ?_
  show own_Fin p e below _ (s₁.setTop (mkF m 0 #[.val (.long q1), .second, .val (.long q2), .second, .unset, .unset, .unset, .unset, .unset, .unset] []))
  refine own_on (fun t => XS.lloadN X0.here hx rfl (hb hby d5_0) rfl) ?_
  show own_Fin p e below _ (s₁.setTop (mkF m 1 #[.val (.long q1), .second, .val (.long q2), .second, .unset, .unset, .unset, .unset, .unset, .unset] [(.long q1)]))
  refine own_on (fun t => XS.lstore X0.here hx rfl (hb hby d5_1) rfl (l' := #[.val (.long q1), .second, .val (.long q2), .second, .val (.long q1), .second, .unset, .unset, .unset, .unset]) rfl) ?_
  show own_Fin p e below _ (s₁.setTop (mkF m 3 #[.val (.long q1), .second, .val (.long q2), .second, .val (.long q1), .second, .unset, .unset, .unset, .unset] []))
  refine own_on (fun t => XS.lloadN X0.here hx rfl (hb hby d5_3) rfl) ?_
  show own_Fin p e below _ (s₁.setTop (mkF m 4 #[.val (.long q1), .second, .val (.long q2), .second, .val (.long q1), .second, .unset, .unset, .unset, .unset] [(.long q2)]))
  refine own_on (fun t => XS.lstore X0.here hx rfl (hb hby d5_4) rfl (l' := #[.val (.long q1), .second, .val (.long q2), .second, .val (.long q1), .second, .val (.long q2), .second, .unset, .unset]) rfl) ?_
  show own_Fin p e below _ (s₁.setTop (mkF m 6 #[.val (.long q1), .second, .val (.long q2), .second, .val (.long q1), .second, .val (.long q2), .second, .unset, .unset] []))
  refine own_loop X0 hx hby (g := (Nat.gcd q1.toInt.toNat q2.toInt.toNat : Int)) (fun a b l8 l9 hg => ?_) q2.toInt.toNat q1 q2 .unset .unset (Nat.le_refl _) (Or.inl ⟨rfl, rfl⟩) (by omega) h2 rfl
  show own_Fin p e below _ (s₁.setTop (mkF m 31 #[.val (.long q1), .second, .val (.long q2), .second, .val (.long a), .second, .val (.long b), .second, l8, l9] []))
  refine own_on (fun t => XS.lload X0.here hx rfl (hb hby d5_31) rfl) ?_
  show own_Fin p e below _ (s₁.setTop (mkF m 33 #[.val (.long q1), .second, .val (.long q2), .second, .val (.long a), .second, .val (.long b), .second, l8, l9] [(.long a)]))
  exact own_ret (t := .long) X0 hx hlk hret rfl (Or.inr (Or.inl ⟨rfl, rfl, _, rfl⟩)) (hb hby d5_33) (⟨a, rfl, N0, e0, hg⟩) (by decide) (by decide)
theorem d4_0 : decode prog_76_method_6_code 0 = .ok (.aload_n 0, 1) := by decide +kernel
theorem d4_1 : decode prog_76_method_6_code 1 = .ok (.getfield 13, 3) := by decide +kernel
theorem d4_4 : decode prog_76_method_6_code 4 = .ok (.aload_n 0, 1) := by decide +kernel
theorem d4_5 : decode prog_76_method_6_code 5 = .ok (.getfield 17, 3) := by decide +kernel
theorem d4_8 : decode prog_76_method_6_code 8 = .ok (.invokestatic 34, 3) := by decide +kernel
theorem pd_1 : parseMethodDescriptor "(JJ)J" = some ⟨[.long, .long], some .long⟩ := by decide +kernel
theorem d4_11 : decode prog_76_method_6_code 11 = .ok (.lreturn, 1) := by decide +kernel
theorem ef_rm4 (m : MethodId) (x0 : Addr) : entryFrame m #[(.ref x0)] 1 = mkF m 0 #[.val (.ref x0)] [] := by first | (simp [entryFrame, mkF, argsToLocals, Value.category]; done) | rfl
def Q4 (Z : State) (a : Addr) (q1 : Int64) (q2 : Int64) (h0 : Heap) (n0 : Nat) (v : Option Value) (h : Heap) (L : List Loc) : Prop := ∃ g : Int64, v = some (.long g) ∧ Fr n0 L ∧ h = h0 ∧ g.toInt = (Nat.gcd q1.toInt.toNat q2.toInt.toNat : Int)
set_option maxRecDepth 65536 in
set_option maxHeartbeats 40000000 in
theorem rm4 (l : Launch) (Z : State) (a0 : Array Value) (hw : ∀ d ∈ tables_1, d.before a0 Z = true) (ws : List Jvm.Cond) (a : Addr) (q1 : Int64) (q2 : Int64) (h0 : Heap) (n0 : Nat) (Z0 : n0 ≤ h0.size) (F1 : Fld Z h0 a "com/example/confluent_streams/confluentstreams/Window" "size" "J" (.long q1)) (F2 : Fld Z h0 a "com/example/confluent_streams/confluentstreams/Window" "step" "J" (.long q2)) (h1 : 0 < q1.toInt) (h2 : 0 ≤ q2.toInt) :
    MetFree l (⟨"com/example/confluent_streams/confluentstreams/Window", "paneSize", "()J"⟩ : MethodName) (head1 (Jvm.Cond.code (⟨"com/example/confluent_streams/confluentstreams/Window", "paneSize", "()J"⟩ : MethodName) prog_76_method_6_code 1 (some .long) :: ws) ({ frames := 1, cells := 0, slots := 0, locals := 21 } : Room)) (fun as_ U => as_ = #[(.ref a)] ∧ Z.Warmed39 U.vm ∧ U.heap = h0) (fun _ _ _ _ _ => True) (fun _ U out_ U' => ∃ v L, out_ = .returned v ∧ Q4 Z a q1 q2 h0 n0 v U'.heap L ∧ FrameEnd U out_ U' L ({ frames := 1, cells := 0, slots := 0, locals := 21 } : Room).cells ({ frames := 1, cells := 0, slots := 0, locals := 21 } : Room).slots) := by
  refine MetFree.of_bodySF (plainFor_of_name pn_1) hisR ?_
  intro p e s m args below meth cd s₁ Bd hml0 hP hK
  obtain ⟨rfl, hZ, hh⟩ := hP
  have hx := Bd.exec
  have hby := Bd.bytes
  have hml : cd.maxLocals = 1 := hml0
  have hlk : meth.locks = false := BodyLoose.notSynchronized Bd
  have hown : s.vm.findClass "com/example/confluent_streams/confluentstreams/Window" = some m.cls := findClass_of_methodNamed Bd.named
  have hnm := (name_of_methodNamed Bd.named Bd.method).1
  have hret := Bd.returns
  have X0 : Stand p l e ({ frames := 1, cells := 0, slots := 0, locals := 21 } : Room) s m #[(.ref a)] below meth cd s₁ [] 0 0 := Stand.of_body Bd
  have e0 : s₁.heap = h0 := by rw [← hh, Bd.state]; rfl
  have N0 := Fr.nil n0
  show own_Fin p e below (own_Ans s (Q4 Z a q1 q2 h0 n0) ({ frames := 1, cells := 0, slots := 0, locals := 21 } : Room).cells ({ frames := 1, cells := 0, slots := 0, locals := 21 } : Room).slots) (s₁.setTop (entryFrame m #[(.ref a)] 1))
  refine own_cast (ef_rm4 m a) ?_
  show own_Fin p e below _ (s₁.setTop (mkF m 0 #[.val (.ref a)] []))
  refine own_on (fun t => XS.aloadN X0.here hx rfl (hb hby d4_0) rfl rfl) ?_
  show own_Fin p e below _ (s₁.setTop (mkF m 1 #[.val (.ref a)] [(.ref a)]))
  obtain ⟨T37, X37, e37, st37⟩ := getF X0 hx hZ hown (host := "") (Or.inl (hw _ (List.mem_of_getElem? (i := 29) rfl))) Via.refl e0 F1 (g := (mkF m 1 #[.val (.ref a)] [(.ref a)])) rfl rfl (hb hby d4_1)
  refine own_on st37 ?_
  show own_Fin p e below _ (T37.setTop (mkF m 4 #[.val (.ref a)] [(.long q1)]))
  refine own_on (fun t => XS.aloadN X37.here hx rfl (hb hby d4_4) rfl rfl) ?_
  show own_Fin p e below _ (T37.setTop (mkF m 5 #[.val (.ref a)] [(.ref a), (.long q1)]))
  obtain ⟨T38, X38, e38, st38⟩ := getF X37 hx hZ hown (host := "") (Or.inl (hw _ (List.mem_of_getElem? (i := 31) rfl))) Via.refl e37 F2 (g := (mkF m 5 #[.val (.ref a)] [(.ref a), (.long q1)])) rfl rfl (hb hby d4_5)
  refine own_on st38 ?_
  show own_Fin p e below _ (T38.setTop (mkF m 8 #[.val (.ref a)] [(.long q2), (.long q1)]))
  obtain ⟨_, _, ⟨T39, L39, k39, n39⟩, -, X39, ⟨Lc39, hQ39, l39, y39, z39⟩, st39⟩ := Jvm.LawKit.callS X38 hx (y := (⟨"com/example/confluent_streams/confluentstreams/Window", "greatestCommonDivisor", "(JJ)J"⟩ : MethodName)) hown (mvT hZ (hw _ (List.mem_of_getElem? (i := 40) rfl))) (mvT hZ (hw _ (List.mem_of_getElem? (i := 41) rfl))) (mvT hZ (hw _ (List.mem_of_getElem? (i := 4) rfl))) (mvT hZ (hw _ (List.mem_of_getElem? (i := 42) rfl))) (by decide) (backOf (W := 0) (rm5 l Z a0 hw [] q1 q2 h0 n0 (by exact Z0) h1 h2) hZ (hw _ (List.mem_of_getElem? (i := 42) rfl)) (hw _ (List.mem_of_getElem? (i := 4) rfl)) (by decide) (by decide)) (g := (mkF m 8 #[.val (.ref a)] [(.long q2), (.long q1)])) rfl (by rw [hml]; rfl) (argsL := [(.long q1), (.long q2)]) (rest := []) (lenOf pd_1 rfl) rfl (by show 2 * 0 + _ ≤ _; exact Nat.le_of_eq rfl) (hb hby d4_8) (fun _ _ => ⟨rfl, e38, (by decide : 0 + 0 ≤ _), (by decide : 0 + 0 ≤ _)⟩)
  dsimp only [Pt.U, Pt.locs, Pt.cells, Pt.slots] at X39 l39 y39 z39 st39 hQ39
  subst l39 y39 z39
  obtain ⟨g39, rfl, N39q, e39, hg39⟩ := hQ39
  have N39 := Fr.app N0 N39q
  refine own_on st39 ?_
  show own_Fin p e below _ (T39.setTop (mkF m 11 #[.val (.ref a)] [(.long g39)]))
  exact own_ret (t := .long) X39 hx hlk hret rfl (Or.inr (Or.inl ⟨rfl, rfl, _, rfl⟩)) (hb hby d4_11) (⟨g39, rfl, N39, e39, hg39⟩) (by decide) (by decide)
theorem d6_0 : decode jdk_29_method_66_code 0 = .ok (.lload_n 0, 1) := by decide +kernel
theorem d6_1 : decode jdk_29_method_66_code 1 = .ok (.lload_n 2, 1) := by decide +kernel
theorem d6_2 : decode jdk_29_method_66_code 2 = .ok (.lcmp, 1) := by decide +kernel
theorem d6_3 : decode jdk_29_method_66_code 3 = .ok (.ifCond .lt 7, 3) := by decide +kernel
theorem d6_10 : decode jdk_29_method_66_code 10 = .ok (.lload_n 2, 1) := by decide +kernel
theorem d6_11 : decode jdk_29_method_66_code 11 = .ok (.lreturn, 1) := by decide +kernel
theorem d6_6 : decode jdk_29_method_66_code 6 = .ok (.lload_n 0, 1) := by decide +kernel
theorem d6_7 : decode jdk_29_method_66_code 7 = .ok (.goto 4, 3) := by decide +kernel
theorem ef_rm6 (m : MethodId) (x0 : Int64) (x1 : Int64) : entryFrame m #[(.long x0), (.long x1)] 4 = mkF m 0 #[.val (.long x0), .second, .val (.long x1), .second] [] := by first | (simp [entryFrame, mkF, argsToLocals, Value.category]; done) | rfl
def Q6 (Z : State) (a : Int64) (b : Int64) (r : Int64) (h0 : Heap) (n0 : Nat) (v : Option Value) (h : Heap) (L : List Loc) : Prop := v = some (.long r) ∧ Fr n0 L ∧ h = h0
set_option maxRecDepth 65536 in
set_option maxHeartbeats 40000000 in
theorem rm6 (l : Launch) (Z : State) (a0 : Array Value) (hw : ∀ d ∈ tables_1, d.before a0 Z = true) (ws : List Jvm.Cond) (a : Int64) (b : Int64) (r : Int64) (h0 : Heap) (n0 : Nat) (Z0 : n0 ≤ h0.size) (hr : r = if (lcmpW a b) < (0 : Int32) then b else a) :
    MetFree l (⟨"java/lang/Math", "max", "(JJ)J"⟩ : MethodName) (head1 (Jvm.Cond.code (⟨"java/lang/Math", "max", "(JJ)J"⟩ : MethodName) jdk_29_method_66_code 4 (some .long) :: ws) ({ frames := 0, cells := 0, slots := 0, locals := 0 } : Room)) (fun as_ U => as_ = #[(.long a), (.long b)] ∧ Z.Warmed39 U.vm ∧ U.heap = h0) (fun _ _ _ _ _ => True) (fun _ U out_ U' => ∃ v L, out_ = .returned v ∧ Q6 Z a b r h0 n0 v U'.heap L ∧ FrameEnd U out_ U' L ({ frames := 0, cells := 0, slots := 0, locals := 0 } : Room).cells ({ frames := 0, cells := 0, slots := 0, locals := 0 } : Room).slots) := by
  refine MetFree.of_bodySF (Jvm.Free.JP.mathPlain rfl (by decide +kernel)) hisR ?_
  intro p e s m args below meth cd s₁ Bd hml0 hP hK
  obtain ⟨rfl, hZ, hh⟩ := hP
  have hx := Bd.exec
  have hby := Bd.bytes
  have hml : cd.maxLocals = 4 := hml0
  have hlk : meth.locks = false := BodyLoose.notSynchronized Bd
  have hown : s.vm.findClass "java/lang/Math" = some m.cls := findClass_of_methodNamed Bd.named
  have hnm := (name_of_methodNamed Bd.named Bd.method).1
  have hret := Bd.returns
  have X0 : Stand p l e ({ frames := 0, cells := 0, slots := 0, locals := 0 } : Room) s m #[(.long a), (.long b)] below meth cd s₁ [] 0 0 := Stand.of_body Bd
  have e0 : s₁.heap = h0 := by rw [← hh, Bd.state]; rfl
  have N0 := Fr.nil n0
  show own_Fin p e below (own_Ans s (Q6 Z a b r h0 n0) ({ frames := 0, cells := 0, slots := 0, locals := 0 } : Room).cells ({ frames := 0, cells := 0, slots := 0, locals := 0 } : Room).slots) (s₁.setTop (entryFrame m #[(.long a), (.long b)] 4))
  refine own_cast (ef_rm6 m a b) ?_
  show own_Fin p e below _ (s₁.setTop (mkF m 0 #[.val (.long a), .second, .val (.long b), .second] []))
  refine own_on (fun t => XS.lloadN X0.here hx rfl (hb hby d6_0) rfl) ?_
  show own_Fin p e below _ (s₁.setTop (mkF m 1 #[.val (.long a), .second, .val (.long b), .second] [(.long a)]))
  refine own_on (fun t => XS.lloadN X0.here hx rfl (hb hby d6_1) rfl) ?_
  show own_Fin p e below _ (s₁.setTop (mkF m 2 #[.val (.long a), .second, .val (.long b), .second] [(.long b), (.long a)]))
  refine own_on (fun t => XS.lcmp X0.here hx rfl (hb hby d6_2) rfl) ?_
  show own_Fin p e below _ (s₁.setTop (mkF m 3 #[.val (.long a), .second, .val (.long b), .second] [(.int (lcmpW a b))]))
  by_cases hc40 : (lcmpW a b) < (0 : Int32)
  · refine own_on (fun t => XS.ifYes X0.here hx rfl (pc0 := 3) (pc' := 10) rfl (hb hby d6_3) rfl ((if0 _ _).trans (tlt hc40).1) (by decide) (by decide)) ?_
    show own_Fin p e below _ (s₁.setTop (mkF m 10 #[.val (.long a), .second, .val (.long b), .second] []))
    refine own_on (fun t => XS.lloadN X0.here hx rfl (hb hby d6_10) rfl) ?_
    show own_Fin p e below _ (s₁.setTop (mkF m 11 #[.val (.long a), .second, .val (.long b), .second] [(.long b)]))
    exact own_ret (t := .long) X0 hx hlk hret rfl (Or.inr (Or.inl ⟨rfl, rfl, _, rfl⟩)) (hb hby d6_11) (⟨by rw [hr]; simp [hc40], N0, e0⟩) (by decide) (by decide)
  · refine own_on (fun t => XS.ifNo X0.here hx rfl (hb hby d6_3) rfl ((if0 _ _).trans (flt hc40).1)) ?_
    show own_Fin p e below _ (s₁.setTop (mkF m 6 #[.val (.long a), .second, .val (.long b), .second] []))
    refine own_on (fun t => XS.lloadN X0.here hx rfl (hb hby d6_6) rfl) ?_
    show own_Fin p e below _ (s₁.setTop (mkF m 7 #[.val (.long a), .second, .val (.long b), .second] [(.long a)]))
    refine own_on (fun t => XS.goto X0.here hx rfl (pc0 := 7) (pc' := 11) rfl (hb hby d6_7) (by decide) (by decide)) ?_
    show own_Fin p e below _ (s₁.setTop (mkF m 11 #[.val (.long a), .second, .val (.long b), .second] [(.long a)]))
    exact own_ret (t := .long) X0 hx hlk hret rfl (Or.inr (Or.inl ⟨rfl, rfl, _, rfl⟩)) (hb hby d6_11) (⟨by rw [hr]; simp [hc40], N0, e0⟩) (by decide) (by decide)
theorem own_gcdv {a b g : Int64} (ha : 0 < a.toInt) (hb : 0 < b.toInt) (hg : g.toInt = (Nat.gcd a.toInt.toNat b.toInt.toNat : Int)) : 0 < g.toInt ∧ g.toInt ∣ a.toInt ∧ g.toInt ∣ b.toInt ∧ ∀ d : Int, 0 < d → d ∣ a.toInt → d ∣ b.toInt → d ∣ g.toInt := by
  have ea : (a.toInt.toNat : Int) = a.toInt := Int.toNat_of_nonneg (by omega)
  have eb : (b.toInt.toNat : Int) = b.toInt := Int.toNat_of_nonneg (by omega)
  have p : 0 < Nat.gcd a.toInt.toNat b.toInt.toNat := Nat.gcd_pos_of_pos_left _ (by omega)
  refine ⟨by omega, ?_, ?_, fun d hd h1 h2 => ?_⟩
  · rw [hg, ← ea]; exact Int.ofNat_dvd.mpr (by simpa using Nat.gcd_dvd_left a.toInt.toNat b.toInt.toNat)
  · rw [hg, ← eb]; exact Int.ofNat_dvd.mpr (by simpa using Nat.gcd_dvd_right a.toInt.toNat b.toInt.toNat)
  · obtain ⟨n, rfl⟩ := Int.eq_ofNat_of_zero_le (Int.le_of_lt hd)
    rw [hg]
    rw [← ea] at h1
    rw [← eb] at h2
    exact Int.ofNat_dvd.mpr (Nat.dvd_gcd (Int.ofNat_dvd.mp h1) (Int.ofNat_dvd.mp h2))
theorem own_ne0 {x : Int64} (h : 0 < x.toInt) : x ≠ 0 := fun z => by rw [z, own_z64] at h; omega
theorem pn_2 : plainName "com/example/confluent_streams/confluentstreams/WindowPaneSizePinLaw" = true := by first | (simp [plainName, overriddenIn]; done) | decide +kernel
theorem pd_2 : parseMethodDescriptor "(Lcom/example/confluent_streams/confluentstreams/Window$Kind;JJLjava/lang/String;)V" = some ⟨[(.object "com/example/confluent_streams/confluentstreams/Window$Kind"), .long, .long, (.object "java/lang/String")], none⟩ := by decide +kernel
theorem pd_3 : parseMethodDescriptor "()J" = some ⟨[], some .long⟩ := by decide +kernel
theorem ef_rm0 (m : MethodId) (x0 : Int64) (x1 : Int64) (x2 : Int32) (x3 : Int32) : entryFrame m #[(.long x0), (.long x1), (.int x2), (.int x3)] maxLocals = mkF m 0 #[.val (.long x0), .second, .val (.long x1), .second, .val (.int x2), .val (.int x3), .unset, .unset, .unset, .unset, .unset, .unset, .unset, .unset, .unset, .unset] [] := by first | (simp [entryFrame, mkF, argsToLocals, Value.category, maxLocals]; done) | rfl
def Q0 (Z : State) (q1 : Int64) (q2 : Int64) (p3 : Int32) (p4 : Int32) (kR : Addr) (kW : Addr) (h0 : Heap) (n0 : Nat) (v : Option Value) (h : Heap) (L : List Loc) : Prop := v = some (.int 1) ∧ Fr n0 L
set_option maxRecDepth 65536 in
set_option maxHeartbeats 40000000 in
theorem rm0 (l : Launch) (Z : State) (a0 : Array Value) (hw : ∀ d ∈ tables_1, d.before a0 Z = true) (ws : List Jvm.Cond) (q1 : Int64) (q2 : Int64) (p3 : Int32) (p4 : Int32) (kR : Addr) (kW : Addr) (h0 : Heap) (n0 : Nat) (Z0 : n0 ≤ h0.size) (hEL : EW Z a0 own_EL) (O : Old Z n0 h0) (SR : Sta Z Z.heap "com/example/confluent_streams/confluentstreams/Window$Kind" "RANGE" "Lcom/example/confluent_streams/confluentstreams/Window$Kind;" (.ref kR)) (SW : Sta Z Z.heap "com/example/confluent_streams/confluentstreams/Window$Kind" "ROWS" "Lcom/example/confluent_streams/confluentstreams/Window$Kind;" (.ref kW)) :
    MetFree l x (head1 (Jvm.Cond.code x code maxLocals ret :: ws) room_1) (fun as_ U => as_ = #[(.long q1), (.long q2), (.int p3), (.int p4)] ∧ Z.Warmed39 U.vm ∧ U.heap = h0 ∧ CHv Z own_EL U.vm h0) (fun _ _ _ _ _ => True) (fun _ U out_ U' => ∃ v L, out_ = .returned v ∧ Q0 Z q1 q2 p3 p4 kR kW h0 n0 v U'.heap L ∧ CHr Z own_EL U.vm U.heap U'.vm U'.heap ∧ ReturnedEndW U out_ U' L room_1.cells room_1.slots) := by
  refine MetFree.of_bodySF (plainFor_of_name pn_2) hisR ?_
  intro p e s m args below meth cd s₁ Bd hml0 hP hK
  obtain ⟨rfl, hZ, hh, CH0⟩ := hP
  have hx := Bd.exec
  have hby := Bd.bytes
  have hml : cd.maxLocals = 16 := hml0
  have hlk : meth.locks = false := BodyLoose.notSynchronized Bd
  have hown : s.vm.findClass "com/example/confluent_streams/confluentstreams/WindowPaneSizePinLaw" = some m.cls := findClass_of_methodNamed Bd.named
  have hnm := (name_of_methodNamed Bd.named Bd.method).1
  have hret := Bd.returns
  have X0 : Stand p l e room_1 (s.setVm s.vm) m #[(.long q1), (.long q2), (.int p3), (.int p4)] below meth cd s₁ [] 0 0 := Stand.of_body Bd
  have e0 : s₁.heap = h0 := by rw [← hh, Bd.state]; rfl
  have N0 := Fr.nil n0
  have hS0 : s.Since s.vm 0 := (State.WarmedH.refl s).since 0
  have wS := own_wS hw
  show own_Fin p e below (own_AnsW s Z own_EL (Q0 Z q1 q2 p3 p4 kR kW h0 n0) room_1.cells room_1.slots) (s₁.setTop (entryFrame m #[(.long q1), (.long q2), (.int p3), (.int p4)] maxLocals))
  refine own_cast (ef_rm0 m q1 q2 p3 p4) ?_
  show own_Fin p e below _ (s₁.setTop (mkF m 0 #[.val (.long q1), .second, .val (.long q2), .second, .val (.int p3), .val (.int p4), .unset, .unset, .unset, .unset, .unset, .unset, .unset, .unset, .unset, .unset] []))
  refine own_on (fun t => XS.iload X0.here hx rfl (hb hby at_0) rfl) ?_
  show own_Fin p e below _ (s₁.setTop (mkF m 2 #[.val (.long q1), .second, .val (.long q2), .second, .val (.int p3), .val (.int p4), .unset, .unset, .unset, .unset, .unset, .unset, .unset, .unset, .unset, .unset] [(.int p3)]))
  refine own_on (fun t => X0.ldcInt hx hown (mvT hZ (hw _ (List.mem_of_getElem? (i := 0) rfl))) (g := (mkF m 2 #[.val (.long q1), .second, .val (.long q2), .second, .val (.int p3), .val (.int p4), .unset, .unset, .unset, .unset, .unset, .unset, .unset, .unset, .unset, .unset] [(.int p3)])) rfl (hb hby at_2) t) ?_
  show own_Fin p e below _ (s₁.setTop (mkF m 4 #[.val (.long q1), .second, .val (.long q2), .second, .val (.int p3), .val (.int p4), .unset, .unset, .unset, .unset, .unset, .unset, .unset, .unset, .unset, .unset] [(.int (2147483647 : Int32)), (.int p3)]))
  refine own_on (fun t => XS.iand X0.here hx rfl (hb hby at_4) rfl) ?_
  show own_Fin p e below _ (s₁.setTop (mkF m 5 #[.val (.long q1), .second, .val (.long q2), .second, .val (.int p3), .val (.int p4), .unset, .unset, .unset, .unset, .unset, .unset, .unset, .unset, .unset, .unset] [(.int (p3 &&& (2147483647 : Int32)))]))
  refine own_on (fun t => XS.i2l X0.here hx rfl (hb hby at_5) rfl) ?_
  show own_Fin p e below _ (s₁.setTop (mkF m 6 #[.val (.long q1), .second, .val (.long q2), .second, .val (.int p3), .val (.int p4), .unset, .unset, .unset, .unset, .unset, .unset, .unset, .unset, .unset, .unset] [(.long ((p3 &&& (2147483647 : Int32)).toInt64))]))
  refine own_on (fun t => XS.lconst X0.here hx rfl (hb hby at_6)) ?_
  show own_Fin p e below _ (s₁.setTop (mkF m 7 #[.val (.long q1), .second, .val (.long q2), .second, .val (.int p3), .val (.int p4), .unset, .unset, .unset, .unset, .unset, .unset, .unset, .unset, .unset, .unset] [(.long (1 : Int64)), (.long ((p3 &&& (2147483647 : Int32)).toInt64))]))
  refine own_on (fun t => XS.ladd X0.here hx rfl (hb hby at_7) rfl) ?_
  show own_Fin p e below _ (s₁.setTop (mkF m 8 #[.val (.long q1), .second, .val (.long q2), .second, .val (.int p3), .val (.int p4), .unset, .unset, .unset, .unset, .unset, .unset, .unset, .unset, .unset, .unset] [(.long (((p3 &&& (2147483647 : Int32)).toInt64) + (1 : Int64)))]))
  obtain ⟨d41, hd41⟩ : ∃ z : Int64, z = (((p3 &&& (2147483647 : Int32)).toInt64) + (1 : Int64)) := ⟨_, rfl⟩
  rw [← hd41]
  have pd41 := own_d hd41
  show own_Fin p e below _ (s₁.setTop (mkF m 8 #[.val (.long q1), .second, .val (.long q2), .second, .val (.int p3), .val (.int p4), .unset, .unset, .unset, .unset, .unset, .unset, .unset, .unset, .unset, .unset] [(.long d41)]))
  refine own_on (fun t => XS.lstore X0.here hx rfl (hb hby at_8) rfl (l' := #[.val (.long q1), .second, .val (.long q2), .second, .val (.int p3), .val (.int p4), .val (.long d41), .second, .unset, .unset, .unset, .unset, .unset, .unset, .unset, .unset]) rfl) ?_
  show own_Fin p e below _ (s₁.setTop (mkF m 10 #[.val (.long q1), .second, .val (.long q2), .second, .val (.int p3), .val (.int p4), .val (.long d41), .second, .unset, .unset, .unset, .unset, .unset, .unset, .unset, .unset] []))
  refine own_on (fun t => XS.iload X0.here hx rfl (hb hby at_10) rfl) ?_
  show own_Fin p e below _ (s₁.setTop (mkF m 12 #[.val (.long q1), .second, .val (.long q2), .second, .val (.int p3), .val (.int p4), .val (.long d41), .second, .unset, .unset, .unset, .unset, .unset, .unset, .unset, .unset] [(.int p4)]))
  refine own_on (fun t => XS.iconst X0.here hx rfl (hb hby at_12)) ?_
  show own_Fin p e below _ (s₁.setTop (mkF m 13 #[.val (.long q1), .second, .val (.long q2), .second, .val (.int p3), .val (.int p4), .val (.long d41), .second, .unset, .unset, .unset, .unset, .unset, .unset, .unset, .unset] [(.int (1 : Int32)), (.int p4)]))
  refine own_on (fun t => XS.iand X0.here hx rfl (hb hby at_13) rfl) ?_
  show own_Fin p e below _ (s₁.setTop (mkF m 14 #[.val (.long q1), .second, .val (.long q2), .second, .val (.int p3), .val (.int p4), .val (.long d41), .second, .unset, .unset, .unset, .unset, .unset, .unset, .unset, .unset] [(.int (p4 &&& (1 : Int32)))]))
  by_cases hc42 : (p4 &&& (1 : Int32)) = (0 : Int32)
  · refine own_on (fun t => XS.ifYes X0.here hx rfl (pc0 := 14) (pc' := 44) rfl (hb hby at_14) rfl ((if0 _ _).trans (teq hc42).1) (by decide) (by decide)) ?_
    show own_Fin p e below _ (s₁.setTop (mkF m 44 #[.val (.long q1), .second, .val (.long q2), .second, .val (.int p3), .val (.int p4), .val (.long d41), .second, .unset, .unset, .unset, .unset, .unset, .unset, .unset, .unset] []))
    refine own_on (fun t => XS.lconst X0.here hx rfl (hb hby at_44)) ?_
    show own_Fin p e below _ (s₁.setTop (mkF m 45 #[.val (.long q1), .second, .val (.long q2), .second, .val (.int p3), .val (.int p4), .val (.long d41), .second, .unset, .unset, .unset, .unset, .unset, .unset, .unset, .unset] [(.long (1 : Int64))]))
    refine own_on (fun t => XS.lloadN X0.here hx rfl (hb hby at_45) rfl) ?_
    show own_Fin p e below _ (s₁.setTop (mkF m 46 #[.val (.long q1), .second, .val (.long q2), .second, .val (.int p3), .val (.int p4), .val (.long d41), .second, .unset, .unset, .unset, .unset, .unset, .unset, .unset, .unset] [(.long q1), (.long (1 : Int64))]))
    refine own_on (fun t => X0.ldc2Long hx hown (mvT hZ (hw _ (List.mem_of_getElem? (i := 43) rfl))) (g := (mkF m 46 #[.val (.long q1), .second, .val (.long q2), .second, .val (.int p3), .val (.int p4), .val (.long d41), .second, .unset, .unset, .unset, .unset, .unset, .unset, .unset, .unset] [(.long q1), (.long (1 : Int64))])) rfl (hb hby at_46) t) ?_
    show own_Fin p e below _ (s₁.setTop (mkF m 49 #[.val (.long q1), .second, .val (.long q2), .second, .val (.int p3), .val (.int p4), .val (.long d41), .second, .unset, .unset, .unset, .unset, .unset, .unset, .unset, .unset] [(.long (9223372036854775807 : Int64)), (.long q1), (.long (1 : Int64))]))
    refine own_on (fun t => XS.land X0.here hx rfl (hb hby at_49) rfl) ?_
    show own_Fin p e below _ (s₁.setTop (mkF m 50 #[.val (.long q1), .second, .val (.long q2), .second, .val (.int p3), .val (.int p4), .val (.long d41), .second, .unset, .unset, .unset, .unset, .unset, .unset, .unset, .unset] [(.long (q1 &&& (9223372036854775807 : Int64))), (.long (1 : Int64))]))
    obtain ⟨mx44, hmx44⟩ : ∃ z : Int64, z = if (lcmpW (1 : Int64) (q1 &&& (9223372036854775807 : Int64))) < (0 : Int32) then (q1 &&& (9223372036854775807 : Int64)) else (1 : Int64) := ⟨_, rfl⟩
    have pmx44 : 0 < mx44.toInt := own_mx rfl hmx44
    obtain ⟨_, _, ⟨T43, L43, k43, n43⟩, -, X43, ⟨Lc43, hQ43, l43, y43, z43⟩, st43⟩ := Jvm.LawKit.callS X0 hx (y := (⟨"java/lang/Math", "max", "(JJ)J"⟩ : MethodName)) hown (mvT hZ (hw _ (List.mem_of_getElem? (i := 44) rfl))) (mvT hZ (hw _ (List.mem_of_getElem? (i := 45) rfl))) (mvT hZ (hw _ (List.mem_of_getElem? (i := 46) rfl))) (mvT hZ (hw _ (List.mem_of_getElem? (i := 47) rfl))) (by decide) (backOf (W := 0) (rm6 l Z a0 hw [] (1 : Int64) (q1 &&& (9223372036854775807 : Int64)) mx44 h0 n0 (by exact Z0) hmx44) hZ (hw _ (List.mem_of_getElem? (i := 47) rfl)) (hw _ (List.mem_of_getElem? (i := 46) rfl)) (by decide) (by decide)) (g := (mkF m 50 #[.val (.long q1), .second, .val (.long q2), .second, .val (.int p3), .val (.int p4), .val (.long d41), .second, .unset, .unset, .unset, .unset, .unset, .unset, .unset, .unset] [(.long (q1 &&& (9223372036854775807 : Int64))), (.long (1 : Int64))])) rfl (by rw [hml]; rfl) (argsL := [(.long (1 : Int64)), (.long (q1 &&& (9223372036854775807 : Int64)))]) (rest := []) (lenOf pd_1 rfl) rfl (by show 2 * 0 + _ ≤ _; exact Nat.le_of_eq rfl) (hb hby at_50) (fun _ _ => ⟨rfl, e0, (by decide : 0 + 0 ≤ _), (by decide : 0 + 0 ≤ _)⟩)
    dsimp only [Pt.U, Pt.locs, Pt.cells, Pt.slots] at X43 l43 y43 z43 st43 hQ43
    subst l43 y43 z43
    obtain ⟨rfl, N43q, e43⟩ := hQ43
    have N43 := Fr.app N0 N43q
    refine own_on st43 ?_
    show own_Fin p e below _ (T43.setTop (mkF m 53 #[.val (.long q1), .second, .val (.long q2), .second, .val (.int p3), .val (.int p4), .val (.long d41), .second, .unset, .unset, .unset, .unset, .unset, .unset, .unset, .unset] [(.long mx44)]))
    refine own_on (fun t => XS.lstore X43.here hx rfl (hb hby at_53) rfl (l' := #[.val (.long q1), .second, .val (.long q2), .second, .val (.int p3), .val (.int p4), .val (.long d41), .second, .val (.long mx44), .second, .unset, .unset, .unset, .unset, .unset, .unset]) rfl) ?_
    show own_Fin p e below _ (T43.setTop (mkF m 55 #[.val (.long q1), .second, .val (.long q2), .second, .val (.int p3), .val (.int p4), .val (.long d41), .second, .val (.long mx44), .second, .unset, .unset, .unset, .unset, .unset, .unset] []))
    refine own_on (fun t => XS.lconst X43.here hx rfl (hb hby at_55)) ?_
    show own_Fin p e below _ (T43.setTop (mkF m 56 #[.val (.long q1), .second, .val (.long q2), .second, .val (.int p3), .val (.int p4), .val (.long d41), .second, .val (.long mx44), .second, .unset, .unset, .unset, .unset, .unset, .unset] [(.long (1 : Int64))]))
    refine own_on (fun t => XS.lloadN X43.here hx rfl (hb hby at_56) rfl) ?_
    show own_Fin p e below _ (T43.setTop (mkF m 57 #[.val (.long q1), .second, .val (.long q2), .second, .val (.int p3), .val (.int p4), .val (.long d41), .second, .val (.long mx44), .second, .unset, .unset, .unset, .unset, .unset, .unset] [(.long q2), (.long (1 : Int64))]))
    refine own_on (fun t => X43.ldc2Long hx hown (mvT hZ (hw _ (List.mem_of_getElem? (i := 43) rfl))) (g := (mkF m 57 #[.val (.long q1), .second, .val (.long q2), .second, .val (.int p3), .val (.int p4), .val (.long d41), .second, .val (.long mx44), .second, .unset, .unset, .unset, .unset, .unset, .unset] [(.long q2), (.long (1 : Int64))])) rfl (hb hby at_57) t) ?_
    show own_Fin p e below _ (T43.setTop (mkF m 60 #[.val (.long q1), .second, .val (.long q2), .second, .val (.int p3), .val (.int p4), .val (.long d41), .second, .val (.long mx44), .second, .unset, .unset, .unset, .unset, .unset, .unset] [(.long (9223372036854775807 : Int64)), (.long q2), (.long (1 : Int64))]))
    refine own_on (fun t => XS.land X43.here hx rfl (hb hby at_60) rfl) ?_
    show own_Fin p e below _ (T43.setTop (mkF m 61 #[.val (.long q1), .second, .val (.long q2), .second, .val (.int p3), .val (.int p4), .val (.long d41), .second, .val (.long mx44), .second, .unset, .unset, .unset, .unset, .unset, .unset] [(.long (q2 &&& (9223372036854775807 : Int64))), (.long (1 : Int64))]))
    obtain ⟨mx46, hmx46⟩ : ∃ z : Int64, z = if (lcmpW (1 : Int64) (q2 &&& (9223372036854775807 : Int64))) < (0 : Int32) then (q2 &&& (9223372036854775807 : Int64)) else (1 : Int64) := ⟨_, rfl⟩
    have pmx46 : 0 < mx46.toInt := own_mx rfl hmx46
    obtain ⟨_, _, ⟨T45, L45, k45, n45⟩, -, X45, ⟨Lc45, hQ45, l45, y45, z45⟩, st45⟩ := Jvm.LawKit.callS X43 hx (y := (⟨"java/lang/Math", "max", "(JJ)J"⟩ : MethodName)) hown (mvT hZ (hw _ (List.mem_of_getElem? (i := 44) rfl))) (mvT hZ (hw _ (List.mem_of_getElem? (i := 45) rfl))) (mvT hZ (hw _ (List.mem_of_getElem? (i := 46) rfl))) (mvT hZ (hw _ (List.mem_of_getElem? (i := 47) rfl))) (by decide) (backOf (W := 0) (rm6 l Z a0 hw [] (1 : Int64) (q2 &&& (9223372036854775807 : Int64)) mx46 h0 n0 (by exact Z0) hmx46) hZ (hw _ (List.mem_of_getElem? (i := 47) rfl)) (hw _ (List.mem_of_getElem? (i := 46) rfl)) (by decide) (by decide)) (g := (mkF m 61 #[.val (.long q1), .second, .val (.long q2), .second, .val (.int p3), .val (.int p4), .val (.long d41), .second, .val (.long mx44), .second, .unset, .unset, .unset, .unset, .unset, .unset] [(.long (q2 &&& (9223372036854775807 : Int64))), (.long (1 : Int64))])) rfl (by rw [hml]; rfl) (argsL := [(.long (1 : Int64)), (.long (q2 &&& (9223372036854775807 : Int64)))]) (rest := []) (lenOf pd_1 rfl) rfl (by show 2 * 0 + _ ≤ _; exact Nat.le_of_eq rfl) (hb hby at_61) (fun _ _ => ⟨rfl, e43, (by decide : 0 + 0 ≤ _), (by decide : 0 + 0 ≤ _)⟩)
    dsimp only [Pt.U, Pt.locs, Pt.cells, Pt.slots] at X45 l45 y45 z45 st45 hQ45
    subst l45 y45 z45
    obtain ⟨rfl, N45q, e45⟩ := hQ45
    have N45 := Fr.app N43 N45q
    refine own_on st45 ?_
    show own_Fin p e below _ (T45.setTop (mkF m 64 #[.val (.long q1), .second, .val (.long q2), .second, .val (.int p3), .val (.int p4), .val (.long d41), .second, .val (.long mx44), .second, .unset, .unset, .unset, .unset, .unset, .unset] [(.long mx46)]))
    refine own_on (fun t => XS.lstore X45.here hx rfl (hb hby at_64) rfl (l' := #[.val (.long q1), .second, .val (.long q2), .second, .val (.int p3), .val (.int p4), .val (.long d41), .second, .val (.long mx44), .second, .val (.long mx46), .second, .unset, .unset, .unset, .unset]) rfl) ?_
    show own_Fin p e below _ (T45.setTop (mkF m 66 #[.val (.long q1), .second, .val (.long q2), .second, .val (.int p3), .val (.int p4), .val (.long d41), .second, .val (.long mx44), .second, .val (.long mx46), .second, .unset, .unset, .unset, .unset] []))
    refine own_on (fun t => XS.iload X45.here hx rfl (hb hby at_66) rfl) ?_
    show own_Fin p e below _ (T45.setTop (mkF m 68 #[.val (.long q1), .second, .val (.long q2), .second, .val (.int p3), .val (.int p4), .val (.long d41), .second, .val (.long mx44), .second, .val (.long mx46), .second, .unset, .unset, .unset, .unset] [(.int p4)]))
    refine own_on (fun t => XS.iconst X45.here hx rfl (hb hby at_68)) ?_
    show own_Fin p e below _ (T45.setTop (mkF m 69 #[.val (.long q1), .second, .val (.long q2), .second, .val (.int p3), .val (.int p4), .val (.long d41), .second, .val (.long mx44), .second, .val (.long mx46), .second, .unset, .unset, .unset, .unset] [(.int (2 : Int32)), (.int p4)]))
    refine own_on (fun t => XS.iand X45.here hx rfl (hb hby at_69) rfl) ?_
    show own_Fin p e below _ (T45.setTop (mkF m 70 #[.val (.long q1), .second, .val (.long q2), .second, .val (.int p3), .val (.int p4), .val (.long d41), .second, .val (.long mx44), .second, .val (.long mx46), .second, .unset, .unset, .unset, .unset] [(.int (p4 &&& (2 : Int32)))]))
    by_cases hc47 : (p4 &&& (2 : Int32)) = (0 : Int32)
    · refine own_on (fun t => XS.ifYes X45.here hx rfl (pc0 := 70) (pc' := 94) rfl (hb hby at_70) rfl ((if0 _ _).trans (teq hc47).1) (by decide) (by decide)) ?_
      show own_Fin p e below _ (T45.setTop (mkF m 94 #[.val (.long q1), .second, .val (.long q2), .second, .val (.int p3), .val (.int p4), .val (.long d41), .second, .val (.long mx44), .second, .val (.long mx46), .second, .unset, .unset, .unset, .unset] []))
      obtain ⟨T48, h48, X48, e48, E48, A48, D48, -, st48⟩ := newO X45 hx hZ hown (hw _ (List.mem_of_getElem? (i := 2) rfl)) (hw _ (List.mem_of_getElem? (i := 3) rfl)) (hw _ (List.mem_of_getElem? (i := 4) rfl)) e45 (g := (mkF m 94 #[.val (.long q1), .second, .val (.long q2), .second, .val (.int p3), .val (.int p4), .val (.long d41), .second, .val (.long mx44), .second, .val (.long mx46), .second, .unset, .unset, .unset, .unset] [])) rfl (hb hby at_94) (by decide) (by decide)
      obtain ⟨b48, g48⟩ : ∃ z, z = h0.size := ⟨_, rfl⟩
      rw [← g48] at A48 D48 st48
      have y49 := (CHv.ext E48 CH0)
      have y50 := (CHr.trans (CHr.refl CH0) (CHr.ext E48 CH0))
      have y51 := (Nat.le_trans (Nat.zero_le _) E48.1)
      have y52 := (O.ext E48)
      have y53 := (Nat.le_trans Z0 E48.1)
      have y54 := (Safe.ext E48 CH0 (Safe.new (Nat.le_of_eq g48.symm)))
      have gn48 : n0 ≤ b48 := Nat.le_trans Z0 (Nat.le_of_eq g48.symm)
      have F48_kind : Fld Z h48 b48 "com/example/confluent_streams/confluentstreams/Window" "kind" "Lcom/example/confluent_streams/confluentstreams/Window$Kind;" .null := D48 (Or.inr (hw _ (List.mem_of_getElem? (i := 28) rfl))) (ty := (.object "com/example/confluent_streams/confluentstreams/Window$Kind")) (by decide)
      have F48_size : Fld Z h48 b48 "com/example/confluent_streams/confluentstreams/Window" "size" "J" (.long (0 : Int64)) := D48 (Or.inr (hw _ (List.mem_of_getElem? (i := 30) rfl))) (ty := .long) (by decide)
      have F48_step : Fld Z h48 b48 "com/example/confluent_streams/confluentstreams/Window" "step" "J" (.long (0 : Int64)) := D48 (Or.inr (hw _ (List.mem_of_getElem? (i := 32) rfl))) (ty := .long) (by decide)
      have F48_on : Fld Z h48 b48 "com/example/confluent_streams/confluentstreams/Window" "on" "Ljava/lang/String;" .null := D48 (Or.inr (hw _ (List.mem_of_getElem? (i := 34) rfl))) (ty := (.object "java/lang/String")) (by decide)
      refine own_on st48 ?_
      show own_Fin p e below _ (T48.setTop (mkF m 97 #[.val (.long q1), .second, .val (.long q2), .second, .val (.int p3), .val (.int p4), .val (.long d41), .second, .val (.long mx44), .second, .val (.long mx46), .second, .unset, .unset, .unset, .unset] [(.ref b48)]))
      refine own_on (fun t => XS.dup X48.here hx rfl (hb hby at_97) rfl rfl) ?_
      show own_Fin p e below _ (T48.setTop (mkF m 98 #[.val (.long q1), .second, .val (.long q2), .second, .val (.int p3), .val (.int p4), .val (.long d41), .second, .val (.long mx44), .second, .val (.long mx46), .second, .unset, .unset, .unset, .unset] [(.ref b48), (.ref b48)]))
      obtain ⟨T55, X55, e55, st55⟩ := getS2 X48 hx hZ hown (host := "") (Or.inl (hw _ (List.mem_of_getElem? (i := 48) rfl))) Via.refl e48 (SW.ext y52.2) (g := (mkF m 98 #[.val (.long q1), .second, .val (.long q2), .second, .val (.int p3), .val (.int p4), .val (.long d41), .second, .val (.long mx44), .second, .val (.long mx46), .second, .unset, .unset, .unset, .unset] [(.ref b48), (.ref b48)])) rfl (hb hby at_98)
      refine own_on st55 ?_
      show own_Fin p e below _ (T55.setTop (mkF m 101 #[.val (.long q1), .second, .val (.long q2), .second, .val (.int p3), .val (.int p4), .val (.long d41), .second, .val (.long mx44), .second, .val (.long mx46), .second, .unset, .unset, .unset, .unset] [(.ref kW), (.ref b48), (.ref b48)]))
      refine own_on (fun t => XS.lload X55.here hx rfl (hb hby at_101) rfl) ?_
      show own_Fin p e below _ (T55.setTop (mkF m 103 #[.val (.long q1), .second, .val (.long q2), .second, .val (.int p3), .val (.int p4), .val (.long d41), .second, .val (.long mx44), .second, .val (.long mx46), .second, .unset, .unset, .unset, .unset] [(.long mx44), (.ref kW), (.ref b48), (.ref b48)]))
      refine own_on (fun t => XS.lload X55.here hx rfl (hb hby at_103) rfl) ?_
      show own_Fin p e below _ (T55.setTop (mkF m 105 #[.val (.long q1), .second, .val (.long q2), .second, .val (.int p3), .val (.int p4), .val (.long d41), .second, .val (.long mx44), .second, .val (.long mx46), .second, .unset, .unset, .unset, .unset] [(.long mx46), (.long mx44), (.ref kW), (.ref b48), (.ref b48)]))
      refine own_on (fun t => XS.aconstNull X55.here hx rfl (hb hby at_105)) ?_
      show own_Fin p e below _ (T55.setTop (mkF m 106 #[.val (.long q1), .second, .val (.long q2), .second, .val (.int p3), .val (.int p4), .val (.long d41), .second, .val (.long mx44), .second, .val (.long mx46), .second, .unset, .unset, .unset, .unset] [.null, (.long mx46), (.long mx44), (.ref kW), (.ref b48), (.ref b48)]))
      obtain ⟨_, _, ⟨T56, L56, k56, n56⟩, -, X56, ⟨Lc56, hQ56, l56, y56, z56⟩, st56⟩ := X55.specialBack hx (y := (⟨"com/example/confluent_streams/confluentstreams/Window", "<init>", "(Lcom/example/confluent_streams/confluentstreams/Window$Kind;JJLjava/lang/String;)V"⟩ : MethodName)) rfl hown (mvT hZ (hw _ (List.mem_of_getElem? (i := 16) rfl))) (mvT hZ (hw _ (List.mem_of_getElem? (i := 17) rfl))) (mvT hZ (hw _ (List.mem_of_getElem? (i := 18) rfl))) (by decide) (backOf (W := 1) (rm1 l Z a0 hw [] b48 kW mx44 mx46 .null h48 n0 (by exact y53) rfl A48 F48_kind F48_size F48_step F48_on gn48) hZ (hw _ (List.mem_of_getElem? (i := 18) rfl)) (hw _ (List.mem_of_getElem? (i := 4) rfl)) (by decide) (by decide)) (g := (mkF m 106 #[.val (.long q1), .second, .val (.long q2), .second, .val (.int p3), .val (.int p4), .val (.long d41), .second, .val (.long mx44), .second, .val (.long mx46), .second, .unset, .unset, .unset, .unset] [.null, (.long mx46), (.long mx44), (.ref kW), (.ref b48), (.ref b48)])) rfl (by rw [hml]; rfl) (Steps.refl _) (a := b48) (argsL := [(.ref kW), (.long mx44), (.long mx46), .null]) (rest := [(.ref b48)]) (lenOf pd_2 rfl) rfl (by show 2 * 0 + _ ≤ _; exact Nat.le_of_eq rfl) (hb hby at_106) (fun _ _ => ⟨rfl, e55, (by decide : 1 + 0 ≤ _), (by decide : 4 + 0 ≤ _)⟩)
      dsimp only [Pt.U, Pt.locs, Pt.cells, Pt.slots] at X56 l56 y56 z56 st56 hQ56
      subst l56 y56 z56
      obtain ⟨rfl, N56q, K56, E56q, F56a, F56b⟩ := hQ56
      have N56 := Fr.app N45 N56q
      have y57 := (CHv.keep K56 (sfS y54 sf0) y49)
      have y58 := (CHr.trans y50 (CHr.keep K56 (sfS y54 sf0) y49))
      have y59 := (Nat.le_trans y51 K56.1)
      have y60 := (y52.keep K56 (allS gn48 all0))
      have y61 := (Nat.le_trans y53 K56.1)
      have y62 := (Safe.keep K56 (sfS y54 sf0) y49 y54)
      have y63 := (A48.keep K56)
      refine own_via st56 ?_
      show own_Fin p e below _ (T56.setTop (mkF m 109 #[.val (.long q1), .second, .val (.long q2), .second, .val (.int p3), .val (.int p4), .val (.long d41), .second, .val (.long mx44), .second, .val (.long mx46), .second, .unset, .unset, .unset, .unset] [(.ref b48)]))
      refine own_on (fun t => XS.astore X56.here hx rfl (hb hby at_109) rfl rfl (l' := #[.val (.long q1), .second, .val (.long q2), .second, .val (.int p3), .val (.int p4), .val (.long d41), .second, .val (.long mx44), .second, .val (.long mx46), .second, .val (.ref b48), .unset, .unset, .unset]) rfl) ?_
      show own_Fin p e below _ (T56.setTop (mkF m 111 #[.val (.long q1), .second, .val (.long q2), .second, .val (.int p3), .val (.int p4), .val (.long d41), .second, .val (.long mx44), .second, .val (.long mx46), .second, .val (.ref b48), .unset, .unset, .unset] []))
      refine own_on (fun t => XS.aload X56.here hx rfl (hb hby at_111) rfl rfl) ?_
      show own_Fin p e below _ (T56.setTop (mkF m 113 #[.val (.long q1), .second, .val (.long q2), .second, .val (.int p3), .val (.int p4), .val (.long d41), .second, .val (.long mx44), .second, .val (.long mx46), .second, .val (.ref b48), .unset, .unset, .unset] [(.ref b48)]))
      obtain ⟨cq64, kq64, q64a, q64b, q64c⟩ := isOf hZ rfl y63
      obtain ⟨_, _, ⟨T64, L64, k64, n64⟩, -, X64, ⟨Lc64, hQ64, l64, y64, z64⟩, st64⟩ := X56.virtualBack hx (y := (⟨"com/example/confluent_streams/confluentstreams/Window", "paneSize", "()J"⟩ : MethodName)) (z := (⟨"com/example/confluent_streams/confluentstreams/Window", "paneSize", "()J"⟩ : MethodName)) hown (mvT hZ (hw _ (List.mem_of_getElem? (i := 35) rfl))) (mvT hZ (hw _ (List.mem_of_getElem? (i := 36) rfl))) (notFace_of_selects (args := #[]) (mvT hZ (hw _ (List.mem_of_getElem? (i := 38) rfl)))) (mvT hZ (hw _ (List.mem_of_getElem? (i := 38) rfl))) (mvT hZ (hw _ (List.mem_of_getElem? (i := 37) rfl))) (by decide) (backOf (W := 0) (rm4 l Z a0 hw [] b48 mx44 mx46 T56.heap n0 (by exact y61) F56a F56b pmx44 (Int.le_of_lt pmx46)) hZ (hw _ (List.mem_of_getElem? (i := 39) rfl)) (hw _ (List.mem_of_getElem? (i := 4) rfl)) (by decide) (by decide)) q64a q64c (g := (mkF m 113 #[.val (.long q1), .second, .val (.long q2), .second, .val (.int p3), .val (.int p4), .val (.long d41), .second, .val (.long mx44), .second, .val (.long mx46), .second, .val (.ref b48), .unset, .unset, .unset] [(.ref b48)])) rfl (by rw [hml]; rfl) (Steps.refl _) (argsL := []) (rest := []) (lenOf pd_3 rfl) rfl (by show 2 * 0 + _ ≤ _; exact Nat.le_of_eq rfl) (hb hby at_113) (fun _ _ => ⟨rfl, rfl, (by decide : 1 + 0 ≤ _), (by decide : 4 + 0 ≤ _)⟩)
      dsimp only [Pt.U, Pt.locs, Pt.cells, Pt.slots] at X64 l64 y64 z64 st64 hQ64
      subst l64 y64 z64
      obtain ⟨g64, rfl, N64q, e64, hg64⟩ := hQ64
      have N64 := Fr.app N56 N64q
      refine own_via st64 ?_
      have dv64 := own_gcdv pmx44 pmx46 hg64
      show own_Fin p e below _ (T64.setTop (mkF m 116 #[.val (.long q1), .second, .val (.long q2), .second, .val (.int p3), .val (.int p4), .val (.long d41), .second, .val (.long mx44), .second, .val (.long mx46), .second, .val (.ref b48), .unset, .unset, .unset] [(.long g64)]))
      refine own_on (fun t => XS.lstore X64.here hx rfl (hb hby at_116) rfl (l' := #[.val (.long q1), .second, .val (.long q2), .second, .val (.int p3), .val (.int p4), .val (.long d41), .second, .val (.long mx44), .second, .val (.long mx46), .second, .val (.ref b48), .val (.long g64), .second, .unset]) rfl) ?_
      show own_Fin p e below _ (T64.setTop (mkF m 118 #[.val (.long q1), .second, .val (.long q2), .second, .val (.int p3), .val (.int p4), .val (.long d41), .second, .val (.long mx44), .second, .val (.long mx46), .second, .val (.ref b48), .val (.long g64), .second, .unset] []))
      refine own_on (fun t => XS.lload X64.here hx rfl (hb hby at_118) rfl) ?_
      show own_Fin p e below _ (T64.setTop (mkF m 120 #[.val (.long q1), .second, .val (.long q2), .second, .val (.int p3), .val (.int p4), .val (.long d41), .second, .val (.long mx44), .second, .val (.long mx46), .second, .val (.ref b48), .val (.long g64), .second, .unset] [(.long g64)]))
      refine own_on (fun t => XS.lconst X64.here hx rfl (hb hby at_120)) ?_
      show own_Fin p e below _ (T64.setTop (mkF m 121 #[.val (.long q1), .second, .val (.long q2), .second, .val (.int p3), .val (.int p4), .val (.long d41), .second, .val (.long mx44), .second, .val (.long mx46), .second, .val (.ref b48), .val (.long g64), .second, .unset] [(.long (0 : Int64)), (.long g64)]))
      refine own_on (fun t => XS.lcmp X64.here hx rfl (hb hby at_121) rfl) ?_
      show own_Fin p e below _ (T64.setTop (mkF m 122 #[.val (.long q1), .second, .val (.long q2), .second, .val (.int p3), .val (.int p4), .val (.long d41), .second, .val (.long mx44), .second, .val (.long mx46), .second, .val (.ref b48), .val (.long g64), .second, .unset] [(.int (lcmpW g64 (0 : Int64)))]))
      refine own_on (fun t => XS.ifYes X64.here hx rfl (pc0 := 122) (pc' := 127) rfl (hb hby at_122) rfl ((if0 _ _).trans (tlt (own_gt dv64.1)).2.2.1) (by decide) (by decide)) ?_
      show own_Fin p e below _ (T64.setTop (mkF m 127 #[.val (.long q1), .second, .val (.long q2), .second, .val (.int p3), .val (.int p4), .val (.long d41), .second, .val (.long mx44), .second, .val (.long mx46), .second, .val (.ref b48), .val (.long g64), .second, .unset] []))
      refine own_on (fun t => XS.lload X64.here hx rfl (hb hby at_127) rfl) ?_
      show own_Fin p e below _ (T64.setTop (mkF m 129 #[.val (.long q1), .second, .val (.long q2), .second, .val (.int p3), .val (.int p4), .val (.long d41), .second, .val (.long mx44), .second, .val (.long mx46), .second, .val (.ref b48), .val (.long g64), .second, .unset] [(.long mx44)]))
      refine own_on (fun t => XS.lload X64.here hx rfl (hb hby at_129) rfl) ?_
      show own_Fin p e below _ (T64.setTop (mkF m 131 #[.val (.long q1), .second, .val (.long q2), .second, .val (.int p3), .val (.int p4), .val (.long d41), .second, .val (.long mx44), .second, .val (.long mx46), .second, .val (.ref b48), .val (.long g64), .second, .unset] [(.long g64), (.long mx44)]))
      refine own_on (fun t => XS.lrem X64.here hx rfl (hb hby at_131) rfl (own_ne0 dv64.1)) ?_
      show own_Fin p e below _ (T64.setTop (mkF m 132 #[.val (.long q1), .second, .val (.long q2), .second, .val (.int p3), .val (.int p4), .val (.long d41), .second, .val (.long mx44), .second, .val (.long mx46), .second, .val (.ref b48), .val (.long g64), .second, .unset] [(.long (mx44 - (mx44 / g64) * g64))]))
      refine own_on (fun t => XS.lconst X64.here hx rfl (hb hby at_132)) ?_
      show own_Fin p e below _ (T64.setTop (mkF m 133 #[.val (.long q1), .second, .val (.long q2), .second, .val (.int p3), .val (.int p4), .val (.long d41), .second, .val (.long mx44), .second, .val (.long mx46), .second, .val (.ref b48), .val (.long g64), .second, .unset] [(.long (0 : Int64)), (.long (mx44 - (mx44 / g64) * g64))]))
      refine own_on (fun t => XS.lcmp X64.here hx rfl (hb hby at_133) rfl) ?_
      show own_Fin p e below _ (T64.setTop (mkF m 134 #[.val (.long q1), .second, .val (.long q2), .second, .val (.int p3), .val (.int p4), .val (.long d41), .second, .val (.long mx44), .second, .val (.long mx46), .second, .val (.ref b48), .val (.long g64), .second, .unset] [(.int (lcmpW (mx44 - (mx44 / g64) * g64) (0 : Int64)))]))
      refine own_on (fun t => XS.ifNo X64.here hx rfl (hb hby at_134) rfl ((if0 _ _).trans (teq (own_lr0 (Int.le_of_lt pmx44) dv64.2.1)).2)) ?_
      show own_Fin p e below _ (T64.setTop (mkF m 137 #[.val (.long q1), .second, .val (.long q2), .second, .val (.int p3), .val (.int p4), .val (.long d41), .second, .val (.long mx44), .second, .val (.long mx46), .second, .val (.ref b48), .val (.long g64), .second, .unset] []))
      refine own_on (fun t => XS.lload X64.here hx rfl (hb hby at_137) rfl) ?_
      show own_Fin p e below _ (T64.setTop (mkF m 139 #[.val (.long q1), .second, .val (.long q2), .second, .val (.int p3), .val (.int p4), .val (.long d41), .second, .val (.long mx44), .second, .val (.long mx46), .second, .val (.ref b48), .val (.long g64), .second, .unset] [(.long mx46)]))
      refine own_on (fun t => XS.lload X64.here hx rfl (hb hby at_139) rfl) ?_
      show own_Fin p e below _ (T64.setTop (mkF m 141 #[.val (.long q1), .second, .val (.long q2), .second, .val (.int p3), .val (.int p4), .val (.long d41), .second, .val (.long mx44), .second, .val (.long mx46), .second, .val (.ref b48), .val (.long g64), .second, .unset] [(.long g64), (.long mx46)]))
      refine own_on (fun t => XS.lrem X64.here hx rfl (hb hby at_141) rfl (own_ne0 dv64.1)) ?_
      show own_Fin p e below _ (T64.setTop (mkF m 142 #[.val (.long q1), .second, .val (.long q2), .second, .val (.int p3), .val (.int p4), .val (.long d41), .second, .val (.long mx44), .second, .val (.long mx46), .second, .val (.ref b48), .val (.long g64), .second, .unset] [(.long (mx46 - (mx46 / g64) * g64))]))
      refine own_on (fun t => XS.lconst X64.here hx rfl (hb hby at_142)) ?_
      show own_Fin p e below _ (T64.setTop (mkF m 143 #[.val (.long q1), .second, .val (.long q2), .second, .val (.int p3), .val (.int p4), .val (.long d41), .second, .val (.long mx44), .second, .val (.long mx46), .second, .val (.ref b48), .val (.long g64), .second, .unset] [(.long (0 : Int64)), (.long (mx46 - (mx46 / g64) * g64))]))
      refine own_on (fun t => XS.lcmp X64.here hx rfl (hb hby at_143) rfl) ?_
      show own_Fin p e below _ (T64.setTop (mkF m 144 #[.val (.long q1), .second, .val (.long q2), .second, .val (.int p3), .val (.int p4), .val (.long d41), .second, .val (.long mx44), .second, .val (.long mx46), .second, .val (.ref b48), .val (.long g64), .second, .unset] [(.int (lcmpW (mx46 - (mx46 / g64) * g64) (0 : Int64)))]))
      refine own_on (fun t => XS.ifYes X64.here hx rfl (pc0 := 144) (pc' := 149) rfl (hb hby at_144) rfl ((if0 _ _).trans (teq (own_lr0 (Int.le_of_lt pmx46) dv64.2.2.1)).1) (by decide) (by decide)) ?_
      show own_Fin p e below _ (T64.setTop (mkF m 149 #[.val (.long q1), .second, .val (.long q2), .second, .val (.int p3), .val (.int p4), .val (.long d41), .second, .val (.long mx44), .second, .val (.long mx46), .second, .val (.ref b48), .val (.long g64), .second, .unset] []))
      refine own_on (fun t => XS.lload X64.here hx rfl (hb hby at_149) rfl) ?_
      show own_Fin p e below _ (T64.setTop (mkF m 151 #[.val (.long q1), .second, .val (.long q2), .second, .val (.int p3), .val (.int p4), .val (.long d41), .second, .val (.long mx44), .second, .val (.long mx46), .second, .val (.ref b48), .val (.long g64), .second, .unset] [(.long mx44)]))
      refine own_on (fun t => XS.lload X64.here hx rfl (hb hby at_151) rfl) ?_
      show own_Fin p e below _ (T64.setTop (mkF m 153 #[.val (.long q1), .second, .val (.long q2), .second, .val (.int p3), .val (.int p4), .val (.long d41), .second, .val (.long mx44), .second, .val (.long mx46), .second, .val (.ref b48), .val (.long g64), .second, .unset] [(.long d41), (.long mx44)]))
      refine own_on (fun t => XS.lrem X64.here hx rfl (hb hby at_153) rfl (own_ne0 (Int.lt_of_lt_of_le (by decide) pd41.1))) ?_
      show own_Fin p e below _ (T64.setTop (mkF m 154 #[.val (.long q1), .second, .val (.long q2), .second, .val (.int p3), .val (.int p4), .val (.long d41), .second, .val (.long mx44), .second, .val (.long mx46), .second, .val (.ref b48), .val (.long g64), .second, .unset] [(.long (mx44 - (mx44 / d41) * d41))]))
      refine own_on (fun t => XS.lconst X64.here hx rfl (hb hby at_154)) ?_
      show own_Fin p e below _ (T64.setTop (mkF m 155 #[.val (.long q1), .second, .val (.long q2), .second, .val (.int p3), .val (.int p4), .val (.long d41), .second, .val (.long mx44), .second, .val (.long mx46), .second, .val (.ref b48), .val (.long g64), .second, .unset] [(.long (0 : Int64)), (.long (mx44 - (mx44 / d41) * d41))]))
      refine own_on (fun t => XS.lcmp X64.here hx rfl (hb hby at_155) rfl) ?_
      show own_Fin p e below _ (T64.setTop (mkF m 156 #[.val (.long q1), .second, .val (.long q2), .second, .val (.int p3), .val (.int p4), .val (.long d41), .second, .val (.long mx44), .second, .val (.long mx46), .second, .val (.ref b48), .val (.long g64), .second, .unset] [(.int (lcmpW (mx44 - (mx44 / d41) * d41) (0 : Int64)))]))
      by_cases hc65 : (lcmpW (mx44 - (mx44 / d41) * d41) (0 : Int64)) = (0 : Int32)
      · refine own_on (fun t => XS.ifNo X64.here hx rfl (hb hby at_156) rfl ((if0 _ _).trans (teq hc65).2)) ?_
        show own_Fin p e below _ (T64.setTop (mkF m 159 #[.val (.long q1), .second, .val (.long q2), .second, .val (.int p3), .val (.int p4), .val (.long d41), .second, .val (.long mx44), .second, .val (.long mx46), .second, .val (.ref b48), .val (.long g64), .second, .unset] []))
        refine own_on (fun t => XS.lload X64.here hx rfl (hb hby at_159) rfl) ?_
        show own_Fin p e below _ (T64.setTop (mkF m 161 #[.val (.long q1), .second, .val (.long q2), .second, .val (.int p3), .val (.int p4), .val (.long d41), .second, .val (.long mx44), .second, .val (.long mx46), .second, .val (.ref b48), .val (.long g64), .second, .unset] [(.long mx46)]))
        refine own_on (fun t => XS.lload X64.here hx rfl (hb hby at_161) rfl) ?_
        show own_Fin p e below _ (T64.setTop (mkF m 163 #[.val (.long q1), .second, .val (.long q2), .second, .val (.int p3), .val (.int p4), .val (.long d41), .second, .val (.long mx44), .second, .val (.long mx46), .second, .val (.ref b48), .val (.long g64), .second, .unset] [(.long d41), (.long mx46)]))
        refine own_on (fun t => XS.lrem X64.here hx rfl (hb hby at_163) rfl (own_ne0 (Int.lt_of_lt_of_le (by decide) pd41.1))) ?_
        show own_Fin p e below _ (T64.setTop (mkF m 164 #[.val (.long q1), .second, .val (.long q2), .second, .val (.int p3), .val (.int p4), .val (.long d41), .second, .val (.long mx44), .second, .val (.long mx46), .second, .val (.ref b48), .val (.long g64), .second, .unset] [(.long (mx46 - (mx46 / d41) * d41))]))
        refine own_on (fun t => XS.lconst X64.here hx rfl (hb hby at_164)) ?_
        show own_Fin p e below _ (T64.setTop (mkF m 165 #[.val (.long q1), .second, .val (.long q2), .second, .val (.int p3), .val (.int p4), .val (.long d41), .second, .val (.long mx44), .second, .val (.long mx46), .second, .val (.ref b48), .val (.long g64), .second, .unset] [(.long (0 : Int64)), (.long (mx46 - (mx46 / d41) * d41))]))
        refine own_on (fun t => XS.lcmp X64.here hx rfl (hb hby at_165) rfl) ?_
        show own_Fin p e below _ (T64.setTop (mkF m 166 #[.val (.long q1), .second, .val (.long q2), .second, .val (.int p3), .val (.int p4), .val (.long d41), .second, .val (.long mx44), .second, .val (.long mx46), .second, .val (.ref b48), .val (.long g64), .second, .unset] [(.int (lcmpW (mx46 - (mx46 / d41) * d41) (0 : Int64)))]))
        by_cases hc66 : (lcmpW (mx46 - (mx46 / d41) * d41) (0 : Int64)) = (0 : Int32)
        · refine own_on (fun t => XS.ifNo X64.here hx rfl (hb hby at_166) rfl ((if0 _ _).trans (teq hc66).2)) ?_
          show own_Fin p e below _ (T64.setTop (mkF m 169 #[.val (.long q1), .second, .val (.long q2), .second, .val (.int p3), .val (.int p4), .val (.long d41), .second, .val (.long mx44), .second, .val (.long mx46), .second, .val (.ref b48), .val (.long g64), .second, .unset] []))
          refine own_on (fun t => XS.iconst X64.here hx rfl (hb hby at_169)) ?_
          show own_Fin p e below _ (T64.setTop (mkF m 170 #[.val (.long q1), .second, .val (.long q2), .second, .val (.int p3), .val (.int p4), .val (.long d41), .second, .val (.long mx44), .second, .val (.long mx46), .second, .val (.ref b48), .val (.long g64), .second, .unset] [(.int (1 : Int32))]))
          refine own_on (fun t => XS.goto X64.here hx rfl (pc0 := 170) (pc' := 174) rfl (hb hby at_170) (by decide) (by decide)) ?_
          show own_Fin p e below _ (T64.setTop (mkF m 174 #[.val (.long q1), .second, .val (.long q2), .second, .val (.int p3), .val (.int p4), .val (.long d41), .second, .val (.long mx44), .second, .val (.long mx46), .second, .val (.ref b48), .val (.long g64), .second, .unset] [(.int (1 : Int32))]))
          refine own_on (fun t => XS.istore X64.here hx rfl (hb hby at_174) rfl (l' := #[.val (.long q1), .second, .val (.long q2), .second, .val (.int p3), .val (.int p4), .val (.long d41), .second, .val (.long mx44), .second, .val (.long mx46), .second, .val (.ref b48), .val (.long g64), .second, .val (.int (1 : Int32))]) rfl) ?_
          show own_Fin p e below _ (T64.setTop (mkF m 176 #[.val (.long q1), .second, .val (.long q2), .second, .val (.int p3), .val (.int p4), .val (.long d41), .second, .val (.long mx44), .second, .val (.long mx46), .second, .val (.ref b48), .val (.long g64), .second, .val (.int (1 : Int32))] []))
          refine own_on (fun t => XS.iload X64.here hx rfl (hb hby at_176) rfl) ?_
          show own_Fin p e below _ (T64.setTop (mkF m 178 #[.val (.long q1), .second, .val (.long q2), .second, .val (.int p3), .val (.int p4), .val (.long d41), .second, .val (.long mx44), .second, .val (.long mx46), .second, .val (.ref b48), .val (.long g64), .second, .val (.int (1 : Int32))] [(.int (1 : Int32))]))
          refine own_on (fun t => XS.ifNo X64.here hx rfl (hb hby at_178) rfl ((if0 _ _).trans (feq (by decide : ¬ ((1 : Int32) = (0 : Int32)))).1)) ?_
          show own_Fin p e below _ (T64.setTop (mkF m 181 #[.val (.long q1), .second, .val (.long q2), .second, .val (.int p3), .val (.int p4), .val (.long d41), .second, .val (.long mx44), .second, .val (.long mx46), .second, .val (.ref b48), .val (.long g64), .second, .val (.int (1 : Int32))] []))
          refine own_on (fun t => XS.lload X64.here hx rfl (hb hby at_181) rfl) ?_
          show own_Fin p e below _ (T64.setTop (mkF m 183 #[.val (.long q1), .second, .val (.long q2), .second, .val (.int p3), .val (.int p4), .val (.long d41), .second, .val (.long mx44), .second, .val (.long mx46), .second, .val (.ref b48), .val (.long g64), .second, .val (.int (1 : Int32))] [(.long g64)]))
          refine own_on (fun t => XS.lload X64.here hx rfl (hb hby at_183) rfl) ?_
          show own_Fin p e below _ (T64.setTop (mkF m 185 #[.val (.long q1), .second, .val (.long q2), .second, .val (.int p3), .val (.int p4), .val (.long d41), .second, .val (.long mx44), .second, .val (.long mx46), .second, .val (.ref b48), .val (.long g64), .second, .val (.int (1 : Int32))] [(.long d41), (.long g64)]))
          refine own_on (fun t => XS.lrem X64.here hx rfl (hb hby at_185) rfl (own_ne0 (Int.lt_of_lt_of_le (by decide) pd41.1))) ?_
          show own_Fin p e below _ (T64.setTop (mkF m 186 #[.val (.long q1), .second, .val (.long q2), .second, .val (.int p3), .val (.int p4), .val (.long d41), .second, .val (.long mx44), .second, .val (.long mx46), .second, .val (.ref b48), .val (.long g64), .second, .val (.int (1 : Int32))] [(.long (g64 - (g64 / d41) * d41))]))
          refine own_on (fun t => XS.lconst X64.here hx rfl (hb hby at_186)) ?_
          show own_Fin p e below _ (T64.setTop (mkF m 187 #[.val (.long q1), .second, .val (.long q2), .second, .val (.int p3), .val (.int p4), .val (.long d41), .second, .val (.long mx44), .second, .val (.long mx46), .second, .val (.ref b48), .val (.long g64), .second, .val (.int (1 : Int32))] [(.long (0 : Int64)), (.long (g64 - (g64 / d41) * d41))]))
          refine own_on (fun t => XS.lcmp X64.here hx rfl (hb hby at_187) rfl) ?_
          show own_Fin p e below _ (T64.setTop (mkF m 188 #[.val (.long q1), .second, .val (.long q2), .second, .val (.int p3), .val (.int p4), .val (.long d41), .second, .val (.long mx44), .second, .val (.long mx46), .second, .val (.ref b48), .val (.long g64), .second, .val (.int (1 : Int32))] [(.int (lcmpW (g64 - (g64 / d41) * d41) (0 : Int64)))]))
          refine own_on (fun t => XS.ifNo X64.here hx rfl (hb hby at_188) rfl ((if0 _ _).trans (teq (own_lr0 (Int.le_of_lt dv64.1) (dv64.2.2.2 _ (Int.lt_of_lt_of_le (by decide) pd41.1) (own_lr1 (Int.le_of_lt pmx44) hc65) (own_lr1 (Int.le_of_lt pmx46) hc66)))).2)) ?_
          show own_Fin p e below _ (T64.setTop (mkF m 191 #[.val (.long q1), .second, .val (.long q2), .second, .val (.int p3), .val (.int p4), .val (.long d41), .second, .val (.long mx44), .second, .val (.long mx46), .second, .val (.ref b48), .val (.long g64), .second, .val (.int (1 : Int32))] []))
          refine own_on (fun t => XS.iconst X64.here hx rfl (hb hby at_191)) ?_
          show own_Fin p e below _ (T64.setTop (mkF m 192 #[.val (.long q1), .second, .val (.long q2), .second, .val (.int p3), .val (.int p4), .val (.long d41), .second, .val (.long mx44), .second, .val (.long mx46), .second, .val (.ref b48), .val (.long g64), .second, .val (.int (1 : Int32))] [(.int (1 : Int32))]))
          refine own_on (fun t => XS.goto X64.here hx rfl (pc0 := 192) (pc' := 196) rfl (hb hby at_192) (by decide) (by decide)) ?_
          show own_Fin p e below _ (T64.setTop (mkF m 196 #[.val (.long q1), .second, .val (.long q2), .second, .val (.int p3), .val (.int p4), .val (.long d41), .second, .val (.long mx44), .second, .val (.long mx46), .second, .val (.ref b48), .val (.long g64), .second, .val (.int (1 : Int32))] [(.int (1 : Int32))]))
          exact own_retW (t := .boolean) X64 (Z := Z) (EL := own_EL) (a0 := a0) hx hlk hret rfl (Or.inl ⟨rfl, (by simp), _, rfl⟩) (hb hby at_196) hS0 (by rw [e64]; exact y59) hZ hEL (by rw [hh, e64]; exact y58) (⟨rfl, N64⟩) (by decide) (by decide)
        · refine own_on (fun t => XS.ifYes X64.here hx rfl (pc0 := 166) (pc' := 173) rfl (hb hby at_166) rfl ((if0 _ _).trans (feq hc66).2) (by decide) (by decide)) ?_
          show own_Fin p e below _ (T64.setTop (mkF m 173 #[.val (.long q1), .second, .val (.long q2), .second, .val (.int p3), .val (.int p4), .val (.long d41), .second, .val (.long mx44), .second, .val (.long mx46), .second, .val (.ref b48), .val (.long g64), .second, .unset] []))
          refine own_on (fun t => XS.iconst X64.here hx rfl (hb hby at_173)) ?_
          show own_Fin p e below _ (T64.setTop (mkF m 174 #[.val (.long q1), .second, .val (.long q2), .second, .val (.int p3), .val (.int p4), .val (.long d41), .second, .val (.long mx44), .second, .val (.long mx46), .second, .val (.ref b48), .val (.long g64), .second, .unset] [(.int (0 : Int32))]))
          refine own_on (fun t => XS.istore X64.here hx rfl (hb hby at_174) rfl (l' := #[.val (.long q1), .second, .val (.long q2), .second, .val (.int p3), .val (.int p4), .val (.long d41), .second, .val (.long mx44), .second, .val (.long mx46), .second, .val (.ref b48), .val (.long g64), .second, .val (.int (0 : Int32))]) rfl) ?_
          show own_Fin p e below _ (T64.setTop (mkF m 176 #[.val (.long q1), .second, .val (.long q2), .second, .val (.int p3), .val (.int p4), .val (.long d41), .second, .val (.long mx44), .second, .val (.long mx46), .second, .val (.ref b48), .val (.long g64), .second, .val (.int (0 : Int32))] []))
          refine own_on (fun t => XS.iload X64.here hx rfl (hb hby at_176) rfl) ?_
          show own_Fin p e below _ (T64.setTop (mkF m 178 #[.val (.long q1), .second, .val (.long q2), .second, .val (.int p3), .val (.int p4), .val (.long d41), .second, .val (.long mx44), .second, .val (.long mx46), .second, .val (.ref b48), .val (.long g64), .second, .val (.int (0 : Int32))] [(.int (0 : Int32))]))
          refine own_on (fun t => XS.ifYes X64.here hx rfl (pc0 := 178) (pc' := 191) rfl (hb hby at_178) rfl ((if0 _ _).trans (teq (by decide : (0 : Int32) = (0 : Int32))).1) (by decide) (by decide)) ?_
          show own_Fin p e below _ (T64.setTop (mkF m 191 #[.val (.long q1), .second, .val (.long q2), .second, .val (.int p3), .val (.int p4), .val (.long d41), .second, .val (.long mx44), .second, .val (.long mx46), .second, .val (.ref b48), .val (.long g64), .second, .val (.int (0 : Int32))] []))
          refine own_on (fun t => XS.iconst X64.here hx rfl (hb hby at_191)) ?_
          show own_Fin p e below _ (T64.setTop (mkF m 192 #[.val (.long q1), .second, .val (.long q2), .second, .val (.int p3), .val (.int p4), .val (.long d41), .second, .val (.long mx44), .second, .val (.long mx46), .second, .val (.ref b48), .val (.long g64), .second, .val (.int (0 : Int32))] [(.int (1 : Int32))]))
          refine own_on (fun t => XS.goto X64.here hx rfl (pc0 := 192) (pc' := 196) rfl (hb hby at_192) (by decide) (by decide)) ?_
          show own_Fin p e below _ (T64.setTop (mkF m 196 #[.val (.long q1), .second, .val (.long q2), .second, .val (.int p3), .val (.int p4), .val (.long d41), .second, .val (.long mx44), .second, .val (.long mx46), .second, .val (.ref b48), .val (.long g64), .second, .val (.int (0 : Int32))] [(.int (1 : Int32))]))
          exact own_retW (t := .boolean) X64 (Z := Z) (EL := own_EL) (a0 := a0) hx hlk hret rfl (Or.inl ⟨rfl, (by simp), _, rfl⟩) (hb hby at_196) hS0 (by rw [e64]; exact y59) hZ hEL (by rw [hh, e64]; exact y58) (⟨rfl, N64⟩) (by decide) (by decide)
      · refine own_on (fun t => XS.ifYes X64.here hx rfl (pc0 := 156) (pc' := 173) rfl (hb hby at_156) rfl ((if0 _ _).trans (feq hc65).2) (by decide) (by decide)) ?_
        show own_Fin p e below _ (T64.setTop (mkF m 173 #[.val (.long q1), .second, .val (.long q2), .second, .val (.int p3), .val (.int p4), .val (.long d41), .second, .val (.long mx44), .second, .val (.long mx46), .second, .val (.ref b48), .val (.long g64), .second, .unset] []))
        refine own_on (fun t => XS.iconst X64.here hx rfl (hb hby at_173)) ?_
        show own_Fin p e below _ (T64.setTop (mkF m 174 #[.val (.long q1), .second, .val (.long q2), .second, .val (.int p3), .val (.int p4), .val (.long d41), .second, .val (.long mx44), .second, .val (.long mx46), .second, .val (.ref b48), .val (.long g64), .second, .unset] [(.int (0 : Int32))]))
        refine own_on (fun t => XS.istore X64.here hx rfl (hb hby at_174) rfl (l' := #[.val (.long q1), .second, .val (.long q2), .second, .val (.int p3), .val (.int p4), .val (.long d41), .second, .val (.long mx44), .second, .val (.long mx46), .second, .val (.ref b48), .val (.long g64), .second, .val (.int (0 : Int32))]) rfl) ?_
        show own_Fin p e below _ (T64.setTop (mkF m 176 #[.val (.long q1), .second, .val (.long q2), .second, .val (.int p3), .val (.int p4), .val (.long d41), .second, .val (.long mx44), .second, .val (.long mx46), .second, .val (.ref b48), .val (.long g64), .second, .val (.int (0 : Int32))] []))
        refine own_on (fun t => XS.iload X64.here hx rfl (hb hby at_176) rfl) ?_
        show own_Fin p e below _ (T64.setTop (mkF m 178 #[.val (.long q1), .second, .val (.long q2), .second, .val (.int p3), .val (.int p4), .val (.long d41), .second, .val (.long mx44), .second, .val (.long mx46), .second, .val (.ref b48), .val (.long g64), .second, .val (.int (0 : Int32))] [(.int (0 : Int32))]))
        refine own_on (fun t => XS.ifYes X64.here hx rfl (pc0 := 178) (pc' := 191) rfl (hb hby at_178) rfl ((if0 _ _).trans (teq (by decide : (0 : Int32) = (0 : Int32))).1) (by decide) (by decide)) ?_
        show own_Fin p e below _ (T64.setTop (mkF m 191 #[.val (.long q1), .second, .val (.long q2), .second, .val (.int p3), .val (.int p4), .val (.long d41), .second, .val (.long mx44), .second, .val (.long mx46), .second, .val (.ref b48), .val (.long g64), .second, .val (.int (0 : Int32))] []))
        refine own_on (fun t => XS.iconst X64.here hx rfl (hb hby at_191)) ?_
        show own_Fin p e below _ (T64.setTop (mkF m 192 #[.val (.long q1), .second, .val (.long q2), .second, .val (.int p3), .val (.int p4), .val (.long d41), .second, .val (.long mx44), .second, .val (.long mx46), .second, .val (.ref b48), .val (.long g64), .second, .val (.int (0 : Int32))] [(.int (1 : Int32))]))
        refine own_on (fun t => XS.goto X64.here hx rfl (pc0 := 192) (pc' := 196) rfl (hb hby at_192) (by decide) (by decide)) ?_
        show own_Fin p e below _ (T64.setTop (mkF m 196 #[.val (.long q1), .second, .val (.long q2), .second, .val (.int p3), .val (.int p4), .val (.long d41), .second, .val (.long mx44), .second, .val (.long mx46), .second, .val (.ref b48), .val (.long g64), .second, .val (.int (0 : Int32))] [(.int (1 : Int32))]))
        exact own_retW (t := .boolean) X64 (Z := Z) (EL := own_EL) (a0 := a0) hx hlk hret rfl (Or.inl ⟨rfl, (by simp), _, rfl⟩) (hb hby at_196) hS0 (by rw [e64]; exact y59) hZ hEL (by rw [hh, e64]; exact y58) (⟨rfl, N64⟩) (by decide) (by decide)
    · refine own_on (fun t => XS.ifNo X45.here hx rfl (hb hby at_70) rfl ((if0 _ _).trans (feq hc47).1)) ?_
      show own_Fin p e below _ (T45.setTop (mkF m 73 #[.val (.long q1), .second, .val (.long q2), .second, .val (.int p3), .val (.int p4), .val (.long d41), .second, .val (.long mx44), .second, .val (.long mx46), .second, .unset, .unset, .unset, .unset] []))
      obtain ⟨T67, h67, X67, e67, E67, A67, D67, -, st67⟩ := newO X45 hx hZ hown (hw _ (List.mem_of_getElem? (i := 2) rfl)) (hw _ (List.mem_of_getElem? (i := 3) rfl)) (hw _ (List.mem_of_getElem? (i := 4) rfl)) e45 (g := (mkF m 73 #[.val (.long q1), .second, .val (.long q2), .second, .val (.int p3), .val (.int p4), .val (.long d41), .second, .val (.long mx44), .second, .val (.long mx46), .second, .unset, .unset, .unset, .unset] [])) rfl (hb hby at_73) (by decide) (by decide)
      obtain ⟨b67, g67⟩ : ∃ z, z = h0.size := ⟨_, rfl⟩
      rw [← g67] at A67 D67 st67
      have y68 := (CHv.ext E67 CH0)
      have y69 := (CHr.trans (CHr.refl CH0) (CHr.ext E67 CH0))
      have y70 := (Nat.le_trans (Nat.zero_le _) E67.1)
      have y71 := (O.ext E67)
      have y72 := (Nat.le_trans Z0 E67.1)
      have y73 := (Safe.ext E67 CH0 (Safe.new (Nat.le_of_eq g67.symm)))
      have gn67 : n0 ≤ b67 := Nat.le_trans Z0 (Nat.le_of_eq g67.symm)
      have F67_kind : Fld Z h67 b67 "com/example/confluent_streams/confluentstreams/Window" "kind" "Lcom/example/confluent_streams/confluentstreams/Window$Kind;" .null := D67 (Or.inr (hw _ (List.mem_of_getElem? (i := 28) rfl))) (ty := (.object "com/example/confluent_streams/confluentstreams/Window$Kind")) (by decide)
      have F67_size : Fld Z h67 b67 "com/example/confluent_streams/confluentstreams/Window" "size" "J" (.long (0 : Int64)) := D67 (Or.inr (hw _ (List.mem_of_getElem? (i := 30) rfl))) (ty := .long) (by decide)
      have F67_step : Fld Z h67 b67 "com/example/confluent_streams/confluentstreams/Window" "step" "J" (.long (0 : Int64)) := D67 (Or.inr (hw _ (List.mem_of_getElem? (i := 32) rfl))) (ty := .long) (by decide)
      have F67_on : Fld Z h67 b67 "com/example/confluent_streams/confluentstreams/Window" "on" "Ljava/lang/String;" .null := D67 (Or.inr (hw _ (List.mem_of_getElem? (i := 34) rfl))) (ty := (.object "java/lang/String")) (by decide)
      refine own_on st67 ?_
      show own_Fin p e below _ (T67.setTop (mkF m 76 #[.val (.long q1), .second, .val (.long q2), .second, .val (.int p3), .val (.int p4), .val (.long d41), .second, .val (.long mx44), .second, .val (.long mx46), .second, .unset, .unset, .unset, .unset] [(.ref b67)]))
      refine own_on (fun t => XS.dup X67.here hx rfl (hb hby at_76) rfl rfl) ?_
      show own_Fin p e below _ (T67.setTop (mkF m 77 #[.val (.long q1), .second, .val (.long q2), .second, .val (.int p3), .val (.int p4), .val (.long d41), .second, .val (.long mx44), .second, .val (.long mx46), .second, .unset, .unset, .unset, .unset] [(.ref b67), (.ref b67)]))
      obtain ⟨T74, X74, e74, st74⟩ := getS2 X67 hx hZ hown (host := "") (Or.inl (hw _ (List.mem_of_getElem? (i := 5) rfl))) Via.refl e67 (SR.ext y71.2) (g := (mkF m 77 #[.val (.long q1), .second, .val (.long q2), .second, .val (.int p3), .val (.int p4), .val (.long d41), .second, .val (.long mx44), .second, .val (.long mx46), .second, .unset, .unset, .unset, .unset] [(.ref b67), (.ref b67)])) rfl (hb hby at_77)
      refine own_on st74 ?_
      show own_Fin p e below _ (T74.setTop (mkF m 80 #[.val (.long q1), .second, .val (.long q2), .second, .val (.int p3), .val (.int p4), .val (.long d41), .second, .val (.long mx44), .second, .val (.long mx46), .second, .unset, .unset, .unset, .unset] [(.ref kR), (.ref b67), (.ref b67)]))
      refine own_on (fun t => XS.lload X74.here hx rfl (hb hby at_80) rfl) ?_
      show own_Fin p e below _ (T74.setTop (mkF m 82 #[.val (.long q1), .second, .val (.long q2), .second, .val (.int p3), .val (.int p4), .val (.long d41), .second, .val (.long mx44), .second, .val (.long mx46), .second, .unset, .unset, .unset, .unset] [(.long mx44), (.ref kR), (.ref b67), (.ref b67)]))
      refine own_on (fun t => XS.lload X74.here hx rfl (hb hby at_82) rfl) ?_
      show own_Fin p e below _ (T74.setTop (mkF m 84 #[.val (.long q1), .second, .val (.long q2), .second, .val (.int p3), .val (.int p4), .val (.long d41), .second, .val (.long mx44), .second, .val (.long mx46), .second, .unset, .unset, .unset, .unset] [(.long mx46), (.long mx44), (.ref kR), (.ref b67), (.ref b67)]))
      obtain ⟨a75, T75, h75, k75, X75, e75, E75, hS75, hk75, hZ75, hown75, A75, Lt75, st75⟩ := ldcOH X74 hx hZ hown (hw _ (List.mem_of_getElem? (i := 8) rfl)) wS e74 hS0 y70 hEL y68 (g := (mkF m 84 #[.val (.long q1), .second, .val (.long q2), .second, .val (.int p3), .val (.int p4), .val (.long d41), .second, .val (.long mx44), .second, .val (.long mx46), .second, .unset, .unset, .unset, .unset] [(.long mx46), (.long mx44), (.ref kR), (.ref b67), (.ref b67)])) rfl (hb hby at_84) (n := 4) (by decide) (by decide) (by decide) (by decide)
      have y76 := (y71.ext E75)
      have y77 := (Nat.le_trans y72 E75.1)
      have y78 := (A67.ext E75)
      have y79 := (F67_kind.ext E75)
      have y80 := (F67_size.ext E75)
      have y81 := (F67_step.ext E75)
      have y82 := (F67_on.ext E75)
      have y83 := (CHr.safe A75 A67.lt y73)
      have y84 := (CHr.trans y69 A75)
      have y85 := (And.left A75)
      refine own_on st75 ?_
      show own_Fin p e below _ (T75.setTop (mkF m 86 #[.val (.long q1), .second, .val (.long q2), .second, .val (.int p3), .val (.int p4), .val (.long d41), .second, .val (.long mx44), .second, .val (.long mx46), .second, .unset, .unset, .unset, .unset] [(.ref a75), (.long mx46), (.long mx44), (.ref kR), (.ref b67), (.ref b67)]))
      obtain ⟨_, _, ⟨T86, L86, k86, n86⟩, -, X86, ⟨Lc86, hQ86, l86, y86, z86⟩, st86⟩ := X75.specialBack hx (y := (⟨"com/example/confluent_streams/confluentstreams/Window", "<init>", "(Lcom/example/confluent_streams/confluentstreams/Window$Kind;JJLjava/lang/String;)V"⟩ : MethodName)) rfl hown75 (mvT hZ75 (hw _ (List.mem_of_getElem? (i := 16) rfl))) (mvT hZ75 (hw _ (List.mem_of_getElem? (i := 17) rfl))) (mvT hZ75 (hw _ (List.mem_of_getElem? (i := 18) rfl))) (by decide) (backOf (W := 1) (rm1 l Z a0 hw [] b67 kR mx44 mx46 (.ref a75) h75 n0 (by exact y77) rfl y78 y79 y80 y81 y82 gn67) hZ75 (hw _ (List.mem_of_getElem? (i := 18) rfl)) (hw _ (List.mem_of_getElem? (i := 4) rfl)) (by decide) (by decide)) (g := (mkF m 86 #[.val (.long q1), .second, .val (.long q2), .second, .val (.int p3), .val (.int p4), .val (.long d41), .second, .val (.long mx44), .second, .val (.long mx46), .second, .unset, .unset, .unset, .unset] [(.ref a75), (.long mx46), (.long mx44), (.ref kR), (.ref b67), (.ref b67)])) rfl (by rw [hml]; rfl) (Steps.refl _) (a := b67) (argsL := [(.ref kR), (.long mx44), (.long mx46), (.ref a75)]) (rest := [(.ref b67)]) (lenOf pd_2 rfl) rfl (by show 2 * 0 + _ ≤ _; exact Nat.le_of_eq rfl) (hb hby at_86) (fun _ _ => ⟨rfl, e75, (by decide : 3 + 0 ≤ _), (by decide : 12 + 0 ≤ _)⟩)
      dsimp only [Pt.U, Pt.locs, Pt.cells, Pt.slots] at X86 l86 y86 z86 st86 hQ86
      subst l86 y86 z86
      obtain ⟨rfl, N86q, K86, E86q, F86a, F86b⟩ := hQ86
      have N86 := Fr.app N45 N86q
      have y87 := (y76.keep K86 (allS gn67 all0))
      have y88 := (Nat.le_trans y77 K86.1)
      have y89 := (y78.keep K86)
      have y90 := (Safe.keep K86 (sfS y83 sf0) y85 y83)
      have y91 := (CHr.trans y84 (CHr.keep K86 (sfS y83 sf0) y85))
      have y92 := (CHv.keep K86 (sfS y83 sf0) y85)
      have y93 := (Nat.le_trans hk75 K86.1)
      refine own_via st86 ?_
      show own_Fin p e below _ (T86.setTop (mkF m 89 #[.val (.long q1), .second, .val (.long q2), .second, .val (.int p3), .val (.int p4), .val (.long d41), .second, .val (.long mx44), .second, .val (.long mx46), .second, .unset, .unset, .unset, .unset] [(.ref b67)]))
      refine own_on (fun t => XS.astore X86.here hx rfl (hb hby at_89) rfl rfl (l' := #[.val (.long q1), .second, .val (.long q2), .second, .val (.int p3), .val (.int p4), .val (.long d41), .second, .val (.long mx44), .second, .val (.long mx46), .second, .val (.ref b67), .unset, .unset, .unset]) rfl) ?_
      show own_Fin p e below _ (T86.setTop (mkF m 91 #[.val (.long q1), .second, .val (.long q2), .second, .val (.int p3), .val (.int p4), .val (.long d41), .second, .val (.long mx44), .second, .val (.long mx46), .second, .val (.ref b67), .unset, .unset, .unset] []))
      refine own_on (fun t => XS.goto X86.here hx rfl (pc0 := 91) (pc' := 111) rfl (hb hby at_91) (by decide) (by decide)) ?_
      show own_Fin p e below _ (T86.setTop (mkF m 111 #[.val (.long q1), .second, .val (.long q2), .second, .val (.int p3), .val (.int p4), .val (.long d41), .second, .val (.long mx44), .second, .val (.long mx46), .second, .val (.ref b67), .unset, .unset, .unset] []))
      refine own_on (fun t => XS.aload X86.here hx rfl (hb hby at_111) rfl rfl) ?_
      show own_Fin p e below _ (T86.setTop (mkF m 113 #[.val (.long q1), .second, .val (.long q2), .second, .val (.int p3), .val (.int p4), .val (.long d41), .second, .val (.long mx44), .second, .val (.long mx46), .second, .val (.ref b67), .unset, .unset, .unset] [(.ref b67)]))
      obtain ⟨cq94, kq94, q94a, q94b, q94c⟩ := isOf hZ75 rfl y89
      obtain ⟨_, _, ⟨T94, L94, k94, n94⟩, -, X94, ⟨Lc94, hQ94, l94, y94, z94⟩, st94⟩ := X86.virtualBack hx (y := (⟨"com/example/confluent_streams/confluentstreams/Window", "paneSize", "()J"⟩ : MethodName)) (z := (⟨"com/example/confluent_streams/confluentstreams/Window", "paneSize", "()J"⟩ : MethodName)) hown75 (mvT hZ75 (hw _ (List.mem_of_getElem? (i := 35) rfl))) (mvT hZ75 (hw _ (List.mem_of_getElem? (i := 36) rfl))) (notFace_of_selects (args := #[]) (mvT hZ75 (hw _ (List.mem_of_getElem? (i := 38) rfl)))) (mvT hZ75 (hw _ (List.mem_of_getElem? (i := 38) rfl))) (mvT hZ75 (hw _ (List.mem_of_getElem? (i := 37) rfl))) (by decide) (backOf (W := 0) (rm4 l Z a0 hw [] b67 mx44 mx46 T86.heap n0 (by exact y88) F86a F86b pmx44 (Int.le_of_lt pmx46)) hZ75 (hw _ (List.mem_of_getElem? (i := 39) rfl)) (hw _ (List.mem_of_getElem? (i := 4) rfl)) (by decide) (by decide)) q94a q94c (g := (mkF m 113 #[.val (.long q1), .second, .val (.long q2), .second, .val (.int p3), .val (.int p4), .val (.long d41), .second, .val (.long mx44), .second, .val (.long mx46), .second, .val (.ref b67), .unset, .unset, .unset] [(.ref b67)])) rfl (by rw [hml]; rfl) (Steps.refl _) (argsL := []) (rest := []) (lenOf pd_3 rfl) rfl (by show 2 * 0 + _ ≤ _; exact Nat.le_of_eq rfl) (hb hby at_113) (fun _ _ => ⟨rfl, rfl, (by decide : 3 + 0 ≤ _), (by decide : 12 + 0 ≤ _)⟩)
      dsimp only [Pt.U, Pt.locs, Pt.cells, Pt.slots] at X94 l94 y94 z94 st94 hQ94
      subst l94 y94 z94
      obtain ⟨g94, rfl, N94q, e94, hg94⟩ := hQ94
      have N94 := Fr.app N86 N94q
      refine own_via st94 ?_
      have dv94 := own_gcdv pmx44 pmx46 hg94
      show own_Fin p e below _ (T94.setTop (mkF m 116 #[.val (.long q1), .second, .val (.long q2), .second, .val (.int p3), .val (.int p4), .val (.long d41), .second, .val (.long mx44), .second, .val (.long mx46), .second, .val (.ref b67), .unset, .unset, .unset] [(.long g94)]))
      refine own_on (fun t => XS.lstore X94.here hx rfl (hb hby at_116) rfl (l' := #[.val (.long q1), .second, .val (.long q2), .second, .val (.int p3), .val (.int p4), .val (.long d41), .second, .val (.long mx44), .second, .val (.long mx46), .second, .val (.ref b67), .val (.long g94), .second, .unset]) rfl) ?_
      show own_Fin p e below _ (T94.setTop (mkF m 118 #[.val (.long q1), .second, .val (.long q2), .second, .val (.int p3), .val (.int p4), .val (.long d41), .second, .val (.long mx44), .second, .val (.long mx46), .second, .val (.ref b67), .val (.long g94), .second, .unset] []))
      refine own_on (fun t => XS.lload X94.here hx rfl (hb hby at_118) rfl) ?_
      show own_Fin p e below _ (T94.setTop (mkF m 120 #[.val (.long q1), .second, .val (.long q2), .second, .val (.int p3), .val (.int p4), .val (.long d41), .second, .val (.long mx44), .second, .val (.long mx46), .second, .val (.ref b67), .val (.long g94), .second, .unset] [(.long g94)]))
      refine own_on (fun t => XS.lconst X94.here hx rfl (hb hby at_120)) ?_
      show own_Fin p e below _ (T94.setTop (mkF m 121 #[.val (.long q1), .second, .val (.long q2), .second, .val (.int p3), .val (.int p4), .val (.long d41), .second, .val (.long mx44), .second, .val (.long mx46), .second, .val (.ref b67), .val (.long g94), .second, .unset] [(.long (0 : Int64)), (.long g94)]))
      refine own_on (fun t => XS.lcmp X94.here hx rfl (hb hby at_121) rfl) ?_
      show own_Fin p e below _ (T94.setTop (mkF m 122 #[.val (.long q1), .second, .val (.long q2), .second, .val (.int p3), .val (.int p4), .val (.long d41), .second, .val (.long mx44), .second, .val (.long mx46), .second, .val (.ref b67), .val (.long g94), .second, .unset] [(.int (lcmpW g94 (0 : Int64)))]))
      refine own_on (fun t => XS.ifYes X94.here hx rfl (pc0 := 122) (pc' := 127) rfl (hb hby at_122) rfl ((if0 _ _).trans (tlt (own_gt dv94.1)).2.2.1) (by decide) (by decide)) ?_
      show own_Fin p e below _ (T94.setTop (mkF m 127 #[.val (.long q1), .second, .val (.long q2), .second, .val (.int p3), .val (.int p4), .val (.long d41), .second, .val (.long mx44), .second, .val (.long mx46), .second, .val (.ref b67), .val (.long g94), .second, .unset] []))
      refine own_on (fun t => XS.lload X94.here hx rfl (hb hby at_127) rfl) ?_
      show own_Fin p e below _ (T94.setTop (mkF m 129 #[.val (.long q1), .second, .val (.long q2), .second, .val (.int p3), .val (.int p4), .val (.long d41), .second, .val (.long mx44), .second, .val (.long mx46), .second, .val (.ref b67), .val (.long g94), .second, .unset] [(.long mx44)]))
      refine own_on (fun t => XS.lload X94.here hx rfl (hb hby at_129) rfl) ?_
      show own_Fin p e below _ (T94.setTop (mkF m 131 #[.val (.long q1), .second, .val (.long q2), .second, .val (.int p3), .val (.int p4), .val (.long d41), .second, .val (.long mx44), .second, .val (.long mx46), .second, .val (.ref b67), .val (.long g94), .second, .unset] [(.long g94), (.long mx44)]))
      refine own_on (fun t => XS.lrem X94.here hx rfl (hb hby at_131) rfl (own_ne0 dv94.1)) ?_
      show own_Fin p e below _ (T94.setTop (mkF m 132 #[.val (.long q1), .second, .val (.long q2), .second, .val (.int p3), .val (.int p4), .val (.long d41), .second, .val (.long mx44), .second, .val (.long mx46), .second, .val (.ref b67), .val (.long g94), .second, .unset] [(.long (mx44 - (mx44 / g94) * g94))]))
      refine own_on (fun t => XS.lconst X94.here hx rfl (hb hby at_132)) ?_
      show own_Fin p e below _ (T94.setTop (mkF m 133 #[.val (.long q1), .second, .val (.long q2), .second, .val (.int p3), .val (.int p4), .val (.long d41), .second, .val (.long mx44), .second, .val (.long mx46), .second, .val (.ref b67), .val (.long g94), .second, .unset] [(.long (0 : Int64)), (.long (mx44 - (mx44 / g94) * g94))]))
      refine own_on (fun t => XS.lcmp X94.here hx rfl (hb hby at_133) rfl) ?_
      show own_Fin p e below _ (T94.setTop (mkF m 134 #[.val (.long q1), .second, .val (.long q2), .second, .val (.int p3), .val (.int p4), .val (.long d41), .second, .val (.long mx44), .second, .val (.long mx46), .second, .val (.ref b67), .val (.long g94), .second, .unset] [(.int (lcmpW (mx44 - (mx44 / g94) * g94) (0 : Int64)))]))
      refine own_on (fun t => XS.ifNo X94.here hx rfl (hb hby at_134) rfl ((if0 _ _).trans (teq (own_lr0 (Int.le_of_lt pmx44) dv94.2.1)).2)) ?_
      show own_Fin p e below _ (T94.setTop (mkF m 137 #[.val (.long q1), .second, .val (.long q2), .second, .val (.int p3), .val (.int p4), .val (.long d41), .second, .val (.long mx44), .second, .val (.long mx46), .second, .val (.ref b67), .val (.long g94), .second, .unset] []))
      refine own_on (fun t => XS.lload X94.here hx rfl (hb hby at_137) rfl) ?_
      show own_Fin p e below _ (T94.setTop (mkF m 139 #[.val (.long q1), .second, .val (.long q2), .second, .val (.int p3), .val (.int p4), .val (.long d41), .second, .val (.long mx44), .second, .val (.long mx46), .second, .val (.ref b67), .val (.long g94), .second, .unset] [(.long mx46)]))
      refine own_on (fun t => XS.lload X94.here hx rfl (hb hby at_139) rfl) ?_
      show own_Fin p e below _ (T94.setTop (mkF m 141 #[.val (.long q1), .second, .val (.long q2), .second, .val (.int p3), .val (.int p4), .val (.long d41), .second, .val (.long mx44), .second, .val (.long mx46), .second, .val (.ref b67), .val (.long g94), .second, .unset] [(.long g94), (.long mx46)]))
      refine own_on (fun t => XS.lrem X94.here hx rfl (hb hby at_141) rfl (own_ne0 dv94.1)) ?_
      show own_Fin p e below _ (T94.setTop (mkF m 142 #[.val (.long q1), .second, .val (.long q2), .second, .val (.int p3), .val (.int p4), .val (.long d41), .second, .val (.long mx44), .second, .val (.long mx46), .second, .val (.ref b67), .val (.long g94), .second, .unset] [(.long (mx46 - (mx46 / g94) * g94))]))
      refine own_on (fun t => XS.lconst X94.here hx rfl (hb hby at_142)) ?_
      show own_Fin p e below _ (T94.setTop (mkF m 143 #[.val (.long q1), .second, .val (.long q2), .second, .val (.int p3), .val (.int p4), .val (.long d41), .second, .val (.long mx44), .second, .val (.long mx46), .second, .val (.ref b67), .val (.long g94), .second, .unset] [(.long (0 : Int64)), (.long (mx46 - (mx46 / g94) * g94))]))
      refine own_on (fun t => XS.lcmp X94.here hx rfl (hb hby at_143) rfl) ?_
      show own_Fin p e below _ (T94.setTop (mkF m 144 #[.val (.long q1), .second, .val (.long q2), .second, .val (.int p3), .val (.int p4), .val (.long d41), .second, .val (.long mx44), .second, .val (.long mx46), .second, .val (.ref b67), .val (.long g94), .second, .unset] [(.int (lcmpW (mx46 - (mx46 / g94) * g94) (0 : Int64)))]))
      refine own_on (fun t => XS.ifYes X94.here hx rfl (pc0 := 144) (pc' := 149) rfl (hb hby at_144) rfl ((if0 _ _).trans (teq (own_lr0 (Int.le_of_lt pmx46) dv94.2.2.1)).1) (by decide) (by decide)) ?_
      show own_Fin p e below _ (T94.setTop (mkF m 149 #[.val (.long q1), .second, .val (.long q2), .second, .val (.int p3), .val (.int p4), .val (.long d41), .second, .val (.long mx44), .second, .val (.long mx46), .second, .val (.ref b67), .val (.long g94), .second, .unset] []))
      refine own_on (fun t => XS.lload X94.here hx rfl (hb hby at_149) rfl) ?_
      show own_Fin p e below _ (T94.setTop (mkF m 151 #[.val (.long q1), .second, .val (.long q2), .second, .val (.int p3), .val (.int p4), .val (.long d41), .second, .val (.long mx44), .second, .val (.long mx46), .second, .val (.ref b67), .val (.long g94), .second, .unset] [(.long mx44)]))
      refine own_on (fun t => XS.lload X94.here hx rfl (hb hby at_151) rfl) ?_
      show own_Fin p e below _ (T94.setTop (mkF m 153 #[.val (.long q1), .second, .val (.long q2), .second, .val (.int p3), .val (.int p4), .val (.long d41), .second, .val (.long mx44), .second, .val (.long mx46), .second, .val (.ref b67), .val (.long g94), .second, .unset] [(.long d41), (.long mx44)]))
      refine own_on (fun t => XS.lrem X94.here hx rfl (hb hby at_153) rfl (own_ne0 (Int.lt_of_lt_of_le (by decide) pd41.1))) ?_
      show own_Fin p e below _ (T94.setTop (mkF m 154 #[.val (.long q1), .second, .val (.long q2), .second, .val (.int p3), .val (.int p4), .val (.long d41), .second, .val (.long mx44), .second, .val (.long mx46), .second, .val (.ref b67), .val (.long g94), .second, .unset] [(.long (mx44 - (mx44 / d41) * d41))]))
      refine own_on (fun t => XS.lconst X94.here hx rfl (hb hby at_154)) ?_
      show own_Fin p e below _ (T94.setTop (mkF m 155 #[.val (.long q1), .second, .val (.long q2), .second, .val (.int p3), .val (.int p4), .val (.long d41), .second, .val (.long mx44), .second, .val (.long mx46), .second, .val (.ref b67), .val (.long g94), .second, .unset] [(.long (0 : Int64)), (.long (mx44 - (mx44 / d41) * d41))]))
      refine own_on (fun t => XS.lcmp X94.here hx rfl (hb hby at_155) rfl) ?_
      show own_Fin p e below _ (T94.setTop (mkF m 156 #[.val (.long q1), .second, .val (.long q2), .second, .val (.int p3), .val (.int p4), .val (.long d41), .second, .val (.long mx44), .second, .val (.long mx46), .second, .val (.ref b67), .val (.long g94), .second, .unset] [(.int (lcmpW (mx44 - (mx44 / d41) * d41) (0 : Int64)))]))
      by_cases hc95 : (lcmpW (mx44 - (mx44 / d41) * d41) (0 : Int64)) = (0 : Int32)
      · refine own_on (fun t => XS.ifNo X94.here hx rfl (hb hby at_156) rfl ((if0 _ _).trans (teq hc95).2)) ?_
        show own_Fin p e below _ (T94.setTop (mkF m 159 #[.val (.long q1), .second, .val (.long q2), .second, .val (.int p3), .val (.int p4), .val (.long d41), .second, .val (.long mx44), .second, .val (.long mx46), .second, .val (.ref b67), .val (.long g94), .second, .unset] []))
        refine own_on (fun t => XS.lload X94.here hx rfl (hb hby at_159) rfl) ?_
        show own_Fin p e below _ (T94.setTop (mkF m 161 #[.val (.long q1), .second, .val (.long q2), .second, .val (.int p3), .val (.int p4), .val (.long d41), .second, .val (.long mx44), .second, .val (.long mx46), .second, .val (.ref b67), .val (.long g94), .second, .unset] [(.long mx46)]))
        refine own_on (fun t => XS.lload X94.here hx rfl (hb hby at_161) rfl) ?_
        show own_Fin p e below _ (T94.setTop (mkF m 163 #[.val (.long q1), .second, .val (.long q2), .second, .val (.int p3), .val (.int p4), .val (.long d41), .second, .val (.long mx44), .second, .val (.long mx46), .second, .val (.ref b67), .val (.long g94), .second, .unset] [(.long d41), (.long mx46)]))
        refine own_on (fun t => XS.lrem X94.here hx rfl (hb hby at_163) rfl (own_ne0 (Int.lt_of_lt_of_le (by decide) pd41.1))) ?_
        show own_Fin p e below _ (T94.setTop (mkF m 164 #[.val (.long q1), .second, .val (.long q2), .second, .val (.int p3), .val (.int p4), .val (.long d41), .second, .val (.long mx44), .second, .val (.long mx46), .second, .val (.ref b67), .val (.long g94), .second, .unset] [(.long (mx46 - (mx46 / d41) * d41))]))
        refine own_on (fun t => XS.lconst X94.here hx rfl (hb hby at_164)) ?_
        show own_Fin p e below _ (T94.setTop (mkF m 165 #[.val (.long q1), .second, .val (.long q2), .second, .val (.int p3), .val (.int p4), .val (.long d41), .second, .val (.long mx44), .second, .val (.long mx46), .second, .val (.ref b67), .val (.long g94), .second, .unset] [(.long (0 : Int64)), (.long (mx46 - (mx46 / d41) * d41))]))
        refine own_on (fun t => XS.lcmp X94.here hx rfl (hb hby at_165) rfl) ?_
        show own_Fin p e below _ (T94.setTop (mkF m 166 #[.val (.long q1), .second, .val (.long q2), .second, .val (.int p3), .val (.int p4), .val (.long d41), .second, .val (.long mx44), .second, .val (.long mx46), .second, .val (.ref b67), .val (.long g94), .second, .unset] [(.int (lcmpW (mx46 - (mx46 / d41) * d41) (0 : Int64)))]))
        by_cases hc96 : (lcmpW (mx46 - (mx46 / d41) * d41) (0 : Int64)) = (0 : Int32)
        · refine own_on (fun t => XS.ifNo X94.here hx rfl (hb hby at_166) rfl ((if0 _ _).trans (teq hc96).2)) ?_
          show own_Fin p e below _ (T94.setTop (mkF m 169 #[.val (.long q1), .second, .val (.long q2), .second, .val (.int p3), .val (.int p4), .val (.long d41), .second, .val (.long mx44), .second, .val (.long mx46), .second, .val (.ref b67), .val (.long g94), .second, .unset] []))
          refine own_on (fun t => XS.iconst X94.here hx rfl (hb hby at_169)) ?_
          show own_Fin p e below _ (T94.setTop (mkF m 170 #[.val (.long q1), .second, .val (.long q2), .second, .val (.int p3), .val (.int p4), .val (.long d41), .second, .val (.long mx44), .second, .val (.long mx46), .second, .val (.ref b67), .val (.long g94), .second, .unset] [(.int (1 : Int32))]))
          refine own_on (fun t => XS.goto X94.here hx rfl (pc0 := 170) (pc' := 174) rfl (hb hby at_170) (by decide) (by decide)) ?_
          show own_Fin p e below _ (T94.setTop (mkF m 174 #[.val (.long q1), .second, .val (.long q2), .second, .val (.int p3), .val (.int p4), .val (.long d41), .second, .val (.long mx44), .second, .val (.long mx46), .second, .val (.ref b67), .val (.long g94), .second, .unset] [(.int (1 : Int32))]))
          refine own_on (fun t => XS.istore X94.here hx rfl (hb hby at_174) rfl (l' := #[.val (.long q1), .second, .val (.long q2), .second, .val (.int p3), .val (.int p4), .val (.long d41), .second, .val (.long mx44), .second, .val (.long mx46), .second, .val (.ref b67), .val (.long g94), .second, .val (.int (1 : Int32))]) rfl) ?_
          show own_Fin p e below _ (T94.setTop (mkF m 176 #[.val (.long q1), .second, .val (.long q2), .second, .val (.int p3), .val (.int p4), .val (.long d41), .second, .val (.long mx44), .second, .val (.long mx46), .second, .val (.ref b67), .val (.long g94), .second, .val (.int (1 : Int32))] []))
          refine own_on (fun t => XS.iload X94.here hx rfl (hb hby at_176) rfl) ?_
          show own_Fin p e below _ (T94.setTop (mkF m 178 #[.val (.long q1), .second, .val (.long q2), .second, .val (.int p3), .val (.int p4), .val (.long d41), .second, .val (.long mx44), .second, .val (.long mx46), .second, .val (.ref b67), .val (.long g94), .second, .val (.int (1 : Int32))] [(.int (1 : Int32))]))
          refine own_on (fun t => XS.ifNo X94.here hx rfl (hb hby at_178) rfl ((if0 _ _).trans (feq (by decide : ¬ ((1 : Int32) = (0 : Int32)))).1)) ?_
          show own_Fin p e below _ (T94.setTop (mkF m 181 #[.val (.long q1), .second, .val (.long q2), .second, .val (.int p3), .val (.int p4), .val (.long d41), .second, .val (.long mx44), .second, .val (.long mx46), .second, .val (.ref b67), .val (.long g94), .second, .val (.int (1 : Int32))] []))
          refine own_on (fun t => XS.lload X94.here hx rfl (hb hby at_181) rfl) ?_
          show own_Fin p e below _ (T94.setTop (mkF m 183 #[.val (.long q1), .second, .val (.long q2), .second, .val (.int p3), .val (.int p4), .val (.long d41), .second, .val (.long mx44), .second, .val (.long mx46), .second, .val (.ref b67), .val (.long g94), .second, .val (.int (1 : Int32))] [(.long g94)]))
          refine own_on (fun t => XS.lload X94.here hx rfl (hb hby at_183) rfl) ?_
          show own_Fin p e below _ (T94.setTop (mkF m 185 #[.val (.long q1), .second, .val (.long q2), .second, .val (.int p3), .val (.int p4), .val (.long d41), .second, .val (.long mx44), .second, .val (.long mx46), .second, .val (.ref b67), .val (.long g94), .second, .val (.int (1 : Int32))] [(.long d41), (.long g94)]))
          refine own_on (fun t => XS.lrem X94.here hx rfl (hb hby at_185) rfl (own_ne0 (Int.lt_of_lt_of_le (by decide) pd41.1))) ?_
          show own_Fin p e below _ (T94.setTop (mkF m 186 #[.val (.long q1), .second, .val (.long q2), .second, .val (.int p3), .val (.int p4), .val (.long d41), .second, .val (.long mx44), .second, .val (.long mx46), .second, .val (.ref b67), .val (.long g94), .second, .val (.int (1 : Int32))] [(.long (g94 - (g94 / d41) * d41))]))
          refine own_on (fun t => XS.lconst X94.here hx rfl (hb hby at_186)) ?_
          show own_Fin p e below _ (T94.setTop (mkF m 187 #[.val (.long q1), .second, .val (.long q2), .second, .val (.int p3), .val (.int p4), .val (.long d41), .second, .val (.long mx44), .second, .val (.long mx46), .second, .val (.ref b67), .val (.long g94), .second, .val (.int (1 : Int32))] [(.long (0 : Int64)), (.long (g94 - (g94 / d41) * d41))]))
          refine own_on (fun t => XS.lcmp X94.here hx rfl (hb hby at_187) rfl) ?_
          show own_Fin p e below _ (T94.setTop (mkF m 188 #[.val (.long q1), .second, .val (.long q2), .second, .val (.int p3), .val (.int p4), .val (.long d41), .second, .val (.long mx44), .second, .val (.long mx46), .second, .val (.ref b67), .val (.long g94), .second, .val (.int (1 : Int32))] [(.int (lcmpW (g94 - (g94 / d41) * d41) (0 : Int64)))]))
          refine own_on (fun t => XS.ifNo X94.here hx rfl (hb hby at_188) rfl ((if0 _ _).trans (teq (own_lr0 (Int.le_of_lt dv94.1) (dv94.2.2.2 _ (Int.lt_of_lt_of_le (by decide) pd41.1) (own_lr1 (Int.le_of_lt pmx44) hc95) (own_lr1 (Int.le_of_lt pmx46) hc96)))).2)) ?_
          show own_Fin p e below _ (T94.setTop (mkF m 191 #[.val (.long q1), .second, .val (.long q2), .second, .val (.int p3), .val (.int p4), .val (.long d41), .second, .val (.long mx44), .second, .val (.long mx46), .second, .val (.ref b67), .val (.long g94), .second, .val (.int (1 : Int32))] []))
          refine own_on (fun t => XS.iconst X94.here hx rfl (hb hby at_191)) ?_
          show own_Fin p e below _ (T94.setTop (mkF m 192 #[.val (.long q1), .second, .val (.long q2), .second, .val (.int p3), .val (.int p4), .val (.long d41), .second, .val (.long mx44), .second, .val (.long mx46), .second, .val (.ref b67), .val (.long g94), .second, .val (.int (1 : Int32))] [(.int (1 : Int32))]))
          refine own_on (fun t => XS.goto X94.here hx rfl (pc0 := 192) (pc' := 196) rfl (hb hby at_192) (by decide) (by decide)) ?_
          show own_Fin p e below _ (T94.setTop (mkF m 196 #[.val (.long q1), .second, .val (.long q2), .second, .val (.int p3), .val (.int p4), .val (.long d41), .second, .val (.long mx44), .second, .val (.long mx46), .second, .val (.ref b67), .val (.long g94), .second, .val (.int (1 : Int32))] [(.int (1 : Int32))]))
          exact own_retW (t := .boolean) X94 (Z := Z) (EL := own_EL) (a0 := a0) hx hlk hret rfl (Or.inl ⟨rfl, (by simp), _, rfl⟩) (hb hby at_196) hS75 (by rw [e94]; exact y93) hZ75 hEL (by rw [hh, e94]; exact y91) (⟨rfl, N94⟩) (by decide) (by decide)
        · refine own_on (fun t => XS.ifYes X94.here hx rfl (pc0 := 166) (pc' := 173) rfl (hb hby at_166) rfl ((if0 _ _).trans (feq hc96).2) (by decide) (by decide)) ?_
          show own_Fin p e below _ (T94.setTop (mkF m 173 #[.val (.long q1), .second, .val (.long q2), .second, .val (.int p3), .val (.int p4), .val (.long d41), .second, .val (.long mx44), .second, .val (.long mx46), .second, .val (.ref b67), .val (.long g94), .second, .unset] []))
          refine own_on (fun t => XS.iconst X94.here hx rfl (hb hby at_173)) ?_
          show own_Fin p e below _ (T94.setTop (mkF m 174 #[.val (.long q1), .second, .val (.long q2), .second, .val (.int p3), .val (.int p4), .val (.long d41), .second, .val (.long mx44), .second, .val (.long mx46), .second, .val (.ref b67), .val (.long g94), .second, .unset] [(.int (0 : Int32))]))
          refine own_on (fun t => XS.istore X94.here hx rfl (hb hby at_174) rfl (l' := #[.val (.long q1), .second, .val (.long q2), .second, .val (.int p3), .val (.int p4), .val (.long d41), .second, .val (.long mx44), .second, .val (.long mx46), .second, .val (.ref b67), .val (.long g94), .second, .val (.int (0 : Int32))]) rfl) ?_
          show own_Fin p e below _ (T94.setTop (mkF m 176 #[.val (.long q1), .second, .val (.long q2), .second, .val (.int p3), .val (.int p4), .val (.long d41), .second, .val (.long mx44), .second, .val (.long mx46), .second, .val (.ref b67), .val (.long g94), .second, .val (.int (0 : Int32))] []))
          refine own_on (fun t => XS.iload X94.here hx rfl (hb hby at_176) rfl) ?_
          show own_Fin p e below _ (T94.setTop (mkF m 178 #[.val (.long q1), .second, .val (.long q2), .second, .val (.int p3), .val (.int p4), .val (.long d41), .second, .val (.long mx44), .second, .val (.long mx46), .second, .val (.ref b67), .val (.long g94), .second, .val (.int (0 : Int32))] [(.int (0 : Int32))]))
          refine own_on (fun t => XS.ifYes X94.here hx rfl (pc0 := 178) (pc' := 191) rfl (hb hby at_178) rfl ((if0 _ _).trans (teq (by decide : (0 : Int32) = (0 : Int32))).1) (by decide) (by decide)) ?_
          show own_Fin p e below _ (T94.setTop (mkF m 191 #[.val (.long q1), .second, .val (.long q2), .second, .val (.int p3), .val (.int p4), .val (.long d41), .second, .val (.long mx44), .second, .val (.long mx46), .second, .val (.ref b67), .val (.long g94), .second, .val (.int (0 : Int32))] []))
          refine own_on (fun t => XS.iconst X94.here hx rfl (hb hby at_191)) ?_
          show own_Fin p e below _ (T94.setTop (mkF m 192 #[.val (.long q1), .second, .val (.long q2), .second, .val (.int p3), .val (.int p4), .val (.long d41), .second, .val (.long mx44), .second, .val (.long mx46), .second, .val (.ref b67), .val (.long g94), .second, .val (.int (0 : Int32))] [(.int (1 : Int32))]))
          refine own_on (fun t => XS.goto X94.here hx rfl (pc0 := 192) (pc' := 196) rfl (hb hby at_192) (by decide) (by decide)) ?_
          show own_Fin p e below _ (T94.setTop (mkF m 196 #[.val (.long q1), .second, .val (.long q2), .second, .val (.int p3), .val (.int p4), .val (.long d41), .second, .val (.long mx44), .second, .val (.long mx46), .second, .val (.ref b67), .val (.long g94), .second, .val (.int (0 : Int32))] [(.int (1 : Int32))]))
          exact own_retW (t := .boolean) X94 (Z := Z) (EL := own_EL) (a0 := a0) hx hlk hret rfl (Or.inl ⟨rfl, (by simp), _, rfl⟩) (hb hby at_196) hS75 (by rw [e94]; exact y93) hZ75 hEL (by rw [hh, e94]; exact y91) (⟨rfl, N94⟩) (by decide) (by decide)
      · refine own_on (fun t => XS.ifYes X94.here hx rfl (pc0 := 156) (pc' := 173) rfl (hb hby at_156) rfl ((if0 _ _).trans (feq hc95).2) (by decide) (by decide)) ?_
        show own_Fin p e below _ (T94.setTop (mkF m 173 #[.val (.long q1), .second, .val (.long q2), .second, .val (.int p3), .val (.int p4), .val (.long d41), .second, .val (.long mx44), .second, .val (.long mx46), .second, .val (.ref b67), .val (.long g94), .second, .unset] []))
        refine own_on (fun t => XS.iconst X94.here hx rfl (hb hby at_173)) ?_
        show own_Fin p e below _ (T94.setTop (mkF m 174 #[.val (.long q1), .second, .val (.long q2), .second, .val (.int p3), .val (.int p4), .val (.long d41), .second, .val (.long mx44), .second, .val (.long mx46), .second, .val (.ref b67), .val (.long g94), .second, .unset] [(.int (0 : Int32))]))
        refine own_on (fun t => XS.istore X94.here hx rfl (hb hby at_174) rfl (l' := #[.val (.long q1), .second, .val (.long q2), .second, .val (.int p3), .val (.int p4), .val (.long d41), .second, .val (.long mx44), .second, .val (.long mx46), .second, .val (.ref b67), .val (.long g94), .second, .val (.int (0 : Int32))]) rfl) ?_
        show own_Fin p e below _ (T94.setTop (mkF m 176 #[.val (.long q1), .second, .val (.long q2), .second, .val (.int p3), .val (.int p4), .val (.long d41), .second, .val (.long mx44), .second, .val (.long mx46), .second, .val (.ref b67), .val (.long g94), .second, .val (.int (0 : Int32))] []))
        refine own_on (fun t => XS.iload X94.here hx rfl (hb hby at_176) rfl) ?_
        show own_Fin p e below _ (T94.setTop (mkF m 178 #[.val (.long q1), .second, .val (.long q2), .second, .val (.int p3), .val (.int p4), .val (.long d41), .second, .val (.long mx44), .second, .val (.long mx46), .second, .val (.ref b67), .val (.long g94), .second, .val (.int (0 : Int32))] [(.int (0 : Int32))]))
        refine own_on (fun t => XS.ifYes X94.here hx rfl (pc0 := 178) (pc' := 191) rfl (hb hby at_178) rfl ((if0 _ _).trans (teq (by decide : (0 : Int32) = (0 : Int32))).1) (by decide) (by decide)) ?_
        show own_Fin p e below _ (T94.setTop (mkF m 191 #[.val (.long q1), .second, .val (.long q2), .second, .val (.int p3), .val (.int p4), .val (.long d41), .second, .val (.long mx44), .second, .val (.long mx46), .second, .val (.ref b67), .val (.long g94), .second, .val (.int (0 : Int32))] []))
        refine own_on (fun t => XS.iconst X94.here hx rfl (hb hby at_191)) ?_
        show own_Fin p e below _ (T94.setTop (mkF m 192 #[.val (.long q1), .second, .val (.long q2), .second, .val (.int p3), .val (.int p4), .val (.long d41), .second, .val (.long mx44), .second, .val (.long mx46), .second, .val (.ref b67), .val (.long g94), .second, .val (.int (0 : Int32))] [(.int (1 : Int32))]))
        refine own_on (fun t => XS.goto X94.here hx rfl (pc0 := 192) (pc' := 196) rfl (hb hby at_192) (by decide) (by decide)) ?_
        show own_Fin p e below _ (T94.setTop (mkF m 196 #[.val (.long q1), .second, .val (.long q2), .second, .val (.int p3), .val (.int p4), .val (.long d41), .second, .val (.long mx44), .second, .val (.long mx46), .second, .val (.ref b67), .val (.long g94), .second, .val (.int (0 : Int32))] [(.int (1 : Int32))]))
        exact own_retW (t := .boolean) X94 (Z := Z) (EL := own_EL) (a0 := a0) hx hlk hret rfl (Or.inl ⟨rfl, (by simp), _, rfl⟩) (hb hby at_196) hS75 (by rw [e94]; exact y93) hZ75 hEL (by rw [hh, e94]; exact y91) (⟨rfl, N94⟩) (by decide) (by decide)
  · refine own_on (fun t => XS.ifNo X0.here hx rfl (hb hby at_14) rfl ((if0 _ _).trans (feq hc42).1)) ?_
    show own_Fin p e below _ (s₁.setTop (mkF m 17 #[.val (.long q1), .second, .val (.long q2), .second, .val (.int p3), .val (.int p4), .val (.long d41), .second, .unset, .unset, .unset, .unset, .unset, .unset, .unset, .unset] []))
    refine own_on (fun t => XS.lload X0.here hx rfl (hb hby at_17) rfl) ?_
    show own_Fin p e below _ (s₁.setTop (mkF m 19 #[.val (.long q1), .second, .val (.long q2), .second, .val (.int p3), .val (.int p4), .val (.long d41), .second, .unset, .unset, .unset, .unset, .unset, .unset, .unset, .unset] [(.long d41)]))
    refine own_on (fun t => XS.lloadN X0.here hx rfl (hb hby at_19) rfl) ?_
    show own_Fin p e below _ (s₁.setTop (mkF m 20 #[.val (.long q1), .second, .val (.long q2), .second, .val (.int p3), .val (.int p4), .val (.long d41), .second, .unset, .unset, .unset, .unset, .unset, .unset, .unset, .unset] [(.long q1), (.long d41)]))
    refine own_on (fun t => X0.ldc2Long hx hown (mvT hZ (hw _ (List.mem_of_getElem? (i := 1) rfl))) (g := (mkF m 20 #[.val (.long q1), .second, .val (.long q2), .second, .val (.int p3), .val (.int p4), .val (.long d41), .second, .unset, .unset, .unset, .unset, .unset, .unset, .unset, .unset] [(.long q1), (.long d41)])) rfl (hb hby at_20) t) ?_
    show own_Fin p e below _ (s₁.setTop (mkF m 23 #[.val (.long q1), .second, .val (.long q2), .second, .val (.int p3), .val (.int p4), .val (.long d41), .second, .unset, .unset, .unset, .unset, .unset, .unset, .unset, .unset] [(.long (2147483647 : Int64)), (.long q1), (.long d41)]))
    refine own_on (fun t => XS.land X0.here hx rfl (hb hby at_23) rfl) ?_
    show own_Fin p e below _ (s₁.setTop (mkF m 24 #[.val (.long q1), .second, .val (.long q2), .second, .val (.int p3), .val (.int p4), .val (.long d41), .second, .unset, .unset, .unset, .unset, .unset, .unset, .unset, .unset] [(.long (q1 &&& (2147483647 : Int64))), (.long d41)]))
    refine own_on (fun t => XS.lconst X0.here hx rfl (hb hby at_24)) ?_
    show own_Fin p e below _ (s₁.setTop (mkF m 25 #[.val (.long q1), .second, .val (.long q2), .second, .val (.int p3), .val (.int p4), .val (.long d41), .second, .unset, .unset, .unset, .unset, .unset, .unset, .unset, .unset] [(.long (1 : Int64)), (.long (q1 &&& (2147483647 : Int64))), (.long d41)]))
    refine own_on (fun t => XS.ladd X0.here hx rfl (hb hby at_25) rfl) ?_
    show own_Fin p e below _ (s₁.setTop (mkF m 26 #[.val (.long q1), .second, .val (.long q2), .second, .val (.int p3), .val (.int p4), .val (.long d41), .second, .unset, .unset, .unset, .unset, .unset, .unset, .unset, .unset] [(.long ((q1 &&& (2147483647 : Int64)) + (1 : Int64))), (.long d41)]))
    refine own_on (fun t => XS.lmul X0.here hx rfl (hb hby at_26) rfl) ?_
    show own_Fin p e below _ (s₁.setTop (mkF m 27 #[.val (.long q1), .second, .val (.long q2), .second, .val (.int p3), .val (.int p4), .val (.long d41), .second, .unset, .unset, .unset, .unset, .unset, .unset, .unset, .unset] [(.long (d41 * ((q1 &&& (2147483647 : Int64)) + (1 : Int64))))]))
    obtain ⟨sz97, hsz97⟩ : ∃ z : Int64, z = (d41 * ((q1 &&& (2147483647 : Int64)) + (1 : Int64))) := ⟨_, rfl⟩
    rw [← hsz97]
    have psz97 : 0 < sz97.toInt := own_s pd41 hsz97
    show own_Fin p e below _ (s₁.setTop (mkF m 27 #[.val (.long q1), .second, .val (.long q2), .second, .val (.int p3), .val (.int p4), .val (.long d41), .second, .unset, .unset, .unset, .unset, .unset, .unset, .unset, .unset] [(.long sz97)]))
    refine own_on (fun t => XS.lstore X0.here hx rfl (hb hby at_27) rfl (l' := #[.val (.long q1), .second, .val (.long q2), .second, .val (.int p3), .val (.int p4), .val (.long d41), .second, .val (.long sz97), .second, .unset, .unset, .unset, .unset, .unset, .unset]) rfl) ?_
    show own_Fin p e below _ (s₁.setTop (mkF m 29 #[.val (.long q1), .second, .val (.long q2), .second, .val (.int p3), .val (.int p4), .val (.long d41), .second, .val (.long sz97), .second, .unset, .unset, .unset, .unset, .unset, .unset] []))
    refine own_on (fun t => XS.lload X0.here hx rfl (hb hby at_29) rfl) ?_
    show own_Fin p e below _ (s₁.setTop (mkF m 31 #[.val (.long q1), .second, .val (.long q2), .second, .val (.int p3), .val (.int p4), .val (.long d41), .second, .val (.long sz97), .second, .unset, .unset, .unset, .unset, .unset, .unset] [(.long d41)]))
    refine own_on (fun t => XS.lloadN X0.here hx rfl (hb hby at_31) rfl) ?_
    show own_Fin p e below _ (s₁.setTop (mkF m 32 #[.val (.long q1), .second, .val (.long q2), .second, .val (.int p3), .val (.int p4), .val (.long d41), .second, .val (.long sz97), .second, .unset, .unset, .unset, .unset, .unset, .unset] [(.long q2), (.long d41)]))
    refine own_on (fun t => X0.ldc2Long hx hown (mvT hZ (hw _ (List.mem_of_getElem? (i := 1) rfl))) (g := (mkF m 32 #[.val (.long q1), .second, .val (.long q2), .second, .val (.int p3), .val (.int p4), .val (.long d41), .second, .val (.long sz97), .second, .unset, .unset, .unset, .unset, .unset, .unset] [(.long q2), (.long d41)])) rfl (hb hby at_32) t) ?_
    show own_Fin p e below _ (s₁.setTop (mkF m 35 #[.val (.long q1), .second, .val (.long q2), .second, .val (.int p3), .val (.int p4), .val (.long d41), .second, .val (.long sz97), .second, .unset, .unset, .unset, .unset, .unset, .unset] [(.long (2147483647 : Int64)), (.long q2), (.long d41)]))
    refine own_on (fun t => XS.land X0.here hx rfl (hb hby at_35) rfl) ?_
    show own_Fin p e below _ (s₁.setTop (mkF m 36 #[.val (.long q1), .second, .val (.long q2), .second, .val (.int p3), .val (.int p4), .val (.long d41), .second, .val (.long sz97), .second, .unset, .unset, .unset, .unset, .unset, .unset] [(.long (q2 &&& (2147483647 : Int64))), (.long d41)]))
    refine own_on (fun t => XS.lconst X0.here hx rfl (hb hby at_36)) ?_
    show own_Fin p e below _ (s₁.setTop (mkF m 37 #[.val (.long q1), .second, .val (.long q2), .second, .val (.int p3), .val (.int p4), .val (.long d41), .second, .val (.long sz97), .second, .unset, .unset, .unset, .unset, .unset, .unset] [(.long (1 : Int64)), (.long (q2 &&& (2147483647 : Int64))), (.long d41)]))
    refine own_on (fun t => XS.ladd X0.here hx rfl (hb hby at_37) rfl) ?_
    show own_Fin p e below _ (s₁.setTop (mkF m 38 #[.val (.long q1), .second, .val (.long q2), .second, .val (.int p3), .val (.int p4), .val (.long d41), .second, .val (.long sz97), .second, .unset, .unset, .unset, .unset, .unset, .unset] [(.long ((q2 &&& (2147483647 : Int64)) + (1 : Int64))), (.long d41)]))
    refine own_on (fun t => XS.lmul X0.here hx rfl (hb hby at_38) rfl) ?_
    show own_Fin p e below _ (s₁.setTop (mkF m 39 #[.val (.long q1), .second, .val (.long q2), .second, .val (.int p3), .val (.int p4), .val (.long d41), .second, .val (.long sz97), .second, .unset, .unset, .unset, .unset, .unset, .unset] [(.long (d41 * ((q2 &&& (2147483647 : Int64)) + (1 : Int64))))]))
    obtain ⟨st98, hst98⟩ : ∃ z : Int64, z = (d41 * ((q2 &&& (2147483647 : Int64)) + (1 : Int64))) := ⟨_, rfl⟩
    rw [← hst98]
    have pst98 : 0 < st98.toInt := own_s pd41 hst98
    show own_Fin p e below _ (s₁.setTop (mkF m 39 #[.val (.long q1), .second, .val (.long q2), .second, .val (.int p3), .val (.int p4), .val (.long d41), .second, .val (.long sz97), .second, .unset, .unset, .unset, .unset, .unset, .unset] [(.long st98)]))
    refine own_on (fun t => XS.lstore X0.here hx rfl (hb hby at_39) rfl (l' := #[.val (.long q1), .second, .val (.long q2), .second, .val (.int p3), .val (.int p4), .val (.long d41), .second, .val (.long sz97), .second, .val (.long st98), .second, .unset, .unset, .unset, .unset]) rfl) ?_
    show own_Fin p e below _ (s₁.setTop (mkF m 41 #[.val (.long q1), .second, .val (.long q2), .second, .val (.int p3), .val (.int p4), .val (.long d41), .second, .val (.long sz97), .second, .val (.long st98), .second, .unset, .unset, .unset, .unset] []))
    refine own_on (fun t => XS.goto X0.here hx rfl (pc0 := 41) (pc' := 66) rfl (hb hby at_41) (by decide) (by decide)) ?_
    show own_Fin p e below _ (s₁.setTop (mkF m 66 #[.val (.long q1), .second, .val (.long q2), .second, .val (.int p3), .val (.int p4), .val (.long d41), .second, .val (.long sz97), .second, .val (.long st98), .second, .unset, .unset, .unset, .unset] []))
    refine own_on (fun t => XS.iload X0.here hx rfl (hb hby at_66) rfl) ?_
    show own_Fin p e below _ (s₁.setTop (mkF m 68 #[.val (.long q1), .second, .val (.long q2), .second, .val (.int p3), .val (.int p4), .val (.long d41), .second, .val (.long sz97), .second, .val (.long st98), .second, .unset, .unset, .unset, .unset] [(.int p4)]))
    refine own_on (fun t => XS.iconst X0.here hx rfl (hb hby at_68)) ?_
    show own_Fin p e below _ (s₁.setTop (mkF m 69 #[.val (.long q1), .second, .val (.long q2), .second, .val (.int p3), .val (.int p4), .val (.long d41), .second, .val (.long sz97), .second, .val (.long st98), .second, .unset, .unset, .unset, .unset] [(.int (2 : Int32)), (.int p4)]))
    refine own_on (fun t => XS.iand X0.here hx rfl (hb hby at_69) rfl) ?_
    show own_Fin p e below _ (s₁.setTop (mkF m 70 #[.val (.long q1), .second, .val (.long q2), .second, .val (.int p3), .val (.int p4), .val (.long d41), .second, .val (.long sz97), .second, .val (.long st98), .second, .unset, .unset, .unset, .unset] [(.int (p4 &&& (2 : Int32)))]))
    by_cases hc99 : (p4 &&& (2 : Int32)) = (0 : Int32)
    · refine own_on (fun t => XS.ifYes X0.here hx rfl (pc0 := 70) (pc' := 94) rfl (hb hby at_70) rfl ((if0 _ _).trans (teq hc99).1) (by decide) (by decide)) ?_
      show own_Fin p e below _ (s₁.setTop (mkF m 94 #[.val (.long q1), .second, .val (.long q2), .second, .val (.int p3), .val (.int p4), .val (.long d41), .second, .val (.long sz97), .second, .val (.long st98), .second, .unset, .unset, .unset, .unset] []))
      obtain ⟨T100, h100, X100, e100, E100, A100, D100, -, st100⟩ := newO X0 hx hZ hown (hw _ (List.mem_of_getElem? (i := 2) rfl)) (hw _ (List.mem_of_getElem? (i := 3) rfl)) (hw _ (List.mem_of_getElem? (i := 4) rfl)) e0 (g := (mkF m 94 #[.val (.long q1), .second, .val (.long q2), .second, .val (.int p3), .val (.int p4), .val (.long d41), .second, .val (.long sz97), .second, .val (.long st98), .second, .unset, .unset, .unset, .unset] [])) rfl (hb hby at_94) (by decide) (by decide)
      obtain ⟨b100, g100⟩ : ∃ z, z = h0.size := ⟨_, rfl⟩
      rw [← g100] at A100 D100 st100
      have y101 := (CHv.ext E100 CH0)
      have y102 := (CHr.trans (CHr.refl CH0) (CHr.ext E100 CH0))
      have y103 := (Nat.le_trans (Nat.zero_le _) E100.1)
      have y104 := (O.ext E100)
      have y105 := (Nat.le_trans Z0 E100.1)
      have y106 := (Safe.ext E100 CH0 (Safe.new (Nat.le_of_eq g100.symm)))
      have gn100 : n0 ≤ b100 := Nat.le_trans Z0 (Nat.le_of_eq g100.symm)
      have F100_kind : Fld Z h100 b100 "com/example/confluent_streams/confluentstreams/Window" "kind" "Lcom/example/confluent_streams/confluentstreams/Window$Kind;" .null := D100 (Or.inr (hw _ (List.mem_of_getElem? (i := 28) rfl))) (ty := (.object "com/example/confluent_streams/confluentstreams/Window$Kind")) (by decide)
      have F100_size : Fld Z h100 b100 "com/example/confluent_streams/confluentstreams/Window" "size" "J" (.long (0 : Int64)) := D100 (Or.inr (hw _ (List.mem_of_getElem? (i := 30) rfl))) (ty := .long) (by decide)
      have F100_step : Fld Z h100 b100 "com/example/confluent_streams/confluentstreams/Window" "step" "J" (.long (0 : Int64)) := D100 (Or.inr (hw _ (List.mem_of_getElem? (i := 32) rfl))) (ty := .long) (by decide)
      have F100_on : Fld Z h100 b100 "com/example/confluent_streams/confluentstreams/Window" "on" "Ljava/lang/String;" .null := D100 (Or.inr (hw _ (List.mem_of_getElem? (i := 34) rfl))) (ty := (.object "java/lang/String")) (by decide)
      refine own_on st100 ?_
      show own_Fin p e below _ (T100.setTop (mkF m 97 #[.val (.long q1), .second, .val (.long q2), .second, .val (.int p3), .val (.int p4), .val (.long d41), .second, .val (.long sz97), .second, .val (.long st98), .second, .unset, .unset, .unset, .unset] [(.ref b100)]))
      refine own_on (fun t => XS.dup X100.here hx rfl (hb hby at_97) rfl rfl) ?_
      show own_Fin p e below _ (T100.setTop (mkF m 98 #[.val (.long q1), .second, .val (.long q2), .second, .val (.int p3), .val (.int p4), .val (.long d41), .second, .val (.long sz97), .second, .val (.long st98), .second, .unset, .unset, .unset, .unset] [(.ref b100), (.ref b100)]))
      obtain ⟨T107, X107, e107, st107⟩ := getS2 X100 hx hZ hown (host := "") (Or.inl (hw _ (List.mem_of_getElem? (i := 48) rfl))) Via.refl e100 (SW.ext y104.2) (g := (mkF m 98 #[.val (.long q1), .second, .val (.long q2), .second, .val (.int p3), .val (.int p4), .val (.long d41), .second, .val (.long sz97), .second, .val (.long st98), .second, .unset, .unset, .unset, .unset] [(.ref b100), (.ref b100)])) rfl (hb hby at_98)
      refine own_on st107 ?_
      show own_Fin p e below _ (T107.setTop (mkF m 101 #[.val (.long q1), .second, .val (.long q2), .second, .val (.int p3), .val (.int p4), .val (.long d41), .second, .val (.long sz97), .second, .val (.long st98), .second, .unset, .unset, .unset, .unset] [(.ref kW), (.ref b100), (.ref b100)]))
      refine own_on (fun t => XS.lload X107.here hx rfl (hb hby at_101) rfl) ?_
      show own_Fin p e below _ (T107.setTop (mkF m 103 #[.val (.long q1), .second, .val (.long q2), .second, .val (.int p3), .val (.int p4), .val (.long d41), .second, .val (.long sz97), .second, .val (.long st98), .second, .unset, .unset, .unset, .unset] [(.long sz97), (.ref kW), (.ref b100), (.ref b100)]))
      refine own_on (fun t => XS.lload X107.here hx rfl (hb hby at_103) rfl) ?_
      show own_Fin p e below _ (T107.setTop (mkF m 105 #[.val (.long q1), .second, .val (.long q2), .second, .val (.int p3), .val (.int p4), .val (.long d41), .second, .val (.long sz97), .second, .val (.long st98), .second, .unset, .unset, .unset, .unset] [(.long st98), (.long sz97), (.ref kW), (.ref b100), (.ref b100)]))
      refine own_on (fun t => XS.aconstNull X107.here hx rfl (hb hby at_105)) ?_
      show own_Fin p e below _ (T107.setTop (mkF m 106 #[.val (.long q1), .second, .val (.long q2), .second, .val (.int p3), .val (.int p4), .val (.long d41), .second, .val (.long sz97), .second, .val (.long st98), .second, .unset, .unset, .unset, .unset] [.null, (.long st98), (.long sz97), (.ref kW), (.ref b100), (.ref b100)]))
      obtain ⟨_, _, ⟨T108, L108, k108, n108⟩, -, X108, ⟨Lc108, hQ108, l108, y108, z108⟩, st108⟩ := X107.specialBack hx (y := (⟨"com/example/confluent_streams/confluentstreams/Window", "<init>", "(Lcom/example/confluent_streams/confluentstreams/Window$Kind;JJLjava/lang/String;)V"⟩ : MethodName)) rfl hown (mvT hZ (hw _ (List.mem_of_getElem? (i := 16) rfl))) (mvT hZ (hw _ (List.mem_of_getElem? (i := 17) rfl))) (mvT hZ (hw _ (List.mem_of_getElem? (i := 18) rfl))) (by decide) (backOf (W := 1) (rm1 l Z a0 hw [] b100 kW sz97 st98 .null h100 n0 (by exact y105) rfl A100 F100_kind F100_size F100_step F100_on gn100) hZ (hw _ (List.mem_of_getElem? (i := 18) rfl)) (hw _ (List.mem_of_getElem? (i := 4) rfl)) (by decide) (by decide)) (g := (mkF m 106 #[.val (.long q1), .second, .val (.long q2), .second, .val (.int p3), .val (.int p4), .val (.long d41), .second, .val (.long sz97), .second, .val (.long st98), .second, .unset, .unset, .unset, .unset] [.null, (.long st98), (.long sz97), (.ref kW), (.ref b100), (.ref b100)])) rfl (by rw [hml]; rfl) (Steps.refl _) (a := b100) (argsL := [(.ref kW), (.long sz97), (.long st98), .null]) (rest := [(.ref b100)]) (lenOf pd_2 rfl) rfl (by show 2 * 0 + _ ≤ _; exact Nat.le_of_eq rfl) (hb hby at_106) (fun _ _ => ⟨rfl, e107, (by decide : 1 + 0 ≤ _), (by decide : 4 + 0 ≤ _)⟩)
      dsimp only [Pt.U, Pt.locs, Pt.cells, Pt.slots] at X108 l108 y108 z108 st108 hQ108
      subst l108 y108 z108
      obtain ⟨rfl, N108q, K108, E108q, F108a, F108b⟩ := hQ108
      have N108 := Fr.app N0 N108q
      have y109 := (CHv.keep K108 (sfS y106 sf0) y101)
      have y110 := (CHr.trans y102 (CHr.keep K108 (sfS y106 sf0) y101))
      have y111 := (Nat.le_trans y103 K108.1)
      have y112 := (y104.keep K108 (allS gn100 all0))
      have y113 := (Nat.le_trans y105 K108.1)
      have y114 := (Safe.keep K108 (sfS y106 sf0) y101 y106)
      have y115 := (A100.keep K108)
      refine own_via st108 ?_
      show own_Fin p e below _ (T108.setTop (mkF m 109 #[.val (.long q1), .second, .val (.long q2), .second, .val (.int p3), .val (.int p4), .val (.long d41), .second, .val (.long sz97), .second, .val (.long st98), .second, .unset, .unset, .unset, .unset] [(.ref b100)]))
      refine own_on (fun t => XS.astore X108.here hx rfl (hb hby at_109) rfl rfl (l' := #[.val (.long q1), .second, .val (.long q2), .second, .val (.int p3), .val (.int p4), .val (.long d41), .second, .val (.long sz97), .second, .val (.long st98), .second, .val (.ref b100), .unset, .unset, .unset]) rfl) ?_
      show own_Fin p e below _ (T108.setTop (mkF m 111 #[.val (.long q1), .second, .val (.long q2), .second, .val (.int p3), .val (.int p4), .val (.long d41), .second, .val (.long sz97), .second, .val (.long st98), .second, .val (.ref b100), .unset, .unset, .unset] []))
      refine own_on (fun t => XS.aload X108.here hx rfl (hb hby at_111) rfl rfl) ?_
      show own_Fin p e below _ (T108.setTop (mkF m 113 #[.val (.long q1), .second, .val (.long q2), .second, .val (.int p3), .val (.int p4), .val (.long d41), .second, .val (.long sz97), .second, .val (.long st98), .second, .val (.ref b100), .unset, .unset, .unset] [(.ref b100)]))
      obtain ⟨cq116, kq116, q116a, q116b, q116c⟩ := isOf hZ rfl y115
      obtain ⟨_, _, ⟨T116, L116, k116, n116⟩, -, X116, ⟨Lc116, hQ116, l116, y116, z116⟩, st116⟩ := X108.virtualBack hx (y := (⟨"com/example/confluent_streams/confluentstreams/Window", "paneSize", "()J"⟩ : MethodName)) (z := (⟨"com/example/confluent_streams/confluentstreams/Window", "paneSize", "()J"⟩ : MethodName)) hown (mvT hZ (hw _ (List.mem_of_getElem? (i := 35) rfl))) (mvT hZ (hw _ (List.mem_of_getElem? (i := 36) rfl))) (notFace_of_selects (args := #[]) (mvT hZ (hw _ (List.mem_of_getElem? (i := 38) rfl)))) (mvT hZ (hw _ (List.mem_of_getElem? (i := 38) rfl))) (mvT hZ (hw _ (List.mem_of_getElem? (i := 37) rfl))) (by decide) (backOf (W := 0) (rm4 l Z a0 hw [] b100 sz97 st98 T108.heap n0 (by exact y113) F108a F108b psz97 (Int.le_of_lt pst98)) hZ (hw _ (List.mem_of_getElem? (i := 39) rfl)) (hw _ (List.mem_of_getElem? (i := 4) rfl)) (by decide) (by decide)) q116a q116c (g := (mkF m 113 #[.val (.long q1), .second, .val (.long q2), .second, .val (.int p3), .val (.int p4), .val (.long d41), .second, .val (.long sz97), .second, .val (.long st98), .second, .val (.ref b100), .unset, .unset, .unset] [(.ref b100)])) rfl (by rw [hml]; rfl) (Steps.refl _) (argsL := []) (rest := []) (lenOf pd_3 rfl) rfl (by show 2 * 0 + _ ≤ _; exact Nat.le_of_eq rfl) (hb hby at_113) (fun _ _ => ⟨rfl, rfl, (by decide : 1 + 0 ≤ _), (by decide : 4 + 0 ≤ _)⟩)
      dsimp only [Pt.U, Pt.locs, Pt.cells, Pt.slots] at X116 l116 y116 z116 st116 hQ116
      subst l116 y116 z116
      obtain ⟨g116, rfl, N116q, e116, hg116⟩ := hQ116
      have N116 := Fr.app N108 N116q
      refine own_via st116 ?_
      have dv116 := own_gcdv psz97 pst98 hg116
      show own_Fin p e below _ (T116.setTop (mkF m 116 #[.val (.long q1), .second, .val (.long q2), .second, .val (.int p3), .val (.int p4), .val (.long d41), .second, .val (.long sz97), .second, .val (.long st98), .second, .val (.ref b100), .unset, .unset, .unset] [(.long g116)]))
      refine own_on (fun t => XS.lstore X116.here hx rfl (hb hby at_116) rfl (l' := #[.val (.long q1), .second, .val (.long q2), .second, .val (.int p3), .val (.int p4), .val (.long d41), .second, .val (.long sz97), .second, .val (.long st98), .second, .val (.ref b100), .val (.long g116), .second, .unset]) rfl) ?_
      show own_Fin p e below _ (T116.setTop (mkF m 118 #[.val (.long q1), .second, .val (.long q2), .second, .val (.int p3), .val (.int p4), .val (.long d41), .second, .val (.long sz97), .second, .val (.long st98), .second, .val (.ref b100), .val (.long g116), .second, .unset] []))
      refine own_on (fun t => XS.lload X116.here hx rfl (hb hby at_118) rfl) ?_
      show own_Fin p e below _ (T116.setTop (mkF m 120 #[.val (.long q1), .second, .val (.long q2), .second, .val (.int p3), .val (.int p4), .val (.long d41), .second, .val (.long sz97), .second, .val (.long st98), .second, .val (.ref b100), .val (.long g116), .second, .unset] [(.long g116)]))
      refine own_on (fun t => XS.lconst X116.here hx rfl (hb hby at_120)) ?_
      show own_Fin p e below _ (T116.setTop (mkF m 121 #[.val (.long q1), .second, .val (.long q2), .second, .val (.int p3), .val (.int p4), .val (.long d41), .second, .val (.long sz97), .second, .val (.long st98), .second, .val (.ref b100), .val (.long g116), .second, .unset] [(.long (0 : Int64)), (.long g116)]))
      refine own_on (fun t => XS.lcmp X116.here hx rfl (hb hby at_121) rfl) ?_
      show own_Fin p e below _ (T116.setTop (mkF m 122 #[.val (.long q1), .second, .val (.long q2), .second, .val (.int p3), .val (.int p4), .val (.long d41), .second, .val (.long sz97), .second, .val (.long st98), .second, .val (.ref b100), .val (.long g116), .second, .unset] [(.int (lcmpW g116 (0 : Int64)))]))
      refine own_on (fun t => XS.ifYes X116.here hx rfl (pc0 := 122) (pc' := 127) rfl (hb hby at_122) rfl ((if0 _ _).trans (tlt (own_gt dv116.1)).2.2.1) (by decide) (by decide)) ?_
      show own_Fin p e below _ (T116.setTop (mkF m 127 #[.val (.long q1), .second, .val (.long q2), .second, .val (.int p3), .val (.int p4), .val (.long d41), .second, .val (.long sz97), .second, .val (.long st98), .second, .val (.ref b100), .val (.long g116), .second, .unset] []))
      refine own_on (fun t => XS.lload X116.here hx rfl (hb hby at_127) rfl) ?_
      show own_Fin p e below _ (T116.setTop (mkF m 129 #[.val (.long q1), .second, .val (.long q2), .second, .val (.int p3), .val (.int p4), .val (.long d41), .second, .val (.long sz97), .second, .val (.long st98), .second, .val (.ref b100), .val (.long g116), .second, .unset] [(.long sz97)]))
      refine own_on (fun t => XS.lload X116.here hx rfl (hb hby at_129) rfl) ?_
      show own_Fin p e below _ (T116.setTop (mkF m 131 #[.val (.long q1), .second, .val (.long q2), .second, .val (.int p3), .val (.int p4), .val (.long d41), .second, .val (.long sz97), .second, .val (.long st98), .second, .val (.ref b100), .val (.long g116), .second, .unset] [(.long g116), (.long sz97)]))
      refine own_on (fun t => XS.lrem X116.here hx rfl (hb hby at_131) rfl (own_ne0 dv116.1)) ?_
      show own_Fin p e below _ (T116.setTop (mkF m 132 #[.val (.long q1), .second, .val (.long q2), .second, .val (.int p3), .val (.int p4), .val (.long d41), .second, .val (.long sz97), .second, .val (.long st98), .second, .val (.ref b100), .val (.long g116), .second, .unset] [(.long (sz97 - (sz97 / g116) * g116))]))
      refine own_on (fun t => XS.lconst X116.here hx rfl (hb hby at_132)) ?_
      show own_Fin p e below _ (T116.setTop (mkF m 133 #[.val (.long q1), .second, .val (.long q2), .second, .val (.int p3), .val (.int p4), .val (.long d41), .second, .val (.long sz97), .second, .val (.long st98), .second, .val (.ref b100), .val (.long g116), .second, .unset] [(.long (0 : Int64)), (.long (sz97 - (sz97 / g116) * g116))]))
      refine own_on (fun t => XS.lcmp X116.here hx rfl (hb hby at_133) rfl) ?_
      show own_Fin p e below _ (T116.setTop (mkF m 134 #[.val (.long q1), .second, .val (.long q2), .second, .val (.int p3), .val (.int p4), .val (.long d41), .second, .val (.long sz97), .second, .val (.long st98), .second, .val (.ref b100), .val (.long g116), .second, .unset] [(.int (lcmpW (sz97 - (sz97 / g116) * g116) (0 : Int64)))]))
      refine own_on (fun t => XS.ifNo X116.here hx rfl (hb hby at_134) rfl ((if0 _ _).trans (teq (own_lr0 (Int.le_of_lt psz97) dv116.2.1)).2)) ?_
      show own_Fin p e below _ (T116.setTop (mkF m 137 #[.val (.long q1), .second, .val (.long q2), .second, .val (.int p3), .val (.int p4), .val (.long d41), .second, .val (.long sz97), .second, .val (.long st98), .second, .val (.ref b100), .val (.long g116), .second, .unset] []))
      refine own_on (fun t => XS.lload X116.here hx rfl (hb hby at_137) rfl) ?_
      show own_Fin p e below _ (T116.setTop (mkF m 139 #[.val (.long q1), .second, .val (.long q2), .second, .val (.int p3), .val (.int p4), .val (.long d41), .second, .val (.long sz97), .second, .val (.long st98), .second, .val (.ref b100), .val (.long g116), .second, .unset] [(.long st98)]))
      refine own_on (fun t => XS.lload X116.here hx rfl (hb hby at_139) rfl) ?_
      show own_Fin p e below _ (T116.setTop (mkF m 141 #[.val (.long q1), .second, .val (.long q2), .second, .val (.int p3), .val (.int p4), .val (.long d41), .second, .val (.long sz97), .second, .val (.long st98), .second, .val (.ref b100), .val (.long g116), .second, .unset] [(.long g116), (.long st98)]))
      refine own_on (fun t => XS.lrem X116.here hx rfl (hb hby at_141) rfl (own_ne0 dv116.1)) ?_
      show own_Fin p e below _ (T116.setTop (mkF m 142 #[.val (.long q1), .second, .val (.long q2), .second, .val (.int p3), .val (.int p4), .val (.long d41), .second, .val (.long sz97), .second, .val (.long st98), .second, .val (.ref b100), .val (.long g116), .second, .unset] [(.long (st98 - (st98 / g116) * g116))]))
      refine own_on (fun t => XS.lconst X116.here hx rfl (hb hby at_142)) ?_
      show own_Fin p e below _ (T116.setTop (mkF m 143 #[.val (.long q1), .second, .val (.long q2), .second, .val (.int p3), .val (.int p4), .val (.long d41), .second, .val (.long sz97), .second, .val (.long st98), .second, .val (.ref b100), .val (.long g116), .second, .unset] [(.long (0 : Int64)), (.long (st98 - (st98 / g116) * g116))]))
      refine own_on (fun t => XS.lcmp X116.here hx rfl (hb hby at_143) rfl) ?_
      show own_Fin p e below _ (T116.setTop (mkF m 144 #[.val (.long q1), .second, .val (.long q2), .second, .val (.int p3), .val (.int p4), .val (.long d41), .second, .val (.long sz97), .second, .val (.long st98), .second, .val (.ref b100), .val (.long g116), .second, .unset] [(.int (lcmpW (st98 - (st98 / g116) * g116) (0 : Int64)))]))
      refine own_on (fun t => XS.ifYes X116.here hx rfl (pc0 := 144) (pc' := 149) rfl (hb hby at_144) rfl ((if0 _ _).trans (teq (own_lr0 (Int.le_of_lt pst98) dv116.2.2.1)).1) (by decide) (by decide)) ?_
      show own_Fin p e below _ (T116.setTop (mkF m 149 #[.val (.long q1), .second, .val (.long q2), .second, .val (.int p3), .val (.int p4), .val (.long d41), .second, .val (.long sz97), .second, .val (.long st98), .second, .val (.ref b100), .val (.long g116), .second, .unset] []))
      refine own_on (fun t => XS.lload X116.here hx rfl (hb hby at_149) rfl) ?_
      show own_Fin p e below _ (T116.setTop (mkF m 151 #[.val (.long q1), .second, .val (.long q2), .second, .val (.int p3), .val (.int p4), .val (.long d41), .second, .val (.long sz97), .second, .val (.long st98), .second, .val (.ref b100), .val (.long g116), .second, .unset] [(.long sz97)]))
      refine own_on (fun t => XS.lload X116.here hx rfl (hb hby at_151) rfl) ?_
      show own_Fin p e below _ (T116.setTop (mkF m 153 #[.val (.long q1), .second, .val (.long q2), .second, .val (.int p3), .val (.int p4), .val (.long d41), .second, .val (.long sz97), .second, .val (.long st98), .second, .val (.ref b100), .val (.long g116), .second, .unset] [(.long d41), (.long sz97)]))
      refine own_on (fun t => XS.lrem X116.here hx rfl (hb hby at_153) rfl (own_ne0 (Int.lt_of_lt_of_le (by decide) pd41.1))) ?_
      show own_Fin p e below _ (T116.setTop (mkF m 154 #[.val (.long q1), .second, .val (.long q2), .second, .val (.int p3), .val (.int p4), .val (.long d41), .second, .val (.long sz97), .second, .val (.long st98), .second, .val (.ref b100), .val (.long g116), .second, .unset] [(.long (sz97 - (sz97 / d41) * d41))]))
      refine own_on (fun t => XS.lconst X116.here hx rfl (hb hby at_154)) ?_
      show own_Fin p e below _ (T116.setTop (mkF m 155 #[.val (.long q1), .second, .val (.long q2), .second, .val (.int p3), .val (.int p4), .val (.long d41), .second, .val (.long sz97), .second, .val (.long st98), .second, .val (.ref b100), .val (.long g116), .second, .unset] [(.long (0 : Int64)), (.long (sz97 - (sz97 / d41) * d41))]))
      refine own_on (fun t => XS.lcmp X116.here hx rfl (hb hby at_155) rfl) ?_
      show own_Fin p e below _ (T116.setTop (mkF m 156 #[.val (.long q1), .second, .val (.long q2), .second, .val (.int p3), .val (.int p4), .val (.long d41), .second, .val (.long sz97), .second, .val (.long st98), .second, .val (.ref b100), .val (.long g116), .second, .unset] [(.int (lcmpW (sz97 - (sz97 / d41) * d41) (0 : Int64)))]))
      by_cases hc117 : (lcmpW (sz97 - (sz97 / d41) * d41) (0 : Int64)) = (0 : Int32)
      · refine own_on (fun t => XS.ifNo X116.here hx rfl (hb hby at_156) rfl ((if0 _ _).trans (teq hc117).2)) ?_
        show own_Fin p e below _ (T116.setTop (mkF m 159 #[.val (.long q1), .second, .val (.long q2), .second, .val (.int p3), .val (.int p4), .val (.long d41), .second, .val (.long sz97), .second, .val (.long st98), .second, .val (.ref b100), .val (.long g116), .second, .unset] []))
        refine own_on (fun t => XS.lload X116.here hx rfl (hb hby at_159) rfl) ?_
        show own_Fin p e below _ (T116.setTop (mkF m 161 #[.val (.long q1), .second, .val (.long q2), .second, .val (.int p3), .val (.int p4), .val (.long d41), .second, .val (.long sz97), .second, .val (.long st98), .second, .val (.ref b100), .val (.long g116), .second, .unset] [(.long st98)]))
        refine own_on (fun t => XS.lload X116.here hx rfl (hb hby at_161) rfl) ?_
        show own_Fin p e below _ (T116.setTop (mkF m 163 #[.val (.long q1), .second, .val (.long q2), .second, .val (.int p3), .val (.int p4), .val (.long d41), .second, .val (.long sz97), .second, .val (.long st98), .second, .val (.ref b100), .val (.long g116), .second, .unset] [(.long d41), (.long st98)]))
        refine own_on (fun t => XS.lrem X116.here hx rfl (hb hby at_163) rfl (own_ne0 (Int.lt_of_lt_of_le (by decide) pd41.1))) ?_
        show own_Fin p e below _ (T116.setTop (mkF m 164 #[.val (.long q1), .second, .val (.long q2), .second, .val (.int p3), .val (.int p4), .val (.long d41), .second, .val (.long sz97), .second, .val (.long st98), .second, .val (.ref b100), .val (.long g116), .second, .unset] [(.long (st98 - (st98 / d41) * d41))]))
        refine own_on (fun t => XS.lconst X116.here hx rfl (hb hby at_164)) ?_
        show own_Fin p e below _ (T116.setTop (mkF m 165 #[.val (.long q1), .second, .val (.long q2), .second, .val (.int p3), .val (.int p4), .val (.long d41), .second, .val (.long sz97), .second, .val (.long st98), .second, .val (.ref b100), .val (.long g116), .second, .unset] [(.long (0 : Int64)), (.long (st98 - (st98 / d41) * d41))]))
        refine own_on (fun t => XS.lcmp X116.here hx rfl (hb hby at_165) rfl) ?_
        show own_Fin p e below _ (T116.setTop (mkF m 166 #[.val (.long q1), .second, .val (.long q2), .second, .val (.int p3), .val (.int p4), .val (.long d41), .second, .val (.long sz97), .second, .val (.long st98), .second, .val (.ref b100), .val (.long g116), .second, .unset] [(.int (lcmpW (st98 - (st98 / d41) * d41) (0 : Int64)))]))
        by_cases hc118 : (lcmpW (st98 - (st98 / d41) * d41) (0 : Int64)) = (0 : Int32)
        · refine own_on (fun t => XS.ifNo X116.here hx rfl (hb hby at_166) rfl ((if0 _ _).trans (teq hc118).2)) ?_
          show own_Fin p e below _ (T116.setTop (mkF m 169 #[.val (.long q1), .second, .val (.long q2), .second, .val (.int p3), .val (.int p4), .val (.long d41), .second, .val (.long sz97), .second, .val (.long st98), .second, .val (.ref b100), .val (.long g116), .second, .unset] []))
          refine own_on (fun t => XS.iconst X116.here hx rfl (hb hby at_169)) ?_
          show own_Fin p e below _ (T116.setTop (mkF m 170 #[.val (.long q1), .second, .val (.long q2), .second, .val (.int p3), .val (.int p4), .val (.long d41), .second, .val (.long sz97), .second, .val (.long st98), .second, .val (.ref b100), .val (.long g116), .second, .unset] [(.int (1 : Int32))]))
          refine own_on (fun t => XS.goto X116.here hx rfl (pc0 := 170) (pc' := 174) rfl (hb hby at_170) (by decide) (by decide)) ?_
          show own_Fin p e below _ (T116.setTop (mkF m 174 #[.val (.long q1), .second, .val (.long q2), .second, .val (.int p3), .val (.int p4), .val (.long d41), .second, .val (.long sz97), .second, .val (.long st98), .second, .val (.ref b100), .val (.long g116), .second, .unset] [(.int (1 : Int32))]))
          refine own_on (fun t => XS.istore X116.here hx rfl (hb hby at_174) rfl (l' := #[.val (.long q1), .second, .val (.long q2), .second, .val (.int p3), .val (.int p4), .val (.long d41), .second, .val (.long sz97), .second, .val (.long st98), .second, .val (.ref b100), .val (.long g116), .second, .val (.int (1 : Int32))]) rfl) ?_
          show own_Fin p e below _ (T116.setTop (mkF m 176 #[.val (.long q1), .second, .val (.long q2), .second, .val (.int p3), .val (.int p4), .val (.long d41), .second, .val (.long sz97), .second, .val (.long st98), .second, .val (.ref b100), .val (.long g116), .second, .val (.int (1 : Int32))] []))
          refine own_on (fun t => XS.iload X116.here hx rfl (hb hby at_176) rfl) ?_
          show own_Fin p e below _ (T116.setTop (mkF m 178 #[.val (.long q1), .second, .val (.long q2), .second, .val (.int p3), .val (.int p4), .val (.long d41), .second, .val (.long sz97), .second, .val (.long st98), .second, .val (.ref b100), .val (.long g116), .second, .val (.int (1 : Int32))] [(.int (1 : Int32))]))
          refine own_on (fun t => XS.ifNo X116.here hx rfl (hb hby at_178) rfl ((if0 _ _).trans (feq (by decide : ¬ ((1 : Int32) = (0 : Int32)))).1)) ?_
          show own_Fin p e below _ (T116.setTop (mkF m 181 #[.val (.long q1), .second, .val (.long q2), .second, .val (.int p3), .val (.int p4), .val (.long d41), .second, .val (.long sz97), .second, .val (.long st98), .second, .val (.ref b100), .val (.long g116), .second, .val (.int (1 : Int32))] []))
          refine own_on (fun t => XS.lload X116.here hx rfl (hb hby at_181) rfl) ?_
          show own_Fin p e below _ (T116.setTop (mkF m 183 #[.val (.long q1), .second, .val (.long q2), .second, .val (.int p3), .val (.int p4), .val (.long d41), .second, .val (.long sz97), .second, .val (.long st98), .second, .val (.ref b100), .val (.long g116), .second, .val (.int (1 : Int32))] [(.long g116)]))
          refine own_on (fun t => XS.lload X116.here hx rfl (hb hby at_183) rfl) ?_
          show own_Fin p e below _ (T116.setTop (mkF m 185 #[.val (.long q1), .second, .val (.long q2), .second, .val (.int p3), .val (.int p4), .val (.long d41), .second, .val (.long sz97), .second, .val (.long st98), .second, .val (.ref b100), .val (.long g116), .second, .val (.int (1 : Int32))] [(.long d41), (.long g116)]))
          refine own_on (fun t => XS.lrem X116.here hx rfl (hb hby at_185) rfl (own_ne0 (Int.lt_of_lt_of_le (by decide) pd41.1))) ?_
          show own_Fin p e below _ (T116.setTop (mkF m 186 #[.val (.long q1), .second, .val (.long q2), .second, .val (.int p3), .val (.int p4), .val (.long d41), .second, .val (.long sz97), .second, .val (.long st98), .second, .val (.ref b100), .val (.long g116), .second, .val (.int (1 : Int32))] [(.long (g116 - (g116 / d41) * d41))]))
          refine own_on (fun t => XS.lconst X116.here hx rfl (hb hby at_186)) ?_
          show own_Fin p e below _ (T116.setTop (mkF m 187 #[.val (.long q1), .second, .val (.long q2), .second, .val (.int p3), .val (.int p4), .val (.long d41), .second, .val (.long sz97), .second, .val (.long st98), .second, .val (.ref b100), .val (.long g116), .second, .val (.int (1 : Int32))] [(.long (0 : Int64)), (.long (g116 - (g116 / d41) * d41))]))
          refine own_on (fun t => XS.lcmp X116.here hx rfl (hb hby at_187) rfl) ?_
          show own_Fin p e below _ (T116.setTop (mkF m 188 #[.val (.long q1), .second, .val (.long q2), .second, .val (.int p3), .val (.int p4), .val (.long d41), .second, .val (.long sz97), .second, .val (.long st98), .second, .val (.ref b100), .val (.long g116), .second, .val (.int (1 : Int32))] [(.int (lcmpW (g116 - (g116 / d41) * d41) (0 : Int64)))]))
          refine own_on (fun t => XS.ifNo X116.here hx rfl (hb hby at_188) rfl ((if0 _ _).trans (teq (own_lr0 (Int.le_of_lt dv116.1) (dv116.2.2.2 _ (Int.lt_of_lt_of_le (by decide) pd41.1) (own_lr1 (Int.le_of_lt psz97) hc117) (own_lr1 (Int.le_of_lt pst98) hc118)))).2)) ?_
          show own_Fin p e below _ (T116.setTop (mkF m 191 #[.val (.long q1), .second, .val (.long q2), .second, .val (.int p3), .val (.int p4), .val (.long d41), .second, .val (.long sz97), .second, .val (.long st98), .second, .val (.ref b100), .val (.long g116), .second, .val (.int (1 : Int32))] []))
          refine own_on (fun t => XS.iconst X116.here hx rfl (hb hby at_191)) ?_
          show own_Fin p e below _ (T116.setTop (mkF m 192 #[.val (.long q1), .second, .val (.long q2), .second, .val (.int p3), .val (.int p4), .val (.long d41), .second, .val (.long sz97), .second, .val (.long st98), .second, .val (.ref b100), .val (.long g116), .second, .val (.int (1 : Int32))] [(.int (1 : Int32))]))
          refine own_on (fun t => XS.goto X116.here hx rfl (pc0 := 192) (pc' := 196) rfl (hb hby at_192) (by decide) (by decide)) ?_
          show own_Fin p e below _ (T116.setTop (mkF m 196 #[.val (.long q1), .second, .val (.long q2), .second, .val (.int p3), .val (.int p4), .val (.long d41), .second, .val (.long sz97), .second, .val (.long st98), .second, .val (.ref b100), .val (.long g116), .second, .val (.int (1 : Int32))] [(.int (1 : Int32))]))
          exact own_retW (t := .boolean) X116 (Z := Z) (EL := own_EL) (a0 := a0) hx hlk hret rfl (Or.inl ⟨rfl, (by simp), _, rfl⟩) (hb hby at_196) hS0 (by rw [e116]; exact y111) hZ hEL (by rw [hh, e116]; exact y110) (⟨rfl, N116⟩) (by decide) (by decide)
        · refine own_on (fun t => XS.ifYes X116.here hx rfl (pc0 := 166) (pc' := 173) rfl (hb hby at_166) rfl ((if0 _ _).trans (feq hc118).2) (by decide) (by decide)) ?_
          show own_Fin p e below _ (T116.setTop (mkF m 173 #[.val (.long q1), .second, .val (.long q2), .second, .val (.int p3), .val (.int p4), .val (.long d41), .second, .val (.long sz97), .second, .val (.long st98), .second, .val (.ref b100), .val (.long g116), .second, .unset] []))
          refine own_on (fun t => XS.iconst X116.here hx rfl (hb hby at_173)) ?_
          show own_Fin p e below _ (T116.setTop (mkF m 174 #[.val (.long q1), .second, .val (.long q2), .second, .val (.int p3), .val (.int p4), .val (.long d41), .second, .val (.long sz97), .second, .val (.long st98), .second, .val (.ref b100), .val (.long g116), .second, .unset] [(.int (0 : Int32))]))
          refine own_on (fun t => XS.istore X116.here hx rfl (hb hby at_174) rfl (l' := #[.val (.long q1), .second, .val (.long q2), .second, .val (.int p3), .val (.int p4), .val (.long d41), .second, .val (.long sz97), .second, .val (.long st98), .second, .val (.ref b100), .val (.long g116), .second, .val (.int (0 : Int32))]) rfl) ?_
          show own_Fin p e below _ (T116.setTop (mkF m 176 #[.val (.long q1), .second, .val (.long q2), .second, .val (.int p3), .val (.int p4), .val (.long d41), .second, .val (.long sz97), .second, .val (.long st98), .second, .val (.ref b100), .val (.long g116), .second, .val (.int (0 : Int32))] []))
          refine own_on (fun t => XS.iload X116.here hx rfl (hb hby at_176) rfl) ?_
          show own_Fin p e below _ (T116.setTop (mkF m 178 #[.val (.long q1), .second, .val (.long q2), .second, .val (.int p3), .val (.int p4), .val (.long d41), .second, .val (.long sz97), .second, .val (.long st98), .second, .val (.ref b100), .val (.long g116), .second, .val (.int (0 : Int32))] [(.int (0 : Int32))]))
          refine own_on (fun t => XS.ifYes X116.here hx rfl (pc0 := 178) (pc' := 191) rfl (hb hby at_178) rfl ((if0 _ _).trans (teq (by decide : (0 : Int32) = (0 : Int32))).1) (by decide) (by decide)) ?_
          show own_Fin p e below _ (T116.setTop (mkF m 191 #[.val (.long q1), .second, .val (.long q2), .second, .val (.int p3), .val (.int p4), .val (.long d41), .second, .val (.long sz97), .second, .val (.long st98), .second, .val (.ref b100), .val (.long g116), .second, .val (.int (0 : Int32))] []))
          refine own_on (fun t => XS.iconst X116.here hx rfl (hb hby at_191)) ?_
          show own_Fin p e below _ (T116.setTop (mkF m 192 #[.val (.long q1), .second, .val (.long q2), .second, .val (.int p3), .val (.int p4), .val (.long d41), .second, .val (.long sz97), .second, .val (.long st98), .second, .val (.ref b100), .val (.long g116), .second, .val (.int (0 : Int32))] [(.int (1 : Int32))]))
          refine own_on (fun t => XS.goto X116.here hx rfl (pc0 := 192) (pc' := 196) rfl (hb hby at_192) (by decide) (by decide)) ?_
          show own_Fin p e below _ (T116.setTop (mkF m 196 #[.val (.long q1), .second, .val (.long q2), .second, .val (.int p3), .val (.int p4), .val (.long d41), .second, .val (.long sz97), .second, .val (.long st98), .second, .val (.ref b100), .val (.long g116), .second, .val (.int (0 : Int32))] [(.int (1 : Int32))]))
          exact own_retW (t := .boolean) X116 (Z := Z) (EL := own_EL) (a0 := a0) hx hlk hret rfl (Or.inl ⟨rfl, (by simp), _, rfl⟩) (hb hby at_196) hS0 (by rw [e116]; exact y111) hZ hEL (by rw [hh, e116]; exact y110) (⟨rfl, N116⟩) (by decide) (by decide)
      · refine own_on (fun t => XS.ifYes X116.here hx rfl (pc0 := 156) (pc' := 173) rfl (hb hby at_156) rfl ((if0 _ _).trans (feq hc117).2) (by decide) (by decide)) ?_
        show own_Fin p e below _ (T116.setTop (mkF m 173 #[.val (.long q1), .second, .val (.long q2), .second, .val (.int p3), .val (.int p4), .val (.long d41), .second, .val (.long sz97), .second, .val (.long st98), .second, .val (.ref b100), .val (.long g116), .second, .unset] []))
        refine own_on (fun t => XS.iconst X116.here hx rfl (hb hby at_173)) ?_
        show own_Fin p e below _ (T116.setTop (mkF m 174 #[.val (.long q1), .second, .val (.long q2), .second, .val (.int p3), .val (.int p4), .val (.long d41), .second, .val (.long sz97), .second, .val (.long st98), .second, .val (.ref b100), .val (.long g116), .second, .unset] [(.int (0 : Int32))]))
        refine own_on (fun t => XS.istore X116.here hx rfl (hb hby at_174) rfl (l' := #[.val (.long q1), .second, .val (.long q2), .second, .val (.int p3), .val (.int p4), .val (.long d41), .second, .val (.long sz97), .second, .val (.long st98), .second, .val (.ref b100), .val (.long g116), .second, .val (.int (0 : Int32))]) rfl) ?_
        show own_Fin p e below _ (T116.setTop (mkF m 176 #[.val (.long q1), .second, .val (.long q2), .second, .val (.int p3), .val (.int p4), .val (.long d41), .second, .val (.long sz97), .second, .val (.long st98), .second, .val (.ref b100), .val (.long g116), .second, .val (.int (0 : Int32))] []))
        refine own_on (fun t => XS.iload X116.here hx rfl (hb hby at_176) rfl) ?_
        show own_Fin p e below _ (T116.setTop (mkF m 178 #[.val (.long q1), .second, .val (.long q2), .second, .val (.int p3), .val (.int p4), .val (.long d41), .second, .val (.long sz97), .second, .val (.long st98), .second, .val (.ref b100), .val (.long g116), .second, .val (.int (0 : Int32))] [(.int (0 : Int32))]))
        refine own_on (fun t => XS.ifYes X116.here hx rfl (pc0 := 178) (pc' := 191) rfl (hb hby at_178) rfl ((if0 _ _).trans (teq (by decide : (0 : Int32) = (0 : Int32))).1) (by decide) (by decide)) ?_
        show own_Fin p e below _ (T116.setTop (mkF m 191 #[.val (.long q1), .second, .val (.long q2), .second, .val (.int p3), .val (.int p4), .val (.long d41), .second, .val (.long sz97), .second, .val (.long st98), .second, .val (.ref b100), .val (.long g116), .second, .val (.int (0 : Int32))] []))
        refine own_on (fun t => XS.iconst X116.here hx rfl (hb hby at_191)) ?_
        show own_Fin p e below _ (T116.setTop (mkF m 192 #[.val (.long q1), .second, .val (.long q2), .second, .val (.int p3), .val (.int p4), .val (.long d41), .second, .val (.long sz97), .second, .val (.long st98), .second, .val (.ref b100), .val (.long g116), .second, .val (.int (0 : Int32))] [(.int (1 : Int32))]))
        refine own_on (fun t => XS.goto X116.here hx rfl (pc0 := 192) (pc' := 196) rfl (hb hby at_192) (by decide) (by decide)) ?_
        show own_Fin p e below _ (T116.setTop (mkF m 196 #[.val (.long q1), .second, .val (.long q2), .second, .val (.int p3), .val (.int p4), .val (.long d41), .second, .val (.long sz97), .second, .val (.long st98), .second, .val (.ref b100), .val (.long g116), .second, .val (.int (0 : Int32))] [(.int (1 : Int32))]))
        exact own_retW (t := .boolean) X116 (Z := Z) (EL := own_EL) (a0 := a0) hx hlk hret rfl (Or.inl ⟨rfl, (by simp), _, rfl⟩) (hb hby at_196) hS0 (by rw [e116]; exact y111) hZ hEL (by rw [hh, e116]; exact y110) (⟨rfl, N116⟩) (by decide) (by decide)
    · refine own_on (fun t => XS.ifNo X0.here hx rfl (hb hby at_70) rfl ((if0 _ _).trans (feq hc99).1)) ?_
      show own_Fin p e below _ (s₁.setTop (mkF m 73 #[.val (.long q1), .second, .val (.long q2), .second, .val (.int p3), .val (.int p4), .val (.long d41), .second, .val (.long sz97), .second, .val (.long st98), .second, .unset, .unset, .unset, .unset] []))
      obtain ⟨T119, h119, X119, e119, E119, A119, D119, -, st119⟩ := newO X0 hx hZ hown (hw _ (List.mem_of_getElem? (i := 2) rfl)) (hw _ (List.mem_of_getElem? (i := 3) rfl)) (hw _ (List.mem_of_getElem? (i := 4) rfl)) e0 (g := (mkF m 73 #[.val (.long q1), .second, .val (.long q2), .second, .val (.int p3), .val (.int p4), .val (.long d41), .second, .val (.long sz97), .second, .val (.long st98), .second, .unset, .unset, .unset, .unset] [])) rfl (hb hby at_73) (by decide) (by decide)
      obtain ⟨b119, g119⟩ : ∃ z, z = h0.size := ⟨_, rfl⟩
      rw [← g119] at A119 D119 st119
      have y120 := (CHv.ext E119 CH0)
      have y121 := (CHr.trans (CHr.refl CH0) (CHr.ext E119 CH0))
      have y122 := (Nat.le_trans (Nat.zero_le _) E119.1)
      have y123 := (O.ext E119)
      have y124 := (Nat.le_trans Z0 E119.1)
      have y125 := (Safe.ext E119 CH0 (Safe.new (Nat.le_of_eq g119.symm)))
      have gn119 : n0 ≤ b119 := Nat.le_trans Z0 (Nat.le_of_eq g119.symm)
      have F119_kind : Fld Z h119 b119 "com/example/confluent_streams/confluentstreams/Window" "kind" "Lcom/example/confluent_streams/confluentstreams/Window$Kind;" .null := D119 (Or.inr (hw _ (List.mem_of_getElem? (i := 28) rfl))) (ty := (.object "com/example/confluent_streams/confluentstreams/Window$Kind")) (by decide)
      have F119_size : Fld Z h119 b119 "com/example/confluent_streams/confluentstreams/Window" "size" "J" (.long (0 : Int64)) := D119 (Or.inr (hw _ (List.mem_of_getElem? (i := 30) rfl))) (ty := .long) (by decide)
      have F119_step : Fld Z h119 b119 "com/example/confluent_streams/confluentstreams/Window" "step" "J" (.long (0 : Int64)) := D119 (Or.inr (hw _ (List.mem_of_getElem? (i := 32) rfl))) (ty := .long) (by decide)
      have F119_on : Fld Z h119 b119 "com/example/confluent_streams/confluentstreams/Window" "on" "Ljava/lang/String;" .null := D119 (Or.inr (hw _ (List.mem_of_getElem? (i := 34) rfl))) (ty := (.object "java/lang/String")) (by decide)
      refine own_on st119 ?_
      show own_Fin p e below _ (T119.setTop (mkF m 76 #[.val (.long q1), .second, .val (.long q2), .second, .val (.int p3), .val (.int p4), .val (.long d41), .second, .val (.long sz97), .second, .val (.long st98), .second, .unset, .unset, .unset, .unset] [(.ref b119)]))
      refine own_on (fun t => XS.dup X119.here hx rfl (hb hby at_76) rfl rfl) ?_
      show own_Fin p e below _ (T119.setTop (mkF m 77 #[.val (.long q1), .second, .val (.long q2), .second, .val (.int p3), .val (.int p4), .val (.long d41), .second, .val (.long sz97), .second, .val (.long st98), .second, .unset, .unset, .unset, .unset] [(.ref b119), (.ref b119)]))
      obtain ⟨T126, X126, e126, st126⟩ := getS2 X119 hx hZ hown (host := "") (Or.inl (hw _ (List.mem_of_getElem? (i := 5) rfl))) Via.refl e119 (SR.ext y123.2) (g := (mkF m 77 #[.val (.long q1), .second, .val (.long q2), .second, .val (.int p3), .val (.int p4), .val (.long d41), .second, .val (.long sz97), .second, .val (.long st98), .second, .unset, .unset, .unset, .unset] [(.ref b119), (.ref b119)])) rfl (hb hby at_77)
      refine own_on st126 ?_
      show own_Fin p e below _ (T126.setTop (mkF m 80 #[.val (.long q1), .second, .val (.long q2), .second, .val (.int p3), .val (.int p4), .val (.long d41), .second, .val (.long sz97), .second, .val (.long st98), .second, .unset, .unset, .unset, .unset] [(.ref kR), (.ref b119), (.ref b119)]))
      refine own_on (fun t => XS.lload X126.here hx rfl (hb hby at_80) rfl) ?_
      show own_Fin p e below _ (T126.setTop (mkF m 82 #[.val (.long q1), .second, .val (.long q2), .second, .val (.int p3), .val (.int p4), .val (.long d41), .second, .val (.long sz97), .second, .val (.long st98), .second, .unset, .unset, .unset, .unset] [(.long sz97), (.ref kR), (.ref b119), (.ref b119)]))
      refine own_on (fun t => XS.lload X126.here hx rfl (hb hby at_82) rfl) ?_
      show own_Fin p e below _ (T126.setTop (mkF m 84 #[.val (.long q1), .second, .val (.long q2), .second, .val (.int p3), .val (.int p4), .val (.long d41), .second, .val (.long sz97), .second, .val (.long st98), .second, .unset, .unset, .unset, .unset] [(.long st98), (.long sz97), (.ref kR), (.ref b119), (.ref b119)]))
      obtain ⟨a127, T127, h127, k127, X127, e127, E127, hS127, hk127, hZ127, hown127, A127, Lt127, st127⟩ := ldcOH X126 hx hZ hown (hw _ (List.mem_of_getElem? (i := 8) rfl)) wS e126 hS0 y122 hEL y120 (g := (mkF m 84 #[.val (.long q1), .second, .val (.long q2), .second, .val (.int p3), .val (.int p4), .val (.long d41), .second, .val (.long sz97), .second, .val (.long st98), .second, .unset, .unset, .unset, .unset] [(.long st98), (.long sz97), (.ref kR), (.ref b119), (.ref b119)])) rfl (hb hby at_84) (n := 4) (by decide) (by decide) (by decide) (by decide)
      have y128 := (y123.ext E127)
      have y129 := (Nat.le_trans y124 E127.1)
      have y130 := (A119.ext E127)
      have y131 := (F119_kind.ext E127)
      have y132 := (F119_size.ext E127)
      have y133 := (F119_step.ext E127)
      have y134 := (F119_on.ext E127)
      have y135 := (CHr.safe A127 A119.lt y125)
      have y136 := (CHr.trans y121 A127)
      have y137 := (And.left A127)
      refine own_on st127 ?_
      show own_Fin p e below _ (T127.setTop (mkF m 86 #[.val (.long q1), .second, .val (.long q2), .second, .val (.int p3), .val (.int p4), .val (.long d41), .second, .val (.long sz97), .second, .val (.long st98), .second, .unset, .unset, .unset, .unset] [(.ref a127), (.long st98), (.long sz97), (.ref kR), (.ref b119), (.ref b119)]))
      obtain ⟨_, _, ⟨T138, L138, k138, n138⟩, -, X138, ⟨Lc138, hQ138, l138, y138, z138⟩, st138⟩ := X127.specialBack hx (y := (⟨"com/example/confluent_streams/confluentstreams/Window", "<init>", "(Lcom/example/confluent_streams/confluentstreams/Window$Kind;JJLjava/lang/String;)V"⟩ : MethodName)) rfl hown127 (mvT hZ127 (hw _ (List.mem_of_getElem? (i := 16) rfl))) (mvT hZ127 (hw _ (List.mem_of_getElem? (i := 17) rfl))) (mvT hZ127 (hw _ (List.mem_of_getElem? (i := 18) rfl))) (by decide) (backOf (W := 1) (rm1 l Z a0 hw [] b119 kR sz97 st98 (.ref a127) h127 n0 (by exact y129) rfl y130 y131 y132 y133 y134 gn119) hZ127 (hw _ (List.mem_of_getElem? (i := 18) rfl)) (hw _ (List.mem_of_getElem? (i := 4) rfl)) (by decide) (by decide)) (g := (mkF m 86 #[.val (.long q1), .second, .val (.long q2), .second, .val (.int p3), .val (.int p4), .val (.long d41), .second, .val (.long sz97), .second, .val (.long st98), .second, .unset, .unset, .unset, .unset] [(.ref a127), (.long st98), (.long sz97), (.ref kR), (.ref b119), (.ref b119)])) rfl (by rw [hml]; rfl) (Steps.refl _) (a := b119) (argsL := [(.ref kR), (.long sz97), (.long st98), (.ref a127)]) (rest := [(.ref b119)]) (lenOf pd_2 rfl) rfl (by show 2 * 0 + _ ≤ _; exact Nat.le_of_eq rfl) (hb hby at_86) (fun _ _ => ⟨rfl, e127, (by decide : 3 + 0 ≤ _), (by decide : 12 + 0 ≤ _)⟩)
      dsimp only [Pt.U, Pt.locs, Pt.cells, Pt.slots] at X138 l138 y138 z138 st138 hQ138
      subst l138 y138 z138
      obtain ⟨rfl, N138q, K138, E138q, F138a, F138b⟩ := hQ138
      have N138 := Fr.app N0 N138q
      have y139 := (y128.keep K138 (allS gn119 all0))
      have y140 := (Nat.le_trans y129 K138.1)
      have y141 := (y130.keep K138)
      have y142 := (Safe.keep K138 (sfS y135 sf0) y137 y135)
      have y143 := (CHr.trans y136 (CHr.keep K138 (sfS y135 sf0) y137))
      have y144 := (CHv.keep K138 (sfS y135 sf0) y137)
      have y145 := (Nat.le_trans hk127 K138.1)
      refine own_via st138 ?_
      show own_Fin p e below _ (T138.setTop (mkF m 89 #[.val (.long q1), .second, .val (.long q2), .second, .val (.int p3), .val (.int p4), .val (.long d41), .second, .val (.long sz97), .second, .val (.long st98), .second, .unset, .unset, .unset, .unset] [(.ref b119)]))
      refine own_on (fun t => XS.astore X138.here hx rfl (hb hby at_89) rfl rfl (l' := #[.val (.long q1), .second, .val (.long q2), .second, .val (.int p3), .val (.int p4), .val (.long d41), .second, .val (.long sz97), .second, .val (.long st98), .second, .val (.ref b119), .unset, .unset, .unset]) rfl) ?_
      show own_Fin p e below _ (T138.setTop (mkF m 91 #[.val (.long q1), .second, .val (.long q2), .second, .val (.int p3), .val (.int p4), .val (.long d41), .second, .val (.long sz97), .second, .val (.long st98), .second, .val (.ref b119), .unset, .unset, .unset] []))
      refine own_on (fun t => XS.goto X138.here hx rfl (pc0 := 91) (pc' := 111) rfl (hb hby at_91) (by decide) (by decide)) ?_
      show own_Fin p e below _ (T138.setTop (mkF m 111 #[.val (.long q1), .second, .val (.long q2), .second, .val (.int p3), .val (.int p4), .val (.long d41), .second, .val (.long sz97), .second, .val (.long st98), .second, .val (.ref b119), .unset, .unset, .unset] []))
      refine own_on (fun t => XS.aload X138.here hx rfl (hb hby at_111) rfl rfl) ?_
      show own_Fin p e below _ (T138.setTop (mkF m 113 #[.val (.long q1), .second, .val (.long q2), .second, .val (.int p3), .val (.int p4), .val (.long d41), .second, .val (.long sz97), .second, .val (.long st98), .second, .val (.ref b119), .unset, .unset, .unset] [(.ref b119)]))
      obtain ⟨cq146, kq146, q146a, q146b, q146c⟩ := isOf hZ127 rfl y141
      obtain ⟨_, _, ⟨T146, L146, k146, n146⟩, -, X146, ⟨Lc146, hQ146, l146, y146, z146⟩, st146⟩ := X138.virtualBack hx (y := (⟨"com/example/confluent_streams/confluentstreams/Window", "paneSize", "()J"⟩ : MethodName)) (z := (⟨"com/example/confluent_streams/confluentstreams/Window", "paneSize", "()J"⟩ : MethodName)) hown127 (mvT hZ127 (hw _ (List.mem_of_getElem? (i := 35) rfl))) (mvT hZ127 (hw _ (List.mem_of_getElem? (i := 36) rfl))) (notFace_of_selects (args := #[]) (mvT hZ127 (hw _ (List.mem_of_getElem? (i := 38) rfl)))) (mvT hZ127 (hw _ (List.mem_of_getElem? (i := 38) rfl))) (mvT hZ127 (hw _ (List.mem_of_getElem? (i := 37) rfl))) (by decide) (backOf (W := 0) (rm4 l Z a0 hw [] b119 sz97 st98 T138.heap n0 (by exact y140) F138a F138b psz97 (Int.le_of_lt pst98)) hZ127 (hw _ (List.mem_of_getElem? (i := 39) rfl)) (hw _ (List.mem_of_getElem? (i := 4) rfl)) (by decide) (by decide)) q146a q146c (g := (mkF m 113 #[.val (.long q1), .second, .val (.long q2), .second, .val (.int p3), .val (.int p4), .val (.long d41), .second, .val (.long sz97), .second, .val (.long st98), .second, .val (.ref b119), .unset, .unset, .unset] [(.ref b119)])) rfl (by rw [hml]; rfl) (Steps.refl _) (argsL := []) (rest := []) (lenOf pd_3 rfl) rfl (by show 2 * 0 + _ ≤ _; exact Nat.le_of_eq rfl) (hb hby at_113) (fun _ _ => ⟨rfl, rfl, (by decide : 3 + 0 ≤ _), (by decide : 12 + 0 ≤ _)⟩)
      dsimp only [Pt.U, Pt.locs, Pt.cells, Pt.slots] at X146 l146 y146 z146 st146 hQ146
      subst l146 y146 z146
      obtain ⟨g146, rfl, N146q, e146, hg146⟩ := hQ146
      have N146 := Fr.app N138 N146q
      refine own_via st146 ?_
      have dv146 := own_gcdv psz97 pst98 hg146
      show own_Fin p e below _ (T146.setTop (mkF m 116 #[.val (.long q1), .second, .val (.long q2), .second, .val (.int p3), .val (.int p4), .val (.long d41), .second, .val (.long sz97), .second, .val (.long st98), .second, .val (.ref b119), .unset, .unset, .unset] [(.long g146)]))
      refine own_on (fun t => XS.lstore X146.here hx rfl (hb hby at_116) rfl (l' := #[.val (.long q1), .second, .val (.long q2), .second, .val (.int p3), .val (.int p4), .val (.long d41), .second, .val (.long sz97), .second, .val (.long st98), .second, .val (.ref b119), .val (.long g146), .second, .unset]) rfl) ?_
      show own_Fin p e below _ (T146.setTop (mkF m 118 #[.val (.long q1), .second, .val (.long q2), .second, .val (.int p3), .val (.int p4), .val (.long d41), .second, .val (.long sz97), .second, .val (.long st98), .second, .val (.ref b119), .val (.long g146), .second, .unset] []))
      refine own_on (fun t => XS.lload X146.here hx rfl (hb hby at_118) rfl) ?_
      show own_Fin p e below _ (T146.setTop (mkF m 120 #[.val (.long q1), .second, .val (.long q2), .second, .val (.int p3), .val (.int p4), .val (.long d41), .second, .val (.long sz97), .second, .val (.long st98), .second, .val (.ref b119), .val (.long g146), .second, .unset] [(.long g146)]))
      refine own_on (fun t => XS.lconst X146.here hx rfl (hb hby at_120)) ?_
      show own_Fin p e below _ (T146.setTop (mkF m 121 #[.val (.long q1), .second, .val (.long q2), .second, .val (.int p3), .val (.int p4), .val (.long d41), .second, .val (.long sz97), .second, .val (.long st98), .second, .val (.ref b119), .val (.long g146), .second, .unset] [(.long (0 : Int64)), (.long g146)]))
      refine own_on (fun t => XS.lcmp X146.here hx rfl (hb hby at_121) rfl) ?_
      show own_Fin p e below _ (T146.setTop (mkF m 122 #[.val (.long q1), .second, .val (.long q2), .second, .val (.int p3), .val (.int p4), .val (.long d41), .second, .val (.long sz97), .second, .val (.long st98), .second, .val (.ref b119), .val (.long g146), .second, .unset] [(.int (lcmpW g146 (0 : Int64)))]))
      refine own_on (fun t => XS.ifYes X146.here hx rfl (pc0 := 122) (pc' := 127) rfl (hb hby at_122) rfl ((if0 _ _).trans (tlt (own_gt dv146.1)).2.2.1) (by decide) (by decide)) ?_
      show own_Fin p e below _ (T146.setTop (mkF m 127 #[.val (.long q1), .second, .val (.long q2), .second, .val (.int p3), .val (.int p4), .val (.long d41), .second, .val (.long sz97), .second, .val (.long st98), .second, .val (.ref b119), .val (.long g146), .second, .unset] []))
      refine own_on (fun t => XS.lload X146.here hx rfl (hb hby at_127) rfl) ?_
      show own_Fin p e below _ (T146.setTop (mkF m 129 #[.val (.long q1), .second, .val (.long q2), .second, .val (.int p3), .val (.int p4), .val (.long d41), .second, .val (.long sz97), .second, .val (.long st98), .second, .val (.ref b119), .val (.long g146), .second, .unset] [(.long sz97)]))
      refine own_on (fun t => XS.lload X146.here hx rfl (hb hby at_129) rfl) ?_
      show own_Fin p e below _ (T146.setTop (mkF m 131 #[.val (.long q1), .second, .val (.long q2), .second, .val (.int p3), .val (.int p4), .val (.long d41), .second, .val (.long sz97), .second, .val (.long st98), .second, .val (.ref b119), .val (.long g146), .second, .unset] [(.long g146), (.long sz97)]))
      refine own_on (fun t => XS.lrem X146.here hx rfl (hb hby at_131) rfl (own_ne0 dv146.1)) ?_
      show own_Fin p e below _ (T146.setTop (mkF m 132 #[.val (.long q1), .second, .val (.long q2), .second, .val (.int p3), .val (.int p4), .val (.long d41), .second, .val (.long sz97), .second, .val (.long st98), .second, .val (.ref b119), .val (.long g146), .second, .unset] [(.long (sz97 - (sz97 / g146) * g146))]))
      refine own_on (fun t => XS.lconst X146.here hx rfl (hb hby at_132)) ?_
      show own_Fin p e below _ (T146.setTop (mkF m 133 #[.val (.long q1), .second, .val (.long q2), .second, .val (.int p3), .val (.int p4), .val (.long d41), .second, .val (.long sz97), .second, .val (.long st98), .second, .val (.ref b119), .val (.long g146), .second, .unset] [(.long (0 : Int64)), (.long (sz97 - (sz97 / g146) * g146))]))
      refine own_on (fun t => XS.lcmp X146.here hx rfl (hb hby at_133) rfl) ?_
      show own_Fin p e below _ (T146.setTop (mkF m 134 #[.val (.long q1), .second, .val (.long q2), .second, .val (.int p3), .val (.int p4), .val (.long d41), .second, .val (.long sz97), .second, .val (.long st98), .second, .val (.ref b119), .val (.long g146), .second, .unset] [(.int (lcmpW (sz97 - (sz97 / g146) * g146) (0 : Int64)))]))
      refine own_on (fun t => XS.ifNo X146.here hx rfl (hb hby at_134) rfl ((if0 _ _).trans (teq (own_lr0 (Int.le_of_lt psz97) dv146.2.1)).2)) ?_
      show own_Fin p e below _ (T146.setTop (mkF m 137 #[.val (.long q1), .second, .val (.long q2), .second, .val (.int p3), .val (.int p4), .val (.long d41), .second, .val (.long sz97), .second, .val (.long st98), .second, .val (.ref b119), .val (.long g146), .second, .unset] []))
      refine own_on (fun t => XS.lload X146.here hx rfl (hb hby at_137) rfl) ?_
      show own_Fin p e below _ (T146.setTop (mkF m 139 #[.val (.long q1), .second, .val (.long q2), .second, .val (.int p3), .val (.int p4), .val (.long d41), .second, .val (.long sz97), .second, .val (.long st98), .second, .val (.ref b119), .val (.long g146), .second, .unset] [(.long st98)]))
      refine own_on (fun t => XS.lload X146.here hx rfl (hb hby at_139) rfl) ?_
      show own_Fin p e below _ (T146.setTop (mkF m 141 #[.val (.long q1), .second, .val (.long q2), .second, .val (.int p3), .val (.int p4), .val (.long d41), .second, .val (.long sz97), .second, .val (.long st98), .second, .val (.ref b119), .val (.long g146), .second, .unset] [(.long g146), (.long st98)]))
      refine own_on (fun t => XS.lrem X146.here hx rfl (hb hby at_141) rfl (own_ne0 dv146.1)) ?_
      show own_Fin p e below _ (T146.setTop (mkF m 142 #[.val (.long q1), .second, .val (.long q2), .second, .val (.int p3), .val (.int p4), .val (.long d41), .second, .val (.long sz97), .second, .val (.long st98), .second, .val (.ref b119), .val (.long g146), .second, .unset] [(.long (st98 - (st98 / g146) * g146))]))
      refine own_on (fun t => XS.lconst X146.here hx rfl (hb hby at_142)) ?_
      show own_Fin p e below _ (T146.setTop (mkF m 143 #[.val (.long q1), .second, .val (.long q2), .second, .val (.int p3), .val (.int p4), .val (.long d41), .second, .val (.long sz97), .second, .val (.long st98), .second, .val (.ref b119), .val (.long g146), .second, .unset] [(.long (0 : Int64)), (.long (st98 - (st98 / g146) * g146))]))
      refine own_on (fun t => XS.lcmp X146.here hx rfl (hb hby at_143) rfl) ?_
      show own_Fin p e below _ (T146.setTop (mkF m 144 #[.val (.long q1), .second, .val (.long q2), .second, .val (.int p3), .val (.int p4), .val (.long d41), .second, .val (.long sz97), .second, .val (.long st98), .second, .val (.ref b119), .val (.long g146), .second, .unset] [(.int (lcmpW (st98 - (st98 / g146) * g146) (0 : Int64)))]))
      refine own_on (fun t => XS.ifYes X146.here hx rfl (pc0 := 144) (pc' := 149) rfl (hb hby at_144) rfl ((if0 _ _).trans (teq (own_lr0 (Int.le_of_lt pst98) dv146.2.2.1)).1) (by decide) (by decide)) ?_
      show own_Fin p e below _ (T146.setTop (mkF m 149 #[.val (.long q1), .second, .val (.long q2), .second, .val (.int p3), .val (.int p4), .val (.long d41), .second, .val (.long sz97), .second, .val (.long st98), .second, .val (.ref b119), .val (.long g146), .second, .unset] []))
      refine own_on (fun t => XS.lload X146.here hx rfl (hb hby at_149) rfl) ?_
      show own_Fin p e below _ (T146.setTop (mkF m 151 #[.val (.long q1), .second, .val (.long q2), .second, .val (.int p3), .val (.int p4), .val (.long d41), .second, .val (.long sz97), .second, .val (.long st98), .second, .val (.ref b119), .val (.long g146), .second, .unset] [(.long sz97)]))
      refine own_on (fun t => XS.lload X146.here hx rfl (hb hby at_151) rfl) ?_
      show own_Fin p e below _ (T146.setTop (mkF m 153 #[.val (.long q1), .second, .val (.long q2), .second, .val (.int p3), .val (.int p4), .val (.long d41), .second, .val (.long sz97), .second, .val (.long st98), .second, .val (.ref b119), .val (.long g146), .second, .unset] [(.long d41), (.long sz97)]))
      refine own_on (fun t => XS.lrem X146.here hx rfl (hb hby at_153) rfl (own_ne0 (Int.lt_of_lt_of_le (by decide) pd41.1))) ?_
      show own_Fin p e below _ (T146.setTop (mkF m 154 #[.val (.long q1), .second, .val (.long q2), .second, .val (.int p3), .val (.int p4), .val (.long d41), .second, .val (.long sz97), .second, .val (.long st98), .second, .val (.ref b119), .val (.long g146), .second, .unset] [(.long (sz97 - (sz97 / d41) * d41))]))
      refine own_on (fun t => XS.lconst X146.here hx rfl (hb hby at_154)) ?_
      show own_Fin p e below _ (T146.setTop (mkF m 155 #[.val (.long q1), .second, .val (.long q2), .second, .val (.int p3), .val (.int p4), .val (.long d41), .second, .val (.long sz97), .second, .val (.long st98), .second, .val (.ref b119), .val (.long g146), .second, .unset] [(.long (0 : Int64)), (.long (sz97 - (sz97 / d41) * d41))]))
      refine own_on (fun t => XS.lcmp X146.here hx rfl (hb hby at_155) rfl) ?_
      show own_Fin p e below _ (T146.setTop (mkF m 156 #[.val (.long q1), .second, .val (.long q2), .second, .val (.int p3), .val (.int p4), .val (.long d41), .second, .val (.long sz97), .second, .val (.long st98), .second, .val (.ref b119), .val (.long g146), .second, .unset] [(.int (lcmpW (sz97 - (sz97 / d41) * d41) (0 : Int64)))]))
      by_cases hc147 : (lcmpW (sz97 - (sz97 / d41) * d41) (0 : Int64)) = (0 : Int32)
      · refine own_on (fun t => XS.ifNo X146.here hx rfl (hb hby at_156) rfl ((if0 _ _).trans (teq hc147).2)) ?_
        show own_Fin p e below _ (T146.setTop (mkF m 159 #[.val (.long q1), .second, .val (.long q2), .second, .val (.int p3), .val (.int p4), .val (.long d41), .second, .val (.long sz97), .second, .val (.long st98), .second, .val (.ref b119), .val (.long g146), .second, .unset] []))
        refine own_on (fun t => XS.lload X146.here hx rfl (hb hby at_159) rfl) ?_
        show own_Fin p e below _ (T146.setTop (mkF m 161 #[.val (.long q1), .second, .val (.long q2), .second, .val (.int p3), .val (.int p4), .val (.long d41), .second, .val (.long sz97), .second, .val (.long st98), .second, .val (.ref b119), .val (.long g146), .second, .unset] [(.long st98)]))
        refine own_on (fun t => XS.lload X146.here hx rfl (hb hby at_161) rfl) ?_
        show own_Fin p e below _ (T146.setTop (mkF m 163 #[.val (.long q1), .second, .val (.long q2), .second, .val (.int p3), .val (.int p4), .val (.long d41), .second, .val (.long sz97), .second, .val (.long st98), .second, .val (.ref b119), .val (.long g146), .second, .unset] [(.long d41), (.long st98)]))
        refine own_on (fun t => XS.lrem X146.here hx rfl (hb hby at_163) rfl (own_ne0 (Int.lt_of_lt_of_le (by decide) pd41.1))) ?_
        show own_Fin p e below _ (T146.setTop (mkF m 164 #[.val (.long q1), .second, .val (.long q2), .second, .val (.int p3), .val (.int p4), .val (.long d41), .second, .val (.long sz97), .second, .val (.long st98), .second, .val (.ref b119), .val (.long g146), .second, .unset] [(.long (st98 - (st98 / d41) * d41))]))
        refine own_on (fun t => XS.lconst X146.here hx rfl (hb hby at_164)) ?_
        show own_Fin p e below _ (T146.setTop (mkF m 165 #[.val (.long q1), .second, .val (.long q2), .second, .val (.int p3), .val (.int p4), .val (.long d41), .second, .val (.long sz97), .second, .val (.long st98), .second, .val (.ref b119), .val (.long g146), .second, .unset] [(.long (0 : Int64)), (.long (st98 - (st98 / d41) * d41))]))
        refine own_on (fun t => XS.lcmp X146.here hx rfl (hb hby at_165) rfl) ?_
        show own_Fin p e below _ (T146.setTop (mkF m 166 #[.val (.long q1), .second, .val (.long q2), .second, .val (.int p3), .val (.int p4), .val (.long d41), .second, .val (.long sz97), .second, .val (.long st98), .second, .val (.ref b119), .val (.long g146), .second, .unset] [(.int (lcmpW (st98 - (st98 / d41) * d41) (0 : Int64)))]))
        by_cases hc148 : (lcmpW (st98 - (st98 / d41) * d41) (0 : Int64)) = (0 : Int32)
        · refine own_on (fun t => XS.ifNo X146.here hx rfl (hb hby at_166) rfl ((if0 _ _).trans (teq hc148).2)) ?_
          show own_Fin p e below _ (T146.setTop (mkF m 169 #[.val (.long q1), .second, .val (.long q2), .second, .val (.int p3), .val (.int p4), .val (.long d41), .second, .val (.long sz97), .second, .val (.long st98), .second, .val (.ref b119), .val (.long g146), .second, .unset] []))
          refine own_on (fun t => XS.iconst X146.here hx rfl (hb hby at_169)) ?_
          show own_Fin p e below _ (T146.setTop (mkF m 170 #[.val (.long q1), .second, .val (.long q2), .second, .val (.int p3), .val (.int p4), .val (.long d41), .second, .val (.long sz97), .second, .val (.long st98), .second, .val (.ref b119), .val (.long g146), .second, .unset] [(.int (1 : Int32))]))
          refine own_on (fun t => XS.goto X146.here hx rfl (pc0 := 170) (pc' := 174) rfl (hb hby at_170) (by decide) (by decide)) ?_
          show own_Fin p e below _ (T146.setTop (mkF m 174 #[.val (.long q1), .second, .val (.long q2), .second, .val (.int p3), .val (.int p4), .val (.long d41), .second, .val (.long sz97), .second, .val (.long st98), .second, .val (.ref b119), .val (.long g146), .second, .unset] [(.int (1 : Int32))]))
          refine own_on (fun t => XS.istore X146.here hx rfl (hb hby at_174) rfl (l' := #[.val (.long q1), .second, .val (.long q2), .second, .val (.int p3), .val (.int p4), .val (.long d41), .second, .val (.long sz97), .second, .val (.long st98), .second, .val (.ref b119), .val (.long g146), .second, .val (.int (1 : Int32))]) rfl) ?_
          show own_Fin p e below _ (T146.setTop (mkF m 176 #[.val (.long q1), .second, .val (.long q2), .second, .val (.int p3), .val (.int p4), .val (.long d41), .second, .val (.long sz97), .second, .val (.long st98), .second, .val (.ref b119), .val (.long g146), .second, .val (.int (1 : Int32))] []))
          refine own_on (fun t => XS.iload X146.here hx rfl (hb hby at_176) rfl) ?_
          show own_Fin p e below _ (T146.setTop (mkF m 178 #[.val (.long q1), .second, .val (.long q2), .second, .val (.int p3), .val (.int p4), .val (.long d41), .second, .val (.long sz97), .second, .val (.long st98), .second, .val (.ref b119), .val (.long g146), .second, .val (.int (1 : Int32))] [(.int (1 : Int32))]))
          refine own_on (fun t => XS.ifNo X146.here hx rfl (hb hby at_178) rfl ((if0 _ _).trans (feq (by decide : ¬ ((1 : Int32) = (0 : Int32)))).1)) ?_
          show own_Fin p e below _ (T146.setTop (mkF m 181 #[.val (.long q1), .second, .val (.long q2), .second, .val (.int p3), .val (.int p4), .val (.long d41), .second, .val (.long sz97), .second, .val (.long st98), .second, .val (.ref b119), .val (.long g146), .second, .val (.int (1 : Int32))] []))
          refine own_on (fun t => XS.lload X146.here hx rfl (hb hby at_181) rfl) ?_
          show own_Fin p e below _ (T146.setTop (mkF m 183 #[.val (.long q1), .second, .val (.long q2), .second, .val (.int p3), .val (.int p4), .val (.long d41), .second, .val (.long sz97), .second, .val (.long st98), .second, .val (.ref b119), .val (.long g146), .second, .val (.int (1 : Int32))] [(.long g146)]))
          refine own_on (fun t => XS.lload X146.here hx rfl (hb hby at_183) rfl) ?_
          show own_Fin p e below _ (T146.setTop (mkF m 185 #[.val (.long q1), .second, .val (.long q2), .second, .val (.int p3), .val (.int p4), .val (.long d41), .second, .val (.long sz97), .second, .val (.long st98), .second, .val (.ref b119), .val (.long g146), .second, .val (.int (1 : Int32))] [(.long d41), (.long g146)]))
          refine own_on (fun t => XS.lrem X146.here hx rfl (hb hby at_185) rfl (own_ne0 (Int.lt_of_lt_of_le (by decide) pd41.1))) ?_
          show own_Fin p e below _ (T146.setTop (mkF m 186 #[.val (.long q1), .second, .val (.long q2), .second, .val (.int p3), .val (.int p4), .val (.long d41), .second, .val (.long sz97), .second, .val (.long st98), .second, .val (.ref b119), .val (.long g146), .second, .val (.int (1 : Int32))] [(.long (g146 - (g146 / d41) * d41))]))
          refine own_on (fun t => XS.lconst X146.here hx rfl (hb hby at_186)) ?_
          show own_Fin p e below _ (T146.setTop (mkF m 187 #[.val (.long q1), .second, .val (.long q2), .second, .val (.int p3), .val (.int p4), .val (.long d41), .second, .val (.long sz97), .second, .val (.long st98), .second, .val (.ref b119), .val (.long g146), .second, .val (.int (1 : Int32))] [(.long (0 : Int64)), (.long (g146 - (g146 / d41) * d41))]))
          refine own_on (fun t => XS.lcmp X146.here hx rfl (hb hby at_187) rfl) ?_
          show own_Fin p e below _ (T146.setTop (mkF m 188 #[.val (.long q1), .second, .val (.long q2), .second, .val (.int p3), .val (.int p4), .val (.long d41), .second, .val (.long sz97), .second, .val (.long st98), .second, .val (.ref b119), .val (.long g146), .second, .val (.int (1 : Int32))] [(.int (lcmpW (g146 - (g146 / d41) * d41) (0 : Int64)))]))
          refine own_on (fun t => XS.ifNo X146.here hx rfl (hb hby at_188) rfl ((if0 _ _).trans (teq (own_lr0 (Int.le_of_lt dv146.1) (dv146.2.2.2 _ (Int.lt_of_lt_of_le (by decide) pd41.1) (own_lr1 (Int.le_of_lt psz97) hc147) (own_lr1 (Int.le_of_lt pst98) hc148)))).2)) ?_
          show own_Fin p e below _ (T146.setTop (mkF m 191 #[.val (.long q1), .second, .val (.long q2), .second, .val (.int p3), .val (.int p4), .val (.long d41), .second, .val (.long sz97), .second, .val (.long st98), .second, .val (.ref b119), .val (.long g146), .second, .val (.int (1 : Int32))] []))
          refine own_on (fun t => XS.iconst X146.here hx rfl (hb hby at_191)) ?_
          show own_Fin p e below _ (T146.setTop (mkF m 192 #[.val (.long q1), .second, .val (.long q2), .second, .val (.int p3), .val (.int p4), .val (.long d41), .second, .val (.long sz97), .second, .val (.long st98), .second, .val (.ref b119), .val (.long g146), .second, .val (.int (1 : Int32))] [(.int (1 : Int32))]))
          refine own_on (fun t => XS.goto X146.here hx rfl (pc0 := 192) (pc' := 196) rfl (hb hby at_192) (by decide) (by decide)) ?_
          show own_Fin p e below _ (T146.setTop (mkF m 196 #[.val (.long q1), .second, .val (.long q2), .second, .val (.int p3), .val (.int p4), .val (.long d41), .second, .val (.long sz97), .second, .val (.long st98), .second, .val (.ref b119), .val (.long g146), .second, .val (.int (1 : Int32))] [(.int (1 : Int32))]))
          exact own_retW (t := .boolean) X146 (Z := Z) (EL := own_EL) (a0 := a0) hx hlk hret rfl (Or.inl ⟨rfl, (by simp), _, rfl⟩) (hb hby at_196) hS127 (by rw [e146]; exact y145) hZ127 hEL (by rw [hh, e146]; exact y143) (⟨rfl, N146⟩) (by decide) (by decide)
        · refine own_on (fun t => XS.ifYes X146.here hx rfl (pc0 := 166) (pc' := 173) rfl (hb hby at_166) rfl ((if0 _ _).trans (feq hc148).2) (by decide) (by decide)) ?_
          show own_Fin p e below _ (T146.setTop (mkF m 173 #[.val (.long q1), .second, .val (.long q2), .second, .val (.int p3), .val (.int p4), .val (.long d41), .second, .val (.long sz97), .second, .val (.long st98), .second, .val (.ref b119), .val (.long g146), .second, .unset] []))
          refine own_on (fun t => XS.iconst X146.here hx rfl (hb hby at_173)) ?_
          show own_Fin p e below _ (T146.setTop (mkF m 174 #[.val (.long q1), .second, .val (.long q2), .second, .val (.int p3), .val (.int p4), .val (.long d41), .second, .val (.long sz97), .second, .val (.long st98), .second, .val (.ref b119), .val (.long g146), .second, .unset] [(.int (0 : Int32))]))
          refine own_on (fun t => XS.istore X146.here hx rfl (hb hby at_174) rfl (l' := #[.val (.long q1), .second, .val (.long q2), .second, .val (.int p3), .val (.int p4), .val (.long d41), .second, .val (.long sz97), .second, .val (.long st98), .second, .val (.ref b119), .val (.long g146), .second, .val (.int (0 : Int32))]) rfl) ?_
          show own_Fin p e below _ (T146.setTop (mkF m 176 #[.val (.long q1), .second, .val (.long q2), .second, .val (.int p3), .val (.int p4), .val (.long d41), .second, .val (.long sz97), .second, .val (.long st98), .second, .val (.ref b119), .val (.long g146), .second, .val (.int (0 : Int32))] []))
          refine own_on (fun t => XS.iload X146.here hx rfl (hb hby at_176) rfl) ?_
          show own_Fin p e below _ (T146.setTop (mkF m 178 #[.val (.long q1), .second, .val (.long q2), .second, .val (.int p3), .val (.int p4), .val (.long d41), .second, .val (.long sz97), .second, .val (.long st98), .second, .val (.ref b119), .val (.long g146), .second, .val (.int (0 : Int32))] [(.int (0 : Int32))]))
          refine own_on (fun t => XS.ifYes X146.here hx rfl (pc0 := 178) (pc' := 191) rfl (hb hby at_178) rfl ((if0 _ _).trans (teq (by decide : (0 : Int32) = (0 : Int32))).1) (by decide) (by decide)) ?_
          show own_Fin p e below _ (T146.setTop (mkF m 191 #[.val (.long q1), .second, .val (.long q2), .second, .val (.int p3), .val (.int p4), .val (.long d41), .second, .val (.long sz97), .second, .val (.long st98), .second, .val (.ref b119), .val (.long g146), .second, .val (.int (0 : Int32))] []))
          refine own_on (fun t => XS.iconst X146.here hx rfl (hb hby at_191)) ?_
          show own_Fin p e below _ (T146.setTop (mkF m 192 #[.val (.long q1), .second, .val (.long q2), .second, .val (.int p3), .val (.int p4), .val (.long d41), .second, .val (.long sz97), .second, .val (.long st98), .second, .val (.ref b119), .val (.long g146), .second, .val (.int (0 : Int32))] [(.int (1 : Int32))]))
          refine own_on (fun t => XS.goto X146.here hx rfl (pc0 := 192) (pc' := 196) rfl (hb hby at_192) (by decide) (by decide)) ?_
          show own_Fin p e below _ (T146.setTop (mkF m 196 #[.val (.long q1), .second, .val (.long q2), .second, .val (.int p3), .val (.int p4), .val (.long d41), .second, .val (.long sz97), .second, .val (.long st98), .second, .val (.ref b119), .val (.long g146), .second, .val (.int (0 : Int32))] [(.int (1 : Int32))]))
          exact own_retW (t := .boolean) X146 (Z := Z) (EL := own_EL) (a0 := a0) hx hlk hret rfl (Or.inl ⟨rfl, (by simp), _, rfl⟩) (hb hby at_196) hS127 (by rw [e146]; exact y145) hZ127 hEL (by rw [hh, e146]; exact y143) (⟨rfl, N146⟩) (by decide) (by decide)
      · refine own_on (fun t => XS.ifYes X146.here hx rfl (pc0 := 156) (pc' := 173) rfl (hb hby at_156) rfl ((if0 _ _).trans (feq hc147).2) (by decide) (by decide)) ?_
        show own_Fin p e below _ (T146.setTop (mkF m 173 #[.val (.long q1), .second, .val (.long q2), .second, .val (.int p3), .val (.int p4), .val (.long d41), .second, .val (.long sz97), .second, .val (.long st98), .second, .val (.ref b119), .val (.long g146), .second, .unset] []))
        refine own_on (fun t => XS.iconst X146.here hx rfl (hb hby at_173)) ?_
        show own_Fin p e below _ (T146.setTop (mkF m 174 #[.val (.long q1), .second, .val (.long q2), .second, .val (.int p3), .val (.int p4), .val (.long d41), .second, .val (.long sz97), .second, .val (.long st98), .second, .val (.ref b119), .val (.long g146), .second, .unset] [(.int (0 : Int32))]))
        refine own_on (fun t => XS.istore X146.here hx rfl (hb hby at_174) rfl (l' := #[.val (.long q1), .second, .val (.long q2), .second, .val (.int p3), .val (.int p4), .val (.long d41), .second, .val (.long sz97), .second, .val (.long st98), .second, .val (.ref b119), .val (.long g146), .second, .val (.int (0 : Int32))]) rfl) ?_
        show own_Fin p e below _ (T146.setTop (mkF m 176 #[.val (.long q1), .second, .val (.long q2), .second, .val (.int p3), .val (.int p4), .val (.long d41), .second, .val (.long sz97), .second, .val (.long st98), .second, .val (.ref b119), .val (.long g146), .second, .val (.int (0 : Int32))] []))
        refine own_on (fun t => XS.iload X146.here hx rfl (hb hby at_176) rfl) ?_
        show own_Fin p e below _ (T146.setTop (mkF m 178 #[.val (.long q1), .second, .val (.long q2), .second, .val (.int p3), .val (.int p4), .val (.long d41), .second, .val (.long sz97), .second, .val (.long st98), .second, .val (.ref b119), .val (.long g146), .second, .val (.int (0 : Int32))] [(.int (0 : Int32))]))
        refine own_on (fun t => XS.ifYes X146.here hx rfl (pc0 := 178) (pc' := 191) rfl (hb hby at_178) rfl ((if0 _ _).trans (teq (by decide : (0 : Int32) = (0 : Int32))).1) (by decide) (by decide)) ?_
        show own_Fin p e below _ (T146.setTop (mkF m 191 #[.val (.long q1), .second, .val (.long q2), .second, .val (.int p3), .val (.int p4), .val (.long d41), .second, .val (.long sz97), .second, .val (.long st98), .second, .val (.ref b119), .val (.long g146), .second, .val (.int (0 : Int32))] []))
        refine own_on (fun t => XS.iconst X146.here hx rfl (hb hby at_191)) ?_
        show own_Fin p e below _ (T146.setTop (mkF m 192 #[.val (.long q1), .second, .val (.long q2), .second, .val (.int p3), .val (.int p4), .val (.long d41), .second, .val (.long sz97), .second, .val (.long st98), .second, .val (.ref b119), .val (.long g146), .second, .val (.int (0 : Int32))] [(.int (1 : Int32))]))
        refine own_on (fun t => XS.goto X146.here hx rfl (pc0 := 192) (pc' := 196) rfl (hb hby at_192) (by decide) (by decide)) ?_
        show own_Fin p e below _ (T146.setTop (mkF m 196 #[.val (.long q1), .second, .val (.long q2), .second, .val (.int p3), .val (.int p4), .val (.long d41), .second, .val (.long sz97), .second, .val (.long st98), .second, .val (.ref b119), .val (.long g146), .second, .val (.int (0 : Int32))] [(.int (1 : Int32))]))
        exact own_retW (t := .boolean) X146 (Z := Z) (EL := own_EL) (a0 := a0) hx hlk hret rfl (Or.inl ⟨rfl, (by simp), _, rfl⟩) (hb hby at_196) hS127 (by rw [e146]; exact y145) hZ127 hEL (by rw [hh, e146]; exact y143) (⟨rfl, N146⟩) (by decide) (by decide)
set_option maxRecDepth 65536 in
set_option maxHeartbeats 40000000 in
theorem comes_1 {Post : Tables → Env → Array Value → State → Outcome → State → Prop} (hpost : ∀ tb e args s v u, (limb_1_1.after args s (.returned v) u = true ∧ limb_1_2.after args s (.returned v) u = true ∧ True) → ReturnedEndW s (.returned v) u (Jvm.fieldLocs frame_1_writes args s ++ Jvm.arrayLocs frame_1_arrays args s ++ Jvm.staticLocs frame_1_statics s) 16 1152 → Post tb e args s (.returned v) u) :
    ArmFor flags0 classFile x code maxLocals ret World_1 tables_1 room_1 Calls_1 rest_1 Pre_1 Post := by
  intro l hfl _ _ p e ha hc hk s m args below hf hA hF happ hP
  obtain ⟨hcalls, hrest, hpre⟩ := hP
  obtain ⟨-, -, -, hnamed, -, -, -, hat⟩ := (Spec.applies_iff hf).mp happ
  obtain ⟨hg, hn⟩ := and_e (Cond.before_iff.mp (show (Jvm.Cond.and given_1 narrow_1).before args s = true from hpre))
  obtain ⟨ga0l, ga0r⟩ := and_e hg
  obtain ⟨ga1l, ga1r⟩ := and_e ga0r
  obtain ⟨ga2l, ga2r⟩ := and_e ga1r
  obtain ⟨ga3l, ga3r⟩ := and_e ga2r
  obtain ⟨na0l, na0r⟩ := and_e hn
  obtain ⟨w0, w1, w2, w3, rfl⟩ : ∃ w0 w1 w2 w3 : Value, args = #[w0, w1, w2, w3] := by
    have hs : args.size = 4 := by simpa [Cond.value, given_1] using ga0l
    obtain ⟨L⟩ := args
    match L, hs with
    | [w0, w1, w2, w3], _ => exact ⟨w0, w1, w2, w3, rfl⟩
  have hw := fun d (hd : d ∈ tables_1) => atoms_spec (ws := Jvm.Cond.code x code maxLocals ret :: tables_1) hat d (List.mem_cons_of_mem _ hd)
  have hfit : Fit s := fun {y c} hc i hi => by
    obtain ⟨ha, rfl⟩ := Array.getElem?_eq_some_iff.mp hc
    have q := List.all_eq_true.mp ((Array.all_eq_true_iff_forall_mem.mp hF) _ (Array.getElem_mem ha)) i (List.mem_range.mpr hi)
    simpa [Array.getElem?_eq_getElem hi] using q
  obtain ⟨i0, ei0⟩ := isL_v ga1l
  obtain rfl : w0 = (.long i0) := Option.some.inj ei0
  obtain ⟨i1, ei1⟩ := isL_v ga2l
  obtain rfl : w1 = (.long i1) := Option.some.inj ei1
  obtain ⟨i2, ei2⟩ := is_v ga3l
  obtain rfl : w2 = (.int i2) := Option.some.inj ei2
  obtain ⟨i3, ei3⟩ := is_v ga3r
  obtain rfl : w3 = (.int i3) := Option.some.inj ei3
  obtain ⟨a_Window_Kind_RANGE, ev_Window_Kind_RANGE⟩ := exa_v na0l
  have E_Window_Kind_RANGE := Exa.start ev_Window_Kind_RANGE na0l
  have S_Window_Kind_RANGE := Sta.start ev_Window_Kind_RANGE (Or.inr ⟨(hw _ (List.mem_of_getElem? (i := 6) rfl)), (hw _ (List.mem_of_getElem? (i := 7) rfl))⟩)
  obtain ⟨a_Window_Kind_ROWS, ev_Window_Kind_ROWS⟩ := exa_v na0r
  have E_Window_Kind_ROWS := Exa.start ev_Window_Kind_ROWS na0r
  have S_Window_Kind_ROWS := Sta.start ev_Window_Kind_ROWS (Or.inr ⟨(hw _ (List.mem_of_getElem? (i := 6) rfl)), (hw _ (List.mem_of_getElem? (i := 49) rfl))⟩)
  have hEL : EW s #[.long i0, .long i1, .int i2, .int i3] own_EL := EW.nil
  obtain ⟨n, o, h1, h2, h3, _, L, rfl, ⟨rfl, N⟩, -, hq⟩ := rm0 l s _ hw tables_1 i0 i1 i2 i3 a_Window_Kind_RANGE a_Window_Kind_ROWS s.heap s.heap.size (Nat.le_refl _) hEL (Old.start s) S_Window_Kind_RANGE S_Window_Kind_ROWS p e ha hc hk s m _ below hf ((Spec.applies_iff_loose hf).mp happ).1 ⟨rfl, State.Warmed39.refl s, rfl, (fun _ hp => by cases hp)⟩ trivial
  refine ⟨n, _, h1, h2, h3, hpost _ _ _ _ _ _ ⟨Cond.after_iff.mpr rfl, Cond.after_iff.mpr (eq_i res_at (Term.int_eval (1)) rfl), trivial⟩ ⟨hq.1, hq.2.1, hq.2.2.1, (hq.2.2.2.sift fun y hy => Or.inr (N y hy)).mono (by decide) (by decide)⟩⟩
theorem main_1_1 : Claimed_1_1 := comes_1 fun _ _ _ _ _ _ h hF => ⟨h.1, hF⟩
theorem main_1_2 : Claimed_1_2 := comes_1 fun _ _ _ _ _ _ h hF => ⟨h.2.1, hF⟩
end Jvm.Pilot.@@N@@
namespace Jvm.Pilot.@@N@@
open Jvm Jvm.ClassFile Sem Op Lib Jvm.Free Jvm.Stand Jvm.Pilot.@@N@@.Jvm.D
/-! MADE BY PROGRAM (witnessworld.py) out of the Statement's table words and the real class files: 18 classes; the members and pool entries that the words name. The judged class is class 1, her method 1. -/
namespace start1
open Jvm.ClassFile
def u (s : String) : CpInfo := .utf8 (stringToUtf16 s)
/-- a pool by its gaps: so many unusable entries, then the entry; so many at the end -/
def gap : Nat → List CpInfo → List CpInfo
  | 0, r => r
  | n + 1, r => .unusable :: gap n r
def poolList (es : List (Nat × CpInfo)) (last : Nat) : List CpInfo := es.foldr (fun e r => gap e.1 (e.2 :: r)) (gap last [])
def pool (es : List (Nat × CpInfo)) (last : Nat) : Array CpInfo := ⟨poolList es last⟩
def fileOf (pool : Array CpInfo) (this : Nat) (attrs : Array Attribute := #[]) (ms : Array MethodInfo := #[]) (fl : Nat := 33) (sup : Nat := 0) (ifs : Array Nat := #[]) (fds : Array FieldInfo := #[]) : ClassFile where
  minorVersion := 0
  majorVersion := 65
  constantPool := pool
  accessFlags := fl
  thisClass := this
  superClass := sup
  interfaces := ifs
  fields := fds
  methods := ms
  attributes := attrs
def plain (name : String) (sup : Option ClassId) : Class where
  name := name
  kind := .ordinary
  loader := none
  accessFlags := 33
  super := sup
  interfaces := #[]
  cf := none
  fields := #[]
  methods := #[]
  instanceTypes := #[]
  staticTypes := #[]
  resolved := #[]
  callSites := []
  init := .initialized
  statics := none
  mirror := none

def pool0 : Array CpInfo := pool [(5, u "<init>"), (0, u "()V"), (1, .class_ 10), (1, u "java/lang/Object")] 113

def k0c0 : Code := { maxStack := 0, maxLocals := 1, code := object_method_1_code, exceptionTable := #[], attributes := #[] }
def k0m0 : Method := { name := "<init>", desc := "()V", sig := { parameters := [], returnType := none }, accessFlags := 1, code := some k0c0 }
/-- java/lang/Object -/
def k0 : Class := { plain "java/lang/Object" none with
  accessFlags := 33
  interfaces := #[]
  cf := some (fileOf pool0 8 #[] #[{ accessFlags := 1, nameIndex := 5, descriptorIndex := 6, attributes := #[] }] 33 0 #[] #[])
  fields := #[]
  methods := #[k0m0]
  instanceTypes := #[]
  staticTypes := #[]
  resolved := Array.replicate 124 none
  statics := none }

def pool1 : Array CpInfo := pool [(2, .class_ 4), (1, u "java/lang/Object"), (0, u "<init>"), (0, u "()V"), (0, .integer 2147483647), (0, .long 2147483647), (3, .long 9223372036854775807), (1, .methodref 15 16), (0, .class_ 17), (0, .nameAndType 18 19), (0, u "java/lang/Math"), (0, u "max"), (0, u "(JJ)J"), (0, .class_ 21), (0, u "com/example/confluent_streams/confluentstreams/Window"), (0, .fieldref 23 24), (0, .class_ 25), (0, .nameAndType 26 27), (0, u "com/example/confluent_streams/confluentstreams/Window$Kind"), (0, u "RANGE"), (0, u "Lcom/example/confluent_streams/confluentstreams/Window$Kind;"), (0, .string 29), (0, u "t"), (0, .methodref 20 31), (0, .nameAndType 5 32), (0, u "(Lcom/example/confluent_streams/confluentstreams/Window$Kind;JJLjava/lang/String;)V"), (0, .fieldref 23 34), (0, .nameAndType 35 27), (0, u "ROWS"), (0, .methodref 20 37), (0, .nameAndType 38 39), (0, u "paneSize"), (0, u "()J"), (0, .class_ 41), (0, u "com/example/confluent_streams/confluentstreams/WindowPaneSizePinLaw"), (2, u "law"), (0, u "(JJII)Z")] 5

def k1m0 : Method := { name := "<init>", desc := "()V", sig := { parameters := [], returnType := none }, accessFlags := 1, code := none }
def k1c1 : Code := { maxStack := 8, maxLocals := 16, code := code, exceptionTable := #[], attributes := #[] }
def k1m1 : Method := { name := "law", desc := "(JJII)Z", sig := { parameters := [.long, .long, .int, .int], returnType := some .boolean }, accessFlags := 9, code := some k1c1 }
/-- com/example/confluent_streams/confluentstreams/WindowPaneSizePinLaw -/
def k1 : Class := { plain "com/example/confluent_streams/confluentstreams/WindowPaneSizePinLaw" (some 0) with
  accessFlags := 49
  interfaces := #[]
  cf := some (fileOf pool1 40 #[] #[{ accessFlags := 1, nameIndex := 5, descriptorIndex := 6, attributes := #[] }, { accessFlags := 9, nameIndex := 44, descriptorIndex := 45, attributes := #[] }] 49 2 #[] #[])
  fields := #[]
  methods := #[k1m0, k1m1]
  instanceTypes := #[]
  staticTypes := #[]
  resolved := Array.replicate 51 none
  statics := none }

def pool2 : Array CpInfo := pool [(1, .methodref 2 3), (0, .class_ 4), (0, .nameAndType 5 6), (0, u "java/lang/Object"), (0, u "<init>"), (0, u "()V"), (0, .class_ 8), (0, u "java/lang/Record")] 13

def k2c0 : Code := { maxStack := 1, maxLocals := 1, code := jdk_30_method_1_code, exceptionTable := #[], attributes := #[] }
def k2m0 : Method := { name := "<init>", desc := "()V", sig := { parameters := [], returnType := none }, accessFlags := 4, code := some k2c0 }
/-- java/lang/Record -/
def k2 : Class := { plain "java/lang/Record" (some 0) with
  accessFlags := 1057
  interfaces := #[]
  cf := some (fileOf pool2 7 #[] #[{ accessFlags := 4, nameIndex := 5, descriptorIndex := 6, attributes := #[] }] 1057 2 #[] #[])
  fields := #[]
  methods := #[k2m0]
  instanceTypes := #[]
  staticTypes := #[]
  resolved := Array.replicate 22 none
  statics := none }

def pool3 : Array CpInfo := pool [(1, .methodref 2 3), (0, .class_ 4), (0, .nameAndType 5 6), (0, u "java/lang/Record"), (0, u "<init>"), (0, u "()V"), (0, .fieldref 8 9), (0, .class_ 10), (0, .nameAndType 11 12), (0, u "com/example/confluent_streams/confluentstreams/Window"), (0, u "kind"), (0, u "Lcom/example/confluent_streams/confluentstreams/Window$Kind;"), (0, .fieldref 8 14), (0, .nameAndType 15 16), (0, u "size"), (0, u "J"), (0, .fieldref 8 18), (0, .nameAndType 19 16), (0, u "step"), (0, .fieldref 8 21), (0, .nameAndType 22 23), (0, u "on"), (0, u "Ljava/lang/String;"), (10, .methodref 8 35), (0, .nameAndType 36 37), (0, u "greatestCommonDivisor"), (0, u "(JJ)J"), (2, u "(Lcom/example/confluent_streams/confluentstreams/Window$Kind;JJLjava/lang/String;)V"), (33, u "paneSize"), (0, u "()J"), (6, .class_ 83), (0, u "com/example/confluent_streams/confluentstreams/Window$Kind")] 32

def k3c0 : Code := { maxStack := 3, maxLocals := 7, code := prog_76_method_1_code, exceptionTable := #[], attributes := #[] }
def k3m0 : Method := { name := "<init>", desc := "(Lcom/example/confluent_streams/confluentstreams/Window$Kind;JJLjava/lang/String;)V", sig := { parameters := [(.object "com/example/confluent_streams/confluentstreams/Window$Kind"), .long, .long, (.object "java/lang/String")], returnType := none }, accessFlags := 0, code := some k3c0 }
def k3c1 : Code := { maxStack := 4, maxLocals := 1, code := prog_76_method_6_code, exceptionTable := #[], attributes := #[] }
def k3m1 : Method := { name := "paneSize", desc := "()J", sig := { parameters := [], returnType := some .long }, accessFlags := 0, code := some k3c1 }
def k3c2 : Code := { maxStack := 4, maxLocals := 10, code := prog_76_method_7_code, exceptionTable := #[], attributes := #[] }
def k3m2 : Method := { name := "greatestCommonDivisor", desc := "(JJ)J", sig := { parameters := [.long, .long], returnType := some .long }, accessFlags := 10, code := some k3c2 }
/-- com/example/confluent_streams/confluentstreams/Window -/
def k3 : Class := { plain "com/example/confluent_streams/confluentstreams/Window" (some 2) with
  accessFlags := 48
  interfaces := #[]
  cf := some (fileOf pool3 8 #[.nestMembers #[82]] #[{ accessFlags := 0, nameIndex := 5, descriptorIndex := 40, attributes := #[] }, { accessFlags := 0, nameIndex := 74, descriptorIndex := 75, attributes := #[] }, { accessFlags := 10, nameIndex := 36, descriptorIndex := 37, attributes := #[] }] 48 2 #[] #[{ accessFlags := 18, nameIndex := 11, descriptorIndex := 12, attributes := #[] }, { accessFlags := 18, nameIndex := 15, descriptorIndex := 16, attributes := #[] }, { accessFlags := 18, nameIndex := 19, descriptorIndex := 16, attributes := #[] }, { accessFlags := 18, nameIndex := 22, descriptorIndex := 23, attributes := #[] }])
  fields := #[{ name := "kind", type := (.object "com/example/confluent_streams/confluentstreams/Window$Kind"), accessFlags := 18, slot := 0, constantValue := 0 }, { name := "size", type := .long, accessFlags := 18, slot := 1, constantValue := 0 }, { name := "step", type := .long, accessFlags := 18, slot := 2, constantValue := 0 }, { name := "on", type := (.object "java/lang/String"), accessFlags := 18, slot := 3, constantValue := 0 }]
  methods := #[k3m0, k3m1, k3m2]
  instanceTypes := #[(.object "com/example/confluent_streams/confluentstreams/Window$Kind"), .long, .long, (.object "java/lang/String")]
  staticTypes := #[]
  resolved := Array.replicate 116 none
  statics := none }

def pool4 : Array CpInfo := pool [(1, .class_ 2), (0, u "java/lang/constant/Constable"), (0, .class_ 4), (0, u "java/lang/Object")] 6

/-- java/lang/constant/Constable -/
def k4 : Class := { plain "java/lang/constant/Constable" (some 0) with
  accessFlags := 1537
  interfaces := #[]
  cf := some (fileOf pool4 1 #[] #[] 1537 3 #[] #[])
  fields := #[]
  methods := #[]
  instanceTypes := #[]
  staticTypes := #[]
  resolved := Array.replicate 11 none
  statics := none }

def pool5 : Array CpInfo := pool [(1, .class_ 2), (0, u "java/lang/Comparable"), (0, .class_ 4), (0, u "java/lang/Object")] 7

/-- java/lang/Comparable -/
def k5 : Class := { plain "java/lang/Comparable" (some 0) with
  accessFlags := 1537
  interfaces := #[]
  cf := some (fileOf pool5 1 #[] #[] 1537 3 #[] #[])
  fields := #[]
  methods := #[]
  instanceTypes := #[]
  staticTypes := #[]
  resolved := Array.replicate 12 none
  statics := none }

def pool6 : Array CpInfo := pool [(1, .class_ 2), (0, u "java/io/Serializable"), (0, .class_ 4), (0, u "java/lang/Object")] 2

/-- java/io/Serializable -/
def k6 : Class := { plain "java/io/Serializable" (some 0) with
  accessFlags := 1537
  interfaces := #[]
  cf := some (fileOf pool6 1 #[] #[] 1537 3 #[] #[])
  fields := #[]
  methods := #[]
  instanceTypes := #[]
  staticTypes := #[]
  resolved := Array.replicate 7 none
  statics := none }

def pool7 : Array CpInfo := pool [(2, .class_ 4), (1, u "java/lang/Enum"), (0, u "name"), (0, u "Ljava/lang/String;"), (2, u "ordinal"), (0, u "I"), (1, .class_ 14), (1, u "java/lang/Object"), (4, u "hash"), (86, .class_ 108), (1, u "java/lang/Enum$EnumDesc"), (2, .class_ 112), (0, u "java/lang/constant/Constable"), (0, .class_ 114), (0, u "java/lang/Comparable"), (0, .class_ 116), (0, u "java/io/Serializable")] 87

/-- java/lang/Enum -/
def k7 : Class := { plain "java/lang/Enum" (some 0) with
  accessFlags := 1057
  interfaces := #[4, 5, 6]
  cf := some (fileOf pool7 2 #[.nestMembers #[106]] #[] 1057 12 #[111, 113, 115] #[{ accessFlags := 18, nameIndex := 5, descriptorIndex := 6, attributes := #[] }, { accessFlags := 18, nameIndex := 9, descriptorIndex := 10, attributes := #[] }, { accessFlags := 2, nameIndex := 19, descriptorIndex := 10, attributes := #[] }])
  fields := #[{ name := "name", type := (.object "java/lang/String"), accessFlags := 18, slot := 0, constantValue := 0 }, { name := "ordinal", type := .int, accessFlags := 18, slot := 1, constantValue := 0 }, { name := "hash", type := .int, accessFlags := 2, slot := 2, constantValue := 0 }]
  methods := #[]
  instanceTypes := #[(.object "java/lang/String"), .int, .int]
  staticTypes := #[]
  resolved := Array.replicate 204 none
  statics := none }

def pool8 : Array CpInfo := pool [(1, .class_ 2), (0, u "com/example/confluent_streams/confluentstreams/Window$Kind"), (2, u "ROWS"), (0, u "Lcom/example/confluent_streams/confluentstreams/Window$Kind;"), (2, u "RANGE"), (2, u "$VALUES"), (0, u "[Lcom/example/confluent_streams/confluentstreams/Window$Kind;"), (6, .class_ 22), (1, u "java/lang/Enum"), (25, .class_ 49), (0, u "com/example/confluent_streams/confluentstreams/Window")] 2

/-- com/example/confluent_streams/confluentstreams/Window$Kind -/
def k8 : Class := { plain "com/example/confluent_streams/confluentstreams/Window$Kind" (some 7) with
  accessFlags := 16432
  interfaces := #[]
  cf := some (fileOf pool8 1 #[.nestHost 48] #[] 16432 20 #[] #[{ accessFlags := 16409, nameIndex := 5, descriptorIndex := 6, attributes := #[] }, { accessFlags := 16409, nameIndex := 9, descriptorIndex := 6, attributes := #[] }, { accessFlags := 4122, nameIndex := 12, descriptorIndex := 13, attributes := #[] }])
  fields := #[{ name := "ROWS", type := (.object "com/example/confluent_streams/confluentstreams/Window$Kind"), accessFlags := 16409, slot := 0, constantValue := 0 }, { name := "RANGE", type := (.object "com/example/confluent_streams/confluentstreams/Window$Kind"), accessFlags := 16409, slot := 1, constantValue := 0 }, { name := "$VALUES", type := (.array (.object "com/example/confluent_streams/confluentstreams/Window$Kind")), accessFlags := 4122, slot := 2, constantValue := 0 }]
  methods := #[]
  instanceTypes := #[(.object "java/lang/String"), .int, .int]
  staticTypes := #[(.object "com/example/confluent_streams/confluentstreams/Window$Kind"), (.object "com/example/confluent_streams/confluentstreams/Window$Kind"), (.array (.object "com/example/confluent_streams/confluentstreams/Window$Kind"))]
  resolved := Array.replicate 52 none
  statics := some 0 }

def pool9 : Array CpInfo := pool [(2, .class_ 4), (1, u "java/lang/CharSequence"), (42, .class_ 48), (0, u "java/lang/CharSequence$1CodePointIterator"), (10, .class_ 60), (0, u "java/lang/CharSequence$1CharIterator"), (5, .class_ 67), (0, u "java/lang/Object")] 63

/-- java/lang/CharSequence -/
def k9 : Class := { plain "java/lang/CharSequence" (some 0) with
  accessFlags := 1537
  interfaces := #[]
  cf := some (fileOf pool9 2 #[.nestMembers #[47, 59]] #[] 1537 66 #[] #[])
  fields := #[]
  methods := #[]
  instanceTypes := #[]
  staticTypes := #[]
  resolved := Array.replicate 131 none
  statics := none }

def pool10 : Array CpInfo := pool [(1, .class_ 2), (0, u "java/lang/constant/ConstantDesc"), (0, .class_ 4), (0, u "java/lang/Object")] 32

/-- java/lang/constant/ConstantDesc -/
def k10 : Class := { plain "java/lang/constant/ConstantDesc" (some 0) with
  accessFlags := 1537
  interfaces := #[]
  cf := some (fileOf pool10 1 #[] #[] 1537 3 #[] #[])
  fields := #[]
  methods := #[]
  instanceTypes := #[]
  staticTypes := #[]
  resolved := Array.replicate 37 none
  statics := none }

def pool11 : Array CpInfo := pool [(2, .class_ 4), (1, u "java/lang/Object"), (0, u "<init>"), (0, u "()V"), (3, .class_ 12), (1, u "java/lang/String"), (0, u "value"), (0, u "[B"), (2, u "coder"), (0, u "B"), (2, u "hash"), (0, u "I"), (2, u "hashIsZero"), (0, u "Z"), (13, u "COMPACT_STRINGS"), (534, .class_ 576), (0, u "java/lang/CharSequence"), (22, u "CASE_INSENSITIVE_ORDER"), (0, u "Ljava/util/Comparator;"), (500, u "serialPersistentFields"), (0, u "[Ljava/io/ObjectStreamField;"), (0, .class_ 1104), (0, u "java/lang/String$CaseInsensitiveComparator"), (1, .class_ 1107), (0, u "java/io/Serializable"), (0, .class_ 1109), (0, u "java/lang/Comparable"), (0, .class_ 1111), (0, u "java/lang/constant/Constable"), (0, .class_ 1113), (0, u "java/lang/constant/ConstantDesc"), (2, u "serialVersionUID"), (0, u "J"), (3, u "REPL"), (0, u "C"), (2, u "LATIN1"), (1, u "UTF16")] 323

def k11m0 : Method := { name := "<init>", desc := "()V", sig := { parameters := [], returnType := none }, accessFlags := 1, code := none }
/-- java/lang/String -/
def k11 : Class := { plain "java/lang/String" (some 0) with
  accessFlags := 49
  interfaces := #[6, 5, 9, 4, 10]
  cf := some (fileOf pool11 10 #[.nestMembers #[1103]] #[{ accessFlags := 1, nameIndex := 5, descriptorIndex := 6, attributes := #[] }] 49 2 #[1106, 1108, 575, 1110, 1112] #[{ accessFlags := 18, nameIndex := 13, descriptorIndex := 14, attributes := #[] }, { accessFlags := 18, nameIndex := 17, descriptorIndex := 18, attributes := #[] }, { accessFlags := 2, nameIndex := 21, descriptorIndex := 22, attributes := #[] }, { accessFlags := 2, nameIndex := 25, descriptorIndex := 26, attributes := #[] }, { accessFlags := 26, nameIndex := 1116, descriptorIndex := 1117, attributes := #[] }, { accessFlags := 24, nameIndex := 40, descriptorIndex := 26, attributes := #[] }, { accessFlags := 26, nameIndex := 1101, descriptorIndex := 1102, attributes := #[] }, { accessFlags := 26, nameIndex := 1121, descriptorIndex := 1122, attributes := #[] }, { accessFlags := 25, nameIndex := 599, descriptorIndex := 600, attributes := #[] }, { accessFlags := 24, nameIndex := 1125, descriptorIndex := 18, attributes := #[] }, { accessFlags := 24, nameIndex := 1127, descriptorIndex := 18, attributes := #[] }])
  fields := #[{ name := "value", type := (.array .byte), accessFlags := 18, slot := 0, constantValue := 0 }, { name := "coder", type := .byte, accessFlags := 18, slot := 1, constantValue := 0 }, { name := "hash", type := .int, accessFlags := 2, slot := 2, constantValue := 0 }, { name := "hashIsZero", type := .boolean, accessFlags := 2, slot := 3, constantValue := 0 }, { name := "serialVersionUID", type := .long, accessFlags := 26, slot := 0, constantValue := 0 }, { name := "COMPACT_STRINGS", type := .boolean, accessFlags := 24, slot := 1, constantValue := 0 }, { name := "serialPersistentFields", type := (.array (.object "java/io/ObjectStreamField")), accessFlags := 26, slot := 2, constantValue := 0 }, { name := "REPL", type := .char, accessFlags := 26, slot := 3, constantValue := 0 }, { name := "CASE_INSENSITIVE_ORDER", type := (.object "java/util/Comparator"), accessFlags := 25, slot := 4, constantValue := 0 }, { name := "LATIN1", type := .byte, accessFlags := 24, slot := 5, constantValue := 0 }, { name := "UTF16", type := .byte, accessFlags := 24, slot := 6, constantValue := 0 }]
  methods := #[k11m0]
  instanceTypes := #[(.array .byte), .byte, .int, .boolean]
  staticTypes := #[.long, .boolean, (.array (.object "java/io/ObjectStreamField")), .char, (.object "java/util/Comparator"), .byte, .byte]
  resolved := Array.replicate 1451 none
  statics := none }

def pool12 : Array CpInfo := pool [(1, .class_ 2), (0, u "java/lang/Math"), (1, .class_ 6), (1, u "java/lang/Object"), (0, u "<init>"), (0, u "()V"), (89, .class_ 100), (1, u "java/lang/Math$RandomNumberGeneratorHolder"), (20, u "(JJ)J"), (50, u "negativeZeroFloatBits"), (0, u "J"), (2, u "negativeZeroDoubleBits"), (21, u "max"), (46, u "$assertionsDisabled"), (0, u "Z"), (91, u "twoToTheDoubleScaleDown"), (0, u "D"), (4, u "twoToTheDoubleScaleUp"), (9, u "E"), (3, u "PI"), (2, u "TAU"), (2, u "DEGREES_TO_RADIANS"), (0, u "RADIANS_TO_DEGREES")] 94

def k12m0 : Method := { name := "<init>", desc := "()V", sig := { parameters := [], returnType := none }, accessFlags := 2, code := none }
def k12c1 : Code := { maxStack := 4, maxLocals := 4, code := jdk_29_method_66_code, exceptionTable := #[], attributes := #[] }
def k12m1 : Method := { name := "max", desc := "(JJ)J", sig := { parameters := [.long, .long], returnType := some .long }, accessFlags := 9, code := some k12c1 }
/-- java/lang/Math -/
def k12 : Class := { plain "java/lang/Math" (some 0) with
  accessFlags := 49
  interfaces := #[]
  cf := some (fileOf pool12 1 #[.nestMembers #[98]] #[{ accessFlags := 2, nameIndex := 7, descriptorIndex := 8, attributes := #[] }, { accessFlags := 9, nameIndex := 198, descriptorIndex := 121, attributes := #[] }] 49 4 #[] #[{ accessFlags := 25, nameIndex := 354, descriptorIndex := 339, attributes := #[] }, { accessFlags := 25, nameIndex := 358, descriptorIndex := 339, attributes := #[] }, { accessFlags := 25, nameIndex := 361, descriptorIndex := 339, attributes := #[] }, { accessFlags := 26, nameIndex := 364, descriptorIndex := 339, attributes := #[] }, { accessFlags := 26, nameIndex := 365, descriptorIndex := 339, attributes := #[] }, { accessFlags := 26, nameIndex := 172, descriptorIndex := 173, attributes := #[] }, { accessFlags := 26, nameIndex := 176, descriptorIndex := 173, attributes := #[] }, { accessFlags := 8, nameIndex := 344, descriptorIndex := 339, attributes := #[] }, { accessFlags := 8, nameIndex := 338, descriptorIndex := 339, attributes := #[] }, { accessFlags := 4120, nameIndex := 245, descriptorIndex := 246, attributes := #[] }])
  fields := #[{ name := "E", type := .double, accessFlags := 25, slot := 0, constantValue := 0 }, { name := "PI", type := .double, accessFlags := 25, slot := 1, constantValue := 0 }, { name := "TAU", type := .double, accessFlags := 25, slot := 2, constantValue := 0 }, { name := "DEGREES_TO_RADIANS", type := .double, accessFlags := 26, slot := 3, constantValue := 0 }, { name := "RADIANS_TO_DEGREES", type := .double, accessFlags := 26, slot := 4, constantValue := 0 }, { name := "negativeZeroFloatBits", type := .long, accessFlags := 26, slot := 5, constantValue := 0 }, { name := "negativeZeroDoubleBits", type := .long, accessFlags := 26, slot := 6, constantValue := 0 }, { name := "twoToTheDoubleScaleUp", type := .double, accessFlags := 8, slot := 7, constantValue := 0 }, { name := "twoToTheDoubleScaleDown", type := .double, accessFlags := 8, slot := 8, constantValue := 0 }, { name := "$assertionsDisabled", type := .boolean, accessFlags := 4120, slot := 9, constantValue := 0 }]
  methods := #[k12m0, k12m1]
  instanceTypes := #[]
  staticTypes := #[.double, .double, .double, .double, .double, .long, .long, .double, .double, .boolean]
  resolved := Array.replicate 460 none
  statics := none }

def pool13 : Array CpInfo := pool [(1, u "java/lang/Cloneable"), (0, .class_ 1), (0, u "java/lang/Object"), (0, .class_ 3)] 3

/-- java/lang/Cloneable -/
def k13 : Class := { plain "java/lang/Cloneable" (some 0) with
  accessFlags := 1537
  interfaces := #[]
  cf := some (fileOf pool13 2 #[] #[] 1537 4 #[] #[])
  fields := #[]
  methods := #[]
  instanceTypes := #[]
  staticTypes := #[]
  resolved := Array.replicate 8 none
  statics := none }

/-- the primitive byte -/
def k14 : Class := { plain "byte" none with kind := .primitive 'B', accessFlags := 0x411 }
/-- [B -/
def k15 : Class := { plain "[B" (some 0) with kind := .array 14 .byte, interfaces := #[13, 6], accessFlags := 1041 }

/-- the primitive int -/
def k16 : Class := { plain "int" none with kind := .primitive 'I', accessFlags := 0x411 }
/-- [I -/
def k17 : Class := { plain "[I" (some 0) with kind := .array 16 .int, interfaces := #[13, 6], accessFlags := 1041 }

def heap : Heap := #[{ cls := 8, slots := #[.ref 2, .ref 1, .null], vm := .statics 8 },
  { cls := 8, slots := #[.null, .int 0, .int 0], vm := .none },
  { cls := 8, slots := #[.null, .int 1, .int 0], vm := .none }]
def classes : Array Class := #[k0, k1, k2, k3, k4, k5, k6, k7, k8, k9, k10, k11, k12, k13, k14, k15, k16, k17]
def interned : List (Array UInt16 × Addr) := []
def slotsUsed : Nat := 9
def theMethod : MethodId := ⟨1, 1⟩
def args0 : Array Value := #[.long 5, .long 5, .int 5, .int 3]
def aboutOver (below : List Frame) : State where
  vm := { classes := classes, interned := interned.toArray }
  heap := heap
  slotsUsed := slotsUsed
  threads := #[{ frames := .invoking theMethod args0 :: below }]
def below0 : List Frame := [.native { method := ⟨0, 0⟩, args := #[] }]
def about1 : State := aboutOver below0
def p0 : Program := .bare "" "" ""
def e0 : Env := launch0.env 0 0 0
theorem w_frames : about1.frames = Frame.invoking theMethod args0 :: below0 := rfl
set_option maxRecDepth 65536 in
theorem w_args : argsFit about1.vm theMethod args0 = true := by decide +kernel
set_option maxRecDepth 65536 in
theorem w_heap : heapFits about1 = true := by decide +kernel
set_option maxRecDepth 65536 in
theorem w_runnable : about1.curStatus? = some .runnable := by decide +kernel
set_option maxRecDepth 65536 in
theorem w_alone : about1.alone = true := by decide +kernel
set_option maxRecDepth 65536 in
theorem w_named : about1.methodNamed? x = some theMethod := by decide +kernel
set_option maxRecDepth 65536 in
theorem w_hears : about1.hears theMethod below0 = true := by decide +kernel
set_option maxRecDepth 65536 in
theorem w_ripe : about1.ripe theMethod args0 below0 = true := by decide +kernel
theorem w_running : about1.status = .running := rfl
set_option maxRecDepth 65536 in
theorem w_room : about1.hasRoom e0.platform room_1 = true :=
  launch0.hasRoom_least _ room_1 (by decide +kernel) (by decide +kernel) (by decide +kernel) (by decide +kernel) (by decide +kernel) (by decide +kernel)
theorem allAtoms_all (ts : List Jvm.Cond) (a : Array Jvm.Value) (st : Jvm.State) : (allAtoms ts).before a st = ts.all (fun c => c.before a st) := by
  induction ts with
  | nil => rfl
  | cons c t ih =>
    show (Jvm.Cond.and c (allAtoms t)).before a st = _
    rw [Jvm.Cond.before_and, ih, List.all_cons]
def words1 : List Jvm.Cond := Jvm.Cond.code x code maxLocals ret :: tables_1
/-- a 'code' word, met by the world's own term for the bytes: nothing is compared byte by byte -/
theorem code_word {y : MethodName} {bytes : ByteArray} {mx : Nat} {rt : Option FieldType} {a : Array Value} {s : State} {m : MethodId} {meth : Method} {c : Code} (h1 : s.methodNamed? y = some m) (h2 : s.vm.method? m = some meth) (h3 : meth.code = some c) (h4 : c.code = bytes)
    (h5 : (c.maxLocals == mx && c.exceptionTable.isEmpty && decide (c.maxStack ≤ mostOperands) && decide (meth.sig.returnType = rt) && !meth.locks && decide (parseMethodDescriptor y.desc = some meth.sig)) = true) : (Jvm.Cond.code y bytes mx rt).before a s = true := by
  simp only [Bool.and_eq_true, beq_iff_eq, Bool.not_eq_true', decide_eq_true_eq] at h5
  obtain ⟨⟨⟨⟨⟨g1, g2⟩, g3⟩, g4⟩, g5⟩, g6⟩ := h5
  simp [Cond.before, Cond.holds, Cond.value, h1, h2, h3, h4, g1, g2, g3, g4, g5, g6]
def isCode : Jvm.Cond → Bool
  | .code _ _ _ _ => true
  | _ => false
theorem all_split {L : List Jvm.Cond} {P : Jvm.Cond → Bool} (h1 : L.all (fun c => isCode c || P c) = true) (h2 : ∀ c ∈ L.filter isCode, P c = true) : L.all P = true := by
  refine List.all_eq_true.mpr fun c hc => ?_
  have h := List.all_eq_true.mp h1 c hc
  rcases Bool.eq_false_or_eq_true (isCode c) with hi | hi
  · exact h2 c (List.mem_filter.mpr ⟨hc, hi⟩)
  · simpa [hi] using h
set_option maxRecDepth 65536 in
theorem w_c0 : (Jvm.Cond.code x code maxLocals ret).before args0 about1 = true := code_word (m := ⟨1, 1⟩) (meth := k1m1) (c := k1c1) (by decide +kernel) rfl rfl rfl (by decide +kernel)
set_option maxRecDepth 65536 in
theorem w_c1 : (Jvm.Cond.code ({ cls := "com/example/confluent_streams/confluentstreams/Window", name := "<init>", desc := "(Lcom/example/confluent_streams/confluentstreams/Window$Kind;JJLjava/lang/String;)V" } : Jvm.MethodName) prog_76_method_1_code (7 : Nat) (Option.none : Option Jvm.ClassFile.FieldType)).before args0 about1 = true := code_word (m := ⟨3, 0⟩) (meth := k3m0) (c := k3c0) (by decide +kernel) rfl rfl rfl (by decide +kernel)
set_option maxRecDepth 65536 in
theorem w_c2 : (Jvm.Cond.code ({ cls := "java/lang/Record", name := "<init>", desc := "()V" } : Jvm.MethodName) jdk_30_method_1_code (1 : Nat) (Option.none : Option Jvm.ClassFile.FieldType)).before args0 about1 = true := code_word (m := ⟨2, 0⟩) (meth := k2m0) (c := k2c0) (by decide +kernel) rfl rfl rfl (by decide +kernel)
set_option maxRecDepth 65536 in
theorem w_c3 : (Jvm.Cond.code ({ cls := "java/lang/Object", name := "<init>", desc := "()V" } : Jvm.MethodName) object_method_1_code (1 : Nat) (Option.none : Option Jvm.ClassFile.FieldType)).before args0 about1 = true := code_word (m := ⟨0, 0⟩) (meth := k0m0) (c := k0c0) (by decide +kernel) rfl rfl rfl (by decide +kernel)
set_option maxRecDepth 65536 in
theorem w_c4 : (Jvm.Cond.code ({ cls := "com/example/confluent_streams/confluentstreams/Window", name := "paneSize", desc := "()J" } : Jvm.MethodName) prog_76_method_6_code (1 : Nat) (Option.some Jvm.ClassFile.FieldType.long)).before args0 about1 = true := code_word (m := ⟨3, 1⟩) (meth := k3m1) (c := k3c1) (by decide +kernel) rfl rfl rfl (by decide +kernel)
set_option maxRecDepth 65536 in
theorem w_c5 : (Jvm.Cond.code ({ cls := "com/example/confluent_streams/confluentstreams/Window", name := "greatestCommonDivisor", desc := "(JJ)J" } : Jvm.MethodName) prog_76_method_7_code (10 : Nat) (Option.some Jvm.ClassFile.FieldType.long)).before args0 about1 = true := code_word (m := ⟨3, 2⟩) (meth := k3m2) (c := k3c2) (by decide +kernel) rfl rfl rfl (by decide +kernel)
set_option maxRecDepth 65536 in
theorem w_c6 : (Jvm.Cond.code ({ cls := "java/lang/Math", name := "max", desc := "(JJ)J" } : Jvm.MethodName) jdk_29_method_66_code (4 : Nat) (Option.some Jvm.ClassFile.FieldType.long)).before args0 about1 = true := code_word (m := ⟨12, 1⟩) (meth := k12m1) (c := k12c1) (by decide +kernel) rfl rfl rfl (by decide +kernel)
def codes1 : List Jvm.Cond := [Jvm.Cond.code x code maxLocals ret, Jvm.Cond.code ({ cls := "com/example/confluent_streams/confluentstreams/Window", name := "<init>", desc := "(Lcom/example/confluent_streams/confluentstreams/Window$Kind;JJLjava/lang/String;)V" } : Jvm.MethodName) prog_76_method_1_code (7 : Nat) (Option.none : Option Jvm.ClassFile.FieldType), Jvm.Cond.code ({ cls := "java/lang/Record", name := "<init>", desc := "()V" } : Jvm.MethodName) jdk_30_method_1_code (1 : Nat) (Option.none : Option Jvm.ClassFile.FieldType), Jvm.Cond.code ({ cls := "java/lang/Object", name := "<init>", desc := "()V" } : Jvm.MethodName) object_method_1_code (1 : Nat) (Option.none : Option Jvm.ClassFile.FieldType), Jvm.Cond.code ({ cls := "com/example/confluent_streams/confluentstreams/Window", name := "paneSize", desc := "()J" } : Jvm.MethodName) prog_76_method_6_code (1 : Nat) (Option.some Jvm.ClassFile.FieldType.long), Jvm.Cond.code ({ cls := "com/example/confluent_streams/confluentstreams/Window", name := "greatestCommonDivisor", desc := "(JJ)J" } : Jvm.MethodName) prog_76_method_7_code (10 : Nat) (Option.some Jvm.ClassFile.FieldType.long), Jvm.Cond.code ({ cls := "java/lang/Math", name := "max", desc := "(JJ)J" } : Jvm.MethodName) jdk_29_method_66_code (4 : Nat) (Option.some Jvm.ClassFile.FieldType.long)]
set_option maxRecDepth 65536 in
theorem codes_eq : words1.filter isCode = codes1 := rfl
theorem w_codes : ∀ c ∈ words1.filter isCode, c.before args0 about1 = true := by
  rw [codes_eq]
  intro c hc
  simp only [codes1, List.mem_cons, List.not_mem_nil, or_false] at hc
  rcases hc with rfl | rfl | rfl | rfl | rfl | rfl | rfl
  · exact w_c0
  · exact w_c1
  · exact w_c2
  · exact w_c3
  · exact w_c4
  · exact w_c5
  · exact w_c6
set_option maxRecDepth 65536 in
theorem w_t1 : (words1.take 24).all (fun c => isCode c || c.before args0 about1) = true := by decide +kernel
set_option maxRecDepth 65536 in
theorem w_t2 : ((words1.drop 24).take 24).all (fun c => isCode c || c.before args0 about1) = true := by decide +kernel
set_option maxRecDepth 65536 in
theorem w_t3 : ((words1.drop 24).drop 24).all (fun c => isCode c || c.before args0 about1) = true := by decide +kernel
theorem w_tables : (allAtoms (Jvm.Cond.code x code maxLocals ret :: tables_1)).before args0 about1 = true := by
  rw [allAtoms_all]
  show words1.all (fun c => c.before args0 about1) = true
  refine all_split ?_ w_codes
  rw [← List.take_append_drop 24 words1, List.all_append, w_t1, ← List.take_append_drop 24 (words1.drop 24), List.all_append, w_t2, w_t3]
  rfl
set_option maxRecDepth 65536 in
theorem w_case : (Jvm.Cond.and given_1 narrow_1).before args0 about1 = true := by decide +kernel
theorem w_applies : (headSpec (Jvm.Cond.code x code maxLocals ret :: tables_1) room_1).applies x e0.platform about1 = true :=
  (Spec.applies_iff w_frames).mpr ⟨w_running, w_runnable, w_alone, w_named, w_hears, w_ripe, w_room, w_tables⟩
theorem atStart : AtStart classFile x code maxLocals ret World_1 tables_1 room_1 Calls_1 rest_1 Pre_1 launch0 p0 e0 about1 theMethod args0 below0 :=
  ⟨lists_1, trivial, launch0.admits_env _ _ _, launch0.least_env, fairChoices_fair.cas, fairChoices_fair.clock, w_frames, w_args, w_heap, w_applies, trivial, trivial, w_case⟩
end start1
theorem witness_1 : WitnessClaimed_1 := ⟨start1.p0, start1.e0, start1.about1, start1.theMethod, start1.args0, start1.below0, start1.atStart⟩
end Jvm.Pilot.@@N@@
