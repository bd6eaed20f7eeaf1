import JvmDerived
import JvmDerived.Pilot.@@N@@Statement
import JvmDerived.Pilot.@@N@@Code
set_option linter.unusedVariables false
set_option linter.unusedSimpArgs false
namespace Jvm.Pilot.@@N@@
open Jvm Jvm.ClassFile Sem Op Lib Jvm.Free Jvm.Stand Jvm.LawKit Jvm.RoadKit Bundle Jvm.Pilot.@@N@@.Jvm.D
section Own
variable {p : Program} {l : Launch} {e : Env} {R : Room} {s : State} {m : MethodId} {args : Array Value} {below : List Frame} {meth : Method} {c : Code} {T : State} {locs : List Loc} {cells slots : Nat} {P : Outcome → State → Prop}
/-- from S the run comes to an end that answers -/
def own_Fin (p : Program) (e : Env) (below : List Frame) (P : Outcome → State → Prop) (S : State) : Prop := ∃ s₂ o, Steps p.tables e below S s₂ ∧ s₂.status = .running ∧ Ended s₂ below o ∧ P o s₂
def own_Ans (s : State) (Q : Option Value → Heap → List Loc → Prop) (k n : Nat) (o : Outcome) (t : State) : Prop := ∃ v L, o = .returned v ∧ Q v t.heap L ∧ FrameEnd s o t L k n
theorem own_on {A B : State} (k : ∀ t, Steps p.tables e below B t → Steps p.tables e below A t) (h : own_Fin p e below P B) : own_Fin p e below P A := by
  obtain ⟨s₂, o, h1, h2⟩ := h
  exact ⟨s₂, o, k _ h1, h2⟩
theorem own_via {A B : State} (k : Steps p.tables e below A B) (h : own_Fin p e below P B) : own_Fin p e below P A := own_on (fun _ r => k.trans r) h
theorem own_cast {g g' : JFrame} (q : g = g') (h : own_Fin p e below P (T.setTop g')) : own_Fin p e below P (T.setTop g) := q ▸ h
theorem own_ret {Q : Option Value → Heap → List Loc → Prop} {k n : Nat} (X : Stand p l e R s m args below meth c T locs cells slots) (hx : p.tables.exec = Jvm.exec) (hlk : meth.locks = false) {pc : Nat} {Ls : Array Slot} {w : Value} {t : FieldType} {i : Instr} {rest : List Value} (hret : meth.sig.returnType = some t) (hn : narrow t w = w)
    (hi : (i = .ireturn ∧ (t = .int ∨ t = .boolean ∨ t = .byte ∨ t = .char ∨ t = .short) ∧ ∃ z, w = .int z) ∨ (i = .lreturn ∧ t = .long ∧ ∃ z, w = .long z) ∨ (i = .dreturn ∧ t = .double ∧ ∃ z, w = .double z) ∨ (i = .freturn ∧ t = .float ∧ ∃ z, w = .float z) ∨ (i = .areturn ∧ t.isReference = true ∧ w.isRef = true))
    (hd : decode c.code pc = .ok (i, 1)) (hQ : Q (some w) T.heap locs) (hk : cells ≤ k) (hs : slots ≤ n) : own_Fin p e below (own_Ans s Q k n) (T.setTop (mkF m pc Ls (w :: rest))) := by
  obtain ⟨fs, hr, hrun, hended, hW, hsame⟩ := X.leave (v := some w) (fun h => by rw [hret] at h; cases h) hlk
  exact ⟨_, _, retOut X hx hret hn hi hd hr, hrun, hended, _, _, rfl, hQ, ⟨_, rfl⟩, hW, hsame.mono hk hs⟩
theorem own_retV {Q : Option Value → Heap → List Loc → Prop} {k n : Nat} (X : Stand p l e R s m args below meth c T locs cells slots) (hx : p.tables.exec = Jvm.exec) (hlk : meth.locks = false) {pc : Nat} {Ls : Array Slot} (hret : meth.sig.returnType = none)
    (hd : decode c.code pc = .ok (.return_, 1)) (hQ : Q none T.heap locs) (hk : cells ≤ k) (hs : slots ≤ n) : own_Fin p e below (own_Ans s Q k n) (T.setTop (mkF m pc Ls [])) := by
  obtain ⟨fs, hr, hrun, hended, hW, hsame⟩ := X.leave (v := none) (fun _ => rfl) hlk
  exact ⟨_, _, X.returnOut hx hret hd hr, hrun, hended, _, _, rfl, hQ, ⟨_, rfl⟩, hW, hsame.mono hk hs⟩
theorem own_b1 {P : Prop} [Decidable P] (h : P) : ¬ ((if P then (1 : Int32) else 0) = 0) := by simp [h]
theorem own_b0 {P : Prop} [Decidable P] (h : ¬ P) : (if P then (1 : Int32) else 0) = 0 := by simp [h]
theorem own_nb {P : Prop} [Decidable P] : narrow .boolean (.int (if P then (1 : Int32) else 0)) = .int (if P then (1 : Int32) else 0) := by split <;> rfl
theorem own_iI {t : FieldType} (h : t = .int ∨ t = .boolean ∨ t = .byte ∨ t = .char ∨ t = .short) {w : Value} {z : Int32} (hw : w = .int z) : ((Instr.ireturn = .ireturn ∧ (t = .int ∨ t = .boolean ∨ t = .byte ∨ t = .char ∨ t = .short) ∧ ∃ z, w = .int z) ∨ (Instr.ireturn = .lreturn ∧ t = .long ∧ ∃ z, w = .long z) ∨ (Instr.ireturn = .dreturn ∧ t = .double ∧ ∃ z, w = .double z) ∨ (Instr.ireturn = .freturn ∧ t = .float ∧ ∃ z, w = .float z) ∨ (Instr.ireturn = .areturn ∧ t.isReference = true ∧ w.isRef = true)) := Or.inl ⟨rfl, h, z, hw⟩
theorem own_ne_of {Z : State} {h : Heap} {x : Addr} (q : x < h.size) {b : Addr} (g : b = h.size) : x ≠ b := Nat.ne_of_lt (Nat.lt_of_lt_of_le q (Nat.le_of_eq g.symm))
theorem own_eqf {a0 : Array Value} {C n d : String} {t : Term} {a : Addr} {k : Int32} (ev : t.eval a0 s none [] s = some (.ref a)) (h : (Jvm.Cond.eq (.field t C n d) (.int k)).value a0 s none s [] = some true) : Fld s s.heap a C n d (.int k) := by
  obtain ⟨x, y, h1, h2, h3, -⟩ := cmp_v (Or.inl h)
  have hy : y = .int k := (Option.some.inj ((show (Term.int k).eval a0 s none [] s = some (.int k) from rfl).symm.trans h2)).symm
  subst hy
  cases x <;> simp [Kin, Value.isRef] at h3
  rename_i z
  have hz : z = k := by
    have q := h
    simp only [Cond.value, h1, show (Term.int k).eval a0 s none [] s = some (.int k) from rfl] at q
    simpa using q
  subst hz
  exact Fld.start ((fld_at ev).symm.trans h1)
theorem own_len {a0 : Array Value} {t : Term} {a : Addr} {cl : Cell} {z : Int32} (ht : t.eval a0 s none [] s = some (.ref a)) (ha : s.arrayAt? a = some cl) (h : (Term.length t).eval a0 s none [] s = some (.int z)) : cl.slots.size < 2 ^ 31 ∧ cl.slots.size.toInt32 = z := by
  by_cases hl : cl.slots.size < 2 ^ 31
  · rw [len_f ht ha hl] at h
    exact ⟨hl, by simpa using h⟩
  · have hl' : ¬ cl.slots.size < 2147483648 := hl
    simp [Term.eval, ht, ha, hl'] at h
theorem own_sub {a0 : Array Value} {t u : Term} {idx : List Nat} {x y : Int32} (h1 : t.eval a0 s none idx s = some (.int x)) (h2 : u.eval a0 s none idx s = some (.int y)) : (Term.sub t u).eval a0 s none idx s = some (.int (x - y)) := by simp [Term.eval, h1, h2]
theorem own_eqx {a0 : Array Value} {t u : Term} {b : Addr} (eu : u.eval a0 s none [] s = some (.ref b)) (h : (Jvm.Cond.eq t u).value a0 s none s [] = some true) : t.eval a0 s none [] s = some (.ref b) := by
  obtain ⟨x, y, h1, h2, h3, -⟩ := cmp_v (Or.inl h)
  cases eu.symm.trans h2
  have hr : x.isRef = true := by cases x <;> simp [Kin, Value.isRef] at h3 ⊢
  have q := gotT (eq_R h1 eu hr rfl) h
  subst q
  exact h1
theorem own_eqr {a0 : Array Value} {C n d : String} {t u : Term} {a b : Addr} (ev : t.eval a0 s none [] s = some (.ref a)) (eu : u.eval a0 s none [] s = some (.ref b)) (h : (Jvm.Cond.eq (.field t C n d) u).value a0 s none s [] = some true) : Fld s s.heap a C n d (.ref b) := by
  obtain ⟨x, y, h1, h2, h3, -⟩ := cmp_v (Or.inl h)
  cases eu.symm.trans h2
  have hr : x.isRef = true := by cases x <;> simp [Kin, Value.isRef] at h3 ⊢
  have q := gotT (eq_R h1 eu hr rfl) h
  subst q
  exact Fld.start ((fld_at ev).symm.trans h1)
end Own
theorem pn_0 : plainName "java/lang/Record" = true := by first | (simp [plainName, overriddenIn]; done) | decide +kernel
theorem d2_0 : decode jdk_30_method_1_code 0 = .ok (.aload_n 0, 1) := by decide +kernel
theorem d2_1 : decode jdk_30_method_1_code 1 = .ok (.invokespecial 1, 3) := by decide +kernel
theorem d2_4 : decode jdk_30_method_1_code 4 = .ok (.return_, 1) := by decide +kernel
theorem ef_rm2 (m : MethodId) (x0 : Addr) : entryFrame m #[(.ref x0)] 1 = mkF m 0 #[.val (.ref x0)] [] := by first | (simp [entryFrame, mkF, argsToLocals, Value.category]; done) | rfl
def Q2 (Z : State) (a : Addr) (h0 : Heap) (n0 : Nat) (v : Option Value) (h : Heap) (L : List Loc) : Prop := v = none ∧ Fr n0 L ∧ h = h0
set_option maxRecDepth 65536 in
set_option maxHeartbeats 40000000 in
theorem rm2 (l : Launch) (Z : State) (a0 : Array Value) (hw : ∀ d ∈ tables_1, d.before a0 Z = true) (ws : List Jvm.Cond) (a : Addr) (h0 : Heap) (n0 : Nat) (Z0 : n0 ≤ h0.size) :
    MetFree l (⟨"java/lang/Record", "<init>", "()V"⟩ : MethodName) (head1 (Jvm.Cond.code (⟨"java/lang/Record", "<init>", "()V"⟩ : MethodName) jdk_30_method_1_code 1 none :: ws) ({ frames := 1, cells := 0, slots := 0, locals := 12 } : Room)) (fun as_ U => as_ = #[(.ref a)] ∧ Z.Warmed39 U.vm ∧ U.heap = h0) (fun _ _ _ _ _ => True) (fun _ U out_ U' => ∃ v L, out_ = .returned v ∧ Q2 Z a h0 n0 v U'.heap L ∧ FrameEnd U out_ U' L ({ frames := 1, cells := 0, slots := 0, locals := 12 } : Room).cells ({ frames := 1, cells := 0, slots := 0, locals := 12 } : Room).slots) := by
  refine MetFree.of_bodySF (plainFor_of_name pn_0) hisR ?_
  intro p e s m args below meth cd s₁ Bd hml0 hP hK
  obtain ⟨rfl, hZ, hh⟩ := hP
  have hx := Bd.exec
  have hby := Bd.bytes
  have hml : cd.maxLocals = 1 := hml0
  have hlk : meth.locks = false := BodyLoose.notSynchronized Bd
  have hown : s.vm.findClass "java/lang/Record" = some m.cls := findClass_of_methodNamed Bd.named
  have hnm := (name_of_methodNamed Bd.named Bd.method).1
  have hret := Bd.returns
  have X0 : Stand p l e ({ frames := 1, cells := 0, slots := 0, locals := 12 } : Room) s m #[(.ref a)] below meth cd s₁ [] 0 0 := Stand.of_body Bd
  have e0 : s₁.heap = h0 := by rw [← hh, Bd.state]; rfl
  have N0 := Fr.nil n0
  show own_Fin p e below (own_Ans s (Q2 Z a h0 n0) ({ frames := 1, cells := 0, slots := 0, locals := 12 } : Room).cells ({ frames := 1, cells := 0, slots := 0, locals := 12 } : Room).slots) (s₁.setTop (entryFrame m #[(.ref a)] 1))
  refine own_cast (ef_rm2 m a) ?_
  show own_Fin p e below _ (s₁.setTop (mkF m 0 #[.val (.ref a)] []))
  refine own_on (fun t => XS.aloadN X0.here hx rfl (hb hby d2_0) rfl rfl) ?_
  show own_Fin p e below _ (s₁.setTop (mkF m 1 #[.val (.ref a)] [(.ref a)]))
  obtain ⟨T1, X1, e1, st1⟩ := initO X0 hx hZ hown (hw _ (List.mem_of_getElem? (i := 11) rfl)) (hw _ (List.mem_of_getElem? (i := 12) rfl)) (hw _ (List.mem_of_getElem? (i := 13) rfl)) e0 (g := (mkF m 1 #[.val (.ref a)] [(.ref a)])) rfl (by rw [hml]; rfl) rfl (hb hby d2_1) (by decide) (W := 0) (by show 2 * 0 + _ ≤ _; exact Nat.le_of_eq rfl) (by decide)
  refine own_on st1 ?_
  show own_Fin p e below _ (T1.setTop (mkF m 4 #[.val (.ref a)] []))
  exact own_retV X1 hx hlk hret (hb hby d2_4) (⟨rfl, N0, e1⟩) (by decide) (by decide)
theorem pn_1 : plainName "com/example/settlewatt/settlewatt/model/CommitmentPeriod" = true := by first | (simp [plainName, overriddenIn]; done) | decide +kernel
theorem d1_0 : decode prog_5_method_1_code 0 = .ok (.aload_n 0, 1) := by decide +kernel
theorem d1_1 : decode prog_5_method_1_code 1 = .ok (.invokespecial 1, 3) := by decide +kernel
theorem pd_0 : parseMethodDescriptor "()V" = some ⟨[], none⟩ := by decide +kernel
theorem d1_4 : decode prog_5_method_1_code 4 = .ok (.aload_n 0, 1) := by decide +kernel
theorem d1_5 : decode prog_5_method_1_code 5 = .ok (.iload_n 1, 1) := by decide +kernel
theorem d1_6 : decode prog_5_method_1_code 6 = .ok (.putfield 7, 3) := by decide +kernel
theorem d1_9 : decode prog_5_method_1_code 9 = .ok (.return_, 1) := by decide +kernel
theorem ef_rm1 (m : MethodId) (x0 : Addr) (x1 : Int32) : entryFrame m #[(.ref x0), (.int x1)] 2 = mkF m 0 #[.val (.ref x0), .val (.int x1)] [] := by first | (simp [entryFrame, mkF, argsToLocals, Value.category]; done) | rfl
def Q1 (Z : State) (a : Addr) (y : Int32) (h0 : Heap) (n0 : Nat) (v : Option Value) (h : Heap) (L : List Loc) : Prop := v = none ∧ Fr n0 L ∧ Keep h0 h [a] ∧ Exa Z h a "com/example/settlewatt/settlewatt/model/CommitmentPeriod" ∧ Fld Z h a "com/example/settlewatt/settlewatt/model/CommitmentPeriod" "firstYear" "I" (.int y)
set_option maxRecDepth 65536 in
set_option maxHeartbeats 40000000 in
theorem rm1 (l : Launch) (Z : State) (a0 : Array Value) (hw : ∀ d ∈ tables_1, d.before a0 Z = true) (ws : List Jvm.Cond) (a : Addr) (y : Int32) (h0 : Heap) (n0 : Nat) (Z0 : n0 ≤ h0.size) (E : Exa Z h0 a "com/example/settlewatt/settlewatt/model/CommitmentPeriod") (F : Fld Z h0 a "com/example/settlewatt/settlewatt/model/CommitmentPeriod" "firstYear" "I" (.int (0 : Int32))) (ga : n0 ≤ a) :
    MetFree l (⟨"com/example/settlewatt/settlewatt/model/CommitmentPeriod", "<init>", "(I)V"⟩ : MethodName) (head1 (Jvm.Cond.code (⟨"com/example/settlewatt/settlewatt/model/CommitmentPeriod", "<init>", "(I)V"⟩ : MethodName) prog_5_method_1_code 2 none :: ws) ({ frames := 2, cells := 0, slots := 0, locals := 24 } : Room)) (fun as_ U => as_ = #[(.ref a), (.int y)] ∧ Z.Warmed39 U.vm ∧ U.heap = h0) (fun _ _ _ _ _ => True) (fun _ U out_ U' => ∃ v L, out_ = .returned v ∧ Q1 Z a y h0 n0 v U'.heap L ∧ FrameEnd U out_ U' L ({ frames := 2, cells := 0, slots := 0, locals := 24 } : Room).cells ({ frames := 2, cells := 0, slots := 0, locals := 24 } : Room).slots) := by
  refine MetFree.of_bodySF (plainFor_of_name pn_1) hisR ?_
  intro p e s m args below meth cd s₁ Bd hml0 hP hK
  obtain ⟨rfl, hZ, hh⟩ := hP
  have hx := Bd.exec
  have hby := Bd.bytes
  have hml : cd.maxLocals = 2 := hml0
  have hlk : meth.locks = false := BodyLoose.notSynchronized Bd
  have hown : s.vm.findClass "com/example/settlewatt/settlewatt/model/CommitmentPeriod" = some m.cls := findClass_of_methodNamed Bd.named
  have hnm := (name_of_methodNamed Bd.named Bd.method).1
  have hret := Bd.returns
  have X0 : Stand p l e ({ frames := 2, cells := 0, slots := 0, locals := 24 } : Room) s m #[(.ref a), (.int y)] below meth cd s₁ [] 0 0 := Stand.of_body Bd
  have e0 : s₁.heap = h0 := by rw [← hh, Bd.state]; rfl
  have N0 := Fr.nil n0
  show own_Fin p e below (own_Ans s (Q1 Z a y h0 n0) ({ frames := 2, cells := 0, slots := 0, locals := 24 } : Room).cells ({ frames := 2, cells := 0, slots := 0, locals := 24 } : Room).slots) (s₁.setTop (entryFrame m #[(.ref a), (.int y)] 2))
  refine own_cast (ef_rm1 m a y) ?_
  show own_Fin p e below _ (s₁.setTop (mkF m 0 #[.val (.ref a), .val (.int y)] []))
  refine own_on (fun t => XS.aloadN X0.here hx rfl (hb hby d1_0) rfl rfl) ?_
  show own_Fin p e below _ (s₁.setTop (mkF m 1 #[.val (.ref a), .val (.int y)] [(.ref a)]))
  obtain ⟨_, _, ⟨T2, L2, k2, n2⟩, -, X2, ⟨Lc2, hQ2, l2, y2, z2⟩, st2⟩ := X0.specialBack hx (y := (⟨"java/lang/Record", "<init>", "()V"⟩ : MethodName)) rfl hown (mvT hZ (hw _ (List.mem_of_getElem? (i := 6) rfl))) (mvT hZ (hw _ (List.mem_of_getElem? (i := 7) rfl))) (mvT hZ (hw _ (List.mem_of_getElem? (i := 10) rfl))) (by decide) (backOf (W := 0) (rm2 l Z a0 hw [] a h0 n0 (by exact Z0)) hZ (hw _ (List.mem_of_getElem? (i := 10) rfl)) (hw _ (List.mem_of_getElem? (i := 9) rfl)) (by decide) (by decide)) (g := (mkF m 1 #[.val (.ref a), .val (.int y)] [(.ref a)])) rfl (by rw [hml]; rfl) (Steps.refl _) (a := a) (argsL := []) (rest := []) (lenOf pd_0 rfl) rfl (by show 2 * 0 + _ ≤ _; exact Nat.le_of_eq rfl) (hb hby d1_1) (fun _ _ => ⟨rfl, e0, (by decide : 0 + 0 ≤ _), (by decide : 0 + 0 ≤ _)⟩)
  dsimp only [Pt.U, Pt.locs, Pt.cells, Pt.slots] at X2 l2 y2 z2 st2 hQ2
  subst l2 y2 z2
  obtain ⟨rfl, N2q, e2⟩ := hQ2
  have N2 := Fr.app N0 N2q
  refine own_via st2 ?_
  show own_Fin p e below _ (T2.setTop (mkF m 4 #[.val (.ref a), .val (.int y)] []))
  refine own_on (fun t => XS.aloadN X2.here hx rfl (hb hby d1_4) rfl rfl) ?_
  show own_Fin p e below _ (T2.setTop (mkF m 5 #[.val (.ref a), .val (.int y)] [(.ref a)]))
  refine own_on (fun t => XS.iloadN X2.here hx rfl (hb hby d1_5) rfl) ?_
  show own_Fin p e below _ (T2.setTop (mkF m 6 #[.val (.ref a), .val (.int y)] [(.int y), (.ref a)]))
  obtain ⟨T3, h3, X3, e3, W3, st3⟩ := putF X2 hx hZ hown (host := "") (Or.inl (hw _ (List.mem_of_getElem? (i := 14) rfl))) Via.refl e2 F E (Or.inr ⟨(hw _ (List.mem_of_getElem? (i := 15) rfl)), rfl, hnm⟩) (hw _ (List.mem_of_getElem? (i := 1) rfl)) (ty := .int) (by decide) rfl rfl (g := (mkF m 6 #[.val (.ref a), .val (.int y)] [(.int y), (.ref a)])) rfl rfl (hb hby d1_6)
  have N3 := Fr.snoc X3 N2 ga
  have y4 := (E.wr W3)
  have y5 := (F.same W3)
  have y6 := ((Keep.refl h0 [a]).wr W3 (Or.inl (List.mem_of_getElem? (i := 0) rfl)))
  have y7 := (Nat.le_trans Z0 (Keep.of_wr W3).1)
  refine own_on st3 ?_
  show own_Fin p e below _ (T3.setTop (mkF m 9 #[.val (.ref a), .val (.int y)] []))
  exact own_retV X3 hx hlk hret (hb hby d1_9) (by show Q1 Z a y h0 n0 _ T3.heap _; rw [e3]; exact ⟨rfl, N3, y6, y4, y5⟩) (by decide) (by decide)
theorem d6_0 : decode prog_5_method_7_code 0 = .ok (.aload_n 0, 1) := by decide +kernel
theorem d6_1 : decode prog_5_method_7_code 1 = .ok (.getfield 7, 3) := by decide +kernel
theorem d6_4 : decode prog_5_method_7_code 4 = .ok (.ireturn, 1) := by decide +kernel
theorem ef_rm6 (m : MethodId) (x0 : Addr) : entryFrame m #[(.ref x0)] 1 = mkF m 0 #[.val (.ref x0)] [] := by first | (simp [entryFrame, mkF, argsToLocals, Value.category]; done) | rfl
def Q6 (Z : State) (a1 : Addr) (y : Int32) (h0 : Heap) (n0 : Nat) (v : Option Value) (h : Heap) (L : List Loc) : Prop := v = some (.int y) ∧ Fr n0 L ∧ h = h0
set_option maxRecDepth 65536 in
set_option maxHeartbeats 40000000 in
theorem rm6 (l : Launch) (Z : State) (a0 : Array Value) (hw : ∀ d ∈ tables_1, d.before a0 Z = true) (ws : List Jvm.Cond) (a1 : Addr) (y : Int32) (h0 : Heap) (n0 : Nat) (Z0 : n0 ≤ h0.size) (F : Fld Z h0 a1 "com/example/settlewatt/settlewatt/model/CommitmentPeriod" "firstYear" "I" (.int y)) :
    MetFree l (⟨"com/example/settlewatt/settlewatt/model/CommitmentPeriod", "firstYear", "()I"⟩ : MethodName) (head1 (Jvm.Cond.code (⟨"com/example/settlewatt/settlewatt/model/CommitmentPeriod", "firstYear", "()I"⟩ : MethodName) prog_5_method_7_code 1 (some .int) :: ws) ({ frames := 0, cells := 0, slots := 0, locals := 0 } : Room)) (fun as_ U => as_ = #[(.ref a1)] ∧ Z.Warmed39 U.vm ∧ U.heap = h0) (fun _ _ _ _ _ => True) (fun _ U out_ U' => ∃ v L, out_ = .returned v ∧ Q6 Z a1 y h0 n0 v U'.heap L ∧ FrameEnd U out_ U' L ({ frames := 0, cells := 0, slots := 0, locals := 0 } : Room).cells ({ frames := 0, cells := 0, slots := 0, locals := 0 } : Room).slots) := by
  refine MetFree.of_bodySF (plainFor_of_name pn_1) hisR ?_
  intro p e s m args below meth cd s₁ Bd hml0 hP hK
  obtain ⟨rfl, hZ, hh⟩ := hP
  have hx := Bd.exec
  have hby := Bd.bytes
  have hml : cd.maxLocals = 1 := hml0
  have hlk : meth.locks = false := BodyLoose.notSynchronized Bd
  have hown : s.vm.findClass "com/example/settlewatt/settlewatt/model/CommitmentPeriod" = some m.cls := findClass_of_methodNamed Bd.named
  have hnm := (name_of_methodNamed Bd.named Bd.method).1
  have hret := Bd.returns
  have X0 : Stand p l e ({ frames := 0, cells := 0, slots := 0, locals := 0 } : Room) s m #[(.ref a1)] below meth cd s₁ [] 0 0 := Stand.of_body Bd
  have e0 : s₁.heap = h0 := by rw [← hh, Bd.state]; rfl
  have N0 := Fr.nil n0
  show own_Fin p e below (own_Ans s (Q6 Z a1 y h0 n0) ({ frames := 0, cells := 0, slots := 0, locals := 0 } : Room).cells ({ frames := 0, cells := 0, slots := 0, locals := 0 } : Room).slots) (s₁.setTop (entryFrame m #[(.ref a1)] 1))
  refine own_cast (ef_rm6 m a1) ?_
  show own_Fin p e below _ (s₁.setTop (mkF m 0 #[.val (.ref a1)] []))
  refine own_on (fun t => XS.aloadN X0.here hx rfl (hb hby d6_0) rfl rfl) ?_
  show own_Fin p e below _ (s₁.setTop (mkF m 1 #[.val (.ref a1)] [(.ref a1)]))
  obtain ⟨T8, X8, e8, st8⟩ := getF X0 hx hZ hown (host := "") (Or.inl (hw _ (List.mem_of_getElem? (i := 14) rfl))) Via.refl e0 F (g := (mkF m 1 #[.val (.ref a1)] [(.ref a1)])) rfl rfl (hb hby d6_1)
  refine own_on st8 ?_
  show own_Fin p e below _ (T8.setTop (mkF m 4 #[.val (.ref a1)] [(.int y)]))
  exact own_ret (t := .int) X8 hx hlk hret rfl (Or.inl ⟨rfl, (by simp), _, rfl⟩) (hb hby d6_4) (⟨rfl, N0, e8⟩) (by decide) (by decide)
theorem pn_2 : plainName "com/example/settlewatt/settlewatt/rules/PerformancePaymentRate" = true := by first | (simp [plainName, overriddenIn]; done) | decide +kernel
theorem d5_0 : decode prog_42_method_1_code 0 = .ok (.getstatic 13, 3) := by decide +kernel
theorem d5_3 : decode prog_42_method_1_code 3 = .ok (.invokevirtual 17, 3) := by decide +kernel
theorem d5_6 : decode prog_42_method_1_code 6 = .ok (.checkcast 18, 3) := by decide +kernel
theorem d5_9 : decode prog_42_method_1_code 9 = .ok (.areturn, 1) := by decide +kernel
theorem ef_rm5 (m : MethodId)  : entryFrame m #[] 0 = mkF m 0 #[] [] := by first | (simp [entryFrame, mkF, argsToLocals, Value.category]; done) | rfl
def Q5 (Z : State) (va : Addr) (kv : ClassId) (c0 : Addr) (c1 : Addr) (c2 : Addr) (h0 : Heap) (n0 : Nat) (v : Option Value) (h : Heap) (L : List Loc) : Prop := ∃ b : Addr, v = some (.ref b) ∧ Fr n0 L ∧ Keep h0 h [] ∧ Arv Z h b kv (.object "com/example/settlewatt/settlewatt/rules/PerformancePaymentRate") (3 : Int32) [(.ref c0), (.ref c1), (.ref c2)] .null
set_option maxRecDepth 65536 in
set_option maxHeartbeats 40000000 in
theorem rm5 (l : Launch) (Z : State) (a0 : Array Value) (hw : ∀ d ∈ tables_1, d.before a0 Z = true) (ws : List Jvm.Cond) (va : Addr) (kv : ClassId) (c0 : Addr) (c1 : Addr) (c2 : Addr) (h0 : Heap) (n0 : Nat) (Z0 : n0 ≤ h0.size) (O : Old Z n0 h0) (SV : Sta Z Z.heap "com/example/settlewatt/settlewatt/rules/PerformancePaymentRate" "$VALUES" "[Lcom/example/settlewatt/settlewatt/rules/PerformancePaymentRate;" (.ref va)) (AV : Arv Z Z.heap va kv (.object "com/example/settlewatt/settlewatt/rules/PerformancePaymentRate") (3 : Int32) [(.ref c0), (.ref c1), (.ref c2)] .null) (EV : Exa Z Z.heap va "[Lcom/example/settlewatt/settlewatt/rules/PerformancePaymentRate;") :
    MetFree l (⟨"com/example/settlewatt/settlewatt/rules/PerformancePaymentRate", "values", "()[Lcom/example/settlewatt/settlewatt/rules/PerformancePaymentRate;"⟩ : MethodName) (head1 (Jvm.Cond.code (⟨"com/example/settlewatt/settlewatt/rules/PerformancePaymentRate", "values", "()[Lcom/example/settlewatt/settlewatt/rules/PerformancePaymentRate;"⟩ : MethodName) prog_42_method_1_code 0 (some (.array (.object "com/example/settlewatt/settlewatt/rules/PerformancePaymentRate"))) :: ws) ({ frames := 1, cells := 1, slots := 3, locals := 14 } : Room)) (fun as_ U => as_ = #[] ∧ Z.Warmed39 U.vm ∧ U.heap = h0) (fun _ _ _ _ _ => True) (fun _ U out_ U' => ∃ v L, out_ = .returned v ∧ Q5 Z va kv c0 c1 c2 h0 n0 v U'.heap L ∧ FrameEnd U out_ U' L ({ frames := 1, cells := 1, slots := 3, locals := 14 } : Room).cells ({ frames := 1, cells := 1, slots := 3, locals := 14 } : Room).slots) := by
  refine MetFree.of_bodySF (plainFor_of_name pn_2) hisR ?_
  intro p e s m args below meth cd s₁ Bd hml0 hP hK
  obtain ⟨rfl, hZ, hh⟩ := hP
  have hx := Bd.exec
  have hby := Bd.bytes
  have hml : cd.maxLocals = 0 := hml0
  have hlk : meth.locks = false := BodyLoose.notSynchronized Bd
  have hown : s.vm.findClass "com/example/settlewatt/settlewatt/rules/PerformancePaymentRate" = some m.cls := findClass_of_methodNamed Bd.named
  have hnm := (name_of_methodNamed Bd.named Bd.method).1
  have hret := Bd.returns
  have X0 : Stand p l e ({ frames := 1, cells := 1, slots := 3, locals := 14 } : Room) s m #[] below meth cd s₁ [] 0 0 := Stand.of_body Bd
  have e0 : s₁.heap = h0 := by rw [← hh, Bd.state]; rfl
  have N0 := Fr.nil n0
  show own_Fin p e below (own_Ans s (Q5 Z va kv c0 c1 c2 h0 n0) ({ frames := 1, cells := 1, slots := 3, locals := 14 } : Room).cells ({ frames := 1, cells := 1, slots := 3, locals := 14 } : Room).slots) (s₁.setTop (entryFrame m #[] 0))
  refine own_cast (ef_rm5 m ) ?_
  show own_Fin p e below _ (s₁.setTop (mkF m 0 #[] []))
  obtain ⟨T9, X9, e9, st9⟩ := getS2 X0 hx hZ hown (host := "") (Or.inl (hw _ (List.mem_of_getElem? (i := 23) rfl))) Via.refl e0 (SV.ext O.2) (g := (mkF m 0 #[] [])) rfl (hb hby d5_0)
  refine own_on st9 ?_
  show own_Fin p e below _ (T9.setTop (mkF m 3 #[] [(.ref va)]))
  obtain ⟨T10, h10, X10, e10, E10, A10, D10, st10⟩ := cloneH X9 hx hZ hown (hw _ (List.mem_of_getElem? (i := 25) rfl)) (hw _ (List.mem_of_getElem? (i := 26) rfl)) (hw _ (List.mem_of_getElem? (i := 30) rfl)) (hw _ (List.mem_of_getElem? (i := 28) rfl)) (hw _ (List.mem_of_getElem? (i := 29) rfl)) (hw _ (List.mem_of_getElem? (i := 31) rfl)) e9 (Arv.arh (AV.ext O.2)) (EV.ext O.2) (g := (mkF m 3 #[] [(.ref va)])) rfl (by rw [hml]; rfl) rfl (hb hby d5_3) (by decide) (W := 0) (cap := 3) (by show 2 * 0 + _ ≤ _; exact Nat.le_of_eq rfl) (by decide) (by decide) (by decide) (by decide)
  obtain ⟨b10, g10⟩ : ∃ z, z = h0.size := ⟨_, rfl⟩
  rw [← g10] at A10 D10 st10
  have ne10_va : va ≠ b10 := own_ne_of (Z := Z) (EV.ext O.2).lt g10
  have y11 := (O.ext E10)
  have y12 := ((Keep.refl h0 []).ext E10)
  have y13 := (Nat.le_trans Z0 E10.1)
  have y14 := ((EV.ext O.2).ext E10)
  have y15 := ((AV.ext O.2).ext E10)
  have gn10 : n0 ≤ b10 := Nat.le_trans Z0 (Nat.le_of_eq g10.symm)
  have gk10 : h0.size ≤ b10 := Nat.le_trans (Keep.refl h0 []).1 (Nat.le_of_eq g10.symm)
  have V10 : Arv Z h10 b10 kv (.object "com/example/settlewatt/settlewatt/rules/PerformancePaymentRate") (3 : Int32) [(.ref c0), (.ref c1), (.ref c2)] .null := A10
  refine own_on st10 ?_
  show own_Fin p e below _ (T10.setTop (mkF m 6 #[] [(.ref b10)]))
  obtain ⟨T16, X16, e16, st16⟩ := castY X10 hx hZ hown (hw _ (List.mem_of_getElem? (i := 36) rfl)) e10 (Ins.self D10) (g := (mkF m 6 #[] [(.ref b10)])) rfl rfl (hb hby d5_6)
  refine own_on st16 ?_
  show own_Fin p e below _ (T16.setTop (mkF m 9 #[] [(.ref b10)]))
  exact own_ret (t := (.array (.object "com/example/settlewatt/settlewatt/rules/PerformancePaymentRate"))) X16 hx hlk hret rfl (Or.inr (Or.inr (Or.inr (Or.inr ⟨rfl, rfl, rfl⟩)))) (hb hby d5_9) (by show Q5 Z va kv c0 c1 c2 h0 n0 _ T16.heap _; rw [e16]; exact ⟨b10, rfl, N0, y12, V10⟩) (by decide) (by decide)
def own_res (y : Int32) (c0 c1 c2 : Addr) : Value := if y < (2018 : Int32) then Value.null else if y < (2021 : Int32) then Value.ref c0 else if y < (2024 : Int32) then Value.ref c1 else Value.ref c2
theorem own_resr (y : Int32) (c0 c1 c2 : Addr) : (own_res y c0 c1 c2).isRef = true := by
  unfold own_res
  repeat' split
  all_goals rfl
theorem own_up {y a b : Int32} (h : y < a) (q : a.toInt ≤ b.toInt) : y < b := by rw [Int32.lt_iff_toInt_lt] at h ⊢; omega
theorem own_dn {y a b : Int32} (h : ¬ y < b) (q : a.toInt ≤ b.toInt) : ¬ y < a := by rw [Int32.lt_iff_toInt_lt] at h ⊢; omega
theorem d4_0 : decode prog_42_method_4_code 0 = .ok (.aconst_null, 1) := by decide +kernel
theorem d4_1 : decode prog_42_method_4_code 1 = .ok (.astore_n 1, 1) := by decide +kernel
theorem d4_2 : decode prog_42_method_4_code 2 = .ok (.invokestatic 50, 3) := by decide +kernel
theorem pd_1 : parseMethodDescriptor "()[Lcom/example/settlewatt/settlewatt/rules/PerformancePaymentRate;" = some ⟨[], some (.array (.object "com/example/settlewatt/settlewatt/rules/PerformancePaymentRate"))⟩ := by decide +kernel
theorem d4_5 : decode prog_42_method_4_code 5 = .ok (.astore_n 2, 1) := by decide +kernel
theorem d4_6 : decode prog_42_method_4_code 6 = .ok (.aload_n 2, 1) := by decide +kernel
theorem d4_7 : decode prog_42_method_4_code 7 = .ok (.arraylength, 1) := by decide +kernel
theorem d4_8 : decode prog_42_method_4_code 8 = .ok (.istore_n 3, 1) := by decide +kernel
theorem d4_9 : decode prog_42_method_4_code 9 = .ok (.iconst 0, 1) := by decide +kernel
theorem d4_10 : decode prog_42_method_4_code 10 = .ok (.istore 4, 2) := by decide +kernel
theorem d4_12 : decode prog_42_method_4_code 12 = .ok (.iload 4, 2) := by decide +kernel
theorem d4_14 : decode prog_42_method_4_code 14 = .ok (.iload_n 3, 1) := by decide +kernel
theorem d4_15 : decode prog_42_method_4_code 15 = .ok (.if_icmp .ge 33, 3) := by decide +kernel
theorem d4_18 : decode prog_42_method_4_code 18 = .ok (.aload_n 2, 1) := by decide +kernel
theorem d4_19 : decode prog_42_method_4_code 19 = .ok (.iload 4, 2) := by decide +kernel
theorem d4_21 : decode prog_42_method_4_code 21 = .ok (.aaload, 1) := by decide +kernel
theorem d4_22 : decode prog_42_method_4_code 22 = .ok (.astore 5, 2) := by decide +kernel
theorem d4_24 : decode prog_42_method_4_code 24 = .ok (.aload_n 0, 1) := by decide +kernel
theorem d4_25 : decode prog_42_method_4_code 25 = .ok (.invokevirtual 54, 3) := by decide +kernel
theorem pd_2 : parseMethodDescriptor "()I" = some ⟨[], some .int⟩ := by decide +kernel
theorem d4_28 : decode prog_42_method_4_code 28 = .ok (.aload 5, 2) := by decide +kernel
theorem d4_30 : decode prog_42_method_4_code 30 = .ok (.getfield 37, 3) := by decide +kernel
theorem d4_33 : decode prog_42_method_4_code 33 = .ok (.invokevirtual 54, 3) := by decide +kernel
theorem d4_36 : decode prog_42_method_4_code 36 = .ok (.if_icmp .lt 6, 3) := by decide +kernel
theorem d4_42 : decode prog_42_method_4_code 42 = .ok (.iinc 4 1, 3) := by decide +kernel
theorem d4_45 : decode prog_42_method_4_code 45 = .ok (.goto (-33), 3) := by decide +kernel
theorem d4_48 : decode prog_42_method_4_code 48 = .ok (.aload_n 1, 1) := by decide +kernel
theorem d4_49 : decode prog_42_method_4_code 49 = .ok (.areturn, 1) := by decide +kernel
theorem d4_39 : decode prog_42_method_4_code 39 = .ok (.aload 5, 2) := by decide +kernel
theorem d4_41 : decode prog_42_method_4_code 41 = .ok (.astore_n 1, 1) := by decide +kernel
theorem ef_rm4 (m : MethodId) (x0 : Addr) : entryFrame m #[(.ref x0)] 6 = mkF m 0 #[.val (.ref x0), .unset, .unset, .unset, .unset, .unset] [] := by first | (simp [entryFrame, mkF, argsToLocals, Value.category]; done) | rfl
def Q4 (Z : State) (c : Addr) (y : Int32) (va : Addr) (kv : ClassId) (c0 : Addr) (c1 : Addr) (c2 : Addr) (d0 : Addr) (d1 : Addr) (d2 : Addr) (r : Value) (h0 : Heap) (n0 : Nat) (v : Option Value) (h : Heap) (L : List Loc) : Prop := v = some r ∧ Fr n0 L ∧ Keep h0 h []
set_option maxRecDepth 65536 in
set_option maxHeartbeats 40000000 in
theorem rm4 (l : Launch) (Z : State) (a0 : Array Value) (hw : ∀ d ∈ tables_1, d.before a0 Z = true) (ws : List Jvm.Cond) (c : Addr) (y : Int32) (va : Addr) (kv : ClassId) (c0 : Addr) (c1 : Addr) (c2 : Addr) (d0 : Addr) (d1 : Addr) (d2 : Addr) (r : Value) (h0 : Heap) (n0 : Nat) (Z0 : n0 ≤ h0.size) (O : Old Z n0 h0) (SV : Sta Z Z.heap "com/example/settlewatt/settlewatt/rules/PerformancePaymentRate" "$VALUES" "[Lcom/example/settlewatt/settlewatt/rules/PerformancePaymentRate;" (.ref va)) (AV : Arv Z Z.heap va kv (.object "com/example/settlewatt/settlewatt/rules/PerformancePaymentRate") (3 : Int32) [(.ref c0), (.ref c1), (.ref c2)] .null) (EV : Exa Z Z.heap va "[Lcom/example/settlewatt/settlewatt/rules/PerformancePaymentRate;") (F0 : Fld Z Z.heap c0 "com/example/settlewatt/settlewatt/rules/PerformancePaymentRate" "firstPeriod" "Lcom/example/settlewatt/settlewatt/model/CommitmentPeriod;" (.ref d0)) (F1 : Fld Z Z.heap c1 "com/example/settlewatt/settlewatt/rules/PerformancePaymentRate" "firstPeriod" "Lcom/example/settlewatt/settlewatt/model/CommitmentPeriod;" (.ref d1)) (F2 : Fld Z Z.heap c2 "com/example/settlewatt/settlewatt/rules/PerformancePaymentRate" "firstPeriod" "Lcom/example/settlewatt/settlewatt/model/CommitmentPeriod;" (.ref d2)) (E0 : Exa Z Z.heap d0 "com/example/settlewatt/settlewatt/model/CommitmentPeriod") (E1 : Exa Z Z.heap d1 "com/example/settlewatt/settlewatt/model/CommitmentPeriod") (E2 : Exa Z Z.heap d2 "com/example/settlewatt/settlewatt/model/CommitmentPeriod") (Y0 : Fld Z Z.heap d0 "com/example/settlewatt/settlewatt/model/CommitmentPeriod" "firstYear" "I" (.int (2018 : Int32))) (Y1 : Fld Z Z.heap d1 "com/example/settlewatt/settlewatt/model/CommitmentPeriod" "firstYear" "I" (.int (2021 : Int32))) (Y2 : Fld Z Z.heap d2 "com/example/settlewatt/settlewatt/model/CommitmentPeriod" "firstYear" "I" (.int (2024 : Int32))) (E : Exa Z h0 c "com/example/settlewatt/settlewatt/model/CommitmentPeriod") (F : Fld Z h0 c "com/example/settlewatt/settlewatt/model/CommitmentPeriod" "firstYear" "I" (.int y)) (hr : r = own_res y c0 c1 c2) :
    MetFree l (⟨"com/example/settlewatt/settlewatt/rules/PerformancePaymentRate", "of", "(Lcom/example/settlewatt/settlewatt/model/CommitmentPeriod;)Lcom/example/settlewatt/settlewatt/rules/PerformancePaymentRate;"⟩ : MethodName) (head1 (Jvm.Cond.code (⟨"com/example/settlewatt/settlewatt/rules/PerformancePaymentRate", "of", "(Lcom/example/settlewatt/settlewatt/model/CommitmentPeriod;)Lcom/example/settlewatt/settlewatt/rules/PerformancePaymentRate;"⟩ : MethodName) prog_42_method_4_code 6 (some (.object "com/example/settlewatt/settlewatt/rules/PerformancePaymentRate")) :: ws) ({ frames := 2, cells := 1, slots := 3, locals := 25 } : Room)) (fun as_ U => as_ = #[(.ref c)] ∧ Z.Warmed39 U.vm ∧ U.heap = h0) (fun _ _ _ _ _ => True) (fun _ U out_ U' => ∃ v L, out_ = .returned v ∧ Q4 Z c y va kv c0 c1 c2 d0 d1 d2 r h0 n0 v U'.heap L ∧ FrameEnd U out_ U' L ({ frames := 2, cells := 1, slots := 3, locals := 25 } : Room).cells ({ frames := 2, cells := 1, slots := 3, locals := 25 } : Room).slots) := by
  refine MetFree.of_bodySF (plainFor_of_name pn_2) hisR ?_
  intro p e s m args below meth cd s₁ Bd hml0 hP hK
  obtain ⟨rfl, hZ, hh⟩ := hP
  have hx := Bd.exec
  have hby := Bd.bytes
  have hml : cd.maxLocals = 6 := hml0
  have hlk : meth.locks = false := BodyLoose.notSynchronized Bd
  have hown : s.vm.findClass "com/example/settlewatt/settlewatt/rules/PerformancePaymentRate" = some m.cls := findClass_of_methodNamed Bd.named
  have hnm := (name_of_methodNamed Bd.named Bd.method).1
  have hret := Bd.returns
  have X0 : Stand p l e ({ frames := 2, cells := 1, slots := 3, locals := 25 } : Room) s m #[(.ref c)] below meth cd s₁ [] 0 0 := Stand.of_body Bd
  have e0 : s₁.heap = h0 := by rw [← hh, Bd.state]; rfl
  have N0 := Fr.nil n0
  show own_Fin p e below (own_Ans s (Q4 Z c y va kv c0 c1 c2 d0 d1 d2 r h0 n0) ({ frames := 2, cells := 1, slots := 3, locals := 25 } : Room).cells ({ frames := 2, cells := 1, slots := 3, locals := 25 } : Room).slots) (s₁.setTop (entryFrame m #[(.ref c)] 6))
  refine own_cast (ef_rm4 m c) ?_
  show own_Fin p e below _ (s₁.setTop (mkF m 0 #[.val (.ref c), .unset, .unset, .unset, .unset, .unset] []))
  refine own_on (fun t => XS.aconstNull X0.here hx rfl (hb hby d4_0)) ?_
  show own_Fin p e below _ (s₁.setTop (mkF m 1 #[.val (.ref c), .unset, .unset, .unset, .unset, .unset] [.null]))
  refine own_on (fun t => XS.astoreN X0.here hx rfl (hb hby d4_1) rfl rfl (l' := #[.val (.ref c), .val .null, .unset, .unset, .unset, .unset]) rfl) ?_
  show own_Fin p e below _ (s₁.setTop (mkF m 2 #[.val (.ref c), .val .null, .unset, .unset, .unset, .unset] []))
  obtain ⟨_, _, ⟨T17, L17, k17, n17⟩, -, X17, ⟨Lc17, hQ17, l17, y17, z17⟩, st17⟩ := Jvm.LawKit.callS X0 hx (y := (⟨"com/example/settlewatt/settlewatt/rules/PerformancePaymentRate", "values", "()[Lcom/example/settlewatt/settlewatt/rules/PerformancePaymentRate;"⟩ : MethodName)) hown (mvT hZ (hw _ (List.mem_of_getElem? (i := 20) rfl))) (mvT hZ (hw _ (List.mem_of_getElem? (i := 21) rfl))) (mvT hZ (hw _ (List.mem_of_getElem? (i := 18) rfl))) (mvT hZ (hw _ (List.mem_of_getElem? (i := 22) rfl))) (by decide) (backOf (W := 0) (rm5 l Z a0 hw [] va kv c0 c1 c2 h0 n0 (by exact Z0) O SV AV EV) hZ (hw _ (List.mem_of_getElem? (i := 22) rfl)) (hw _ (List.mem_of_getElem? (i := 18) rfl)) (by decide) (by decide)) (g := (mkF m 2 #[.val (.ref c), .val .null, .unset, .unset, .unset, .unset] [])) rfl (by rw [hml]; rfl) (argsL := []) (rest := []) (lenOf pd_1 rfl) rfl (by show 2 * 0 + _ ≤ _; exact Nat.le_of_eq rfl) (hb hby d4_2) (fun _ _ => ⟨rfl, e0, (by decide : 0 + 1 ≤ _), (by decide : 0 + 3 ≤ _)⟩)
  dsimp only [Pt.U, Pt.locs, Pt.cells, Pt.slots] at X17 l17 y17 z17 st17 hQ17
  subst l17 y17 z17
  obtain ⟨v17, rfl, N17q, K17, A17q⟩ := hQ17
  have N17 := Fr.app N0 N17q
  have y18 := (O.keep K17 all0)
  have y19 := (Nat.le_trans Z0 K17.1)
  have y20 := ((Keep.refl h0 []).trans K17 all0)
  have y21 := (E.keep K17)
  have y22 := (F.keep K17 nin0)
  have y23 := ((F0.ext O.2).keep K17 nin0)
  have y24 := ((E0.ext O.2).keep K17)
  have y25 := ((Y0.ext O.2).keep K17 nin0)
  have y26 := ((F1.ext O.2).keep K17 nin0)
  have y27 := ((E1.ext O.2).keep K17)
  have y28 := ((Y1.ext O.2).keep K17 nin0)
  have y29 := ((F2.ext O.2).keep K17 nin0)
  have y30 := ((E2.ext O.2).keep K17)
  have y31 := ((Y2.ext O.2).keep K17 nin0)
  refine own_on st17 ?_
  show own_Fin p e below _ (T17.setTop (mkF m 5 #[.val (.ref c), .val .null, .unset, .unset, .unset, .unset] [(.ref v17)]))
  refine own_on (fun t => XS.astoreN X17.here hx rfl (hb hby d4_5) rfl rfl (l' := #[.val (.ref c), .val .null, .val (.ref v17), .unset, .unset, .unset]) rfl) ?_
  show own_Fin p e below _ (T17.setTop (mkF m 6 #[.val (.ref c), .val .null, .val (.ref v17), .unset, .unset, .unset] []))
  refine own_on (fun t => XS.aloadN X17.here hx rfl (hb hby d4_6) rfl rfl) ?_
  show own_Fin p e below _ (T17.setTop (mkF m 7 #[.val (.ref c), .val .null, .val (.ref v17), .unset, .unset, .unset] [(.ref v17)]))
  have cp32 := A17q
  obtain ⟨cl32, Ar32, q32, S32, G32, H32, F32⟩ := cp32
  refine own_on (fun t => X17.arraylength hx Ar32.1 (State.isArrayOf_alike hZ.alike Ar32.2.1) (g := (mkF m 7 #[.val (.ref c), .val .null, .val (.ref v17), .unset, .unset, .unset] [(.ref v17)])) rfl rfl (hb hby d4_7) t) ?_
  rw [len_of S32 G32]
  show own_Fin p e below _ (T17.setTop (mkF m 8 #[.val (.ref c), .val .null, .val (.ref v17), .unset, .unset, .unset] [(.int (3 : Int32))]))
  refine own_on (fun t => XS.istoreN X17.here hx rfl (hb hby d4_8) rfl (l' := #[.val (.ref c), .val .null, .val (.ref v17), .val (.int (3 : Int32)), .unset, .unset]) rfl) ?_
  show own_Fin p e below _ (T17.setTop (mkF m 9 #[.val (.ref c), .val .null, .val (.ref v17), .val (.int (3 : Int32)), .unset, .unset] []))
  refine own_on (fun t => XS.iconst X17.here hx rfl (hb hby d4_9)) ?_
  show own_Fin p e below _ (T17.setTop (mkF m 10 #[.val (.ref c), .val .null, .val (.ref v17), .val (.int (3 : Int32)), .unset, .unset] [(.int (0 : Int32))]))
  refine own_on (fun t => XS.istore X17.here hx rfl (hb hby d4_10) rfl (l' := #[.val (.ref c), .val .null, .val (.ref v17), .val (.int (3 : Int32)), .val (.int (0 : Int32)), .unset]) rfl) ?_
  show own_Fin p e below _ (T17.setTop (mkF m 12 #[.val (.ref c), .val .null, .val (.ref v17), .val (.int (3 : Int32)), .val (.int (0 : Int32)), .unset] []))
  refine own_on (fun t => XS.iload X17.here hx rfl (hb hby d4_12) rfl) ?_
  show own_Fin p e below _ (T17.setTop (mkF m 14 #[.val (.ref c), .val .null, .val (.ref v17), .val (.int (3 : Int32)), .val (.int (0 : Int32)), .unset] [(.int (0 : Int32))]))
  refine own_on (fun t => XS.iloadN X17.here hx rfl (hb hby d4_14) rfl) ?_
  show own_Fin p e below _ (T17.setTop (mkF m 15 #[.val (.ref c), .val .null, .val (.ref v17), .val (.int (3 : Int32)), .val (.int (0 : Int32)), .unset] [(.int (3 : Int32)), (.int (0 : Int32))]))
  refine own_on (fun t => XS.icmpNo X17.here hx rfl (hb hby d4_15) rfl (tlt (by decide : (0 : Int32) < (3 : Int32))).2.1) ?_
  show own_Fin p e below _ (T17.setTop (mkF m 18 #[.val (.ref c), .val .null, .val (.ref v17), .val (.int (3 : Int32)), .val (.int (0 : Int32)), .unset] []))
  refine own_on (fun t => XS.aloadN X17.here hx rfl (hb hby d4_18) rfl rfl) ?_
  show own_Fin p e below _ (T17.setTop (mkF m 19 #[.val (.ref c), .val .null, .val (.ref v17), .val (.int (3 : Int32)), .val (.int (0 : Int32)), .unset] [(.ref v17)]))
  refine own_on (fun t => XS.iload X17.here hx rfl (hb hby d4_19) rfl) ?_
  show own_Fin p e below _ (T17.setTop (mkF m 21 #[.val (.ref c), .val .null, .val (.ref v17), .val (.int (3 : Int32)), .val (.int (0 : Int32)), .unset] [(.int (0 : Int32)), (.ref v17)]))
  have cp33 := A17q
  obtain ⟨cl33, Ar33, q33, S33, G33, H33, F33⟩ := cp33
  have hin33 : ¬ ((0 : Int32) < 0 ∨ cl33.slots.size ≤ ((0 : Int32)).toNatClampNeg) := inb_of S33 ⟨by decide, by decide⟩
  have hat33 : cl33.slots[((0 : Int32)).toNatClampNeg]? = some (.ref c0) := H33.at hin33 rfl
  refine own_on (fun t => X17.aaload hx (j := (0 : Int32)) (v := (.ref c0)) Ar33.1 (State.isArrayOf_alike hZ.alike Ar33.2.1) rfl Ar33.2.2 hin33 hat33 (g := (mkF m 21 #[.val (.ref c), .val .null, .val (.ref v17), .val (.int (3 : Int32)), .val (.int (0 : Int32)), .unset] [(.int (0 : Int32)), (.ref v17)])) rfl rfl (hb hby d4_21) t) ?_
  show own_Fin p e below _ (T17.setTop (mkF m 22 #[.val (.ref c), .val .null, .val (.ref v17), .val (.int (3 : Int32)), .val (.int (0 : Int32)), .unset] [(.ref c0)]))
  refine own_on (fun t => XS.astore X17.here hx rfl (hb hby d4_22) rfl rfl (l' := #[.val (.ref c), .val .null, .val (.ref v17), .val (.int (3 : Int32)), .val (.int (0 : Int32)), .val (.ref c0)]) rfl) ?_
  show own_Fin p e below _ (T17.setTop (mkF m 24 #[.val (.ref c), .val .null, .val (.ref v17), .val (.int (3 : Int32)), .val (.int (0 : Int32)), .val (.ref c0)] []))
  refine own_on (fun t => XS.aloadN X17.here hx rfl (hb hby d4_24) rfl rfl) ?_
  show own_Fin p e below _ (T17.setTop (mkF m 25 #[.val (.ref c), .val .null, .val (.ref v17), .val (.int (3 : Int32)), .val (.int (0 : Int32)), .val (.ref c0)] [(.ref c)]))
  obtain ⟨cq34, kq34, q34a, q34b, q34c⟩ := isOf hZ rfl y21
  obtain ⟨_, _, ⟨T34, L34, k34, n34⟩, -, X34, ⟨Lc34, hQ34, l34, y34, z34⟩, st34⟩ := X17.virtualBack hx (y := (⟨"com/example/settlewatt/settlewatt/model/CommitmentPeriod", "firstYear", "()I"⟩ : MethodName)) (z := (⟨"com/example/settlewatt/settlewatt/model/CommitmentPeriod", "firstYear", "()I"⟩ : MethodName)) hown (mvT hZ (hw _ (List.mem_of_getElem? (i := 38) rfl))) (mvT hZ (hw _ (List.mem_of_getElem? (i := 39) rfl))) (notFace_of_selects (args := #[]) (mvT hZ (hw _ (List.mem_of_getElem? (i := 41) rfl)))) (mvT hZ (hw _ (List.mem_of_getElem? (i := 41) rfl))) (mvT hZ (hw _ (List.mem_of_getElem? (i := 40) rfl))) (by decide) (backOf (W := 0) (rm6 l Z a0 hw [] c y T17.heap n0 (by exact y19) y22) hZ (hw _ (List.mem_of_getElem? (i := 42) rfl)) (hw _ (List.mem_of_getElem? (i := 2) rfl)) (by decide) (by decide)) q34a q34c (g := (mkF m 25 #[.val (.ref c), .val .null, .val (.ref v17), .val (.int (3 : Int32)), .val (.int (0 : Int32)), .val (.ref c0)] [(.ref c)])) rfl (by rw [hml]; rfl) (Steps.refl _) (argsL := []) (rest := []) (lenOf pd_2 rfl) rfl (by show 2 * 0 + _ ≤ _; exact Nat.le_of_eq rfl) (hb hby d4_25) (fun _ _ => ⟨rfl, rfl, (by decide : 1 + 0 ≤ _), (by decide : 3 + 0 ≤ _)⟩)
  dsimp only [Pt.U, Pt.locs, Pt.cells, Pt.slots] at X34 l34 y34 z34 st34 hQ34
  subst l34 y34 z34
  obtain ⟨rfl, N34q, e34⟩ := hQ34
  have N34 := Fr.app N17 N34q
  refine own_via st34 ?_
  show own_Fin p e below _ (T34.setTop (mkF m 28 #[.val (.ref c), .val .null, .val (.ref v17), .val (.int (3 : Int32)), .val (.int (0 : Int32)), .val (.ref c0)] [(.int y)]))
  refine own_on (fun t => XS.aload X34.here hx rfl (hb hby d4_28) rfl rfl) ?_
  show own_Fin p e below _ (T34.setTop (mkF m 30 #[.val (.ref c), .val .null, .val (.ref v17), .val (.int (3 : Int32)), .val (.int (0 : Int32)), .val (.ref c0)] [(.ref c0), (.int y)]))
  obtain ⟨T35, X35, e35, st35⟩ := getF X34 hx hZ hown (host := "") (Or.inl (hw _ (List.mem_of_getElem? (i := 43) rfl))) Via.refl e34 y23 (g := (mkF m 30 #[.val (.ref c), .val .null, .val (.ref v17), .val (.int (3 : Int32)), .val (.int (0 : Int32)), .val (.ref c0)] [(.ref c0), (.int y)])) rfl rfl (hb hby d4_30)
  refine own_on st35 ?_
  show own_Fin p e below _ (T35.setTop (mkF m 33 #[.val (.ref c), .val .null, .val (.ref v17), .val (.int (3 : Int32)), .val (.int (0 : Int32)), .val (.ref c0)] [(.ref d0), (.int y)]))
  obtain ⟨cq36, kq36, q36a, q36b, q36c⟩ := isOf hZ e35 y24
  obtain ⟨_, _, ⟨T36, L36, k36, n36⟩, -, X36, ⟨Lc36, hQ36, l36, y36, z36⟩, st36⟩ := X35.virtualBack hx (y := (⟨"com/example/settlewatt/settlewatt/model/CommitmentPeriod", "firstYear", "()I"⟩ : MethodName)) (z := (⟨"com/example/settlewatt/settlewatt/model/CommitmentPeriod", "firstYear", "()I"⟩ : MethodName)) hown (mvT hZ (hw _ (List.mem_of_getElem? (i := 38) rfl))) (mvT hZ (hw _ (List.mem_of_getElem? (i := 39) rfl))) (notFace_of_selects (args := #[]) (mvT hZ (hw _ (List.mem_of_getElem? (i := 41) rfl)))) (mvT hZ (hw _ (List.mem_of_getElem? (i := 41) rfl))) (mvT hZ (hw _ (List.mem_of_getElem? (i := 40) rfl))) (by decide) (backOf (W := 1) (rm6 l Z a0 hw [] d0 (2018 : Int32) T17.heap n0 (by exact y19) y25) hZ (hw _ (List.mem_of_getElem? (i := 42) rfl)) (hw _ (List.mem_of_getElem? (i := 2) rfl)) (by decide) (by decide)) q36a q36c (g := (mkF m 33 #[.val (.ref c), .val .null, .val (.ref v17), .val (.int (3 : Int32)), .val (.int (0 : Int32)), .val (.ref c0)] [(.ref d0), (.int y)])) rfl (by rw [hml]; rfl) (Steps.refl _) (argsL := []) (rest := [(.int y)]) (lenOf pd_2 rfl) rfl (by show 2 * 0 + _ ≤ _; exact Nat.le_of_eq rfl) (hb hby d4_33) (fun _ _ => ⟨rfl, e35, (by decide : 1 + 0 ≤ _), (by decide : 3 + 0 ≤ _)⟩)
  dsimp only [Pt.U, Pt.locs, Pt.cells, Pt.slots] at X36 l36 y36 z36 st36 hQ36
  subst l36 y36 z36
  obtain ⟨rfl, N36q, e36⟩ := hQ36
  have N36 := Fr.app N34 N36q
  refine own_via st36 ?_
  show own_Fin p e below _ (T36.setTop (mkF m 36 #[.val (.ref c), .val .null, .val (.ref v17), .val (.int (3 : Int32)), .val (.int (0 : Int32)), .val (.ref c0)] [(.int (2018 : Int32)), (.int y)]))
  by_cases hc37 : y < (2018 : Int32)
  · refine own_on (fun t => XS.icmpYes X36.here hx rfl (pc0 := 36) (pc' := 42) rfl (hb hby d4_36) rfl (tlt hc37).1 (by decide) (by decide)) ?_
    show own_Fin p e below _ (T36.setTop (mkF m 42 #[.val (.ref c), .val .null, .val (.ref v17), .val (.int (3 : Int32)), .val (.int (0 : Int32)), .val (.ref c0)] []))
    refine own_on (fun t => XS.iinc X36.here hx rfl (hb hby d4_42) rfl (l' := #[.val (.ref c), .val .null, .val (.ref v17), .val (.int (3 : Int32)), .val (.int (1 : Int32)), .val (.ref c0)]) rfl) ?_
    show own_Fin p e below _ (T36.setTop (mkF m 45 #[.val (.ref c), .val .null, .val (.ref v17), .val (.int (3 : Int32)), .val (.int (1 : Int32)), .val (.ref c0)] []))
    refine own_on (fun t => XS.goto X36.here hx rfl (pc0 := 45) (pc' := 12) rfl (hb hby d4_45) (by decide) (by decide)) ?_
    show own_Fin p e below _ (T36.setTop (mkF m 12 #[.val (.ref c), .val .null, .val (.ref v17), .val (.int (3 : Int32)), .val (.int (1 : Int32)), .val (.ref c0)] []))
    refine own_on (fun t => XS.iload X36.here hx rfl (hb hby d4_12) rfl) ?_
    show own_Fin p e below _ (T36.setTop (mkF m 14 #[.val (.ref c), .val .null, .val (.ref v17), .val (.int (3 : Int32)), .val (.int (1 : Int32)), .val (.ref c0)] [(.int (1 : Int32))]))
    refine own_on (fun t => XS.iloadN X36.here hx rfl (hb hby d4_14) rfl) ?_
    show own_Fin p e below _ (T36.setTop (mkF m 15 #[.val (.ref c), .val .null, .val (.ref v17), .val (.int (3 : Int32)), .val (.int (1 : Int32)), .val (.ref c0)] [(.int (3 : Int32)), (.int (1 : Int32))]))
    refine own_on (fun t => XS.icmpNo X36.here hx rfl (hb hby d4_15) rfl (tlt (by decide : (1 : Int32) < (3 : Int32))).2.1) ?_
    show own_Fin p e below _ (T36.setTop (mkF m 18 #[.val (.ref c), .val .null, .val (.ref v17), .val (.int (3 : Int32)), .val (.int (1 : Int32)), .val (.ref c0)] []))
    refine own_on (fun t => XS.aloadN X36.here hx rfl (hb hby d4_18) rfl rfl) ?_
    show own_Fin p e below _ (T36.setTop (mkF m 19 #[.val (.ref c), .val .null, .val (.ref v17), .val (.int (3 : Int32)), .val (.int (1 : Int32)), .val (.ref c0)] [(.ref v17)]))
    refine own_on (fun t => XS.iload X36.here hx rfl (hb hby d4_19) rfl) ?_
    show own_Fin p e below _ (T36.setTop (mkF m 21 #[.val (.ref c), .val .null, .val (.ref v17), .val (.int (3 : Int32)), .val (.int (1 : Int32)), .val (.ref c0)] [(.int (1 : Int32)), (.ref v17)]))
    have cp38 := A17q
    obtain ⟨cl38, Ar38, q38, S38, G38, H38, F38⟩ := cp38
    have hin38 : ¬ ((1 : Int32) < 0 ∨ cl38.slots.size ≤ ((1 : Int32)).toNatClampNeg) := inb_of S38 ⟨by decide, by decide⟩
    have hat38 : cl38.slots[((1 : Int32)).toNatClampNeg]? = some (.ref c1) := H38.at hin38 rfl
    refine own_on (fun t => X36.aaload hx (j := (1 : Int32)) (v := (.ref c1)) (by rw [e36]; exact Ar38.1) (State.isArrayOf_alike hZ.alike Ar38.2.1) rfl Ar38.2.2 hin38 hat38 (g := (mkF m 21 #[.val (.ref c), .val .null, .val (.ref v17), .val (.int (3 : Int32)), .val (.int (1 : Int32)), .val (.ref c0)] [(.int (1 : Int32)), (.ref v17)])) rfl rfl (hb hby d4_21) t) ?_
    show own_Fin p e below _ (T36.setTop (mkF m 22 #[.val (.ref c), .val .null, .val (.ref v17), .val (.int (3 : Int32)), .val (.int (1 : Int32)), .val (.ref c0)] [(.ref c1)]))
    refine own_on (fun t => XS.astore X36.here hx rfl (hb hby d4_22) rfl rfl (l' := #[.val (.ref c), .val .null, .val (.ref v17), .val (.int (3 : Int32)), .val (.int (1 : Int32)), .val (.ref c1)]) rfl) ?_
    show own_Fin p e below _ (T36.setTop (mkF m 24 #[.val (.ref c), .val .null, .val (.ref v17), .val (.int (3 : Int32)), .val (.int (1 : Int32)), .val (.ref c1)] []))
    refine own_on (fun t => XS.aloadN X36.here hx rfl (hb hby d4_24) rfl rfl) ?_
    show own_Fin p e below _ (T36.setTop (mkF m 25 #[.val (.ref c), .val .null, .val (.ref v17), .val (.int (3 : Int32)), .val (.int (1 : Int32)), .val (.ref c1)] [(.ref c)]))
    obtain ⟨cq39, kq39, q39a, q39b, q39c⟩ := isOf hZ e36 y21
    obtain ⟨_, _, ⟨T39, L39, k39, n39⟩, -, X39, ⟨Lc39, hQ39, l39, y39, z39⟩, st39⟩ := X36.virtualBack hx (y := (⟨"com/example/settlewatt/settlewatt/model/CommitmentPeriod", "firstYear", "()I"⟩ : MethodName)) (z := (⟨"com/example/settlewatt/settlewatt/model/CommitmentPeriod", "firstYear", "()I"⟩ : MethodName)) hown (mvT hZ (hw _ (List.mem_of_getElem? (i := 38) rfl))) (mvT hZ (hw _ (List.mem_of_getElem? (i := 39) rfl))) (notFace_of_selects (args := #[]) (mvT hZ (hw _ (List.mem_of_getElem? (i := 41) rfl)))) (mvT hZ (hw _ (List.mem_of_getElem? (i := 41) rfl))) (mvT hZ (hw _ (List.mem_of_getElem? (i := 40) rfl))) (by decide) (backOf (W := 0) (rm6 l Z a0 hw [] c y T17.heap n0 (by exact y19) y22) hZ (hw _ (List.mem_of_getElem? (i := 42) rfl)) (hw _ (List.mem_of_getElem? (i := 2) rfl)) (by decide) (by decide)) q39a q39c (g := (mkF m 25 #[.val (.ref c), .val .null, .val (.ref v17), .val (.int (3 : Int32)), .val (.int (1 : Int32)), .val (.ref c1)] [(.ref c)])) rfl (by rw [hml]; rfl) (Steps.refl _) (argsL := []) (rest := []) (lenOf pd_2 rfl) rfl (by show 2 * 0 + _ ≤ _; exact Nat.le_of_eq rfl) (hb hby d4_25) (fun _ _ => ⟨rfl, e36, (by decide : 1 + 0 ≤ _), (by decide : 3 + 0 ≤ _)⟩)
    dsimp only [Pt.U, Pt.locs, Pt.cells, Pt.slots] at X39 l39 y39 z39 st39 hQ39
    subst l39 y39 z39
    obtain ⟨rfl, N39q, e39⟩ := hQ39
    have N39 := Fr.app N36 N39q
    refine own_via st39 ?_
    show own_Fin p e below _ (T39.setTop (mkF m 28 #[.val (.ref c), .val .null, .val (.ref v17), .val (.int (3 : Int32)), .val (.int (1 : Int32)), .val (.ref c1)] [(.int y)]))
    refine own_on (fun t => XS.aload X39.here hx rfl (hb hby d4_28) rfl rfl) ?_
    show own_Fin p e below _ (T39.setTop (mkF m 30 #[.val (.ref c), .val .null, .val (.ref v17), .val (.int (3 : Int32)), .val (.int (1 : Int32)), .val (.ref c1)] [(.ref c1), (.int y)]))
    obtain ⟨T40, X40, e40, st40⟩ := getF X39 hx hZ hown (host := "") (Or.inl (hw _ (List.mem_of_getElem? (i := 43) rfl))) Via.refl e39 y26 (g := (mkF m 30 #[.val (.ref c), .val .null, .val (.ref v17), .val (.int (3 : Int32)), .val (.int (1 : Int32)), .val (.ref c1)] [(.ref c1), (.int y)])) rfl rfl (hb hby d4_30)
    refine own_on st40 ?_
    show own_Fin p e below _ (T40.setTop (mkF m 33 #[.val (.ref c), .val .null, .val (.ref v17), .val (.int (3 : Int32)), .val (.int (1 : Int32)), .val (.ref c1)] [(.ref d1), (.int y)]))
    obtain ⟨cq41, kq41, q41a, q41b, q41c⟩ := isOf hZ e40 y27
    obtain ⟨_, _, ⟨T41, L41, k41, n41⟩, -, X41, ⟨Lc41, hQ41, l41, y41, z41⟩, st41⟩ := X40.virtualBack hx (y := (⟨"com/example/settlewatt/settlewatt/model/CommitmentPeriod", "firstYear", "()I"⟩ : MethodName)) (z := (⟨"com/example/settlewatt/settlewatt/model/CommitmentPeriod", "firstYear", "()I"⟩ : MethodName)) hown (mvT hZ (hw _ (List.mem_of_getElem? (i := 38) rfl))) (mvT hZ (hw _ (List.mem_of_getElem? (i := 39) rfl))) (notFace_of_selects (args := #[]) (mvT hZ (hw _ (List.mem_of_getElem? (i := 41) rfl)))) (mvT hZ (hw _ (List.mem_of_getElem? (i := 41) rfl))) (mvT hZ (hw _ (List.mem_of_getElem? (i := 40) rfl))) (by decide) (backOf (W := 1) (rm6 l Z a0 hw [] d1 (2021 : Int32) T17.heap n0 (by exact y19) y28) hZ (hw _ (List.mem_of_getElem? (i := 42) rfl)) (hw _ (List.mem_of_getElem? (i := 2) rfl)) (by decide) (by decide)) q41a q41c (g := (mkF m 33 #[.val (.ref c), .val .null, .val (.ref v17), .val (.int (3 : Int32)), .val (.int (1 : Int32)), .val (.ref c1)] [(.ref d1), (.int y)])) rfl (by rw [hml]; rfl) (Steps.refl _) (argsL := []) (rest := [(.int y)]) (lenOf pd_2 rfl) rfl (by show 2 * 0 + _ ≤ _; exact Nat.le_of_eq rfl) (hb hby d4_33) (fun _ _ => ⟨rfl, e40, (by decide : 1 + 0 ≤ _), (by decide : 3 + 0 ≤ _)⟩)
    dsimp only [Pt.U, Pt.locs, Pt.cells, Pt.slots] at X41 l41 y41 z41 st41 hQ41
    subst l41 y41 z41
    obtain ⟨rfl, N41q, e41⟩ := hQ41
    have N41 := Fr.app N39 N41q
    refine own_via st41 ?_
    show own_Fin p e below _ (T41.setTop (mkF m 36 #[.val (.ref c), .val .null, .val (.ref v17), .val (.int (3 : Int32)), .val (.int (1 : Int32)), .val (.ref c1)] [(.int (2021 : Int32)), (.int y)]))
    refine own_on (fun t => XS.icmpYes X41.here hx rfl (pc0 := 36) (pc' := 42) rfl (hb hby d4_36) rfl (tlt (own_up hc37 (by decide) : y < (2021 : Int32))).1 (by decide) (by decide)) ?_
    show own_Fin p e below _ (T41.setTop (mkF m 42 #[.val (.ref c), .val .null, .val (.ref v17), .val (.int (3 : Int32)), .val (.int (1 : Int32)), .val (.ref c1)] []))
    refine own_on (fun t => XS.iinc X41.here hx rfl (hb hby d4_42) rfl (l' := #[.val (.ref c), .val .null, .val (.ref v17), .val (.int (3 : Int32)), .val (.int (2 : Int32)), .val (.ref c1)]) rfl) ?_
    show own_Fin p e below _ (T41.setTop (mkF m 45 #[.val (.ref c), .val .null, .val (.ref v17), .val (.int (3 : Int32)), .val (.int (2 : Int32)), .val (.ref c1)] []))
    refine own_on (fun t => XS.goto X41.here hx rfl (pc0 := 45) (pc' := 12) rfl (hb hby d4_45) (by decide) (by decide)) ?_
    show own_Fin p e below _ (T41.setTop (mkF m 12 #[.val (.ref c), .val .null, .val (.ref v17), .val (.int (3 : Int32)), .val (.int (2 : Int32)), .val (.ref c1)] []))
    refine own_on (fun t => XS.iload X41.here hx rfl (hb hby d4_12) rfl) ?_
    show own_Fin p e below _ (T41.setTop (mkF m 14 #[.val (.ref c), .val .null, .val (.ref v17), .val (.int (3 : Int32)), .val (.int (2 : Int32)), .val (.ref c1)] [(.int (2 : Int32))]))
    refine own_on (fun t => XS.iloadN X41.here hx rfl (hb hby d4_14) rfl) ?_
    show own_Fin p e below _ (T41.setTop (mkF m 15 #[.val (.ref c), .val .null, .val (.ref v17), .val (.int (3 : Int32)), .val (.int (2 : Int32)), .val (.ref c1)] [(.int (3 : Int32)), (.int (2 : Int32))]))
    refine own_on (fun t => XS.icmpNo X41.here hx rfl (hb hby d4_15) rfl (tlt (by decide : (2 : Int32) < (3 : Int32))).2.1) ?_
    show own_Fin p e below _ (T41.setTop (mkF m 18 #[.val (.ref c), .val .null, .val (.ref v17), .val (.int (3 : Int32)), .val (.int (2 : Int32)), .val (.ref c1)] []))
    refine own_on (fun t => XS.aloadN X41.here hx rfl (hb hby d4_18) rfl rfl) ?_
    show own_Fin p e below _ (T41.setTop (mkF m 19 #[.val (.ref c), .val .null, .val (.ref v17), .val (.int (3 : Int32)), .val (.int (2 : Int32)), .val (.ref c1)] [(.ref v17)]))
    refine own_on (fun t => XS.iload X41.here hx rfl (hb hby d4_19) rfl) ?_
    show own_Fin p e below _ (T41.setTop (mkF m 21 #[.val (.ref c), .val .null, .val (.ref v17), .val (.int (3 : Int32)), .val (.int (2 : Int32)), .val (.ref c1)] [(.int (2 : Int32)), (.ref v17)]))
    have cp42 := A17q
    obtain ⟨cl42, Ar42, q42, S42, G42, H42, F42⟩ := cp42
    have hin42 : ¬ ((2 : Int32) < 0 ∨ cl42.slots.size ≤ ((2 : Int32)).toNatClampNeg) := inb_of S42 ⟨by decide, by decide⟩
    have hat42 : cl42.slots[((2 : Int32)).toNatClampNeg]? = some (.ref c2) := H42.at hin42 rfl
    refine own_on (fun t => X41.aaload hx (j := (2 : Int32)) (v := (.ref c2)) (by rw [e41]; exact Ar42.1) (State.isArrayOf_alike hZ.alike Ar42.2.1) rfl Ar42.2.2 hin42 hat42 (g := (mkF m 21 #[.val (.ref c), .val .null, .val (.ref v17), .val (.int (3 : Int32)), .val (.int (2 : Int32)), .val (.ref c1)] [(.int (2 : Int32)), (.ref v17)])) rfl rfl (hb hby d4_21) t) ?_
    show own_Fin p e below _ (T41.setTop (mkF m 22 #[.val (.ref c), .val .null, .val (.ref v17), .val (.int (3 : Int32)), .val (.int (2 : Int32)), .val (.ref c1)] [(.ref c2)]))
    refine own_on (fun t => XS.astore X41.here hx rfl (hb hby d4_22) rfl rfl (l' := #[.val (.ref c), .val .null, .val (.ref v17), .val (.int (3 : Int32)), .val (.int (2 : Int32)), .val (.ref c2)]) rfl) ?_
    show own_Fin p e below _ (T41.setTop (mkF m 24 #[.val (.ref c), .val .null, .val (.ref v17), .val (.int (3 : Int32)), .val (.int (2 : Int32)), .val (.ref c2)] []))
    refine own_on (fun t => XS.aloadN X41.here hx rfl (hb hby d4_24) rfl rfl) ?_
    show own_Fin p e below _ (T41.setTop (mkF m 25 #[.val (.ref c), .val .null, .val (.ref v17), .val (.int (3 : Int32)), .val (.int (2 : Int32)), .val (.ref c2)] [(.ref c)]))
    obtain ⟨cq43, kq43, q43a, q43b, q43c⟩ := isOf hZ e41 y21
    obtain ⟨_, _, ⟨T43, L43, k43, n43⟩, -, X43, ⟨Lc43, hQ43, l43, y43, z43⟩, st43⟩ := X41.virtualBack hx (y := (⟨"com/example/settlewatt/settlewatt/model/CommitmentPeriod", "firstYear", "()I"⟩ : MethodName)) (z := (⟨"com/example/settlewatt/settlewatt/model/CommitmentPeriod", "firstYear", "()I"⟩ : MethodName)) hown (mvT hZ (hw _ (List.mem_of_getElem? (i := 38) rfl))) (mvT hZ (hw _ (List.mem_of_getElem? (i := 39) rfl))) (notFace_of_selects (args := #[]) (mvT hZ (hw _ (List.mem_of_getElem? (i := 41) rfl)))) (mvT hZ (hw _ (List.mem_of_getElem? (i := 41) rfl))) (mvT hZ (hw _ (List.mem_of_getElem? (i := 40) rfl))) (by decide) (backOf (W := 0) (rm6 l Z a0 hw [] c y T17.heap n0 (by exact y19) y22) hZ (hw _ (List.mem_of_getElem? (i := 42) rfl)) (hw _ (List.mem_of_getElem? (i := 2) rfl)) (by decide) (by decide)) q43a q43c (g := (mkF m 25 #[.val (.ref c), .val .null, .val (.ref v17), .val (.int (3 : Int32)), .val (.int (2 : Int32)), .val (.ref c2)] [(.ref c)])) rfl (by rw [hml]; rfl) (Steps.refl _) (argsL := []) (rest := []) (lenOf pd_2 rfl) rfl (by show 2 * 0 + _ ≤ _; exact Nat.le_of_eq rfl) (hb hby d4_25) (fun _ _ => ⟨rfl, e41, (by decide : 1 + 0 ≤ _), (by decide : 3 + 0 ≤ _)⟩)
    dsimp only [Pt.U, Pt.locs, Pt.cells, Pt.slots] at X43 l43 y43 z43 st43 hQ43
    subst l43 y43 z43
    obtain ⟨rfl, N43q, e43⟩ := hQ43
    have N43 := Fr.app N41 N43q
    refine own_via st43 ?_
    show own_Fin p e below _ (T43.setTop (mkF m 28 #[.val (.ref c), .val .null, .val (.ref v17), .val (.int (3 : Int32)), .val (.int (2 : Int32)), .val (.ref c2)] [(.int y)]))
    refine own_on (fun t => XS.aload X43.here hx rfl (hb hby d4_28) rfl rfl) ?_
    show own_Fin p e below _ (T43.setTop (mkF m 30 #[.val (.ref c), .val .null, .val (.ref v17), .val (.int (3 : Int32)), .val (.int (2 : Int32)), .val (.ref c2)] [(.ref c2), (.int y)]))
    obtain ⟨T44, X44, e44, st44⟩ := getF X43 hx hZ hown (host := "") (Or.inl (hw _ (List.mem_of_getElem? (i := 43) rfl))) Via.refl e43 y29 (g := (mkF m 30 #[.val (.ref c), .val .null, .val (.ref v17), .val (.int (3 : Int32)), .val (.int (2 : Int32)), .val (.ref c2)] [(.ref c2), (.int y)])) rfl rfl (hb hby d4_30)
    refine own_on st44 ?_
    show own_Fin p e below _ (T44.setTop (mkF m 33 #[.val (.ref c), .val .null, .val (.ref v17), .val (.int (3 : Int32)), .val (.int (2 : Int32)), .val (.ref c2)] [(.ref d2), (.int y)]))
    obtain ⟨cq45, kq45, q45a, q45b, q45c⟩ := isOf hZ e44 y30
    obtain ⟨_, _, ⟨T45, L45, k45, n45⟩, -, X45, ⟨Lc45, hQ45, l45, y45, z45⟩, st45⟩ := X44.virtualBack hx (y := (⟨"com/example/settlewatt/settlewatt/model/CommitmentPeriod", "firstYear", "()I"⟩ : MethodName)) (z := (⟨"com/example/settlewatt/settlewatt/model/CommitmentPeriod", "firstYear", "()I"⟩ : MethodName)) hown (mvT hZ (hw _ (List.mem_of_getElem? (i := 38) rfl))) (mvT hZ (hw _ (List.mem_of_getElem? (i := 39) rfl))) (notFace_of_selects (args := #[]) (mvT hZ (hw _ (List.mem_of_getElem? (i := 41) rfl)))) (mvT hZ (hw _ (List.mem_of_getElem? (i := 41) rfl))) (mvT hZ (hw _ (List.mem_of_getElem? (i := 40) rfl))) (by decide) (backOf (W := 1) (rm6 l Z a0 hw [] d2 (2024 : Int32) T17.heap n0 (by exact y19) y31) hZ (hw _ (List.mem_of_getElem? (i := 42) rfl)) (hw _ (List.mem_of_getElem? (i := 2) rfl)) (by decide) (by decide)) q45a q45c (g := (mkF m 33 #[.val (.ref c), .val .null, .val (.ref v17), .val (.int (3 : Int32)), .val (.int (2 : Int32)), .val (.ref c2)] [(.ref d2), (.int y)])) rfl (by rw [hml]; rfl) (Steps.refl _) (argsL := []) (rest := [(.int y)]) (lenOf pd_2 rfl) rfl (by show 2 * 0 + _ ≤ _; exact Nat.le_of_eq rfl) (hb hby d4_33) (fun _ _ => ⟨rfl, e44, (by decide : 1 + 0 ≤ _), (by decide : 3 + 0 ≤ _)⟩)
    dsimp only [Pt.U, Pt.locs, Pt.cells, Pt.slots] at X45 l45 y45 z45 st45 hQ45
    subst l45 y45 z45
    obtain ⟨rfl, N45q, e45⟩ := hQ45
    have N45 := Fr.app N43 N45q
    refine own_via st45 ?_
    show own_Fin p e below _ (T45.setTop (mkF m 36 #[.val (.ref c), .val .null, .val (.ref v17), .val (.int (3 : Int32)), .val (.int (2 : Int32)), .val (.ref c2)] [(.int (2024 : Int32)), (.int y)]))
    refine own_on (fun t => XS.icmpYes X45.here hx rfl (pc0 := 36) (pc' := 42) rfl (hb hby d4_36) rfl (tlt (own_up hc37 (by decide) : y < (2024 : Int32))).1 (by decide) (by decide)) ?_
    show own_Fin p e below _ (T45.setTop (mkF m 42 #[.val (.ref c), .val .null, .val (.ref v17), .val (.int (3 : Int32)), .val (.int (2 : Int32)), .val (.ref c2)] []))
    refine own_on (fun t => XS.iinc X45.here hx rfl (hb hby d4_42) rfl (l' := #[.val (.ref c), .val .null, .val (.ref v17), .val (.int (3 : Int32)), .val (.int (3 : Int32)), .val (.ref c2)]) rfl) ?_
    show own_Fin p e below _ (T45.setTop (mkF m 45 #[.val (.ref c), .val .null, .val (.ref v17), .val (.int (3 : Int32)), .val (.int (3 : Int32)), .val (.ref c2)] []))
    refine own_on (fun t => XS.goto X45.here hx rfl (pc0 := 45) (pc' := 12) rfl (hb hby d4_45) (by decide) (by decide)) ?_
    show own_Fin p e below _ (T45.setTop (mkF m 12 #[.val (.ref c), .val .null, .val (.ref v17), .val (.int (3 : Int32)), .val (.int (3 : Int32)), .val (.ref c2)] []))
    refine own_on (fun t => XS.iload X45.here hx rfl (hb hby d4_12) rfl) ?_
    show own_Fin p e below _ (T45.setTop (mkF m 14 #[.val (.ref c), .val .null, .val (.ref v17), .val (.int (3 : Int32)), .val (.int (3 : Int32)), .val (.ref c2)] [(.int (3 : Int32))]))
    refine own_on (fun t => XS.iloadN X45.here hx rfl (hb hby d4_14) rfl) ?_
    show own_Fin p e below _ (T45.setTop (mkF m 15 #[.val (.ref c), .val .null, .val (.ref v17), .val (.int (3 : Int32)), .val (.int (3 : Int32)), .val (.ref c2)] [(.int (3 : Int32)), (.int (3 : Int32))]))
    refine own_on (fun t => XS.icmpYes X45.here hx rfl (pc0 := 15) (pc' := 48) rfl (hb hby d4_15) rfl (flt (by decide : ¬ ((3 : Int32) < (3 : Int32)))).2.1 (by decide) (by decide)) ?_
    show own_Fin p e below _ (T45.setTop (mkF m 48 #[.val (.ref c), .val .null, .val (.ref v17), .val (.int (3 : Int32)), .val (.int (3 : Int32)), .val (.ref c2)] []))
    refine own_on (fun t => XS.aloadN X45.here hx rfl (hb hby d4_48) rfl rfl) ?_
    show own_Fin p e below _ (T45.setTop (mkF m 49 #[.val (.ref c), .val .null, .val (.ref v17), .val (.int (3 : Int32)), .val (.int (3 : Int32)), .val (.ref c2)] [.null]))
    exact own_ret (t := (.object "com/example/settlewatt/settlewatt/rules/PerformancePaymentRate")) X45 hx hlk hret rfl (Or.inr (Or.inr (Or.inr (Or.inr ⟨rfl, rfl, rfl⟩)))) (hb hby d4_49) (by show Q4 Z c y va kv c0 c1 c2 d0 d1 d2 r h0 n0 _ T45.heap _; rw [e45]; exact ⟨by rw [hr]; simp [own_res, hc37], N45, y20⟩) (by decide) (by decide)
  · refine own_on (fun t => XS.icmpNo X36.here hx rfl (hb hby d4_36) rfl (flt hc37).1) ?_
    show own_Fin p e below _ (T36.setTop (mkF m 39 #[.val (.ref c), .val .null, .val (.ref v17), .val (.int (3 : Int32)), .val (.int (0 : Int32)), .val (.ref c0)] []))
    refine own_on (fun t => XS.aload X36.here hx rfl (hb hby d4_39) rfl rfl) ?_
    show own_Fin p e below _ (T36.setTop (mkF m 41 #[.val (.ref c), .val .null, .val (.ref v17), .val (.int (3 : Int32)), .val (.int (0 : Int32)), .val (.ref c0)] [(.ref c0)]))
    refine own_on (fun t => XS.astoreN X36.here hx rfl (hb hby d4_41) rfl rfl (l' := #[.val (.ref c), .val (.ref c0), .val (.ref v17), .val (.int (3 : Int32)), .val (.int (0 : Int32)), .val (.ref c0)]) rfl) ?_
    show own_Fin p e below _ (T36.setTop (mkF m 42 #[.val (.ref c), .val (.ref c0), .val (.ref v17), .val (.int (3 : Int32)), .val (.int (0 : Int32)), .val (.ref c0)] []))
    refine own_on (fun t => XS.iinc X36.here hx rfl (hb hby d4_42) rfl (l' := #[.val (.ref c), .val (.ref c0), .val (.ref v17), .val (.int (3 : Int32)), .val (.int (1 : Int32)), .val (.ref c0)]) rfl) ?_
    show own_Fin p e below _ (T36.setTop (mkF m 45 #[.val (.ref c), .val (.ref c0), .val (.ref v17), .val (.int (3 : Int32)), .val (.int (1 : Int32)), .val (.ref c0)] []))
    refine own_on (fun t => XS.goto X36.here hx rfl (pc0 := 45) (pc' := 12) rfl (hb hby d4_45) (by decide) (by decide)) ?_
    show own_Fin p e below _ (T36.setTop (mkF m 12 #[.val (.ref c), .val (.ref c0), .val (.ref v17), .val (.int (3 : Int32)), .val (.int (1 : Int32)), .val (.ref c0)] []))
    refine own_on (fun t => XS.iload X36.here hx rfl (hb hby d4_12) rfl) ?_
    show own_Fin p e below _ (T36.setTop (mkF m 14 #[.val (.ref c), .val (.ref c0), .val (.ref v17), .val (.int (3 : Int32)), .val (.int (1 : Int32)), .val (.ref c0)] [(.int (1 : Int32))]))
    refine own_on (fun t => XS.iloadN X36.here hx rfl (hb hby d4_14) rfl) ?_
    show own_Fin p e below _ (T36.setTop (mkF m 15 #[.val (.ref c), .val (.ref c0), .val (.ref v17), .val (.int (3 : Int32)), .val (.int (1 : Int32)), .val (.ref c0)] [(.int (3 : Int32)), (.int (1 : Int32))]))
    refine own_on (fun t => XS.icmpNo X36.here hx rfl (hb hby d4_15) rfl (tlt (by decide : (1 : Int32) < (3 : Int32))).2.1) ?_
    show own_Fin p e below _ (T36.setTop (mkF m 18 #[.val (.ref c), .val (.ref c0), .val (.ref v17), .val (.int (3 : Int32)), .val (.int (1 : Int32)), .val (.ref c0)] []))
    refine own_on (fun t => XS.aloadN X36.here hx rfl (hb hby d4_18) rfl rfl) ?_
    show own_Fin p e below _ (T36.setTop (mkF m 19 #[.val (.ref c), .val (.ref c0), .val (.ref v17), .val (.int (3 : Int32)), .val (.int (1 : Int32)), .val (.ref c0)] [(.ref v17)]))
    refine own_on (fun t => XS.iload X36.here hx rfl (hb hby d4_19) rfl) ?_
    show own_Fin p e below _ (T36.setTop (mkF m 21 #[.val (.ref c), .val (.ref c0), .val (.ref v17), .val (.int (3 : Int32)), .val (.int (1 : Int32)), .val (.ref c0)] [(.int (1 : Int32)), (.ref v17)]))
    have cp46 := A17q
    obtain ⟨cl46, Ar46, q46, S46, G46, H46, F46⟩ := cp46
    have hin46 : ¬ ((1 : Int32) < 0 ∨ cl46.slots.size ≤ ((1 : Int32)).toNatClampNeg) := inb_of S46 ⟨by decide, by decide⟩
    have hat46 : cl46.slots[((1 : Int32)).toNatClampNeg]? = some (.ref c1) := H46.at hin46 rfl
    refine own_on (fun t => X36.aaload hx (j := (1 : Int32)) (v := (.ref c1)) (by rw [e36]; exact Ar46.1) (State.isArrayOf_alike hZ.alike Ar46.2.1) rfl Ar46.2.2 hin46 hat46 (g := (mkF m 21 #[.val (.ref c), .val (.ref c0), .val (.ref v17), .val (.int (3 : Int32)), .val (.int (1 : Int32)), .val (.ref c0)] [(.int (1 : Int32)), (.ref v17)])) rfl rfl (hb hby d4_21) t) ?_
    show own_Fin p e below _ (T36.setTop (mkF m 22 #[.val (.ref c), .val (.ref c0), .val (.ref v17), .val (.int (3 : Int32)), .val (.int (1 : Int32)), .val (.ref c0)] [(.ref c1)]))
    refine own_on (fun t => XS.astore X36.here hx rfl (hb hby d4_22) rfl rfl (l' := #[.val (.ref c), .val (.ref c0), .val (.ref v17), .val (.int (3 : Int32)), .val (.int (1 : Int32)), .val (.ref c1)]) rfl) ?_
    show own_Fin p e below _ (T36.setTop (mkF m 24 #[.val (.ref c), .val (.ref c0), .val (.ref v17), .val (.int (3 : Int32)), .val (.int (1 : Int32)), .val (.ref c1)] []))
    refine own_on (fun t => XS.aloadN X36.here hx rfl (hb hby d4_24) rfl rfl) ?_
    show own_Fin p e below _ (T36.setTop (mkF m 25 #[.val (.ref c), .val (.ref c0), .val (.ref v17), .val (.int (3 : Int32)), .val (.int (1 : Int32)), .val (.ref c1)] [(.ref c)]))
    obtain ⟨cq47, kq47, q47a, q47b, q47c⟩ := isOf hZ e36 y21
    obtain ⟨_, _, ⟨T47, L47, k47, n47⟩, -, X47, ⟨Lc47, hQ47, l47, y47, z47⟩, st47⟩ := X36.virtualBack hx (y := (⟨"com/example/settlewatt/settlewatt/model/CommitmentPeriod", "firstYear", "()I"⟩ : MethodName)) (z := (⟨"com/example/settlewatt/settlewatt/model/CommitmentPeriod", "firstYear", "()I"⟩ : MethodName)) hown (mvT hZ (hw _ (List.mem_of_getElem? (i := 38) rfl))) (mvT hZ (hw _ (List.mem_of_getElem? (i := 39) rfl))) (notFace_of_selects (args := #[]) (mvT hZ (hw _ (List.mem_of_getElem? (i := 41) rfl)))) (mvT hZ (hw _ (List.mem_of_getElem? (i := 41) rfl))) (mvT hZ (hw _ (List.mem_of_getElem? (i := 40) rfl))) (by decide) (backOf (W := 0) (rm6 l Z a0 hw [] c y T17.heap n0 (by exact y19) y22) hZ (hw _ (List.mem_of_getElem? (i := 42) rfl)) (hw _ (List.mem_of_getElem? (i := 2) rfl)) (by decide) (by decide)) q47a q47c (g := (mkF m 25 #[.val (.ref c), .val (.ref c0), .val (.ref v17), .val (.int (3 : Int32)), .val (.int (1 : Int32)), .val (.ref c1)] [(.ref c)])) rfl (by rw [hml]; rfl) (Steps.refl _) (argsL := []) (rest := []) (lenOf pd_2 rfl) rfl (by show 2 * 0 + _ ≤ _; exact Nat.le_of_eq rfl) (hb hby d4_25) (fun _ _ => ⟨rfl, e36, (by decide : 1 + 0 ≤ _), (by decide : 3 + 0 ≤ _)⟩)
    dsimp only [Pt.U, Pt.locs, Pt.cells, Pt.slots] at X47 l47 y47 z47 st47 hQ47
    subst l47 y47 z47
    obtain ⟨rfl, N47q, e47⟩ := hQ47
    have N47 := Fr.app N36 N47q
    refine own_via st47 ?_
    show own_Fin p e below _ (T47.setTop (mkF m 28 #[.val (.ref c), .val (.ref c0), .val (.ref v17), .val (.int (3 : Int32)), .val (.int (1 : Int32)), .val (.ref c1)] [(.int y)]))
    refine own_on (fun t => XS.aload X47.here hx rfl (hb hby d4_28) rfl rfl) ?_
    show own_Fin p e below _ (T47.setTop (mkF m 30 #[.val (.ref c), .val (.ref c0), .val (.ref v17), .val (.int (3 : Int32)), .val (.int (1 : Int32)), .val (.ref c1)] [(.ref c1), (.int y)]))
    obtain ⟨T48, X48, e48, st48⟩ := getF X47 hx hZ hown (host := "") (Or.inl (hw _ (List.mem_of_getElem? (i := 43) rfl))) Via.refl e47 y26 (g := (mkF m 30 #[.val (.ref c), .val (.ref c0), .val (.ref v17), .val (.int (3 : Int32)), .val (.int (1 : Int32)), .val (.ref c1)] [(.ref c1), (.int y)])) rfl rfl (hb hby d4_30)
    refine own_on st48 ?_
    show own_Fin p e below _ (T48.setTop (mkF m 33 #[.val (.ref c), .val (.ref c0), .val (.ref v17), .val (.int (3 : Int32)), .val (.int (1 : Int32)), .val (.ref c1)] [(.ref d1), (.int y)]))
    obtain ⟨cq49, kq49, q49a, q49b, q49c⟩ := isOf hZ e48 y27
    obtain ⟨_, _, ⟨T49, L49, k49, n49⟩, -, X49, ⟨Lc49, hQ49, l49, y49, z49⟩, st49⟩ := X48.virtualBack hx (y := (⟨"com/example/settlewatt/settlewatt/model/CommitmentPeriod", "firstYear", "()I"⟩ : MethodName)) (z := (⟨"com/example/settlewatt/settlewatt/model/CommitmentPeriod", "firstYear", "()I"⟩ : MethodName)) hown (mvT hZ (hw _ (List.mem_of_getElem? (i := 38) rfl))) (mvT hZ (hw _ (List.mem_of_getElem? (i := 39) rfl))) (notFace_of_selects (args := #[]) (mvT hZ (hw _ (List.mem_of_getElem? (i := 41) rfl)))) (mvT hZ (hw _ (List.mem_of_getElem? (i := 41) rfl))) (mvT hZ (hw _ (List.mem_of_getElem? (i := 40) rfl))) (by decide) (backOf (W := 1) (rm6 l Z a0 hw [] d1 (2021 : Int32) T17.heap n0 (by exact y19) y28) hZ (hw _ (List.mem_of_getElem? (i := 42) rfl)) (hw _ (List.mem_of_getElem? (i := 2) rfl)) (by decide) (by decide)) q49a q49c (g := (mkF m 33 #[.val (.ref c), .val (.ref c0), .val (.ref v17), .val (.int (3 : Int32)), .val (.int (1 : Int32)), .val (.ref c1)] [(.ref d1), (.int y)])) rfl (by rw [hml]; rfl) (Steps.refl _) (argsL := []) (rest := [(.int y)]) (lenOf pd_2 rfl) rfl (by show 2 * 0 + _ ≤ _; exact Nat.le_of_eq rfl) (hb hby d4_33) (fun _ _ => ⟨rfl, e48, (by decide : 1 + 0 ≤ _), (by decide : 3 + 0 ≤ _)⟩)
    dsimp only [Pt.U, Pt.locs, Pt.cells, Pt.slots] at X49 l49 y49 z49 st49 hQ49
    subst l49 y49 z49
    obtain ⟨rfl, N49q, e49⟩ := hQ49
    have N49 := Fr.app N47 N49q
    refine own_via st49 ?_
    show own_Fin p e below _ (T49.setTop (mkF m 36 #[.val (.ref c), .val (.ref c0), .val (.ref v17), .val (.int (3 : Int32)), .val (.int (1 : Int32)), .val (.ref c1)] [(.int (2021 : Int32)), (.int y)]))
    by_cases hc50 : y < (2021 : Int32)
    · refine own_on (fun t => XS.icmpYes X49.here hx rfl (pc0 := 36) (pc' := 42) rfl (hb hby d4_36) rfl (tlt hc50).1 (by decide) (by decide)) ?_
      show own_Fin p e below _ (T49.setTop (mkF m 42 #[.val (.ref c), .val (.ref c0), .val (.ref v17), .val (.int (3 : Int32)), .val (.int (1 : Int32)), .val (.ref c1)] []))
      refine own_on (fun t => XS.iinc X49.here hx rfl (hb hby d4_42) rfl (l' := #[.val (.ref c), .val (.ref c0), .val (.ref v17), .val (.int (3 : Int32)), .val (.int (2 : Int32)), .val (.ref c1)]) rfl) ?_
      show own_Fin p e below _ (T49.setTop (mkF m 45 #[.val (.ref c), .val (.ref c0), .val (.ref v17), .val (.int (3 : Int32)), .val (.int (2 : Int32)), .val (.ref c1)] []))
      refine own_on (fun t => XS.goto X49.here hx rfl (pc0 := 45) (pc' := 12) rfl (hb hby d4_45) (by decide) (by decide)) ?_
      show own_Fin p e below _ (T49.setTop (mkF m 12 #[.val (.ref c), .val (.ref c0), .val (.ref v17), .val (.int (3 : Int32)), .val (.int (2 : Int32)), .val (.ref c1)] []))
      refine own_on (fun t => XS.iload X49.here hx rfl (hb hby d4_12) rfl) ?_
      show own_Fin p e below _ (T49.setTop (mkF m 14 #[.val (.ref c), .val (.ref c0), .val (.ref v17), .val (.int (3 : Int32)), .val (.int (2 : Int32)), .val (.ref c1)] [(.int (2 : Int32))]))
      refine own_on (fun t => XS.iloadN X49.here hx rfl (hb hby d4_14) rfl) ?_
      show own_Fin p e below _ (T49.setTop (mkF m 15 #[.val (.ref c), .val (.ref c0), .val (.ref v17), .val (.int (3 : Int32)), .val (.int (2 : Int32)), .val (.ref c1)] [(.int (3 : Int32)), (.int (2 : Int32))]))
      refine own_on (fun t => XS.icmpNo X49.here hx rfl (hb hby d4_15) rfl (tlt (by decide : (2 : Int32) < (3 : Int32))).2.1) ?_
      show own_Fin p e below _ (T49.setTop (mkF m 18 #[.val (.ref c), .val (.ref c0), .val (.ref v17), .val (.int (3 : Int32)), .val (.int (2 : Int32)), .val (.ref c1)] []))
      refine own_on (fun t => XS.aloadN X49.here hx rfl (hb hby d4_18) rfl rfl) ?_
      show own_Fin p e below _ (T49.setTop (mkF m 19 #[.val (.ref c), .val (.ref c0), .val (.ref v17), .val (.int (3 : Int32)), .val (.int (2 : Int32)), .val (.ref c1)] [(.ref v17)]))
      refine own_on (fun t => XS.iload X49.here hx rfl (hb hby d4_19) rfl) ?_
      show own_Fin p e below _ (T49.setTop (mkF m 21 #[.val (.ref c), .val (.ref c0), .val (.ref v17), .val (.int (3 : Int32)), .val (.int (2 : Int32)), .val (.ref c1)] [(.int (2 : Int32)), (.ref v17)]))
      have cp51 := A17q
      obtain ⟨cl51, Ar51, q51, S51, G51, H51, F51⟩ := cp51
      have hin51 : ¬ ((2 : Int32) < 0 ∨ cl51.slots.size ≤ ((2 : Int32)).toNatClampNeg) := inb_of S51 ⟨by decide, by decide⟩
      have hat51 : cl51.slots[((2 : Int32)).toNatClampNeg]? = some (.ref c2) := H51.at hin51 rfl
      refine own_on (fun t => X49.aaload hx (j := (2 : Int32)) (v := (.ref c2)) (by rw [e49]; exact Ar51.1) (State.isArrayOf_alike hZ.alike Ar51.2.1) rfl Ar51.2.2 hin51 hat51 (g := (mkF m 21 #[.val (.ref c), .val (.ref c0), .val (.ref v17), .val (.int (3 : Int32)), .val (.int (2 : Int32)), .val (.ref c1)] [(.int (2 : Int32)), (.ref v17)])) rfl rfl (hb hby d4_21) t) ?_
      show own_Fin p e below _ (T49.setTop (mkF m 22 #[.val (.ref c), .val (.ref c0), .val (.ref v17), .val (.int (3 : Int32)), .val (.int (2 : Int32)), .val (.ref c1)] [(.ref c2)]))
      refine own_on (fun t => XS.astore X49.here hx rfl (hb hby d4_22) rfl rfl (l' := #[.val (.ref c), .val (.ref c0), .val (.ref v17), .val (.int (3 : Int32)), .val (.int (2 : Int32)), .val (.ref c2)]) rfl) ?_
      show own_Fin p e below _ (T49.setTop (mkF m 24 #[.val (.ref c), .val (.ref c0), .val (.ref v17), .val (.int (3 : Int32)), .val (.int (2 : Int32)), .val (.ref c2)] []))
      refine own_on (fun t => XS.aloadN X49.here hx rfl (hb hby d4_24) rfl rfl) ?_
      show own_Fin p e below _ (T49.setTop (mkF m 25 #[.val (.ref c), .val (.ref c0), .val (.ref v17), .val (.int (3 : Int32)), .val (.int (2 : Int32)), .val (.ref c2)] [(.ref c)]))
      obtain ⟨cq52, kq52, q52a, q52b, q52c⟩ := isOf hZ e49 y21
      obtain ⟨_, _, ⟨T52, L52, k52, n52⟩, -, X52, ⟨Lc52, hQ52, l52, y52, z52⟩, st52⟩ := X49.virtualBack hx (y := (⟨"com/example/settlewatt/settlewatt/model/CommitmentPeriod", "firstYear", "()I"⟩ : MethodName)) (z := (⟨"com/example/settlewatt/settlewatt/model/CommitmentPeriod", "firstYear", "()I"⟩ : MethodName)) hown (mvT hZ (hw _ (List.mem_of_getElem? (i := 38) rfl))) (mvT hZ (hw _ (List.mem_of_getElem? (i := 39) rfl))) (notFace_of_selects (args := #[]) (mvT hZ (hw _ (List.mem_of_getElem? (i := 41) rfl)))) (mvT hZ (hw _ (List.mem_of_getElem? (i := 41) rfl))) (mvT hZ (hw _ (List.mem_of_getElem? (i := 40) rfl))) (by decide) (backOf (W := 0) (rm6 l Z a0 hw [] c y T17.heap n0 (by exact y19) y22) hZ (hw _ (List.mem_of_getElem? (i := 42) rfl)) (hw _ (List.mem_of_getElem? (i := 2) rfl)) (by decide) (by decide)) q52a q52c (g := (mkF m 25 #[.val (.ref c), .val (.ref c0), .val (.ref v17), .val (.int (3 : Int32)), .val (.int (2 : Int32)), .val (.ref c2)] [(.ref c)])) rfl (by rw [hml]; rfl) (Steps.refl _) (argsL := []) (rest := []) (lenOf pd_2 rfl) rfl (by show 2 * 0 + _ ≤ _; exact Nat.le_of_eq rfl) (hb hby d4_25) (fun _ _ => ⟨rfl, e49, (by decide : 1 + 0 ≤ _), (by decide : 3 + 0 ≤ _)⟩)
      dsimp only [Pt.U, Pt.locs, Pt.cells, Pt.slots] at X52 l52 y52 z52 st52 hQ52
      subst l52 y52 z52
      obtain ⟨rfl, N52q, e52⟩ := hQ52
      have N52 := Fr.app N49 N52q
      refine own_via st52 ?_
      show own_Fin p e below _ (T52.setTop (mkF m 28 #[.val (.ref c), .val (.ref c0), .val (.ref v17), .val (.int (3 : Int32)), .val (.int (2 : Int32)), .val (.ref c2)] [(.int y)]))
      refine own_on (fun t => XS.aload X52.here hx rfl (hb hby d4_28) rfl rfl) ?_
      show own_Fin p e below _ (T52.setTop (mkF m 30 #[.val (.ref c), .val (.ref c0), .val (.ref v17), .val (.int (3 : Int32)), .val (.int (2 : Int32)), .val (.ref c2)] [(.ref c2), (.int y)]))
      obtain ⟨T53, X53, e53, st53⟩ := getF X52 hx hZ hown (host := "") (Or.inl (hw _ (List.mem_of_getElem? (i := 43) rfl))) Via.refl e52 y29 (g := (mkF m 30 #[.val (.ref c), .val (.ref c0), .val (.ref v17), .val (.int (3 : Int32)), .val (.int (2 : Int32)), .val (.ref c2)] [(.ref c2), (.int y)])) rfl rfl (hb hby d4_30)
      refine own_on st53 ?_
      show own_Fin p e below _ (T53.setTop (mkF m 33 #[.val (.ref c), .val (.ref c0), .val (.ref v17), .val (.int (3 : Int32)), .val (.int (2 : Int32)), .val (.ref c2)] [(.ref d2), (.int y)]))
      obtain ⟨cq54, kq54, q54a, q54b, q54c⟩ := isOf hZ e53 y30
      obtain ⟨_, _, ⟨T54, L54, k54, n54⟩, -, X54, ⟨Lc54, hQ54, l54, y54, z54⟩, st54⟩ := X53.virtualBack hx (y := (⟨"com/example/settlewatt/settlewatt/model/CommitmentPeriod", "firstYear", "()I"⟩ : MethodName)) (z := (⟨"com/example/settlewatt/settlewatt/model/CommitmentPeriod", "firstYear", "()I"⟩ : MethodName)) hown (mvT hZ (hw _ (List.mem_of_getElem? (i := 38) rfl))) (mvT hZ (hw _ (List.mem_of_getElem? (i := 39) rfl))) (notFace_of_selects (args := #[]) (mvT hZ (hw _ (List.mem_of_getElem? (i := 41) rfl)))) (mvT hZ (hw _ (List.mem_of_getElem? (i := 41) rfl))) (mvT hZ (hw _ (List.mem_of_getElem? (i := 40) rfl))) (by decide) (backOf (W := 1) (rm6 l Z a0 hw [] d2 (2024 : Int32) T17.heap n0 (by exact y19) y31) hZ (hw _ (List.mem_of_getElem? (i := 42) rfl)) (hw _ (List.mem_of_getElem? (i := 2) rfl)) (by decide) (by decide)) q54a q54c (g := (mkF m 33 #[.val (.ref c), .val (.ref c0), .val (.ref v17), .val (.int (3 : Int32)), .val (.int (2 : Int32)), .val (.ref c2)] [(.ref d2), (.int y)])) rfl (by rw [hml]; rfl) (Steps.refl _) (argsL := []) (rest := [(.int y)]) (lenOf pd_2 rfl) rfl (by show 2 * 0 + _ ≤ _; exact Nat.le_of_eq rfl) (hb hby d4_33) (fun _ _ => ⟨rfl, e53, (by decide : 1 + 0 ≤ _), (by decide : 3 + 0 ≤ _)⟩)
      dsimp only [Pt.U, Pt.locs, Pt.cells, Pt.slots] at X54 l54 y54 z54 st54 hQ54
      subst l54 y54 z54
      obtain ⟨rfl, N54q, e54⟩ := hQ54
      have N54 := Fr.app N52 N54q
      refine own_via st54 ?_
      show own_Fin p e below _ (T54.setTop (mkF m 36 #[.val (.ref c), .val (.ref c0), .val (.ref v17), .val (.int (3 : Int32)), .val (.int (2 : Int32)), .val (.ref c2)] [(.int (2024 : Int32)), (.int y)]))
      refine own_on (fun t => XS.icmpYes X54.here hx rfl (pc0 := 36) (pc' := 42) rfl (hb hby d4_36) rfl (tlt (own_up hc50 (by decide) : y < (2024 : Int32))).1 (by decide) (by decide)) ?_
      show own_Fin p e below _ (T54.setTop (mkF m 42 #[.val (.ref c), .val (.ref c0), .val (.ref v17), .val (.int (3 : Int32)), .val (.int (2 : Int32)), .val (.ref c2)] []))
      refine own_on (fun t => XS.iinc X54.here hx rfl (hb hby d4_42) rfl (l' := #[.val (.ref c), .val (.ref c0), .val (.ref v17), .val (.int (3 : Int32)), .val (.int (3 : Int32)), .val (.ref c2)]) rfl) ?_
      show own_Fin p e below _ (T54.setTop (mkF m 45 #[.val (.ref c), .val (.ref c0), .val (.ref v17), .val (.int (3 : Int32)), .val (.int (3 : Int32)), .val (.ref c2)] []))
      refine own_on (fun t => XS.goto X54.here hx rfl (pc0 := 45) (pc' := 12) rfl (hb hby d4_45) (by decide) (by decide)) ?_
      show own_Fin p e below _ (T54.setTop (mkF m 12 #[.val (.ref c), .val (.ref c0), .val (.ref v17), .val (.int (3 : Int32)), .val (.int (3 : Int32)), .val (.ref c2)] []))
      refine own_on (fun t => XS.iload X54.here hx rfl (hb hby d4_12) rfl) ?_
      show own_Fin p e below _ (T54.setTop (mkF m 14 #[.val (.ref c), .val (.ref c0), .val (.ref v17), .val (.int (3 : Int32)), .val (.int (3 : Int32)), .val (.ref c2)] [(.int (3 : Int32))]))
      refine own_on (fun t => XS.iloadN X54.here hx rfl (hb hby d4_14) rfl) ?_
      show own_Fin p e below _ (T54.setTop (mkF m 15 #[.val (.ref c), .val (.ref c0), .val (.ref v17), .val (.int (3 : Int32)), .val (.int (3 : Int32)), .val (.ref c2)] [(.int (3 : Int32)), (.int (3 : Int32))]))
      refine own_on (fun t => XS.icmpYes X54.here hx rfl (pc0 := 15) (pc' := 48) rfl (hb hby d4_15) rfl (flt (by decide : ¬ ((3 : Int32) < (3 : Int32)))).2.1 (by decide) (by decide)) ?_
      show own_Fin p e below _ (T54.setTop (mkF m 48 #[.val (.ref c), .val (.ref c0), .val (.ref v17), .val (.int (3 : Int32)), .val (.int (3 : Int32)), .val (.ref c2)] []))
      refine own_on (fun t => XS.aloadN X54.here hx rfl (hb hby d4_48) rfl rfl) ?_
      show own_Fin p e below _ (T54.setTop (mkF m 49 #[.val (.ref c), .val (.ref c0), .val (.ref v17), .val (.int (3 : Int32)), .val (.int (3 : Int32)), .val (.ref c2)] [(.ref c0)]))
      exact own_ret (t := (.object "com/example/settlewatt/settlewatt/rules/PerformancePaymentRate")) X54 hx hlk hret rfl (Or.inr (Or.inr (Or.inr (Or.inr ⟨rfl, rfl, rfl⟩)))) (hb hby d4_49) (by show Q4 Z c y va kv c0 c1 c2 d0 d1 d2 r h0 n0 _ T54.heap _; rw [e54]; exact ⟨by rw [hr]; simp [own_res, hc37, hc50], N54, y20⟩) (by decide) (by decide)
    · refine own_on (fun t => XS.icmpNo X49.here hx rfl (hb hby d4_36) rfl (flt hc50).1) ?_
      show own_Fin p e below _ (T49.setTop (mkF m 39 #[.val (.ref c), .val (.ref c0), .val (.ref v17), .val (.int (3 : Int32)), .val (.int (1 : Int32)), .val (.ref c1)] []))
      refine own_on (fun t => XS.aload X49.here hx rfl (hb hby d4_39) rfl rfl) ?_
      show own_Fin p e below _ (T49.setTop (mkF m 41 #[.val (.ref c), .val (.ref c0), .val (.ref v17), .val (.int (3 : Int32)), .val (.int (1 : Int32)), .val (.ref c1)] [(.ref c1)]))
      refine own_on (fun t => XS.astoreN X49.here hx rfl (hb hby d4_41) rfl rfl (l' := #[.val (.ref c), .val (.ref c1), .val (.ref v17), .val (.int (3 : Int32)), .val (.int (1 : Int32)), .val (.ref c1)]) rfl) ?_
      show own_Fin p e below _ (T49.setTop (mkF m 42 #[.val (.ref c), .val (.ref c1), .val (.ref v17), .val (.int (3 : Int32)), .val (.int (1 : Int32)), .val (.ref c1)] []))
      refine own_on (fun t => XS.iinc X49.here hx rfl (hb hby d4_42) rfl (l' := #[.val (.ref c), .val (.ref c1), .val (.ref v17), .val (.int (3 : Int32)), .val (.int (2 : Int32)), .val (.ref c1)]) rfl) ?_
      show own_Fin p e below _ (T49.setTop (mkF m 45 #[.val (.ref c), .val (.ref c1), .val (.ref v17), .val (.int (3 : Int32)), .val (.int (2 : Int32)), .val (.ref c1)] []))
      refine own_on (fun t => XS.goto X49.here hx rfl (pc0 := 45) (pc' := 12) rfl (hb hby d4_45) (by decide) (by decide)) ?_
      show own_Fin p e below _ (T49.setTop (mkF m 12 #[.val (.ref c), .val (.ref c1), .val (.ref v17), .val (.int (3 : Int32)), .val (.int (2 : Int32)), .val (.ref c1)] []))
      refine own_on (fun t => XS.iload X49.here hx rfl (hb hby d4_12) rfl) ?_
      show own_Fin p e below _ (T49.setTop (mkF m 14 #[.val (.ref c), .val (.ref c1), .val (.ref v17), .val (.int (3 : Int32)), .val (.int (2 : Int32)), .val (.ref c1)] [(.int (2 : Int32))]))
      refine own_on (fun t => XS.iloadN X49.here hx rfl (hb hby d4_14) rfl) ?_
      show own_Fin p e below _ (T49.setTop (mkF m 15 #[.val (.ref c), .val (.ref c1), .val (.ref v17), .val (.int (3 : Int32)), .val (.int (2 : Int32)), .val (.ref c1)] [(.int (3 : Int32)), (.int (2 : Int32))]))
      refine own_on (fun t => XS.icmpNo X49.here hx rfl (hb hby d4_15) rfl (tlt (by decide : (2 : Int32) < (3 : Int32))).2.1) ?_
      show own_Fin p e below _ (T49.setTop (mkF m 18 #[.val (.ref c), .val (.ref c1), .val (.ref v17), .val (.int (3 : Int32)), .val (.int (2 : Int32)), .val (.ref c1)] []))
      refine own_on (fun t => XS.aloadN X49.here hx rfl (hb hby d4_18) rfl rfl) ?_
      show own_Fin p e below _ (T49.setTop (mkF m 19 #[.val (.ref c), .val (.ref c1), .val (.ref v17), .val (.int (3 : Int32)), .val (.int (2 : Int32)), .val (.ref c1)] [(.ref v17)]))
      refine own_on (fun t => XS.iload X49.here hx rfl (hb hby d4_19) rfl) ?_
      show own_Fin p e below _ (T49.setTop (mkF m 21 #[.val (.ref c), .val (.ref c1), .val (.ref v17), .val (.int (3 : Int32)), .val (.int (2 : Int32)), .val (.ref c1)] [(.int (2 : Int32)), (.ref v17)]))
      have cp55 := A17q
      obtain ⟨cl55, Ar55, q55, S55, G55, H55, F55⟩ := cp55
      have hin55 : ¬ ((2 : Int32) < 0 ∨ cl55.slots.size ≤ ((2 : Int32)).toNatClampNeg) := inb_of S55 ⟨by decide, by decide⟩
      have hat55 : cl55.slots[((2 : Int32)).toNatClampNeg]? = some (.ref c2) := H55.at hin55 rfl
      refine own_on (fun t => X49.aaload hx (j := (2 : Int32)) (v := (.ref c2)) (by rw [e49]; exact Ar55.1) (State.isArrayOf_alike hZ.alike Ar55.2.1) rfl Ar55.2.2 hin55 hat55 (g := (mkF m 21 #[.val (.ref c), .val (.ref c1), .val (.ref v17), .val (.int (3 : Int32)), .val (.int (2 : Int32)), .val (.ref c1)] [(.int (2 : Int32)), (.ref v17)])) rfl rfl (hb hby d4_21) t) ?_
      show own_Fin p e below _ (T49.setTop (mkF m 22 #[.val (.ref c), .val (.ref c1), .val (.ref v17), .val (.int (3 : Int32)), .val (.int (2 : Int32)), .val (.ref c1)] [(.ref c2)]))
      refine own_on (fun t => XS.astore X49.here hx rfl (hb hby d4_22) rfl rfl (l' := #[.val (.ref c), .val (.ref c1), .val (.ref v17), .val (.int (3 : Int32)), .val (.int (2 : Int32)), .val (.ref c2)]) rfl) ?_
      show own_Fin p e below _ (T49.setTop (mkF m 24 #[.val (.ref c), .val (.ref c1), .val (.ref v17), .val (.int (3 : Int32)), .val (.int (2 : Int32)), .val (.ref c2)] []))
      refine own_on (fun t => XS.aloadN X49.here hx rfl (hb hby d4_24) rfl rfl) ?_
      show own_Fin p e below _ (T49.setTop (mkF m 25 #[.val (.ref c), .val (.ref c1), .val (.ref v17), .val (.int (3 : Int32)), .val (.int (2 : Int32)), .val (.ref c2)] [(.ref c)]))
      obtain ⟨cq56, kq56, q56a, q56b, q56c⟩ := isOf hZ e49 y21
      obtain ⟨_, _, ⟨T56, L56, k56, n56⟩, -, X56, ⟨Lc56, hQ56, l56, y56, z56⟩, st56⟩ := X49.virtualBack hx (y := (⟨"com/example/settlewatt/settlewatt/model/CommitmentPeriod", "firstYear", "()I"⟩ : MethodName)) (z := (⟨"com/example/settlewatt/settlewatt/model/CommitmentPeriod", "firstYear", "()I"⟩ : MethodName)) hown (mvT hZ (hw _ (List.mem_of_getElem? (i := 38) rfl))) (mvT hZ (hw _ (List.mem_of_getElem? (i := 39) rfl))) (notFace_of_selects (args := #[]) (mvT hZ (hw _ (List.mem_of_getElem? (i := 41) rfl)))) (mvT hZ (hw _ (List.mem_of_getElem? (i := 41) rfl))) (mvT hZ (hw _ (List.mem_of_getElem? (i := 40) rfl))) (by decide) (backOf (W := 0) (rm6 l Z a0 hw [] c y T17.heap n0 (by exact y19) y22) hZ (hw _ (List.mem_of_getElem? (i := 42) rfl)) (hw _ (List.mem_of_getElem? (i := 2) rfl)) (by decide) (by decide)) q56a q56c (g := (mkF m 25 #[.val (.ref c), .val (.ref c1), .val (.ref v17), .val (.int (3 : Int32)), .val (.int (2 : Int32)), .val (.ref c2)] [(.ref c)])) rfl (by rw [hml]; rfl) (Steps.refl _) (argsL := []) (rest := []) (lenOf pd_2 rfl) rfl (by show 2 * 0 + _ ≤ _; exact Nat.le_of_eq rfl) (hb hby d4_25) (fun _ _ => ⟨rfl, e49, (by decide : 1 + 0 ≤ _), (by decide : 3 + 0 ≤ _)⟩)
      dsimp only [Pt.U, Pt.locs, Pt.cells, Pt.slots] at X56 l56 y56 z56 st56 hQ56
      subst l56 y56 z56
      obtain ⟨rfl, N56q, e56⟩ := hQ56
      have N56 := Fr.app N49 N56q
      refine own_via st56 ?_
      show own_Fin p e below _ (T56.setTop (mkF m 28 #[.val (.ref c), .val (.ref c1), .val (.ref v17), .val (.int (3 : Int32)), .val (.int (2 : Int32)), .val (.ref c2)] [(.int y)]))
      refine own_on (fun t => XS.aload X56.here hx rfl (hb hby d4_28) rfl rfl) ?_
      show own_Fin p e below _ (T56.setTop (mkF m 30 #[.val (.ref c), .val (.ref c1), .val (.ref v17), .val (.int (3 : Int32)), .val (.int (2 : Int32)), .val (.ref c2)] [(.ref c2), (.int y)]))
      obtain ⟨T57, X57, e57, st57⟩ := getF X56 hx hZ hown (host := "") (Or.inl (hw _ (List.mem_of_getElem? (i := 43) rfl))) Via.refl e56 y29 (g := (mkF m 30 #[.val (.ref c), .val (.ref c1), .val (.ref v17), .val (.int (3 : Int32)), .val (.int (2 : Int32)), .val (.ref c2)] [(.ref c2), (.int y)])) rfl rfl (hb hby d4_30)
      refine own_on st57 ?_
      show own_Fin p e below _ (T57.setTop (mkF m 33 #[.val (.ref c), .val (.ref c1), .val (.ref v17), .val (.int (3 : Int32)), .val (.int (2 : Int32)), .val (.ref c2)] [(.ref d2), (.int y)]))
      obtain ⟨cq58, kq58, q58a, q58b, q58c⟩ := isOf hZ e57 y30
      obtain ⟨_, _, ⟨T58, L58, k58, n58⟩, -, X58, ⟨Lc58, hQ58, l58, y58, z58⟩, st58⟩ := X57.virtualBack hx (y := (⟨"com/example/settlewatt/settlewatt/model/CommitmentPeriod", "firstYear", "()I"⟩ : MethodName)) (z := (⟨"com/example/settlewatt/settlewatt/model/CommitmentPeriod", "firstYear", "()I"⟩ : MethodName)) hown (mvT hZ (hw _ (List.mem_of_getElem? (i := 38) rfl))) (mvT hZ (hw _ (List.mem_of_getElem? (i := 39) rfl))) (notFace_of_selects (args := #[]) (mvT hZ (hw _ (List.mem_of_getElem? (i := 41) rfl)))) (mvT hZ (hw _ (List.mem_of_getElem? (i := 41) rfl))) (mvT hZ (hw _ (List.mem_of_getElem? (i := 40) rfl))) (by decide) (backOf (W := 1) (rm6 l Z a0 hw [] d2 (2024 : Int32) T17.heap n0 (by exact y19) y31) hZ (hw _ (List.mem_of_getElem? (i := 42) rfl)) (hw _ (List.mem_of_getElem? (i := 2) rfl)) (by decide) (by decide)) q58a q58c (g := (mkF m 33 #[.val (.ref c), .val (.ref c1), .val (.ref v17), .val (.int (3 : Int32)), .val (.int (2 : Int32)), .val (.ref c2)] [(.ref d2), (.int y)])) rfl (by rw [hml]; rfl) (Steps.refl _) (argsL := []) (rest := [(.int y)]) (lenOf pd_2 rfl) rfl (by show 2 * 0 + _ ≤ _; exact Nat.le_of_eq rfl) (hb hby d4_33) (fun _ _ => ⟨rfl, e57, (by decide : 1 + 0 ≤ _), (by decide : 3 + 0 ≤ _)⟩)
      dsimp only [Pt.U, Pt.locs, Pt.cells, Pt.slots] at X58 l58 y58 z58 st58 hQ58
      subst l58 y58 z58
      obtain ⟨rfl, N58q, e58⟩ := hQ58
      have N58 := Fr.app N56 N58q
      refine own_via st58 ?_
      show own_Fin p e below _ (T58.setTop (mkF m 36 #[.val (.ref c), .val (.ref c1), .val (.ref v17), .val (.int (3 : Int32)), .val (.int (2 : Int32)), .val (.ref c2)] [(.int (2024 : Int32)), (.int y)]))
      by_cases hc59 : y < (2024 : Int32)
      · refine own_on (fun t => XS.icmpYes X58.here hx rfl (pc0 := 36) (pc' := 42) rfl (hb hby d4_36) rfl (tlt hc59).1 (by decide) (by decide)) ?_
        show own_Fin p e below _ (T58.setTop (mkF m 42 #[.val (.ref c), .val (.ref c1), .val (.ref v17), .val (.int (3 : Int32)), .val (.int (2 : Int32)), .val (.ref c2)] []))
        refine own_on (fun t => XS.iinc X58.here hx rfl (hb hby d4_42) rfl (l' := #[.val (.ref c), .val (.ref c1), .val (.ref v17), .val (.int (3 : Int32)), .val (.int (3 : Int32)), .val (.ref c2)]) rfl) ?_
        show own_Fin p e below _ (T58.setTop (mkF m 45 #[.val (.ref c), .val (.ref c1), .val (.ref v17), .val (.int (3 : Int32)), .val (.int (3 : Int32)), .val (.ref c2)] []))
        refine own_on (fun t => XS.goto X58.here hx rfl (pc0 := 45) (pc' := 12) rfl (hb hby d4_45) (by decide) (by decide)) ?_
        show own_Fin p e below _ (T58.setTop (mkF m 12 #[.val (.ref c), .val (.ref c1), .val (.ref v17), .val (.int (3 : Int32)), .val (.int (3 : Int32)), .val (.ref c2)] []))
        refine own_on (fun t => XS.iload X58.here hx rfl (hb hby d4_12) rfl) ?_
        show own_Fin p e below _ (T58.setTop (mkF m 14 #[.val (.ref c), .val (.ref c1), .val (.ref v17), .val (.int (3 : Int32)), .val (.int (3 : Int32)), .val (.ref c2)] [(.int (3 : Int32))]))
        refine own_on (fun t => XS.iloadN X58.here hx rfl (hb hby d4_14) rfl) ?_
        show own_Fin p e below _ (T58.setTop (mkF m 15 #[.val (.ref c), .val (.ref c1), .val (.ref v17), .val (.int (3 : Int32)), .val (.int (3 : Int32)), .val (.ref c2)] [(.int (3 : Int32)), (.int (3 : Int32))]))
        refine own_on (fun t => XS.icmpYes X58.here hx rfl (pc0 := 15) (pc' := 48) rfl (hb hby d4_15) rfl (flt (by decide : ¬ ((3 : Int32) < (3 : Int32)))).2.1 (by decide) (by decide)) ?_
        show own_Fin p e below _ (T58.setTop (mkF m 48 #[.val (.ref c), .val (.ref c1), .val (.ref v17), .val (.int (3 : Int32)), .val (.int (3 : Int32)), .val (.ref c2)] []))
        refine own_on (fun t => XS.aloadN X58.here hx rfl (hb hby d4_48) rfl rfl) ?_
        show own_Fin p e below _ (T58.setTop (mkF m 49 #[.val (.ref c), .val (.ref c1), .val (.ref v17), .val (.int (3 : Int32)), .val (.int (3 : Int32)), .val (.ref c2)] [(.ref c1)]))
        exact own_ret (t := (.object "com/example/settlewatt/settlewatt/rules/PerformancePaymentRate")) X58 hx hlk hret rfl (Or.inr (Or.inr (Or.inr (Or.inr ⟨rfl, rfl, rfl⟩)))) (hb hby d4_49) (by show Q4 Z c y va kv c0 c1 c2 d0 d1 d2 r h0 n0 _ T58.heap _; rw [e58]; exact ⟨by rw [hr]; simp [own_res, hc37, hc50, hc59], N58, y20⟩) (by decide) (by decide)
      · refine own_on (fun t => XS.icmpNo X58.here hx rfl (hb hby d4_36) rfl (flt hc59).1) ?_
        show own_Fin p e below _ (T58.setTop (mkF m 39 #[.val (.ref c), .val (.ref c1), .val (.ref v17), .val (.int (3 : Int32)), .val (.int (2 : Int32)), .val (.ref c2)] []))
        refine own_on (fun t => XS.aload X58.here hx rfl (hb hby d4_39) rfl rfl) ?_
        show own_Fin p e below _ (T58.setTop (mkF m 41 #[.val (.ref c), .val (.ref c1), .val (.ref v17), .val (.int (3 : Int32)), .val (.int (2 : Int32)), .val (.ref c2)] [(.ref c2)]))
        refine own_on (fun t => XS.astoreN X58.here hx rfl (hb hby d4_41) rfl rfl (l' := #[.val (.ref c), .val (.ref c2), .val (.ref v17), .val (.int (3 : Int32)), .val (.int (2 : Int32)), .val (.ref c2)]) rfl) ?_
        show own_Fin p e below _ (T58.setTop (mkF m 42 #[.val (.ref c), .val (.ref c2), .val (.ref v17), .val (.int (3 : Int32)), .val (.int (2 : Int32)), .val (.ref c2)] []))
        refine own_on (fun t => XS.iinc X58.here hx rfl (hb hby d4_42) rfl (l' := #[.val (.ref c), .val (.ref c2), .val (.ref v17), .val (.int (3 : Int32)), .val (.int (3 : Int32)), .val (.ref c2)]) rfl) ?_
        show own_Fin p e below _ (T58.setTop (mkF m 45 #[.val (.ref c), .val (.ref c2), .val (.ref v17), .val (.int (3 : Int32)), .val (.int (3 : Int32)), .val (.ref c2)] []))
        refine own_on (fun t => XS.goto X58.here hx rfl (pc0 := 45) (pc' := 12) rfl (hb hby d4_45) (by decide) (by decide)) ?_
        show own_Fin p e below _ (T58.setTop (mkF m 12 #[.val (.ref c), .val (.ref c2), .val (.ref v17), .val (.int (3 : Int32)), .val (.int (3 : Int32)), .val (.ref c2)] []))
        refine own_on (fun t => XS.iload X58.here hx rfl (hb hby d4_12) rfl) ?_
        show own_Fin p e below _ (T58.setTop (mkF m 14 #[.val (.ref c), .val (.ref c2), .val (.ref v17), .val (.int (3 : Int32)), .val (.int (3 : Int32)), .val (.ref c2)] [(.int (3 : Int32))]))
        refine own_on (fun t => XS.iloadN X58.here hx rfl (hb hby d4_14) rfl) ?_
        show own_Fin p e below _ (T58.setTop (mkF m 15 #[.val (.ref c), .val (.ref c2), .val (.ref v17), .val (.int (3 : Int32)), .val (.int (3 : Int32)), .val (.ref c2)] [(.int (3 : Int32)), (.int (3 : Int32))]))
        refine own_on (fun t => XS.icmpYes X58.here hx rfl (pc0 := 15) (pc' := 48) rfl (hb hby d4_15) rfl (flt (by decide : ¬ ((3 : Int32) < (3 : Int32)))).2.1 (by decide) (by decide)) ?_
        show own_Fin p e below _ (T58.setTop (mkF m 48 #[.val (.ref c), .val (.ref c2), .val (.ref v17), .val (.int (3 : Int32)), .val (.int (3 : Int32)), .val (.ref c2)] []))
        refine own_on (fun t => XS.aloadN X58.here hx rfl (hb hby d4_48) rfl rfl) ?_
        show own_Fin p e below _ (T58.setTop (mkF m 49 #[.val (.ref c), .val (.ref c2), .val (.ref v17), .val (.int (3 : Int32)), .val (.int (3 : Int32)), .val (.ref c2)] [(.ref c2)]))
        exact own_ret (t := (.object "com/example/settlewatt/settlewatt/rules/PerformancePaymentRate")) X58 hx hlk hret rfl (Or.inr (Or.inr (Or.inr (Or.inr ⟨rfl, rfl, rfl⟩)))) (hb hby d4_49) (by show Q4 Z c y va kv c0 c1 c2 d0 d1 d2 r h0 n0 _ T58.heap _; rw [e58]; exact ⟨by rw [hr]; simp [own_res, hc37, hc50, hc59], N58, y20⟩) (by decide) (by decide)
theorem pn_3 : plainName "com/example/settlewatt/settlewatt/rules/PerformancePaymentRateOfPinLaw" = true := by first | (simp [plainName, overriddenIn]; done) | decide +kernel
theorem pd_3 : parseMethodDescriptor "(I)V" = some ⟨[.int], none⟩ := by decide +kernel
theorem pd_4 : parseMethodDescriptor "(Lcom/example/settlewatt/settlewatt/model/CommitmentPeriod;)Lcom/example/settlewatt/settlewatt/rules/PerformancePaymentRate;" = some ⟨[(.object "com/example/settlewatt/settlewatt/model/CommitmentPeriod")], some (.object "com/example/settlewatt/settlewatt/rules/PerformancePaymentRate")⟩ := by decide +kernel
theorem ef_rm0 (m : MethodId) (x0 : Int32) (x1 : Int32) (x2 : Int32) : entryFrame m #[(.int x0), (.int x1), (.int x2)] maxLocals = mkF m 0 #[.val (.int x0), .val (.int x1), .val (.int x2), .unset, .unset, .unset] [] := by first | (simp [entryFrame, mkF, argsToLocals, Value.category, maxLocals]; done) | rfl
def Q0 (Z : State) (p1 : Int32) (p2 : Int32) (p3 : Int32) (va : Addr) (kv : ClassId) (c0 : Addr) (c1 : Addr) (c2 : Addr) (d0 : Addr) (d1 : Addr) (d2 : Addr) (h0 : Heap) (n0 : Nat) (v : Option Value) (h : Heap) (L : List Loc) : Prop := v = some (.int 1) ∧ Fr n0 L
set_option maxRecDepth 65536 in
set_option maxHeartbeats 40000000 in
theorem rm0 (l : Launch) (Z : State) (a0 : Array Value) (hw : ∀ d ∈ tables_1, d.before a0 Z = true) (ws : List Jvm.Cond) (p1 : Int32) (p2 : Int32) (p3 : Int32) (va : Addr) (kv : ClassId) (c0 : Addr) (c1 : Addr) (c2 : Addr) (d0 : Addr) (d1 : Addr) (d2 : Addr) (h0 : Heap) (n0 : Nat) (Z0 : n0 ≤ h0.size) (O : Old Z n0 h0) (SV : Sta Z Z.heap "com/example/settlewatt/settlewatt/rules/PerformancePaymentRate" "$VALUES" "[Lcom/example/settlewatt/settlewatt/rules/PerformancePaymentRate;" (.ref va)) (AV : Arv Z Z.heap va kv (.object "com/example/settlewatt/settlewatt/rules/PerformancePaymentRate") (3 : Int32) [(.ref c0), (.ref c1), (.ref c2)] .null) (EV : Exa Z Z.heap va "[Lcom/example/settlewatt/settlewatt/rules/PerformancePaymentRate;") (F0 : Fld Z Z.heap c0 "com/example/settlewatt/settlewatt/rules/PerformancePaymentRate" "firstPeriod" "Lcom/example/settlewatt/settlewatt/model/CommitmentPeriod;" (.ref d0)) (F1 : Fld Z Z.heap c1 "com/example/settlewatt/settlewatt/rules/PerformancePaymentRate" "firstPeriod" "Lcom/example/settlewatt/settlewatt/model/CommitmentPeriod;" (.ref d1)) (F2 : Fld Z Z.heap c2 "com/example/settlewatt/settlewatt/rules/PerformancePaymentRate" "firstPeriod" "Lcom/example/settlewatt/settlewatt/model/CommitmentPeriod;" (.ref d2)) (E0 : Exa Z Z.heap d0 "com/example/settlewatt/settlewatt/model/CommitmentPeriod") (E1 : Exa Z Z.heap d1 "com/example/settlewatt/settlewatt/model/CommitmentPeriod") (E2 : Exa Z Z.heap d2 "com/example/settlewatt/settlewatt/model/CommitmentPeriod") (Y0 : Fld Z Z.heap d0 "com/example/settlewatt/settlewatt/model/CommitmentPeriod" "firstYear" "I" (.int (2018 : Int32))) (Y1 : Fld Z Z.heap d1 "com/example/settlewatt/settlewatt/model/CommitmentPeriod" "firstYear" "I" (.int (2021 : Int32))) (Y2 : Fld Z Z.heap d2 "com/example/settlewatt/settlewatt/model/CommitmentPeriod" "firstYear" "I" (.int (2024 : Int32))) (S0 : Sta Z Z.heap "com/example/settlewatt/settlewatt/rules/PerformancePaymentRate" "FROM_2018_19" "Lcom/example/settlewatt/settlewatt/rules/PerformancePaymentRate;" (.ref c0)) (S1 : Sta Z Z.heap "com/example/settlewatt/settlewatt/rules/PerformancePaymentRate" "FROM_2021_22" "Lcom/example/settlewatt/settlewatt/rules/PerformancePaymentRate;" (.ref c1)) (S2 : Sta Z Z.heap "com/example/settlewatt/settlewatt/rules/PerformancePaymentRate" "FROM_2024_25" "Lcom/example/settlewatt/settlewatt/rules/PerformancePaymentRate;" (.ref c2)) :
    MetFree l x (head1 (Jvm.Cond.code x code maxLocals ret :: ws) room_1) (fun as_ U => as_ = #[(.int p1), (.int p2), (.int p3)] ∧ Z.Warmed39 U.vm ∧ U.heap = h0) (fun _ _ _ _ _ => True) (fun _ U out_ U' => ∃ v L, out_ = .returned v ∧ Q0 Z p1 p2 p3 va kv c0 c1 c2 d0 d1 d2 h0 n0 v U'.heap L ∧ FrameEnd U out_ U' L room_1.cells room_1.slots) := by
  refine MetFree.of_bodySF (plainFor_of_name pn_3) hisR ?_
  intro p e s m args below meth cd s₁ Bd hml0 hP hK
  obtain ⟨rfl, hZ, hh⟩ := hP
  have hx := Bd.exec
  have hby := Bd.bytes
  have hml : cd.maxLocals = 6 := hml0
  have hlk : meth.locks = false := BodyLoose.notSynchronized Bd
  have hown : s.vm.findClass "com/example/settlewatt/settlewatt/rules/PerformancePaymentRateOfPinLaw" = some m.cls := findClass_of_methodNamed Bd.named
  have hnm := (name_of_methodNamed Bd.named Bd.method).1
  have hret := Bd.returns
  have X0 : Stand p l e room_1 s m #[(.int p1), (.int p2), (.int p3)] below meth cd s₁ [] 0 0 := Stand.of_body Bd
  have e0 : s₁.heap = h0 := by rw [← hh, Bd.state]; rfl
  have N0 := Fr.nil n0
  show own_Fin p e below (own_Ans s (Q0 Z p1 p2 p3 va kv c0 c1 c2 d0 d1 d2 h0 n0) room_1.cells room_1.slots) (s₁.setTop (entryFrame m #[(.int p1), (.int p2), (.int p3)] maxLocals))
  refine own_cast (ef_rm0 m p1 p2 p3) ?_
  show own_Fin p e below _ (s₁.setTop (mkF m 0 #[.val (.int p1), .val (.int p2), .val (.int p3), .unset, .unset, .unset] []))
  refine own_on (fun t => XS.iloadN X0.here hx rfl (hb hby at_0) rfl) ?_
  show own_Fin p e below _ (s₁.setTop (mkF m 1 #[.val (.int p1), .val (.int p2), .val (.int p3), .unset, .unset, .unset] [(.int p3)]))
  refine own_on (fun t => XS.iconst X0.here hx rfl (hb hby at_1)) ?_
  show own_Fin p e below _ (s₁.setTop (mkF m 2 #[.val (.int p1), .val (.int p2), .val (.int p3), .unset, .unset, .unset] [(.int (1 : Int32)), (.int p3)]))
  refine own_on (fun t => XS.iand X0.here hx rfl (hb hby at_2) rfl) ?_
  show own_Fin p e below _ (s₁.setTop (mkF m 3 #[.val (.int p1), .val (.int p2), .val (.int p3), .unset, .unset, .unset] [(.int (p3 &&& (1 : Int32)))]))
  by_cases hc60 : (p3 &&& (1 : Int32)) = (0 : Int32)
  · refine own_on (fun t => XS.ifYes X0.here hx rfl (pc0 := 3) (pc' := 17) rfl (hb hby at_3) rfl ((if0 _ _).trans (teq hc60).1) (by decide) (by decide)) ?_
    show own_Fin p e below _ (s₁.setTop (mkF m 17 #[.val (.int p1), .val (.int p2), .val (.int p3), .unset, .unset, .unset] []))
    refine own_on (fun t => XS.iloadN X0.here hx rfl (hb hby at_17) rfl) ?_
    show own_Fin p e below _ (s₁.setTop (mkF m 18 #[.val (.int p1), .val (.int p2), .val (.int p3), .unset, .unset, .unset] [(.int p1)]))
    refine own_on (fun t => XS.istoreN X0.here hx rfl (hb hby at_18) rfl (l' := #[.val (.int p1), .val (.int p2), .val (.int p3), .val (.int p1), .unset, .unset]) rfl) ?_
    show own_Fin p e below _ (s₁.setTop (mkF m 19 #[.val (.int p1), .val (.int p2), .val (.int p3), .val (.int p1), .unset, .unset] []))
    obtain ⟨T61, h61, X61, e61, E61, A61, D61, -, st61⟩ := newO X0 hx hZ hown (hw _ (List.mem_of_getElem? (i := 0) rfl)) (hw _ (List.mem_of_getElem? (i := 1) rfl)) (hw _ (List.mem_of_getElem? (i := 2) rfl)) e0 (g := (mkF m 19 #[.val (.int p1), .val (.int p2), .val (.int p3), .val (.int p1), .unset, .unset] [])) rfl (hb hby at_19) (by decide) (by decide)
    obtain ⟨b61, g61⟩ : ∃ z, z = h0.size := ⟨_, rfl⟩
    rw [← g61] at A61 D61 st61
    have y62 := (O.ext E61)
    have y63 := (Nat.le_trans Z0 E61.1)
    have gn61 : n0 ≤ b61 := Nat.le_trans Z0 (Nat.le_of_eq g61.symm)
    have F61_firstYear : Fld Z h61 b61 "com/example/settlewatt/settlewatt/model/CommitmentPeriod" "firstYear" "I" (.int (0 : Int32)) := D61 (Or.inr (hw _ (List.mem_of_getElem? (i := 15) rfl))) (ty := .int) (by decide)
    refine own_on st61 ?_
    show own_Fin p e below _ (T61.setTop (mkF m 22 #[.val (.int p1), .val (.int p2), .val (.int p3), .val (.int p1), .unset, .unset] [(.ref b61)]))
    refine own_on (fun t => XS.dup X61.here hx rfl (hb hby at_22) rfl rfl) ?_
    show own_Fin p e below _ (T61.setTop (mkF m 23 #[.val (.int p1), .val (.int p2), .val (.int p3), .val (.int p1), .unset, .unset] [(.ref b61), (.ref b61)]))
    refine own_on (fun t => XS.iloadN X61.here hx rfl (hb hby at_23) rfl) ?_
    show own_Fin p e below _ (T61.setTop (mkF m 24 #[.val (.int p1), .val (.int p2), .val (.int p3), .val (.int p1), .unset, .unset] [(.int p1), (.ref b61), (.ref b61)]))
    obtain ⟨_, _, ⟨T64, L64, k64, n64⟩, -, X64, ⟨Lc64, hQ64, l64, y64, z64⟩, st64⟩ := X61.specialBack hx (y := (⟨"com/example/settlewatt/settlewatt/model/CommitmentPeriod", "<init>", "(I)V"⟩ : MethodName)) rfl hown (mvT hZ (hw _ (List.mem_of_getElem? (i := 3) rfl))) (mvT hZ (hw _ (List.mem_of_getElem? (i := 4) rfl))) (mvT hZ (hw _ (List.mem_of_getElem? (i := 5) rfl))) (by decide) (backOf (W := 1) (rm1 l Z a0 hw [] b61 p1 h61 n0 (by exact y63) A61 F61_firstYear gn61) hZ (hw _ (List.mem_of_getElem? (i := 5) rfl)) (hw _ (List.mem_of_getElem? (i := 2) rfl)) (by decide) (by decide)) (g := (mkF m 24 #[.val (.int p1), .val (.int p2), .val (.int p3), .val (.int p1), .unset, .unset] [(.int p1), (.ref b61), (.ref b61)])) rfl (by rw [hml]; rfl) (Steps.refl _) (a := b61) (argsL := [(.int p1)]) (rest := [(.ref b61)]) (lenOf pd_3 rfl) rfl (by show 2 * 0 + _ ≤ _; exact Nat.le_of_eq rfl) (hb hby at_24) (fun _ _ => ⟨rfl, e61, (by decide : 1 + 0 ≤ _), (by decide : 1 + 0 ≤ _)⟩)
    dsimp only [Pt.U, Pt.locs, Pt.cells, Pt.slots] at X64 l64 y64 z64 st64 hQ64
    subst l64 y64 z64
    obtain ⟨rfl, N64q, K64, E64q, F64q⟩ := hQ64
    have N64 := Fr.app N0 N64q
    have y65 := (y62.keep K64 (allS gn61 all0))
    have y66 := (Nat.le_trans y63 K64.1)
    have y67 := (A61.keep K64)
    refine own_via st64 ?_
    show own_Fin p e below _ (T64.setTop (mkF m 27 #[.val (.int p1), .val (.int p2), .val (.int p3), .val (.int p1), .unset, .unset] [(.ref b61)]))
    obtain ⟨r69, hr69⟩ : ∃ r, r = own_res p1 c0 c1 c2 := ⟨_, rfl⟩
    have ir69 : r69.isRef = true := hr69 ▸ own_resr _ _ _ _
    obtain ⟨_, _, ⟨T68, L68, k68, n68⟩, -, X68, ⟨Lc68, hQ68, l68, y68, z68⟩, st68⟩ := Jvm.LawKit.callS X64 hx (y := (⟨"com/example/settlewatt/settlewatt/rules/PerformancePaymentRate", "of", "(Lcom/example/settlewatt/settlewatt/model/CommitmentPeriod;)Lcom/example/settlewatt/settlewatt/rules/PerformancePaymentRate;"⟩ : MethodName)) hown (mvT hZ (hw _ (List.mem_of_getElem? (i := 16) rfl))) (mvT hZ (hw _ (List.mem_of_getElem? (i := 17) rfl))) (mvT hZ (hw _ (List.mem_of_getElem? (i := 18) rfl))) (mvT hZ (hw _ (List.mem_of_getElem? (i := 19) rfl))) (by decide) (backOf (W := 0) (rm4 l Z a0 hw [] b61 p1 va kv c0 c1 c2 d0 d1 d2 r69 T64.heap n0 (by exact y66) y65 SV AV EV F0 F1 F2 E0 E1 E2 Y0 Y1 Y2 y67 F64q hr69) hZ (hw _ (List.mem_of_getElem? (i := 19) rfl)) (hw _ (List.mem_of_getElem? (i := 18) rfl)) (by decide) (by decide)) (g := (mkF m 27 #[.val (.int p1), .val (.int p2), .val (.int p3), .val (.int p1), .unset, .unset] [(.ref b61)])) rfl (by rw [hml]; rfl) (argsL := [(.ref b61)]) (rest := []) (lenOf pd_4 rfl) rfl (by show 2 * 0 + _ ≤ _; exact Nat.le_of_eq rfl) (hb hby at_27) (fun _ _ => ⟨rfl, rfl, (by decide : 1 + 1 ≤ _), (by decide : 1 + 3 ≤ _)⟩)
    dsimp only [Pt.U, Pt.locs, Pt.cells, Pt.slots] at X68 l68 y68 z68 st68 hQ68
    subst l68 y68 z68
    obtain ⟨rfl, N68q, K68⟩ := hQ68
    have N68 := Fr.app N64 N68q
    have y70 := (y65.keep K68 all0)
    have y71 := (Nat.le_trans y66 K68.1)
    have y72 := (y67.keep K68)
    have y73 := (F64q.keep K68 nin0)
    refine own_on st68 ?_
    show own_Fin p e below _ (T68.setTop (mkF m 30 #[.val (.int p1), .val (.int p2), .val (.int p3), .val (.int p1), .unset, .unset] [r69]))
    refine own_on (fun t => XS.astore X68.here hx rfl (hb hby at_30) rfl ir69 (l' := #[.val (.int p1), .val (.int p2), .val (.int p3), .val (.int p1), .val r69, .unset]) (by first | rfl | (rcases ref_cases ir69 with rfl | ⟨_, rfl⟩ <;> rfl))) ?_
    show own_Fin p e below _ (T68.setTop (mkF m 32 #[.val (.int p1), .val (.int p2), .val (.int p3), .val (.int p1), .val r69, .unset] []))
    refine own_on (fun t => XS.iloadN X68.here hx rfl (hb hby at_32) rfl) ?_
    show own_Fin p e below _ (T68.setTop (mkF m 33 #[.val (.int p1), .val (.int p2), .val (.int p3), .val (.int p1), .val r69, .unset] [(.int p1)]))
    refine own_on (fun t => XS.sipush X68.here hx rfl (hb hby at_33)) ?_
    show own_Fin p e below _ (T68.setTop (mkF m 36 #[.val (.int p1), .val (.int p2), .val (.int p3), .val (.int p1), .val r69, .unset] [(.int (2018 : Int32)), (.int p1)]))
    by_cases hc74 : p1 < (2018 : Int32)
    · refine own_on (fun t => XS.icmpNo X68.here hx rfl (hb hby at_36) rfl (tlt hc74).2.1) ?_
      show own_Fin p e below _ (T68.setTop (mkF m 39 #[.val (.int p1), .val (.int p2), .val (.int p3), .val (.int p1), .val r69, .unset] []))
      refine own_on (fun t => XS.aconstNull X68.here hx rfl (hb hby at_39)) ?_
      show own_Fin p e below _ (T68.setTop (mkF m 40 #[.val (.int p1), .val (.int p2), .val (.int p3), .val (.int p1), .val r69, .unset] [.null]))
      refine own_on (fun t => XS.astore X68.here hx rfl (hb hby at_40) rfl rfl (l' := #[.val (.int p1), .val (.int p2), .val (.int p3), .val (.int p1), .val r69, .val .null]) rfl) ?_
      show own_Fin p e below _ (T68.setTop (mkF m 42 #[.val (.int p1), .val (.int p2), .val (.int p3), .val (.int p1), .val r69, .val .null] []))
      refine own_on (fun t => XS.goto X68.here hx rfl (pc0 := 42) (pc' := 80) rfl (hb hby at_42) (by decide) (by decide)) ?_
      show own_Fin p e below _ (T68.setTop (mkF m 80 #[.val (.int p1), .val (.int p2), .val (.int p3), .val (.int p1), .val r69, .val .null] []))
      refine own_on (fun t => XS.aload X68.here hx rfl (hb hby at_80) rfl ir69) ?_
      show own_Fin p e below _ (T68.setTop (mkF m 82 #[.val (.int p1), .val (.int p2), .val (.int p3), .val (.int p1), .val r69, .val .null] [r69]))
      refine own_on (fun t => XS.aload X68.here hx rfl (hb hby at_82) rfl rfl) ?_
      show own_Fin p e below _ (T68.setTop (mkF m 84 #[.val (.int p1), .val (.int p2), .val (.int p3), .val (.int p1), .val r69, .val .null] [.null, r69]))
      have k75 : r69 = .null := by rw [hr69]; simp [own_res, hc74]
      refine own_on (fun t => Jvm.RoadKit.acmp (g := (mkF m 84 #[.val (.int p1), .val (.int p2), .val (.int p3), .val (.int p1), .val r69, .val .null] [.null, r69])) X68 hx rfl ir69 rfl (pc0 := 84) (pc' := 87) (same := true) rfl (hb hby at_84) rfl (decide_eq_true k75) (by decide) (by decide)) ?_
      show own_Fin p e below _ (T68.setTop (mkF m 87 #[.val (.int p1), .val (.int p2), .val (.int p3), .val (.int p1), .val r69, .val .null] []))
      refine own_on (fun t => XS.iconst X68.here hx rfl (hb hby at_87)) ?_
      show own_Fin p e below _ (T68.setTop (mkF m 88 #[.val (.int p1), .val (.int p2), .val (.int p3), .val (.int p1), .val r69, .val .null] [(.int (1 : Int32))]))
      refine own_on (fun t => XS.goto X68.here hx rfl (pc0 := 88) (pc' := 92) rfl (hb hby at_88) (by decide) (by decide)) ?_
      show own_Fin p e below _ (T68.setTop (mkF m 92 #[.val (.int p1), .val (.int p2), .val (.int p3), .val (.int p1), .val r69, .val .null] [(.int (1 : Int32))]))
      exact own_ret (t := .boolean) X68 hx hlk hret rfl (Or.inl ⟨rfl, (by simp), _, rfl⟩) (hb hby at_92) (⟨rfl, N68⟩) (by decide) (by decide)
    · refine own_on (fun t => XS.icmpYes X68.here hx rfl (pc0 := 36) (pc' := 45) rfl (hb hby at_36) rfl (flt hc74).2.1 (by decide) (by decide)) ?_
      show own_Fin p e below _ (T68.setTop (mkF m 45 #[.val (.int p1), .val (.int p2), .val (.int p3), .val (.int p1), .val r69, .unset] []))
      refine own_on (fun t => XS.iloadN X68.here hx rfl (hb hby at_45) rfl) ?_
      show own_Fin p e below _ (T68.setTop (mkF m 46 #[.val (.int p1), .val (.int p2), .val (.int p3), .val (.int p1), .val r69, .unset] [(.int p1)]))
      refine own_on (fun t => XS.sipush X68.here hx rfl (hb hby at_46)) ?_
      show own_Fin p e below _ (T68.setTop (mkF m 49 #[.val (.int p1), .val (.int p2), .val (.int p3), .val (.int p1), .val r69, .unset] [(.int (2021 : Int32)), (.int p1)]))
      by_cases hc76 : p1 < (2021 : Int32)
      · refine own_on (fun t => XS.icmpNo X68.here hx rfl (hb hby at_49) rfl (tlt hc76).2.1) ?_
        show own_Fin p e below _ (T68.setTop (mkF m 52 #[.val (.int p1), .val (.int p2), .val (.int p3), .val (.int p1), .val r69, .unset] []))
        obtain ⟨T77, X77, e77, st77⟩ := getS2 X68 hx hZ hown (host := "") (Or.inl (hw _ (List.mem_of_getElem? (i := 46) rfl))) Via.refl rfl (S0.ext y70.2) (g := (mkF m 52 #[.val (.int p1), .val (.int p2), .val (.int p3), .val (.int p1), .val r69, .unset] [])) rfl (hb hby at_52)
        refine own_on st77 ?_
        show own_Fin p e below _ (T77.setTop (mkF m 55 #[.val (.int p1), .val (.int p2), .val (.int p3), .val (.int p1), .val r69, .unset] [(.ref c0)]))
        refine own_on (fun t => XS.astore X77.here hx rfl (hb hby at_55) rfl rfl (l' := #[.val (.int p1), .val (.int p2), .val (.int p3), .val (.int p1), .val r69, .val (.ref c0)]) rfl) ?_
        show own_Fin p e below _ (T77.setTop (mkF m 57 #[.val (.int p1), .val (.int p2), .val (.int p3), .val (.int p1), .val r69, .val (.ref c0)] []))
        refine own_on (fun t => XS.goto X77.here hx rfl (pc0 := 57) (pc' := 80) rfl (hb hby at_57) (by decide) (by decide)) ?_
        show own_Fin p e below _ (T77.setTop (mkF m 80 #[.val (.int p1), .val (.int p2), .val (.int p3), .val (.int p1), .val r69, .val (.ref c0)] []))
        refine own_on (fun t => XS.aload X77.here hx rfl (hb hby at_80) rfl ir69) ?_
        show own_Fin p e below _ (T77.setTop (mkF m 82 #[.val (.int p1), .val (.int p2), .val (.int p3), .val (.int p1), .val r69, .val (.ref c0)] [r69]))
        refine own_on (fun t => XS.aload X77.here hx rfl (hb hby at_82) rfl rfl) ?_
        show own_Fin p e below _ (T77.setTop (mkF m 84 #[.val (.int p1), .val (.int p2), .val (.int p3), .val (.int p1), .val r69, .val (.ref c0)] [(.ref c0), r69]))
        have k78 : r69 = (.ref c0) := by rw [hr69]; simp [own_res, hc74, hc76]
        refine own_on (fun t => Jvm.RoadKit.acmp (g := (mkF m 84 #[.val (.int p1), .val (.int p2), .val (.int p3), .val (.int p1), .val r69, .val (.ref c0)] [(.ref c0), r69])) X77 hx rfl ir69 rfl (pc0 := 84) (pc' := 87) (same := true) rfl (hb hby at_84) rfl (decide_eq_true k78) (by decide) (by decide)) ?_
        show own_Fin p e below _ (T77.setTop (mkF m 87 #[.val (.int p1), .val (.int p2), .val (.int p3), .val (.int p1), .val r69, .val (.ref c0)] []))
        refine own_on (fun t => XS.iconst X77.here hx rfl (hb hby at_87)) ?_
        show own_Fin p e below _ (T77.setTop (mkF m 88 #[.val (.int p1), .val (.int p2), .val (.int p3), .val (.int p1), .val r69, .val (.ref c0)] [(.int (1 : Int32))]))
        refine own_on (fun t => XS.goto X77.here hx rfl (pc0 := 88) (pc' := 92) rfl (hb hby at_88) (by decide) (by decide)) ?_
        show own_Fin p e below _ (T77.setTop (mkF m 92 #[.val (.int p1), .val (.int p2), .val (.int p3), .val (.int p1), .val r69, .val (.ref c0)] [(.int (1 : Int32))]))
        exact own_ret (t := .boolean) X77 hx hlk hret rfl (Or.inl ⟨rfl, (by simp), _, rfl⟩) (hb hby at_92) (⟨rfl, N68⟩) (by decide) (by decide)
      · refine own_on (fun t => XS.icmpYes X68.here hx rfl (pc0 := 49) (pc' := 60) rfl (hb hby at_49) rfl (flt hc76).2.1 (by decide) (by decide)) ?_
        show own_Fin p e below _ (T68.setTop (mkF m 60 #[.val (.int p1), .val (.int p2), .val (.int p3), .val (.int p1), .val r69, .unset] []))
        refine own_on (fun t => XS.iloadN X68.here hx rfl (hb hby at_60) rfl) ?_
        show own_Fin p e below _ (T68.setTop (mkF m 61 #[.val (.int p1), .val (.int p2), .val (.int p3), .val (.int p1), .val r69, .unset] [(.int p1)]))
        refine own_on (fun t => XS.sipush X68.here hx rfl (hb hby at_61)) ?_
        show own_Fin p e below _ (T68.setTop (mkF m 64 #[.val (.int p1), .val (.int p2), .val (.int p3), .val (.int p1), .val r69, .unset] [(.int (2024 : Int32)), (.int p1)]))
        by_cases hc79 : p1 < (2024 : Int32)
        · refine own_on (fun t => XS.icmpNo X68.here hx rfl (hb hby at_64) rfl (tlt hc79).2.1) ?_
          show own_Fin p e below _ (T68.setTop (mkF m 67 #[.val (.int p1), .val (.int p2), .val (.int p3), .val (.int p1), .val r69, .unset] []))
          obtain ⟨T80, X80, e80, st80⟩ := getS2 X68 hx hZ hown (host := "") (Or.inl (hw _ (List.mem_of_getElem? (i := 47) rfl))) Via.refl rfl (S1.ext y70.2) (g := (mkF m 67 #[.val (.int p1), .val (.int p2), .val (.int p3), .val (.int p1), .val r69, .unset] [])) rfl (hb hby at_67)
          refine own_on st80 ?_
          show own_Fin p e below _ (T80.setTop (mkF m 70 #[.val (.int p1), .val (.int p2), .val (.int p3), .val (.int p1), .val r69, .unset] [(.ref c1)]))
          refine own_on (fun t => XS.astore X80.here hx rfl (hb hby at_70) rfl rfl (l' := #[.val (.int p1), .val (.int p2), .val (.int p3), .val (.int p1), .val r69, .val (.ref c1)]) rfl) ?_
          show own_Fin p e below _ (T80.setTop (mkF m 72 #[.val (.int p1), .val (.int p2), .val (.int p3), .val (.int p1), .val r69, .val (.ref c1)] []))
          refine own_on (fun t => XS.goto X80.here hx rfl (pc0 := 72) (pc' := 80) rfl (hb hby at_72) (by decide) (by decide)) ?_
          show own_Fin p e below _ (T80.setTop (mkF m 80 #[.val (.int p1), .val (.int p2), .val (.int p3), .val (.int p1), .val r69, .val (.ref c1)] []))
          refine own_on (fun t => XS.aload X80.here hx rfl (hb hby at_80) rfl ir69) ?_
          show own_Fin p e below _ (T80.setTop (mkF m 82 #[.val (.int p1), .val (.int p2), .val (.int p3), .val (.int p1), .val r69, .val (.ref c1)] [r69]))
          refine own_on (fun t => XS.aload X80.here hx rfl (hb hby at_82) rfl rfl) ?_
          show own_Fin p e below _ (T80.setTop (mkF m 84 #[.val (.int p1), .val (.int p2), .val (.int p3), .val (.int p1), .val r69, .val (.ref c1)] [(.ref c1), r69]))
          have k81 : r69 = (.ref c1) := by rw [hr69]; simp [own_res, hc74, hc76, hc79]
          refine own_on (fun t => Jvm.RoadKit.acmp (g := (mkF m 84 #[.val (.int p1), .val (.int p2), .val (.int p3), .val (.int p1), .val r69, .val (.ref c1)] [(.ref c1), r69])) X80 hx rfl ir69 rfl (pc0 := 84) (pc' := 87) (same := true) rfl (hb hby at_84) rfl (decide_eq_true k81) (by decide) (by decide)) ?_
          show own_Fin p e below _ (T80.setTop (mkF m 87 #[.val (.int p1), .val (.int p2), .val (.int p3), .val (.int p1), .val r69, .val (.ref c1)] []))
          refine own_on (fun t => XS.iconst X80.here hx rfl (hb hby at_87)) ?_
          show own_Fin p e below _ (T80.setTop (mkF m 88 #[.val (.int p1), .val (.int p2), .val (.int p3), .val (.int p1), .val r69, .val (.ref c1)] [(.int (1 : Int32))]))
          refine own_on (fun t => XS.goto X80.here hx rfl (pc0 := 88) (pc' := 92) rfl (hb hby at_88) (by decide) (by decide)) ?_
          show own_Fin p e below _ (T80.setTop (mkF m 92 #[.val (.int p1), .val (.int p2), .val (.int p3), .val (.int p1), .val r69, .val (.ref c1)] [(.int (1 : Int32))]))
          exact own_ret (t := .boolean) X80 hx hlk hret rfl (Or.inl ⟨rfl, (by simp), _, rfl⟩) (hb hby at_92) (⟨rfl, N68⟩) (by decide) (by decide)
        · refine own_on (fun t => XS.icmpYes X68.here hx rfl (pc0 := 64) (pc' := 75) rfl (hb hby at_64) rfl (flt hc79).2.1 (by decide) (by decide)) ?_
          show own_Fin p e below _ (T68.setTop (mkF m 75 #[.val (.int p1), .val (.int p2), .val (.int p3), .val (.int p1), .val r69, .unset] []))
          obtain ⟨T82, X82, e82, st82⟩ := getS2 X68 hx hZ hown (host := "") (Or.inl (hw _ (List.mem_of_getElem? (i := 45) rfl))) Via.refl rfl (S2.ext y70.2) (g := (mkF m 75 #[.val (.int p1), .val (.int p2), .val (.int p3), .val (.int p1), .val r69, .unset] [])) rfl (hb hby at_75)
          refine own_on st82 ?_
          show own_Fin p e below _ (T82.setTop (mkF m 78 #[.val (.int p1), .val (.int p2), .val (.int p3), .val (.int p1), .val r69, .unset] [(.ref c2)]))
          refine own_on (fun t => XS.astore X82.here hx rfl (hb hby at_78) rfl rfl (l' := #[.val (.int p1), .val (.int p2), .val (.int p3), .val (.int p1), .val r69, .val (.ref c2)]) rfl) ?_
          show own_Fin p e below _ (T82.setTop (mkF m 80 #[.val (.int p1), .val (.int p2), .val (.int p3), .val (.int p1), .val r69, .val (.ref c2)] []))
          refine own_on (fun t => XS.aload X82.here hx rfl (hb hby at_80) rfl ir69) ?_
          show own_Fin p e below _ (T82.setTop (mkF m 82 #[.val (.int p1), .val (.int p2), .val (.int p3), .val (.int p1), .val r69, .val (.ref c2)] [r69]))
          refine own_on (fun t => XS.aload X82.here hx rfl (hb hby at_82) rfl rfl) ?_
          show own_Fin p e below _ (T82.setTop (mkF m 84 #[.val (.int p1), .val (.int p2), .val (.int p3), .val (.int p1), .val r69, .val (.ref c2)] [(.ref c2), r69]))
          have k83 : r69 = (.ref c2) := by rw [hr69]; simp [own_res, hc74, hc76, hc79]
          refine own_on (fun t => Jvm.RoadKit.acmp (g := (mkF m 84 #[.val (.int p1), .val (.int p2), .val (.int p3), .val (.int p1), .val r69, .val (.ref c2)] [(.ref c2), r69])) X82 hx rfl ir69 rfl (pc0 := 84) (pc' := 87) (same := true) rfl (hb hby at_84) rfl (decide_eq_true k83) (by decide) (by decide)) ?_
          show own_Fin p e below _ (T82.setTop (mkF m 87 #[.val (.int p1), .val (.int p2), .val (.int p3), .val (.int p1), .val r69, .val (.ref c2)] []))
          refine own_on (fun t => XS.iconst X82.here hx rfl (hb hby at_87)) ?_
          show own_Fin p e below _ (T82.setTop (mkF m 88 #[.val (.int p1), .val (.int p2), .val (.int p3), .val (.int p1), .val r69, .val (.ref c2)] [(.int (1 : Int32))]))
          refine own_on (fun t => XS.goto X82.here hx rfl (pc0 := 88) (pc' := 92) rfl (hb hby at_88) (by decide) (by decide)) ?_
          show own_Fin p e below _ (T82.setTop (mkF m 92 #[.val (.int p1), .val (.int p2), .val (.int p3), .val (.int p1), .val r69, .val (.ref c2)] [(.int (1 : Int32))]))
          exact own_ret (t := .boolean) X82 hx hlk hret rfl (Or.inl ⟨rfl, (by simp), _, rfl⟩) (hb hby at_92) (⟨rfl, N68⟩) (by decide) (by decide)
  · refine own_on (fun t => XS.ifNo X0.here hx rfl (hb hby at_3) rfl ((if0 _ _).trans (feq hc60).1)) ?_
    show own_Fin p e below _ (s₁.setTop (mkF m 6 #[.val (.int p1), .val (.int p2), .val (.int p3), .unset, .unset, .unset] []))
    refine own_on (fun t => XS.sipush X0.here hx rfl (hb hby at_6)) ?_
    show own_Fin p e below _ (s₁.setTop (mkF m 9 #[.val (.int p1), .val (.int p2), .val (.int p3), .unset, .unset, .unset] [(.int (2016 : Int32))]))
    refine own_on (fun t => XS.iloadN X0.here hx rfl (hb hby at_9) rfl) ?_
    show own_Fin p e below _ (s₁.setTop (mkF m 10 #[.val (.int p1), .val (.int p2), .val (.int p3), .unset, .unset, .unset] [(.int p2), (.int (2016 : Int32))]))
    refine own_on (fun t => XS.bipush X0.here hx rfl (hb hby at_10)) ?_
    show own_Fin p e below _ (s₁.setTop (mkF m 12 #[.val (.int p1), .val (.int p2), .val (.int p3), .unset, .unset, .unset] [(.int (15 : Int32)), (.int p2), (.int (2016 : Int32))]))
    refine own_on (fun t => XS.iand X0.here hx rfl (hb hby at_12) rfl) ?_
    show own_Fin p e below _ (s₁.setTop (mkF m 13 #[.val (.int p1), .val (.int p2), .val (.int p3), .unset, .unset, .unset] [(.int (p2 &&& (15 : Int32))), (.int (2016 : Int32))]))
    refine own_on (fun t => XS.iadd X0.here hx rfl (hb hby at_13) rfl) ?_
    show own_Fin p e below _ (s₁.setTop (mkF m 14 #[.val (.int p1), .val (.int p2), .val (.int p3), .unset, .unset, .unset] [(.int ((2016 : Int32) + (p2 &&& (15 : Int32))))]))
    refine own_on (fun t => XS.goto X0.here hx rfl (pc0 := 14) (pc' := 18) rfl (hb hby at_14) (by decide) (by decide)) ?_
    show own_Fin p e below _ (s₁.setTop (mkF m 18 #[.val (.int p1), .val (.int p2), .val (.int p3), .unset, .unset, .unset] [(.int ((2016 : Int32) + (p2 &&& (15 : Int32))))]))
    obtain ⟨y84, hy84⟩ : ∃ z, z = ((2016 : Int32) + (p2 &&& (15 : Int32))) := ⟨_, rfl⟩
    rw [← hy84]
    show own_Fin p e below _ (s₁.setTop (mkF m 18 #[.val (.int p1), .val (.int p2), .val (.int p3), .unset, .unset, .unset] [(.int y84)]))
    refine own_on (fun t => XS.istoreN X0.here hx rfl (hb hby at_18) rfl (l' := #[.val (.int p1), .val (.int p2), .val (.int p3), .val (.int y84), .unset, .unset]) rfl) ?_
    show own_Fin p e below _ (s₁.setTop (mkF m 19 #[.val (.int p1), .val (.int p2), .val (.int p3), .val (.int y84), .unset, .unset] []))
    obtain ⟨T85, h85, X85, e85, E85, A85, D85, -, st85⟩ := newO X0 hx hZ hown (hw _ (List.mem_of_getElem? (i := 0) rfl)) (hw _ (List.mem_of_getElem? (i := 1) rfl)) (hw _ (List.mem_of_getElem? (i := 2) rfl)) e0 (g := (mkF m 19 #[.val (.int p1), .val (.int p2), .val (.int p3), .val (.int y84), .unset, .unset] [])) rfl (hb hby at_19) (by decide) (by decide)
    obtain ⟨b85, g85⟩ : ∃ z, z = h0.size := ⟨_, rfl⟩
    rw [← g85] at A85 D85 st85
    have y86 := (O.ext E85)
    have y87 := (Nat.le_trans Z0 E85.1)
    have gn85 : n0 ≤ b85 := Nat.le_trans Z0 (Nat.le_of_eq g85.symm)
    have F85_firstYear : Fld Z h85 b85 "com/example/settlewatt/settlewatt/model/CommitmentPeriod" "firstYear" "I" (.int (0 : Int32)) := D85 (Or.inr (hw _ (List.mem_of_getElem? (i := 15) rfl))) (ty := .int) (by decide)
    refine own_on st85 ?_
    show own_Fin p e below _ (T85.setTop (mkF m 22 #[.val (.int p1), .val (.int p2), .val (.int p3), .val (.int y84), .unset, .unset] [(.ref b85)]))
    refine own_on (fun t => XS.dup X85.here hx rfl (hb hby at_22) rfl rfl) ?_
    show own_Fin p e below _ (T85.setTop (mkF m 23 #[.val (.int p1), .val (.int p2), .val (.int p3), .val (.int y84), .unset, .unset] [(.ref b85), (.ref b85)]))
    refine own_on (fun t => XS.iloadN X85.here hx rfl (hb hby at_23) rfl) ?_
    show own_Fin p e below _ (T85.setTop (mkF m 24 #[.val (.int p1), .val (.int p2), .val (.int p3), .val (.int y84), .unset, .unset] [(.int y84), (.ref b85), (.ref b85)]))
    obtain ⟨_, _, ⟨T88, L88, k88, n88⟩, -, X88, ⟨Lc88, hQ88, l88, y88, z88⟩, st88⟩ := X85.specialBack hx (y := (⟨"com/example/settlewatt/settlewatt/model/CommitmentPeriod", "<init>", "(I)V"⟩ : MethodName)) rfl hown (mvT hZ (hw _ (List.mem_of_getElem? (i := 3) rfl))) (mvT hZ (hw _ (List.mem_of_getElem? (i := 4) rfl))) (mvT hZ (hw _ (List.mem_of_getElem? (i := 5) rfl))) (by decide) (backOf (W := 1) (rm1 l Z a0 hw [] b85 y84 h85 n0 (by exact y87) A85 F85_firstYear gn85) hZ (hw _ (List.mem_of_getElem? (i := 5) rfl)) (hw _ (List.mem_of_getElem? (i := 2) rfl)) (by decide) (by decide)) (g := (mkF m 24 #[.val (.int p1), .val (.int p2), .val (.int p3), .val (.int y84), .unset, .unset] [(.int y84), (.ref b85), (.ref b85)])) rfl (by rw [hml]; rfl) (Steps.refl _) (a := b85) (argsL := [(.int y84)]) (rest := [(.ref b85)]) (lenOf pd_3 rfl) rfl (by show 2 * 0 + _ ≤ _; exact Nat.le_of_eq rfl) (hb hby at_24) (fun _ _ => ⟨rfl, e85, (by decide : 1 + 0 ≤ _), (by decide : 1 + 0 ≤ _)⟩)
    dsimp only [Pt.U, Pt.locs, Pt.cells, Pt.slots] at X88 l88 y88 z88 st88 hQ88
    subst l88 y88 z88
    obtain ⟨rfl, N88q, K88, E88q, F88q⟩ := hQ88
    have N88 := Fr.app N0 N88q
    have y89 := (y86.keep K88 (allS gn85 all0))
    have y90 := (Nat.le_trans y87 K88.1)
    have y91 := (A85.keep K88)
    refine own_via st88 ?_
    show own_Fin p e below _ (T88.setTop (mkF m 27 #[.val (.int p1), .val (.int p2), .val (.int p3), .val (.int y84), .unset, .unset] [(.ref b85)]))
    obtain ⟨r93, hr93⟩ : ∃ r, r = own_res y84 c0 c1 c2 := ⟨_, rfl⟩
    have ir93 : r93.isRef = true := hr93 ▸ own_resr _ _ _ _
    obtain ⟨_, _, ⟨T92, L92, k92, n92⟩, -, X92, ⟨Lc92, hQ92, l92, y92, z92⟩, st92⟩ := Jvm.LawKit.callS X88 hx (y := (⟨"com/example/settlewatt/settlewatt/rules/PerformancePaymentRate", "of", "(Lcom/example/settlewatt/settlewatt/model/CommitmentPeriod;)Lcom/example/settlewatt/settlewatt/rules/PerformancePaymentRate;"⟩ : MethodName)) hown (mvT hZ (hw _ (List.mem_of_getElem? (i := 16) rfl))) (mvT hZ (hw _ (List.mem_of_getElem? (i := 17) rfl))) (mvT hZ (hw _ (List.mem_of_getElem? (i := 18) rfl))) (mvT hZ (hw _ (List.mem_of_getElem? (i := 19) rfl))) (by decide) (backOf (W := 0) (rm4 l Z a0 hw [] b85 y84 va kv c0 c1 c2 d0 d1 d2 r93 T88.heap n0 (by exact y90) y89 SV AV EV F0 F1 F2 E0 E1 E2 Y0 Y1 Y2 y91 F88q hr93) hZ (hw _ (List.mem_of_getElem? (i := 19) rfl)) (hw _ (List.mem_of_getElem? (i := 18) rfl)) (by decide) (by decide)) (g := (mkF m 27 #[.val (.int p1), .val (.int p2), .val (.int p3), .val (.int y84), .unset, .unset] [(.ref b85)])) rfl (by rw [hml]; rfl) (argsL := [(.ref b85)]) (rest := []) (lenOf pd_4 rfl) rfl (by show 2 * 0 + _ ≤ _; exact Nat.le_of_eq rfl) (hb hby at_27) (fun _ _ => ⟨rfl, rfl, (by decide : 1 + 1 ≤ _), (by decide : 1 + 3 ≤ _)⟩)
    dsimp only [Pt.U, Pt.locs, Pt.cells, Pt.slots] at X92 l92 y92 z92 st92 hQ92
    subst l92 y92 z92
    obtain ⟨rfl, N92q, K92⟩ := hQ92
    have N92 := Fr.app N88 N92q
    have y94 := (y89.keep K92 all0)
    have y95 := (Nat.le_trans y90 K92.1)
    have y96 := (y91.keep K92)
    have y97 := (F88q.keep K92 nin0)
    refine own_on st92 ?_
    show own_Fin p e below _ (T92.setTop (mkF m 30 #[.val (.int p1), .val (.int p2), .val (.int p3), .val (.int y84), .unset, .unset] [r93]))
    refine own_on (fun t => XS.astore X92.here hx rfl (hb hby at_30) rfl ir93 (l' := #[.val (.int p1), .val (.int p2), .val (.int p3), .val (.int y84), .val r93, .unset]) (by first | rfl | (rcases ref_cases ir93 with rfl | ⟨_, rfl⟩ <;> rfl))) ?_
    show own_Fin p e below _ (T92.setTop (mkF m 32 #[.val (.int p1), .val (.int p2), .val (.int p3), .val (.int y84), .val r93, .unset] []))
    refine own_on (fun t => XS.iloadN X92.here hx rfl (hb hby at_32) rfl) ?_
    show own_Fin p e below _ (T92.setTop (mkF m 33 #[.val (.int p1), .val (.int p2), .val (.int p3), .val (.int y84), .val r93, .unset] [(.int y84)]))
    refine own_on (fun t => XS.sipush X92.here hx rfl (hb hby at_33)) ?_
    show own_Fin p e below _ (T92.setTop (mkF m 36 #[.val (.int p1), .val (.int p2), .val (.int p3), .val (.int y84), .val r93, .unset] [(.int (2018 : Int32)), (.int y84)]))
    by_cases hc98 : y84 < (2018 : Int32)
    · refine own_on (fun t => XS.icmpNo X92.here hx rfl (hb hby at_36) rfl (tlt hc98).2.1) ?_
      show own_Fin p e below _ (T92.setTop (mkF m 39 #[.val (.int p1), .val (.int p2), .val (.int p3), .val (.int y84), .val r93, .unset] []))
      refine own_on (fun t => XS.aconstNull X92.here hx rfl (hb hby at_39)) ?_
      show own_Fin p e below _ (T92.setTop (mkF m 40 #[.val (.int p1), .val (.int p2), .val (.int p3), .val (.int y84), .val r93, .unset] [.null]))
      refine own_on (fun t => XS.astore X92.here hx rfl (hb hby at_40) rfl rfl (l' := #[.val (.int p1), .val (.int p2), .val (.int p3), .val (.int y84), .val r93, .val .null]) rfl) ?_
      show own_Fin p e below _ (T92.setTop (mkF m 42 #[.val (.int p1), .val (.int p2), .val (.int p3), .val (.int y84), .val r93, .val .null] []))
      refine own_on (fun t => XS.goto X92.here hx rfl (pc0 := 42) (pc' := 80) rfl (hb hby at_42) (by decide) (by decide)) ?_
      show own_Fin p e below _ (T92.setTop (mkF m 80 #[.val (.int p1), .val (.int p2), .val (.int p3), .val (.int y84), .val r93, .val .null] []))
      refine own_on (fun t => XS.aload X92.here hx rfl (hb hby at_80) rfl ir93) ?_
      show own_Fin p e below _ (T92.setTop (mkF m 82 #[.val (.int p1), .val (.int p2), .val (.int p3), .val (.int y84), .val r93, .val .null] [r93]))
      refine own_on (fun t => XS.aload X92.here hx rfl (hb hby at_82) rfl rfl) ?_
      show own_Fin p e below _ (T92.setTop (mkF m 84 #[.val (.int p1), .val (.int p2), .val (.int p3), .val (.int y84), .val r93, .val .null] [.null, r93]))
      have k99 : r93 = .null := by rw [hr93]; simp [own_res, hc98]
      refine own_on (fun t => Jvm.RoadKit.acmp (g := (mkF m 84 #[.val (.int p1), .val (.int p2), .val (.int p3), .val (.int y84), .val r93, .val .null] [.null, r93])) X92 hx rfl ir93 rfl (pc0 := 84) (pc' := 87) (same := true) rfl (hb hby at_84) rfl (decide_eq_true k99) (by decide) (by decide)) ?_
      show own_Fin p e below _ (T92.setTop (mkF m 87 #[.val (.int p1), .val (.int p2), .val (.int p3), .val (.int y84), .val r93, .val .null] []))
      refine own_on (fun t => XS.iconst X92.here hx rfl (hb hby at_87)) ?_
      show own_Fin p e below _ (T92.setTop (mkF m 88 #[.val (.int p1), .val (.int p2), .val (.int p3), .val (.int y84), .val r93, .val .null] [(.int (1 : Int32))]))
      refine own_on (fun t => XS.goto X92.here hx rfl (pc0 := 88) (pc' := 92) rfl (hb hby at_88) (by decide) (by decide)) ?_
      show own_Fin p e below _ (T92.setTop (mkF m 92 #[.val (.int p1), .val (.int p2), .val (.int p3), .val (.int y84), .val r93, .val .null] [(.int (1 : Int32))]))
      exact own_ret (t := .boolean) X92 hx hlk hret rfl (Or.inl ⟨rfl, (by simp), _, rfl⟩) (hb hby at_92) (⟨rfl, N92⟩) (by decide) (by decide)
    · refine own_on (fun t => XS.icmpYes X92.here hx rfl (pc0 := 36) (pc' := 45) rfl (hb hby at_36) rfl (flt hc98).2.1 (by decide) (by decide)) ?_
      show own_Fin p e below _ (T92.setTop (mkF m 45 #[.val (.int p1), .val (.int p2), .val (.int p3), .val (.int y84), .val r93, .unset] []))
      refine own_on (fun t => XS.iloadN X92.here hx rfl (hb hby at_45) rfl) ?_
      show own_Fin p e below _ (T92.setTop (mkF m 46 #[.val (.int p1), .val (.int p2), .val (.int p3), .val (.int y84), .val r93, .unset] [(.int y84)]))
      refine own_on (fun t => XS.sipush X92.here hx rfl (hb hby at_46)) ?_
      show own_Fin p e below _ (T92.setTop (mkF m 49 #[.val (.int p1), .val (.int p2), .val (.int p3), .val (.int y84), .val r93, .unset] [(.int (2021 : Int32)), (.int y84)]))
      by_cases hc100 : y84 < (2021 : Int32)
      · refine own_on (fun t => XS.icmpNo X92.here hx rfl (hb hby at_49) rfl (tlt hc100).2.1) ?_
        show own_Fin p e below _ (T92.setTop (mkF m 52 #[.val (.int p1), .val (.int p2), .val (.int p3), .val (.int y84), .val r93, .unset] []))
        obtain ⟨T101, X101, e101, st101⟩ := getS2 X92 hx hZ hown (host := "") (Or.inl (hw _ (List.mem_of_getElem? (i := 46) rfl))) Via.refl rfl (S0.ext y94.2) (g := (mkF m 52 #[.val (.int p1), .val (.int p2), .val (.int p3), .val (.int y84), .val r93, .unset] [])) rfl (hb hby at_52)
        refine own_on st101 ?_
        show own_Fin p e below _ (T101.setTop (mkF m 55 #[.val (.int p1), .val (.int p2), .val (.int p3), .val (.int y84), .val r93, .unset] [(.ref c0)]))
        refine own_on (fun t => XS.astore X101.here hx rfl (hb hby at_55) rfl rfl (l' := #[.val (.int p1), .val (.int p2), .val (.int p3), .val (.int y84), .val r93, .val (.ref c0)]) rfl) ?_
        show own_Fin p e below _ (T101.setTop (mkF m 57 #[.val (.int p1), .val (.int p2), .val (.int p3), .val (.int y84), .val r93, .val (.ref c0)] []))
        refine own_on (fun t => XS.goto X101.here hx rfl (pc0 := 57) (pc' := 80) rfl (hb hby at_57) (by decide) (by decide)) ?_
        show own_Fin p e below _ (T101.setTop (mkF m 80 #[.val (.int p1), .val (.int p2), .val (.int p3), .val (.int y84), .val r93, .val (.ref c0)] []))
        refine own_on (fun t => XS.aload X101.here hx rfl (hb hby at_80) rfl ir93) ?_
        show own_Fin p e below _ (T101.setTop (mkF m 82 #[.val (.int p1), .val (.int p2), .val (.int p3), .val (.int y84), .val r93, .val (.ref c0)] [r93]))
        refine own_on (fun t => XS.aload X101.here hx rfl (hb hby at_82) rfl rfl) ?_
        show own_Fin p e below _ (T101.setTop (mkF m 84 #[.val (.int p1), .val (.int p2), .val (.int p3), .val (.int y84), .val r93, .val (.ref c0)] [(.ref c0), r93]))
        have k102 : r93 = (.ref c0) := by rw [hr93]; simp [own_res, hc98, hc100]
        refine own_on (fun t => Jvm.RoadKit.acmp (g := (mkF m 84 #[.val (.int p1), .val (.int p2), .val (.int p3), .val (.int y84), .val r93, .val (.ref c0)] [(.ref c0), r93])) X101 hx rfl ir93 rfl (pc0 := 84) (pc' := 87) (same := true) rfl (hb hby at_84) rfl (decide_eq_true k102) (by decide) (by decide)) ?_
        show own_Fin p e below _ (T101.setTop (mkF m 87 #[.val (.int p1), .val (.int p2), .val (.int p3), .val (.int y84), .val r93, .val (.ref c0)] []))
        refine own_on (fun t => XS.iconst X101.here hx rfl (hb hby at_87)) ?_
        show own_Fin p e below _ (T101.setTop (mkF m 88 #[.val (.int p1), .val (.int p2), .val (.int p3), .val (.int y84), .val r93, .val (.ref c0)] [(.int (1 : Int32))]))
        refine own_on (fun t => XS.goto X101.here hx rfl (pc0 := 88) (pc' := 92) rfl (hb hby at_88) (by decide) (by decide)) ?_
        show own_Fin p e below _ (T101.setTop (mkF m 92 #[.val (.int p1), .val (.int p2), .val (.int p3), .val (.int y84), .val r93, .val (.ref c0)] [(.int (1 : Int32))]))
        exact own_ret (t := .boolean) X101 hx hlk hret rfl (Or.inl ⟨rfl, (by simp), _, rfl⟩) (hb hby at_92) (⟨rfl, N92⟩) (by decide) (by decide)
      · refine own_on (fun t => XS.icmpYes X92.here hx rfl (pc0 := 49) (pc' := 60) rfl (hb hby at_49) rfl (flt hc100).2.1 (by decide) (by decide)) ?_
        show own_Fin p e below _ (T92.setTop (mkF m 60 #[.val (.int p1), .val (.int p2), .val (.int p3), .val (.int y84), .val r93, .unset] []))
        refine own_on (fun t => XS.iloadN X92.here hx rfl (hb hby at_60) rfl) ?_
        show own_Fin p e below _ (T92.setTop (mkF m 61 #[.val (.int p1), .val (.int p2), .val (.int p3), .val (.int y84), .val r93, .unset] [(.int y84)]))
        refine own_on (fun t => XS.sipush X92.here hx rfl (hb hby at_61)) ?_
        show own_Fin p e below _ (T92.setTop (mkF m 64 #[.val (.int p1), .val (.int p2), .val (.int p3), .val (.int y84), .val r93, .unset] [(.int (2024 : Int32)), (.int y84)]))
        by_cases hc103 : y84 < (2024 : Int32)
        · refine own_on (fun t => XS.icmpNo X92.here hx rfl (hb hby at_64) rfl (tlt hc103).2.1) ?_
          show own_Fin p e below _ (T92.setTop (mkF m 67 #[.val (.int p1), .val (.int p2), .val (.int p3), .val (.int y84), .val r93, .unset] []))
          obtain ⟨T104, X104, e104, st104⟩ := getS2 X92 hx hZ hown (host := "") (Or.inl (hw _ (List.mem_of_getElem? (i := 47) rfl))) Via.refl rfl (S1.ext y94.2) (g := (mkF m 67 #[.val (.int p1), .val (.int p2), .val (.int p3), .val (.int y84), .val r93, .unset] [])) rfl (hb hby at_67)
          refine own_on st104 ?_
          show own_Fin p e below _ (T104.setTop (mkF m 70 #[.val (.int p1), .val (.int p2), .val (.int p3), .val (.int y84), .val r93, .unset] [(.ref c1)]))
          refine own_on (fun t => XS.astore X104.here hx rfl (hb hby at_70) rfl rfl (l' := #[.val (.int p1), .val (.int p2), .val (.int p3), .val (.int y84), .val r93, .val (.ref c1)]) rfl) ?_
          show own_Fin p e below _ (T104.setTop (mkF m 72 #[.val (.int p1), .val (.int p2), .val (.int p3), .val (.int y84), .val r93, .val (.ref c1)] []))
          refine own_on (fun t => XS.goto X104.here hx rfl (pc0 := 72) (pc' := 80) rfl (hb hby at_72) (by decide) (by decide)) ?_
          show own_Fin p e below _ (T104.setTop (mkF m 80 #[.val (.int p1), .val (.int p2), .val (.int p3), .val (.int y84), .val r93, .val (.ref c1)] []))
          refine own_on (fun t => XS.aload X104.here hx rfl (hb hby at_80) rfl ir93) ?_
          show own_Fin p e below _ (T104.setTop (mkF m 82 #[.val (.int p1), .val (.int p2), .val (.int p3), .val (.int y84), .val r93, .val (.ref c1)] [r93]))
          refine own_on (fun t => XS.aload X104.here hx rfl (hb hby at_82) rfl rfl) ?_
          show own_Fin p e below _ (T104.setTop (mkF m 84 #[.val (.int p1), .val (.int p2), .val (.int p3), .val (.int y84), .val r93, .val (.ref c1)] [(.ref c1), r93]))
          have k105 : r93 = (.ref c1) := by rw [hr93]; simp [own_res, hc98, hc100, hc103]
          refine own_on (fun t => Jvm.RoadKit.acmp (g := (mkF m 84 #[.val (.int p1), .val (.int p2), .val (.int p3), .val (.int y84), .val r93, .val (.ref c1)] [(.ref c1), r93])) X104 hx rfl ir93 rfl (pc0 := 84) (pc' := 87) (same := true) rfl (hb hby at_84) rfl (decide_eq_true k105) (by decide) (by decide)) ?_
          show own_Fin p e below _ (T104.setTop (mkF m 87 #[.val (.int p1), .val (.int p2), .val (.int p3), .val (.int y84), .val r93, .val (.ref c1)] []))
          refine own_on (fun t => XS.iconst X104.here hx rfl (hb hby at_87)) ?_
          show own_Fin p e below _ (T104.setTop (mkF m 88 #[.val (.int p1), .val (.int p2), .val (.int p3), .val (.int y84), .val r93, .val (.ref c1)] [(.int (1 : Int32))]))
          refine own_on (fun t => XS.goto X104.here hx rfl (pc0 := 88) (pc' := 92) rfl (hb hby at_88) (by decide) (by decide)) ?_
          show own_Fin p e below _ (T104.setTop (mkF m 92 #[.val (.int p1), .val (.int p2), .val (.int p3), .val (.int y84), .val r93, .val (.ref c1)] [(.int (1 : Int32))]))
          exact own_ret (t := .boolean) X104 hx hlk hret rfl (Or.inl ⟨rfl, (by simp), _, rfl⟩) (hb hby at_92) (⟨rfl, N92⟩) (by decide) (by decide)
        · refine own_on (fun t => XS.icmpYes X92.here hx rfl (pc0 := 64) (pc' := 75) rfl (hb hby at_64) rfl (flt hc103).2.1 (by decide) (by decide)) ?_
          show own_Fin p e below _ (T92.setTop (mkF m 75 #[.val (.int p1), .val (.int p2), .val (.int p3), .val (.int y84), .val r93, .unset] []))
          obtain ⟨T106, X106, e106, st106⟩ := getS2 X92 hx hZ hown (host := "") (Or.inl (hw _ (List.mem_of_getElem? (i := 45) rfl))) Via.refl rfl (S2.ext y94.2) (g := (mkF m 75 #[.val (.int p1), .val (.int p2), .val (.int p3), .val (.int y84), .val r93, .unset] [])) rfl (hb hby at_75)
          refine own_on st106 ?_
          show own_Fin p e below _ (T106.setTop (mkF m 78 #[.val (.int p1), .val (.int p2), .val (.int p3), .val (.int y84), .val r93, .unset] [(.ref c2)]))
          refine own_on (fun t => XS.astore X106.here hx rfl (hb hby at_78) rfl rfl (l' := #[.val (.int p1), .val (.int p2), .val (.int p3), .val (.int y84), .val r93, .val (.ref c2)]) rfl) ?_
          show own_Fin p e below _ (T106.setTop (mkF m 80 #[.val (.int p1), .val (.int p2), .val (.int p3), .val (.int y84), .val r93, .val (.ref c2)] []))
          refine own_on (fun t => XS.aload X106.here hx rfl (hb hby at_80) rfl ir93) ?_
          show own_Fin p e below _ (T106.setTop (mkF m 82 #[.val (.int p1), .val (.int p2), .val (.int p3), .val (.int y84), .val r93, .val (.ref c2)] [r93]))
          refine own_on (fun t => XS.aload X106.here hx rfl (hb hby at_82) rfl rfl) ?_
          show own_Fin p e below _ (T106.setTop (mkF m 84 #[.val (.int p1), .val (.int p2), .val (.int p3), .val (.int y84), .val r93, .val (.ref c2)] [(.ref c2), r93]))
          have k107 : r93 = (.ref c2) := by rw [hr93]; simp [own_res, hc98, hc100, hc103]
          refine own_on (fun t => Jvm.RoadKit.acmp (g := (mkF m 84 #[.val (.int p1), .val (.int p2), .val (.int p3), .val (.int y84), .val r93, .val (.ref c2)] [(.ref c2), r93])) X106 hx rfl ir93 rfl (pc0 := 84) (pc' := 87) (same := true) rfl (hb hby at_84) rfl (decide_eq_true k107) (by decide) (by decide)) ?_
          show own_Fin p e below _ (T106.setTop (mkF m 87 #[.val (.int p1), .val (.int p2), .val (.int p3), .val (.int y84), .val r93, .val (.ref c2)] []))
          refine own_on (fun t => XS.iconst X106.here hx rfl (hb hby at_87)) ?_
          show own_Fin p e below _ (T106.setTop (mkF m 88 #[.val (.int p1), .val (.int p2), .val (.int p3), .val (.int y84), .val r93, .val (.ref c2)] [(.int (1 : Int32))]))
          refine own_on (fun t => XS.goto X106.here hx rfl (pc0 := 88) (pc' := 92) rfl (hb hby at_88) (by decide) (by decide)) ?_
          show own_Fin p e below _ (T106.setTop (mkF m 92 #[.val (.int p1), .val (.int p2), .val (.int p3), .val (.int y84), .val r93, .val (.ref c2)] [(.int (1 : Int32))]))
          exact own_ret (t := .boolean) X106 hx hlk hret rfl (Or.inl ⟨rfl, (by simp), _, rfl⟩) (hb hby at_92) (⟨rfl, N92⟩) (by decide) (by decide)
set_option maxRecDepth 65536 in
set_option maxHeartbeats 40000000 in
theorem comes_1 {Post : Tables → Env → Array Value → State → Outcome → State → Prop} (hpost : ∀ tb e args s v u, (limb_1_1.after args s (.returned v) u = true ∧ limb_1_2.after args s (.returned v) u = true ∧ True) → FrameEnd s (.returned v) u (Jvm.fieldLocs frame_1_writes args s ++ Jvm.arrayLocs frame_1_arrays args s ++ Jvm.staticLocs frame_1_statics s) 16 128 → Post tb e args s (.returned v) u) :
    ArmFor flags0 classFile x code maxLocals ret World_1 tables_1 room_1 Calls_1 rest_1 Pre_1 Post := by
  intro l hfl _ _ p e ha hc hk s m args below hf hA hF happ hP
  obtain ⟨hcalls, hrest, hpre⟩ := hP
  obtain ⟨-, -, -, hnamed, -, -, -, hat⟩ := (Spec.applies_iff hf).mp happ
  obtain ⟨hg, hn⟩ := and_e (Cond.before_iff.mp (show (Jvm.Cond.and given_1 narrow_1).before args s = true from hpre))
  obtain ⟨ga0l, ga0r⟩ := and_e hg
  obtain ⟨ga1l, ga1r⟩ := and_e ga0r
  obtain ⟨ga2l, ga2r⟩ := and_e ga1r
  obtain ⟨na0l, na0r⟩ := and_e hn
  obtain ⟨na1l, na1r⟩ := and_e na0r
  obtain ⟨na2l, na2r⟩ := and_e na1r
  obtain ⟨na3l, na3r⟩ := and_e na2r
  obtain ⟨na4l, na4r⟩ := and_e na3r
  obtain ⟨na5l, na5r⟩ := and_e na4r
  obtain ⟨na6l, na6r⟩ := and_e na5r
  obtain ⟨na7l, na7r⟩ := and_e na6r
  obtain ⟨na8l, na8r⟩ := and_e na7r
  obtain ⟨na9l, na9r⟩ := and_e na8r
  obtain ⟨na10l, na10r⟩ := and_e na9r
  obtain ⟨na11l, na11r⟩ := and_e na10r
  obtain ⟨na12l, na12r⟩ := and_e na11r
  obtain ⟨na13l, na13r⟩ := and_e na12r
  obtain ⟨w0, w1, w2, rfl⟩ : ∃ w0 w1 w2 : Value, args = #[w0, w1, w2] := by
    have hs : args.size = 3 := by simpa [Cond.value, given_1] using ga0l
    obtain ⟨L⟩ := args
    match L, hs with
    | [w0, w1, w2], _ => exact ⟨w0, w1, w2, rfl⟩
  have hw := fun d (hd : d ∈ tables_1) => atoms_spec (ws := Jvm.Cond.code x code maxLocals ret :: tables_1) hat d (List.mem_cons_of_mem _ hd)
  have hfit : Fit s := fun {y c} hc i hi => by
    obtain ⟨ha, rfl⟩ := Array.getElem?_eq_some_iff.mp hc
    have q := List.all_eq_true.mp ((Array.all_eq_true_iff_forall_mem.mp hF) _ (Array.getElem_mem ha)) i (List.mem_range.mpr hi)
    simpa [Array.getElem?_eq_getElem hi] using q
  obtain ⟨i0, ei0⟩ := is_v ga1l
  obtain rfl : w0 = (.int i0) := Option.some.inj ei0
  obtain ⟨i1, ei1⟩ := is_v ga2l
  obtain rfl : w1 = (.int i1) := Option.some.inj ei1
  obtain ⟨i2, ei2⟩ := is_v ga2r
  obtain rfl : w2 = (.int i2) := Option.some.inj ei2
  obtain ⟨a_PerformancePaymentRate__VALUES, ev_PerformancePaymentRate__VALUES⟩ := exa_v na1l
  have E_PerformancePaymentRate__VALUES := Exa.start ev_PerformancePaymentRate__VALUES na1l
  have S_PerformancePaymentRate__VALUES := Sta.start ev_PerformancePaymentRate__VALUES (Or.inr ⟨(hw _ (List.mem_of_getElem? (i := 18) rfl)), (hw _ (List.mem_of_getElem? (i := 24) rfl))⟩)
  obtain ⟨a_PerformancePaymentRate_FROM_2018_19, ev_PerformancePaymentRate_FROM_2018_19⟩ := exa_v na3l
  have E_PerformancePaymentRate_FROM_2018_19 := Exa.start ev_PerformancePaymentRate_FROM_2018_19 na3l
  have S_PerformancePaymentRate_FROM_2018_19 := Sta.start ev_PerformancePaymentRate_FROM_2018_19 (Or.inr ⟨(hw _ (List.mem_of_getElem? (i := 18) rfl)), (hw _ (List.mem_of_getElem? (i := 32) rfl))⟩)
  obtain ⟨a_PerformancePaymentRate_FROM_2021_22, ev_PerformancePaymentRate_FROM_2021_22⟩ := exa_v na5l
  have E_PerformancePaymentRate_FROM_2021_22 := Exa.start ev_PerformancePaymentRate_FROM_2021_22 na5l
  have S_PerformancePaymentRate_FROM_2021_22 := Sta.start ev_PerformancePaymentRate_FROM_2021_22 (Or.inr ⟨(hw _ (List.mem_of_getElem? (i := 18) rfl)), (hw _ (List.mem_of_getElem? (i := 33) rfl))⟩)
  obtain ⟨a_PerformancePaymentRate_FROM_2024_25, ev_PerformancePaymentRate_FROM_2024_25⟩ := exa_v na7l
  have E_PerformancePaymentRate_FROM_2024_25 := Exa.start ev_PerformancePaymentRate_FROM_2024_25 na7l
  have S_PerformancePaymentRate_FROM_2024_25 := Sta.start ev_PerformancePaymentRate_FROM_2024_25 (Or.inr ⟨(hw _ (List.mem_of_getElem? (i := 18) rfl)), (hw _ (List.mem_of_getElem? (i := 34) rfl))⟩)
  obtain ⟨cv, Av⟩ := Arr.start ev_PerformancePaymentRate__VALUES na0l
  have hs4 := eqv_i (Term.int_eval (3)) na2l
  have hsz := own_len ev_PerformancePaymentRate__VALUES (Av.fin (Vm.Alike.refl _)) hs4
  have el0 := (elem_in (own_eqx ev_PerformancePaymentRate_FROM_2018_19 na4l) ev_PerformancePaymentRate__VALUES (Term.int_eval (0)) Av.1).2
  have el1 := (elem_in (own_eqx ev_PerformancePaymentRate_FROM_2021_22 na6l) ev_PerformancePaymentRate__VALUES (Term.int_eval (1)) Av.1).2
  have el2 := (elem_in (own_eqx ev_PerformancePaymentRate_FROM_2024_25 na8l) ev_PerformancePaymentRate__VALUES (Term.int_eval (2)) Av.1).2
  have AV : Arv s s.heap a_PerformancePaymentRate__VALUES cv.cls (.object "com/example/settlewatt/settlewatt/rules/PerformancePaymentRate") (3 : Int32) [(.ref a_PerformancePaymentRate_FROM_2018_19), (.ref a_PerformancePaymentRate_FROM_2021_22), (.ref a_PerformancePaymentRate_FROM_2024_25)] .null := Arv.start hfit Av hsz.1 hsz.2 (by decide) rfl ⟨el0, el1, el2, trivial⟩
  obtain ⟨d0, ed0⟩ := exa_v na9l
  have Ed0 := Exa.start ed0 na9l
  have Fd0 := Fld.start ((fld_at ev_PerformancePaymentRate_FROM_2018_19).symm.trans ed0)
  have Yd0 := own_eqf ed0 na10l
  obtain ⟨d1, ed1⟩ := exa_v na11l
  have Ed1 := Exa.start ed1 na11l
  have Fd1 := Fld.start ((fld_at ev_PerformancePaymentRate_FROM_2021_22).symm.trans ed1)
  have Yd1 := own_eqf ed1 na12l
  obtain ⟨d2, ed2⟩ := exa_v na13l
  have Ed2 := Exa.start ed2 na13l
  have Fd2 := Fld.start ((fld_at ev_PerformancePaymentRate_FROM_2024_25).symm.trans ed2)
  have Yd2 := own_eqf ed2 na13r
  obtain ⟨n, o, h1, h2, h3, _, L, rfl, ⟨rfl, N⟩, hq⟩ := rm0 l s _ hw tables_1 i0 i1 i2 a_PerformancePaymentRate__VALUES cv.cls a_PerformancePaymentRate_FROM_2018_19 a_PerformancePaymentRate_FROM_2021_22 a_PerformancePaymentRate_FROM_2024_25 d0 d1 d2 s.heap s.heap.size (Nat.le_refl _) (Old.start s) S_PerformancePaymentRate__VALUES AV E_PerformancePaymentRate__VALUES Fd0 Fd1 Fd2 Ed0 Ed1 Ed2 Yd0 Yd1 Yd2 S_PerformancePaymentRate_FROM_2018_19 S_PerformancePaymentRate_FROM_2021_22 S_PerformancePaymentRate_FROM_2024_25 p e ha hc hk s m _ below hf ((Spec.applies_iff_loose hf).mp happ).1 ⟨rfl, State.Warmed39.refl s, rfl⟩ trivial
  refine ⟨n, _, h1, h2, h3, hpost _ _ _ _ _ _ ⟨Cond.after_iff.mpr rfl, Cond.after_iff.mpr (eq_i res_at (Term.int_eval (1)) rfl), trivial⟩ ⟨hq.1, hq.2.1, (hq.2.2.sift fun y hy => Or.inr (N y hy)).mono (by decide) (by decide)⟩⟩
theorem main_1_1 : Claimed_1_1 := comes_1 fun _ _ _ _ _ _ h hF => ⟨h.1, hF⟩
theorem main_1_2 : Claimed_1_2 := comes_1 fun _ _ _ _ _ _ h hF => ⟨h.2.1, hF⟩
end Jvm.Pilot.@@N@@
namespace Jvm.Pilot.@@N@@
open Jvm Jvm.ClassFile Sem Op Lib Jvm.Free Jvm.Stand Jvm.Pilot.@@N@@.Jvm.D
/-! MADE BY PROGRAM (witnessworld.py) out of the Statement's table words and the real class files: 15 classes; the members and pool entries that the words name. The judged class is class 1, her method 1. -/
namespace start1
open Jvm.ClassFile
def u (s : String) : CpInfo := .utf8 (stringToUtf16 s)
/-- a pool by its gaps: so many unusable entries, then the entry; so many at the end -/
def gap : Nat → List CpInfo → List CpInfo
  | 0, r => r
  | n + 1, r => .unusable :: gap n r
def poolList (es : List (Nat × CpInfo)) (last : Nat) : List CpInfo := es.foldr (fun e r => gap e.1 (e.2 :: r)) (gap last [])
def pool (es : List (Nat × CpInfo)) (last : Nat) : Array CpInfo := ⟨poolList es last⟩
def fileOf (pool : Array CpInfo) (this : Nat) (attrs : Array Attribute := #[]) (ms : Array MethodInfo := #[]) (fl : Nat := 33) (sup : Nat := 0) (ifs : Array Nat := #[]) (fds : Array FieldInfo := #[]) : ClassFile where
  minorVersion := 0
  majorVersion := 65
  constantPool := pool
  accessFlags := fl
  thisClass := this
  superClass := sup
  interfaces := ifs
  fields := fds
  methods := ms
  attributes := attrs
def plain (name : String) (sup : Option ClassId) : Class where
  name := name
  kind := .ordinary
  loader := none
  accessFlags := 33
  super := sup
  interfaces := #[]
  cf := none
  fields := #[]
  methods := #[]
  instanceTypes := #[]
  staticTypes := #[]
  resolved := #[]
  callSites := []
  init := .initialized
  statics := none
  mirror := none

def pool0 : Array CpInfo := pool [(5, u "<init>"), (0, u "()V"), (1, .class_ 10), (1, u "java/lang/Object"), (85, u "clone"), (0, u "()Ljava/lang/Object;")] 26

def k0c0 : Code := { maxStack := 0, maxLocals := 1, code := object_method_1_code, exceptionTable := #[], attributes := #[] }
def k0m0 : Method := { name := "<init>", desc := "()V", sig := { parameters := [], returnType := none }, accessFlags := 1, code := some k0c0 }
def k0m1 : Method := { name := "clone", desc := "()Ljava/lang/Object;", sig := { parameters := [], returnType := some (.object "java/lang/Object") }, accessFlags := 260, code := none }
/-- java/lang/Object -/
def k0 : Class := { plain "java/lang/Object" none with
  accessFlags := 33
  interfaces := #[]
  cf := some (fileOf pool0 8 #[] #[{ accessFlags := 1, nameIndex := 5, descriptorIndex := 6, attributes := #[] }, { accessFlags := 260, nameIndex := 96, descriptorIndex := 97, attributes := #[] }] 33 0 #[] #[])
  fields := #[]
  methods := #[k0m0, k0m1]
  instanceTypes := #[]
  staticTypes := #[]
  resolved := Array.replicate 124 none
  statics := none }

def pool1 : Array CpInfo := pool [(2, .class_ 4), (1, u "java/lang/Object"), (0, u "<init>"), (0, u "()V"), (0, .class_ 8), (0, u "com/example/settlewatt/settlewatt/model/CommitmentPeriod"), (0, .methodref 7 10), (0, .nameAndType 5 11), (0, u "(I)V"), (0, .methodref 13 14), (0, .class_ 15), (0, .nameAndType 16 17), (0, u "com/example/settlewatt/settlewatt/rules/PerformancePaymentRate"), (0, u "of"), (0, u "(Lcom/example/settlewatt/settlewatt/model/CommitmentPeriod;)Lcom/example/settlewatt/settlewatt/rules/PerformancePaymentRate;"), (0, .fieldref 13 19), (0, .nameAndType 20 21), (0, u "FROM_2018_19"), (0, u "Lcom/example/settlewatt/settlewatt/rules/PerformancePaymentRate;"), (0, .fieldref 13 23), (0, .nameAndType 24 21), (0, u "FROM_2021_22"), (0, .fieldref 13 26), (0, .nameAndType 27 21), (0, u "FROM_2024_25"), (0, .class_ 29), (0, u "com/example/settlewatt/settlewatt/rules/PerformancePaymentRateOfPinLaw"), (2, u "law"), (0, u "(III)Z")] 3

def k1m0 : Method := { name := "<init>", desc := "()V", sig := { parameters := [], returnType := none }, accessFlags := 1, code := none }
def k1c1 : Code := { maxStack := 3, maxLocals := 6, code := code, exceptionTable := #[], attributes := #[] }
def k1m1 : Method := { name := "law", desc := "(III)Z", sig := { parameters := [.int, .int, .int], returnType := some .boolean }, accessFlags := 9, code := some k1c1 }
/-- com/example/settlewatt/settlewatt/rules/PerformancePaymentRateOfPinLaw -/
def k1 : Class := { plain "com/example/settlewatt/settlewatt/rules/PerformancePaymentRateOfPinLaw" (some 0) with
  accessFlags := 49
  interfaces := #[]
  cf := some (fileOf pool1 28 #[] #[{ accessFlags := 1, nameIndex := 5, descriptorIndex := 6, attributes := #[] }, { accessFlags := 9, nameIndex := 32, descriptorIndex := 33, attributes := #[] }] 49 2 #[] #[])
  fields := #[]
  methods := #[k1m0, k1m1]
  instanceTypes := #[]
  staticTypes := #[]
  resolved := Array.replicate 37 none
  statics := none }

def pool2 : Array CpInfo := pool [(1, .methodref 2 3), (0, .class_ 4), (0, .nameAndType 5 6), (0, u "java/lang/Object"), (0, u "<init>"), (0, u "()V"), (0, .class_ 8), (0, u "java/lang/Record")] 13

def k2c0 : Code := { maxStack := 1, maxLocals := 1, code := jdk_30_method_1_code, exceptionTable := #[], attributes := #[] }
def k2m0 : Method := { name := "<init>", desc := "()V", sig := { parameters := [], returnType := none }, accessFlags := 4, code := some k2c0 }
/-- java/lang/Record -/
def k2 : Class := { plain "java/lang/Record" (some 0) with
  accessFlags := 1057
  interfaces := #[]
  cf := some (fileOf pool2 7 #[] #[{ accessFlags := 4, nameIndex := 5, descriptorIndex := 6, attributes := #[] }] 1057 2 #[] #[])
  fields := #[]
  methods := #[k2m0]
  instanceTypes := #[]
  staticTypes := #[]
  resolved := Array.replicate 22 none
  statics := none }

def pool3 : Array CpInfo := pool [(1, .methodref 2 3), (0, .class_ 4), (0, .nameAndType 5 6), (0, u "java/lang/Record"), (0, u "<init>"), (0, u "()V"), (0, .fieldref 8 9), (0, .class_ 10), (0, .nameAndType 11 12), (0, u "com/example/settlewatt/settlewatt/model/CommitmentPeriod"), (0, u "firstYear"), (0, u "I"), (19, u "()I"), (2, u "(I)V")] 57

def k3c0 : Code := { maxStack := 2, maxLocals := 2, code := prog_5_method_1_code, exceptionTable := #[], attributes := #[] }
def k3m0 : Method := { name := "<init>", desc := "(I)V", sig := { parameters := [.int], returnType := none }, accessFlags := 1, code := some k3c0 }
def k3c1 : Code := { maxStack := 1, maxLocals := 1, code := prog_5_method_7_code, exceptionTable := #[], attributes := #[] }
def k3m1 : Method := { name := "firstYear", desc := "()I", sig := { parameters := [], returnType := some .int }, accessFlags := 1, code := some k3c1 }
/-- com/example/settlewatt/settlewatt/model/CommitmentPeriod -/
def k3 : Class := { plain "com/example/settlewatt/settlewatt/model/CommitmentPeriod" (some 2) with
  accessFlags := 49
  interfaces := #[]
  cf := some (fileOf pool3 8 #[] #[{ accessFlags := 1, nameIndex := 5, descriptorIndex := 35, attributes := #[] }, { accessFlags := 1, nameIndex := 11, descriptorIndex := 32, attributes := #[] }] 49 2 #[] #[{ accessFlags := 18, nameIndex := 11, descriptorIndex := 12, attributes := #[] }])
  fields := #[{ name := "firstYear", type := .int, accessFlags := 18, slot := 0, constantValue := 0 }]
  methods := #[k3m0, k3m1]
  instanceTypes := #[.int]
  staticTypes := #[]
  resolved := Array.replicate 93 none
  statics := none }

def pool4 : Array CpInfo := pool [(1, .class_ 2), (0, u "java/lang/constant/Constable"), (0, .class_ 4), (0, u "java/lang/Object")] 6

/-- java/lang/constant/Constable -/
def k4 : Class := { plain "java/lang/constant/Constable" (some 0) with
  accessFlags := 1537
  interfaces := #[]
  cf := some (fileOf pool4 1 #[] #[] 1537 3 #[] #[])
  fields := #[]
  methods := #[]
  instanceTypes := #[]
  staticTypes := #[]
  resolved := Array.replicate 11 none
  statics := none }

def pool5 : Array CpInfo := pool [(1, .class_ 2), (0, u "java/lang/Comparable"), (0, .class_ 4), (0, u "java/lang/Object")] 7

/-- java/lang/Comparable -/
def k5 : Class := { plain "java/lang/Comparable" (some 0) with
  accessFlags := 1537
  interfaces := #[]
  cf := some (fileOf pool5 1 #[] #[] 1537 3 #[] #[])
  fields := #[]
  methods := #[]
  instanceTypes := #[]
  staticTypes := #[]
  resolved := Array.replicate 12 none
  statics := none }

def pool6 : Array CpInfo := pool [(1, .class_ 2), (0, u "java/io/Serializable"), (0, .class_ 4), (0, u "java/lang/Object")] 2

/-- java/io/Serializable -/
def k6 : Class := { plain "java/io/Serializable" (some 0) with
  accessFlags := 1537
  interfaces := #[]
  cf := some (fileOf pool6 1 #[] #[] 1537 3 #[] #[])
  fields := #[]
  methods := #[]
  instanceTypes := #[]
  staticTypes := #[]
  resolved := Array.replicate 7 none
  statics := none }

def pool7 : Array CpInfo := pool [(2, .class_ 4), (1, u "java/lang/Enum"), (0, u "name"), (0, u "Ljava/lang/String;"), (2, u "ordinal"), (0, u "I"), (1, .class_ 14), (1, u "java/lang/Object"), (4, u "hash"), (86, .class_ 108), (1, u "java/lang/Enum$EnumDesc"), (2, .class_ 112), (0, u "java/lang/constant/Constable"), (0, .class_ 114), (0, u "java/lang/Comparable"), (0, .class_ 116), (0, u "java/io/Serializable")] 87

/-- java/lang/Enum -/
def k7 : Class := { plain "java/lang/Enum" (some 0) with
  accessFlags := 1057
  interfaces := #[4, 5, 6]
  cf := some (fileOf pool7 2 #[.nestMembers #[106]] #[] 1057 12 #[111, 113, 115] #[{ accessFlags := 18, nameIndex := 5, descriptorIndex := 6, attributes := #[] }, { accessFlags := 18, nameIndex := 9, descriptorIndex := 10, attributes := #[] }, { accessFlags := 2, nameIndex := 19, descriptorIndex := 10, attributes := #[] }])
  fields := #[{ name := "name", type := (.object "java/lang/String"), accessFlags := 18, slot := 0, constantValue := 0 }, { name := "ordinal", type := .int, accessFlags := 18, slot := 1, constantValue := 0 }, { name := "hash", type := .int, accessFlags := 2, slot := 2, constantValue := 0 }]
  methods := #[]
  instanceTypes := #[(.object "java/lang/String"), .int, .int]
  staticTypes := #[]
  resolved := Array.replicate 204 none
  statics := none }

def pool8 : Array CpInfo := pool [(1, .class_ 2), (0, u "com/example/settlewatt/settlewatt/rules/PerformancePaymentRate"), (2, u "FROM_2018_19"), (0, u "Lcom/example/settlewatt/settlewatt/rules/PerformancePaymentRate;"), (2, u "FROM_2021_22"), (2, u "FROM_2024_25"), (0, .fieldref 1 14), (0, .nameAndType 15 16), (0, u "$VALUES"), (0, u "[Lcom/example/settlewatt/settlewatt/rules/PerformancePaymentRate;"), (0, .methodref 18 19), (0, .class_ 16), (0, .nameAndType 20 21), (0, u "clone"), (0, u "()Ljava/lang/Object;"), (1, .class_ 25), (1, u "java/lang/Enum"), (6, .class_ 33), (0, u "com/example/settlewatt/settlewatt/model/CommitmentPeriod"), (3, .fieldref 1 38), (0, .nameAndType 39 40), (0, u "firstPeriod"), (0, u "Lcom/example/settlewatt/settlewatt/model/CommitmentPeriod;"), (7, u "dollarsPerMwh"), (0, u "Ljava/math/BigDecimal;"), (0, .methodref 1 51), (0, .nameAndType 52 53), (0, u "values"), (0, u "()[Lcom/example/settlewatt/settlewatt/rules/PerformancePaymentRate;"), (0, .methodref 32 55), (0, .nameAndType 56 57), (0, u "firstYear"), (0, u "()I"), (8, u "INTERVALS_PER_HOUR"), (0, u "I"), (8, u "FIVE_MINUTE_RATE"), (0, u "Lcom/example/settlewatt/settlewatt/model/Figure;"), (63, u "of"), (0, u "(Lcom/example/settlewatt/settlewatt/model/CommitmentPeriod;)Lcom/example/settlewatt/settlewatt/rules/PerformancePaymentRate;")] 24

def k8c0 : Code := { maxStack := 1, maxLocals := 0, code := prog_42_method_1_code, exceptionTable := #[], attributes := #[] }
def k8m0 : Method := { name := "values", desc := "()[Lcom/example/settlewatt/settlewatt/rules/PerformancePaymentRate;", sig := { parameters := [], returnType := some (.array (.object "com/example/settlewatt/settlewatt/rules/PerformancePaymentRate")) }, accessFlags := 9, code := some k8c0 }
def k8c1 : Code := { maxStack := 2, maxLocals := 6, code := prog_42_method_4_code, exceptionTable := #[], attributes := #[] }
def k8m1 : Method := { name := "of", desc := "(Lcom/example/settlewatt/settlewatt/model/CommitmentPeriod;)Lcom/example/settlewatt/settlewatt/rules/PerformancePaymentRate;", sig := { parameters := [(.object "com/example/settlewatt/settlewatt/model/CommitmentPeriod")], returnType := some (.object "com/example/settlewatt/settlewatt/rules/PerformancePaymentRate") }, accessFlags := 9, code := some k8c1 }
/-- com/example/settlewatt/settlewatt/rules/PerformancePaymentRate -/
def k8 : Class := { plain "com/example/settlewatt/settlewatt/rules/PerformancePaymentRate" (some 7) with
  accessFlags := 16433
  interfaces := #[]
  cf := some (fileOf pool8 1 #[] #[{ accessFlags := 9, nameIndex := 52, descriptorIndex := 53, attributes := #[] }, { accessFlags := 9, nameIndex := 141, descriptorIndex := 142, attributes := #[] }] 16433 23 #[] #[{ accessFlags := 16409, nameIndex := 5, descriptorIndex := 6, attributes := #[] }, { accessFlags := 16409, nameIndex := 9, descriptorIndex := 6, attributes := #[] }, { accessFlags := 16409, nameIndex := 12, descriptorIndex := 6, attributes := #[] }, { accessFlags := 26, nameIndex := 66, descriptorIndex := 67, attributes := #[] }, { accessFlags := 25, nameIndex := 76, descriptorIndex := 77, attributes := #[] }, { accessFlags := 18, nameIndex := 39, descriptorIndex := 40, attributes := #[] }, { accessFlags := 18, nameIndex := 48, descriptorIndex := 49, attributes := #[] }, { accessFlags := 4122, nameIndex := 15, descriptorIndex := 16, attributes := #[] }])
  fields := #[{ name := "FROM_2018_19", type := (.object "com/example/settlewatt/settlewatt/rules/PerformancePaymentRate"), accessFlags := 16409, slot := 0, constantValue := 0 }, { name := "FROM_2021_22", type := (.object "com/example/settlewatt/settlewatt/rules/PerformancePaymentRate"), accessFlags := 16409, slot := 1, constantValue := 0 }, { name := "FROM_2024_25", type := (.object "com/example/settlewatt/settlewatt/rules/PerformancePaymentRate"), accessFlags := 16409, slot := 2, constantValue := 0 }, { name := "INTERVALS_PER_HOUR", type := .int, accessFlags := 26, slot := 3, constantValue := 0 }, { name := "FIVE_MINUTE_RATE", type := (.object "com/example/settlewatt/settlewatt/model/Figure"), accessFlags := 25, slot := 4, constantValue := 0 }, { name := "firstPeriod", type := (.object "com/example/settlewatt/settlewatt/model/CommitmentPeriod"), accessFlags := 18, slot := 3, constantValue := 0 }, { name := "dollarsPerMwh", type := (.object "java/math/BigDecimal"), accessFlags := 18, slot := 4, constantValue := 0 }, { name := "$VALUES", type := (.array (.object "com/example/settlewatt/settlewatt/rules/PerformancePaymentRate")), accessFlags := 4122, slot := 5, constantValue := 0 }]
  methods := #[k8m0, k8m1]
  instanceTypes := #[(.object "java/lang/String"), .int, .int, (.object "com/example/settlewatt/settlewatt/model/CommitmentPeriod"), (.object "java/math/BigDecimal")]
  staticTypes := #[(.object "com/example/settlewatt/settlewatt/rules/PerformancePaymentRate"), (.object "com/example/settlewatt/settlewatt/rules/PerformancePaymentRate"), (.object "com/example/settlewatt/settlewatt/rules/PerformancePaymentRate"), .int, (.object "com/example/settlewatt/settlewatt/model/Figure"), (.array (.object "com/example/settlewatt/settlewatt/rules/PerformancePaymentRate"))]
  resolved := Array.replicate 167 none
  statics := some 0 }

def pool9 : Array CpInfo := pool [(1, .class_ 2), (0, u "java/lang/Cloneable"), (0, .class_ 4), (0, u "java/lang/Object")] 2

/-- java/lang/Cloneable -/
def k9 : Class := { plain "java/lang/Cloneable" (some 0) with
  accessFlags := 1537
  interfaces := #[]
  cf := some (fileOf pool9 1 #[] #[] 1537 3 #[] #[])
  fields := #[]
  methods := #[]
  instanceTypes := #[]
  staticTypes := #[]
  resolved := Array.replicate 7 none
  statics := none }

/-- the primitive byte -/
def k10 : Class := { plain "byte" none with kind := .primitive 'B', accessFlags := 0x411 }
/-- [B -/
def k11 : Class := { plain "[B" (some 0) with kind := .array 10 .byte, interfaces := #[9, 6], accessFlags := 1041 }

/-- the primitive int -/
def k12 : Class := { plain "int" none with kind := .primitive 'I', accessFlags := 0x411 }
/-- [I -/
def k13 : Class := { plain "[I" (some 0) with kind := .array 12 .int, interfaces := #[9, 6], accessFlags := 1041 }

/-- [Lcom/example/settlewatt/settlewatt/rules/PerformancePaymentRate; -/
def k14 : Class := { plain "[Lcom/example/settlewatt/settlewatt/rules/PerformancePaymentRate;" (some 0) with kind := .array 8 (.object "com/example/settlewatt/settlewatt/rules/PerformancePaymentRate"), interfaces := #[9, 6], accessFlags := 1041 }

def heap : Heap := #[{ cls := 8, slots := #[.ref 2, .ref 3, .ref 4, .int 0, .null, .ref 1], vm := .statics 8 },
  { cls := 14, slots := #[.ref 2, .ref 3, .ref 4], vm := .none },
  { cls := 8, slots := #[.null, .int 0, .int 0, .ref 5, .null], vm := .none },
  { cls := 8, slots := #[.null, .int 1, .int 0, .ref 6, .null], vm := .none },
  { cls := 8, slots := #[.null, .int 2, .int 0, .ref 7, .null], vm := .none },
  { cls := 3, slots := #[.int 2018], vm := .none },
  { cls := 3, slots := #[.int 2021], vm := .none },
  { cls := 3, slots := #[.int 2024], vm := .none }]
def classes : Array Class := #[k0, k1, k2, k3, k4, k5, k6, k7, k8, k9, k10, k11, k12, k13, k14]
def interned : List (Array UInt16 × Addr) := []
def slotsUsed : Nat := 27
def theMethod : MethodId := ⟨1, 1⟩
def args0 : Array Value := #[.int 5, .int 5, .int 5]
def aboutOver (below : List Frame) : State where
  vm := { classes := classes, interned := interned.toArray }
  heap := heap
  slotsUsed := slotsUsed
  threads := #[{ frames := .invoking theMethod args0 :: below }]
def below0 : List Frame := [.native { method := ⟨0, 0⟩, args := #[] }]
def about1 : State := aboutOver below0
def p0 : Program := .bare "" "" ""
def e0 : Env := launch0.env 0 0 0
theorem w_frames : about1.frames = Frame.invoking theMethod args0 :: below0 := rfl
set_option maxRecDepth 65536 in
theorem w_args : argsFit about1.vm theMethod args0 = true := by decide +kernel
set_option maxRecDepth 65536 in
theorem w_heap : heapFits about1 = true := by decide +kernel
set_option maxRecDepth 65536 in
theorem w_runnable : about1.curStatus? = some .runnable := by decide +kernel
set_option maxRecDepth 65536 in
theorem w_alone : about1.alone = true := by decide +kernel
set_option maxRecDepth 65536 in
theorem w_named : about1.methodNamed? x = some theMethod := by decide +kernel
set_option maxRecDepth 65536 in
theorem w_hears : about1.hears theMethod below0 = true := by decide +kernel
set_option maxRecDepth 65536 in
theorem w_ripe : about1.ripe theMethod args0 below0 = true := by decide +kernel
theorem w_running : about1.status = .running := rfl
set_option maxRecDepth 65536 in
theorem w_room : about1.hasRoom e0.platform room_1 = true :=
  launch0.hasRoom_least _ room_1 (by decide +kernel) (by decide +kernel) (by decide +kernel) (by decide +kernel) (by decide +kernel) (by decide +kernel)
theorem allAtoms_all (ts : List Jvm.Cond) (a : Array Jvm.Value) (st : Jvm.State) : (allAtoms ts).before a st = ts.all (fun c => c.before a st) := by
  induction ts with
  | nil => rfl
  | cons c t ih =>
    show (Jvm.Cond.and c (allAtoms t)).before a st = _
    rw [Jvm.Cond.before_and, ih, List.all_cons]
def words1 : List Jvm.Cond := Jvm.Cond.code x code maxLocals ret :: tables_1
/-- a 'code' word, met by the world's own term for the bytes: nothing is compared byte by byte -/
theorem code_word {y : MethodName} {bytes : ByteArray} {mx : Nat} {rt : Option FieldType} {a : Array Value} {s : State} {m : MethodId} {meth : Method} {c : Code} (h1 : s.methodNamed? y = some m) (h2 : s.vm.method? m = some meth) (h3 : meth.code = some c) (h4 : c.code = bytes)
    (h5 : (c.maxLocals == mx && c.exceptionTable.isEmpty && decide (c.maxStack ≤ mostOperands) && decide (meth.sig.returnType = rt) && !meth.locks && decide (parseMethodDescriptor y.desc = some meth.sig)) = true) : (Jvm.Cond.code y bytes mx rt).before a s = true := by
  simp only [Bool.and_eq_true, beq_iff_eq, Bool.not_eq_true', decide_eq_true_eq] at h5
  obtain ⟨⟨⟨⟨⟨g1, g2⟩, g3⟩, g4⟩, g5⟩, g6⟩ := h5
  simp [Cond.before, Cond.holds, Cond.value, h1, h2, h3, h4, g1, g2, g3, g4, g5, g6]
def isCode : Jvm.Cond → Bool
  | .code _ _ _ _ => true
  | _ => false
theorem all_split {L : List Jvm.Cond} {P : Jvm.Cond → Bool} (h1 : L.all (fun c => isCode c || P c) = true) (h2 : ∀ c ∈ L.filter isCode, P c = true) : L.all P = true := by
  refine List.all_eq_true.mpr fun c hc => ?_
  have h := List.all_eq_true.mp h1 c hc
  rcases Bool.eq_false_or_eq_true (isCode c) with hi | hi
  · exact h2 c (List.mem_filter.mpr ⟨hc, hi⟩)
  · simpa [hi] using h
set_option maxRecDepth 65536 in
theorem w_c0 : (Jvm.Cond.code x code maxLocals ret).before args0 about1 = true := code_word (m := ⟨1, 1⟩) (meth := k1m1) (c := k1c1) (by decide +kernel) rfl rfl rfl (by decide +kernel)
set_option maxRecDepth 65536 in
theorem w_c1 : (Jvm.Cond.code ({ cls := "com/example/settlewatt/settlewatt/model/CommitmentPeriod", name := "<init>", desc := "(I)V" } : Jvm.MethodName) prog_5_method_1_code (2 : Nat) (Option.none : Option Jvm.ClassFile.FieldType)).before args0 about1 = true := code_word (m := ⟨3, 0⟩) (meth := k3m0) (c := k3c0) (by decide +kernel) rfl rfl rfl (by decide +kernel)
set_option maxRecDepth 65536 in
theorem w_c2 : (Jvm.Cond.code ({ cls := "java/lang/Record", name := "<init>", desc := "()V" } : Jvm.MethodName) jdk_30_method_1_code (1 : Nat) (Option.none : Option Jvm.ClassFile.FieldType)).before args0 about1 = true := code_word (m := ⟨2, 0⟩) (meth := k2m0) (c := k2c0) (by decide +kernel) rfl rfl rfl (by decide +kernel)
set_option maxRecDepth 65536 in
theorem w_c3 : (Jvm.Cond.code ({ cls := "java/lang/Object", name := "<init>", desc := "()V" } : Jvm.MethodName) object_method_1_code (1 : Nat) (Option.none : Option Jvm.ClassFile.FieldType)).before args0 about1 = true := code_word (m := ⟨0, 0⟩) (meth := k0m0) (c := k0c0) (by decide +kernel) rfl rfl rfl (by decide +kernel)
set_option maxRecDepth 65536 in
theorem w_c4 : (Jvm.Cond.code ({ cls := "com/example/settlewatt/settlewatt/rules/PerformancePaymentRate", name := "of", desc := "(Lcom/example/settlewatt/settlewatt/model/CommitmentPeriod;)Lcom/example/settlewatt/settlewatt/rules/PerformancePaymentRate;" } : Jvm.MethodName) prog_42_method_4_code (6 : Nat) (Option.some (Jvm.ClassFile.FieldType.object "com/example/settlewatt/settlewatt/rules/PerformancePaymentRate"))).before args0 about1 = true := code_word (m := ⟨8, 1⟩) (meth := k8m1) (c := k8c1) (by decide +kernel) rfl rfl rfl (by decide +kernel)
set_option maxRecDepth 65536 in
theorem w_c5 : (Jvm.Cond.code ({ cls := "com/example/settlewatt/settlewatt/rules/PerformancePaymentRate", name := "values", desc := "()[Lcom/example/settlewatt/settlewatt/rules/PerformancePaymentRate;" } : Jvm.MethodName) prog_42_method_1_code (0 : Nat) (Option.some (Jvm.ClassFile.FieldType.array (Jvm.ClassFile.FieldType.object "com/example/settlewatt/settlewatt/rules/PerformancePaymentRate")))).before args0 about1 = true := code_word (m := ⟨8, 0⟩) (meth := k8m0) (c := k8c0) (by decide +kernel) rfl rfl rfl (by decide +kernel)
set_option maxRecDepth 65536 in
theorem w_c6 : (Jvm.Cond.code ({ cls := "com/example/settlewatt/settlewatt/model/CommitmentPeriod", name := "firstYear", desc := "()I" } : Jvm.MethodName) prog_5_method_7_code (1 : Nat) (Option.some Jvm.ClassFile.FieldType.int)).before args0 about1 = true := code_word (m := ⟨3, 1⟩) (meth := k3m1) (c := k3c1) (by decide +kernel) rfl rfl rfl (by decide +kernel)
def codes1 : List Jvm.Cond := [Jvm.Cond.code x code maxLocals ret, Jvm.Cond.code ({ cls := "com/example/settlewatt/settlewatt/model/CommitmentPeriod", name := "<init>", desc := "(I)V" } : Jvm.MethodName) prog_5_method_1_code (2 : Nat) (Option.none : Option Jvm.ClassFile.FieldType), Jvm.Cond.code ({ cls := "java/lang/Record", name := "<init>", desc := "()V" } : Jvm.MethodName) jdk_30_method_1_code (1 : Nat) (Option.none : Option Jvm.ClassFile.FieldType), Jvm.Cond.code ({ cls := "java/lang/Object", name := "<init>", desc := "()V" } : Jvm.MethodName) object_method_1_code (1 : Nat) (Option.none : Option Jvm.ClassFile.FieldType), Jvm.Cond.code ({ cls := "com/example/settlewatt/settlewatt/rules/PerformancePaymentRate", name := "of", desc := "(Lcom/example/settlewatt/settlewatt/model/CommitmentPeriod;)Lcom/example/settlewatt/settlewatt/rules/PerformancePaymentRate;" } : Jvm.MethodName) prog_42_method_4_code (6 : Nat) (Option.some (Jvm.ClassFile.FieldType.object "com/example/settlewatt/settlewatt/rules/PerformancePaymentRate")), Jvm.Cond.code ({ cls := "com/example/settlewatt/settlewatt/rules/PerformancePaymentRate", name := "values", desc := "()[Lcom/example/settlewatt/settlewatt/rules/PerformancePaymentRate;" } : Jvm.MethodName) prog_42_method_1_code (0 : Nat) (Option.some (Jvm.ClassFile.FieldType.array (Jvm.ClassFile.FieldType.object "com/example/settlewatt/settlewatt/rules/PerformancePaymentRate"))), Jvm.Cond.code ({ cls := "com/example/settlewatt/settlewatt/model/CommitmentPeriod", name := "firstYear", desc := "()I" } : Jvm.MethodName) prog_5_method_7_code (1 : Nat) (Option.some Jvm.ClassFile.FieldType.int)]
set_option maxRecDepth 65536 in
theorem codes_eq : words1.filter isCode = codes1 := rfl
theorem w_codes : ∀ c ∈ words1.filter isCode, c.before args0 about1 = true := by
  rw [codes_eq]
  intro c hc
  simp only [codes1, List.mem_cons, List.not_mem_nil, or_false] at hc
  rcases hc with rfl | rfl | rfl | rfl | rfl | rfl | rfl
  · exact w_c0
  · exact w_c1
  · exact w_c2
  · exact w_c3
  · exact w_c4
  · exact w_c5
  · exact w_c6
set_option maxRecDepth 65536 in
theorem w_t1 : (words1.take 24).all (fun c => isCode c || c.before args0 about1) = true := by decide +kernel
set_option maxRecDepth 65536 in
theorem w_t2 : ((words1.drop 24).take 24).all (fun c => isCode c || c.before args0 about1) = true := by decide +kernel
set_option maxRecDepth 65536 in
theorem w_t3 : ((words1.drop 24).drop 24).all (fun c => isCode c || c.before args0 about1) = true := by decide +kernel
theorem w_tables : (allAtoms (Jvm.Cond.code x code maxLocals ret :: tables_1)).before args0 about1 = true := by
  rw [allAtoms_all]
  show words1.all (fun c => c.before args0 about1) = true
  refine all_split ?_ w_codes
  rw [← List.take_append_drop 24 words1, List.all_append, w_t1, ← List.take_append_drop 24 (words1.drop 24), List.all_append, w_t2, w_t3]
  rfl
set_option maxRecDepth 65536 in
theorem w_case : (Jvm.Cond.and given_1 narrow_1).before args0 about1 = true := by decide +kernel
theorem w_applies : (headSpec (Jvm.Cond.code x code maxLocals ret :: tables_1) room_1).applies x e0.platform about1 = true :=
  (Spec.applies_iff w_frames).mpr ⟨w_running, w_runnable, w_alone, w_named, w_hears, w_ripe, w_room, w_tables⟩
theorem atStart : AtStart classFile x code maxLocals ret World_1 tables_1 room_1 Calls_1 rest_1 Pre_1 launch0 p0 e0 about1 theMethod args0 below0 :=
  ⟨lists_1, trivial, launch0.admits_env _ _ _, launch0.least_env, fairChoices_fair.cas, fairChoices_fair.clock, w_frames, w_args, w_heap, w_applies, trivial, trivial, w_case⟩
end start1
theorem witness_1 : WitnessClaimed_1 := ⟨start1.p0, start1.e0, start1.about1, start1.theMethod, start1.args0, start1.below0, start1.atStart⟩
end Jvm.Pilot.@@N@@
