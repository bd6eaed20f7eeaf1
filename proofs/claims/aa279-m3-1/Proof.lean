import JvmDerived
import JvmDerived.Pilot.@@N@@Statement
import JvmDerived.Pilot.@@N@@Code
set_option linter.unusedVariables false
set_option linter.unusedSimpArgs false
namespace Jvm.Pilot.@@N@@
open Jvm Jvm.ClassFile Sem Op Lib Jvm.Free Jvm.Stand Jvm.LawKit Jvm.RoadKit Bundle Jvm.Pilot.@@N@@.Jvm.D
section Own
variable {p : Program} {l : Launch} {e : Env} {R : Room} {s : State} {m : MethodId} {args : Array Value} {below : List Frame} {meth : Method} {c : Code} {T : State} {locs : List Loc} {cells slots : Nat} {P : Outcome → State → Prop}
/-- from S the run comes to an end that answers -/
def own_Fin (p : Program) (e : Env) (below : List Frame) (P : Outcome → State → Prop) (S : State) : Prop := ∃ s₂ o, Steps p.tables e below S s₂ ∧ s₂.status = .running ∧ Ended s₂ below o ∧ P o s₂
def own_Ans (s : State) (Q : Option Value → Heap → List Loc → Prop) (k n : Nat) (o : Outcome) (t : State) : Prop := ∃ v L, o = .returned v ∧ Q v t.heap L ∧ FrameEnd s o t L k n
theorem own_on {A B : State} (k : ∀ t, Steps p.tables e below B t → Steps p.tables e below A t) (h : own_Fin p e below P B) : own_Fin p e below P A := by
  obtain ⟨s₂, o, h1, h2⟩ := h
  exact ⟨s₂, o, k _ h1, h2⟩
theorem own_via {A B : State} (k : Steps p.tables e below A B) (h : own_Fin p e below P B) : own_Fin p e below P A := own_on (fun _ r => k.trans r) h
theorem own_cast {g g' : JFrame} (q : g = g') (h : own_Fin p e below P (T.setTop g')) : own_Fin p e below P (T.setTop g) := q ▸ h
theorem own_ret {Q : Option Value → Heap → List Loc → Prop} {k n : Nat} (X : Stand p l e R s m args below meth c T locs cells slots) (hx : p.tables.exec = Jvm.exec) (hlk : meth.locks = false) {pc : Nat} {Ls : Array Slot} {w : Value} {t : FieldType} {i : Instr} {rest : List Value} (hret : meth.sig.returnType = some t) (hn : narrow t w = w)
    (hi : (i = .ireturn ∧ (t = .int ∨ t = .boolean ∨ t = .byte ∨ t = .char ∨ t = .short) ∧ ∃ z, w = .int z) ∨ (i = .lreturn ∧ t = .long ∧ ∃ z, w = .long z) ∨ (i = .dreturn ∧ t = .double ∧ ∃ z, w = .double z) ∨ (i = .freturn ∧ t = .float ∧ ∃ z, w = .float z) ∨ (i = .areturn ∧ t.isReference = true ∧ w.isRef = true))
    (hd : decode c.code pc = .ok (i, 1)) (hQ : Q (some w) T.heap locs) (hk : cells ≤ k) (hs : slots ≤ n) : own_Fin p e below (own_Ans s Q k n) (T.setTop (mkF m pc Ls (w :: rest))) := by
  obtain ⟨fs, hr, hrun, hended, hW, hsame⟩ := X.leave (v := some w) (fun h => by rw [hret] at h; cases h) hlk
  exact ⟨_, _, retOut X hx hret hn hi hd hr, hrun, hended, _, _, rfl, hQ, ⟨_, rfl⟩, hW, hsame.mono hk hs⟩
theorem own_retV {Q : Option Value → Heap → List Loc → Prop} {k n : Nat} (X : Stand p l e R s m args below meth c T locs cells slots) (hx : p.tables.exec = Jvm.exec) (hlk : meth.locks = false) {pc : Nat} {Ls : Array Slot} (hret : meth.sig.returnType = none)
    (hd : decode c.code pc = .ok (.return_, 1)) (hQ : Q none T.heap locs) (hk : cells ≤ k) (hs : slots ≤ n) : own_Fin p e below (own_Ans s Q k n) (T.setTop (mkF m pc Ls [])) := by
  obtain ⟨fs, hr, hrun, hended, hW, hsame⟩ := X.leave (v := none) (fun _ => rfl) hlk
  exact ⟨_, _, X.returnOut hx hret hd hr, hrun, hended, _, _, rfl, hQ, ⟨_, rfl⟩, hW, hsame.mono hk hs⟩
theorem own_b1 {P : Prop} [Decidable P] (h : P) : ¬ ((if P then (1 : Int32) else 0) = 0) := by simp [h]
theorem own_b0 {P : Prop} [Decidable P] (h : ¬ P) : (if P then (1 : Int32) else 0) = 0 := by simp [h]
theorem own_nb {P : Prop} [Decidable P] : narrow .boolean (.int (if P then (1 : Int32) else 0)) = .int (if P then (1 : Int32) else 0) := by split <;> rfl
theorem own_iI {t : FieldType} (h : t = .int ∨ t = .boolean ∨ t = .byte ∨ t = .char ∨ t = .short) {w : Value} {z : Int32} (hw : w = .int z) : ((Instr.ireturn = .ireturn ∧ (t = .int ∨ t = .boolean ∨ t = .byte ∨ t = .char ∨ t = .short) ∧ ∃ z, w = .int z) ∨ (Instr.ireturn = .lreturn ∧ t = .long ∧ ∃ z, w = .long z) ∨ (Instr.ireturn = .dreturn ∧ t = .double ∧ ∃ z, w = .double z) ∨ (Instr.ireturn = .freturn ∧ t = .float ∧ ∃ z, w = .float z) ∨ (Instr.ireturn = .areturn ∧ t.isReference = true ∧ w.isRef = true)) := Or.inl ⟨rfl, h, z, hw⟩
theorem own_ne_of {Z : State} {h : Heap} {x : Addr} (q : x < h.size) {b : Addr} (g : b = h.size) : x ≠ b := Nat.ne_of_lt (Nat.lt_of_lt_of_le q (Nat.le_of_eq g.symm))
theorem own_eqf {a0 : Array Value} {C n d : String} {t : Term} {a : Addr} {k : Int32} (ev : t.eval a0 s none [] s = some (.ref a)) (h : (Jvm.Cond.eq (.field t C n d) (.int k)).value a0 s none s [] = some true) : Fld s s.heap a C n d (.int k) := by
  obtain ⟨x, y, h1, h2, h3, -⟩ := cmp_v (Or.inl h)
  have hy : y = .int k := (Option.some.inj ((show (Term.int k).eval a0 s none [] s = some (.int k) from rfl).symm.trans h2)).symm
  subst hy
  cases x <;> simp [Kin, Value.isRef] at h3
  rename_i z
  have hz : z = k := by
    have q := h
    simp only [Cond.value, h1, show (Term.int k).eval a0 s none [] s = some (.int k) from rfl] at q
    simpa using q
  subst hz
  exact Fld.start ((fld_at ev).symm.trans h1)
theorem own_len {a0 : Array Value} {t : Term} {a : Addr} {cl : Cell} {z : Int32} (ht : t.eval a0 s none [] s = some (.ref a)) (ha : s.arrayAt? a = some cl) (h : (Term.length t).eval a0 s none [] s = some (.int z)) : cl.slots.size < 2 ^ 31 ∧ cl.slots.size.toInt32 = z := by
  by_cases hl : cl.slots.size < 2 ^ 31
  · rw [len_f ht ha hl] at h
    exact ⟨hl, by simpa using h⟩
  · have hl' : ¬ cl.slots.size < 2147483648 := hl
    simp [Term.eval, ht, ha, hl'] at h
theorem own_sub {a0 : Array Value} {t u : Term} {idx : List Nat} {x y : Int32} (h1 : t.eval a0 s none idx s = some (.int x)) (h2 : u.eval a0 s none idx s = some (.int y)) : (Term.sub t u).eval a0 s none idx s = some (.int (x - y)) := by simp [Term.eval, h1, h2]
theorem own_eqx {a0 : Array Value} {t u : Term} {b : Addr} (eu : u.eval a0 s none [] s = some (.ref b)) (h : (Jvm.Cond.eq t u).value a0 s none s [] = some true) : t.eval a0 s none [] s = some (.ref b) := by
  obtain ⟨x, y, h1, h2, h3, -⟩ := cmp_v (Or.inl h)
  cases eu.symm.trans h2
  have hr : x.isRef = true := by cases x <;> simp [Kin, Value.isRef] at h3 ⊢
  have q := gotT (eq_R h1 eu hr rfl) h
  subst q
  exact h1
theorem own_eqr {a0 : Array Value} {C n d : String} {t u : Term} {a b : Addr} (ev : t.eval a0 s none [] s = some (.ref a)) (eu : u.eval a0 s none [] s = some (.ref b)) (h : (Jvm.Cond.eq (.field t C n d) u).value a0 s none s [] = some true) : Fld s s.heap a C n d (.ref b) := by
  obtain ⟨x, y, h1, h2, h3, -⟩ := cmp_v (Or.inl h)
  cases eu.symm.trans h2
  have hr : x.isRef = true := by cases x <;> simp [Kin, Value.isRef] at h3 ⊢
  have q := gotT (eq_R h1 eu hr rfl) h
  subst q
  exact Fld.start ((fld_at ev).symm.trans h1)
end Own
theorem pn_0 : plainName "com/example/millrace/millrace/formats/CopybookItem$Kind" = true := by first | (simp [plainName, overriddenIn]; done) | decide +kernel
theorem d1_0 : decode prog_61_method_6_code 0 = .ok (.aload_n 0, 1) := by decide +kernel
theorem d1_1 : decode prog_61_method_6_code 1 = .ok (.getstatic 3, 3) := by decide +kernel
theorem d1_4 : decode prog_61_method_6_code 4 = .ok (.if_acmp .eq 7, 3) := by decide +kernel
theorem d1_11 : decode prog_61_method_6_code 11 = .ok (.iconst 0, 1) := by decide +kernel
theorem d1_12 : decode prog_61_method_6_code 12 = .ok (.ireturn, 1) := by decide +kernel
theorem d1_7 : decode prog_61_method_6_code 7 = .ok (.iconst 1, 1) := by decide +kernel
theorem d1_8 : decode prog_61_method_6_code 8 = .ok (.goto 4, 3) := by decide +kernel
theorem ef_rm1 (m : MethodId) (x0 : Addr) : entryFrame m #[(.ref x0)] 1 = mkF m 0 #[.val (.ref x0)] [] := by first | (simp [entryFrame, mkF, argsToLocals, Value.category]; done) | rfl
def Q1 (Z : State) (a1 : Addr) (aT : Addr) (b : Int32) (h0 : Heap) (n0 : Nat) (v : Option Value) (h : Heap) (L : List Loc) : Prop := v = some (.int b) ∧ Fr n0 L ∧ h = h0
set_option maxRecDepth 65536 in
set_option maxHeartbeats 40000000 in
theorem rm1 (l : Launch) (Z : State) (a0 : Array Value) (hw : ∀ d ∈ tables_1, d.before a0 Z = true) (ws : List Jvm.Cond) (a1 : Addr) (aT : Addr) (b : Int32) (h0 : Heap) (n0 : Nat) (Z0 : n0 ≤ h0.size) (sT : Sta Z h0 "com/example/millrace/millrace/formats/CopybookItem$Kind" "TEXT" "Lcom/example/millrace/millrace/formats/CopybookItem$Kind;" (.ref aT)) (hbb : b = if a1 = aT then (0 : Int32) else 1) :
    MetFree l (⟨"com/example/millrace/millrace/formats/CopybookItem$Kind", "numeric", "()Z"⟩ : MethodName) (head1 (Jvm.Cond.code (⟨"com/example/millrace/millrace/formats/CopybookItem$Kind", "numeric", "()Z"⟩ : MethodName) prog_61_method_6_code 1 (some .boolean) :: ws) ({ frames := 0, cells := 0, slots := 0, locals := 0 } : Room)) (fun as_ U => as_ = #[(.ref a1)] ∧ Z.Warmed39 U.vm ∧ U.heap = h0) (fun _ _ _ _ _ => True) (fun _ U out_ U' => ∃ v L, out_ = .returned v ∧ Q1 Z a1 aT b h0 n0 v U'.heap L ∧ FrameEnd U out_ U' L ({ frames := 0, cells := 0, slots := 0, locals := 0 } : Room).cells ({ frames := 0, cells := 0, slots := 0, locals := 0 } : Room).slots) := by
  refine MetFree.of_bodySF (plainFor_of_name pn_0) hisR ?_
  intro p e s m args below meth cd s₁ Bd hml0 hP hK
  obtain ⟨rfl, hZ, hh⟩ := hP
  have hx := Bd.exec
  have hby := Bd.bytes
  have hml : cd.maxLocals = 1 := hml0
  have hlk : meth.locks = false := BodyLoose.notSynchronized Bd
  have hown : s.vm.findClass "com/example/millrace/millrace/formats/CopybookItem$Kind" = some m.cls := findClass_of_methodNamed Bd.named
  have hnm := (name_of_methodNamed Bd.named Bd.method).1
  have hret := Bd.returns
  have X0 : Stand p l e ({ frames := 0, cells := 0, slots := 0, locals := 0 } : Room) s m #[(.ref a1)] below meth cd s₁ [] 0 0 := Stand.of_body Bd
  have e0 : s₁.heap = h0 := by rw [← hh, Bd.state]; rfl
  have N0 := Fr.nil n0
  show own_Fin p e below (own_Ans s (Q1 Z a1 aT b h0 n0) ({ frames := 0, cells := 0, slots := 0, locals := 0 } : Room).cells ({ frames := 0, cells := 0, slots := 0, locals := 0 } : Room).slots) (s₁.setTop (entryFrame m #[(.ref a1)] 1))
  refine own_cast (ef_rm1 m a1) ?_
  show own_Fin p e below _ (s₁.setTop (mkF m 0 #[.val (.ref a1)] []))
  refine own_on (fun t => XS.aloadN X0.here hx rfl (hb hby d1_0) rfl rfl) ?_
  show own_Fin p e below _ (s₁.setTop (mkF m 1 #[.val (.ref a1)] [(.ref a1)]))
  obtain ⟨T1, X1, e1, st1⟩ := getS2 X0 hx hZ hown (host := "") (Or.inl (hw _ (List.mem_of_getElem? (i := 8) rfl))) Via.refl e0 sT (g := (mkF m 1 #[.val (.ref a1)] [(.ref a1)])) rfl (hb hby d1_1)
  refine own_on st1 ?_
  show own_Fin p e below _ (T1.setTop (mkF m 4 #[.val (.ref a1)] [(.ref aT), (.ref a1)]))
  by_cases ha2 : a1 = aT
  · refine own_on (fun t => Jvm.RoadKit.acmp (g := (mkF m 4 #[.val (.ref a1)] [(.ref aT), (.ref a1)])) X1 hx rfl rfl rfl (pc0 := 4) (pc' := 11) (same := true) rfl (hb hby d1_4) rfl (decide_eq_true (congrArg Value.ref ha2)) (by decide) (by decide)) ?_
    show own_Fin p e below _ (T1.setTop (mkF m 11 #[.val (.ref a1)] []))
    refine own_on (fun t => XS.iconst X1.here hx rfl (hb hby d1_11)) ?_
    show own_Fin p e below _ (T1.setTop (mkF m 12 #[.val (.ref a1)] [(.int (0 : Int32))]))
    exact own_ret (t := .boolean) X1 hx hlk hret rfl (Or.inl ⟨rfl, (by simp), _, rfl⟩) (hb hby d1_12) (⟨by rw [hbb]; simp [ha2], N0, e1⟩) (by decide) (by decide)
  · refine own_on (fun t => Jvm.RoadKit.acmp (g := (mkF m 4 #[.val (.ref a1)] [(.ref aT), (.ref a1)])) X1 hx rfl rfl rfl (pc0 := 4) (pc' := 7) (same := false) rfl (hb hby d1_4) rfl (decide_eq_false fun q => ha2 (Value.ref.inj q)) (by decide) (by decide)) ?_
    show own_Fin p e below _ (T1.setTop (mkF m 7 #[.val (.ref a1)] []))
    refine own_on (fun t => XS.iconst X1.here hx rfl (hb hby d1_7)) ?_
    show own_Fin p e below _ (T1.setTop (mkF m 8 #[.val (.ref a1)] [(.int (1 : Int32))]))
    refine own_on (fun t => XS.goto X1.here hx rfl (pc0 := 8) (pc' := 12) rfl (hb hby d1_8) (by decide) (by decide)) ?_
    show own_Fin p e below _ (T1.setTop (mkF m 12 #[.val (.ref a1)] [(.int (1 : Int32))]))
    exact own_ret (t := .boolean) X1 hx hlk hret rfl (Or.inl ⟨rfl, (by simp), _, rfl⟩) (hb hby d1_12) (⟨by rw [hbb]; simp [ha2], N0, e1⟩) (by decide) (by decide)
theorem d2_0 : decode prog_61_method_5_code 0 = .ok (.aload_n 0, 1) := by decide +kernel
theorem d2_1 : decode prog_61_method_5_code 1 = .ok (.getfield 39, 3) := by decide +kernel
theorem d2_4 : decode prog_61_method_5_code 4 = .ok (.areturn, 1) := by decide +kernel
theorem ef_rm2 (m : MethodId) (x0 : Addr) : entryFrame m #[(.ref x0)] 1 = mkF m 0 #[.val (.ref x0)] [] := by first | (simp [entryFrame, mkF, argsToLocals, Value.category]; done) | rfl
def Q2 (Z : State) (a1 : Addr) (f : Addr) (h0 : Heap) (n0 : Nat) (v : Option Value) (h : Heap) (L : List Loc) : Prop := v = some (.ref f) ∧ Fr n0 L ∧ h = h0
set_option maxRecDepth 65536 in
set_option maxHeartbeats 40000000 in
theorem rm2 (l : Launch) (Z : State) (a0 : Array Value) (hw : ∀ d ∈ tables_1, d.before a0 Z = true) (ws : List Jvm.Cond) (a1 : Addr) (f : Addr) (h0 : Heap) (n0 : Nat) (Z0 : n0 ≤ h0.size) (F : Fld Z h0 a1 "com/example/millrace/millrace/formats/CopybookItem$Kind" "fieldType" "Lcom/example/millrace/millrace/engine/FieldType;" (.ref f)) :
    MetFree l (⟨"com/example/millrace/millrace/formats/CopybookItem$Kind", "fieldType", "()Lcom/example/millrace/millrace/engine/FieldType;"⟩ : MethodName) (head1 (Jvm.Cond.code (⟨"com/example/millrace/millrace/formats/CopybookItem$Kind", "fieldType", "()Lcom/example/millrace/millrace/engine/FieldType;"⟩ : MethodName) prog_61_method_5_code 1 (some (.object "com/example/millrace/millrace/engine/FieldType")) :: ws) ({ frames := 0, cells := 0, slots := 0, locals := 0 } : Room)) (fun as_ U => as_ = #[(.ref a1)] ∧ Z.Warmed39 U.vm ∧ U.heap = h0) (fun _ _ _ _ _ => True) (fun _ U out_ U' => ∃ v L, out_ = .returned v ∧ Q2 Z a1 f h0 n0 v U'.heap L ∧ FrameEnd U out_ U' L ({ frames := 0, cells := 0, slots := 0, locals := 0 } : Room).cells ({ frames := 0, cells := 0, slots := 0, locals := 0 } : Room).slots) := by
  refine MetFree.of_bodySF (plainFor_of_name pn_0) hisR ?_
  intro p e s m args below meth cd s₁ Bd hml0 hP hK
  obtain ⟨rfl, hZ, hh⟩ := hP
  have hx := Bd.exec
  have hby := Bd.bytes
  have hml : cd.maxLocals = 1 := hml0
  have hlk : meth.locks = false := BodyLoose.notSynchronized Bd
  have hown : s.vm.findClass "com/example/millrace/millrace/formats/CopybookItem$Kind" = some m.cls := findClass_of_methodNamed Bd.named
  have hnm := (name_of_methodNamed Bd.named Bd.method).1
  have hret := Bd.returns
  have X0 : Stand p l e ({ frames := 0, cells := 0, slots := 0, locals := 0 } : Room) s m #[(.ref a1)] below meth cd s₁ [] 0 0 := Stand.of_body Bd
  have e0 : s₁.heap = h0 := by rw [← hh, Bd.state]; rfl
  have N0 := Fr.nil n0
  show own_Fin p e below (own_Ans s (Q2 Z a1 f h0 n0) ({ frames := 0, cells := 0, slots := 0, locals := 0 } : Room).cells ({ frames := 0, cells := 0, slots := 0, locals := 0 } : Room).slots) (s₁.setTop (entryFrame m #[(.ref a1)] 1))
  refine own_cast (ef_rm2 m a1) ?_
  show own_Fin p e below _ (s₁.setTop (mkF m 0 #[.val (.ref a1)] []))
  refine own_on (fun t => XS.aloadN X0.here hx rfl (hb hby d2_0) rfl rfl) ?_
  show own_Fin p e below _ (s₁.setTop (mkF m 1 #[.val (.ref a1)] [(.ref a1)]))
  obtain ⟨T3, X3, e3, st3⟩ := getF X0 hx hZ hown (host := "") (Or.inl (hw _ (List.mem_of_getElem? (i := 14) rfl))) Via.refl e0 F (g := (mkF m 1 #[.val (.ref a1)] [(.ref a1)])) rfl rfl (hb hby d2_1)
  refine own_on st3 ?_
  show own_Fin p e below _ (T3.setTop (mkF m 4 #[.val (.ref a1)] [(.ref f)]))
  exact own_ret (t := (.object "com/example/millrace/millrace/engine/FieldType")) X3 hx hlk hret rfl (Or.inr (Or.inr (Or.inr (Or.inr ⟨rfl, rfl, rfl⟩)))) (hb hby d2_4) (⟨rfl, N0, e3⟩) (by decide) (by decide)
theorem pn_1 : plainName "com/example/millrace/millrace/formats/KindNumericPinLaw" = true := by first | (simp [plainName, overriddenIn]; done) | decide +kernel
theorem pd_0 : parseMethodDescriptor "()Z" = some ⟨[], some .boolean⟩ := by decide +kernel
theorem pd_1 : parseMethodDescriptor "()Lcom/example/millrace/millrace/engine/FieldType;" = some ⟨[], some (.object "com/example/millrace/millrace/engine/FieldType")⟩ := by decide +kernel
theorem ef_rm0 (m : MethodId) (x0 : Int32) : entryFrame m #[(.int x0)] maxLocals = mkF m 0 #[.val (.int x0), .unset, .unset, .unset, .unset] [] := by first | (simp [entryFrame, mkF, argsToLocals, Value.category, maxLocals]; done) | rfl
def Q0 (Z : State) (p1 : Int32) (aTEXT : Addr) (aZONED : Addr) (aPACKED : Addr) (aBINARY : Addr) (aS : Addr) (aD : Addr) (h0 : Heap) (n0 : Nat) (v : Option Value) (h : Heap) (L : List Loc) : Prop := v = some (.int 1) ∧ Fr n0 L
set_option maxRecDepth 65536 in
set_option maxHeartbeats 40000000 in
theorem rm0 (l : Launch) (Z : State) (a0 : Array Value) (hw : ∀ d ∈ tables_1, d.before a0 Z = true) (ws : List Jvm.Cond) (p1 : Int32) (aTEXT : Addr) (aZONED : Addr) (aPACKED : Addr) (aBINARY : Addr) (aS : Addr) (aD : Addr) (h0 : Heap) (n0 : Nat) (Z0 : n0 ≤ h0.size) (S_TEXT : Sta Z h0 "com/example/millrace/millrace/formats/CopybookItem$Kind" "TEXT" "Lcom/example/millrace/millrace/formats/CopybookItem$Kind;" (.ref aTEXT)) (S_ZONED : Sta Z h0 "com/example/millrace/millrace/formats/CopybookItem$Kind" "ZONED" "Lcom/example/millrace/millrace/formats/CopybookItem$Kind;" (.ref aZONED)) (S_PACKED : Sta Z h0 "com/example/millrace/millrace/formats/CopybookItem$Kind" "PACKED" "Lcom/example/millrace/millrace/formats/CopybookItem$Kind;" (.ref aPACKED)) (S_BINARY : Sta Z h0 "com/example/millrace/millrace/formats/CopybookItem$Kind" "BINARY" "Lcom/example/millrace/millrace/formats/CopybookItem$Kind;" (.ref aBINARY)) (S_D : Sta Z h0 "com/example/millrace/millrace/engine/FieldType" "DECIMAL" "Lcom/example/millrace/millrace/engine/FieldType;" (.ref aD)) (E_TEXT : Exa Z h0 aTEXT "com/example/millrace/millrace/formats/CopybookItem$Kind") (E_ZONED : Exa Z h0 aZONED "com/example/millrace/millrace/formats/CopybookItem$Kind") (E_PACKED : Exa Z h0 aPACKED "com/example/millrace/millrace/formats/CopybookItem$Kind") (E_BINARY : Exa Z h0 aBINARY "com/example/millrace/millrace/formats/CopybookItem$Kind") (F_TEXT : Fld Z h0 aTEXT "com/example/millrace/millrace/formats/CopybookItem$Kind" "fieldType" "Lcom/example/millrace/millrace/engine/FieldType;" (.ref aS)) (F_ZONED : Fld Z h0 aZONED "com/example/millrace/millrace/formats/CopybookItem$Kind" "fieldType" "Lcom/example/millrace/millrace/engine/FieldType;" (.ref aD)) (F_PACKED : Fld Z h0 aPACKED "com/example/millrace/millrace/formats/CopybookItem$Kind" "fieldType" "Lcom/example/millrace/millrace/engine/FieldType;" (.ref aD)) (F_BINARY : Fld Z h0 aBINARY "com/example/millrace/millrace/formats/CopybookItem$Kind" "fieldType" "Lcom/example/millrace/millrace/engine/FieldType;" (.ref aD)) (ne_ZONED : aZONED ≠ aTEXT) (ne_PACKED : aPACKED ≠ aTEXT) (ne_BINARY : aBINARY ≠ aTEXT) (neS : aS ≠ aD) :
    MetFree l x (head1 (Jvm.Cond.code x code maxLocals ret :: ws) room_1) (fun as_ U => as_ = #[(.int p1)] ∧ Z.Warmed39 U.vm ∧ U.heap = h0) (fun _ _ _ _ _ => True) (fun _ U out_ U' => ∃ v L, out_ = .returned v ∧ Q0 Z p1 aTEXT aZONED aPACKED aBINARY aS aD h0 n0 v U'.heap L ∧ FrameEnd U out_ U' L room_1.cells room_1.slots) := by
  refine MetFree.of_bodySF (plainFor_of_name pn_1) hisR ?_
  intro p e s m args below meth cd s₁ Bd hml0 hP hK
  obtain ⟨rfl, hZ, hh⟩ := hP
  have hx := Bd.exec
  have hby := Bd.bytes
  have hml : cd.maxLocals = 5 := hml0
  have hlk : meth.locks = false := BodyLoose.notSynchronized Bd
  have hown : s.vm.findClass "com/example/millrace/millrace/formats/KindNumericPinLaw" = some m.cls := findClass_of_methodNamed Bd.named
  have hnm := (name_of_methodNamed Bd.named Bd.method).1
  have hret := Bd.returns
  have X0 : Stand p l e room_1 s m #[(.int p1)] below meth cd s₁ [] 0 0 := Stand.of_body Bd
  have e0 : s₁.heap = h0 := by rw [← hh, Bd.state]; rfl
  have N0 := Fr.nil n0
  show own_Fin p e below (own_Ans s (Q0 Z p1 aTEXT aZONED aPACKED aBINARY aS aD h0 n0) room_1.cells room_1.slots) (s₁.setTop (entryFrame m #[(.int p1)] maxLocals))
  refine own_cast (ef_rm0 m p1) ?_
  show own_Fin p e below _ (s₁.setTop (mkF m 0 #[.val (.int p1), .unset, .unset, .unset, .unset] []))
  refine own_on (fun t => XS.iloadN X0.here hx rfl (hb hby at_0) rfl) ?_
  show own_Fin p e below _ (s₁.setTop (mkF m 1 #[.val (.int p1), .unset, .unset, .unset, .unset] [(.int p1)]))
  refine own_on (fun t => XS.iconst X0.here hx rfl (hb hby at_1)) ?_
  show own_Fin p e below _ (s₁.setTop (mkF m 2 #[.val (.int p1), .unset, .unset, .unset, .unset] [(.int (3 : Int32)), (.int p1)]))
  refine own_on (fun t => XS.iand X0.here hx rfl (hb hby at_2) rfl) ?_
  show own_Fin p e below _ (s₁.setTop (mkF m 3 #[.val (.int p1), .unset, .unset, .unset, .unset] [(.int (p1 &&& (3 : Int32)))]))
  refine own_on (fun t => XS.istoreN X0.here hx rfl (hb hby at_3) rfl (l' := #[.val (.int p1), .val (.int (p1 &&& (3 : Int32))), .unset, .unset, .unset]) rfl) ?_
  show own_Fin p e below _ (s₁.setTop (mkF m 4 #[.val (.int p1), .val (.int (p1 &&& (3 : Int32))), .unset, .unset, .unset] []))
  refine own_on (fun t => XS.iloadN X0.here hx rfl (hb hby at_4) rfl) ?_
  show own_Fin p e below _ (s₁.setTop (mkF m 5 #[.val (.int p1), .val (.int (p1 &&& (3 : Int32))), .unset, .unset, .unset] [(.int (p1 &&& (3 : Int32)))]))
  by_cases hc4 : (p1 &&& (3 : Int32)) = (0 : Int32)
  · refine own_on (fun t => XS.ifNo X0.here hx rfl (hb hby at_5) rfl ((if0 _ _).trans (teq hc4).2)) ?_
    show own_Fin p e below _ (s₁.setTop (mkF m 8 #[.val (.int p1), .val (.int (p1 &&& (3 : Int32))), .unset, .unset, .unset] []))
    obtain ⟨T5, X5, e5, st5⟩ := getS2 X0 hx hZ hown (host := "") (Or.inl (hw _ (List.mem_of_getElem? (i := 0) rfl))) Via.refl e0 S_TEXT (g := (mkF m 8 #[.val (.int p1), .val (.int (p1 &&& (3 : Int32))), .unset, .unset, .unset] [])) rfl (hb hby at_8)
    refine own_on st5 ?_
    show own_Fin p e below _ (T5.setTop (mkF m 11 #[.val (.int p1), .val (.int (p1 &&& (3 : Int32))), .unset, .unset, .unset] [(.ref aTEXT)]))
    refine own_on (fun t => XS.astoreN X5.here hx rfl (hb hby at_11) rfl rfl (l' := #[.val (.int p1), .val (.int (p1 &&& (3 : Int32))), .val (.ref aTEXT), .unset, .unset]) rfl) ?_
    show own_Fin p e below _ (T5.setTop (mkF m 12 #[.val (.int p1), .val (.int (p1 &&& (3 : Int32))), .val (.ref aTEXT), .unset, .unset] []))
    refine own_on (fun t => XS.iconst X5.here hx rfl (hb hby at_12)) ?_
    show own_Fin p e below _ (T5.setTop (mkF m 13 #[.val (.int p1), .val (.int (p1 &&& (3 : Int32))), .val (.ref aTEXT), .unset, .unset] [(.int (0 : Int32))]))
    refine own_on (fun t => XS.istoreN X5.here hx rfl (hb hby at_13) rfl (l' := #[.val (.int p1), .val (.int (p1 &&& (3 : Int32))), .val (.ref aTEXT), .val (.int (0 : Int32)), .unset]) rfl) ?_
    show own_Fin p e below _ (T5.setTop (mkF m 14 #[.val (.int p1), .val (.int (p1 &&& (3 : Int32))), .val (.ref aTEXT), .val (.int (0 : Int32)), .unset] []))
    refine own_on (fun t => XS.goto X5.here hx rfl (pc0 := 14) (pc' := 51) rfl (hb hby at_14) (by decide) (by decide)) ?_
    show own_Fin p e below _ (T5.setTop (mkF m 51 #[.val (.int p1), .val (.int (p1 &&& (3 : Int32))), .val (.ref aTEXT), .val (.int (0 : Int32)), .unset] []))
    refine own_on (fun t => XS.aloadN X5.here hx rfl (hb hby at_51) rfl rfl) ?_
    show own_Fin p e below _ (T5.setTop (mkF m 52 #[.val (.int p1), .val (.int (p1 &&& (3 : Int32))), .val (.ref aTEXT), .val (.int (0 : Int32)), .unset] [(.ref aTEXT)]))
    obtain ⟨cq6, kq6, q6a, q6b, q6c⟩ := isOf hZ e5 E_TEXT
    obtain ⟨_, _, ⟨T6, L6, k6, n6⟩, -, X6, ⟨Lc6, hQ6, l6, y6, z6⟩, st6⟩ := X5.virtualBack hx (y := (⟨"com/example/millrace/millrace/formats/CopybookItem$Kind", "numeric", "()Z"⟩ : MethodName)) (z := (⟨"com/example/millrace/millrace/formats/CopybookItem$Kind", "numeric", "()Z"⟩ : MethodName)) hown (mvT hZ (hw _ (List.mem_of_getElem? (i := 3) rfl))) (mvT hZ (hw _ (List.mem_of_getElem? (i := 4) rfl))) (notFace_of_selects (args := #[]) (mvT hZ (hw _ (List.mem_of_getElem? (i := 6) rfl)))) (mvT hZ (hw _ (List.mem_of_getElem? (i := 6) rfl))) (mvT hZ (hw _ (List.mem_of_getElem? (i := 5) rfl))) (by decide) (backOf (W := 0) (rm1 l Z a0 hw [] aTEXT aTEXT (0 : Int32) h0 n0 (by exact Z0) S_TEXT (by simp)) hZ (hw _ (List.mem_of_getElem? (i := 7) rfl)) (hw _ (List.mem_of_getElem? (i := 1) rfl)) (by decide) (by decide)) q6a q6c (g := (mkF m 52 #[.val (.int p1), .val (.int (p1 &&& (3 : Int32))), .val (.ref aTEXT), .val (.int (0 : Int32)), .unset] [(.ref aTEXT)])) rfl (by rw [hml]; rfl) (Steps.refl _) (argsL := []) (rest := []) (lenOf pd_0 rfl) rfl (by show 2 * 0 + _ ≤ _; exact Nat.le_of_eq rfl) (hb hby at_52) (fun _ _ => ⟨rfl, e5, (by decide : 0 + 0 ≤ _), (by decide : 0 + 0 ≤ _)⟩)
    dsimp only [Pt.U, Pt.locs, Pt.cells, Pt.slots] at X6 l6 y6 z6 st6 hQ6
    subst l6 y6 z6
    obtain ⟨rfl, N6q, e6⟩ := hQ6
    have N6 := Fr.app N0 N6q
    refine own_via st6 ?_
    show own_Fin p e below _ (T6.setTop (mkF m 55 #[.val (.int p1), .val (.int (p1 &&& (3 : Int32))), .val (.ref aTEXT), .val (.int (0 : Int32)), .unset] [(.int (0 : Int32))]))
    refine own_on (fun t => XS.istore X6.here hx rfl (hb hby at_55) rfl (l' := #[.val (.int p1), .val (.int (p1 &&& (3 : Int32))), .val (.ref aTEXT), .val (.int (0 : Int32)), .val (.int (0 : Int32))]) rfl) ?_
    show own_Fin p e below _ (T6.setTop (mkF m 57 #[.val (.int p1), .val (.int (p1 &&& (3 : Int32))), .val (.ref aTEXT), .val (.int (0 : Int32)), .val (.int (0 : Int32))] []))
    refine own_on (fun t => XS.iload X6.here hx rfl (hb hby at_57) rfl) ?_
    show own_Fin p e below _ (T6.setTop (mkF m 59 #[.val (.int p1), .val (.int (p1 &&& (3 : Int32))), .val (.ref aTEXT), .val (.int (0 : Int32)), .val (.int (0 : Int32))] [(.int (0 : Int32))]))
    refine own_on (fun t => XS.iloadN X6.here hx rfl (hb hby at_59) rfl) ?_
    show own_Fin p e below _ (T6.setTop (mkF m 60 #[.val (.int p1), .val (.int (p1 &&& (3 : Int32))), .val (.ref aTEXT), .val (.int (0 : Int32)), .val (.int (0 : Int32))] [(.int (0 : Int32)), (.int (0 : Int32))]))
    refine own_on (fun t => XS.icmpNo X6.here hx rfl (hb hby at_60) rfl (teq (by decide : (0 : Int32) = (0 : Int32))).2) ?_
    show own_Fin p e below _ (T6.setTop (mkF m 63 #[.val (.int p1), .val (.int (p1 &&& (3 : Int32))), .val (.ref aTEXT), .val (.int (0 : Int32)), .val (.int (0 : Int32))] []))
    refine own_on (fun t => XS.iload X6.here hx rfl (hb hby at_63) rfl) ?_
    show own_Fin p e below _ (T6.setTop (mkF m 65 #[.val (.int p1), .val (.int (p1 &&& (3 : Int32))), .val (.ref aTEXT), .val (.int (0 : Int32)), .val (.int (0 : Int32))] [(.int (0 : Int32))]))
    refine own_on (fun t => XS.aloadN X6.here hx rfl (hb hby at_65) rfl rfl) ?_
    show own_Fin p e below _ (T6.setTop (mkF m 66 #[.val (.int p1), .val (.int (p1 &&& (3 : Int32))), .val (.ref aTEXT), .val (.int (0 : Int32)), .val (.int (0 : Int32))] [(.ref aTEXT), (.int (0 : Int32))]))
    obtain ⟨cq7, kq7, q7a, q7b, q7c⟩ := isOf hZ e6 E_TEXT
    obtain ⟨_, _, ⟨T7, L7, k7, n7⟩, -, X7, ⟨Lc7, hQ7, l7, y7, z7⟩, st7⟩ := X6.virtualBack hx (y := (⟨"com/example/millrace/millrace/formats/CopybookItem$Kind", "fieldType", "()Lcom/example/millrace/millrace/engine/FieldType;"⟩ : MethodName)) (z := (⟨"com/example/millrace/millrace/formats/CopybookItem$Kind", "fieldType", "()Lcom/example/millrace/millrace/engine/FieldType;"⟩ : MethodName)) hown (mvT hZ (hw _ (List.mem_of_getElem? (i := 9) rfl))) (mvT hZ (hw _ (List.mem_of_getElem? (i := 10) rfl))) (notFace_of_selects (args := #[]) (mvT hZ (hw _ (List.mem_of_getElem? (i := 12) rfl)))) (mvT hZ (hw _ (List.mem_of_getElem? (i := 12) rfl))) (mvT hZ (hw _ (List.mem_of_getElem? (i := 11) rfl))) (by decide) (backOf (W := 1) (rm2 l Z a0 hw [] aTEXT aS h0 n0 (by exact Z0) F_TEXT) hZ (hw _ (List.mem_of_getElem? (i := 13) rfl)) (hw _ (List.mem_of_getElem? (i := 1) rfl)) (by decide) (by decide)) q7a q7c (g := (mkF m 66 #[.val (.int p1), .val (.int (p1 &&& (3 : Int32))), .val (.ref aTEXT), .val (.int (0 : Int32)), .val (.int (0 : Int32))] [(.ref aTEXT), (.int (0 : Int32))])) rfl (by rw [hml]; rfl) (Steps.refl _) (argsL := []) (rest := [(.int (0 : Int32))]) (lenOf pd_1 rfl) rfl (by show 2 * 0 + _ ≤ _; exact Nat.le_of_eq rfl) (hb hby at_66) (fun _ _ => ⟨rfl, e6, (by decide : 0 + 0 ≤ _), (by decide : 0 + 0 ≤ _)⟩)
    dsimp only [Pt.U, Pt.locs, Pt.cells, Pt.slots] at X7 l7 y7 z7 st7 hQ7
    subst l7 y7 z7
    obtain ⟨rfl, N7q, e7⟩ := hQ7
    have N7 := Fr.app N6 N7q
    refine own_via st7 ?_
    show own_Fin p e below _ (T7.setTop (mkF m 69 #[.val (.int p1), .val (.int (p1 &&& (3 : Int32))), .val (.ref aTEXT), .val (.int (0 : Int32)), .val (.int (0 : Int32))] [(.ref aS), (.int (0 : Int32))]))
    obtain ⟨T8, X8, e8, st8⟩ := getS2 X7 hx hZ hown (host := "") (Or.inl (hw _ (List.mem_of_getElem? (i := 18) rfl))) Via.refl e7 S_D (g := (mkF m 69 #[.val (.int p1), .val (.int (p1 &&& (3 : Int32))), .val (.ref aTEXT), .val (.int (0 : Int32)), .val (.int (0 : Int32))] [(.ref aS), (.int (0 : Int32))])) rfl (hb hby at_69)
    refine own_on st8 ?_
    show own_Fin p e below _ (T8.setTop (mkF m 72 #[.val (.int p1), .val (.int (p1 &&& (3 : Int32))), .val (.ref aTEXT), .val (.int (0 : Int32)), .val (.int (0 : Int32))] [(.ref aD), (.ref aS), (.int (0 : Int32))]))
    refine own_on (fun t => Jvm.RoadKit.acmp (g := (mkF m 72 #[.val (.int p1), .val (.int (p1 &&& (3 : Int32))), .val (.ref aTEXT), .val (.int (0 : Int32)), .val (.int (0 : Int32))] [(.ref aD), (.ref aS), (.int (0 : Int32))])) X8 hx rfl rfl rfl (pc0 := 72) (pc' := 79) (same := false) rfl (hb hby at_72) rfl (decide_eq_false fun q => neS (Value.ref.inj q)) (by decide) (by decide)) ?_
    show own_Fin p e below _ (T8.setTop (mkF m 79 #[.val (.int p1), .val (.int (p1 &&& (3 : Int32))), .val (.ref aTEXT), .val (.int (0 : Int32)), .val (.int (0 : Int32))] [(.int (0 : Int32))]))
    refine own_on (fun t => XS.iconst X8.here hx rfl (hb hby at_79)) ?_
    show own_Fin p e below _ (T8.setTop (mkF m 80 #[.val (.int p1), .val (.int (p1 &&& (3 : Int32))), .val (.ref aTEXT), .val (.int (0 : Int32)), .val (.int (0 : Int32))] [(.int (0 : Int32)), (.int (0 : Int32))]))
    refine own_on (fun t => XS.icmpNo X8.here hx rfl (hb hby at_80) rfl (teq (by decide : (0 : Int32) = (0 : Int32))).2) ?_
    show own_Fin p e below _ (T8.setTop (mkF m 83 #[.val (.int p1), .val (.int (p1 &&& (3 : Int32))), .val (.ref aTEXT), .val (.int (0 : Int32)), .val (.int (0 : Int32))] []))
    refine own_on (fun t => XS.iconst X8.here hx rfl (hb hby at_83)) ?_
    show own_Fin p e below _ (T8.setTop (mkF m 84 #[.val (.int p1), .val (.int (p1 &&& (3 : Int32))), .val (.ref aTEXT), .val (.int (0 : Int32)), .val (.int (0 : Int32))] [(.int (1 : Int32))]))
    refine own_on (fun t => XS.goto X8.here hx rfl (pc0 := 84) (pc' := 88) rfl (hb hby at_84) (by decide) (by decide)) ?_
    show own_Fin p e below _ (T8.setTop (mkF m 88 #[.val (.int p1), .val (.int (p1 &&& (3 : Int32))), .val (.ref aTEXT), .val (.int (0 : Int32)), .val (.int (0 : Int32))] [(.int (1 : Int32))]))
    exact own_ret (t := .boolean) X8 hx hlk hret rfl (Or.inl ⟨rfl, (by simp), _, rfl⟩) (hb hby at_88) (⟨rfl, N7⟩) (by decide) (by decide)
  · refine own_on (fun t => XS.ifYes X0.here hx rfl (pc0 := 5) (pc' := 17) rfl (hb hby at_5) rfl ((if0 _ _).trans (feq hc4).2) (by decide) (by decide)) ?_
    show own_Fin p e below _ (s₁.setTop (mkF m 17 #[.val (.int p1), .val (.int (p1 &&& (3 : Int32))), .unset, .unset, .unset] []))
    refine own_on (fun t => XS.iloadN X0.here hx rfl (hb hby at_17) rfl) ?_
    show own_Fin p e below _ (s₁.setTop (mkF m 18 #[.val (.int p1), .val (.int (p1 &&& (3 : Int32))), .unset, .unset, .unset] [(.int (p1 &&& (3 : Int32)))]))
    refine own_on (fun t => XS.iconst X0.here hx rfl (hb hby at_18)) ?_
    show own_Fin p e below _ (s₁.setTop (mkF m 19 #[.val (.int p1), .val (.int (p1 &&& (3 : Int32))), .unset, .unset, .unset] [(.int (1 : Int32)), (.int (p1 &&& (3 : Int32)))]))
    by_cases hc9 : (p1 &&& (3 : Int32)) = (1 : Int32)
    · refine own_on (fun t => XS.icmpNo X0.here hx rfl (hb hby at_19) rfl (teq hc9).2) ?_
      show own_Fin p e below _ (s₁.setTop (mkF m 22 #[.val (.int p1), .val (.int (p1 &&& (3 : Int32))), .unset, .unset, .unset] []))
      obtain ⟨T10, X10, e10, st10⟩ := getS2 X0 hx hZ hown (host := "") (Or.inl (hw _ (List.mem_of_getElem? (i := 24) rfl))) Via.refl e0 S_ZONED (g := (mkF m 22 #[.val (.int p1), .val (.int (p1 &&& (3 : Int32))), .unset, .unset, .unset] [])) rfl (hb hby at_22)
      refine own_on st10 ?_
      show own_Fin p e below _ (T10.setTop (mkF m 25 #[.val (.int p1), .val (.int (p1 &&& (3 : Int32))), .unset, .unset, .unset] [(.ref aZONED)]))
      refine own_on (fun t => XS.astoreN X10.here hx rfl (hb hby at_25) rfl rfl (l' := #[.val (.int p1), .val (.int (p1 &&& (3 : Int32))), .val (.ref aZONED), .unset, .unset]) rfl) ?_
      show own_Fin p e below _ (T10.setTop (mkF m 26 #[.val (.int p1), .val (.int (p1 &&& (3 : Int32))), .val (.ref aZONED), .unset, .unset] []))
      refine own_on (fun t => XS.iconst X10.here hx rfl (hb hby at_26)) ?_
      show own_Fin p e below _ (T10.setTop (mkF m 27 #[.val (.int p1), .val (.int (p1 &&& (3 : Int32))), .val (.ref aZONED), .unset, .unset] [(.int (1 : Int32))]))
      refine own_on (fun t => XS.istoreN X10.here hx rfl (hb hby at_27) rfl (l' := #[.val (.int p1), .val (.int (p1 &&& (3 : Int32))), .val (.ref aZONED), .val (.int (1 : Int32)), .unset]) rfl) ?_
      show own_Fin p e below _ (T10.setTop (mkF m 28 #[.val (.int p1), .val (.int (p1 &&& (3 : Int32))), .val (.ref aZONED), .val (.int (1 : Int32)), .unset] []))
      refine own_on (fun t => XS.goto X10.here hx rfl (pc0 := 28) (pc' := 51) rfl (hb hby at_28) (by decide) (by decide)) ?_
      show own_Fin p e below _ (T10.setTop (mkF m 51 #[.val (.int p1), .val (.int (p1 &&& (3 : Int32))), .val (.ref aZONED), .val (.int (1 : Int32)), .unset] []))
      refine own_on (fun t => XS.aloadN X10.here hx rfl (hb hby at_51) rfl rfl) ?_
      show own_Fin p e below _ (T10.setTop (mkF m 52 #[.val (.int p1), .val (.int (p1 &&& (3 : Int32))), .val (.ref aZONED), .val (.int (1 : Int32)), .unset] [(.ref aZONED)]))
      obtain ⟨cq11, kq11, q11a, q11b, q11c⟩ := isOf hZ e10 E_ZONED
      obtain ⟨_, _, ⟨T11, L11, k11, n11⟩, -, X11, ⟨Lc11, hQ11, l11, y11, z11⟩, st11⟩ := X10.virtualBack hx (y := (⟨"com/example/millrace/millrace/formats/CopybookItem$Kind", "numeric", "()Z"⟩ : MethodName)) (z := (⟨"com/example/millrace/millrace/formats/CopybookItem$Kind", "numeric", "()Z"⟩ : MethodName)) hown (mvT hZ (hw _ (List.mem_of_getElem? (i := 3) rfl))) (mvT hZ (hw _ (List.mem_of_getElem? (i := 4) rfl))) (notFace_of_selects (args := #[]) (mvT hZ (hw _ (List.mem_of_getElem? (i := 6) rfl)))) (mvT hZ (hw _ (List.mem_of_getElem? (i := 6) rfl))) (mvT hZ (hw _ (List.mem_of_getElem? (i := 5) rfl))) (by decide) (backOf (W := 0) (rm1 l Z a0 hw [] aZONED aTEXT (1 : Int32) h0 n0 (by exact Z0) S_TEXT (by simp [ne_ZONED])) hZ (hw _ (List.mem_of_getElem? (i := 7) rfl)) (hw _ (List.mem_of_getElem? (i := 1) rfl)) (by decide) (by decide)) q11a q11c (g := (mkF m 52 #[.val (.int p1), .val (.int (p1 &&& (3 : Int32))), .val (.ref aZONED), .val (.int (1 : Int32)), .unset] [(.ref aZONED)])) rfl (by rw [hml]; rfl) (Steps.refl _) (argsL := []) (rest := []) (lenOf pd_0 rfl) rfl (by show 2 * 0 + _ ≤ _; exact Nat.le_of_eq rfl) (hb hby at_52) (fun _ _ => ⟨rfl, e10, (by decide : 0 + 0 ≤ _), (by decide : 0 + 0 ≤ _)⟩)
      dsimp only [Pt.U, Pt.locs, Pt.cells, Pt.slots] at X11 l11 y11 z11 st11 hQ11
      subst l11 y11 z11
      obtain ⟨rfl, N11q, e11⟩ := hQ11
      have N11 := Fr.app N0 N11q
      refine own_via st11 ?_
      show own_Fin p e below _ (T11.setTop (mkF m 55 #[.val (.int p1), .val (.int (p1 &&& (3 : Int32))), .val (.ref aZONED), .val (.int (1 : Int32)), .unset] [(.int (1 : Int32))]))
      refine own_on (fun t => XS.istore X11.here hx rfl (hb hby at_55) rfl (l' := #[.val (.int p1), .val (.int (p1 &&& (3 : Int32))), .val (.ref aZONED), .val (.int (1 : Int32)), .val (.int (1 : Int32))]) rfl) ?_
      show own_Fin p e below _ (T11.setTop (mkF m 57 #[.val (.int p1), .val (.int (p1 &&& (3 : Int32))), .val (.ref aZONED), .val (.int (1 : Int32)), .val (.int (1 : Int32))] []))
      refine own_on (fun t => XS.iload X11.here hx rfl (hb hby at_57) rfl) ?_
      show own_Fin p e below _ (T11.setTop (mkF m 59 #[.val (.int p1), .val (.int (p1 &&& (3 : Int32))), .val (.ref aZONED), .val (.int (1 : Int32)), .val (.int (1 : Int32))] [(.int (1 : Int32))]))
      refine own_on (fun t => XS.iloadN X11.here hx rfl (hb hby at_59) rfl) ?_
      show own_Fin p e below _ (T11.setTop (mkF m 60 #[.val (.int p1), .val (.int (p1 &&& (3 : Int32))), .val (.ref aZONED), .val (.int (1 : Int32)), .val (.int (1 : Int32))] [(.int (1 : Int32)), (.int (1 : Int32))]))
      refine own_on (fun t => XS.icmpNo X11.here hx rfl (hb hby at_60) rfl (teq (by decide : (1 : Int32) = (1 : Int32))).2) ?_
      show own_Fin p e below _ (T11.setTop (mkF m 63 #[.val (.int p1), .val (.int (p1 &&& (3 : Int32))), .val (.ref aZONED), .val (.int (1 : Int32)), .val (.int (1 : Int32))] []))
      refine own_on (fun t => XS.iload X11.here hx rfl (hb hby at_63) rfl) ?_
      show own_Fin p e below _ (T11.setTop (mkF m 65 #[.val (.int p1), .val (.int (p1 &&& (3 : Int32))), .val (.ref aZONED), .val (.int (1 : Int32)), .val (.int (1 : Int32))] [(.int (1 : Int32))]))
      refine own_on (fun t => XS.aloadN X11.here hx rfl (hb hby at_65) rfl rfl) ?_
      show own_Fin p e below _ (T11.setTop (mkF m 66 #[.val (.int p1), .val (.int (p1 &&& (3 : Int32))), .val (.ref aZONED), .val (.int (1 : Int32)), .val (.int (1 : Int32))] [(.ref aZONED), (.int (1 : Int32))]))
      obtain ⟨cq12, kq12, q12a, q12b, q12c⟩ := isOf hZ e11 E_ZONED
      obtain ⟨_, _, ⟨T12, L12, k12, n12⟩, -, X12, ⟨Lc12, hQ12, l12, y12, z12⟩, st12⟩ := X11.virtualBack hx (y := (⟨"com/example/millrace/millrace/formats/CopybookItem$Kind", "fieldType", "()Lcom/example/millrace/millrace/engine/FieldType;"⟩ : MethodName)) (z := (⟨"com/example/millrace/millrace/formats/CopybookItem$Kind", "fieldType", "()Lcom/example/millrace/millrace/engine/FieldType;"⟩ : MethodName)) hown (mvT hZ (hw _ (List.mem_of_getElem? (i := 9) rfl))) (mvT hZ (hw _ (List.mem_of_getElem? (i := 10) rfl))) (notFace_of_selects (args := #[]) (mvT hZ (hw _ (List.mem_of_getElem? (i := 12) rfl)))) (mvT hZ (hw _ (List.mem_of_getElem? (i := 12) rfl))) (mvT hZ (hw _ (List.mem_of_getElem? (i := 11) rfl))) (by decide) (backOf (W := 1) (rm2 l Z a0 hw [] aZONED aD h0 n0 (by exact Z0) F_ZONED) hZ (hw _ (List.mem_of_getElem? (i := 13) rfl)) (hw _ (List.mem_of_getElem? (i := 1) rfl)) (by decide) (by decide)) q12a q12c (g := (mkF m 66 #[.val (.int p1), .val (.int (p1 &&& (3 : Int32))), .val (.ref aZONED), .val (.int (1 : Int32)), .val (.int (1 : Int32))] [(.ref aZONED), (.int (1 : Int32))])) rfl (by rw [hml]; rfl) (Steps.refl _) (argsL := []) (rest := [(.int (1 : Int32))]) (lenOf pd_1 rfl) rfl (by show 2 * 0 + _ ≤ _; exact Nat.le_of_eq rfl) (hb hby at_66) (fun _ _ => ⟨rfl, e11, (by decide : 0 + 0 ≤ _), (by decide : 0 + 0 ≤ _)⟩)
      dsimp only [Pt.U, Pt.locs, Pt.cells, Pt.slots] at X12 l12 y12 z12 st12 hQ12
      subst l12 y12 z12
      obtain ⟨rfl, N12q, e12⟩ := hQ12
      have N12 := Fr.app N11 N12q
      refine own_via st12 ?_
      show own_Fin p e below _ (T12.setTop (mkF m 69 #[.val (.int p1), .val (.int (p1 &&& (3 : Int32))), .val (.ref aZONED), .val (.int (1 : Int32)), .val (.int (1 : Int32))] [(.ref aD), (.int (1 : Int32))]))
      obtain ⟨T13, X13, e13, st13⟩ := getS2 X12 hx hZ hown (host := "") (Or.inl (hw _ (List.mem_of_getElem? (i := 18) rfl))) Via.refl e12 S_D (g := (mkF m 69 #[.val (.int p1), .val (.int (p1 &&& (3 : Int32))), .val (.ref aZONED), .val (.int (1 : Int32)), .val (.int (1 : Int32))] [(.ref aD), (.int (1 : Int32))])) rfl (hb hby at_69)
      refine own_on st13 ?_
      show own_Fin p e below _ (T13.setTop (mkF m 72 #[.val (.int p1), .val (.int (p1 &&& (3 : Int32))), .val (.ref aZONED), .val (.int (1 : Int32)), .val (.int (1 : Int32))] [(.ref aD), (.ref aD), (.int (1 : Int32))]))
      refine own_on (fun t => Jvm.RoadKit.acmp (g := (mkF m 72 #[.val (.int p1), .val (.int (p1 &&& (3 : Int32))), .val (.ref aZONED), .val (.int (1 : Int32)), .val (.int (1 : Int32))] [(.ref aD), (.ref aD), (.int (1 : Int32))])) X13 hx rfl rfl rfl (pc0 := 72) (pc' := 75) (same := true) rfl (hb hby at_72) rfl (decide_eq_true rfl) (by decide) (by decide)) ?_
      show own_Fin p e below _ (T13.setTop (mkF m 75 #[.val (.int p1), .val (.int (p1 &&& (3 : Int32))), .val (.ref aZONED), .val (.int (1 : Int32)), .val (.int (1 : Int32))] [(.int (1 : Int32))]))
      refine own_on (fun t => XS.iconst X13.here hx rfl (hb hby at_75)) ?_
      show own_Fin p e below _ (T13.setTop (mkF m 76 #[.val (.int p1), .val (.int (p1 &&& (3 : Int32))), .val (.ref aZONED), .val (.int (1 : Int32)), .val (.int (1 : Int32))] [(.int (1 : Int32)), (.int (1 : Int32))]))
      refine own_on (fun t => XS.goto X13.here hx rfl (pc0 := 76) (pc' := 80) rfl (hb hby at_76) (by decide) (by decide)) ?_
      show own_Fin p e below _ (T13.setTop (mkF m 80 #[.val (.int p1), .val (.int (p1 &&& (3 : Int32))), .val (.ref aZONED), .val (.int (1 : Int32)), .val (.int (1 : Int32))] [(.int (1 : Int32)), (.int (1 : Int32))]))
      refine own_on (fun t => XS.icmpNo X13.here hx rfl (hb hby at_80) rfl (teq (by decide : (1 : Int32) = (1 : Int32))).2) ?_
      show own_Fin p e below _ (T13.setTop (mkF m 83 #[.val (.int p1), .val (.int (p1 &&& (3 : Int32))), .val (.ref aZONED), .val (.int (1 : Int32)), .val (.int (1 : Int32))] []))
      refine own_on (fun t => XS.iconst X13.here hx rfl (hb hby at_83)) ?_
      show own_Fin p e below _ (T13.setTop (mkF m 84 #[.val (.int p1), .val (.int (p1 &&& (3 : Int32))), .val (.ref aZONED), .val (.int (1 : Int32)), .val (.int (1 : Int32))] [(.int (1 : Int32))]))
      refine own_on (fun t => XS.goto X13.here hx rfl (pc0 := 84) (pc' := 88) rfl (hb hby at_84) (by decide) (by decide)) ?_
      show own_Fin p e below _ (T13.setTop (mkF m 88 #[.val (.int p1), .val (.int (p1 &&& (3 : Int32))), .val (.ref aZONED), .val (.int (1 : Int32)), .val (.int (1 : Int32))] [(.int (1 : Int32))]))
      exact own_ret (t := .boolean) X13 hx hlk hret rfl (Or.inl ⟨rfl, (by simp), _, rfl⟩) (hb hby at_88) (⟨rfl, N12⟩) (by decide) (by decide)
    · refine own_on (fun t => XS.icmpYes X0.here hx rfl (pc0 := 19) (pc' := 31) rfl (hb hby at_19) rfl (feq hc9).2 (by decide) (by decide)) ?_
      show own_Fin p e below _ (s₁.setTop (mkF m 31 #[.val (.int p1), .val (.int (p1 &&& (3 : Int32))), .unset, .unset, .unset] []))
      refine own_on (fun t => XS.iloadN X0.here hx rfl (hb hby at_31) rfl) ?_
      show own_Fin p e below _ (s₁.setTop (mkF m 32 #[.val (.int p1), .val (.int (p1 &&& (3 : Int32))), .unset, .unset, .unset] [(.int (p1 &&& (3 : Int32)))]))
      refine own_on (fun t => XS.iconst X0.here hx rfl (hb hby at_32)) ?_
      show own_Fin p e below _ (s₁.setTop (mkF m 33 #[.val (.int p1), .val (.int (p1 &&& (3 : Int32))), .unset, .unset, .unset] [(.int (2 : Int32)), (.int (p1 &&& (3 : Int32)))]))
      by_cases hc14 : (p1 &&& (3 : Int32)) = (2 : Int32)
      · refine own_on (fun t => XS.icmpNo X0.here hx rfl (hb hby at_33) rfl (teq hc14).2) ?_
        show own_Fin p e below _ (s₁.setTop (mkF m 36 #[.val (.int p1), .val (.int (p1 &&& (3 : Int32))), .unset, .unset, .unset] []))
        obtain ⟨T15, X15, e15, st15⟩ := getS2 X0 hx hZ hown (host := "") (Or.inl (hw _ (List.mem_of_getElem? (i := 22) rfl))) Via.refl e0 S_PACKED (g := (mkF m 36 #[.val (.int p1), .val (.int (p1 &&& (3 : Int32))), .unset, .unset, .unset] [])) rfl (hb hby at_36)
        refine own_on st15 ?_
        show own_Fin p e below _ (T15.setTop (mkF m 39 #[.val (.int p1), .val (.int (p1 &&& (3 : Int32))), .unset, .unset, .unset] [(.ref aPACKED)]))
        refine own_on (fun t => XS.astoreN X15.here hx rfl (hb hby at_39) rfl rfl (l' := #[.val (.int p1), .val (.int (p1 &&& (3 : Int32))), .val (.ref aPACKED), .unset, .unset]) rfl) ?_
        show own_Fin p e below _ (T15.setTop (mkF m 40 #[.val (.int p1), .val (.int (p1 &&& (3 : Int32))), .val (.ref aPACKED), .unset, .unset] []))
        refine own_on (fun t => XS.iconst X15.here hx rfl (hb hby at_40)) ?_
        show own_Fin p e below _ (T15.setTop (mkF m 41 #[.val (.int p1), .val (.int (p1 &&& (3 : Int32))), .val (.ref aPACKED), .unset, .unset] [(.int (1 : Int32))]))
        refine own_on (fun t => XS.istoreN X15.here hx rfl (hb hby at_41) rfl (l' := #[.val (.int p1), .val (.int (p1 &&& (3 : Int32))), .val (.ref aPACKED), .val (.int (1 : Int32)), .unset]) rfl) ?_
        show own_Fin p e below _ (T15.setTop (mkF m 42 #[.val (.int p1), .val (.int (p1 &&& (3 : Int32))), .val (.ref aPACKED), .val (.int (1 : Int32)), .unset] []))
        refine own_on (fun t => XS.goto X15.here hx rfl (pc0 := 42) (pc' := 51) rfl (hb hby at_42) (by decide) (by decide)) ?_
        show own_Fin p e below _ (T15.setTop (mkF m 51 #[.val (.int p1), .val (.int (p1 &&& (3 : Int32))), .val (.ref aPACKED), .val (.int (1 : Int32)), .unset] []))
        refine own_on (fun t => XS.aloadN X15.here hx rfl (hb hby at_51) rfl rfl) ?_
        show own_Fin p e below _ (T15.setTop (mkF m 52 #[.val (.int p1), .val (.int (p1 &&& (3 : Int32))), .val (.ref aPACKED), .val (.int (1 : Int32)), .unset] [(.ref aPACKED)]))
        obtain ⟨cq16, kq16, q16a, q16b, q16c⟩ := isOf hZ e15 E_PACKED
        obtain ⟨_, _, ⟨T16, L16, k16, n16⟩, -, X16, ⟨Lc16, hQ16, l16, y16, z16⟩, st16⟩ := X15.virtualBack hx (y := (⟨"com/example/millrace/millrace/formats/CopybookItem$Kind", "numeric", "()Z"⟩ : MethodName)) (z := (⟨"com/example/millrace/millrace/formats/CopybookItem$Kind", "numeric", "()Z"⟩ : MethodName)) hown (mvT hZ (hw _ (List.mem_of_getElem? (i := 3) rfl))) (mvT hZ (hw _ (List.mem_of_getElem? (i := 4) rfl))) (notFace_of_selects (args := #[]) (mvT hZ (hw _ (List.mem_of_getElem? (i := 6) rfl)))) (mvT hZ (hw _ (List.mem_of_getElem? (i := 6) rfl))) (mvT hZ (hw _ (List.mem_of_getElem? (i := 5) rfl))) (by decide) (backOf (W := 0) (rm1 l Z a0 hw [] aPACKED aTEXT (1 : Int32) h0 n0 (by exact Z0) S_TEXT (by simp [ne_PACKED])) hZ (hw _ (List.mem_of_getElem? (i := 7) rfl)) (hw _ (List.mem_of_getElem? (i := 1) rfl)) (by decide) (by decide)) q16a q16c (g := (mkF m 52 #[.val (.int p1), .val (.int (p1 &&& (3 : Int32))), .val (.ref aPACKED), .val (.int (1 : Int32)), .unset] [(.ref aPACKED)])) rfl (by rw [hml]; rfl) (Steps.refl _) (argsL := []) (rest := []) (lenOf pd_0 rfl) rfl (by show 2 * 0 + _ ≤ _; exact Nat.le_of_eq rfl) (hb hby at_52) (fun _ _ => ⟨rfl, e15, (by decide : 0 + 0 ≤ _), (by decide : 0 + 0 ≤ _)⟩)
        dsimp only [Pt.U, Pt.locs, Pt.cells, Pt.slots] at X16 l16 y16 z16 st16 hQ16
        subst l16 y16 z16
        obtain ⟨rfl, N16q, e16⟩ := hQ16
        have N16 := Fr.app N0 N16q
        refine own_via st16 ?_
        show own_Fin p e below _ (T16.setTop (mkF m 55 #[.val (.int p1), .val (.int (p1 &&& (3 : Int32))), .val (.ref aPACKED), .val (.int (1 : Int32)), .unset] [(.int (1 : Int32))]))
        refine own_on (fun t => XS.istore X16.here hx rfl (hb hby at_55) rfl (l' := #[.val (.int p1), .val (.int (p1 &&& (3 : Int32))), .val (.ref aPACKED), .val (.int (1 : Int32)), .val (.int (1 : Int32))]) rfl) ?_
        show own_Fin p e below _ (T16.setTop (mkF m 57 #[.val (.int p1), .val (.int (p1 &&& (3 : Int32))), .val (.ref aPACKED), .val (.int (1 : Int32)), .val (.int (1 : Int32))] []))
        refine own_on (fun t => XS.iload X16.here hx rfl (hb hby at_57) rfl) ?_
        show own_Fin p e below _ (T16.setTop (mkF m 59 #[.val (.int p1), .val (.int (p1 &&& (3 : Int32))), .val (.ref aPACKED), .val (.int (1 : Int32)), .val (.int (1 : Int32))] [(.int (1 : Int32))]))
        refine own_on (fun t => XS.iloadN X16.here hx rfl (hb hby at_59) rfl) ?_
        show own_Fin p e below _ (T16.setTop (mkF m 60 #[.val (.int p1), .val (.int (p1 &&& (3 : Int32))), .val (.ref aPACKED), .val (.int (1 : Int32)), .val (.int (1 : Int32))] [(.int (1 : Int32)), (.int (1 : Int32))]))
        refine own_on (fun t => XS.icmpNo X16.here hx rfl (hb hby at_60) rfl (teq (by decide : (1 : Int32) = (1 : Int32))).2) ?_
        show own_Fin p e below _ (T16.setTop (mkF m 63 #[.val (.int p1), .val (.int (p1 &&& (3 : Int32))), .val (.ref aPACKED), .val (.int (1 : Int32)), .val (.int (1 : Int32))] []))
        refine own_on (fun t => XS.iload X16.here hx rfl (hb hby at_63) rfl) ?_
        show own_Fin p e below _ (T16.setTop (mkF m 65 #[.val (.int p1), .val (.int (p1 &&& (3 : Int32))), .val (.ref aPACKED), .val (.int (1 : Int32)), .val (.int (1 : Int32))] [(.int (1 : Int32))]))
        refine own_on (fun t => XS.aloadN X16.here hx rfl (hb hby at_65) rfl rfl) ?_
        show own_Fin p e below _ (T16.setTop (mkF m 66 #[.val (.int p1), .val (.int (p1 &&& (3 : Int32))), .val (.ref aPACKED), .val (.int (1 : Int32)), .val (.int (1 : Int32))] [(.ref aPACKED), (.int (1 : Int32))]))
        obtain ⟨cq17, kq17, q17a, q17b, q17c⟩ := isOf hZ e16 E_PACKED
        obtain ⟨_, _, ⟨T17, L17, k17, n17⟩, -, X17, ⟨Lc17, hQ17, l17, y17, z17⟩, st17⟩ := X16.virtualBack hx (y := (⟨"com/example/millrace/millrace/formats/CopybookItem$Kind", "fieldType", "()Lcom/example/millrace/millrace/engine/FieldType;"⟩ : MethodName)) (z := (⟨"com/example/millrace/millrace/formats/CopybookItem$Kind", "fieldType", "()Lcom/example/millrace/millrace/engine/FieldType;"⟩ : MethodName)) hown (mvT hZ (hw _ (List.mem_of_getElem? (i := 9) rfl))) (mvT hZ (hw _ (List.mem_of_getElem? (i := 10) rfl))) (notFace_of_selects (args := #[]) (mvT hZ (hw _ (List.mem_of_getElem? (i := 12) rfl)))) (mvT hZ (hw _ (List.mem_of_getElem? (i := 12) rfl))) (mvT hZ (hw _ (List.mem_of_getElem? (i := 11) rfl))) (by decide) (backOf (W := 1) (rm2 l Z a0 hw [] aPACKED aD h0 n0 (by exact Z0) F_PACKED) hZ (hw _ (List.mem_of_getElem? (i := 13) rfl)) (hw _ (List.mem_of_getElem? (i := 1) rfl)) (by decide) (by decide)) q17a q17c (g := (mkF m 66 #[.val (.int p1), .val (.int (p1 &&& (3 : Int32))), .val (.ref aPACKED), .val (.int (1 : Int32)), .val (.int (1 : Int32))] [(.ref aPACKED), (.int (1 : Int32))])) rfl (by rw [hml]; rfl) (Steps.refl _) (argsL := []) (rest := [(.int (1 : Int32))]) (lenOf pd_1 rfl) rfl (by show 2 * 0 + _ ≤ _; exact Nat.le_of_eq rfl) (hb hby at_66) (fun _ _ => ⟨rfl, e16, (by decide : 0 + 0 ≤ _), (by decide : 0 + 0 ≤ _)⟩)
        dsimp only [Pt.U, Pt.locs, Pt.cells, Pt.slots] at X17 l17 y17 z17 st17 hQ17
        subst l17 y17 z17
        obtain ⟨rfl, N17q, e17⟩ := hQ17
        have N17 := Fr.app N16 N17q
        refine own_via st17 ?_
        show own_Fin p e below _ (T17.setTop (mkF m 69 #[.val (.int p1), .val (.int (p1 &&& (3 : Int32))), .val (.ref aPACKED), .val (.int (1 : Int32)), .val (.int (1 : Int32))] [(.ref aD), (.int (1 : Int32))]))
        obtain ⟨T18, X18, e18, st18⟩ := getS2 X17 hx hZ hown (host := "") (Or.inl (hw _ (List.mem_of_getElem? (i := 18) rfl))) Via.refl e17 S_D (g := (mkF m 69 #[.val (.int p1), .val (.int (p1 &&& (3 : Int32))), .val (.ref aPACKED), .val (.int (1 : Int32)), .val (.int (1 : Int32))] [(.ref aD), (.int (1 : Int32))])) rfl (hb hby at_69)
        refine own_on st18 ?_
        show own_Fin p e below _ (T18.setTop (mkF m 72 #[.val (.int p1), .val (.int (p1 &&& (3 : Int32))), .val (.ref aPACKED), .val (.int (1 : Int32)), .val (.int (1 : Int32))] [(.ref aD), (.ref aD), (.int (1 : Int32))]))
        refine own_on (fun t => Jvm.RoadKit.acmp (g := (mkF m 72 #[.val (.int p1), .val (.int (p1 &&& (3 : Int32))), .val (.ref aPACKED), .val (.int (1 : Int32)), .val (.int (1 : Int32))] [(.ref aD), (.ref aD), (.int (1 : Int32))])) X18 hx rfl rfl rfl (pc0 := 72) (pc' := 75) (same := true) rfl (hb hby at_72) rfl (decide_eq_true rfl) (by decide) (by decide)) ?_
        show own_Fin p e below _ (T18.setTop (mkF m 75 #[.val (.int p1), .val (.int (p1 &&& (3 : Int32))), .val (.ref aPACKED), .val (.int (1 : Int32)), .val (.int (1 : Int32))] [(.int (1 : Int32))]))
        refine own_on (fun t => XS.iconst X18.here hx rfl (hb hby at_75)) ?_
        show own_Fin p e below _ (T18.setTop (mkF m 76 #[.val (.int p1), .val (.int (p1 &&& (3 : Int32))), .val (.ref aPACKED), .val (.int (1 : Int32)), .val (.int (1 : Int32))] [(.int (1 : Int32)), (.int (1 : Int32))]))
        refine own_on (fun t => XS.goto X18.here hx rfl (pc0 := 76) (pc' := 80) rfl (hb hby at_76) (by decide) (by decide)) ?_
        show own_Fin p e below _ (T18.setTop (mkF m 80 #[.val (.int p1), .val (.int (p1 &&& (3 : Int32))), .val (.ref aPACKED), .val (.int (1 : Int32)), .val (.int (1 : Int32))] [(.int (1 : Int32)), (.int (1 : Int32))]))
        refine own_on (fun t => XS.icmpNo X18.here hx rfl (hb hby at_80) rfl (teq (by decide : (1 : Int32) = (1 : Int32))).2) ?_
        show own_Fin p e below _ (T18.setTop (mkF m 83 #[.val (.int p1), .val (.int (p1 &&& (3 : Int32))), .val (.ref aPACKED), .val (.int (1 : Int32)), .val (.int (1 : Int32))] []))
        refine own_on (fun t => XS.iconst X18.here hx rfl (hb hby at_83)) ?_
        show own_Fin p e below _ (T18.setTop (mkF m 84 #[.val (.int p1), .val (.int (p1 &&& (3 : Int32))), .val (.ref aPACKED), .val (.int (1 : Int32)), .val (.int (1 : Int32))] [(.int (1 : Int32))]))
        refine own_on (fun t => XS.goto X18.here hx rfl (pc0 := 84) (pc' := 88) rfl (hb hby at_84) (by decide) (by decide)) ?_
        show own_Fin p e below _ (T18.setTop (mkF m 88 #[.val (.int p1), .val (.int (p1 &&& (3 : Int32))), .val (.ref aPACKED), .val (.int (1 : Int32)), .val (.int (1 : Int32))] [(.int (1 : Int32))]))
        exact own_ret (t := .boolean) X18 hx hlk hret rfl (Or.inl ⟨rfl, (by simp), _, rfl⟩) (hb hby at_88) (⟨rfl, N17⟩) (by decide) (by decide)
      · refine own_on (fun t => XS.icmpYes X0.here hx rfl (pc0 := 33) (pc' := 45) rfl (hb hby at_33) rfl (feq hc14).2 (by decide) (by decide)) ?_
        show own_Fin p e below _ (s₁.setTop (mkF m 45 #[.val (.int p1), .val (.int (p1 &&& (3 : Int32))), .unset, .unset, .unset] []))
        obtain ⟨T19, X19, e19, st19⟩ := getS2 X0 hx hZ hown (host := "") (Or.inl (hw _ (List.mem_of_getElem? (i := 20) rfl))) Via.refl e0 S_BINARY (g := (mkF m 45 #[.val (.int p1), .val (.int (p1 &&& (3 : Int32))), .unset, .unset, .unset] [])) rfl (hb hby at_45)
        refine own_on st19 ?_
        show own_Fin p e below _ (T19.setTop (mkF m 48 #[.val (.int p1), .val (.int (p1 &&& (3 : Int32))), .unset, .unset, .unset] [(.ref aBINARY)]))
        refine own_on (fun t => XS.astoreN X19.here hx rfl (hb hby at_48) rfl rfl (l' := #[.val (.int p1), .val (.int (p1 &&& (3 : Int32))), .val (.ref aBINARY), .unset, .unset]) rfl) ?_
        show own_Fin p e below _ (T19.setTop (mkF m 49 #[.val (.int p1), .val (.int (p1 &&& (3 : Int32))), .val (.ref aBINARY), .unset, .unset] []))
        refine own_on (fun t => XS.iconst X19.here hx rfl (hb hby at_49)) ?_
        show own_Fin p e below _ (T19.setTop (mkF m 50 #[.val (.int p1), .val (.int (p1 &&& (3 : Int32))), .val (.ref aBINARY), .unset, .unset] [(.int (1 : Int32))]))
        refine own_on (fun t => XS.istoreN X19.here hx rfl (hb hby at_50) rfl (l' := #[.val (.int p1), .val (.int (p1 &&& (3 : Int32))), .val (.ref aBINARY), .val (.int (1 : Int32)), .unset]) rfl) ?_
        show own_Fin p e below _ (T19.setTop (mkF m 51 #[.val (.int p1), .val (.int (p1 &&& (3 : Int32))), .val (.ref aBINARY), .val (.int (1 : Int32)), .unset] []))
        refine own_on (fun t => XS.aloadN X19.here hx rfl (hb hby at_51) rfl rfl) ?_
        show own_Fin p e below _ (T19.setTop (mkF m 52 #[.val (.int p1), .val (.int (p1 &&& (3 : Int32))), .val (.ref aBINARY), .val (.int (1 : Int32)), .unset] [(.ref aBINARY)]))
        obtain ⟨cq20, kq20, q20a, q20b, q20c⟩ := isOf hZ e19 E_BINARY
        obtain ⟨_, _, ⟨T20, L20, k20, n20⟩, -, X20, ⟨Lc20, hQ20, l20, y20, z20⟩, st20⟩ := X19.virtualBack hx (y := (⟨"com/example/millrace/millrace/formats/CopybookItem$Kind", "numeric", "()Z"⟩ : MethodName)) (z := (⟨"com/example/millrace/millrace/formats/CopybookItem$Kind", "numeric", "()Z"⟩ : MethodName)) hown (mvT hZ (hw _ (List.mem_of_getElem? (i := 3) rfl))) (mvT hZ (hw _ (List.mem_of_getElem? (i := 4) rfl))) (notFace_of_selects (args := #[]) (mvT hZ (hw _ (List.mem_of_getElem? (i := 6) rfl)))) (mvT hZ (hw _ (List.mem_of_getElem? (i := 6) rfl))) (mvT hZ (hw _ (List.mem_of_getElem? (i := 5) rfl))) (by decide) (backOf (W := 0) (rm1 l Z a0 hw [] aBINARY aTEXT (1 : Int32) h0 n0 (by exact Z0) S_TEXT (by simp [ne_BINARY])) hZ (hw _ (List.mem_of_getElem? (i := 7) rfl)) (hw _ (List.mem_of_getElem? (i := 1) rfl)) (by decide) (by decide)) q20a q20c (g := (mkF m 52 #[.val (.int p1), .val (.int (p1 &&& (3 : Int32))), .val (.ref aBINARY), .val (.int (1 : Int32)), .unset] [(.ref aBINARY)])) rfl (by rw [hml]; rfl) (Steps.refl _) (argsL := []) (rest := []) (lenOf pd_0 rfl) rfl (by show 2 * 0 + _ ≤ _; exact Nat.le_of_eq rfl) (hb hby at_52) (fun _ _ => ⟨rfl, e19, (by decide : 0 + 0 ≤ _), (by decide : 0 + 0 ≤ _)⟩)
        dsimp only [Pt.U, Pt.locs, Pt.cells, Pt.slots] at X20 l20 y20 z20 st20 hQ20
        subst l20 y20 z20
        obtain ⟨rfl, N20q, e20⟩ := hQ20
        have N20 := Fr.app N0 N20q
        refine own_via st20 ?_
        show own_Fin p e below _ (T20.setTop (mkF m 55 #[.val (.int p1), .val (.int (p1 &&& (3 : Int32))), .val (.ref aBINARY), .val (.int (1 : Int32)), .unset] [(.int (1 : Int32))]))
        refine own_on (fun t => XS.istore X20.here hx rfl (hb hby at_55) rfl (l' := #[.val (.int p1), .val (.int (p1 &&& (3 : Int32))), .val (.ref aBINARY), .val (.int (1 : Int32)), .val (.int (1 : Int32))]) rfl) ?_
        show own_Fin p e below _ (T20.setTop (mkF m 57 #[.val (.int p1), .val (.int (p1 &&& (3 : Int32))), .val (.ref aBINARY), .val (.int (1 : Int32)), .val (.int (1 : Int32))] []))
        refine own_on (fun t => XS.iload X20.here hx rfl (hb hby at_57) rfl) ?_
        show own_Fin p e below _ (T20.setTop (mkF m 59 #[.val (.int p1), .val (.int (p1 &&& (3 : Int32))), .val (.ref aBINARY), .val (.int (1 : Int32)), .val (.int (1 : Int32))] [(.int (1 : Int32))]))
        refine own_on (fun t => XS.iloadN X20.here hx rfl (hb hby at_59) rfl) ?_
        show own_Fin p e below _ (T20.setTop (mkF m 60 #[.val (.int p1), .val (.int (p1 &&& (3 : Int32))), .val (.ref aBINARY), .val (.int (1 : Int32)), .val (.int (1 : Int32))] [(.int (1 : Int32)), (.int (1 : Int32))]))
        refine own_on (fun t => XS.icmpNo X20.here hx rfl (hb hby at_60) rfl (teq (by decide : (1 : Int32) = (1 : Int32))).2) ?_
        show own_Fin p e below _ (T20.setTop (mkF m 63 #[.val (.int p1), .val (.int (p1 &&& (3 : Int32))), .val (.ref aBINARY), .val (.int (1 : Int32)), .val (.int (1 : Int32))] []))
        refine own_on (fun t => XS.iload X20.here hx rfl (hb hby at_63) rfl) ?_
        show own_Fin p e below _ (T20.setTop (mkF m 65 #[.val (.int p1), .val (.int (p1 &&& (3 : Int32))), .val (.ref aBINARY), .val (.int (1 : Int32)), .val (.int (1 : Int32))] [(.int (1 : Int32))]))
        refine own_on (fun t => XS.aloadN X20.here hx rfl (hb hby at_65) rfl rfl) ?_
        show own_Fin p e below _ (T20.setTop (mkF m 66 #[.val (.int p1), .val (.int (p1 &&& (3 : Int32))), .val (.ref aBINARY), .val (.int (1 : Int32)), .val (.int (1 : Int32))] [(.ref aBINARY), (.int (1 : Int32))]))
        obtain ⟨cq21, kq21, q21a, q21b, q21c⟩ := isOf hZ e20 E_BINARY
        obtain ⟨_, _, ⟨T21, L21, k21, n21⟩, -, X21, ⟨Lc21, hQ21, l21, y21, z21⟩, st21⟩ := X20.virtualBack hx (y := (⟨"com/example/millrace/millrace/formats/CopybookItem$Kind", "fieldType", "()Lcom/example/millrace/millrace/engine/FieldType;"⟩ : MethodName)) (z := (⟨"com/example/millrace/millrace/formats/CopybookItem$Kind", "fieldType", "()Lcom/example/millrace/millrace/engine/FieldType;"⟩ : MethodName)) hown (mvT hZ (hw _ (List.mem_of_getElem? (i := 9) rfl))) (mvT hZ (hw _ (List.mem_of_getElem? (i := 10) rfl))) (notFace_of_selects (args := #[]) (mvT hZ (hw _ (List.mem_of_getElem? (i := 12) rfl)))) (mvT hZ (hw _ (List.mem_of_getElem? (i := 12) rfl))) (mvT hZ (hw _ (List.mem_of_getElem? (i := 11) rfl))) (by decide) (backOf (W := 1) (rm2 l Z a0 hw [] aBINARY aD h0 n0 (by exact Z0) F_BINARY) hZ (hw _ (List.mem_of_getElem? (i := 13) rfl)) (hw _ (List.mem_of_getElem? (i := 1) rfl)) (by decide) (by decide)) q21a q21c (g := (mkF m 66 #[.val (.int p1), .val (.int (p1 &&& (3 : Int32))), .val (.ref aBINARY), .val (.int (1 : Int32)), .val (.int (1 : Int32))] [(.ref aBINARY), (.int (1 : Int32))])) rfl (by rw [hml]; rfl) (Steps.refl _) (argsL := []) (rest := [(.int (1 : Int32))]) (lenOf pd_1 rfl) rfl (by show 2 * 0 + _ ≤ _; exact Nat.le_of_eq rfl) (hb hby at_66) (fun _ _ => ⟨rfl, e20, (by decide : 0 + 0 ≤ _), (by decide : 0 + 0 ≤ _)⟩)
        dsimp only [Pt.U, Pt.locs, Pt.cells, Pt.slots] at X21 l21 y21 z21 st21 hQ21
        subst l21 y21 z21
        obtain ⟨rfl, N21q, e21⟩ := hQ21
        have N21 := Fr.app N20 N21q
        refine own_via st21 ?_
        show own_Fin p e below _ (T21.setTop (mkF m 69 #[.val (.int p1), .val (.int (p1 &&& (3 : Int32))), .val (.ref aBINARY), .val (.int (1 : Int32)), .val (.int (1 : Int32))] [(.ref aD), (.int (1 : Int32))]))
        obtain ⟨T22, X22, e22, st22⟩ := getS2 X21 hx hZ hown (host := "") (Or.inl (hw _ (List.mem_of_getElem? (i := 18) rfl))) Via.refl e21 S_D (g := (mkF m 69 #[.val (.int p1), .val (.int (p1 &&& (3 : Int32))), .val (.ref aBINARY), .val (.int (1 : Int32)), .val (.int (1 : Int32))] [(.ref aD), (.int (1 : Int32))])) rfl (hb hby at_69)
        refine own_on st22 ?_
        show own_Fin p e below _ (T22.setTop (mkF m 72 #[.val (.int p1), .val (.int (p1 &&& (3 : Int32))), .val (.ref aBINARY), .val (.int (1 : Int32)), .val (.int (1 : Int32))] [(.ref aD), (.ref aD), (.int (1 : Int32))]))
        refine own_on (fun t => Jvm.RoadKit.acmp (g := (mkF m 72 #[.val (.int p1), .val (.int (p1 &&& (3 : Int32))), .val (.ref aBINARY), .val (.int (1 : Int32)), .val (.int (1 : Int32))] [(.ref aD), (.ref aD), (.int (1 : Int32))])) X22 hx rfl rfl rfl (pc0 := 72) (pc' := 75) (same := true) rfl (hb hby at_72) rfl (decide_eq_true rfl) (by decide) (by decide)) ?_
        show own_Fin p e below _ (T22.setTop (mkF m 75 #[.val (.int p1), .val (.int (p1 &&& (3 : Int32))), .val (.ref aBINARY), .val (.int (1 : Int32)), .val (.int (1 : Int32))] [(.int (1 : Int32))]))
        refine own_on (fun t => XS.iconst X22.here hx rfl (hb hby at_75)) ?_
        show own_Fin p e below _ (T22.setTop (mkF m 76 #[.val (.int p1), .val (.int (p1 &&& (3 : Int32))), .val (.ref aBINARY), .val (.int (1 : Int32)), .val (.int (1 : Int32))] [(.int (1 : Int32)), (.int (1 : Int32))]))
        refine own_on (fun t => XS.goto X22.here hx rfl (pc0 := 76) (pc' := 80) rfl (hb hby at_76) (by decide) (by decide)) ?_
        show own_Fin p e below _ (T22.setTop (mkF m 80 #[.val (.int p1), .val (.int (p1 &&& (3 : Int32))), .val (.ref aBINARY), .val (.int (1 : Int32)), .val (.int (1 : Int32))] [(.int (1 : Int32)), (.int (1 : Int32))]))
        refine own_on (fun t => XS.icmpNo X22.here hx rfl (hb hby at_80) rfl (teq (by decide : (1 : Int32) = (1 : Int32))).2) ?_
        show own_Fin p e below _ (T22.setTop (mkF m 83 #[.val (.int p1), .val (.int (p1 &&& (3 : Int32))), .val (.ref aBINARY), .val (.int (1 : Int32)), .val (.int (1 : Int32))] []))
        refine own_on (fun t => XS.iconst X22.here hx rfl (hb hby at_83)) ?_
        show own_Fin p e below _ (T22.setTop (mkF m 84 #[.val (.int p1), .val (.int (p1 &&& (3 : Int32))), .val (.ref aBINARY), .val (.int (1 : Int32)), .val (.int (1 : Int32))] [(.int (1 : Int32))]))
        refine own_on (fun t => XS.goto X22.here hx rfl (pc0 := 84) (pc' := 88) rfl (hb hby at_84) (by decide) (by decide)) ?_
        show own_Fin p e below _ (T22.setTop (mkF m 88 #[.val (.int p1), .val (.int (p1 &&& (3 : Int32))), .val (.ref aBINARY), .val (.int (1 : Int32)), .val (.int (1 : Int32))] [(.int (1 : Int32))]))
        exact own_ret (t := .boolean) X22 hx hlk hret rfl (Or.inl ⟨rfl, (by simp), _, rfl⟩) (hb hby at_88) (⟨rfl, N21⟩) (by decide) (by decide)
set_option maxRecDepth 65536 in
set_option maxHeartbeats 40000000 in
theorem comes_1 {Post : Tables → Env → Array Value → State → Outcome → State → Prop} (hpost : ∀ tb e args s v u, (limb_1_1.after args s (.returned v) u = true ∧ limb_1_2.after args s (.returned v) u = true ∧ True) → FrameEnd s (.returned v) u (Jvm.fieldLocs frame_1_writes args s ++ Jvm.arrayLocs frame_1_arrays args s ++ Jvm.staticLocs frame_1_statics s) 0 0 → Post tb e args s (.returned v) u) :
    ArmFor flags0 classFile x code maxLocals ret World_1 tables_1 room_1 Calls_1 rest_1 Pre_1 Post := by
  intro l hfl _ _ p e ha hc hk s m args below hf hA hF happ hP
  obtain ⟨hcalls, hrest, hpre⟩ := hP
  obtain ⟨-, -, -, hnamed, -, -, -, hat⟩ := (Spec.applies_iff hf).mp happ
  obtain ⟨hg, hn⟩ := and_e (Cond.before_iff.mp (show (Jvm.Cond.and given_1 narrow_1).before args s = true from hpre))
  obtain ⟨ga0l, ga0r⟩ := and_e hg
  obtain ⟨na0l, na0r⟩ := and_e hn
  obtain ⟨na1l, na1r⟩ := and_e na0r
  obtain ⟨na2l, na2r⟩ := and_e na1r
  obtain ⟨na3l, na3r⟩ := and_e na2r
  obtain ⟨na4l, na4r⟩ := and_e na3r
  obtain ⟨na5l, na5r⟩ := and_e na4r
  obtain ⟨na6l, na6r⟩ := and_e na5r
  obtain ⟨na7l, na7r⟩ := and_e na6r
  obtain ⟨na8l, na8r⟩ := and_e na7r
  obtain ⟨na9l, na9r⟩ := and_e na8r
  obtain ⟨na10l, na10r⟩ := and_e na9r
  obtain ⟨na11l, na11r⟩ := and_e na10r
  obtain ⟨na12l, na12r⟩ := and_e na11r
  obtain ⟨na13l, na13r⟩ := and_e na12r
  obtain ⟨na14l, na14r⟩ := and_e na13r
  obtain ⟨w0, rfl⟩ : ∃ w0 : Value, args = #[w0] := by
    have hs : args.size = 1 := by simpa [Cond.value, given_1] using ga0l
    obtain ⟨L⟩ := args
    match L, hs with
    | [w0], _ => exact ⟨w0, rfl⟩
  have hw := fun d (hd : d ∈ tables_1) => atoms_spec (ws := Jvm.Cond.code x code maxLocals ret :: tables_1) hat d (List.mem_cons_of_mem _ hd)
  have hfit : Fit s := fun {y c} hc i hi => by
    obtain ⟨ha, rfl⟩ := Array.getElem?_eq_some_iff.mp hc
    have q := List.all_eq_true.mp ((Array.all_eq_true_iff_forall_mem.mp hF) _ (Array.getElem_mem ha)) i (List.mem_range.mpr hi)
    simpa [Array.getElem?_eq_getElem hi] using q
  obtain ⟨i0, ei0⟩ := is_v ga0r
  obtain rfl : w0 = (.int i0) := Option.some.inj ei0
  obtain ⟨a_CopybookItem_Kind_TEXT, ev_CopybookItem_Kind_TEXT⟩ := exa_v na0l
  have E_CopybookItem_Kind_TEXT := Exa.start ev_CopybookItem_Kind_TEXT na0l
  have S_CopybookItem_Kind_TEXT := Sta.start ev_CopybookItem_Kind_TEXT (Or.inr ⟨(hw _ (List.mem_of_getElem? (i := 1) rfl)), (hw _ (List.mem_of_getElem? (i := 2) rfl))⟩)
  obtain ⟨a_FieldType_STRING, ev_FieldType_STRING⟩ := exa_v na1l
  have E_FieldType_STRING := Exa.start ev_FieldType_STRING na1l
  have S_FieldType_STRING := Sta.start ev_FieldType_STRING (Or.inr ⟨(hw _ (List.mem_of_getElem? (i := 16) rfl)), (hw _ (List.mem_of_getElem? (i := 17) rfl))⟩)
  obtain ⟨a_FieldType_DECIMAL, ev_FieldType_DECIMAL⟩ := exa_v na3l
  have E_FieldType_DECIMAL := Exa.start ev_FieldType_DECIMAL na3l
  have S_FieldType_DECIMAL := Sta.start ev_FieldType_DECIMAL (Or.inr ⟨(hw _ (List.mem_of_getElem? (i := 16) rfl)), (hw _ (List.mem_of_getElem? (i := 19) rfl))⟩)
  obtain ⟨a_CopybookItem_Kind_BINARY, ev_CopybookItem_Kind_BINARY⟩ := exa_v na6l
  have E_CopybookItem_Kind_BINARY := Exa.start ev_CopybookItem_Kind_BINARY na6l
  have S_CopybookItem_Kind_BINARY := Sta.start ev_CopybookItem_Kind_BINARY (Or.inr ⟨(hw _ (List.mem_of_getElem? (i := 1) rfl)), (hw _ (List.mem_of_getElem? (i := 21) rfl))⟩)
  obtain ⟨a_CopybookItem_Kind_PACKED, ev_CopybookItem_Kind_PACKED⟩ := exa_v na10l
  have E_CopybookItem_Kind_PACKED := Exa.start ev_CopybookItem_Kind_PACKED na10l
  have S_CopybookItem_Kind_PACKED := Sta.start ev_CopybookItem_Kind_PACKED (Or.inr ⟨(hw _ (List.mem_of_getElem? (i := 1) rfl)), (hw _ (List.mem_of_getElem? (i := 23) rfl))⟩)
  obtain ⟨a_CopybookItem_Kind_ZONED, ev_CopybookItem_Kind_ZONED⟩ := exa_v na13l
  have E_CopybookItem_Kind_ZONED := Exa.start ev_CopybookItem_Kind_ZONED na13l
  have S_CopybookItem_Kind_ZONED := Sta.start ev_CopybookItem_Kind_ZONED (Or.inr ⟨(hw _ (List.mem_of_getElem? (i := 1) rfl)), (hw _ (List.mem_of_getElem? (i := 25) rfl))⟩)
  have F_CopybookItem_Kind_TEXT_fieldType := own_eqr ev_CopybookItem_Kind_TEXT ev_FieldType_STRING na2l
  have F_FieldType_STRING_ordinal := own_eqf ev_FieldType_STRING na4l
  have F_FieldType_DECIMAL_ordinal := own_eqf ev_FieldType_DECIMAL na5l
  have F_CopybookItem_Kind_BINARY_ordinal := own_eqf ev_CopybookItem_Kind_BINARY na7l
  have F_CopybookItem_Kind_TEXT_ordinal := own_eqf ev_CopybookItem_Kind_TEXT na8l
  have F_CopybookItem_Kind_BINARY_fieldType := own_eqr ev_CopybookItem_Kind_BINARY ev_FieldType_DECIMAL na9l
  have F_CopybookItem_Kind_PACKED_ordinal := own_eqf ev_CopybookItem_Kind_PACKED na11l
  have F_CopybookItem_Kind_PACKED_fieldType := own_eqr ev_CopybookItem_Kind_PACKED ev_FieldType_DECIMAL na12l
  have F_CopybookItem_Kind_ZONED_ordinal := own_eqf ev_CopybookItem_Kind_ZONED na14l
  have F_CopybookItem_Kind_ZONED_fieldType := own_eqr ev_CopybookItem_Kind_ZONED ev_FieldType_DECIMAL na14r
  have ne_ZONED := Fld.ne F_CopybookItem_Kind_ZONED_ordinal F_CopybookItem_Kind_TEXT_ordinal (by decide)
  have ne_PACKED := Fld.ne F_CopybookItem_Kind_PACKED_ordinal F_CopybookItem_Kind_TEXT_ordinal (by decide)
  have ne_BINARY := Fld.ne F_CopybookItem_Kind_BINARY_ordinal F_CopybookItem_Kind_TEXT_ordinal (by decide)
  have neS := Fld.ne F_FieldType_STRING_ordinal F_FieldType_DECIMAL_ordinal (by decide)
  obtain ⟨n, o, h1, h2, h3, _, L, rfl, ⟨rfl, N⟩, hq⟩ := rm0 l s _ hw tables_1 i0 a_CopybookItem_Kind_TEXT a_CopybookItem_Kind_ZONED a_CopybookItem_Kind_PACKED a_CopybookItem_Kind_BINARY a_FieldType_STRING a_FieldType_DECIMAL s.heap s.heap.size (Nat.le_refl _) S_CopybookItem_Kind_TEXT S_CopybookItem_Kind_ZONED S_CopybookItem_Kind_PACKED S_CopybookItem_Kind_BINARY S_FieldType_DECIMAL E_CopybookItem_Kind_TEXT E_CopybookItem_Kind_ZONED E_CopybookItem_Kind_PACKED E_CopybookItem_Kind_BINARY F_CopybookItem_Kind_TEXT_fieldType F_CopybookItem_Kind_ZONED_fieldType F_CopybookItem_Kind_PACKED_fieldType F_CopybookItem_Kind_BINARY_fieldType ne_ZONED ne_PACKED ne_BINARY neS p e ha hc hk s m _ below hf ((Spec.applies_iff_loose hf).mp happ).1 ⟨rfl, State.Warmed39.refl s, rfl⟩ trivial
  refine ⟨n, _, h1, h2, h3, hpost _ _ _ _ _ _ ⟨Cond.after_iff.mpr rfl, Cond.after_iff.mpr (eq_i res_at (Term.int_eval (1)) rfl), trivial⟩ ⟨hq.1, hq.2.1, (hq.2.2.sift fun y hy => Or.inr (N y hy)).mono (by decide) (by decide)⟩⟩
theorem main_1_1 : Claimed_1_1 := comes_1 fun _ _ _ _ _ _ h hF => ⟨h.1, hF⟩
theorem main_1_2 : Claimed_1_2 := comes_1 fun _ _ _ _ _ _ h hF => ⟨h.2.1, hF⟩
end Jvm.Pilot.@@N@@
namespace Jvm.Pilot.@@N@@
open Jvm Jvm.ClassFile Sem Op Lib Jvm.Free Jvm.Stand Jvm.Pilot.@@N@@.Jvm.D
/-! MADE BY PROGRAM (witnessworld.py) out of the Statement's table words and the real class files: 13 classes; the members and pool entries that the words name. The judged class is class 1, her method 1. -/
namespace start1
open Jvm.ClassFile
def u (s : String) : CpInfo := .utf8 (stringToUtf16 s)
/-- a pool by its gaps: so many unusable entries, then the entry; so many at the end -/
def gap : Nat → List CpInfo → List CpInfo
  | 0, r => r
  | n + 1, r => .unusable :: gap n r
def poolList (es : List (Nat × CpInfo)) (last : Nat) : List CpInfo := es.foldr (fun e r => gap e.1 (e.2 :: r)) (gap last [])
def pool (es : List (Nat × CpInfo)) (last : Nat) : Array CpInfo := ⟨poolList es last⟩
def fileOf (pool : Array CpInfo) (this : Nat) (attrs : Array Attribute := #[]) (ms : Array MethodInfo := #[]) (fl : Nat := 33) (sup : Nat := 0) (ifs : Array Nat := #[]) (fds : Array FieldInfo := #[]) : ClassFile where
  minorVersion := 0
  majorVersion := 65
  constantPool := pool
  accessFlags := fl
  thisClass := this
  superClass := sup
  interfaces := ifs
  fields := fds
  methods := ms
  attributes := attrs
def plain (name : String) (sup : Option ClassId) : Class where
  name := name
  kind := .ordinary
  loader := none
  accessFlags := 33
  super := sup
  interfaces := #[]
  cf := none
  fields := #[]
  methods := #[]
  instanceTypes := #[]
  staticTypes := #[]
  resolved := #[]
  callSites := []
  init := .initialized
  statics := none
  mirror := none

def pool0 : Array CpInfo := pool [(5, u "<init>"), (0, u "()V"), (1, .class_ 10), (1, u "java/lang/Object")] 113

def k0m0 : Method := { name := "<init>", desc := "()V", sig := { parameters := [], returnType := none }, accessFlags := 1, code := none }
/-- java/lang/Object -/
def k0 : Class := { plain "java/lang/Object" none with
  accessFlags := 33
  interfaces := #[]
  cf := some (fileOf pool0 8 #[] #[{ accessFlags := 1, nameIndex := 5, descriptorIndex := 6, attributes := #[] }] 33 0 #[] #[])
  fields := #[]
  methods := #[k0m0]
  instanceTypes := #[]
  staticTypes := #[]
  resolved := Array.replicate 124 none
  statics := none }

def pool1 : Array CpInfo := pool [(2, .class_ 4), (1, u "java/lang/Object"), (0, u "<init>"), (0, u "()V"), (0, .fieldref 8 9), (0, .class_ 10), (0, .nameAndType 11 12), (0, u "com/example/millrace/millrace/formats/CopybookItem$Kind"), (0, u "TEXT"), (0, u "Lcom/example/millrace/millrace/formats/CopybookItem$Kind;"), (0, .fieldref 8 14), (0, .nameAndType 15 12), (0, u "ZONED"), (0, .fieldref 8 17), (0, .nameAndType 18 12), (0, u "PACKED"), (0, .fieldref 8 20), (0, .nameAndType 21 12), (0, u "BINARY"), (0, .methodref 8 23), (0, .nameAndType 24 25), (0, u "numeric"), (0, u "()Z"), (0, .methodref 8 27), (0, .nameAndType 28 29), (0, u "fieldType"), (0, u "()Lcom/example/millrace/millrace/engine/FieldType;"), (0, .fieldref 31 32), (0, .class_ 33), (0, .nameAndType 34 35), (0, u "com/example/millrace/millrace/engine/FieldType"), (0, u "DECIMAL"), (0, u "Lcom/example/millrace/millrace/engine/FieldType;"), (0, .class_ 37), (0, u "com/example/millrace/millrace/formats/KindNumericPinLaw"), (2, u "law"), (0, u "(I)Z")] 7

def k1m0 : Method := { name := "<init>", desc := "()V", sig := { parameters := [], returnType := none }, accessFlags := 1, code := none }
def k1c1 : Code := { maxStack := 3, maxLocals := 5, code := code, exceptionTable := #[], attributes := #[] }
def k1m1 : Method := { name := "law", desc := "(I)Z", sig := { parameters := [.int], returnType := some .boolean }, accessFlags := 9, code := some k1c1 }
/-- com/example/millrace/millrace/formats/KindNumericPinLaw -/
def k1 : Class := { plain "com/example/millrace/millrace/formats/KindNumericPinLaw" (some 0) with
  accessFlags := 49
  interfaces := #[]
  cf := some (fileOf pool1 36 #[] #[{ accessFlags := 1, nameIndex := 5, descriptorIndex := 6, attributes := #[] }, { accessFlags := 9, nameIndex := 40, descriptorIndex := 41, attributes := #[] }] 49 2 #[] #[])
  fields := #[]
  methods := #[k1m0, k1m1]
  instanceTypes := #[]
  staticTypes := #[]
  resolved := Array.replicate 49 none
  statics := none }

def pool2 : Array CpInfo := pool [(1, .class_ 2), (0, u "java/lang/constant/Constable"), (0, .class_ 4), (0, u "java/lang/Object")] 6

/-- java/lang/constant/Constable -/
def k2 : Class := { plain "java/lang/constant/Constable" (some 0) with
  accessFlags := 1537
  interfaces := #[]
  cf := some (fileOf pool2 1 #[] #[] 1537 3 #[] #[])
  fields := #[]
  methods := #[]
  instanceTypes := #[]
  staticTypes := #[]
  resolved := Array.replicate 11 none
  statics := none }

def pool3 : Array CpInfo := pool [(1, .class_ 2), (0, u "java/lang/Comparable"), (0, .class_ 4), (0, u "java/lang/Object")] 7

/-- java/lang/Comparable -/
def k3 : Class := { plain "java/lang/Comparable" (some 0) with
  accessFlags := 1537
  interfaces := #[]
  cf := some (fileOf pool3 1 #[] #[] 1537 3 #[] #[])
  fields := #[]
  methods := #[]
  instanceTypes := #[]
  staticTypes := #[]
  resolved := Array.replicate 12 none
  statics := none }

def pool4 : Array CpInfo := pool [(1, .class_ 2), (0, u "java/io/Serializable"), (0, .class_ 4), (0, u "java/lang/Object")] 2

/-- java/io/Serializable -/
def k4 : Class := { plain "java/io/Serializable" (some 0) with
  accessFlags := 1537
  interfaces := #[]
  cf := some (fileOf pool4 1 #[] #[] 1537 3 #[] #[])
  fields := #[]
  methods := #[]
  instanceTypes := #[]
  staticTypes := #[]
  resolved := Array.replicate 7 none
  statics := none }

def pool5 : Array CpInfo := pool [(2, .class_ 4), (1, u "java/lang/Enum"), (0, u "name"), (0, u "Ljava/lang/String;"), (2, u "ordinal"), (0, u "I"), (1, .class_ 14), (1, u "java/lang/Object"), (4, u "hash"), (86, .class_ 108), (1, u "java/lang/Enum$EnumDesc"), (2, .class_ 112), (0, u "java/lang/constant/Constable"), (0, .class_ 114), (0, u "java/lang/Comparable"), (0, .class_ 116), (0, u "java/io/Serializable")] 87

/-- java/lang/Enum -/
def k5 : Class := { plain "java/lang/Enum" (some 0) with
  accessFlags := 1057
  interfaces := #[2, 3, 4]
  cf := some (fileOf pool5 2 #[.nestMembers #[106]] #[] 1057 12 #[111, 113, 115] #[{ accessFlags := 18, nameIndex := 5, descriptorIndex := 6, attributes := #[] }, { accessFlags := 18, nameIndex := 9, descriptorIndex := 10, attributes := #[] }, { accessFlags := 2, nameIndex := 19, descriptorIndex := 10, attributes := #[] }])
  fields := #[{ name := "name", type := (.object "java/lang/String"), accessFlags := 18, slot := 0, constantValue := 0 }, { name := "ordinal", type := .int, accessFlags := 18, slot := 1, constantValue := 0 }, { name := "hash", type := .int, accessFlags := 2, slot := 2, constantValue := 0 }]
  methods := #[]
  instanceTypes := #[(.object "java/lang/String"), .int, .int]
  staticTypes := #[]
  resolved := Array.replicate 204 none
  statics := none }

def pool6 : Array CpInfo := pool [(1, .class_ 2), (0, u "com/example/millrace/millrace/formats/CopybookItem$Kind"), (0, .fieldref 1 4), (0, .nameAndType 5 6), (0, u "TEXT"), (0, u "Lcom/example/millrace/millrace/formats/CopybookItem$Kind;"), (2, u "ZONED"), (2, u "PACKED"), (2, u "BINARY"), (2, u "$VALUES"), (0, u "[Lcom/example/millrace/millrace/formats/CopybookItem$Kind;"), (6, .class_ 28), (1, u "java/lang/Enum"), (8, u "layoutName"), (0, u "Ljava/lang/String;"), (0, .fieldref 1 40), (0, .nameAndType 41 42), (0, u "fieldType"), (0, u "Lcom/example/millrace/millrace/engine/FieldType;"), (35, u "()Lcom/example/millrace/millrace/engine/FieldType;"), (0, u "numeric"), (0, u "()Z"), (7, .class_ 89), (0, u "com/example/millrace/millrace/formats/CopybookItem")] 2

def k6c0 : Code := { maxStack := 1, maxLocals := 1, code := prog_61_method_5_code, exceptionTable := #[], attributes := #[] }
def k6m0 : Method := { name := "fieldType", desc := "()Lcom/example/millrace/millrace/engine/FieldType;", sig := { parameters := [], returnType := some (.object "com/example/millrace/millrace/engine/FieldType") }, accessFlags := 1, code := some k6c0 }
def k6c1 : Code := { maxStack := 2, maxLocals := 1, code := prog_61_method_6_code, exceptionTable := #[], attributes := #[] }
def k6m1 : Method := { name := "numeric", desc := "()Z", sig := { parameters := [], returnType := some .boolean }, accessFlags := 1, code := some k6c1 }
/-- com/example/millrace/millrace/formats/CopybookItem$Kind -/
def k6 : Class := { plain "com/example/millrace/millrace/formats/CopybookItem$Kind" (some 5) with
  accessFlags := 16433
  interfaces := #[]
  cf := some (fileOf pool6 1 #[.nestHost 88] #[{ accessFlags := 1, nameIndex := 41, descriptorIndex := 78, attributes := #[] }, { accessFlags := 1, nameIndex := 79, descriptorIndex := 80, attributes := #[] }] 16433 26 #[] #[{ accessFlags := 16409, nameIndex := 5, descriptorIndex := 6, attributes := #[] }, { accessFlags := 16409, nameIndex := 9, descriptorIndex := 6, attributes := #[] }, { accessFlags := 16409, nameIndex := 12, descriptorIndex := 6, attributes := #[] }, { accessFlags := 16409, nameIndex := 15, descriptorIndex := 6, attributes := #[] }, { accessFlags := 18, nameIndex := 37, descriptorIndex := 38, attributes := #[] }, { accessFlags := 18, nameIndex := 41, descriptorIndex := 42, attributes := #[] }, { accessFlags := 4122, nameIndex := 18, descriptorIndex := 19, attributes := #[] }])
  fields := #[{ name := "TEXT", type := (.object "com/example/millrace/millrace/formats/CopybookItem$Kind"), accessFlags := 16409, slot := 0, constantValue := 0 }, { name := "ZONED", type := (.object "com/example/millrace/millrace/formats/CopybookItem$Kind"), accessFlags := 16409, slot := 1, constantValue := 0 }, { name := "PACKED", type := (.object "com/example/millrace/millrace/formats/CopybookItem$Kind"), accessFlags := 16409, slot := 2, constantValue := 0 }, { name := "BINARY", type := (.object "com/example/millrace/millrace/formats/CopybookItem$Kind"), accessFlags := 16409, slot := 3, constantValue := 0 }, { name := "layoutName", type := (.object "java/lang/String"), accessFlags := 18, slot := 3, constantValue := 0 }, { name := "fieldType", type := (.object "com/example/millrace/millrace/engine/FieldType"), accessFlags := 18, slot := 4, constantValue := 0 }, { name := "$VALUES", type := (.array (.object "com/example/millrace/millrace/formats/CopybookItem$Kind")), accessFlags := 4122, slot := 4, constantValue := 0 }]
  methods := #[k6m0, k6m1]
  instanceTypes := #[(.object "java/lang/String"), .int, .int, (.object "java/lang/String"), (.object "com/example/millrace/millrace/engine/FieldType")]
  staticTypes := #[(.object "com/example/millrace/millrace/formats/CopybookItem$Kind"), (.object "com/example/millrace/millrace/formats/CopybookItem$Kind"), (.object "com/example/millrace/millrace/formats/CopybookItem$Kind"), (.object "com/example/millrace/millrace/formats/CopybookItem$Kind"), (.array (.object "com/example/millrace/millrace/formats/CopybookItem$Kind"))]
  resolved := Array.replicate 92 none
  statics := some 0 }

def pool7 : Array CpInfo := pool [(1, .class_ 2), (0, u "com/example/millrace/millrace/engine/FieldType"), (2, u "STRING"), (0, u "Lcom/example/millrace/millrace/engine/FieldType;"), (2, u "INTEGER"), (2, u "DECIMAL"), (2, u "NUMBER"), (2, u "BOOLEAN"), (2, u "DATE"), (2, u "TIMESTAMP"), (2, u "BINARY"), (2, u "$VALUES"), (0, u "[Lcom/example/millrace/millrace/engine/FieldType;"), (6, .class_ 40), (1, u "java/lang/Enum"), (8, u "typeName"), (0, u "Ljava/lang/String;"), (2, u "valueClass"), (0, u "Ljava/lang/Class;"), (59, u "INTEGER_TEXT"), (0, u "Ljava/util/regex/Pattern;"), (13, u "DECIMAL_TEXT"), (3, u "NUMBER_TEXT"), (11, u "BOOLEAN_TEXT"), (33, u "BINARY_TEXT")] 227

/-- com/example/millrace/millrace/engine/FieldType -/
def k7 : Class := { plain "com/example/millrace/millrace/engine/FieldType" (some 5) with
  accessFlags := 16433
  interfaces := #[]
  cf := some (fileOf pool7 1 #[] #[] 16433 38 #[] #[{ accessFlags := 16409, nameIndex := 5, descriptorIndex := 6, attributes := #[] }, { accessFlags := 16409, nameIndex := 9, descriptorIndex := 6, attributes := #[] }, { accessFlags := 16409, nameIndex := 12, descriptorIndex := 6, attributes := #[] }, { accessFlags := 16409, nameIndex := 15, descriptorIndex := 6, attributes := #[] }, { accessFlags := 16409, nameIndex := 18, descriptorIndex := 6, attributes := #[] }, { accessFlags := 16409, nameIndex := 21, descriptorIndex := 6, attributes := #[] }, { accessFlags := 16409, nameIndex := 24, descriptorIndex := 6, attributes := #[] }, { accessFlags := 16409, nameIndex := 27, descriptorIndex := 6, attributes := #[] }, { accessFlags := 26, nameIndex := 114, descriptorIndex := 115, attributes := #[] }, { accessFlags := 26, nameIndex := 129, descriptorIndex := 115, attributes := #[] }, { accessFlags := 26, nameIndex := 133, descriptorIndex := 115, attributes := #[] }, { accessFlags := 26, nameIndex := 145, descriptorIndex := 115, attributes := #[] }, { accessFlags := 26, nameIndex := 179, descriptorIndex := 115, attributes := #[] }, { accessFlags := 18, nameIndex := 49, descriptorIndex := 50, attributes := #[] }, { accessFlags := 18, nameIndex := 53, descriptorIndex := 54, attributes := #[] }, { accessFlags := 4122, nameIndex := 30, descriptorIndex := 31, attributes := #[] }])
  fields := #[{ name := "STRING", type := (.object "com/example/millrace/millrace/engine/FieldType"), accessFlags := 16409, slot := 0, constantValue := 0 }, { name := "INTEGER", type := (.object "com/example/millrace/millrace/engine/FieldType"), accessFlags := 16409, slot := 1, constantValue := 0 }, { name := "DECIMAL", type := (.object "com/example/millrace/millrace/engine/FieldType"), accessFlags := 16409, slot := 2, constantValue := 0 }, { name := "NUMBER", type := (.object "com/example/millrace/millrace/engine/FieldType"), accessFlags := 16409, slot := 3, constantValue := 0 }, { name := "BOOLEAN", type := (.object "com/example/millrace/millrace/engine/FieldType"), accessFlags := 16409, slot := 4, constantValue := 0 }, { name := "DATE", type := (.object "com/example/millrace/millrace/engine/FieldType"), accessFlags := 16409, slot := 5, constantValue := 0 }, { name := "TIMESTAMP", type := (.object "com/example/millrace/millrace/engine/FieldType"), accessFlags := 16409, slot := 6, constantValue := 0 }, { name := "BINARY", type := (.object "com/example/millrace/millrace/engine/FieldType"), accessFlags := 16409, slot := 7, constantValue := 0 }, { name := "INTEGER_TEXT", type := (.object "java/util/regex/Pattern"), accessFlags := 26, slot := 8, constantValue := 0 }, { name := "DECIMAL_TEXT", type := (.object "java/util/regex/Pattern"), accessFlags := 26, slot := 9, constantValue := 0 }, { name := "NUMBER_TEXT", type := (.object "java/util/regex/Pattern"), accessFlags := 26, slot := 10, constantValue := 0 }, { name := "BOOLEAN_TEXT", type := (.object "java/util/regex/Pattern"), accessFlags := 26, slot := 11, constantValue := 0 }, { name := "BINARY_TEXT", type := (.object "java/util/regex/Pattern"), accessFlags := 26, slot := 12, constantValue := 0 }, { name := "typeName", type := (.object "java/lang/String"), accessFlags := 18, slot := 3, constantValue := 0 }, { name := "valueClass", type := (.object "java/lang/Class"), accessFlags := 18, slot := 4, constantValue := 0 }, { name := "$VALUES", type := (.array (.object "com/example/millrace/millrace/engine/FieldType")), accessFlags := 4122, slot := 13, constantValue := 0 }]
  methods := #[]
  instanceTypes := #[(.object "java/lang/String"), .int, .int, (.object "java/lang/String"), (.object "java/lang/Class")]
  staticTypes := #[(.object "com/example/millrace/millrace/engine/FieldType"), (.object "com/example/millrace/millrace/engine/FieldType"), (.object "com/example/millrace/millrace/engine/FieldType"), (.object "com/example/millrace/millrace/engine/FieldType"), (.object "com/example/millrace/millrace/engine/FieldType"), (.object "com/example/millrace/millrace/engine/FieldType"), (.object "com/example/millrace/millrace/engine/FieldType"), (.object "com/example/millrace/millrace/engine/FieldType"), (.object "java/util/regex/Pattern"), (.object "java/util/regex/Pattern"), (.object "java/util/regex/Pattern"), (.object "java/util/regex/Pattern"), (.object "java/util/regex/Pattern"), (.array (.object "com/example/millrace/millrace/engine/FieldType"))]
  resolved := Array.replicate 407 none
  statics := some 1 }

def pool8 : Array CpInfo := pool [(1, u "java/lang/Cloneable"), (0, .class_ 1), (0, u "java/lang/Object"), (0, .class_ 3)] 3

/-- java/lang/Cloneable -/
def k8 : Class := { plain "java/lang/Cloneable" (some 0) with
  accessFlags := 1537
  interfaces := #[]
  cf := some (fileOf pool8 2 #[] #[] 1537 4 #[] #[])
  fields := #[]
  methods := #[]
  instanceTypes := #[]
  staticTypes := #[]
  resolved := Array.replicate 8 none
  statics := none }

/-- the primitive byte -/
def k9 : Class := { plain "byte" none with kind := .primitive 'B', accessFlags := 0x411 }
/-- [B -/
def k10 : Class := { plain "[B" (some 0) with kind := .array 9 .byte, interfaces := #[8, 4], accessFlags := 1041 }

/-- the primitive int -/
def k11 : Class := { plain "int" none with kind := .primitive 'I', accessFlags := 0x411 }
/-- [I -/
def k12 : Class := { plain "[I" (some 0) with kind := .array 11 .int, interfaces := #[8, 4], accessFlags := 1041 }

def heap : Heap := #[{ cls := 6, slots := #[.ref 2, .ref 3, .ref 4, .ref 5, .null], vm := .statics 6 },
  { cls := 7, slots := #[.ref 6, .null, .ref 7, .null, .null, .null, .null, .null, .null, .null, .null, .null, .null, .null], vm := .statics 7 },
  { cls := 6, slots := #[.null, .int 0, .int 0, .null, .ref 6], vm := .none },
  { cls := 6, slots := #[.null, .int 1, .int 0, .null, .ref 7], vm := .none },
  { cls := 6, slots := #[.null, .int 2, .int 0, .null, .ref 7], vm := .none },
  { cls := 6, slots := #[.null, .int 3, .int 0, .null, .ref 7], vm := .none },
  { cls := 7, slots := #[.null, .int 0, .int 0, .null, .null], vm := .none },
  { cls := 7, slots := #[.null, .int 2, .int 0, .null, .null], vm := .none }]
def classes : Array Class := #[k0, k1, k2, k3, k4, k5, k6, k7, k8, k9, k10, k11, k12]
def interned : List (Array UInt16 × Addr) := []
def slotsUsed : Nat := 49
def theMethod : MethodId := ⟨1, 1⟩
def args0 : Array Value := #[.int 5]
def aboutOver (below : List Frame) : State where
  vm := { classes := classes, interned := interned.toArray }
  heap := heap
  slotsUsed := slotsUsed
  threads := #[{ frames := .invoking theMethod args0 :: below }]
def below0 : List Frame := [.native { method := ⟨0, 0⟩, args := #[] }]
def about1 : State := aboutOver below0
def p0 : Program := .bare "" "" ""
def e0 : Env := launch0.env 0 0 0
theorem w_frames : about1.frames = Frame.invoking theMethod args0 :: below0 := rfl
set_option maxRecDepth 65536 in
theorem w_args : argsFit about1.vm theMethod args0 = true := by decide +kernel
set_option maxRecDepth 65536 in
theorem w_heap : heapFits about1 = true := by decide +kernel
set_option maxRecDepth 65536 in
theorem w_runnable : about1.curStatus? = some .runnable := by decide +kernel
set_option maxRecDepth 65536 in
theorem w_alone : about1.alone = true := by decide +kernel
set_option maxRecDepth 65536 in
theorem w_named : about1.methodNamed? x = some theMethod := by decide +kernel
set_option maxRecDepth 65536 in
theorem w_hears : about1.hears theMethod below0 = true := by decide +kernel
set_option maxRecDepth 65536 in
theorem w_ripe : about1.ripe theMethod args0 below0 = true := by decide +kernel
theorem w_running : about1.status = .running := rfl
set_option maxRecDepth 65536 in
theorem w_room : about1.hasRoom e0.platform room_1 = true :=
  launch0.hasRoom_least _ room_1 (by decide +kernel) (by decide +kernel) (by decide +kernel) (by decide +kernel) (by decide +kernel) (by decide +kernel)
theorem allAtoms_all (ts : List Jvm.Cond) (a : Array Jvm.Value) (st : Jvm.State) : (allAtoms ts).before a st = ts.all (fun c => c.before a st) := by
  induction ts with
  | nil => rfl
  | cons c t ih =>
    show (Jvm.Cond.and c (allAtoms t)).before a st = _
    rw [Jvm.Cond.before_and, ih, List.all_cons]
def words1 : List Jvm.Cond := Jvm.Cond.code x code maxLocals ret :: tables_1
/-- a 'code' word, met by the world's own term for the bytes: nothing is compared byte by byte -/
theorem code_word {y : MethodName} {bytes : ByteArray} {mx : Nat} {rt : Option FieldType} {a : Array Value} {s : State} {m : MethodId} {meth : Method} {c : Code} (h1 : s.methodNamed? y = some m) (h2 : s.vm.method? m = some meth) (h3 : meth.code = some c) (h4 : c.code = bytes)
    (h5 : (c.maxLocals == mx && c.exceptionTable.isEmpty && decide (c.maxStack ≤ mostOperands) && decide (meth.sig.returnType = rt) && !meth.locks && decide (parseMethodDescriptor y.desc = some meth.sig)) = true) : (Jvm.Cond.code y bytes mx rt).before a s = true := by
  simp only [Bool.and_eq_true, beq_iff_eq, Bool.not_eq_true', decide_eq_true_eq] at h5
  obtain ⟨⟨⟨⟨⟨g1, g2⟩, g3⟩, g4⟩, g5⟩, g6⟩ := h5
  simp [Cond.before, Cond.holds, Cond.value, h1, h2, h3, h4, g1, g2, g3, g4, g5, g6]
def isCode : Jvm.Cond → Bool
  | .code _ _ _ _ => true
  | _ => false
theorem all_split {L : List Jvm.Cond} {P : Jvm.Cond → Bool} (h1 : L.all (fun c => isCode c || P c) = true) (h2 : ∀ c ∈ L.filter isCode, P c = true) : L.all P = true := by
  refine List.all_eq_true.mpr fun c hc => ?_
  have h := List.all_eq_true.mp h1 c hc
  rcases Bool.eq_false_or_eq_true (isCode c) with hi | hi
  · exact h2 c (List.mem_filter.mpr ⟨hc, hi⟩)
  · simpa [hi] using h
set_option maxRecDepth 65536 in
theorem w_c0 : (Jvm.Cond.code x code maxLocals ret).before args0 about1 = true := code_word (m := ⟨1, 1⟩) (meth := k1m1) (c := k1c1) (by decide +kernel) rfl rfl rfl (by decide +kernel)
set_option maxRecDepth 65536 in
theorem w_c1 : (Jvm.Cond.code ({ cls := "com/example/millrace/millrace/formats/CopybookItem$Kind", name := "numeric", desc := "()Z" } : Jvm.MethodName) prog_61_method_6_code (1 : Nat) (Option.some Jvm.ClassFile.FieldType.boolean)).before args0 about1 = true := code_word (m := ⟨6, 1⟩) (meth := k6m1) (c := k6c1) (by decide +kernel) rfl rfl rfl (by decide +kernel)
set_option maxRecDepth 65536 in
theorem w_c2 : (Jvm.Cond.code ({ cls := "com/example/millrace/millrace/formats/CopybookItem$Kind", name := "fieldType", desc := "()Lcom/example/millrace/millrace/engine/FieldType;" } : Jvm.MethodName) prog_61_method_5_code (1 : Nat) (Option.some (Jvm.ClassFile.FieldType.object "com/example/millrace/millrace/engine/FieldType"))).before args0 about1 = true := code_word (m := ⟨6, 0⟩) (meth := k6m0) (c := k6c0) (by decide +kernel) rfl rfl rfl (by decide +kernel)
def codes1 : List Jvm.Cond := [Jvm.Cond.code x code maxLocals ret, Jvm.Cond.code ({ cls := "com/example/millrace/millrace/formats/CopybookItem$Kind", name := "numeric", desc := "()Z" } : Jvm.MethodName) prog_61_method_6_code (1 : Nat) (Option.some Jvm.ClassFile.FieldType.boolean), Jvm.Cond.code ({ cls := "com/example/millrace/millrace/formats/CopybookItem$Kind", name := "fieldType", desc := "()Lcom/example/millrace/millrace/engine/FieldType;" } : Jvm.MethodName) prog_61_method_5_code (1 : Nat) (Option.some (Jvm.ClassFile.FieldType.object "com/example/millrace/millrace/engine/FieldType"))]
set_option maxRecDepth 65536 in
theorem codes_eq : words1.filter isCode = codes1 := rfl
theorem w_codes : ∀ c ∈ words1.filter isCode, c.before args0 about1 = true := by
  rw [codes_eq]
  intro c hc
  simp only [codes1, List.mem_cons, List.not_mem_nil, or_false] at hc
  rcases hc with rfl | rfl | rfl
  · exact w_c0
  · exact w_c1
  · exact w_c2
set_option maxRecDepth 65536 in
theorem w_t1 : (words1.take 24).all (fun c => isCode c || c.before args0 about1) = true := by decide +kernel
set_option maxRecDepth 65536 in
theorem w_t2 : (words1.drop 24).all (fun c => isCode c || c.before args0 about1) = true := by decide +kernel
theorem w_tables : (allAtoms (Jvm.Cond.code x code maxLocals ret :: tables_1)).before args0 about1 = true := by
  rw [allAtoms_all]
  show words1.all (fun c => c.before args0 about1) = true
  refine all_split ?_ w_codes
  rw [← List.take_append_drop 24 words1, List.all_append, w_t1, w_t2]
  rfl
set_option maxRecDepth 65536 in
theorem w_case : (Jvm.Cond.and given_1 narrow_1).before args0 about1 = true := by decide +kernel
theorem w_applies : (headSpec (Jvm.Cond.code x code maxLocals ret :: tables_1) room_1).applies x e0.platform about1 = true :=
  (Spec.applies_iff w_frames).mpr ⟨w_running, w_runnable, w_alone, w_named, w_hears, w_ripe, w_room, w_tables⟩
theorem atStart : AtStart classFile x code maxLocals ret World_1 tables_1 room_1 Calls_1 rest_1 Pre_1 launch0 p0 e0 about1 theMethod args0 below0 :=
  ⟨lists_1, trivial, launch0.admits_env _ _ _, launch0.least_env, fairChoices_fair.cas, fairChoices_fair.clock, w_frames, w_args, w_heap, w_applies, trivial, trivial, w_case⟩
end start1
theorem witness_1 : WitnessClaimed_1 := ⟨start1.p0, start1.e0, start1.about1, start1.theMethod, start1.args0, start1.below0, start1.atStart⟩
end Jvm.Pilot.@@N@@
