import JvmDerived
import JvmDerived.Pilot.@@N@@Statement
import JvmDerived.Pilot.@@N@@Code
set_option linter.unusedVariables false
set_option linter.unusedSimpArgs false
namespace Jvm.Pilot.@@N@@
open Jvm Jvm.ClassFile Sem Op Lib Jvm.Free Jvm.Stand Jvm.LawKit Jvm.RoadKit Bundle Jvm.Pilot.@@N@@.Jvm.D
section Own
variable {p : Program} {l : Launch} {e : Env} {R : Room} {s : State} {m : MethodId} {args : Array Value} {below : List Frame} {meth : Method} {c : Code} {T : State} {locs : List Loc} {cells slots : Nat} {P : Outcome → State → Prop}
/-- from S the run comes to an end that answers -/
def own_Fin (p : Program) (e : Env) (below : List Frame) (P : Outcome → State → Prop) (S : State) : Prop := ∃ s₂ o, Steps p.tables e below S s₂ ∧ s₂.status = .running ∧ Ended s₂ below o ∧ P o s₂
def own_Ans (s : State) (Q : Option Value → Heap → List Loc → Prop) (k n : Nat) (o : Outcome) (t : State) : Prop := ∃ v L, o = .returned v ∧ Q v t.heap L ∧ FrameEnd s o t L k n
theorem own_on {A B : State} (k : ∀ t, Steps p.tables e below B t → Steps p.tables e below A t) (h : own_Fin p e below P B) : own_Fin p e below P A := by
  obtain ⟨s₂, o, h1, h2⟩ := h
  exact ⟨s₂, o, k _ h1, h2⟩
theorem own_via {A B : State} (k : Steps p.tables e below A B) (h : own_Fin p e below P B) : own_Fin p e below P A := own_on (fun _ r => k.trans r) h
theorem own_cast {g g' : JFrame} (q : g = g') (h : own_Fin p e below P (T.setTop g')) : own_Fin p e below P (T.setTop g) := q ▸ h
theorem own_ret {Q : Option Value → Heap → List Loc → Prop} {k n : Nat} (X : Stand p l e R s m args below meth c T locs cells slots) (hx : p.tables.exec = Jvm.exec) (hlk : meth.locks = false) {pc : Nat} {Ls : Array Slot} {w : Value} {t : FieldType} {i : Instr} {rest : List Value} (hret : meth.sig.returnType = some t) (hn : narrow t w = w)
    (hi : (i = .ireturn ∧ (t = .int ∨ t = .boolean ∨ t = .byte ∨ t = .char ∨ t = .short) ∧ ∃ z, w = .int z) ∨ (i = .lreturn ∧ t = .long ∧ ∃ z, w = .long z) ∨ (i = .dreturn ∧ t = .double ∧ ∃ z, w = .double z) ∨ (i = .freturn ∧ t = .float ∧ ∃ z, w = .float z) ∨ (i = .areturn ∧ t.isReference = true ∧ w.isRef = true))
    (hd : decode c.code pc = .ok (i, 1)) (hQ : Q (some w) T.heap locs) (hk : cells ≤ k) (hs : slots ≤ n) : own_Fin p e below (own_Ans s Q k n) (T.setTop (mkF m pc Ls (w :: rest))) := by
  obtain ⟨fs, hr, hrun, hended, hW, hsame⟩ := X.leave (v := some w) (fun h => by rw [hret] at h; cases h) hlk
  exact ⟨_, _, retOut X hx hret hn hi hd hr, hrun, hended, _, _, rfl, hQ, ⟨_, rfl⟩, hW, hsame.mono hk hs⟩
theorem own_retV {Q : Option Value → Heap → List Loc → Prop} {k n : Nat} (X : Stand p l e R s m args below meth c T locs cells slots) (hx : p.tables.exec = Jvm.exec) (hlk : meth.locks = false) {pc : Nat} {Ls : Array Slot} (hret : meth.sig.returnType = none)
    (hd : decode c.code pc = .ok (.return_, 1)) (hQ : Q none T.heap locs) (hk : cells ≤ k) (hs : slots ≤ n) : own_Fin p e below (own_Ans s Q k n) (T.setTop (mkF m pc Ls [])) := by
  obtain ⟨fs, hr, hrun, hended, hW, hsame⟩ := X.leave (v := none) (fun _ => rfl) hlk
  exact ⟨_, _, X.returnOut hx hret hd hr, hrun, hended, _, _, rfl, hQ, ⟨_, rfl⟩, hW, hsame.mono hk hs⟩
theorem own_b1 {P : Prop} [Decidable P] (h : P) : ¬ ((if P then (1 : Int32) else 0) = 0) := by simp [h]
theorem own_b0 {P : Prop} [Decidable P] (h : ¬ P) : (if P then (1 : Int32) else 0) = 0 := by simp [h]
theorem own_nb {P : Prop} [Decidable P] : narrow .boolean (.int (if P then (1 : Int32) else 0)) = .int (if P then (1 : Int32) else 0) := by split <;> rfl
theorem own_iI {t : FieldType} (h : t = .int ∨ t = .boolean ∨ t = .byte ∨ t = .char ∨ t = .short) {w : Value} {z : Int32} (hw : w = .int z) : ((Instr.ireturn = .ireturn ∧ (t = .int ∨ t = .boolean ∨ t = .byte ∨ t = .char ∨ t = .short) ∧ ∃ z, w = .int z) ∨ (Instr.ireturn = .lreturn ∧ t = .long ∧ ∃ z, w = .long z) ∨ (Instr.ireturn = .dreturn ∧ t = .double ∧ ∃ z, w = .double z) ∨ (Instr.ireturn = .freturn ∧ t = .float ∧ ∃ z, w = .float z) ∨ (Instr.ireturn = .areturn ∧ t.isReference = true ∧ w.isRef = true)) := Or.inl ⟨rfl, h, z, hw⟩
theorem own_ne_of {Z : State} {h : Heap} {x : Addr} (q : x < h.size) {b : Addr} (g : b = h.size) : x ≠ b := Nat.ne_of_lt (Nat.lt_of_lt_of_le q (Nat.le_of_eq g.symm))
theorem own_eqf {a0 : Array Value} {C n d : String} {t : Term} {a : Addr} {k : Int32} (ev : t.eval a0 s none [] s = some (.ref a)) (h : (Jvm.Cond.eq (.field t C n d) (.int k)).value a0 s none s [] = some true) : Fld s s.heap a C n d (.int k) := by
  obtain ⟨x, y, h1, h2, h3, -⟩ := cmp_v (Or.inl h)
  have hy : y = .int k := (Option.some.inj ((show (Term.int k).eval a0 s none [] s = some (.int k) from rfl).symm.trans h2)).symm
  subst hy
  cases x <;> simp [Kin, Value.isRef] at h3
  rename_i z
  have hz : z = k := by
    have q := h
    simp only [Cond.value, h1, show (Term.int k).eval a0 s none [] s = some (.int k) from rfl] at q
    simpa using q
  subst hz
  exact Fld.start ((fld_at ev).symm.trans h1)
theorem own_len {a0 : Array Value} {t : Term} {a : Addr} {cl : Cell} {z : Int32} (ht : t.eval a0 s none [] s = some (.ref a)) (ha : s.arrayAt? a = some cl) (h : (Term.length t).eval a0 s none [] s = some (.int z)) : cl.slots.size < 2 ^ 31 ∧ cl.slots.size.toInt32 = z := by
  by_cases hl : cl.slots.size < 2 ^ 31
  · rw [len_f ht ha hl] at h
    exact ⟨hl, by simpa using h⟩
  · have hl' : ¬ cl.slots.size < 2147483648 := hl
    simp [Term.eval, ht, ha, hl'] at h
theorem own_sub {a0 : Array Value} {t u : Term} {idx : List Nat} {x y : Int32} (h1 : t.eval a0 s none idx s = some (.int x)) (h2 : u.eval a0 s none idx s = some (.int y)) : (Term.sub t u).eval a0 s none idx s = some (.int (x - y)) := by simp [Term.eval, h1, h2]
theorem own_eqx {a0 : Array Value} {t u : Term} {b : Addr} (eu : u.eval a0 s none [] s = some (.ref b)) (h : (Jvm.Cond.eq t u).value a0 s none s [] = some true) : t.eval a0 s none [] s = some (.ref b) := by
  obtain ⟨x, y, h1, h2, h3, -⟩ := cmp_v (Or.inl h)
  cases eu.symm.trans h2
  have hr : x.isRef = true := by cases x <;> simp [Kin, Value.isRef] at h3 ⊢
  have q := gotT (eq_R h1 eu hr rfl) h
  subst q
  exact h1
theorem own_eqr {a0 : Array Value} {C n d : String} {t u : Term} {a b : Addr} (ev : t.eval a0 s none [] s = some (.ref a)) (eu : u.eval a0 s none [] s = some (.ref b)) (h : (Jvm.Cond.eq (.field t C n d) u).value a0 s none s [] = some true) : Fld s s.heap a C n d (.ref b) := by
  obtain ⟨x, y, h1, h2, h3, -⟩ := cmp_v (Or.inl h)
  cases eu.symm.trans h2
  have hr : x.isRef = true := by cases x <;> simp [Kin, Value.isRef] at h3 ⊢
  have q := gotT (eq_R h1 eu hr rfl) h
  subst q
  exact Fld.start ((fld_at ev).symm.trans h1)
end Own
theorem pn_0 : plainName "com/example/covenantry/covenantry/redemption/YieldReading" = true := by first | (simp [plainName, overriddenIn]; done) | decide +kernel
theorem d1_0 : decode prog_28_method_9_code 0 = .ok (.aload_n 0, 1) := by decide +kernel
theorem d1_1 : decode prog_28_method_9_code 1 = .ok (.getstatic 7, 3) := by decide +kernel
theorem d1_4 : decode prog_28_method_9_code 4 = .ok (.if_acmp .ne 7, 3) := by decide +kernel
theorem d1_7 : decode prog_28_method_9_code 7 = .ok (.iconst 1, 1) := by decide +kernel
theorem d1_8 : decode prog_28_method_9_code 8 = .ok (.goto 4, 3) := by decide +kernel
theorem d1_12 : decode prog_28_method_9_code 12 = .ok (.ireturn, 1) := by decide +kernel
theorem d1_11 : decode prog_28_method_9_code 11 = .ok (.iconst 0, 1) := by decide +kernel
theorem ef_rm1 (m : MethodId) (x0 : Addr) : entryFrame m #[(.ref x0)] 1 = mkF m 0 #[.val (.ref x0)] [] := by first | (simp [entryFrame, mkF, argsToLocals, Value.category]; done) | rfl
def Q1 (Z : State) (a1 : Addr) (aW : Addr) (b : Int32) (h0 : Heap) (n0 : Nat) (v : Option Value) (h : Heap) (L : List Loc) : Prop := v = some (.int b) ∧ Fr n0 L ∧ h = h0
set_option maxRecDepth 65536 in
set_option maxHeartbeats 40000000 in
theorem rm1 (l : Launch) (Z : State) (a0 : Array Value) (hw : ∀ d ∈ tables_1, d.before a0 Z = true) (ws : List Jvm.Cond) (a1 : Addr) (aW : Addr) (b : Int32) (h0 : Heap) (n0 : Nat) (Z0 : n0 ≤ h0.size) (sW : Sta Z h0 "com/example/covenantry/covenantry/redemption/YieldReading" "WEEKLY" "Lcom/example/covenantry/covenantry/redemption/YieldReading;" (.ref aW)) (hbb : b = if a1 = aW then (1 : Int32) else 0) :
    MetFree l (⟨"com/example/covenantry/covenantry/redemption/YieldReading", "needsNoticeDate", "()Z"⟩ : MethodName) (head1 (Jvm.Cond.code (⟨"com/example/covenantry/covenantry/redemption/YieldReading", "needsNoticeDate", "()Z"⟩ : MethodName) prog_28_method_9_code 1 (some .boolean) :: ws) ({ frames := 0, cells := 0, slots := 0, locals := 0 } : Room)) (fun as_ U => as_ = #[(.ref a1)] ∧ Z.Warmed39 U.vm ∧ U.heap = h0) (fun _ _ _ _ _ => True) (fun _ U out_ U' => ∃ v L, out_ = .returned v ∧ Q1 Z a1 aW b h0 n0 v U'.heap L ∧ FrameEnd U out_ U' L ({ frames := 0, cells := 0, slots := 0, locals := 0 } : Room).cells ({ frames := 0, cells := 0, slots := 0, locals := 0 } : Room).slots) := by
  refine MetFree.of_bodySF (plainFor_of_name pn_0) hisR ?_
  intro p e s m args below meth cd s₁ Bd hml0 hP hK
  obtain ⟨rfl, hZ, hh⟩ := hP
  have hx := Bd.exec
  have hby := Bd.bytes
  have hml : cd.maxLocals = 1 := hml0
  have hlk : meth.locks = false := BodyLoose.notSynchronized Bd
  have hown : s.vm.findClass "com/example/covenantry/covenantry/redemption/YieldReading" = some m.cls := findClass_of_methodNamed Bd.named
  have hnm := (name_of_methodNamed Bd.named Bd.method).1
  have hret := Bd.returns
  have X0 : Stand p l e ({ frames := 0, cells := 0, slots := 0, locals := 0 } : Room) s m #[(.ref a1)] below meth cd s₁ [] 0 0 := Stand.of_body Bd
  have e0 : s₁.heap = h0 := by rw [← hh, Bd.state]; rfl
  have N0 := Fr.nil n0
  show own_Fin p e below (own_Ans s (Q1 Z a1 aW b h0 n0) ({ frames := 0, cells := 0, slots := 0, locals := 0 } : Room).cells ({ frames := 0, cells := 0, slots := 0, locals := 0 } : Room).slots) (s₁.setTop (entryFrame m #[(.ref a1)] 1))
  refine own_cast (ef_rm1 m a1) ?_
  show own_Fin p e below _ (s₁.setTop (mkF m 0 #[.val (.ref a1)] []))
  refine own_on (fun t => XS.aloadN X0.here hx rfl (hb hby d1_0) rfl rfl) ?_
  show own_Fin p e below _ (s₁.setTop (mkF m 1 #[.val (.ref a1)] [(.ref a1)]))
  obtain ⟨T1, X1, e1, st1⟩ := getS2 X0 hx hZ hown (host := "") (Or.inl (hw _ (List.mem_of_getElem? (i := 8) rfl))) Via.refl e0 sW (g := (mkF m 1 #[.val (.ref a1)] [(.ref a1)])) rfl (hb hby d1_1)
  refine own_on st1 ?_
  show own_Fin p e below _ (T1.setTop (mkF m 4 #[.val (.ref a1)] [(.ref aW), (.ref a1)]))
  by_cases ha2 : a1 = aW
  · refine own_on (fun t => Jvm.RoadKit.acmp (g := (mkF m 4 #[.val (.ref a1)] [(.ref aW), (.ref a1)])) X1 hx rfl rfl rfl (pc0 := 4) (pc' := 7) (same := true) rfl (hb hby d1_4) rfl (decide_eq_true (congrArg Value.ref ha2)) (by decide) (by decide)) ?_
    show own_Fin p e below _ (T1.setTop (mkF m 7 #[.val (.ref a1)] []))
    refine own_on (fun t => XS.iconst X1.here hx rfl (hb hby d1_7)) ?_
    show own_Fin p e below _ (T1.setTop (mkF m 8 #[.val (.ref a1)] [(.int (1 : Int32))]))
    refine own_on (fun t => XS.goto X1.here hx rfl (pc0 := 8) (pc' := 12) rfl (hb hby d1_8) (by decide) (by decide)) ?_
    show own_Fin p e below _ (T1.setTop (mkF m 12 #[.val (.ref a1)] [(.int (1 : Int32))]))
    exact own_ret (t := .boolean) X1 hx hlk hret rfl (Or.inl ⟨rfl, (by simp), _, rfl⟩) (hb hby d1_12) (⟨by rw [hbb]; simp [ha2], N0, e1⟩) (by decide) (by decide)
  · refine own_on (fun t => Jvm.RoadKit.acmp (g := (mkF m 4 #[.val (.ref a1)] [(.ref aW), (.ref a1)])) X1 hx rfl rfl rfl (pc0 := 4) (pc' := 11) (same := false) rfl (hb hby d1_4) rfl (decide_eq_false fun q => ha2 (Value.ref.inj q)) (by decide) (by decide)) ?_
    show own_Fin p e below _ (T1.setTop (mkF m 11 #[.val (.ref a1)] []))
    refine own_on (fun t => XS.iconst X1.here hx rfl (hb hby d1_11)) ?_
    show own_Fin p e below _ (T1.setTop (mkF m 12 #[.val (.ref a1)] [(.int (0 : Int32))]))
    exact own_ret (t := .boolean) X1 hx hlk hret rfl (Or.inl ⟨rfl, (by simp), _, rfl⟩) (hb hby d1_12) (⟨by rw [hbb]; simp [ha2], N0, e1⟩) (by decide) (by decide)
theorem d2_0 : decode prog_28_method_8_code 0 = .ok (.aload_n 0, 1) := by decide +kernel
theorem d2_1 : decode prog_28_method_8_code 1 = .ok (.getfield 33, 3) := by decide +kernel
theorem d2_4 : decode prog_28_method_8_code 4 = .ok (.areturn, 1) := by decide +kernel
theorem ef_rm2 (m : MethodId) (x0 : Addr) : entryFrame m #[(.ref x0)] 1 = mkF m 0 #[.val (.ref x0)] [] := by first | (simp [entryFrame, mkF, argsToLocals, Value.category]; done) | rfl
def Q2 (Z : State) (a1 : Addr) (f : Addr) (h0 : Heap) (n0 : Nat) (v : Option Value) (h : Heap) (L : List Loc) : Prop := v = some (.ref f) ∧ Fr n0 L ∧ h = h0
set_option maxRecDepth 65536 in
set_option maxHeartbeats 40000000 in
theorem rm2 (l : Launch) (Z : State) (a0 : Array Value) (hw : ∀ d ∈ tables_1, d.before a0 Z = true) (ws : List Jvm.Cond) (a1 : Addr) (f : Addr) (h0 : Heap) (n0 : Nat) (Z0 : n0 ≤ h0.size) (F : Fld Z h0 a1 "com/example/covenantry/covenantry/redemption/YieldReading" "table" "Lcom/example/covenantry/covenantry/input/YieldTable$Kind;" (.ref f)) :
    MetFree l (⟨"com/example/covenantry/covenantry/redemption/YieldReading", "table", "()Lcom/example/covenantry/covenantry/input/YieldTable$Kind;"⟩ : MethodName) (head1 (Jvm.Cond.code (⟨"com/example/covenantry/covenantry/redemption/YieldReading", "table", "()Lcom/example/covenantry/covenantry/input/YieldTable$Kind;"⟩ : MethodName) prog_28_method_8_code 1 (some (.object "com/example/covenantry/covenantry/input/YieldTable$Kind")) :: ws) ({ frames := 0, cells := 0, slots := 0, locals := 0 } : Room)) (fun as_ U => as_ = #[(.ref a1)] ∧ Z.Warmed39 U.vm ∧ U.heap = h0) (fun _ _ _ _ _ => True) (fun _ U out_ U' => ∃ v L, out_ = .returned v ∧ Q2 Z a1 f h0 n0 v U'.heap L ∧ FrameEnd U out_ U' L ({ frames := 0, cells := 0, slots := 0, locals := 0 } : Room).cells ({ frames := 0, cells := 0, slots := 0, locals := 0 } : Room).slots) := by
  refine MetFree.of_bodySF (plainFor_of_name pn_0) hisR ?_
  intro p e s m args below meth cd s₁ Bd hml0 hP hK
  obtain ⟨rfl, hZ, hh⟩ := hP
  have hx := Bd.exec
  have hby := Bd.bytes
  have hml : cd.maxLocals = 1 := hml0
  have hlk : meth.locks = false := BodyLoose.notSynchronized Bd
  have hown : s.vm.findClass "com/example/covenantry/covenantry/redemption/YieldReading" = some m.cls := findClass_of_methodNamed Bd.named
  have hnm := (name_of_methodNamed Bd.named Bd.method).1
  have hret := Bd.returns
  have X0 : Stand p l e ({ frames := 0, cells := 0, slots := 0, locals := 0 } : Room) s m #[(.ref a1)] below meth cd s₁ [] 0 0 := Stand.of_body Bd
  have e0 : s₁.heap = h0 := by rw [← hh, Bd.state]; rfl
  have N0 := Fr.nil n0
  show own_Fin p e below (own_Ans s (Q2 Z a1 f h0 n0) ({ frames := 0, cells := 0, slots := 0, locals := 0 } : Room).cells ({ frames := 0, cells := 0, slots := 0, locals := 0 } : Room).slots) (s₁.setTop (entryFrame m #[(.ref a1)] 1))
  refine own_cast (ef_rm2 m a1) ?_
  show own_Fin p e below _ (s₁.setTop (mkF m 0 #[.val (.ref a1)] []))
  refine own_on (fun t => XS.aloadN X0.here hx rfl (hb hby d2_0) rfl rfl) ?_
  show own_Fin p e below _ (s₁.setTop (mkF m 1 #[.val (.ref a1)] [(.ref a1)]))
  obtain ⟨T3, X3, e3, st3⟩ := getF X0 hx hZ hown (host := "") (Or.inl (hw _ (List.mem_of_getElem? (i := 15) rfl))) Via.refl e0 F (g := (mkF m 1 #[.val (.ref a1)] [(.ref a1)])) rfl rfl (hb hby d2_1)
  refine own_on st3 ?_
  show own_Fin p e below _ (T3.setTop (mkF m 4 #[.val (.ref a1)] [(.ref f)]))
  exact own_ret (t := (.object "com/example/covenantry/covenantry/input/YieldTable$Kind")) X3 hx hlk hret rfl (Or.inr (Or.inr (Or.inr (Or.inr ⟨rfl, rfl, rfl⟩)))) (hb hby d2_4) (⟨rfl, N0, e3⟩) (by decide) (by decide)
theorem pn_1 : plainName "com/example/covenantry/covenantry/redemption/YieldReadingNeedsNoticeDatePinLaw" = true := by first | (simp [plainName, overriddenIn]; done) | decide +kernel
theorem pd_0 : parseMethodDescriptor "()Z" = some ⟨[], some .boolean⟩ := by decide +kernel
theorem pd_1 : parseMethodDescriptor "()Lcom/example/covenantry/covenantry/input/YieldTable$Kind;" = some ⟨[], some (.object "com/example/covenantry/covenantry/input/YieldTable$Kind")⟩ := by decide +kernel
theorem ef_rm0 (m : MethodId) (x0 : Int32) : entryFrame m #[(.int x0)] maxLocals = mkF m 0 #[.val (.int x0), .unset, .unset, .unset, .unset] [] := by first | (simp [entryFrame, mkF, argsToLocals, Value.category, maxLocals]; done) | rfl
def Q0 (Z : State) (p1 : Int32) (aD : Addr) (aW : Addr) (tD : Addr) (tW : Addr) (h0 : Heap) (n0 : Nat) (v : Option Value) (h : Heap) (L : List Loc) : Prop := v = some (.int 1) ∧ Fr n0 L
set_option maxRecDepth 65536 in
set_option maxHeartbeats 40000000 in
theorem rm0 (l : Launch) (Z : State) (a0 : Array Value) (hw : ∀ d ∈ tables_1, d.before a0 Z = true) (ws : List Jvm.Cond) (p1 : Int32) (aD : Addr) (aW : Addr) (tD : Addr) (tW : Addr) (h0 : Heap) (n0 : Nat) (Z0 : n0 ≤ h0.size) (SD : Sta Z h0 "com/example/covenantry/covenantry/redemption/YieldReading" "DAILY" "Lcom/example/covenantry/covenantry/redemption/YieldReading;" (.ref aD)) (SW : Sta Z h0 "com/example/covenantry/covenantry/redemption/YieldReading" "WEEKLY" "Lcom/example/covenantry/covenantry/redemption/YieldReading;" (.ref aW)) (TW : Sta Z h0 "com/example/covenantry/covenantry/input/YieldTable$Kind" "WEEKLY" "Lcom/example/covenantry/covenantry/input/YieldTable$Kind;" (.ref tW)) (ED : Exa Z h0 aD "com/example/covenantry/covenantry/redemption/YieldReading$1") (EW : Exa Z h0 aW "com/example/covenantry/covenantry/redemption/YieldReading$2") (FD : Fld Z h0 aD "com/example/covenantry/covenantry/redemption/YieldReading" "table" "Lcom/example/covenantry/covenantry/input/YieldTable$Kind;" (.ref tD)) (FW : Fld Z h0 aW "com/example/covenantry/covenantry/redemption/YieldReading" "table" "Lcom/example/covenantry/covenantry/input/YieldTable$Kind;" (.ref tW)) (neA : aD ≠ aW) (neT : tD ≠ tW) :
    MetFree l x (head1 (Jvm.Cond.code x code maxLocals ret :: ws) room_1) (fun as_ U => as_ = #[(.int p1)] ∧ Z.Warmed39 U.vm ∧ U.heap = h0) (fun _ _ _ _ _ => True) (fun _ U out_ U' => ∃ v L, out_ = .returned v ∧ Q0 Z p1 aD aW tD tW h0 n0 v U'.heap L ∧ FrameEnd U out_ U' L room_1.cells room_1.slots) := by
  refine MetFree.of_bodySF (plainFor_of_name pn_1) hisR ?_
  intro p e s m args below meth cd s₁ Bd hml0 hP hK
  obtain ⟨rfl, hZ, hh⟩ := hP
  have hx := Bd.exec
  have hby := Bd.bytes
  have hml : cd.maxLocals = 5 := hml0
  have hlk : meth.locks = false := BodyLoose.notSynchronized Bd
  have hown : s.vm.findClass "com/example/covenantry/covenantry/redemption/YieldReadingNeedsNoticeDatePinLaw" = some m.cls := findClass_of_methodNamed Bd.named
  have hnm := (name_of_methodNamed Bd.named Bd.method).1
  have hret := Bd.returns
  have X0 : Stand p l e room_1 s m #[(.int p1)] below meth cd s₁ [] 0 0 := Stand.of_body Bd
  have e0 : s₁.heap = h0 := by rw [← hh, Bd.state]; rfl
  have N0 := Fr.nil n0
  show own_Fin p e below (own_Ans s (Q0 Z p1 aD aW tD tW h0 n0) room_1.cells room_1.slots) (s₁.setTop (entryFrame m #[(.int p1)] maxLocals))
  refine own_cast (ef_rm0 m p1) ?_
  show own_Fin p e below _ (s₁.setTop (mkF m 0 #[.val (.int p1), .unset, .unset, .unset, .unset] []))
  refine own_on (fun t => XS.iloadN X0.here hx rfl (hb hby at_0) rfl) ?_
  show own_Fin p e below _ (s₁.setTop (mkF m 1 #[.val (.int p1), .unset, .unset, .unset, .unset] [(.int p1)]))
  refine own_on (fun t => XS.iconst X0.here hx rfl (hb hby at_1)) ?_
  show own_Fin p e below _ (s₁.setTop (mkF m 2 #[.val (.int p1), .unset, .unset, .unset, .unset] [(.int (1 : Int32)), (.int p1)]))
  refine own_on (fun t => XS.iand X0.here hx rfl (hb hby at_2) rfl) ?_
  show own_Fin p e below _ (s₁.setTop (mkF m 3 #[.val (.int p1), .unset, .unset, .unset, .unset] [(.int (p1 &&& (1 : Int32)))]))
  by_cases hc4 : (p1 &&& (1 : Int32)) = (0 : Int32)
  · refine own_on (fun t => XS.ifYes X0.here hx rfl (pc0 := 3) (pc' := 10) rfl (hb hby at_3) rfl ((if0 _ _).trans (teq hc4).1) (by decide) (by decide)) ?_
    show own_Fin p e below _ (s₁.setTop (mkF m 10 #[.val (.int p1), .unset, .unset, .unset, .unset] []))
    refine own_on (fun t => XS.iconst X0.here hx rfl (hb hby at_10)) ?_
    show own_Fin p e below _ (s₁.setTop (mkF m 11 #[.val (.int p1), .unset, .unset, .unset, .unset] [(.int (0 : Int32))]))
    refine own_on (fun t => XS.istoreN X0.here hx rfl (hb hby at_11) rfl (l' := #[.val (.int p1), .val (.int (0 : Int32)), .unset, .unset, .unset]) rfl) ?_
    show own_Fin p e below _ (s₁.setTop (mkF m 12 #[.val (.int p1), .val (.int (0 : Int32)), .unset, .unset, .unset] []))
    refine own_on (fun t => XS.iloadN X0.here hx rfl (hb hby at_12) rfl) ?_
    show own_Fin p e below _ (s₁.setTop (mkF m 13 #[.val (.int p1), .val (.int (0 : Int32)), .unset, .unset, .unset] [(.int (0 : Int32))]))
    refine own_on (fun t => XS.ifYes X0.here hx rfl (pc0 := 13) (pc' := 22) rfl (hb hby at_13) rfl ((if0 _ _).trans (teq (by decide : (0 : Int32) = (0 : Int32))).1) (by decide) (by decide)) ?_
    show own_Fin p e below _ (s₁.setTop (mkF m 22 #[.val (.int p1), .val (.int (0 : Int32)), .unset, .unset, .unset] []))
    obtain ⟨T5, X5, e5, st5⟩ := getS2 X0 hx hZ hown (host := "") (Or.inl (hw _ (List.mem_of_getElem? (i := 0) rfl))) Via.refl e0 SD (g := (mkF m 22 #[.val (.int p1), .val (.int (0 : Int32)), .unset, .unset, .unset] [])) rfl (hb hby at_22)
    refine own_on st5 ?_
    show own_Fin p e below _ (T5.setTop (mkF m 25 #[.val (.int p1), .val (.int (0 : Int32)), .unset, .unset, .unset] [(.ref aD)]))
    refine own_on (fun t => XS.astoreN X5.here hx rfl (hb hby at_25) rfl rfl (l' := #[.val (.int p1), .val (.int (0 : Int32)), .val (.ref aD), .unset, .unset]) rfl) ?_
    show own_Fin p e below _ (T5.setTop (mkF m 26 #[.val (.int p1), .val (.int (0 : Int32)), .val (.ref aD), .unset, .unset] []))
    refine own_on (fun t => XS.aloadN X5.here hx rfl (hb hby at_26) rfl rfl) ?_
    show own_Fin p e below _ (T5.setTop (mkF m 27 #[.val (.int p1), .val (.int (0 : Int32)), .val (.ref aD), .unset, .unset] [(.ref aD)]))
    obtain ⟨cq6, kq6, q6a, q6b, q6c⟩ := isOf hZ e5 ED
    obtain ⟨_, _, ⟨T6, L6, k6, n6⟩, -, X6, ⟨Lc6, hQ6, l6, y6, z6⟩, st6⟩ := X5.virtualBack hx (y := (⟨"com/example/covenantry/covenantry/redemption/YieldReading", "needsNoticeDate", "()Z"⟩ : MethodName)) (z := (⟨"com/example/covenantry/covenantry/redemption/YieldReading", "needsNoticeDate", "()Z"⟩ : MethodName)) hown (mvT hZ (hw _ (List.mem_of_getElem? (i := 3) rfl))) (mvT hZ (hw _ (List.mem_of_getElem? (i := 4) rfl))) (notFace_of_selects (args := #[]) (mvT hZ (hw _ (List.mem_of_getElem? (i := 6) rfl)))) (mvT hZ (hw _ (List.mem_of_getElem? (i := 6) rfl))) (mvT hZ (hw _ (List.mem_of_getElem? (i := 5) rfl))) (by decide) (backOf (W := 0) (rm1 l Z a0 hw [] aD aW (0 : Int32) h0 n0 (by exact Z0) SW (by simp [neA])) hZ (hw _ (List.mem_of_getElem? (i := 7) rfl)) (hw _ (List.mem_of_getElem? (i := 1) rfl)) (by decide) (by decide)) q6a q6c (g := (mkF m 27 #[.val (.int p1), .val (.int (0 : Int32)), .val (.ref aD), .unset, .unset] [(.ref aD)])) rfl (by rw [hml]; rfl) (Steps.refl _) (argsL := []) (rest := []) (lenOf pd_0 rfl) rfl (by show 2 * 0 + _ ≤ _; exact Nat.le_of_eq rfl) (hb hby at_27) (fun _ _ => ⟨rfl, e5, (by decide : 0 + 0 ≤ _), (by decide : 0 + 0 ≤ _)⟩)
    dsimp only [Pt.U, Pt.locs, Pt.cells, Pt.slots] at X6 l6 y6 z6 st6 hQ6
    subst l6 y6 z6
    obtain ⟨rfl, N6q, e6⟩ := hQ6
    have N6 := Fr.app N0 N6q
    refine own_via st6 ?_
    show own_Fin p e below _ (T6.setTop (mkF m 30 #[.val (.int p1), .val (.int (0 : Int32)), .val (.ref aD), .unset, .unset] [(.int (0 : Int32))]))
    refine own_on (fun t => XS.istoreN X6.here hx rfl (hb hby at_30) rfl (l' := #[.val (.int p1), .val (.int (0 : Int32)), .val (.ref aD), .val (.int (0 : Int32)), .unset]) rfl) ?_
    show own_Fin p e below _ (T6.setTop (mkF m 31 #[.val (.int p1), .val (.int (0 : Int32)), .val (.ref aD), .val (.int (0 : Int32)), .unset] []))
    refine own_on (fun t => XS.aloadN X6.here hx rfl (hb hby at_31) rfl rfl) ?_
    show own_Fin p e below _ (T6.setTop (mkF m 32 #[.val (.int p1), .val (.int (0 : Int32)), .val (.ref aD), .val (.int (0 : Int32)), .unset] [(.ref aD)]))
    obtain ⟨cq7, kq7, q7a, q7b, q7c⟩ := isOf hZ e6 ED
    obtain ⟨_, _, ⟨T7, L7, k7, n7⟩, -, X7, ⟨Lc7, hQ7, l7, y7, z7⟩, st7⟩ := X6.virtualBack hx (y := (⟨"com/example/covenantry/covenantry/redemption/YieldReading", "table", "()Lcom/example/covenantry/covenantry/input/YieldTable$Kind;"⟩ : MethodName)) (z := (⟨"com/example/covenantry/covenantry/redemption/YieldReading", "table", "()Lcom/example/covenantry/covenantry/input/YieldTable$Kind;"⟩ : MethodName)) hown (mvT hZ (hw _ (List.mem_of_getElem? (i := 10) rfl))) (mvT hZ (hw _ (List.mem_of_getElem? (i := 11) rfl))) (notFace_of_selects (args := #[]) (mvT hZ (hw _ (List.mem_of_getElem? (i := 13) rfl)))) (mvT hZ (hw _ (List.mem_of_getElem? (i := 13) rfl))) (mvT hZ (hw _ (List.mem_of_getElem? (i := 12) rfl))) (by decide) (backOf (W := 0) (rm2 l Z a0 hw [] aD tD h0 n0 (by exact Z0) FD) hZ (hw _ (List.mem_of_getElem? (i := 14) rfl)) (hw _ (List.mem_of_getElem? (i := 1) rfl)) (by decide) (by decide)) q7a q7c (g := (mkF m 32 #[.val (.int p1), .val (.int (0 : Int32)), .val (.ref aD), .val (.int (0 : Int32)), .unset] [(.ref aD)])) rfl (by rw [hml]; rfl) (Steps.refl _) (argsL := []) (rest := []) (lenOf pd_1 rfl) rfl (by show 2 * 0 + _ ≤ _; exact Nat.le_of_eq rfl) (hb hby at_32) (fun _ _ => ⟨rfl, e6, (by decide : 0 + 0 ≤ _), (by decide : 0 + 0 ≤ _)⟩)
    dsimp only [Pt.U, Pt.locs, Pt.cells, Pt.slots] at X7 l7 y7 z7 st7 hQ7
    subst l7 y7 z7
    obtain ⟨rfl, N7q, e7⟩ := hQ7
    have N7 := Fr.app N6 N7q
    refine own_via st7 ?_
    show own_Fin p e below _ (T7.setTop (mkF m 35 #[.val (.int p1), .val (.int (0 : Int32)), .val (.ref aD), .val (.int (0 : Int32)), .unset] [(.ref tD)]))
    obtain ⟨T8, X8, e8, st8⟩ := getS2 X7 hx hZ hown (host := "") (Or.inl (hw _ (List.mem_of_getElem? (i := 19) rfl))) Via.refl e7 TW (g := (mkF m 35 #[.val (.int p1), .val (.int (0 : Int32)), .val (.ref aD), .val (.int (0 : Int32)), .unset] [(.ref tD)])) rfl (hb hby at_35)
    refine own_on st8 ?_
    show own_Fin p e below _ (T8.setTop (mkF m 38 #[.val (.int p1), .val (.int (0 : Int32)), .val (.ref aD), .val (.int (0 : Int32)), .unset] [(.ref tW), (.ref tD)]))
    refine own_on (fun t => Jvm.RoadKit.acmp (g := (mkF m 38 #[.val (.int p1), .val (.int (0 : Int32)), .val (.ref aD), .val (.int (0 : Int32)), .unset] [(.ref tW), (.ref tD)])) X8 hx rfl rfl rfl (pc0 := 38) (pc' := 45) (same := false) rfl (hb hby at_38) rfl (decide_eq_false fun q => neT (Value.ref.inj q)) (by decide) (by decide)) ?_
    show own_Fin p e below _ (T8.setTop (mkF m 45 #[.val (.int p1), .val (.int (0 : Int32)), .val (.ref aD), .val (.int (0 : Int32)), .unset] []))
    refine own_on (fun t => XS.iconst X8.here hx rfl (hb hby at_45)) ?_
    show own_Fin p e below _ (T8.setTop (mkF m 46 #[.val (.int p1), .val (.int (0 : Int32)), .val (.ref aD), .val (.int (0 : Int32)), .unset] [(.int (0 : Int32))]))
    refine own_on (fun t => XS.istore X8.here hx rfl (hb hby at_46) rfl (l' := #[.val (.int p1), .val (.int (0 : Int32)), .val (.ref aD), .val (.int (0 : Int32)), .val (.int (0 : Int32))]) rfl) ?_
    show own_Fin p e below _ (T8.setTop (mkF m 48 #[.val (.int p1), .val (.int (0 : Int32)), .val (.ref aD), .val (.int (0 : Int32)), .val (.int (0 : Int32))] []))
    refine own_on (fun t => XS.iloadN X8.here hx rfl (hb hby at_48) rfl) ?_
    show own_Fin p e below _ (T8.setTop (mkF m 49 #[.val (.int p1), .val (.int (0 : Int32)), .val (.ref aD), .val (.int (0 : Int32)), .val (.int (0 : Int32))] [(.int (0 : Int32))]))
    refine own_on (fun t => XS.iloadN X8.here hx rfl (hb hby at_49) rfl) ?_
    show own_Fin p e below _ (T8.setTop (mkF m 50 #[.val (.int p1), .val (.int (0 : Int32)), .val (.ref aD), .val (.int (0 : Int32)), .val (.int (0 : Int32))] [(.int (0 : Int32)), (.int (0 : Int32))]))
    refine own_on (fun t => XS.icmpNo X8.here hx rfl (hb hby at_50) rfl (teq (by decide : (0 : Int32) = (0 : Int32))).2) ?_
    show own_Fin p e below _ (T8.setTop (mkF m 53 #[.val (.int p1), .val (.int (0 : Int32)), .val (.ref aD), .val (.int (0 : Int32)), .val (.int (0 : Int32))] []))
    refine own_on (fun t => XS.iloadN X8.here hx rfl (hb hby at_53) rfl) ?_
    show own_Fin p e below _ (T8.setTop (mkF m 54 #[.val (.int p1), .val (.int (0 : Int32)), .val (.ref aD), .val (.int (0 : Int32)), .val (.int (0 : Int32))] [(.int (0 : Int32))]))
    refine own_on (fun t => XS.iload X8.here hx rfl (hb hby at_54) rfl) ?_
    show own_Fin p e below _ (T8.setTop (mkF m 56 #[.val (.int p1), .val (.int (0 : Int32)), .val (.ref aD), .val (.int (0 : Int32)), .val (.int (0 : Int32))] [(.int (0 : Int32)), (.int (0 : Int32))]))
    refine own_on (fun t => XS.icmpNo X8.here hx rfl (hb hby at_56) rfl (teq (by decide : (0 : Int32) = (0 : Int32))).2) ?_
    show own_Fin p e below _ (T8.setTop (mkF m 59 #[.val (.int p1), .val (.int (0 : Int32)), .val (.ref aD), .val (.int (0 : Int32)), .val (.int (0 : Int32))] []))
    refine own_on (fun t => XS.iconst X8.here hx rfl (hb hby at_59)) ?_
    show own_Fin p e below _ (T8.setTop (mkF m 60 #[.val (.int p1), .val (.int (0 : Int32)), .val (.ref aD), .val (.int (0 : Int32)), .val (.int (0 : Int32))] [(.int (1 : Int32))]))
    refine own_on (fun t => XS.goto X8.here hx rfl (pc0 := 60) (pc' := 64) rfl (hb hby at_60) (by decide) (by decide)) ?_
    show own_Fin p e below _ (T8.setTop (mkF m 64 #[.val (.int p1), .val (.int (0 : Int32)), .val (.ref aD), .val (.int (0 : Int32)), .val (.int (0 : Int32))] [(.int (1 : Int32))]))
    exact own_ret (t := .boolean) X8 hx hlk hret rfl (Or.inl ⟨rfl, (by simp), _, rfl⟩) (hb hby at_64) (⟨rfl, N7⟩) (by decide) (by decide)
  · refine own_on (fun t => XS.ifNo X0.here hx rfl (hb hby at_3) rfl ((if0 _ _).trans (feq hc4).1)) ?_
    show own_Fin p e below _ (s₁.setTop (mkF m 6 #[.val (.int p1), .unset, .unset, .unset, .unset] []))
    refine own_on (fun t => XS.iconst X0.here hx rfl (hb hby at_6)) ?_
    show own_Fin p e below _ (s₁.setTop (mkF m 7 #[.val (.int p1), .unset, .unset, .unset, .unset] [(.int (1 : Int32))]))
    refine own_on (fun t => XS.goto X0.here hx rfl (pc0 := 7) (pc' := 11) rfl (hb hby at_7) (by decide) (by decide)) ?_
    show own_Fin p e below _ (s₁.setTop (mkF m 11 #[.val (.int p1), .unset, .unset, .unset, .unset] [(.int (1 : Int32))]))
    refine own_on (fun t => XS.istoreN X0.here hx rfl (hb hby at_11) rfl (l' := #[.val (.int p1), .val (.int (1 : Int32)), .unset, .unset, .unset]) rfl) ?_
    show own_Fin p e below _ (s₁.setTop (mkF m 12 #[.val (.int p1), .val (.int (1 : Int32)), .unset, .unset, .unset] []))
    refine own_on (fun t => XS.iloadN X0.here hx rfl (hb hby at_12) rfl) ?_
    show own_Fin p e below _ (s₁.setTop (mkF m 13 #[.val (.int p1), .val (.int (1 : Int32)), .unset, .unset, .unset] [(.int (1 : Int32))]))
    refine own_on (fun t => XS.ifNo X0.here hx rfl (hb hby at_13) rfl ((if0 _ _).trans (feq (by decide : ¬ ((1 : Int32) = (0 : Int32)))).1)) ?_
    show own_Fin p e below _ (s₁.setTop (mkF m 16 #[.val (.int p1), .val (.int (1 : Int32)), .unset, .unset, .unset] []))
    obtain ⟨T9, X9, e9, st9⟩ := getS2 X0 hx hZ hown (host := "") (Or.inl (hw _ (List.mem_of_getElem? (i := 21) rfl))) Via.refl e0 SW (g := (mkF m 16 #[.val (.int p1), .val (.int (1 : Int32)), .unset, .unset, .unset] [])) rfl (hb hby at_16)
    refine own_on st9 ?_
    show own_Fin p e below _ (T9.setTop (mkF m 19 #[.val (.int p1), .val (.int (1 : Int32)), .unset, .unset, .unset] [(.ref aW)]))
    refine own_on (fun t => XS.goto X9.here hx rfl (pc0 := 19) (pc' := 25) rfl (hb hby at_19) (by decide) (by decide)) ?_
    show own_Fin p e below _ (T9.setTop (mkF m 25 #[.val (.int p1), .val (.int (1 : Int32)), .unset, .unset, .unset] [(.ref aW)]))
    refine own_on (fun t => XS.astoreN X9.here hx rfl (hb hby at_25) rfl rfl (l' := #[.val (.int p1), .val (.int (1 : Int32)), .val (.ref aW), .unset, .unset]) rfl) ?_
    show own_Fin p e below _ (T9.setTop (mkF m 26 #[.val (.int p1), .val (.int (1 : Int32)), .val (.ref aW), .unset, .unset] []))
    refine own_on (fun t => XS.aloadN X9.here hx rfl (hb hby at_26) rfl rfl) ?_
    show own_Fin p e below _ (T9.setTop (mkF m 27 #[.val (.int p1), .val (.int (1 : Int32)), .val (.ref aW), .unset, .unset] [(.ref aW)]))
    obtain ⟨cq10, kq10, q10a, q10b, q10c⟩ := isOf hZ e9 EW
    obtain ⟨_, _, ⟨T10, L10, k10, n10⟩, -, X10, ⟨Lc10, hQ10, l10, y10, z10⟩, st10⟩ := X9.virtualBack hx (y := (⟨"com/example/covenantry/covenantry/redemption/YieldReading", "needsNoticeDate", "()Z"⟩ : MethodName)) (z := (⟨"com/example/covenantry/covenantry/redemption/YieldReading", "needsNoticeDate", "()Z"⟩ : MethodName)) hown (mvT hZ (hw _ (List.mem_of_getElem? (i := 3) rfl))) (mvT hZ (hw _ (List.mem_of_getElem? (i := 4) rfl))) (notFace_of_selects (args := #[]) (mvT hZ (hw _ (List.mem_of_getElem? (i := 22) rfl)))) (mvT hZ (hw _ (List.mem_of_getElem? (i := 22) rfl))) (mvT hZ (hw _ (List.mem_of_getElem? (i := 5) rfl))) (by decide) (backOf (W := 0) (rm1 l Z a0 hw [] aW aW (1 : Int32) h0 n0 (by exact Z0) SW (by simp)) hZ (hw _ (List.mem_of_getElem? (i := 7) rfl)) (hw _ (List.mem_of_getElem? (i := 1) rfl)) (by decide) (by decide)) q10a q10c (g := (mkF m 27 #[.val (.int p1), .val (.int (1 : Int32)), .val (.ref aW), .unset, .unset] [(.ref aW)])) rfl (by rw [hml]; rfl) (Steps.refl _) (argsL := []) (rest := []) (lenOf pd_0 rfl) rfl (by show 2 * 0 + _ ≤ _; exact Nat.le_of_eq rfl) (hb hby at_27) (fun _ _ => ⟨rfl, e9, (by decide : 0 + 0 ≤ _), (by decide : 0 + 0 ≤ _)⟩)
    dsimp only [Pt.U, Pt.locs, Pt.cells, Pt.slots] at X10 l10 y10 z10 st10 hQ10
    subst l10 y10 z10
    obtain ⟨rfl, N10q, e10⟩ := hQ10
    have N10 := Fr.app N0 N10q
    refine own_via st10 ?_
    show own_Fin p e below _ (T10.setTop (mkF m 30 #[.val (.int p1), .val (.int (1 : Int32)), .val (.ref aW), .unset, .unset] [(.int (1 : Int32))]))
    refine own_on (fun t => XS.istoreN X10.here hx rfl (hb hby at_30) rfl (l' := #[.val (.int p1), .val (.int (1 : Int32)), .val (.ref aW), .val (.int (1 : Int32)), .unset]) rfl) ?_
    show own_Fin p e below _ (T10.setTop (mkF m 31 #[.val (.int p1), .val (.int (1 : Int32)), .val (.ref aW), .val (.int (1 : Int32)), .unset] []))
    refine own_on (fun t => XS.aloadN X10.here hx rfl (hb hby at_31) rfl rfl) ?_
    show own_Fin p e below _ (T10.setTop (mkF m 32 #[.val (.int p1), .val (.int (1 : Int32)), .val (.ref aW), .val (.int (1 : Int32)), .unset] [(.ref aW)]))
    obtain ⟨cq11, kq11, q11a, q11b, q11c⟩ := isOf hZ e10 EW
    obtain ⟨_, _, ⟨T11, L11, k11, n11⟩, -, X11, ⟨Lc11, hQ11, l11, y11, z11⟩, st11⟩ := X10.virtualBack hx (y := (⟨"com/example/covenantry/covenantry/redemption/YieldReading", "table", "()Lcom/example/covenantry/covenantry/input/YieldTable$Kind;"⟩ : MethodName)) (z := (⟨"com/example/covenantry/covenantry/redemption/YieldReading", "table", "()Lcom/example/covenantry/covenantry/input/YieldTable$Kind;"⟩ : MethodName)) hown (mvT hZ (hw _ (List.mem_of_getElem? (i := 10) rfl))) (mvT hZ (hw _ (List.mem_of_getElem? (i := 11) rfl))) (notFace_of_selects (args := #[]) (mvT hZ (hw _ (List.mem_of_getElem? (i := 23) rfl)))) (mvT hZ (hw _ (List.mem_of_getElem? (i := 23) rfl))) (mvT hZ (hw _ (List.mem_of_getElem? (i := 12) rfl))) (by decide) (backOf (W := 0) (rm2 l Z a0 hw [] aW tW h0 n0 (by exact Z0) FW) hZ (hw _ (List.mem_of_getElem? (i := 14) rfl)) (hw _ (List.mem_of_getElem? (i := 1) rfl)) (by decide) (by decide)) q11a q11c (g := (mkF m 32 #[.val (.int p1), .val (.int (1 : Int32)), .val (.ref aW), .val (.int (1 : Int32)), .unset] [(.ref aW)])) rfl (by rw [hml]; rfl) (Steps.refl _) (argsL := []) (rest := []) (lenOf pd_1 rfl) rfl (by show 2 * 0 + _ ≤ _; exact Nat.le_of_eq rfl) (hb hby at_32) (fun _ _ => ⟨rfl, e10, (by decide : 0 + 0 ≤ _), (by decide : 0 + 0 ≤ _)⟩)
    dsimp only [Pt.U, Pt.locs, Pt.cells, Pt.slots] at X11 l11 y11 z11 st11 hQ11
    subst l11 y11 z11
    obtain ⟨rfl, N11q, e11⟩ := hQ11
    have N11 := Fr.app N10 N11q
    refine own_via st11 ?_
    show own_Fin p e below _ (T11.setTop (mkF m 35 #[.val (.int p1), .val (.int (1 : Int32)), .val (.ref aW), .val (.int (1 : Int32)), .unset] [(.ref tW)]))
    obtain ⟨T12, X12, e12, st12⟩ := getS2 X11 hx hZ hown (host := "") (Or.inl (hw _ (List.mem_of_getElem? (i := 19) rfl))) Via.refl e11 TW (g := (mkF m 35 #[.val (.int p1), .val (.int (1 : Int32)), .val (.ref aW), .val (.int (1 : Int32)), .unset] [(.ref tW)])) rfl (hb hby at_35)
    refine own_on st12 ?_
    show own_Fin p e below _ (T12.setTop (mkF m 38 #[.val (.int p1), .val (.int (1 : Int32)), .val (.ref aW), .val (.int (1 : Int32)), .unset] [(.ref tW), (.ref tW)]))
    refine own_on (fun t => Jvm.RoadKit.acmp (g := (mkF m 38 #[.val (.int p1), .val (.int (1 : Int32)), .val (.ref aW), .val (.int (1 : Int32)), .unset] [(.ref tW), (.ref tW)])) X12 hx rfl rfl rfl (pc0 := 38) (pc' := 41) (same := true) rfl (hb hby at_38) rfl (decide_eq_true rfl) (by decide) (by decide)) ?_
    show own_Fin p e below _ (T12.setTop (mkF m 41 #[.val (.int p1), .val (.int (1 : Int32)), .val (.ref aW), .val (.int (1 : Int32)), .unset] []))
    refine own_on (fun t => XS.iconst X12.here hx rfl (hb hby at_41)) ?_
    show own_Fin p e below _ (T12.setTop (mkF m 42 #[.val (.int p1), .val (.int (1 : Int32)), .val (.ref aW), .val (.int (1 : Int32)), .unset] [(.int (1 : Int32))]))
    refine own_on (fun t => XS.goto X12.here hx rfl (pc0 := 42) (pc' := 46) rfl (hb hby at_42) (by decide) (by decide)) ?_
    show own_Fin p e below _ (T12.setTop (mkF m 46 #[.val (.int p1), .val (.int (1 : Int32)), .val (.ref aW), .val (.int (1 : Int32)), .unset] [(.int (1 : Int32))]))
    refine own_on (fun t => XS.istore X12.here hx rfl (hb hby at_46) rfl (l' := #[.val (.int p1), .val (.int (1 : Int32)), .val (.ref aW), .val (.int (1 : Int32)), .val (.int (1 : Int32))]) rfl) ?_
    show own_Fin p e below _ (T12.setTop (mkF m 48 #[.val (.int p1), .val (.int (1 : Int32)), .val (.ref aW), .val (.int (1 : Int32)), .val (.int (1 : Int32))] []))
    refine own_on (fun t => XS.iloadN X12.here hx rfl (hb hby at_48) rfl) ?_
    show own_Fin p e below _ (T12.setTop (mkF m 49 #[.val (.int p1), .val (.int (1 : Int32)), .val (.ref aW), .val (.int (1 : Int32)), .val (.int (1 : Int32))] [(.int (1 : Int32))]))
    refine own_on (fun t => XS.iloadN X12.here hx rfl (hb hby at_49) rfl) ?_
    show own_Fin p e below _ (T12.setTop (mkF m 50 #[.val (.int p1), .val (.int (1 : Int32)), .val (.ref aW), .val (.int (1 : Int32)), .val (.int (1 : Int32))] [(.int (1 : Int32)), (.int (1 : Int32))]))
    refine own_on (fun t => XS.icmpNo X12.here hx rfl (hb hby at_50) rfl (teq (by decide : (1 : Int32) = (1 : Int32))).2) ?_
    show own_Fin p e below _ (T12.setTop (mkF m 53 #[.val (.int p1), .val (.int (1 : Int32)), .val (.ref aW), .val (.int (1 : Int32)), .val (.int (1 : Int32))] []))
    refine own_on (fun t => XS.iloadN X12.here hx rfl (hb hby at_53) rfl) ?_
    show own_Fin p e below _ (T12.setTop (mkF m 54 #[.val (.int p1), .val (.int (1 : Int32)), .val (.ref aW), .val (.int (1 : Int32)), .val (.int (1 : Int32))] [(.int (1 : Int32))]))
    refine own_on (fun t => XS.iload X12.here hx rfl (hb hby at_54) rfl) ?_
    show own_Fin p e below _ (T12.setTop (mkF m 56 #[.val (.int p1), .val (.int (1 : Int32)), .val (.ref aW), .val (.int (1 : Int32)), .val (.int (1 : Int32))] [(.int (1 : Int32)), (.int (1 : Int32))]))
    refine own_on (fun t => XS.icmpNo X12.here hx rfl (hb hby at_56) rfl (teq (by decide : (1 : Int32) = (1 : Int32))).2) ?_
    show own_Fin p e below _ (T12.setTop (mkF m 59 #[.val (.int p1), .val (.int (1 : Int32)), .val (.ref aW), .val (.int (1 : Int32)), .val (.int (1 : Int32))] []))
    refine own_on (fun t => XS.iconst X12.here hx rfl (hb hby at_59)) ?_
    show own_Fin p e below _ (T12.setTop (mkF m 60 #[.val (.int p1), .val (.int (1 : Int32)), .val (.ref aW), .val (.int (1 : Int32)), .val (.int (1 : Int32))] [(.int (1 : Int32))]))
    refine own_on (fun t => XS.goto X12.here hx rfl (pc0 := 60) (pc' := 64) rfl (hb hby at_60) (by decide) (by decide)) ?_
    show own_Fin p e below _ (T12.setTop (mkF m 64 #[.val (.int p1), .val (.int (1 : Int32)), .val (.ref aW), .val (.int (1 : Int32)), .val (.int (1 : Int32))] [(.int (1 : Int32))]))
    exact own_ret (t := .boolean) X12 hx hlk hret rfl (Or.inl ⟨rfl, (by simp), _, rfl⟩) (hb hby at_64) (⟨rfl, N11⟩) (by decide) (by decide)
set_option maxRecDepth 65536 in
set_option maxHeartbeats 40000000 in
theorem comes_1 {Post : Tables → Env → Array Value → State → Outcome → State → Prop} (hpost : ∀ tb e args s v u, (limb_1_1.after args s (.returned v) u = true ∧ limb_1_2.after args s (.returned v) u = true ∧ True) → FrameEnd s (.returned v) u (Jvm.fieldLocs frame_1_writes args s ++ Jvm.arrayLocs frame_1_arrays args s ++ Jvm.staticLocs frame_1_statics s) 0 0 → Post tb e args s (.returned v) u) :
    ArmFor flags0 classFile x code maxLocals ret World_1 tables_1 room_1 Calls_1 rest_1 Pre_1 Post := by
  intro l hfl _ _ p e ha hc hk s m args below hf hA hF happ hP
  obtain ⟨hcalls, hrest, hpre⟩ := hP
  obtain ⟨-, -, -, hnamed, -, -, -, hat⟩ := (Spec.applies_iff hf).mp happ
  obtain ⟨hg, hn⟩ := and_e (Cond.before_iff.mp (show (Jvm.Cond.and given_1 narrow_1).before args s = true from hpre))
  obtain ⟨ga0l, ga0r⟩ := and_e hg
  obtain ⟨na0l, na0r⟩ := and_e hn
  obtain ⟨na1l, na1r⟩ := and_e na0r
  obtain ⟨na2l, na2r⟩ := and_e na1r
  obtain ⟨na3l, na3r⟩ := and_e na2r
  obtain ⟨na4l, na4r⟩ := and_e na3r
  obtain ⟨na5l, na5r⟩ := and_e na4r
  obtain ⟨na6l, na6r⟩ := and_e na5r
  obtain ⟨w0, rfl⟩ : ∃ w0 : Value, args = #[w0] := by
    have hs : args.size = 1 := by simpa [Cond.value, given_1] using ga0l
    obtain ⟨L⟩ := args
    match L, hs with
    | [w0], _ => exact ⟨w0, rfl⟩
  have hw := fun d (hd : d ∈ tables_1) => atoms_spec (ws := Jvm.Cond.code x code maxLocals ret :: tables_1) hat d (List.mem_cons_of_mem _ hd)
  have hfit : Fit s := fun {y c} hc i hi => by
    obtain ⟨ha, rfl⟩ := Array.getElem?_eq_some_iff.mp hc
    have q := List.all_eq_true.mp ((Array.all_eq_true_iff_forall_mem.mp hF) _ (Array.getElem_mem ha)) i (List.mem_range.mpr hi)
    simpa [Array.getElem?_eq_getElem hi] using q
  obtain ⟨i0, ei0⟩ := is_v ga0r
  obtain rfl : w0 = (.int i0) := Option.some.inj ei0
  obtain ⟨a_YieldReading_DAILY, ev_YieldReading_DAILY⟩ := exa_v na0l
  have E_YieldReading_DAILY := Exa.start ev_YieldReading_DAILY na0l
  have S_YieldReading_DAILY := Sta.start ev_YieldReading_DAILY (Or.inr ⟨(hw _ (List.mem_of_getElem? (i := 1) rfl)), (hw _ (List.mem_of_getElem? (i := 2) rfl))⟩)
  obtain ⟨a_YieldReading_WEEKLY, ev_YieldReading_WEEKLY⟩ := exa_v na1l
  have E_YieldReading_WEEKLY := Exa.start ev_YieldReading_WEEKLY na1l
  have S_YieldReading_WEEKLY := Sta.start ev_YieldReading_WEEKLY (Or.inr ⟨(hw _ (List.mem_of_getElem? (i := 1) rfl)), (hw _ (List.mem_of_getElem? (i := 9) rfl))⟩)
  obtain ⟨a_YieldTable_Kind_DAILY, ev_YieldTable_Kind_DAILY⟩ := exa_v na2l
  have E_YieldTable_Kind_DAILY := Exa.start ev_YieldTable_Kind_DAILY na2l
  have S_YieldTable_Kind_DAILY := Sta.start ev_YieldTable_Kind_DAILY (Or.inr ⟨(hw _ (List.mem_of_getElem? (i := 17) rfl)), (hw _ (List.mem_of_getElem? (i := 18) rfl))⟩)
  obtain ⟨a_YieldTable_Kind_WEEKLY, ev_YieldTable_Kind_WEEKLY⟩ := exa_v na4l
  have E_YieldTable_Kind_WEEKLY := Exa.start ev_YieldTable_Kind_WEEKLY na4l
  have S_YieldTable_Kind_WEEKLY := Sta.start ev_YieldTable_Kind_WEEKLY (Or.inr ⟨(hw _ (List.mem_of_getElem? (i := 17) rfl)), (hw _ (List.mem_of_getElem? (i := 20) rfl))⟩)
  have F_YieldReading_DAILY_table := own_eqr ev_YieldReading_DAILY ev_YieldTable_Kind_DAILY na3l
  have F_YieldTable_Kind_DAILY_ordinal := own_eqf ev_YieldTable_Kind_DAILY na5l
  have F_YieldTable_Kind_WEEKLY_ordinal := own_eqf ev_YieldTable_Kind_WEEKLY na6l
  have F_YieldReading_WEEKLY_table := own_eqr ev_YieldReading_WEEKLY ev_YieldTable_Kind_WEEKLY na6r
  have neA := ne_exa E_YieldReading_DAILY E_YieldReading_WEEKLY (by decide)
  have neT := Fld.ne F_YieldTable_Kind_DAILY_ordinal F_YieldTable_Kind_WEEKLY_ordinal (by decide)
  obtain ⟨n, o, h1, h2, h3, _, L, rfl, ⟨rfl, N⟩, hq⟩ := rm0 l s _ hw tables_1 i0 a_YieldReading_DAILY a_YieldReading_WEEKLY a_YieldTable_Kind_DAILY a_YieldTable_Kind_WEEKLY s.heap s.heap.size (Nat.le_refl _) S_YieldReading_DAILY S_YieldReading_WEEKLY S_YieldTable_Kind_WEEKLY E_YieldReading_DAILY E_YieldReading_WEEKLY F_YieldReading_DAILY_table F_YieldReading_WEEKLY_table neA neT p e ha hc hk s m _ below hf ((Spec.applies_iff_loose hf).mp happ).1 ⟨rfl, State.Warmed39.refl s, rfl⟩ trivial
  refine ⟨n, _, h1, h2, h3, hpost _ _ _ _ _ _ ⟨Cond.after_iff.mpr rfl, Cond.after_iff.mpr (eq_i res_at (Term.int_eval (1)) rfl), trivial⟩ ⟨hq.1, hq.2.1, (hq.2.2.sift fun y hy => Or.inr (N y hy)).mono (by decide) (by decide)⟩⟩
theorem main_1_1 : Claimed_1_1 := comes_1 fun _ _ _ _ _ _ h hF => ⟨h.1, hF⟩
theorem main_1_2 : Claimed_1_2 := comes_1 fun _ _ _ _ _ _ h hF => ⟨h.2.1, hF⟩
end Jvm.Pilot.@@N@@
namespace Jvm.Pilot.@@N@@
open Jvm Jvm.ClassFile Sem Op Lib Jvm.Free Jvm.Stand Jvm.Pilot.@@N@@.Jvm.D
/-! MADE BY PROGRAM (witnessworld.py) out of the Statement's table words and the real class files: 15 classes; the members and pool entries that the words name. The judged class is class 1, her method 1. -/
namespace start1
open Jvm.ClassFile
def u (s : String) : CpInfo := .utf8 (stringToUtf16 s)
/-- a pool by its gaps: so many unusable entries, then the entry; so many at the end -/
def gap : Nat → List CpInfo → List CpInfo
  | 0, r => r
  | n + 1, r => .unusable :: gap n r
def poolList (es : List (Nat × CpInfo)) (last : Nat) : List CpInfo := es.foldr (fun e r => gap e.1 (e.2 :: r)) (gap last [])
def pool (es : List (Nat × CpInfo)) (last : Nat) : Array CpInfo := ⟨poolList es last⟩
def fileOf (pool : Array CpInfo) (this : Nat) (attrs : Array Attribute := #[]) (ms : Array MethodInfo := #[]) (fl : Nat := 33) (sup : Nat := 0) (ifs : Array Nat := #[]) (fds : Array FieldInfo := #[]) : ClassFile where
  minorVersion := 0
  majorVersion := 65
  constantPool := pool
  accessFlags := fl
  thisClass := this
  superClass := sup
  interfaces := ifs
  fields := fds
  methods := ms
  attributes := attrs
def plain (name : String) (sup : Option ClassId) : Class where
  name := name
  kind := .ordinary
  loader := none
  accessFlags := 33
  super := sup
  interfaces := #[]
  cf := none
  fields := #[]
  methods := #[]
  instanceTypes := #[]
  staticTypes := #[]
  resolved := #[]
  callSites := []
  init := .initialized
  statics := none
  mirror := none

def pool0 : Array CpInfo := pool [(5, u "<init>"), (0, u "()V"), (1, .class_ 10), (1, u "java/lang/Object")] 113

def k0m0 : Method := { name := "<init>", desc := "()V", sig := { parameters := [], returnType := none }, accessFlags := 1, code := none }
/-- java/lang/Object -/
def k0 : Class := { plain "java/lang/Object" none with
  accessFlags := 33
  interfaces := #[]
  cf := some (fileOf pool0 8 #[] #[{ accessFlags := 1, nameIndex := 5, descriptorIndex := 6, attributes := #[] }] 33 0 #[] #[])
  fields := #[]
  methods := #[k0m0]
  instanceTypes := #[]
  staticTypes := #[]
  resolved := Array.replicate 124 none
  statics := none }

def pool1 : Array CpInfo := pool [(2, .class_ 4), (1, u "java/lang/Object"), (0, u "<init>"), (0, u "()V"), (0, .fieldref 8 9), (0, .class_ 10), (0, .nameAndType 11 12), (0, u "com/example/covenantry/covenantry/redemption/YieldReading"), (0, u "WEEKLY"), (0, u "Lcom/example/covenantry/covenantry/redemption/YieldReading;"), (0, .fieldref 8 14), (0, .nameAndType 15 12), (0, u "DAILY"), (0, .methodref 8 17), (0, .nameAndType 18 19), (0, u "needsNoticeDate"), (0, u "()Z"), (0, .methodref 8 21), (0, .nameAndType 22 23), (0, u "table"), (0, u "()Lcom/example/covenantry/covenantry/input/YieldTable$Kind;"), (0, .fieldref 25 26), (0, .class_ 27), (0, .nameAndType 11 28), (0, u "com/example/covenantry/covenantry/input/YieldTable$Kind"), (0, u "Lcom/example/covenantry/covenantry/input/YieldTable$Kind;"), (0, .class_ 30), (0, u "com/example/covenantry/covenantry/redemption/YieldReadingNeedsNoticeDatePinLaw"), (2, u "law"), (0, u "(I)Z")] 7

def k1m0 : Method := { name := "<init>", desc := "()V", sig := { parameters := [], returnType := none }, accessFlags := 2, code := none }
def k1c1 : Code := { maxStack := 2, maxLocals := 5, code := code, exceptionTable := #[], attributes := #[] }
def k1m1 : Method := { name := "law", desc := "(I)Z", sig := { parameters := [.int], returnType := some .boolean }, accessFlags := 9, code := some k1c1 }
/-- com/example/covenantry/covenantry/redemption/YieldReadingNeedsNoticeDatePinLaw -/
def k1 : Class := { plain "com/example/covenantry/covenantry/redemption/YieldReadingNeedsNoticeDatePinLaw" (some 0) with
  accessFlags := 49
  interfaces := #[]
  cf := some (fileOf pool1 29 #[] #[{ accessFlags := 2, nameIndex := 5, descriptorIndex := 6, attributes := #[] }, { accessFlags := 9, nameIndex := 33, descriptorIndex := 34, attributes := #[] }] 49 2 #[] #[])
  fields := #[]
  methods := #[k1m0, k1m1]
  instanceTypes := #[]
  staticTypes := #[]
  resolved := Array.replicate 42 none
  statics := none }

def pool2 : Array CpInfo := pool [(1, .class_ 2), (0, u "java/lang/constant/Constable"), (0, .class_ 4), (0, u "java/lang/Object")] 6

/-- java/lang/constant/Constable -/
def k2 : Class := { plain "java/lang/constant/Constable" (some 0) with
  accessFlags := 1537
  interfaces := #[]
  cf := some (fileOf pool2 1 #[] #[] 1537 3 #[] #[])
  fields := #[]
  methods := #[]
  instanceTypes := #[]
  staticTypes := #[]
  resolved := Array.replicate 11 none
  statics := none }

def pool3 : Array CpInfo := pool [(1, .class_ 2), (0, u "java/lang/Comparable"), (0, .class_ 4), (0, u "java/lang/Object")] 7

/-- java/lang/Comparable -/
def k3 : Class := { plain "java/lang/Comparable" (some 0) with
  accessFlags := 1537
  interfaces := #[]
  cf := some (fileOf pool3 1 #[] #[] 1537 3 #[] #[])
  fields := #[]
  methods := #[]
  instanceTypes := #[]
  staticTypes := #[]
  resolved := Array.replicate 12 none
  statics := none }

def pool4 : Array CpInfo := pool [(1, .class_ 2), (0, u "java/io/Serializable"), (0, .class_ 4), (0, u "java/lang/Object")] 2

/-- java/io/Serializable -/
def k4 : Class := { plain "java/io/Serializable" (some 0) with
  accessFlags := 1537
  interfaces := #[]
  cf := some (fileOf pool4 1 #[] #[] 1537 3 #[] #[])
  fields := #[]
  methods := #[]
  instanceTypes := #[]
  staticTypes := #[]
  resolved := Array.replicate 7 none
  statics := none }

def pool5 : Array CpInfo := pool [(2, .class_ 4), (1, u "java/lang/Enum"), (0, u "name"), (0, u "Ljava/lang/String;"), (2, u "ordinal"), (0, u "I"), (1, .class_ 14), (1, u "java/lang/Object"), (4, u "hash"), (86, .class_ 108), (1, u "java/lang/Enum$EnumDesc"), (2, .class_ 112), (0, u "java/lang/constant/Constable"), (0, .class_ 114), (0, u "java/lang/Comparable"), (0, .class_ 116), (0, u "java/io/Serializable")] 87

/-- java/lang/Enum -/
def k5 : Class := { plain "java/lang/Enum" (some 0) with
  accessFlags := 1057
  interfaces := #[2, 3, 4]
  cf := some (fileOf pool5 2 #[.nestMembers #[106]] #[] 1057 12 #[111, 113, 115] #[{ accessFlags := 18, nameIndex := 5, descriptorIndex := 6, attributes := #[] }, { accessFlags := 18, nameIndex := 9, descriptorIndex := 10, attributes := #[] }, { accessFlags := 2, nameIndex := 19, descriptorIndex := 10, attributes := #[] }])
  fields := #[{ name := "name", type := (.object "java/lang/String"), accessFlags := 18, slot := 0, constantValue := 0 }, { name := "ordinal", type := .int, accessFlags := 18, slot := 1, constantValue := 0 }, { name := "hash", type := .int, accessFlags := 2, slot := 2, constantValue := 0 }]
  methods := #[]
  instanceTypes := #[(.object "java/lang/String"), .int, .int]
  staticTypes := #[]
  resolved := Array.replicate 204 none
  statics := none }

def pool6 : Array CpInfo := pool [(1, .class_ 2), (0, u "com/example/covenantry/covenantry/redemption/YieldReading"), (2, u "DAILY"), (0, u "Lcom/example/covenantry/covenantry/redemption/YieldReading;"), (0, .fieldref 1 8), (0, .nameAndType 9 6), (0, u "WEEKLY"), (2, u "$VALUES"), (0, u "[Lcom/example/covenantry/covenantry/redemption/YieldReading;"), (6, .class_ 22), (1, u "java/lang/Enum"), (8, u "label"), (0, u "Ljava/lang/String;"), (0, .fieldref 1 34), (0, .nameAndType 35 36), (0, u "table"), (0, u "Lcom/example/covenantry/covenantry/input/YieldTable$Kind;"), (8, .class_ 46), (0, u "com/example/covenantry/covenantry/redemption/YieldReading$1"), (10, .class_ 58), (0, u "com/example/covenantry/covenantry/redemption/YieldReading$2"), (10, u "HALF_MONTH_DAYS"), (0, u "I"), (20, u "()Lcom/example/covenantry/covenantry/input/YieldTable$Kind;"), (0, u "needsNoticeDate"), (0, u "()Z")] 33

def k6c0 : Code := { maxStack := 1, maxLocals := 1, code := prog_28_method_8_code, exceptionTable := #[], attributes := #[] }
def k6m0 : Method := { name := "table", desc := "()Lcom/example/covenantry/covenantry/input/YieldTable$Kind;", sig := { parameters := [], returnType := some (.object "com/example/covenantry/covenantry/input/YieldTable$Kind") }, accessFlags := 1, code := some k6c0 }
def k6c1 : Code := { maxStack := 2, maxLocals := 1, code := prog_28_method_9_code, exceptionTable := #[], attributes := #[] }
def k6m1 : Method := { name := "needsNoticeDate", desc := "()Z", sig := { parameters := [], returnType := some .boolean }, accessFlags := 1, code := some k6c1 }
/-- com/example/covenantry/covenantry/redemption/YieldReading -/
def k6 : Class := { plain "com/example/covenantry/covenantry/redemption/YieldReading" (some 5) with
  accessFlags := 17441
  interfaces := #[]
  cf := some (fileOf pool6 1 #[.nestMembers #[57, 45]] #[{ accessFlags := 1, nameIndex := 35, descriptorIndex := 91, attributes := #[] }, { accessFlags := 1, nameIndex := 92, descriptorIndex := 93, attributes := #[] }] 17441 20 #[] #[{ accessFlags := 16409, nameIndex := 5, descriptorIndex := 6, attributes := #[] }, { accessFlags := 16409, nameIndex := 9, descriptorIndex := 6, attributes := #[] }, { accessFlags := 26, nameIndex := 69, descriptorIndex := 70, attributes := #[] }, { accessFlags := 18, nameIndex := 31, descriptorIndex := 32, attributes := #[] }, { accessFlags := 18, nameIndex := 35, descriptorIndex := 36, attributes := #[] }, { accessFlags := 4122, nameIndex := 12, descriptorIndex := 13, attributes := #[] }])
  fields := #[{ name := "DAILY", type := (.object "com/example/covenantry/covenantry/redemption/YieldReading"), accessFlags := 16409, slot := 0, constantValue := 0 }, { name := "WEEKLY", type := (.object "com/example/covenantry/covenantry/redemption/YieldReading"), accessFlags := 16409, slot := 1, constantValue := 0 }, { name := "HALF_MONTH_DAYS", type := .int, accessFlags := 26, slot := 2, constantValue := 0 }, { name := "label", type := (.object "java/lang/String"), accessFlags := 18, slot := 3, constantValue := 0 }, { name := "table", type := (.object "com/example/covenantry/covenantry/input/YieldTable$Kind"), accessFlags := 18, slot := 4, constantValue := 0 }, { name := "$VALUES", type := (.array (.object "com/example/covenantry/covenantry/redemption/YieldReading")), accessFlags := 4122, slot := 3, constantValue := 0 }]
  methods := #[k6m0, k6m1]
  instanceTypes := #[(.object "java/lang/String"), .int, .int, (.object "java/lang/String"), (.object "com/example/covenantry/covenantry/input/YieldTable$Kind")]
  staticTypes := #[(.object "com/example/covenantry/covenantry/redemption/YieldReading"), (.object "com/example/covenantry/covenantry/redemption/YieldReading"), .int, (.array (.object "com/example/covenantry/covenantry/redemption/YieldReading"))]
  resolved := Array.replicate 127 none
  statics := some 0 }

def pool7 : Array CpInfo := pool [(2, .class_ 4), (1, u "com/example/covenantry/covenantry/redemption/YieldReading"), (60, .class_ 66), (0, u "com/example/covenantry/covenantry/redemption/YieldReading$1")] 53

/-- com/example/covenantry/covenantry/redemption/YieldReading$1 -/
def k7 : Class := { plain "com/example/covenantry/covenantry/redemption/YieldReading$1" (some 6) with
  accessFlags := 16432
  interfaces := #[]
  cf := some (fileOf pool7 65 #[.nestHost 2] #[] 16432 2 #[] #[])
  fields := #[]
  methods := #[]
  instanceTypes := #[(.object "java/lang/String"), .int, .int, (.object "java/lang/String"), (.object "com/example/covenantry/covenantry/input/YieldTable$Kind")]
  staticTypes := #[]
  resolved := Array.replicate 120 none
  statics := none }

def pool8 : Array CpInfo := pool [(1, .class_ 2), (0, u "com/example/covenantry/covenantry/input/YieldTable$Kind"), (2, u "DAILY"), (0, u "Lcom/example/covenantry/covenantry/input/YieldTable$Kind;"), (2, u "WEEKLY"), (2, u "$VALUES"), (0, u "[Lcom/example/covenantry/covenantry/input/YieldTable$Kind;"), (6, .class_ 22), (1, u "java/lang/Enum"), (8, u "dateColumns"), (0, u "Ljava/util/List;"), (8, u "maturities"), (58, .class_ 101), (0, u "com/example/covenantry/covenantry/input/YieldTable")] 2

/-- com/example/covenantry/covenantry/input/YieldTable$Kind -/
def k8 : Class := { plain "com/example/covenantry/covenantry/input/YieldTable$Kind" (some 5) with
  accessFlags := 16433
  interfaces := #[]
  cf := some (fileOf pool8 1 #[.nestHost 100] #[] 16433 20 #[] #[{ accessFlags := 16409, nameIndex := 5, descriptorIndex := 6, attributes := #[] }, { accessFlags := 16409, nameIndex := 9, descriptorIndex := 6, attributes := #[] }, { accessFlags := 18, nameIndex := 31, descriptorIndex := 32, attributes := #[] }, { accessFlags := 18, nameIndex := 41, descriptorIndex := 32, attributes := #[] }, { accessFlags := 4122, nameIndex := 12, descriptorIndex := 13, attributes := #[] }])
  fields := #[{ name := "DAILY", type := (.object "com/example/covenantry/covenantry/input/YieldTable$Kind"), accessFlags := 16409, slot := 0, constantValue := 0 }, { name := "WEEKLY", type := (.object "com/example/covenantry/covenantry/input/YieldTable$Kind"), accessFlags := 16409, slot := 1, constantValue := 0 }, { name := "dateColumns", type := (.object "java/util/List"), accessFlags := 18, slot := 3, constantValue := 0 }, { name := "maturities", type := (.object "java/util/List"), accessFlags := 18, slot := 4, constantValue := 0 }, { name := "$VALUES", type := (.array (.object "com/example/covenantry/covenantry/input/YieldTable$Kind")), accessFlags := 4122, slot := 2, constantValue := 0 }]
  methods := #[]
  instanceTypes := #[(.object "java/lang/String"), .int, .int, (.object "java/util/List"), (.object "java/util/List")]
  staticTypes := #[(.object "com/example/covenantry/covenantry/input/YieldTable$Kind"), (.object "com/example/covenantry/covenantry/input/YieldTable$Kind"), (.array (.object "com/example/covenantry/covenantry/input/YieldTable$Kind"))]
  resolved := Array.replicate 104 none
  statics := some 1 }

def pool9 : Array CpInfo := pool [(1, .class_ 2), (0, u "com/example/covenantry/covenantry/redemption/YieldReading"), (83, .class_ 87), (0, u "com/example/covenantry/covenantry/redemption/YieldReading$2")] 60

/-- com/example/covenantry/covenantry/redemption/YieldReading$2 -/
def k9 : Class := { plain "com/example/covenantry/covenantry/redemption/YieldReading$2" (some 6) with
  accessFlags := 16432
  interfaces := #[]
  cf := some (fileOf pool9 86 #[.nestHost 1] #[] 16432 1 #[] #[])
  fields := #[]
  methods := #[]
  instanceTypes := #[(.object "java/lang/String"), .int, .int, (.object "java/lang/String"), (.object "com/example/covenantry/covenantry/input/YieldTable$Kind")]
  staticTypes := #[]
  resolved := Array.replicate 148 none
  statics := none }

def pool10 : Array CpInfo := pool [(1, u "java/lang/Cloneable"), (0, .class_ 1), (0, u "java/lang/Object"), (0, .class_ 3)] 3

/-- java/lang/Cloneable -/
def k10 : Class := { plain "java/lang/Cloneable" (some 0) with
  accessFlags := 1537
  interfaces := #[]
  cf := some (fileOf pool10 2 #[] #[] 1537 4 #[] #[])
  fields := #[]
  methods := #[]
  instanceTypes := #[]
  staticTypes := #[]
  resolved := Array.replicate 8 none
  statics := none }

/-- the primitive byte -/
def k11 : Class := { plain "byte" none with kind := .primitive 'B', accessFlags := 0x411 }
/-- [B -/
def k12 : Class := { plain "[B" (some 0) with kind := .array 11 .byte, interfaces := #[10, 4], accessFlags := 1041 }

/-- the primitive int -/
def k13 : Class := { plain "int" none with kind := .primitive 'I', accessFlags := 0x411 }
/-- [I -/
def k14 : Class := { plain "[I" (some 0) with kind := .array 13 .int, interfaces := #[10, 4], accessFlags := 1041 }

def heap : Heap := #[{ cls := 6, slots := #[.ref 2, .ref 3, .int 0, .null], vm := .statics 6 },
  { cls := 8, slots := #[.ref 4, .ref 5, .null], vm := .statics 8 },
  { cls := 7, slots := #[.null, .int 0, .int 0, .null, .ref 4], vm := .none },
  { cls := 9, slots := #[.null, .int 1, .int 0, .null, .ref 5], vm := .none },
  { cls := 8, slots := #[.null, .int 0, .int 0, .null, .null], vm := .none },
  { cls := 8, slots := #[.null, .int 1, .int 0, .null, .null], vm := .none }]
def classes : Array Class := #[k0, k1, k2, k3, k4, k5, k6, k7, k8, k9, k10, k11, k12, k13, k14]
def interned : List (Array UInt16 × Addr) := []
def slotsUsed : Nat := 27
def theMethod : MethodId := ⟨1, 1⟩
def args0 : Array Value := #[.int 5]
def aboutOver (below : List Frame) : State where
  vm := { classes := classes, interned := interned.toArray }
  heap := heap
  slotsUsed := slotsUsed
  threads := #[{ frames := .invoking theMethod args0 :: below }]
def below0 : List Frame := [.native { method := ⟨0, 0⟩, args := #[] }]
def about1 : State := aboutOver below0
def p0 : Program := .bare "" "" ""
def e0 : Env := launch0.env 0 0 0
theorem w_frames : about1.frames = Frame.invoking theMethod args0 :: below0 := rfl
set_option maxRecDepth 65536 in
theorem w_args : argsFit about1.vm theMethod args0 = true := by decide +kernel
set_option maxRecDepth 65536 in
theorem w_heap : heapFits about1 = true := by decide +kernel
set_option maxRecDepth 65536 in
theorem w_runnable : about1.curStatus? = some .runnable := by decide +kernel
set_option maxRecDepth 65536 in
theorem w_alone : about1.alone = true := by decide +kernel
set_option maxRecDepth 65536 in
theorem w_named : about1.methodNamed? x = some theMethod := by decide +kernel
set_option maxRecDepth 65536 in
theorem w_hears : about1.hears theMethod below0 = true := by decide +kernel
set_option maxRecDepth 65536 in
theorem w_ripe : about1.ripe theMethod args0 below0 = true := by decide +kernel
theorem w_running : about1.status = .running := rfl
set_option maxRecDepth 65536 in
theorem w_room : about1.hasRoom e0.platform room_1 = true :=
  launch0.hasRoom_least _ room_1 (by decide +kernel) (by decide +kernel) (by decide +kernel) (by decide +kernel) (by decide +kernel) (by decide +kernel)
theorem allAtoms_all (ts : List Jvm.Cond) (a : Array Jvm.Value) (st : Jvm.State) : (allAtoms ts).before a st = ts.all (fun c => c.before a st) := by
  induction ts with
  | nil => rfl
  | cons c t ih =>
    show (Jvm.Cond.and c (allAtoms t)).before a st = _
    rw [Jvm.Cond.before_and, ih, List.all_cons]
def words1 : List Jvm.Cond := Jvm.Cond.code x code maxLocals ret :: tables_1
/-- a 'code' word, met by the world's own term for the bytes: nothing is compared byte by byte -/
theorem code_word {y : MethodName} {bytes : ByteArray} {mx : Nat} {rt : Option FieldType} {a : Array Value} {s : State} {m : MethodId} {meth : Method} {c : Code} (h1 : s.methodNamed? y = some m) (h2 : s.vm.method? m = some meth) (h3 : meth.code = some c) (h4 : c.code = bytes)
    (h5 : (c.maxLocals == mx && c.exceptionTable.isEmpty && decide (c.maxStack ≤ mostOperands) && decide (meth.sig.returnType = rt) && !meth.locks && decide (parseMethodDescriptor y.desc = some meth.sig)) = true) : (Jvm.Cond.code y bytes mx rt).before a s = true := by
  simp only [Bool.and_eq_true, beq_iff_eq, Bool.not_eq_true', decide_eq_true_eq] at h5
  obtain ⟨⟨⟨⟨⟨g1, g2⟩, g3⟩, g4⟩, g5⟩, g6⟩ := h5
  simp [Cond.before, Cond.holds, Cond.value, h1, h2, h3, h4, g1, g2, g3, g4, g5, g6]
def isCode : Jvm.Cond → Bool
  | .code _ _ _ _ => true
  | _ => false
theorem all_split {L : List Jvm.Cond} {P : Jvm.Cond → Bool} (h1 : L.all (fun c => isCode c || P c) = true) (h2 : ∀ c ∈ L.filter isCode, P c = true) : L.all P = true := by
  refine List.all_eq_true.mpr fun c hc => ?_
  have h := List.all_eq_true.mp h1 c hc
  rcases Bool.eq_false_or_eq_true (isCode c) with hi | hi
  · exact h2 c (List.mem_filter.mpr ⟨hc, hi⟩)
  · simpa [hi] using h
set_option maxRecDepth 65536 in
theorem w_c0 : (Jvm.Cond.code x code maxLocals ret).before args0 about1 = true := code_word (m := ⟨1, 1⟩) (meth := k1m1) (c := k1c1) (by decide +kernel) rfl rfl rfl (by decide +kernel)
set_option maxRecDepth 65536 in
theorem w_c1 : (Jvm.Cond.code ({ cls := "com/example/covenantry/covenantry/redemption/YieldReading", name := "needsNoticeDate", desc := "()Z" } : Jvm.MethodName) prog_28_method_9_code (1 : Nat) (Option.some Jvm.ClassFile.FieldType.boolean)).before args0 about1 = true := code_word (m := ⟨6, 1⟩) (meth := k6m1) (c := k6c1) (by decide +kernel) rfl rfl rfl (by decide +kernel)
set_option maxRecDepth 65536 in
theorem w_c2 : (Jvm.Cond.code ({ cls := "com/example/covenantry/covenantry/redemption/YieldReading", name := "table", desc := "()Lcom/example/covenantry/covenantry/input/YieldTable$Kind;" } : Jvm.MethodName) prog_28_method_8_code (1 : Nat) (Option.some (Jvm.ClassFile.FieldType.object "com/example/covenantry/covenantry/input/YieldTable$Kind"))).before args0 about1 = true := code_word (m := ⟨6, 0⟩) (meth := k6m0) (c := k6c0) (by decide +kernel) rfl rfl rfl (by decide +kernel)
def codes1 : List Jvm.Cond := [Jvm.Cond.code x code maxLocals ret, Jvm.Cond.code ({ cls := "com/example/covenantry/covenantry/redemption/YieldReading", name := "needsNoticeDate", desc := "()Z" } : Jvm.MethodName) prog_28_method_9_code (1 : Nat) (Option.some Jvm.ClassFile.FieldType.boolean), Jvm.Cond.code ({ cls := "com/example/covenantry/covenantry/redemption/YieldReading", name := "table", desc := "()Lcom/example/covenantry/covenantry/input/YieldTable$Kind;" } : Jvm.MethodName) prog_28_method_8_code (1 : Nat) (Option.some (Jvm.ClassFile.FieldType.object "com/example/covenantry/covenantry/input/YieldTable$Kind"))]
set_option maxRecDepth 65536 in
theorem codes_eq : words1.filter isCode = codes1 := rfl
theorem w_codes : ∀ c ∈ words1.filter isCode, c.before args0 about1 = true := by
  rw [codes_eq]
  intro c hc
  simp only [codes1, List.mem_cons, List.not_mem_nil, or_false] at hc
  rcases hc with rfl | rfl | rfl
  · exact w_c0
  · exact w_c1
  · exact w_c2
set_option maxRecDepth 65536 in
theorem w_t1 : (words1.take 24).all (fun c => isCode c || c.before args0 about1) = true := by decide +kernel
set_option maxRecDepth 65536 in
theorem w_t2 : (words1.drop 24).all (fun c => isCode c || c.before args0 about1) = true := by decide +kernel
theorem w_tables : (allAtoms (Jvm.Cond.code x code maxLocals ret :: tables_1)).before args0 about1 = true := by
  rw [allAtoms_all]
  show words1.all (fun c => c.before args0 about1) = true
  refine all_split ?_ w_codes
  rw [← List.take_append_drop 24 words1, List.all_append, w_t1, w_t2]
  rfl
set_option maxRecDepth 65536 in
theorem w_case : (Jvm.Cond.and given_1 narrow_1).before args0 about1 = true := by decide +kernel
theorem w_applies : (headSpec (Jvm.Cond.code x code maxLocals ret :: tables_1) room_1).applies x e0.platform about1 = true :=
  (Spec.applies_iff w_frames).mpr ⟨w_running, w_runnable, w_alone, w_named, w_hears, w_ripe, w_room, w_tables⟩
theorem atStart : AtStart classFile x code maxLocals ret World_1 tables_1 room_1 Calls_1 rest_1 Pre_1 launch0 p0 e0 about1 theMethod args0 below0 :=
  ⟨lists_1, trivial, launch0.admits_env _ _ _, launch0.least_env, fairChoices_fair.cas, fairChoices_fair.clock, w_frames, w_args, w_heap, w_applies, trivial, trivial, w_case⟩
end start1
theorem witness_1 : WitnessClaimed_1 := ⟨start1.p0, start1.e0, start1.about1, start1.theMethod, start1.args0, start1.below0, start1.atStart⟩
end Jvm.Pilot.@@N@@
