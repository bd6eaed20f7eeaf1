import JvmDerived
import JvmDerived.Pilot.@@N@@Statement
import JvmDerived.Pilot.@@N@@Code
set_option linter.unusedVariables false
set_option linter.unusedSimpArgs false
namespace Jvm.Pilot.@@N@@
open Jvm Jvm.ClassFile Sem Op Lib Jvm.Free Jvm.Stand Jvm.LawKit Jvm.RoadKit Bundle Jvm.Pilot.@@N@@.Jvm.D
section Own
variable {p : Program} {l : Launch} {e : Env} {R : Room} {s : State} {m : MethodId} {args : Array Value} {below : List Frame} {meth : Method} {c : Code} {T : State} {locs : List Loc} {cells slots : Nat} {P : Outcome → State → Prop}
/-- from S the run comes to an end that answers -/
def own_Fin (p : Program) (e : Env) (below : List Frame) (P : Outcome → State → Prop) (S : State) : Prop := ∃ s₂ o, Steps p.tables e below S s₂ ∧ s₂.status = .running ∧ Ended s₂ below o ∧ P o s₂
def own_Ans (s : State) (Q : Option Value → Heap → List Loc → Prop) (k n : Nat) (o : Outcome) (t : State) : Prop := ∃ v L, o = .returned v ∧ Q v t.heap L ∧ FrameEnd s o t L k n
theorem own_on {A B : State} (k : ∀ t, Steps p.tables e below B t → Steps p.tables e below A t) (h : own_Fin p e below P B) : own_Fin p e below P A := by
  obtain ⟨s₂, o, h1, h2⟩ := h
  exact ⟨s₂, o, k _ h1, h2⟩
theorem own_via {A B : State} (k : Steps p.tables e below A B) (h : own_Fin p e below P B) : own_Fin p e below P A := own_on (fun _ r => k.trans r) h
theorem own_cast {g g' : JFrame} (q : g = g') (h : own_Fin p e below P (T.setTop g')) : own_Fin p e below P (T.setTop g) := q ▸ h
theorem own_ret {Q : Option Value → Heap → List Loc → Prop} {k n : Nat} (X : Stand p l e R s m args below meth c T locs cells slots) (hx : p.tables.exec = Jvm.exec) (hlk : meth.locks = false) {pc : Nat} {Ls : Array Slot} {w : Value} {t : FieldType} {i : Instr} {rest : List Value} (hret : meth.sig.returnType = some t) (hn : narrow t w = w)
    (hi : (i = .ireturn ∧ (t = .int ∨ t = .boolean ∨ t = .byte ∨ t = .char ∨ t = .short) ∧ ∃ z, w = .int z) ∨ (i = .lreturn ∧ t = .long ∧ ∃ z, w = .long z) ∨ (i = .dreturn ∧ t = .double ∧ ∃ z, w = .double z) ∨ (i = .freturn ∧ t = .float ∧ ∃ z, w = .float z) ∨ (i = .areturn ∧ t.isReference = true ∧ w.isRef = true))
    (hd : decode c.code pc = .ok (i, 1)) (hQ : Q (some w) T.heap locs) (hk : cells ≤ k) (hs : slots ≤ n) : own_Fin p e below (own_Ans s Q k n) (T.setTop (mkF m pc Ls (w :: rest))) := by
  obtain ⟨fs, hr, hrun, hended, hW, hsame⟩ := X.leave (v := some w) (fun h => by rw [hret] at h; cases h) hlk
  exact ⟨_, _, retOut X hx hret hn hi hd hr, hrun, hended, _, _, rfl, hQ, ⟨_, rfl⟩, hW, hsame.mono hk hs⟩
theorem own_retV {Q : Option Value → Heap → List Loc → Prop} {k n : Nat} (X : Stand p l e R s m args below meth c T locs cells slots) (hx : p.tables.exec = Jvm.exec) (hlk : meth.locks = false) {pc : Nat} {Ls : Array Slot} (hret : meth.sig.returnType = none)
    (hd : decode c.code pc = .ok (.return_, 1)) (hQ : Q none T.heap locs) (hk : cells ≤ k) (hs : slots ≤ n) : own_Fin p e below (own_Ans s Q k n) (T.setTop (mkF m pc Ls [])) := by
  obtain ⟨fs, hr, hrun, hended, hW, hsame⟩ := X.leave (v := none) (fun _ => rfl) hlk
  exact ⟨_, _, X.returnOut hx hret hd hr, hrun, hended, _, _, rfl, hQ, ⟨_, rfl⟩, hW, hsame.mono hk hs⟩
theorem own_b1 {P : Prop} [Decidable P] (h : P) : ¬ ((if P then (1 : Int32) else 0) = 0) := by simp [h]
theorem own_b0 {P : Prop} [Decidable P] (h : ¬ P) : (if P then (1 : Int32) else 0) = 0 := by simp [h]
theorem own_nb {P : Prop} [Decidable P] : narrow .boolean (.int (if P then (1 : Int32) else 0)) = .int (if P then (1 : Int32) else 0) := by split <;> rfl
theorem own_iI {t : FieldType} (h : t = .int ∨ t = .boolean ∨ t = .byte ∨ t = .char ∨ t = .short) {w : Value} {z : Int32} (hw : w = .int z) : ((Instr.ireturn = .ireturn ∧ (t = .int ∨ t = .boolean ∨ t = .byte ∨ t = .char ∨ t = .short) ∧ ∃ z, w = .int z) ∨ (Instr.ireturn = .lreturn ∧ t = .long ∧ ∃ z, w = .long z) ∨ (Instr.ireturn = .dreturn ∧ t = .double ∧ ∃ z, w = .double z) ∨ (Instr.ireturn = .freturn ∧ t = .float ∧ ∃ z, w = .float z) ∨ (Instr.ireturn = .areturn ∧ t.isReference = true ∧ w.isRef = true)) := Or.inl ⟨rfl, h, z, hw⟩
theorem own_ne_of {Z : State} {h : Heap} {x : Addr} (q : x < h.size) {b : Addr} (g : b = h.size) : x ≠ b := Nat.ne_of_lt (Nat.lt_of_lt_of_le q (Nat.le_of_eq g.symm))
theorem own_eqf {a0 : Array Value} {C n d : String} {t : Term} {a : Addr} {k : Int32} (ev : t.eval a0 s none [] s = some (.ref a)) (h : (Jvm.Cond.eq (.field t C n d) (.int k)).value a0 s none s [] = some true) : Fld s s.heap a C n d (.int k) := by
  obtain ⟨x, y, h1, h2, h3, -⟩ := cmp_v (Or.inl h)
  have hy : y = .int k := (Option.some.inj ((show (Term.int k).eval a0 s none [] s = some (.int k) from rfl).symm.trans h2)).symm
  subst hy
  cases x <;> simp [Kin, Value.isRef] at h3
  rename_i z
  have hz : z = k := by
    have q := h
    simp only [Cond.value, h1, show (Term.int k).eval a0 s none [] s = some (.int k) from rfl] at q
    simpa using q
  subst hz
  exact Fld.start ((fld_at ev).symm.trans h1)
theorem own_len {a0 : Array Value} {t : Term} {a : Addr} {cl : Cell} {z : Int32} (ht : t.eval a0 s none [] s = some (.ref a)) (ha : s.arrayAt? a = some cl) (h : (Term.length t).eval a0 s none [] s = some (.int z)) : cl.slots.size < 2 ^ 31 ∧ cl.slots.size.toInt32 = z := by
  by_cases hl : cl.slots.size < 2 ^ 31
  · rw [len_f ht ha hl] at h
    exact ⟨hl, by simpa using h⟩
  · have hl' : ¬ cl.slots.size < 2147483648 := hl
    simp [Term.eval, ht, ha, hl'] at h
theorem own_sub {a0 : Array Value} {t u : Term} {idx : List Nat} {x y : Int32} (h1 : t.eval a0 s none idx s = some (.int x)) (h2 : u.eval a0 s none idx s = some (.int y)) : (Term.sub t u).eval a0 s none idx s = some (.int (x - y)) := by simp [Term.eval, h1, h2]
theorem own_eqx {a0 : Array Value} {t u : Term} {b : Addr} (eu : u.eval a0 s none [] s = some (.ref b)) (h : (Jvm.Cond.eq t u).value a0 s none s [] = some true) : t.eval a0 s none [] s = some (.ref b) := by
  obtain ⟨x, y, h1, h2, h3, -⟩ := cmp_v (Or.inl h)
  cases eu.symm.trans h2
  have hr : x.isRef = true := by cases x <;> simp [Kin, Value.isRef] at h3 ⊢
  have q := gotT (eq_R h1 eu hr rfl) h
  subst q
  exact h1
theorem own_eqr {a0 : Array Value} {C n d : String} {t u : Term} {a b : Addr} (ev : t.eval a0 s none [] s = some (.ref a)) (eu : u.eval a0 s none [] s = some (.ref b)) (h : (Jvm.Cond.eq (.field t C n d) u).value a0 s none s [] = some true) : Fld s s.heap a C n d (.ref b) := by
  obtain ⟨x, y, h1, h2, h3, -⟩ := cmp_v (Or.inl h)
  cases eu.symm.trans h2
  have hr : x.isRef = true := by cases x <;> simp [Kin, Value.isRef] at h3 ⊢
  have q := gotT (eq_R h1 eu hr rfl) h
  subst q
  exact Fld.start ((fld_at ev).symm.trans h1)
end Own
theorem own_lv (q : Int64) (h1 : ¬ lcmpW q (-128 : Int64) < 0) (h2 : ¬ 0 < lcmpW q (127 : Int64)) : ¬ (q.toInt32 + 128 < 0) ∧ (q.toInt32 + 128).toNatClampNeg < 256 ∧ ((q.toInt32 + 128) - 128).toInt64 = q := by
  rw [lw_lt, Int64.lt_iff_toInt_lt] at h1
  rw [lw_gt, Int64.lt_iff_toInt_lt] at h2
  have a1 : (-128 : Int64).toInt = -128 := by decide
  have a2 : (127 : Int64).toInt = 127 := by decide
  have a3 : (128 : Int32).toInt = 128 := by decide
  have a4 : (0 : Int32).toInt = 0 := by decide
  have b1 := c_l2i q
  have b2 := c_iadd q.toInt32 128
  have b3 := c_isub (q.toInt32 + 128) 128
  have b4 := rng32 q.toInt32
  have b5 := rng32 (q.toInt32 + 128)
  have b6 := rng32 (q.toInt32 + 128 - 128)
  have b7 := c_i2l (q.toInt32 + 128 - 128)
  refine ⟨?_, ?_, ?_⟩
  · rw [Int32.lt_iff_toInt_lt]; omega
  · simp only [Int32.toNatClampNeg]; omega
  · rw [← Int64.toInt_inj]; omega
theorem own_m1 (s : Int64) : ¬ (s - (1 : Int64)) = s := by
  intro h
  have b := c_lsub s 1
  have a1 : (1 : Int64).toInt = 1 := by decide
  rw [h] at b; omega
theorem own_p1 (s : Int64) : ¬ (s + (1 : Int64)) = s := by
  intro h
  have b := c_ladd s 1
  have a1 : (1 : Int64).toInt = 1 := by decide
  rw [h] at b; omega
theorem own_kt {x s : Int64} (h1 : ¬ lcmpW x s < 0) (h2 : ¬ 0 < lcmpW x s) : x = s := by
  rw [lw_lt, Int64.lt_iff_toInt_lt] at h1
  rw [lw_gt, Int64.lt_iff_toInt_lt] at h2
  rw [← Int64.toInt_inj]; omega
theorem own_k1 {x s : Int64} (h1 : lcmpW x s < 0) : ¬ x = s := by
  rw [lw_lt, Int64.lt_iff_toInt_lt] at h1
  intro q; subst q; omega
theorem own_k2 {x s : Int64} (h1 : 0 < lcmpW x s) : ¬ x = s := by
  rw [lw_gt, Int64.lt_iff_toInt_lt] at h1
  intro q; subst q; omega
theorem pn_0 : plainName "java/lang/Record" = true := by first | (simp [plainName, overriddenIn]; done) | decide +kernel
theorem d4_0 : decode jdk_30_method_1_code 0 = .ok (.aload_n 0, 1) := by decide +kernel
theorem d4_1 : decode jdk_30_method_1_code 1 = .ok (.invokespecial 1, 3) := by decide +kernel
theorem d4_4 : decode jdk_30_method_1_code 4 = .ok (.return_, 1) := by decide +kernel
theorem ef_rm4 (m : MethodId) (x0 : Addr) : entryFrame m #[(.ref x0)] 1 = mkF m 0 #[.val (.ref x0)] [] := by first | (simp [entryFrame, mkF, argsToLocals, Value.category]; done) | rfl
def Q4 (Z : State) (a : Addr) (h0 : Heap) (n0 : Nat) (v : Option Value) (h : Heap) (L : List Loc) : Prop := v = none ∧ Fr n0 L ∧ h = h0
set_option maxRecDepth 65536 in
set_option maxHeartbeats 40000000 in
theorem rm4 (l : Launch) (Z : State) (a0 : Array Value) (hw : ∀ d ∈ tables_1, d.before a0 Z = true) (ws : List Jvm.Cond) (a : Addr) (h0 : Heap) (n0 : Nat) (Z0 : n0 ≤ h0.size) :
    MetFree l (⟨"java/lang/Record", "<init>", "()V"⟩ : MethodName) (head1 (Jvm.Cond.code (⟨"java/lang/Record", "<init>", "()V"⟩ : MethodName) jdk_30_method_1_code 1 none :: ws) ({ frames := 1, cells := 0, slots := 0, locals := 12 } : Room)) (fun as_ U => as_ = #[(.ref a)] ∧ Z.Warmed39 U.vm ∧ U.heap = h0) (fun _ _ _ _ _ => True) (fun _ U out_ U' => ∃ v L, out_ = .returned v ∧ Q4 Z a h0 n0 v U'.heap L ∧ FrameEnd U out_ U' L ({ frames := 1, cells := 0, slots := 0, locals := 12 } : Room).cells ({ frames := 1, cells := 0, slots := 0, locals := 12 } : Room).slots) := by
  refine MetFree.of_bodySF (plainFor_of_name pn_0) hisR ?_
  intro p e s m args below meth cd s₁ Bd hml0 hP hK
  obtain ⟨rfl, hZ, hh⟩ := hP
  have hx := Bd.exec
  have hby := Bd.bytes
  have hml : cd.maxLocals = 1 := hml0
  have hlk : meth.locks = false := BodyLoose.notSynchronized Bd
  have hown : s.vm.findClass "java/lang/Record" = some m.cls := findClass_of_methodNamed Bd.named
  have hnm := (name_of_methodNamed Bd.named Bd.method).1
  have hret := Bd.returns
  have X0 : Stand p l e ({ frames := 1, cells := 0, slots := 0, locals := 12 } : Room) s m #[(.ref a)] below meth cd s₁ [] 0 0 := Stand.of_body Bd
  have e0 : s₁.heap = h0 := by rw [← hh, Bd.state]; rfl
  have N0 := Fr.nil n0
  show own_Fin p e below (own_Ans s (Q4 Z a h0 n0) ({ frames := 1, cells := 0, slots := 0, locals := 12 } : Room).cells ({ frames := 1, cells := 0, slots := 0, locals := 12 } : Room).slots) (s₁.setTop (entryFrame m #[(.ref a)] 1))
  refine own_cast (ef_rm4 m a) ?_
  show own_Fin p e below _ (s₁.setTop (mkF m 0 #[.val (.ref a)] []))
  refine own_on (fun t => XS.aloadN X0.here hx rfl (hb hby d4_0) rfl rfl) ?_
  show own_Fin p e below _ (s₁.setTop (mkF m 1 #[.val (.ref a)] [(.ref a)]))
  obtain ⟨T1, X1, e1, st1⟩ := initO X0 hx hZ hown (hw _ (List.mem_of_getElem? (i := 23) rfl)) (hw _ (List.mem_of_getElem? (i := 24) rfl)) (hw _ (List.mem_of_getElem? (i := 25) rfl)) e0 (g := (mkF m 1 #[.val (.ref a)] [(.ref a)])) rfl (by rw [hml]; rfl) rfl (hb hby d4_1) (by decide) (W := 0) (by show 2 * 0 + _ ≤ _; exact Nat.le_of_eq rfl) (by decide)
  refine own_on st1 ?_
  show own_Fin p e below _ (T1.setTop (mkF m 4 #[.val (.ref a)] []))
  exact own_retV X1 hx hlk hret (hb hby d4_4) (⟨rfl, N0, e1⟩) (by decide) (by decide)
theorem pn_1 : plainName "java/lang/Number" = true := by first | (simp [plainName, overriddenIn]; done) | decide +kernel
theorem d13_0 : decode jdk_18_method_1_code 0 = .ok (.aload_n 0, 1) := by decide +kernel
theorem d13_1 : decode jdk_18_method_1_code 1 = .ok (.invokespecial 1, 3) := by decide +kernel
theorem d13_4 : decode jdk_18_method_1_code 4 = .ok (.return_, 1) := by decide +kernel
theorem ef_rm13 (m : MethodId) (x0 : Addr) : entryFrame m #[(.ref x0)] 1 = mkF m 0 #[.val (.ref x0)] [] := by first | (simp [entryFrame, mkF, argsToLocals, Value.category]; done) | rfl
def Q13 (Z : State) (a : Addr) (h0 : Heap) (n0 : Nat) (v : Option Value) (h : Heap) (L : List Loc) : Prop := v = none ∧ Fr n0 L ∧ h = h0
set_option maxRecDepth 65536 in
set_option maxHeartbeats 40000000 in
theorem rm13 (l : Launch) (Z : State) (a0 : Array Value) (hw : ∀ d ∈ tables_1, d.before a0 Z = true) (ws : List Jvm.Cond) (a : Addr) (h0 : Heap) (n0 : Nat) (Z0 : n0 ≤ h0.size) :
    MetFree l (⟨"java/lang/Number", "<init>", "()V"⟩ : MethodName) (head1 (Jvm.Cond.code (⟨"java/lang/Number", "<init>", "()V"⟩ : MethodName) jdk_18_method_1_code 1 none :: ws) ({ frames := 1, cells := 0, slots := 0, locals := 12 } : Room)) (fun as_ U => as_ = #[(.ref a)] ∧ Z.Warmed39 U.vm ∧ U.heap = h0) (fun _ _ _ _ _ => True) (fun _ U out_ U' => ∃ v L, out_ = .returned v ∧ Q13 Z a h0 n0 v U'.heap L ∧ FrameEnd U out_ U' L ({ frames := 1, cells := 0, slots := 0, locals := 12 } : Room).cells ({ frames := 1, cells := 0, slots := 0, locals := 12 } : Room).slots) := by
  refine MetFree.of_bodySF (plainFor_of_name pn_1) hisR ?_
  intro p e s m args below meth cd s₁ Bd hml0 hP hK
  obtain ⟨rfl, hZ, hh⟩ := hP
  have hx := Bd.exec
  have hby := Bd.bytes
  have hml : cd.maxLocals = 1 := hml0
  have hlk : meth.locks = false := BodyLoose.notSynchronized Bd
  have hown : s.vm.findClass "java/lang/Number" = some m.cls := findClass_of_methodNamed Bd.named
  have hnm := (name_of_methodNamed Bd.named Bd.method).1
  have hret := Bd.returns
  have X0 : Stand p l e ({ frames := 1, cells := 0, slots := 0, locals := 12 } : Room) s m #[(.ref a)] below meth cd s₁ [] 0 0 := Stand.of_body Bd
  have e0 : s₁.heap = h0 := by rw [← hh, Bd.state]; rfl
  have N0 := Fr.nil n0
  show own_Fin p e below (own_Ans s (Q13 Z a h0 n0) ({ frames := 1, cells := 0, slots := 0, locals := 12 } : Room).cells ({ frames := 1, cells := 0, slots := 0, locals := 12 } : Room).slots) (s₁.setTop (entryFrame m #[(.ref a)] 1))
  refine own_cast (ef_rm13 m a) ?_
  show own_Fin p e below _ (s₁.setTop (mkF m 0 #[.val (.ref a)] []))
  refine own_on (fun t => XS.aloadN X0.here hx rfl (hb hby d13_0) rfl rfl) ?_
  show own_Fin p e below _ (s₁.setTop (mkF m 1 #[.val (.ref a)] [(.ref a)]))
  obtain ⟨T2, X2, e2, st2⟩ := initO X0 hx hZ hown (hw _ (List.mem_of_getElem? (i := 77) rfl)) (hw _ (List.mem_of_getElem? (i := 24) rfl)) (hw _ (List.mem_of_getElem? (i := 25) rfl)) e0 (g := (mkF m 1 #[.val (.ref a)] [(.ref a)])) rfl (by rw [hml]; rfl) rfl (hb hby d13_1) (by decide) (W := 0) (by show 2 * 0 + _ ≤ _; exact Nat.le_of_eq rfl) (by decide)
  refine own_on st2 ?_
  show own_Fin p e below _ (T2.setTop (mkF m 4 #[.val (.ref a)] []))
  exact own_retV X2 hx hlk hret (hb hby d13_4) (⟨rfl, N0, e2⟩) (by decide) (by decide)
theorem pn_2 : plainName "java/lang/Long" = true := by first | (simp [plainName, overriddenIn]; done) | decide +kernel
theorem d12_0 : decode jdk_35_method_26_code 0 = .ok (.aload_n 0, 1) := by decide +kernel
theorem d12_1 : decode jdk_35_method_26_code 1 = .ok (.invokespecial 270, 3) := by decide +kernel
theorem pd_0 : parseMethodDescriptor "()V" = some ⟨[], none⟩ := by decide +kernel
theorem d12_4 : decode jdk_35_method_26_code 4 = .ok (.aload_n 0, 1) := by decide +kernel
theorem d12_5 : decode jdk_35_method_26_code 5 = .ok (.lload_n 1, 1) := by decide +kernel
theorem d12_6 : decode jdk_35_method_26_code 6 = .ok (.putfield 273, 3) := by decide +kernel
theorem d12_9 : decode jdk_35_method_26_code 9 = .ok (.return_, 1) := by decide +kernel
theorem ef_rm12 (m : MethodId) (x0 : Addr) (x1 : Int64) : entryFrame m #[(.ref x0), (.long x1)] 3 = mkF m 0 #[.val (.ref x0), .val (.long x1), .second] [] := by first | (simp [entryFrame, mkF, argsToLocals, Value.category]; done) | rfl
def Q12 (Z : State) (a : Addr) (q : Int64) (h0 : Heap) (n0 : Nat) (v : Option Value) (h : Heap) (L : List Loc) : Prop := v = none ∧ Fr n0 L ∧ Keep h0 h [a] ∧ Exa Z h a "java/lang/Long" ∧ Fld Z h a "java/lang/Long" "value" "J" (.long q)
set_option maxRecDepth 65536 in
set_option maxHeartbeats 40000000 in
theorem rm12 (l : Launch) (Z : State) (a0 : Array Value) (hw : ∀ d ∈ tables_1, d.before a0 Z = true) (ws : List Jvm.Cond) (a : Addr) (q : Int64) (h0 : Heap) (n0 : Nat) (Z0 : n0 ≤ h0.size) (E : Exa Z h0 a "java/lang/Long") (F : Fld Z h0 a "java/lang/Long" "value" "J" (.long (0 : Int64))) (ga : n0 ≤ a) :
    MetFree l (⟨"java/lang/Long", "<init>", "(J)V"⟩ : MethodName) (head1 (Jvm.Cond.code (⟨"java/lang/Long", "<init>", "(J)V"⟩ : MethodName) jdk_35_method_26_code 3 none :: ws) ({ frames := 2, cells := 0, slots := 0, locals := 24 } : Room)) (fun as_ U => as_ = #[(.ref a), (.long q)] ∧ Z.Warmed39 U.vm ∧ U.heap = h0) (fun _ _ _ _ _ => True) (fun _ U out_ U' => ∃ v L, out_ = .returned v ∧ Q12 Z a q h0 n0 v U'.heap L ∧ FrameEnd U out_ U' L ({ frames := 2, cells := 0, slots := 0, locals := 24 } : Room).cells ({ frames := 2, cells := 0, slots := 0, locals := 24 } : Room).slots) := by
  refine MetFree.of_bodySF (plainFor_of_name pn_2) hisR ?_
  intro p e s m args below meth cd s₁ Bd hml0 hP hK
  obtain ⟨rfl, hZ, hh⟩ := hP
  have hx := Bd.exec
  have hby := Bd.bytes
  have hml : cd.maxLocals = 3 := hml0
  have hlk : meth.locks = false := BodyLoose.notSynchronized Bd
  have hown : s.vm.findClass "java/lang/Long" = some m.cls := findClass_of_methodNamed Bd.named
  have hnm := (name_of_methodNamed Bd.named Bd.method).1
  have hret := Bd.returns
  have X0 : Stand p l e ({ frames := 2, cells := 0, slots := 0, locals := 24 } : Room) s m #[(.ref a), (.long q)] below meth cd s₁ [] 0 0 := Stand.of_body Bd
  have e0 : s₁.heap = h0 := by rw [← hh, Bd.state]; rfl
  have N0 := Fr.nil n0
  show own_Fin p e below (own_Ans s (Q12 Z a q h0 n0) ({ frames := 2, cells := 0, slots := 0, locals := 24 } : Room).cells ({ frames := 2, cells := 0, slots := 0, locals := 24 } : Room).slots) (s₁.setTop (entryFrame m #[(.ref a), (.long q)] 3))
  refine own_cast (ef_rm12 m a q) ?_
  show own_Fin p e below _ (s₁.setTop (mkF m 0 #[.val (.ref a), .val (.long q), .second] []))
  refine own_on (fun t => XS.aloadN X0.here hx rfl (hb hby d12_0) rfl rfl) ?_
  show own_Fin p e below _ (s₁.setTop (mkF m 1 #[.val (.ref a), .val (.long q), .second] [(.ref a)]))
  obtain ⟨_, _, ⟨T3, L3, k3, n3⟩, -, X3, ⟨Lc3, hQ3, l3, y3, z3⟩, st3⟩ := X0.specialBack hx (y := (⟨"java/lang/Number", "<init>", "()V"⟩ : MethodName)) rfl hown (mvT hZ (hw _ (List.mem_of_getElem? (i := 71) rfl))) (mvT hZ (hw _ (List.mem_of_getElem? (i := 72) rfl))) (mvT hZ (hw _ (List.mem_of_getElem? (i := 76) rfl))) (by decide) (backOf (W := 0) (rm13 l Z a0 hw [] a h0 n0 (by exact Z0)) hZ (hw _ (List.mem_of_getElem? (i := 76) rfl)) (hw _ (List.mem_of_getElem? (i := 75) rfl)) (by decide) (by decide)) (g := (mkF m 1 #[.val (.ref a), .val (.long q), .second] [(.ref a)])) rfl (by rw [hml]; rfl) (Steps.refl _) (a := a) (argsL := []) (rest := []) (lenOf pd_0 rfl) rfl (by show 2 * 0 + _ ≤ _; exact Nat.le_of_eq rfl) (hb hby d12_1) (fun _ _ => ⟨rfl, e0, (by decide : 0 + 0 ≤ _), (by decide : 0 + 0 ≤ _)⟩)
  dsimp only [Pt.U, Pt.locs, Pt.cells, Pt.slots] at X3 l3 y3 z3 st3 hQ3
  subst l3 y3 z3
  obtain ⟨rfl, N3q, e3⟩ := hQ3
  have N3 := Fr.app N0 N3q
  refine own_via st3 ?_
  show own_Fin p e below _ (T3.setTop (mkF m 4 #[.val (.ref a), .val (.long q), .second] []))
  refine own_on (fun t => XS.aloadN X3.here hx rfl (hb hby d12_4) rfl rfl) ?_
  show own_Fin p e below _ (T3.setTop (mkF m 5 #[.val (.ref a), .val (.long q), .second] [(.ref a)]))
  refine own_on (fun t => XS.lloadN X3.here hx rfl (hb hby d12_5) rfl) ?_
  show own_Fin p e below _ (T3.setTop (mkF m 6 #[.val (.ref a), .val (.long q), .second] [(.long q), (.ref a)]))
  obtain ⟨T4, h4, X4, e4, W4, st4⟩ := putF X3 hx hZ hown (host := "") (Or.inl (hw _ (List.mem_of_getElem? (i := 53) rfl))) Via.refl e3 F E (Or.inr ⟨(hw _ (List.mem_of_getElem? (i := 54) rfl)), rfl, hnm⟩) (hw _ (List.mem_of_getElem? (i := 66) rfl)) (ty := .long) (by decide) rfl rfl (g := (mkF m 6 #[.val (.ref a), .val (.long q), .second] [(.long q), (.ref a)])) rfl rfl (hb hby d12_6)
  have N4 := Fr.snoc X4 N3 ga
  have y5 := (E.wr W4)
  have y6 := (F.same W4)
  have y7 := ((Keep.refl h0 [a]).wr W4 (Or.inl (List.mem_of_getElem? (i := 0) rfl)))
  have y8 := (Nat.le_trans Z0 (Keep.of_wr W4).1)
  refine own_on st4 ?_
  show own_Fin p e below _ (T4.setTop (mkF m 9 #[.val (.ref a), .val (.long q), .second] []))
  exact own_retV X4 hx hlk hret (hb hby d12_9) (by show Q12 Z a q h0 n0 _ T4.heap _; rw [e4]; exact ⟨rfl, N4, y7, y5, y6⟩) (by decide) (by decide)
def own_val (j : Int32) : Value := .long (j - 128).toInt64
theorem d2_0 : decode jdk_35_method_24_code 0 = .ok (.sipush 128, 3) := by decide +kernel
theorem d2_3 : decode jdk_35_method_24_code 3 = .ok (.istore_n 2, 1) := by decide +kernel
theorem d2_4 : decode jdk_35_method_24_code 4 = .ok (.lload_n 0, 1) := by decide +kernel
theorem d2_5 : decode jdk_35_method_24_code 5 = .ok (.ldc2_w 230, 3) := by decide +kernel
theorem d2_8 : decode jdk_35_method_24_code 8 = .ok (.lcmp, 1) := by decide +kernel
theorem d2_9 : decode jdk_35_method_24_code 9 = .ok (.ifCond .lt 22, 3) := by decide +kernel
theorem d2_31 : decode jdk_35_method_24_code 31 = .ok (.new 1, 3) := by decide +kernel
theorem d2_34 : decode jdk_35_method_24_code 34 = .ok (.dup, 1) := by decide +kernel
theorem d2_35 : decode jdk_35_method_24_code 35 = .ok (.lload_n 0, 1) := by decide +kernel
theorem d2_36 : decode jdk_35_method_24_code 36 = .ok (.invokespecial 240, 3) := by decide +kernel
theorem pd_1 : parseMethodDescriptor "(J)V" = some ⟨[.long], none⟩ := by decide +kernel
theorem d2_39 : decode jdk_35_method_24_code 39 = .ok (.areturn, 1) := by decide +kernel
theorem d2_12 : decode jdk_35_method_24_code 12 = .ok (.lload_n 0, 1) := by decide +kernel
theorem d2_13 : decode jdk_35_method_24_code 13 = .ok (.ldc2_w 232, 3) := by decide +kernel
theorem d2_16 : decode jdk_35_method_24_code 16 = .ok (.lcmp, 1) := by decide +kernel
theorem d2_17 : decode jdk_35_method_24_code 17 = .ok (.ifCond .gt 14, 3) := by decide +kernel
theorem d2_20 : decode jdk_35_method_24_code 20 = .ok (.getstatic 234, 3) := by decide +kernel
theorem d2_23 : decode jdk_35_method_24_code 23 = .ok (.lload_n 0, 1) := by decide +kernel
theorem d2_24 : decode jdk_35_method_24_code 24 = .ok (.l2i, 1) := by decide +kernel
theorem d2_25 : decode jdk_35_method_24_code 25 = .ok (.sipush 128, 3) := by decide +kernel
theorem d2_28 : decode jdk_35_method_24_code 28 = .ok (.iadd, 1) := by decide +kernel
theorem d2_29 : decode jdk_35_method_24_code 29 = .ok (.aaload, 1) := by decide +kernel
theorem d2_30 : decode jdk_35_method_24_code 30 = .ok (.areturn, 1) := by decide +kernel
theorem ef_rm2 (m : MethodId) (x0 : Int64) : entryFrame m #[(.long x0)] 3 = mkF m 0 #[.val (.long x0), .second, .unset] [] := by first | (simp [entryFrame, mkF, argsToLocals, Value.category]; done) | rfl
def Q2 (Z : State) (q1 : Int64) (ca : Addr) (cc : Cell) (h0 : Heap) (n0 : Nat) (v : Option Value) (h : Heap) (L : List Loc) : Prop := ∃ b : Addr, v = some (.ref b) ∧ Fr n0 L ∧ Keep h0 h [] ∧ Exa Z h b "java/lang/Long" ∧ Fld Z h b "java/lang/Long" "value" "J" (.long q1)
set_option maxRecDepth 65536 in
set_option maxHeartbeats 40000000 in
theorem rm2 (l : Launch) (Z : State) (a0 : Array Value) (hw : ∀ d ∈ tables_1, d.before a0 Z = true) (ws : List Jvm.Cond) (q1 : Int64) (ca : Addr) (cc : Cell) (h0 : Heap) (n0 : Nat) (Z0 : n0 ≤ h0.size) (O : Old Z n0 h0) (SC : Sta Z Z.heap "java/lang/Long$LongCache" "cache" "[Ljava/lang/Long;" (.ref ca)) (BX : Bxs Z ca cc "java/lang/Long" "J" (256 : Int32) own_val) :
    MetFree l (⟨"java/lang/Long", "valueOf", "(J)Ljava/lang/Long;"⟩ : MethodName) (head1 (Jvm.Cond.code (⟨"java/lang/Long", "valueOf", "(J)Ljava/lang/Long;"⟩ : MethodName) jdk_35_method_24_code 3 (some (.object "java/lang/Long")) :: ws) ({ frames := 3, cells := 1, slots := 1, locals := 39 } : Room)) (fun as_ U => as_ = #[(.long q1)] ∧ Z.Warmed39 U.vm ∧ U.heap = h0) (fun _ _ _ _ _ => True) (fun _ U out_ U' => ∃ v L, out_ = .returned v ∧ Q2 Z q1 ca cc h0 n0 v U'.heap L ∧ FrameEnd U out_ U' L ({ frames := 3, cells := 1, slots := 1, locals := 39 } : Room).cells ({ frames := 3, cells := 1, slots := 1, locals := 39 } : Room).slots) := by
  refine MetFree.of_bodySF (plainFor_of_name pn_2) hisR ?_
  intro p e s m args below meth cd s₁ Bd hml0 hP hK
  obtain ⟨rfl, hZ, hh⟩ := hP
  have hx := Bd.exec
  have hby := Bd.bytes
  have hml : cd.maxLocals = 3 := hml0
  have hlk : meth.locks = false := BodyLoose.notSynchronized Bd
  have hown : s.vm.findClass "java/lang/Long" = some m.cls := findClass_of_methodNamed Bd.named
  have hnm := (name_of_methodNamed Bd.named Bd.method).1
  have hret := Bd.returns
  have X0 : Stand p l e ({ frames := 3, cells := 1, slots := 1, locals := 39 } : Room) s m #[(.long q1)] below meth cd s₁ [] 0 0 := Stand.of_body Bd
  have e0 : s₁.heap = h0 := by rw [← hh, Bd.state]; rfl
  have N0 := Fr.nil n0
  show own_Fin p e below (own_Ans s (Q2 Z q1 ca cc h0 n0) ({ frames := 3, cells := 1, slots := 1, locals := 39 } : Room).cells ({ frames := 3, cells := 1, slots := 1, locals := 39 } : Room).slots) (s₁.setTop (entryFrame m #[(.long q1)] 3))
  refine own_cast (ef_rm2 m q1) ?_
  show own_Fin p e below _ (s₁.setTop (mkF m 0 #[.val (.long q1), .second, .unset] []))
  refine own_on (fun t => XS.sipush X0.here hx rfl (hb hby d2_0)) ?_
  show own_Fin p e below _ (s₁.setTop (mkF m 3 #[.val (.long q1), .second, .unset] [(.int (128 : Int32))]))
  refine own_on (fun t => XS.istoreN X0.here hx rfl (hb hby d2_3) rfl (l' := #[.val (.long q1), .second, .val (.int (128 : Int32))]) rfl) ?_
  show own_Fin p e below _ (s₁.setTop (mkF m 4 #[.val (.long q1), .second, .val (.int (128 : Int32))] []))
  refine own_on (fun t => XS.lloadN X0.here hx rfl (hb hby d2_4) rfl) ?_
  show own_Fin p e below _ (s₁.setTop (mkF m 5 #[.val (.long q1), .second, .val (.int (128 : Int32))] [(.long q1)]))
  refine own_on (fun t => X0.ldc2Long hx hown (mvT hZ (hw _ (List.mem_of_getElem? (i := 11) rfl))) (g := (mkF m 5 #[.val (.long q1), .second, .val (.int (128 : Int32))] [(.long q1)])) rfl (hb hby d2_5) t) ?_
  show own_Fin p e below _ (s₁.setTop (mkF m 8 #[.val (.long q1), .second, .val (.int (128 : Int32))] [(.long (-128 : Int64)), (.long q1)]))
  refine own_on (fun t => XS.lcmp X0.here hx rfl (hb hby d2_8) rfl) ?_
  show own_Fin p e below _ (s₁.setTop (mkF m 9 #[.val (.long q1), .second, .val (.int (128 : Int32))] [(.int (lcmpW q1 (-128 : Int64)))]))
  by_cases hc9 : (lcmpW q1 (-128 : Int64)) < (0 : Int32)
  · refine own_on (fun t => XS.ifYes X0.here hx rfl (pc0 := 9) (pc' := 31) rfl (hb hby d2_9) rfl ((if0 _ _).trans (tlt hc9).1) (by decide) (by decide)) ?_
    show own_Fin p e below _ (s₁.setTop (mkF m 31 #[.val (.long q1), .second, .val (.int (128 : Int32))] []))
    obtain ⟨T10, h10, X10, e10, E10, A10, D10, -, st10⟩ := newO X0 hx hZ hown (hw _ (List.mem_of_getElem? (i := 65) rfl)) (hw _ (List.mem_of_getElem? (i := 66) rfl)) (hw _ (List.mem_of_getElem? (i := 9) rfl)) e0 (g := (mkF m 31 #[.val (.long q1), .second, .val (.int (128 : Int32))] [])) rfl (hb hby d2_31) (by decide) (by decide)
    obtain ⟨b10, g10⟩ : ∃ z, z = h0.size := ⟨_, rfl⟩
    rw [← g10] at A10 D10 st10
    have y11 := (O.ext E10)
    have y12 := ((Keep.refl h0 []).ext E10)
    have y13 := (Nat.le_trans Z0 E10.1)
    have gn10 : n0 ≤ b10 := Nat.le_trans Z0 (Nat.le_of_eq g10.symm)
    have gk10 : h0.size ≤ b10 := Nat.le_trans (Keep.refl h0 []).1 (Nat.le_of_eq g10.symm)
    have F10_value : Fld Z h10 b10 "java/lang/Long" "value" "J" (.long (0 : Int64)) := D10 (Or.inr (hw _ (List.mem_of_getElem? (i := 54) rfl))) (ty := .long) (by decide)
    refine own_on st10 ?_
    show own_Fin p e below _ (T10.setTop (mkF m 34 #[.val (.long q1), .second, .val (.int (128 : Int32))] [(.ref b10)]))
    refine own_on (fun t => XS.dup X10.here hx rfl (hb hby d2_34) rfl rfl) ?_
    show own_Fin p e below _ (T10.setTop (mkF m 35 #[.val (.long q1), .second, .val (.int (128 : Int32))] [(.ref b10), (.ref b10)]))
    refine own_on (fun t => XS.lloadN X10.here hx rfl (hb hby d2_35) rfl) ?_
    show own_Fin p e below _ (T10.setTop (mkF m 36 #[.val (.long q1), .second, .val (.int (128 : Int32))] [(.long q1), (.ref b10), (.ref b10)]))
    obtain ⟨_, _, ⟨T14, L14, k14, n14⟩, -, X14, ⟨Lc14, hQ14, l14, y14, z14⟩, st14⟩ := X10.specialBack hx (y := (⟨"java/lang/Long", "<init>", "(J)V"⟩ : MethodName)) rfl hown (mvT hZ (hw _ (List.mem_of_getElem? (i := 67) rfl))) (mvT hZ (hw _ (List.mem_of_getElem? (i := 68) rfl))) (mvT hZ (hw _ (List.mem_of_getElem? (i := 70) rfl))) (by decide) (backOf (W := 1) (rm12 l Z a0 hw [] b10 q1 h10 n0 (by exact y13) A10 F10_value gn10) hZ (hw _ (List.mem_of_getElem? (i := 70) rfl)) (hw _ (List.mem_of_getElem? (i := 9) rfl)) (by decide) (by decide)) (g := (mkF m 36 #[.val (.long q1), .second, .val (.int (128 : Int32))] [(.long q1), (.ref b10), (.ref b10)])) rfl (by rw [hml]; rfl) (Steps.refl _) (a := b10) (argsL := [(.long q1)]) (rest := [(.ref b10)]) (lenOf pd_1 rfl) rfl (by show 2 * 0 + _ ≤ _; exact Nat.le_of_eq rfl) (hb hby d2_36) (fun _ _ => ⟨rfl, e10, (by decide : 1 + 0 ≤ _), (by decide : 1 + 0 ≤ _)⟩)
    dsimp only [Pt.U, Pt.locs, Pt.cells, Pt.slots] at X14 l14 y14 z14 st14 hQ14
    subst l14 y14 z14
    obtain ⟨rfl, N14q, K14, E14q, F14q⟩ := hQ14
    have N14 := Fr.app N0 N14q
    have y15 := (y11.keep K14 (allS gn10 all0))
    have y16 := (y12.trans K14 (allS (Or.inr gk10) all0))
    have y17 := (Nat.le_trans y13 K14.1)
    have y18 := (A10.keep K14)
    refine own_via st14 ?_
    show own_Fin p e below _ (T14.setTop (mkF m 39 #[.val (.long q1), .second, .val (.int (128 : Int32))] [(.ref b10)]))
    exact own_ret (t := (.object "java/lang/Long")) X14 hx hlk hret rfl (Or.inr (Or.inr (Or.inr (Or.inr ⟨rfl, rfl, rfl⟩)))) (hb hby d2_39) (by show Q2 Z q1 ca cc h0 n0 _ T14.heap _; exact ⟨b10, rfl, N14, y16, y18, F14q⟩) (by decide) (by decide)
  · refine own_on (fun t => XS.ifNo X0.here hx rfl (hb hby d2_9) rfl ((if0 _ _).trans (flt hc9).1)) ?_
    show own_Fin p e below _ (s₁.setTop (mkF m 12 #[.val (.long q1), .second, .val (.int (128 : Int32))] []))
    refine own_on (fun t => XS.lloadN X0.here hx rfl (hb hby d2_12) rfl) ?_
    show own_Fin p e below _ (s₁.setTop (mkF m 13 #[.val (.long q1), .second, .val (.int (128 : Int32))] [(.long q1)]))
    refine own_on (fun t => X0.ldc2Long hx hown (mvT hZ (hw _ (List.mem_of_getElem? (i := 12) rfl))) (g := (mkF m 13 #[.val (.long q1), .second, .val (.int (128 : Int32))] [(.long q1)])) rfl (hb hby d2_13) t) ?_
    show own_Fin p e below _ (s₁.setTop (mkF m 16 #[.val (.long q1), .second, .val (.int (128 : Int32))] [(.long (127 : Int64)), (.long q1)]))
    refine own_on (fun t => XS.lcmp X0.here hx rfl (hb hby d2_16) rfl) ?_
    show own_Fin p e below _ (s₁.setTop (mkF m 17 #[.val (.long q1), .second, .val (.int (128 : Int32))] [(.int (lcmpW q1 (127 : Int64)))]))
    by_cases hc19 : (0 : Int32) < (lcmpW q1 (127 : Int64))
    · refine own_on (fun t => XS.ifYes X0.here hx rfl (pc0 := 17) (pc' := 31) rfl (hb hby d2_17) rfl ((if0 _ _).trans (tlt hc19).2.2.1) (by decide) (by decide)) ?_
      show own_Fin p e below _ (s₁.setTop (mkF m 31 #[.val (.long q1), .second, .val (.int (128 : Int32))] []))
      obtain ⟨T20, h20, X20, e20, E20, A20, D20, -, st20⟩ := newO X0 hx hZ hown (hw _ (List.mem_of_getElem? (i := 65) rfl)) (hw _ (List.mem_of_getElem? (i := 66) rfl)) (hw _ (List.mem_of_getElem? (i := 9) rfl)) e0 (g := (mkF m 31 #[.val (.long q1), .second, .val (.int (128 : Int32))] [])) rfl (hb hby d2_31) (by decide) (by decide)
      obtain ⟨b20, g20⟩ : ∃ z, z = h0.size := ⟨_, rfl⟩
      rw [← g20] at A20 D20 st20
      have y21 := (O.ext E20)
      have y22 := ((Keep.refl h0 []).ext E20)
      have y23 := (Nat.le_trans Z0 E20.1)
      have gn20 : n0 ≤ b20 := Nat.le_trans Z0 (Nat.le_of_eq g20.symm)
      have gk20 : h0.size ≤ b20 := Nat.le_trans (Keep.refl h0 []).1 (Nat.le_of_eq g20.symm)
      have F20_value : Fld Z h20 b20 "java/lang/Long" "value" "J" (.long (0 : Int64)) := D20 (Or.inr (hw _ (List.mem_of_getElem? (i := 54) rfl))) (ty := .long) (by decide)
      refine own_on st20 ?_
      show own_Fin p e below _ (T20.setTop (mkF m 34 #[.val (.long q1), .second, .val (.int (128 : Int32))] [(.ref b20)]))
      refine own_on (fun t => XS.dup X20.here hx rfl (hb hby d2_34) rfl rfl) ?_
      show own_Fin p e below _ (T20.setTop (mkF m 35 #[.val (.long q1), .second, .val (.int (128 : Int32))] [(.ref b20), (.ref b20)]))
      refine own_on (fun t => XS.lloadN X20.here hx rfl (hb hby d2_35) rfl) ?_
      show own_Fin p e below _ (T20.setTop (mkF m 36 #[.val (.long q1), .second, .val (.int (128 : Int32))] [(.long q1), (.ref b20), (.ref b20)]))
      obtain ⟨_, _, ⟨T24, L24, k24, n24⟩, -, X24, ⟨Lc24, hQ24, l24, y24, z24⟩, st24⟩ := X20.specialBack hx (y := (⟨"java/lang/Long", "<init>", "(J)V"⟩ : MethodName)) rfl hown (mvT hZ (hw _ (List.mem_of_getElem? (i := 67) rfl))) (mvT hZ (hw _ (List.mem_of_getElem? (i := 68) rfl))) (mvT hZ (hw _ (List.mem_of_getElem? (i := 70) rfl))) (by decide) (backOf (W := 1) (rm12 l Z a0 hw [] b20 q1 h20 n0 (by exact y23) A20 F20_value gn20) hZ (hw _ (List.mem_of_getElem? (i := 70) rfl)) (hw _ (List.mem_of_getElem? (i := 9) rfl)) (by decide) (by decide)) (g := (mkF m 36 #[.val (.long q1), .second, .val (.int (128 : Int32))] [(.long q1), (.ref b20), (.ref b20)])) rfl (by rw [hml]; rfl) (Steps.refl _) (a := b20) (argsL := [(.long q1)]) (rest := [(.ref b20)]) (lenOf pd_1 rfl) rfl (by show 2 * 0 + _ ≤ _; exact Nat.le_of_eq rfl) (hb hby d2_36) (fun _ _ => ⟨rfl, e20, (by decide : 1 + 0 ≤ _), (by decide : 1 + 0 ≤ _)⟩)
      dsimp only [Pt.U, Pt.locs, Pt.cells, Pt.slots] at X24 l24 y24 z24 st24 hQ24
      subst l24 y24 z24
      obtain ⟨rfl, N24q, K24, E24q, F24q⟩ := hQ24
      have N24 := Fr.app N0 N24q
      have y25 := (y21.keep K24 (allS gn20 all0))
      have y26 := (y22.trans K24 (allS (Or.inr gk20) all0))
      have y27 := (Nat.le_trans y23 K24.1)
      have y28 := (A20.keep K24)
      refine own_via st24 ?_
      show own_Fin p e below _ (T24.setTop (mkF m 39 #[.val (.long q1), .second, .val (.int (128 : Int32))] [(.ref b20)]))
      exact own_ret (t := (.object "java/lang/Long")) X24 hx hlk hret rfl (Or.inr (Or.inr (Or.inr (Or.inr ⟨rfl, rfl, rfl⟩)))) (hb hby d2_39) (by show Q2 Z q1 ca cc h0 n0 _ T24.heap _; exact ⟨b20, rfl, N24, y26, y28, F24q⟩) (by decide) (by decide)
    · refine own_on (fun t => XS.ifNo X0.here hx rfl (hb hby d2_17) rfl ((if0 _ _).trans (flt hc19).2.2.1)) ?_
      show own_Fin p e below _ (s₁.setTop (mkF m 20 #[.val (.long q1), .second, .val (.int (128 : Int32))] []))
      obtain ⟨T29, X29, e29, st29⟩ := getS2 X0 hx hZ hown (host := "") (Or.inl (hw _ (List.mem_of_getElem? (i := 13) rfl))) Via.refl e0 (SC.ext O.2) (g := (mkF m 20 #[.val (.long q1), .second, .val (.int (128 : Int32))] [])) rfl (hb hby d2_20)
      refine own_on st29 ?_
      show own_Fin p e below _ (T29.setTop (mkF m 23 #[.val (.long q1), .second, .val (.int (128 : Int32))] [(.ref ca)]))
      refine own_on (fun t => XS.lloadN X29.here hx rfl (hb hby d2_23) rfl) ?_
      show own_Fin p e below _ (T29.setTop (mkF m 24 #[.val (.long q1), .second, .val (.int (128 : Int32))] [(.long q1), (.ref ca)]))
      refine own_on (fun t => XS.l2i X29.here hx rfl (hb hby d2_24) rfl) ?_
      show own_Fin p e below _ (T29.setTop (mkF m 25 #[.val (.long q1), .second, .val (.int (128 : Int32))] [(.int (q1.toInt32)), (.ref ca)]))
      refine own_on (fun t => XS.sipush X29.here hx rfl (hb hby d2_25)) ?_
      show own_Fin p e below _ (T29.setTop (mkF m 28 #[.val (.long q1), .second, .val (.int (128 : Int32))] [(.int (128 : Int32)), (.int (q1.toInt32)), (.ref ca)]))
      refine own_on (fun t => XS.iadd X29.here hx rfl (hb hby d2_28) rfl) ?_
      show own_Fin p e below _ (T29.setTop (mkF m 29 #[.val (.long q1), .second, .val (.int (128 : Int32))] [(.int ((q1.toInt32) + (128 : Int32))), (.ref ca)]))
      have hj29 : ¬ (((q1.toInt32) + (128 : Int32)) < 0 ∨ cc.slots.size ≤ (((q1.toInt32) + (128 : Int32))).toNatClampNeg) := by
        have z := BX.2.1
        have z2 : (256 : Int32).toNatClampNeg = 256 := by decide
        have z3 := (own_lv q1 hc9 hc19)
        intro z4
        rcases z4 with z4 | z4
        · exact z3.1 z4
        · have z5 := z3.2.1; omega
      obtain ⟨bx, hat29, Ex29, Fx29⟩ := BX.2.2.2 _ hj29
      have Fy29 : Fld Z Z.heap bx "java/lang/Long" "value" "J" (.long q1) := by
        have z := Fx29
        simp only [own_val] at z
        rw [(own_lv q1 hc9 hc19).2.2] at z
        exact z
      refine own_on (fun t => X29.aaload hx (j := ((q1.toInt32) + (128 : Int32))) (v := .ref bx) (by rw [e29]; exact (BX.1.ext O.2).1) (State.isArrayOf_alike hZ.alike (BX.1.ext O.2).2.1) rfl (BX.1.ext O.2).2.2 hj29 hat29 (g := (mkF m 29 #[.val (.long q1), .second, .val (.int (128 : Int32))] [(.int ((q1.toInt32) + (128 : Int32))), (.ref ca)])) rfl rfl (hb hby d2_29) t) ?_
      show own_Fin p e below _ (T29.setTop (mkF m 30 #[.val (.long q1), .second, .val (.int (128 : Int32))] [(.ref bx)]))
      exact own_ret (t := (.object "java/lang/Long")) X29 hx hlk hret rfl (Or.inr (Or.inr (Or.inr (Or.inr ⟨rfl, rfl, rfl⟩)))) (hb hby d2_30) (by show Q2 Z q1 ca cc h0 n0 _ T29.heap _; rw [e29]; exact ⟨bx, rfl, N0, (Keep.refl h0 []), (Ex29.ext O.2), (Fy29.ext O.2)⟩) (by decide) (by decide)
theorem pn_3 : plainName "com/example/brasswire/brasswire/service/CreatedRange" = true := by first | (simp [plainName, overriddenIn]; done) | decide +kernel
theorem d3_0 : decode prog_18_method_1_code 0 = .ok (.aload_n 0, 1) := by decide +kernel
theorem d3_1 : decode prog_18_method_1_code 1 = .ok (.invokespecial 1, 3) := by decide +kernel
theorem d3_4 : decode prog_18_method_1_code 4 = .ok (.aload_n 0, 1) := by decide +kernel
theorem d3_5 : decode prog_18_method_1_code 5 = .ok (.aload_n 1, 1) := by decide +kernel
theorem d3_6 : decode prog_18_method_1_code 6 = .ok (.putfield 7, 3) := by decide +kernel
theorem d3_9 : decode prog_18_method_1_code 9 = .ok (.aload_n 0, 1) := by decide +kernel
theorem d3_10 : decode prog_18_method_1_code 10 = .ok (.aload_n 2, 1) := by decide +kernel
theorem d3_11 : decode prog_18_method_1_code 11 = .ok (.putfield 13, 3) := by decide +kernel
theorem d3_14 : decode prog_18_method_1_code 14 = .ok (.aload_n 0, 1) := by decide +kernel
theorem d3_15 : decode prog_18_method_1_code 15 = .ok (.aload_n 3, 1) := by decide +kernel
theorem d3_16 : decode prog_18_method_1_code 16 = .ok (.putfield 16, 3) := by decide +kernel
theorem d3_19 : decode prog_18_method_1_code 19 = .ok (.aload_n 0, 1) := by decide +kernel
theorem d3_20 : decode prog_18_method_1_code 20 = .ok (.aload 4, 2) := by decide +kernel
theorem d3_22 : decode prog_18_method_1_code 22 = .ok (.putfield 19, 3) := by decide +kernel
theorem d3_25 : decode prog_18_method_1_code 25 = .ok (.return_, 1) := by decide +kernel
theorem ef_rm3 (m : MethodId) (x0 : Addr) (x2 : Addr) (x4 : Addr) : entryFrame m #[(.ref x0), .null, (.ref x2), .null, (.ref x4)] 5 = mkF m 0 #[.val (.ref x0), .val .null, .val (.ref x2), .val .null, .val (.ref x4)] [] := by first | (simp [entryFrame, mkF, argsToLocals, Value.category]; done) | rfl
def Q3 (Z : State) (a : Addr) (g1 : Addr) (g2 : Addr) (h0 : Heap) (n0 : Nat) (v : Option Value) (h : Heap) (L : List Loc) : Prop := v = none ∧ Fr n0 L ∧ Keep h0 h [a] ∧ Exa Z h a "com/example/brasswire/brasswire/service/CreatedRange" ∧ Fld Z h a "com/example/brasswire/brasswire/service/CreatedRange" "gt" "Ljava/lang/Long;" .null ∧ Fld Z h a "com/example/brasswire/brasswire/service/CreatedRange" "gte" "Ljava/lang/Long;" (.ref g1) ∧ Fld Z h a "com/example/brasswire/brasswire/service/CreatedRange" "lt" "Ljava/lang/Long;" .null ∧ Fld Z h a "com/example/brasswire/brasswire/service/CreatedRange" "lte" "Ljava/lang/Long;" (.ref g2)
set_option maxRecDepth 65536 in
set_option maxHeartbeats 40000000 in
theorem rm3 (l : Launch) (Z : State) (a0 : Array Value) (hw : ∀ d ∈ tables_1, d.before a0 Z = true) (ws : List Jvm.Cond) (a : Addr) (g1 : Addr) (g2 : Addr) (h0 : Heap) (n0 : Nat) (Z0 : n0 ≤ h0.size) (E : Exa Z h0 a "com/example/brasswire/brasswire/service/CreatedRange") (F0 : Fld Z h0 a "com/example/brasswire/brasswire/service/CreatedRange" "gt" "Ljava/lang/Long;" .null) (F1 : Fld Z h0 a "com/example/brasswire/brasswire/service/CreatedRange" "gte" "Ljava/lang/Long;" .null) (F2 : Fld Z h0 a "com/example/brasswire/brasswire/service/CreatedRange" "lt" "Ljava/lang/Long;" .null) (F3 : Fld Z h0 a "com/example/brasswire/brasswire/service/CreatedRange" "lte" "Ljava/lang/Long;" .null) (ga : n0 ≤ a) :
    MetFree l (⟨"com/example/brasswire/brasswire/service/CreatedRange", "<init>", "(Ljava/lang/Long;Ljava/lang/Long;Ljava/lang/Long;Ljava/lang/Long;)V"⟩ : MethodName) (head1 (Jvm.Cond.code (⟨"com/example/brasswire/brasswire/service/CreatedRange", "<init>", "(Ljava/lang/Long;Ljava/lang/Long;Ljava/lang/Long;Ljava/lang/Long;)V"⟩ : MethodName) prog_18_method_1_code 5 none :: ws) ({ frames := 2, cells := 0, slots := 0, locals := 24 } : Room)) (fun as_ U => as_ = #[(.ref a), .null, (.ref g1), .null, (.ref g2)] ∧ Z.Warmed39 U.vm ∧ U.heap = h0) (fun _ _ _ _ _ => True) (fun _ U out_ U' => ∃ v L, out_ = .returned v ∧ Q3 Z a g1 g2 h0 n0 v U'.heap L ∧ FrameEnd U out_ U' L ({ frames := 2, cells := 0, slots := 0, locals := 24 } : Room).cells ({ frames := 2, cells := 0, slots := 0, locals := 24 } : Room).slots) := by
  refine MetFree.of_bodySF (plainFor_of_name pn_3) hisR ?_
  intro p e s m args below meth cd s₁ Bd hml0 hP hK
  obtain ⟨rfl, hZ, hh⟩ := hP
  have hx := Bd.exec
  have hby := Bd.bytes
  have hml : cd.maxLocals = 5 := hml0
  have hlk : meth.locks = false := BodyLoose.notSynchronized Bd
  have hown : s.vm.findClass "com/example/brasswire/brasswire/service/CreatedRange" = some m.cls := findClass_of_methodNamed Bd.named
  have hnm := (name_of_methodNamed Bd.named Bd.method).1
  have hret := Bd.returns
  have X0 : Stand p l e ({ frames := 2, cells := 0, slots := 0, locals := 24 } : Room) s m #[(.ref a), .null, (.ref g1), .null, (.ref g2)] below meth cd s₁ [] 0 0 := Stand.of_body Bd
  have e0 : s₁.heap = h0 := by rw [← hh, Bd.state]; rfl
  have N0 := Fr.nil n0
  show own_Fin p e below (own_Ans s (Q3 Z a g1 g2 h0 n0) ({ frames := 2, cells := 0, slots := 0, locals := 24 } : Room).cells ({ frames := 2, cells := 0, slots := 0, locals := 24 } : Room).slots) (s₁.setTop (entryFrame m #[(.ref a), .null, (.ref g1), .null, (.ref g2)] 5))
  refine own_cast (ef_rm3 m a g1 g2) ?_
  show own_Fin p e below _ (s₁.setTop (mkF m 0 #[.val (.ref a), .val .null, .val (.ref g1), .val .null, .val (.ref g2)] []))
  refine own_on (fun t => XS.aloadN X0.here hx rfl (hb hby d3_0) rfl rfl) ?_
  show own_Fin p e below _ (s₁.setTop (mkF m 1 #[.val (.ref a), .val .null, .val (.ref g1), .val .null, .val (.ref g2)] [(.ref a)]))
  obtain ⟨_, _, ⟨T30, L30, k30, n30⟩, -, X30, ⟨Lc30, hQ30, l30, y30, z30⟩, st30⟩ := X0.specialBack hx (y := (⟨"java/lang/Record", "<init>", "()V"⟩ : MethodName)) rfl hown (mvT hZ (hw _ (List.mem_of_getElem? (i := 18) rfl))) (mvT hZ (hw _ (List.mem_of_getElem? (i := 19) rfl))) (mvT hZ (hw _ (List.mem_of_getElem? (i := 22) rfl))) (by decide) (backOf (W := 0) (rm4 l Z a0 hw [] a h0 n0 (by exact Z0)) hZ (hw _ (List.mem_of_getElem? (i := 22) rfl)) (hw _ (List.mem_of_getElem? (i := 21) rfl)) (by decide) (by decide)) (g := (mkF m 1 #[.val (.ref a), .val .null, .val (.ref g1), .val .null, .val (.ref g2)] [(.ref a)])) rfl (by rw [hml]; rfl) (Steps.refl _) (a := a) (argsL := []) (rest := []) (lenOf pd_0 rfl) rfl (by show 2 * 0 + _ ≤ _; exact Nat.le_of_eq rfl) (hb hby d3_1) (fun _ _ => ⟨rfl, e0, (by decide : 0 + 0 ≤ _), (by decide : 0 + 0 ≤ _)⟩)
  dsimp only [Pt.U, Pt.locs, Pt.cells, Pt.slots] at X30 l30 y30 z30 st30 hQ30
  subst l30 y30 z30
  obtain ⟨rfl, N30q, e30⟩ := hQ30
  have N30 := Fr.app N0 N30q
  refine own_via st30 ?_
  show own_Fin p e below _ (T30.setTop (mkF m 4 #[.val (.ref a), .val .null, .val (.ref g1), .val .null, .val (.ref g2)] []))
  refine own_on (fun t => XS.aloadN X30.here hx rfl (hb hby d3_4) rfl rfl) ?_
  show own_Fin p e below _ (T30.setTop (mkF m 5 #[.val (.ref a), .val .null, .val (.ref g1), .val .null, .val (.ref g2)] [(.ref a)]))
  refine own_on (fun t => XS.aloadN X30.here hx rfl (hb hby d3_5) rfl rfl) ?_
  show own_Fin p e below _ (T30.setTop (mkF m 6 #[.val (.ref a), .val .null, .val (.ref g1), .val .null, .val (.ref g2)] [.null, (.ref a)]))
  obtain ⟨T31, h31, X31, e31, W31, st31⟩ := putF X30 hx hZ hown (host := "") (Or.inl (hw _ (List.mem_of_getElem? (i := 26) rfl))) Via.refl e30 F0 E (Or.inr ⟨(hw _ (List.mem_of_getElem? (i := 27) rfl)), rfl, hnm⟩) (hw _ (List.mem_of_getElem? (i := 6) rfl)) (ty := (.object "java/lang/Long")) (by decide) rfl rfl (g := (mkF m 6 #[.val (.ref a), .val .null, .val (.ref g1), .val .null, .val (.ref g2)] [.null, (.ref a)])) rfl rfl (hb hby d3_6)
  have N31 := Fr.snoc X31 N30 ga
  have y32 := (E.wr W31)
  have y33 := ((Keep.refl h0 [a]).wr W31 (Or.inl (List.mem_of_getElem? (i := 0) rfl)))
  have y34 := (Nat.le_trans Z0 (Keep.of_wr W31).1)
  have y35 := (F0.same W31)
  have y36 := (F1.other W31 (Or.inr (slot_ne (Or.inr (hw _ (List.mem_of_getElem? (i := 29) rfl))) (Or.inr (hw _ (List.mem_of_getElem? (i := 27) rfl))) (by decide) (t := (.object "java/lang/Long")) (t' := (.object "java/lang/Long")) (by decide) (by decide))))
  have y37 := (F2.other W31 (Or.inr (slot_ne (Or.inr (hw _ (List.mem_of_getElem? (i := 31) rfl))) (Or.inr (hw _ (List.mem_of_getElem? (i := 27) rfl))) (by decide) (t := (.object "java/lang/Long")) (t' := (.object "java/lang/Long")) (by decide) (by decide))))
  have y38 := (F3.other W31 (Or.inr (slot_ne (Or.inr (hw _ (List.mem_of_getElem? (i := 33) rfl))) (Or.inr (hw _ (List.mem_of_getElem? (i := 27) rfl))) (by decide) (t := (.object "java/lang/Long")) (t' := (.object "java/lang/Long")) (by decide) (by decide))))
  refine own_on st31 ?_
  show own_Fin p e below _ (T31.setTop (mkF m 9 #[.val (.ref a), .val .null, .val (.ref g1), .val .null, .val (.ref g2)] []))
  refine own_on (fun t => XS.aloadN X31.here hx rfl (hb hby d3_9) rfl rfl) ?_
  show own_Fin p e below _ (T31.setTop (mkF m 10 #[.val (.ref a), .val .null, .val (.ref g1), .val .null, .val (.ref g2)] [(.ref a)]))
  refine own_on (fun t => XS.aloadN X31.here hx rfl (hb hby d3_10) rfl rfl) ?_
  show own_Fin p e below _ (T31.setTop (mkF m 11 #[.val (.ref a), .val .null, .val (.ref g1), .val .null, .val (.ref g2)] [(.ref g1), (.ref a)]))
  obtain ⟨T39, h39, X39, e39, W39, st39⟩ := putF X31 hx hZ hown (host := "") (Or.inl (hw _ (List.mem_of_getElem? (i := 28) rfl))) Via.refl e31 y36 y32 (Or.inr ⟨(hw _ (List.mem_of_getElem? (i := 29) rfl)), rfl, hnm⟩) (hw _ (List.mem_of_getElem? (i := 6) rfl)) (ty := (.object "java/lang/Long")) (by decide) rfl rfl (g := (mkF m 11 #[.val (.ref a), .val .null, .val (.ref g1), .val .null, .val (.ref g2)] [(.ref g1), (.ref a)])) rfl rfl (hb hby d3_11)
  have N39 := Fr.snoc X39 N31 ga
  have y40 := (y32.wr W39)
  have y41 := (y33.wr W39 (Or.inl (List.mem_of_getElem? (i := 0) rfl)))
  have y42 := (Nat.le_trans y34 (Keep.of_wr W39).1)
  have y43 := (y35.other W39 (Or.inr (slot_ne (Or.inr (hw _ (List.mem_of_getElem? (i := 27) rfl))) (Or.inr (hw _ (List.mem_of_getElem? (i := 29) rfl))) (by decide) (t := (.object "java/lang/Long")) (t' := (.object "java/lang/Long")) (by decide) (by decide))))
  have y44 := (y36.same W39)
  have y45 := (y37.other W39 (Or.inr (slot_ne (Or.inr (hw _ (List.mem_of_getElem? (i := 31) rfl))) (Or.inr (hw _ (List.mem_of_getElem? (i := 29) rfl))) (by decide) (t := (.object "java/lang/Long")) (t' := (.object "java/lang/Long")) (by decide) (by decide))))
  have y46 := (y38.other W39 (Or.inr (slot_ne (Or.inr (hw _ (List.mem_of_getElem? (i := 33) rfl))) (Or.inr (hw _ (List.mem_of_getElem? (i := 29) rfl))) (by decide) (t := (.object "java/lang/Long")) (t' := (.object "java/lang/Long")) (by decide) (by decide))))
  refine own_on st39 ?_
  show own_Fin p e below _ (T39.setTop (mkF m 14 #[.val (.ref a), .val .null, .val (.ref g1), .val .null, .val (.ref g2)] []))
  refine own_on (fun t => XS.aloadN X39.here hx rfl (hb hby d3_14) rfl rfl) ?_
  show own_Fin p e below _ (T39.setTop (mkF m 15 #[.val (.ref a), .val .null, .val (.ref g1), .val .null, .val (.ref g2)] [(.ref a)]))
  refine own_on (fun t => XS.aloadN X39.here hx rfl (hb hby d3_15) rfl rfl) ?_
  show own_Fin p e below _ (T39.setTop (mkF m 16 #[.val (.ref a), .val .null, .val (.ref g1), .val .null, .val (.ref g2)] [.null, (.ref a)]))
  obtain ⟨T47, h47, X47, e47, W47, st47⟩ := putF X39 hx hZ hown (host := "") (Or.inl (hw _ (List.mem_of_getElem? (i := 30) rfl))) Via.refl e39 y45 y40 (Or.inr ⟨(hw _ (List.mem_of_getElem? (i := 31) rfl)), rfl, hnm⟩) (hw _ (List.mem_of_getElem? (i := 6) rfl)) (ty := (.object "java/lang/Long")) (by decide) rfl rfl (g := (mkF m 16 #[.val (.ref a), .val .null, .val (.ref g1), .val .null, .val (.ref g2)] [.null, (.ref a)])) rfl rfl (hb hby d3_16)
  have N47 := Fr.snoc X47 N39 ga
  have y48 := (y40.wr W47)
  have y49 := (y41.wr W47 (Or.inl (List.mem_of_getElem? (i := 0) rfl)))
  have y50 := (Nat.le_trans y42 (Keep.of_wr W47).1)
  have y51 := (y43.other W47 (Or.inr (slot_ne (Or.inr (hw _ (List.mem_of_getElem? (i := 27) rfl))) (Or.inr (hw _ (List.mem_of_getElem? (i := 31) rfl))) (by decide) (t := (.object "java/lang/Long")) (t' := (.object "java/lang/Long")) (by decide) (by decide))))
  have y52 := (y44.other W47 (Or.inr (slot_ne (Or.inr (hw _ (List.mem_of_getElem? (i := 29) rfl))) (Or.inr (hw _ (List.mem_of_getElem? (i := 31) rfl))) (by decide) (t := (.object "java/lang/Long")) (t' := (.object "java/lang/Long")) (by decide) (by decide))))
  have y53 := (y45.same W47)
  have y54 := (y46.other W47 (Or.inr (slot_ne (Or.inr (hw _ (List.mem_of_getElem? (i := 33) rfl))) (Or.inr (hw _ (List.mem_of_getElem? (i := 31) rfl))) (by decide) (t := (.object "java/lang/Long")) (t' := (.object "java/lang/Long")) (by decide) (by decide))))
  refine own_on st47 ?_
  show own_Fin p e below _ (T47.setTop (mkF m 19 #[.val (.ref a), .val .null, .val (.ref g1), .val .null, .val (.ref g2)] []))
  refine own_on (fun t => XS.aloadN X47.here hx rfl (hb hby d3_19) rfl rfl) ?_
  show own_Fin p e below _ (T47.setTop (mkF m 20 #[.val (.ref a), .val .null, .val (.ref g1), .val .null, .val (.ref g2)] [(.ref a)]))
  refine own_on (fun t => XS.aload X47.here hx rfl (hb hby d3_20) rfl rfl) ?_
  show own_Fin p e below _ (T47.setTop (mkF m 22 #[.val (.ref a), .val .null, .val (.ref g1), .val .null, .val (.ref g2)] [(.ref g2), (.ref a)]))
  obtain ⟨T55, h55, X55, e55, W55, st55⟩ := putF X47 hx hZ hown (host := "") (Or.inl (hw _ (List.mem_of_getElem? (i := 32) rfl))) Via.refl e47 y54 y48 (Or.inr ⟨(hw _ (List.mem_of_getElem? (i := 33) rfl)), rfl, hnm⟩) (hw _ (List.mem_of_getElem? (i := 6) rfl)) (ty := (.object "java/lang/Long")) (by decide) rfl rfl (g := (mkF m 22 #[.val (.ref a), .val .null, .val (.ref g1), .val .null, .val (.ref g2)] [(.ref g2), (.ref a)])) rfl rfl (hb hby d3_22)
  have N55 := Fr.snoc X55 N47 ga
  have y56 := (y48.wr W55)
  have y57 := (y49.wr W55 (Or.inl (List.mem_of_getElem? (i := 0) rfl)))
  have y58 := (Nat.le_trans y50 (Keep.of_wr W55).1)
  have y59 := (y51.other W55 (Or.inr (slot_ne (Or.inr (hw _ (List.mem_of_getElem? (i := 27) rfl))) (Or.inr (hw _ (List.mem_of_getElem? (i := 33) rfl))) (by decide) (t := (.object "java/lang/Long")) (t' := (.object "java/lang/Long")) (by decide) (by decide))))
  have y60 := (y52.other W55 (Or.inr (slot_ne (Or.inr (hw _ (List.mem_of_getElem? (i := 29) rfl))) (Or.inr (hw _ (List.mem_of_getElem? (i := 33) rfl))) (by decide) (t := (.object "java/lang/Long")) (t' := (.object "java/lang/Long")) (by decide) (by decide))))
  have y61 := (y53.other W55 (Or.inr (slot_ne (Or.inr (hw _ (List.mem_of_getElem? (i := 31) rfl))) (Or.inr (hw _ (List.mem_of_getElem? (i := 33) rfl))) (by decide) (t := (.object "java/lang/Long")) (t' := (.object "java/lang/Long")) (by decide) (by decide))))
  have y62 := (y54.same W55)
  refine own_on st55 ?_
  show own_Fin p e below _ (T55.setTop (mkF m 25 #[.val (.ref a), .val .null, .val (.ref g1), .val .null, .val (.ref g2)] []))
  exact own_retV X55 hx hlk hret (hb hby d3_25) (by show Q3 Z a g1 g2 h0 n0 _ T55.heap _; rw [e55]; exact ⟨rfl, N55, y57, y56, y59, y60, y61, y62⟩) (by decide) (by decide)
theorem d1_0 : decode prog_18_method_2_code 0 = .ok (.new 8, 3) := by decide +kernel
theorem d1_3 : decode prog_18_method_2_code 3 = .ok (.dup, 1) := by decide +kernel
theorem d1_4 : decode prog_18_method_2_code 4 = .ok (.aconst_null, 1) := by decide +kernel
theorem d1_5 : decode prog_18_method_2_code 5 = .ok (.lload_n 0, 1) := by decide +kernel
theorem d1_6 : decode prog_18_method_2_code 6 = .ok (.invokestatic 22, 3) := by decide +kernel
theorem pd_2 : parseMethodDescriptor "(J)Ljava/lang/Long;" = some ⟨[.long], some (.object "java/lang/Long")⟩ := by decide +kernel
theorem d1_9 : decode prog_18_method_2_code 9 = .ok (.aconst_null, 1) := by decide +kernel
theorem d1_10 : decode prog_18_method_2_code 10 = .ok (.lload_n 0, 1) := by decide +kernel
theorem d1_11 : decode prog_18_method_2_code 11 = .ok (.invokestatic 22, 3) := by decide +kernel
theorem d1_14 : decode prog_18_method_2_code 14 = .ok (.invokespecial 28, 3) := by decide +kernel
theorem pd_3 : parseMethodDescriptor "(Ljava/lang/Long;Ljava/lang/Long;Ljava/lang/Long;Ljava/lang/Long;)V" = some ⟨[(.object "java/lang/Long"), (.object "java/lang/Long"), (.object "java/lang/Long"), (.object "java/lang/Long")], none⟩ := by decide +kernel
theorem d1_17 : decode prog_18_method_2_code 17 = .ok (.areturn, 1) := by decide +kernel
theorem ef_rm1 (m : MethodId) (x0 : Int64) : entryFrame m #[(.long x0)] 2 = mkF m 0 #[.val (.long x0), .second] [] := by first | (simp [entryFrame, mkF, argsToLocals, Value.category]; done) | rfl
def Q1 (Z : State) (q1 : Int64) (ca : Addr) (cc : Cell) (h0 : Heap) (n0 : Nat) (v : Option Value) (h : Heap) (L : List Loc) : Prop := ∃ r g1 g2 : Addr, v = some (.ref r) ∧ Fr n0 L ∧ Keep h0 h [] ∧ Exa Z h r "com/example/brasswire/brasswire/service/CreatedRange" ∧ Fld Z h r "com/example/brasswire/brasswire/service/CreatedRange" "gt" "Ljava/lang/Long;" .null ∧ Fld Z h r "com/example/brasswire/brasswire/service/CreatedRange" "gte" "Ljava/lang/Long;" (.ref g1) ∧ Fld Z h r "com/example/brasswire/brasswire/service/CreatedRange" "lt" "Ljava/lang/Long;" .null ∧ Fld Z h r "com/example/brasswire/brasswire/service/CreatedRange" "lte" "Ljava/lang/Long;" (.ref g2) ∧ Exa Z h g1 "java/lang/Long" ∧ Fld Z h g1 "java/lang/Long" "value" "J" (.long q1) ∧ Exa Z h g2 "java/lang/Long" ∧ Fld Z h g2 "java/lang/Long" "value" "J" (.long q1)
set_option maxRecDepth 65536 in
set_option maxHeartbeats 40000000 in
theorem rm1 (l : Launch) (Z : State) (a0 : Array Value) (hw : ∀ d ∈ tables_1, d.before a0 Z = true) (ws : List Jvm.Cond) (q1 : Int64) (ca : Addr) (cc : Cell) (h0 : Heap) (n0 : Nat) (Z0 : n0 ≤ h0.size) (O : Old Z n0 h0) (SC : Sta Z Z.heap "java/lang/Long$LongCache" "cache" "[Ljava/lang/Long;" (.ref ca)) (BX : Bxs Z ca cc "java/lang/Long" "J" (256 : Int32) own_val) :
    MetFree l (⟨"com/example/brasswire/brasswire/service/CreatedRange", "at", "(J)Lcom/example/brasswire/brasswire/service/CreatedRange;"⟩ : MethodName) (head1 (Jvm.Cond.code (⟨"com/example/brasswire/brasswire/service/CreatedRange", "at", "(J)Lcom/example/brasswire/brasswire/service/CreatedRange;"⟩ : MethodName) prog_18_method_2_code 2 (some (.object "com/example/brasswire/brasswire/service/CreatedRange")) :: ws) ({ frames := 4, cells := 3, slots := 6, locals := 58 } : Room)) (fun as_ U => as_ = #[(.long q1)] ∧ Z.Warmed39 U.vm ∧ U.heap = h0) (fun _ _ _ _ _ => True) (fun _ U out_ U' => ∃ v L, out_ = .returned v ∧ Q1 Z q1 ca cc h0 n0 v U'.heap L ∧ FrameEnd U out_ U' L ({ frames := 4, cells := 3, slots := 6, locals := 58 } : Room).cells ({ frames := 4, cells := 3, slots := 6, locals := 58 } : Room).slots) := by
  refine MetFree.of_bodySF (plainFor_of_name pn_3) hisR ?_
  intro p e s m args below meth cd s₁ Bd hml0 hP hK
  obtain ⟨rfl, hZ, hh⟩ := hP
  have hx := Bd.exec
  have hby := Bd.bytes
  have hml : cd.maxLocals = 2 := hml0
  have hlk : meth.locks = false := BodyLoose.notSynchronized Bd
  have hown : s.vm.findClass "com/example/brasswire/brasswire/service/CreatedRange" = some m.cls := findClass_of_methodNamed Bd.named
  have hnm := (name_of_methodNamed Bd.named Bd.method).1
  have hret := Bd.returns
  have X0 : Stand p l e ({ frames := 4, cells := 3, slots := 6, locals := 58 } : Room) s m #[(.long q1)] below meth cd s₁ [] 0 0 := Stand.of_body Bd
  have e0 : s₁.heap = h0 := by rw [← hh, Bd.state]; rfl
  have N0 := Fr.nil n0
  show own_Fin p e below (own_Ans s (Q1 Z q1 ca cc h0 n0) ({ frames := 4, cells := 3, slots := 6, locals := 58 } : Room).cells ({ frames := 4, cells := 3, slots := 6, locals := 58 } : Room).slots) (s₁.setTop (entryFrame m #[(.long q1)] 2))
  refine own_cast (ef_rm1 m q1) ?_
  show own_Fin p e below _ (s₁.setTop (mkF m 0 #[.val (.long q1), .second] []))
  obtain ⟨T63, h63, X63, e63, E63, A63, D63, -, st63⟩ := newO X0 hx hZ hown (hw _ (List.mem_of_getElem? (i := 5) rfl)) (hw _ (List.mem_of_getElem? (i := 6) rfl)) (hw _ (List.mem_of_getElem? (i := 3) rfl)) e0 (g := (mkF m 0 #[.val (.long q1), .second] [])) rfl (hb hby d1_0) (by decide) (by decide)
  obtain ⟨b63, g63⟩ : ∃ z, z = h0.size := ⟨_, rfl⟩
  rw [← g63] at A63 D63 st63
  have y64 := (O.ext E63)
  have y65 := ((Keep.refl h0 []).ext E63)
  have y66 := (Nat.le_trans Z0 E63.1)
  have gn63 : n0 ≤ b63 := Nat.le_trans Z0 (Nat.le_of_eq g63.symm)
  have gk63 : h0.size ≤ b63 := Nat.le_trans (Keep.refl h0 []).1 (Nat.le_of_eq g63.symm)
  have F63_gt : Fld Z h63 b63 "com/example/brasswire/brasswire/service/CreatedRange" "gt" "Ljava/lang/Long;" .null := D63 (Or.inr (hw _ (List.mem_of_getElem? (i := 27) rfl))) (ty := (.object "java/lang/Long")) (by decide)
  have F63_gte : Fld Z h63 b63 "com/example/brasswire/brasswire/service/CreatedRange" "gte" "Ljava/lang/Long;" .null := D63 (Or.inr (hw _ (List.mem_of_getElem? (i := 29) rfl))) (ty := (.object "java/lang/Long")) (by decide)
  have F63_lt : Fld Z h63 b63 "com/example/brasswire/brasswire/service/CreatedRange" "lt" "Ljava/lang/Long;" .null := D63 (Or.inr (hw _ (List.mem_of_getElem? (i := 31) rfl))) (ty := (.object "java/lang/Long")) (by decide)
  have F63_lte : Fld Z h63 b63 "com/example/brasswire/brasswire/service/CreatedRange" "lte" "Ljava/lang/Long;" .null := D63 (Or.inr (hw _ (List.mem_of_getElem? (i := 33) rfl))) (ty := (.object "java/lang/Long")) (by decide)
  refine own_on st63 ?_
  show own_Fin p e below _ (T63.setTop (mkF m 3 #[.val (.long q1), .second] [(.ref b63)]))
  refine own_on (fun t => XS.dup X63.here hx rfl (hb hby d1_3) rfl rfl) ?_
  show own_Fin p e below _ (T63.setTop (mkF m 4 #[.val (.long q1), .second] [(.ref b63), (.ref b63)]))
  refine own_on (fun t => XS.aconstNull X63.here hx rfl (hb hby d1_4)) ?_
  show own_Fin p e below _ (T63.setTop (mkF m 5 #[.val (.long q1), .second] [.null, (.ref b63), (.ref b63)]))
  refine own_on (fun t => XS.lloadN X63.here hx rfl (hb hby d1_5) rfl) ?_
  show own_Fin p e below _ (T63.setTop (mkF m 6 #[.val (.long q1), .second] [(.long q1), .null, (.ref b63), (.ref b63)]))
  obtain ⟨_, _, ⟨T67, L67, k67, n67⟩, -, X67, ⟨Lc67, hQ67, l67, y67, z67⟩, st67⟩ := Jvm.LawKit.callS X63 hx (y := (⟨"java/lang/Long", "valueOf", "(J)Ljava/lang/Long;"⟩ : MethodName)) hown (mvT hZ (hw _ (List.mem_of_getElem? (i := 7) rfl))) (mvT hZ (hw _ (List.mem_of_getElem? (i := 8) rfl))) (mvT hZ (hw _ (List.mem_of_getElem? (i := 9) rfl))) (mvT hZ (hw _ (List.mem_of_getElem? (i := 10) rfl))) (by decide) (backOf (W := 3) (rm2 l Z a0 hw [] q1 ca cc h63 n0 (by exact y66) y64 SC BX) hZ (hw _ (List.mem_of_getElem? (i := 10) rfl)) (hw _ (List.mem_of_getElem? (i := 9) rfl)) (by decide) (by decide)) (g := (mkF m 6 #[.val (.long q1), .second] [(.long q1), .null, (.ref b63), (.ref b63)])) rfl (by rw [hml]; rfl) (argsL := [(.long q1)]) (rest := [.null, (.ref b63), (.ref b63)]) (lenOf pd_2 rfl) rfl (by show 2 * 0 + _ ≤ _; exact Nat.le_of_eq rfl) (hb hby d1_6) (fun _ _ => ⟨rfl, e63, (by decide : 1 + 1 ≤ _), (by decide : 4 + 1 ≤ _)⟩)
  dsimp only [Pt.U, Pt.locs, Pt.cells, Pt.slots] at X67 l67 y67 z67 st67 hQ67
  subst l67 y67 z67
  obtain ⟨g67, rfl, N67q, K67, E67q, F67q⟩ := hQ67
  have N67 := Fr.app N0 N67q
  have y68 := (y64.keep K67 all0)
  have y69 := (y65.trans K67 all0)
  have y70 := (Nat.le_trans y66 K67.1)
  have y71 := (A63.keep K67)
  have y72 := (F63_gt.keep K67 nin0)
  have y73 := (F63_gte.keep K67 nin0)
  have y74 := (F63_lt.keep K67 nin0)
  have y75 := (F63_lte.keep K67 nin0)
  have nx76 : g67 ≠ b63 := ne_exa E67q y71 (by decide)
  refine own_on st67 ?_
  show own_Fin p e below _ (T67.setTop (mkF m 9 #[.val (.long q1), .second] [(.ref g67), .null, (.ref b63), (.ref b63)]))
  refine own_on (fun t => XS.aconstNull X67.here hx rfl (hb hby d1_9)) ?_
  show own_Fin p e below _ (T67.setTop (mkF m 10 #[.val (.long q1), .second] [.null, (.ref g67), .null, (.ref b63), (.ref b63)]))
  refine own_on (fun t => XS.lloadN X67.here hx rfl (hb hby d1_10) rfl) ?_
  show own_Fin p e below _ (T67.setTop (mkF m 11 #[.val (.long q1), .second] [(.long q1), .null, (.ref g67), .null, (.ref b63), (.ref b63)]))
  obtain ⟨_, _, ⟨T77, L77, k77, n77⟩, -, X77, ⟨Lc77, hQ77, l77, y77, z77⟩, st77⟩ := Jvm.LawKit.callS X67 hx (y := (⟨"java/lang/Long", "valueOf", "(J)Ljava/lang/Long;"⟩ : MethodName)) hown (mvT hZ (hw _ (List.mem_of_getElem? (i := 7) rfl))) (mvT hZ (hw _ (List.mem_of_getElem? (i := 8) rfl))) (mvT hZ (hw _ (List.mem_of_getElem? (i := 9) rfl))) (mvT hZ (hw _ (List.mem_of_getElem? (i := 10) rfl))) (by decide) (backOf (W := 5) (rm2 l Z a0 hw [] q1 ca cc T67.heap n0 (by exact y70) y68 SC BX) hZ (hw _ (List.mem_of_getElem? (i := 10) rfl)) (hw _ (List.mem_of_getElem? (i := 9) rfl)) (by decide) (by decide)) (g := (mkF m 11 #[.val (.long q1), .second] [(.long q1), .null, (.ref g67), .null, (.ref b63), (.ref b63)])) rfl (by rw [hml]; rfl) (argsL := [(.long q1)]) (rest := [.null, (.ref g67), .null, (.ref b63), (.ref b63)]) (lenOf pd_2 rfl) rfl (by show 2 * 0 + _ ≤ _; exact Nat.le_of_eq rfl) (hb hby d1_11) (fun _ _ => ⟨rfl, rfl, (by decide : 2 + 1 ≤ _), (by decide : 5 + 1 ≤ _)⟩)
  dsimp only [Pt.U, Pt.locs, Pt.cells, Pt.slots] at X77 l77 y77 z77 st77 hQ77
  subst l77 y77 z77
  obtain ⟨g77, rfl, N77q, K77, E77q, F77q⟩ := hQ77
  have N77 := Fr.app N67 N77q
  have y78 := (y68.keep K77 all0)
  have y79 := (y69.trans K77 all0)
  have y80 := (Nat.le_trans y70 K77.1)
  have y81 := (y71.keep K77)
  have y82 := (y72.keep K77 nin0)
  have y83 := (y73.keep K77 nin0)
  have y84 := (y74.keep K77 nin0)
  have y85 := (y75.keep K77 nin0)
  have y86 := (E67q.keep K77)
  have y87 := (F67q.keep K77 nin0)
  have nx88 : g77 ≠ b63 := ne_exa E77q y81 (by decide)
  refine own_on st77 ?_
  show own_Fin p e below _ (T77.setTop (mkF m 14 #[.val (.long q1), .second] [(.ref g77), .null, (.ref g67), .null, (.ref b63), (.ref b63)]))
  obtain ⟨_, _, ⟨T89, L89, k89, n89⟩, -, X89, ⟨Lc89, hQ89, l89, y89, z89⟩, st89⟩ := X77.specialBack hx (y := (⟨"com/example/brasswire/brasswire/service/CreatedRange", "<init>", "(Ljava/lang/Long;Ljava/lang/Long;Ljava/lang/Long;Ljava/lang/Long;)V"⟩ : MethodName)) rfl hown (mvT hZ (hw _ (List.mem_of_getElem? (i := 15) rfl))) (mvT hZ (hw _ (List.mem_of_getElem? (i := 16) rfl))) (mvT hZ (hw _ (List.mem_of_getElem? (i := 17) rfl))) (by decide) (backOf (W := 1) (rm3 l Z a0 hw [] b63 g67 g77 T77.heap n0 (by exact y80) y81 y82 y83 y84 y85 gn63) hZ (hw _ (List.mem_of_getElem? (i := 17) rfl)) (hw _ (List.mem_of_getElem? (i := 3) rfl)) (by decide) (by decide)) (g := (mkF m 14 #[.val (.long q1), .second] [(.ref g77), .null, (.ref g67), .null, (.ref b63), (.ref b63)])) rfl (by rw [hml]; rfl) (Steps.refl _) (a := b63) (argsL := [.null, (.ref g67), .null, (.ref g77)]) (rest := [(.ref b63)]) (lenOf pd_3 rfl) rfl (by show 2 * 0 + _ ≤ _; exact Nat.le_of_eq rfl) (hb hby d1_14) (fun _ _ => ⟨rfl, rfl, (by decide : 3 + 0 ≤ _), (by decide : 6 + 0 ≤ _)⟩)
  dsimp only [Pt.U, Pt.locs, Pt.cells, Pt.slots] at X89 l89 y89 z89 st89 hQ89
  subst l89 y89 z89
  obtain ⟨rfl, N89q, K89, E89q, F89q0, F89q1, F89q2, F89q3⟩ := hQ89
  have N89 := Fr.app N77 N89q
  have y90 := (y78.keep K89 (allS gn63 all0))
  have y91 := (y79.trans K89 (allS (Or.inr gk63) all0))
  have y92 := (Nat.le_trans y80 K89.1)
  have y93 := (y81.keep K89)
  have y94 := (y86.keep K89)
  have y95 := (y87.keep K89 (ninS nx76 nin0))
  have y96 := (E77q.keep K89)
  have y97 := (F77q.keep K89 (ninS nx88 nin0))
  refine own_via st89 ?_
  show own_Fin p e below _ (T89.setTop (mkF m 17 #[.val (.long q1), .second] [(.ref b63)]))
  exact own_ret (t := (.object "com/example/brasswire/brasswire/service/CreatedRange")) X89 hx hlk hret rfl (Or.inr (Or.inr (Or.inr (Or.inr ⟨rfl, rfl, rfl⟩)))) (hb hby d1_17) (by show Q1 Z q1 ca cc h0 n0 _ T89.heap _; exact ⟨b63, g67, g77, rfl, N89, y91, y93, F89q0, F89q1, F89q2, F89q3, y94, y95, y96, y97⟩) (by decide) (by decide)
theorem d7_0 : decode prog_18_method_9_code 0 = .ok (.aload_n 0, 1) := by decide +kernel
theorem d7_1 : decode prog_18_method_9_code 1 = .ok (.getfield 7, 3) := by decide +kernel
theorem d7_4 : decode prog_18_method_9_code 4 = .ok (.areturn, 1) := by decide +kernel
theorem ef_rm7 (m : MethodId) (x0 : Addr) : entryFrame m #[(.ref x0)] 1 = mkF m 0 #[.val (.ref x0)] [] := by first | (simp [entryFrame, mkF, argsToLocals, Value.category]; done) | rfl
def Q7 (Z : State) (a1 : Addr) (f : Value) (h0 : Heap) (n0 : Nat) (v : Option Value) (h : Heap) (L : List Loc) : Prop := v = some f ∧ Fr n0 L ∧ h = h0
set_option maxRecDepth 65536 in
set_option maxHeartbeats 40000000 in
theorem rm7 (l : Launch) (Z : State) (a0 : Array Value) (hw : ∀ d ∈ tables_1, d.before a0 Z = true) (ws : List Jvm.Cond) (a1 : Addr) (f : Value) (h0 : Heap) (n0 : Nat) (Z0 : n0 ≤ h0.size) (F : Fld Z h0 a1 "com/example/brasswire/brasswire/service/CreatedRange" "gt" "Ljava/lang/Long;" f) (hf : f.isRef = true) :
    MetFree l (⟨"com/example/brasswire/brasswire/service/CreatedRange", "gt", "()Ljava/lang/Long;"⟩ : MethodName) (head1 (Jvm.Cond.code (⟨"com/example/brasswire/brasswire/service/CreatedRange", "gt", "()Ljava/lang/Long;"⟩ : MethodName) prog_18_method_9_code 1 (some (.object "java/lang/Long")) :: ws) ({ frames := 0, cells := 0, slots := 0, locals := 0 } : Room)) (fun as_ U => as_ = #[(.ref a1)] ∧ Z.Warmed39 U.vm ∧ U.heap = h0) (fun _ _ _ _ _ => True) (fun _ U out_ U' => ∃ v L, out_ = .returned v ∧ Q7 Z a1 f h0 n0 v U'.heap L ∧ FrameEnd U out_ U' L ({ frames := 0, cells := 0, slots := 0, locals := 0 } : Room).cells ({ frames := 0, cells := 0, slots := 0, locals := 0 } : Room).slots) := by
  refine MetFree.of_bodySF (plainFor_of_name pn_3) hisR ?_
  intro p e s m args below meth cd s₁ Bd hml0 hP hK
  obtain ⟨rfl, hZ, hh⟩ := hP
  have hx := Bd.exec
  have hby := Bd.bytes
  have hml : cd.maxLocals = 1 := hml0
  have hlk : meth.locks = false := BodyLoose.notSynchronized Bd
  have hown : s.vm.findClass "com/example/brasswire/brasswire/service/CreatedRange" = some m.cls := findClass_of_methodNamed Bd.named
  have hnm := (name_of_methodNamed Bd.named Bd.method).1
  have hret := Bd.returns
  have X0 : Stand p l e ({ frames := 0, cells := 0, slots := 0, locals := 0 } : Room) s m #[(.ref a1)] below meth cd s₁ [] 0 0 := Stand.of_body Bd
  have e0 : s₁.heap = h0 := by rw [← hh, Bd.state]; rfl
  have N0 := Fr.nil n0
  show own_Fin p e below (own_Ans s (Q7 Z a1 f h0 n0) ({ frames := 0, cells := 0, slots := 0, locals := 0 } : Room).cells ({ frames := 0, cells := 0, slots := 0, locals := 0 } : Room).slots) (s₁.setTop (entryFrame m #[(.ref a1)] 1))
  refine own_cast (ef_rm7 m a1) ?_
  show own_Fin p e below _ (s₁.setTop (mkF m 0 #[.val (.ref a1)] []))
  refine own_on (fun t => XS.aloadN X0.here hx rfl (hb hby d7_0) rfl rfl) ?_
  show own_Fin p e below _ (s₁.setTop (mkF m 1 #[.val (.ref a1)] [(.ref a1)]))
  obtain ⟨T98, X98, e98, st98⟩ := getF X0 hx hZ hown (host := "") (Or.inl (hw _ (List.mem_of_getElem? (i := 26) rfl))) Via.refl e0 F (g := (mkF m 1 #[.val (.ref a1)] [(.ref a1)])) rfl rfl (hb hby d7_1)
  refine own_on st98 ?_
  show own_Fin p e below _ (T98.setTop (mkF m 4 #[.val (.ref a1)] [f]))
  exact own_ret (t := (.object "java/lang/Long")) X98 hx hlk hret (by rcases ref_cases hf with h | ⟨_, h⟩ <;> subst h <;> rfl) (Or.inr (Or.inr (Or.inr (Or.inr ⟨rfl, rfl, hf⟩)))) (hb hby d7_4) (⟨rfl, N0, e98⟩) (by decide) (by decide)
theorem d8_0 : decode prog_18_method_10_code 0 = .ok (.aload_n 0, 1) := by decide +kernel
theorem d8_1 : decode prog_18_method_10_code 1 = .ok (.getfield 13, 3) := by decide +kernel
theorem d8_4 : decode prog_18_method_10_code 4 = .ok (.areturn, 1) := by decide +kernel
theorem ef_rm8 (m : MethodId) (x0 : Addr) : entryFrame m #[(.ref x0)] 1 = mkF m 0 #[.val (.ref x0)] [] := by first | (simp [entryFrame, mkF, argsToLocals, Value.category]; done) | rfl
def Q8 (Z : State) (a1 : Addr) (f : Value) (h0 : Heap) (n0 : Nat) (v : Option Value) (h : Heap) (L : List Loc) : Prop := v = some f ∧ Fr n0 L ∧ h = h0
set_option maxRecDepth 65536 in
set_option maxHeartbeats 40000000 in
theorem rm8 (l : Launch) (Z : State) (a0 : Array Value) (hw : ∀ d ∈ tables_1, d.before a0 Z = true) (ws : List Jvm.Cond) (a1 : Addr) (f : Value) (h0 : Heap) (n0 : Nat) (Z0 : n0 ≤ h0.size) (F : Fld Z h0 a1 "com/example/brasswire/brasswire/service/CreatedRange" "gte" "Ljava/lang/Long;" f) (hf : f.isRef = true) :
    MetFree l (⟨"com/example/brasswire/brasswire/service/CreatedRange", "gte", "()Ljava/lang/Long;"⟩ : MethodName) (head1 (Jvm.Cond.code (⟨"com/example/brasswire/brasswire/service/CreatedRange", "gte", "()Ljava/lang/Long;"⟩ : MethodName) prog_18_method_10_code 1 (some (.object "java/lang/Long")) :: ws) ({ frames := 0, cells := 0, slots := 0, locals := 0 } : Room)) (fun as_ U => as_ = #[(.ref a1)] ∧ Z.Warmed39 U.vm ∧ U.heap = h0) (fun _ _ _ _ _ => True) (fun _ U out_ U' => ∃ v L, out_ = .returned v ∧ Q8 Z a1 f h0 n0 v U'.heap L ∧ FrameEnd U out_ U' L ({ frames := 0, cells := 0, slots := 0, locals := 0 } : Room).cells ({ frames := 0, cells := 0, slots := 0, locals := 0 } : Room).slots) := by
  refine MetFree.of_bodySF (plainFor_of_name pn_3) hisR ?_
  intro p e s m args below meth cd s₁ Bd hml0 hP hK
  obtain ⟨rfl, hZ, hh⟩ := hP
  have hx := Bd.exec
  have hby := Bd.bytes
  have hml : cd.maxLocals = 1 := hml0
  have hlk : meth.locks = false := BodyLoose.notSynchronized Bd
  have hown : s.vm.findClass "com/example/brasswire/brasswire/service/CreatedRange" = some m.cls := findClass_of_methodNamed Bd.named
  have hnm := (name_of_methodNamed Bd.named Bd.method).1
  have hret := Bd.returns
  have X0 : Stand p l e ({ frames := 0, cells := 0, slots := 0, locals := 0 } : Room) s m #[(.ref a1)] below meth cd s₁ [] 0 0 := Stand.of_body Bd
  have e0 : s₁.heap = h0 := by rw [← hh, Bd.state]; rfl
  have N0 := Fr.nil n0
  show own_Fin p e below (own_Ans s (Q8 Z a1 f h0 n0) ({ frames := 0, cells := 0, slots := 0, locals := 0 } : Room).cells ({ frames := 0, cells := 0, slots := 0, locals := 0 } : Room).slots) (s₁.setTop (entryFrame m #[(.ref a1)] 1))
  refine own_cast (ef_rm8 m a1) ?_
  show own_Fin p e below _ (s₁.setTop (mkF m 0 #[.val (.ref a1)] []))
  refine own_on (fun t => XS.aloadN X0.here hx rfl (hb hby d8_0) rfl rfl) ?_
  show own_Fin p e below _ (s₁.setTop (mkF m 1 #[.val (.ref a1)] [(.ref a1)]))
  obtain ⟨T99, X99, e99, st99⟩ := getF X0 hx hZ hown (host := "") (Or.inl (hw _ (List.mem_of_getElem? (i := 28) rfl))) Via.refl e0 F (g := (mkF m 1 #[.val (.ref a1)] [(.ref a1)])) rfl rfl (hb hby d8_1)
  refine own_on st99 ?_
  show own_Fin p e below _ (T99.setTop (mkF m 4 #[.val (.ref a1)] [f]))
  exact own_ret (t := (.object "java/lang/Long")) X99 hx hlk hret (by rcases ref_cases hf with h | ⟨_, h⟩ <;> subst h <;> rfl) (Or.inr (Or.inr (Or.inr (Or.inr ⟨rfl, rfl, hf⟩)))) (hb hby d8_4) (⟨rfl, N0, e99⟩) (by decide) (by decide)
theorem d10_0 : decode prog_18_method_11_code 0 = .ok (.aload_n 0, 1) := by decide +kernel
theorem d10_1 : decode prog_18_method_11_code 1 = .ok (.getfield 16, 3) := by decide +kernel
theorem d10_4 : decode prog_18_method_11_code 4 = .ok (.areturn, 1) := by decide +kernel
theorem ef_rm10 (m : MethodId) (x0 : Addr) : entryFrame m #[(.ref x0)] 1 = mkF m 0 #[.val (.ref x0)] [] := by first | (simp [entryFrame, mkF, argsToLocals, Value.category]; done) | rfl
def Q10 (Z : State) (a1 : Addr) (f : Value) (h0 : Heap) (n0 : Nat) (v : Option Value) (h : Heap) (L : List Loc) : Prop := v = some f ∧ Fr n0 L ∧ h = h0
set_option maxRecDepth 65536 in
set_option maxHeartbeats 40000000 in
theorem rm10 (l : Launch) (Z : State) (a0 : Array Value) (hw : ∀ d ∈ tables_1, d.before a0 Z = true) (ws : List Jvm.Cond) (a1 : Addr) (f : Value) (h0 : Heap) (n0 : Nat) (Z0 : n0 ≤ h0.size) (F : Fld Z h0 a1 "com/example/brasswire/brasswire/service/CreatedRange" "lt" "Ljava/lang/Long;" f) (hf : f.isRef = true) :
    MetFree l (⟨"com/example/brasswire/brasswire/service/CreatedRange", "lt", "()Ljava/lang/Long;"⟩ : MethodName) (head1 (Jvm.Cond.code (⟨"com/example/brasswire/brasswire/service/CreatedRange", "lt", "()Ljava/lang/Long;"⟩ : MethodName) prog_18_method_11_code 1 (some (.object "java/lang/Long")) :: ws) ({ frames := 0, cells := 0, slots := 0, locals := 0 } : Room)) (fun as_ U => as_ = #[(.ref a1)] ∧ Z.Warmed39 U.vm ∧ U.heap = h0) (fun _ _ _ _ _ => True) (fun _ U out_ U' => ∃ v L, out_ = .returned v ∧ Q10 Z a1 f h0 n0 v U'.heap L ∧ FrameEnd U out_ U' L ({ frames := 0, cells := 0, slots := 0, locals := 0 } : Room).cells ({ frames := 0, cells := 0, slots := 0, locals := 0 } : Room).slots) := by
  refine MetFree.of_bodySF (plainFor_of_name pn_3) hisR ?_
  intro p e s m args below meth cd s₁ Bd hml0 hP hK
  obtain ⟨rfl, hZ, hh⟩ := hP
  have hx := Bd.exec
  have hby := Bd.bytes
  have hml : cd.maxLocals = 1 := hml0
  have hlk : meth.locks = false := BodyLoose.notSynchronized Bd
  have hown : s.vm.findClass "com/example/brasswire/brasswire/service/CreatedRange" = some m.cls := findClass_of_methodNamed Bd.named
  have hnm := (name_of_methodNamed Bd.named Bd.method).1
  have hret := Bd.returns
  have X0 : Stand p l e ({ frames := 0, cells := 0, slots := 0, locals := 0 } : Room) s m #[(.ref a1)] below meth cd s₁ [] 0 0 := Stand.of_body Bd
  have e0 : s₁.heap = h0 := by rw [← hh, Bd.state]; rfl
  have N0 := Fr.nil n0
  show own_Fin p e below (own_Ans s (Q10 Z a1 f h0 n0) ({ frames := 0, cells := 0, slots := 0, locals := 0 } : Room).cells ({ frames := 0, cells := 0, slots := 0, locals := 0 } : Room).slots) (s₁.setTop (entryFrame m #[(.ref a1)] 1))
  refine own_cast (ef_rm10 m a1) ?_
  show own_Fin p e below _ (s₁.setTop (mkF m 0 #[.val (.ref a1)] []))
  refine own_on (fun t => XS.aloadN X0.here hx rfl (hb hby d10_0) rfl rfl) ?_
  show own_Fin p e below _ (s₁.setTop (mkF m 1 #[.val (.ref a1)] [(.ref a1)]))
  obtain ⟨T100, X100, e100, st100⟩ := getF X0 hx hZ hown (host := "") (Or.inl (hw _ (List.mem_of_getElem? (i := 30) rfl))) Via.refl e0 F (g := (mkF m 1 #[.val (.ref a1)] [(.ref a1)])) rfl rfl (hb hby d10_1)
  refine own_on st100 ?_
  show own_Fin p e below _ (T100.setTop (mkF m 4 #[.val (.ref a1)] [f]))
  exact own_ret (t := (.object "java/lang/Long")) X100 hx hlk hret (by rcases ref_cases hf with h | ⟨_, h⟩ <;> subst h <;> rfl) (Or.inr (Or.inr (Or.inr (Or.inr ⟨rfl, rfl, hf⟩)))) (hb hby d10_4) (⟨rfl, N0, e100⟩) (by decide) (by decide)
theorem d11_0 : decode prog_18_method_12_code 0 = .ok (.aload_n 0, 1) := by decide +kernel
theorem d11_1 : decode prog_18_method_12_code 1 = .ok (.getfield 19, 3) := by decide +kernel
theorem d11_4 : decode prog_18_method_12_code 4 = .ok (.areturn, 1) := by decide +kernel
theorem ef_rm11 (m : MethodId) (x0 : Addr) : entryFrame m #[(.ref x0)] 1 = mkF m 0 #[.val (.ref x0)] [] := by first | (simp [entryFrame, mkF, argsToLocals, Value.category]; done) | rfl
def Q11 (Z : State) (a1 : Addr) (f : Value) (h0 : Heap) (n0 : Nat) (v : Option Value) (h : Heap) (L : List Loc) : Prop := v = some f ∧ Fr n0 L ∧ h = h0
set_option maxRecDepth 65536 in
set_option maxHeartbeats 40000000 in
theorem rm11 (l : Launch) (Z : State) (a0 : Array Value) (hw : ∀ d ∈ tables_1, d.before a0 Z = true) (ws : List Jvm.Cond) (a1 : Addr) (f : Value) (h0 : Heap) (n0 : Nat) (Z0 : n0 ≤ h0.size) (F : Fld Z h0 a1 "com/example/brasswire/brasswire/service/CreatedRange" "lte" "Ljava/lang/Long;" f) (hf : f.isRef = true) :
    MetFree l (⟨"com/example/brasswire/brasswire/service/CreatedRange", "lte", "()Ljava/lang/Long;"⟩ : MethodName) (head1 (Jvm.Cond.code (⟨"com/example/brasswire/brasswire/service/CreatedRange", "lte", "()Ljava/lang/Long;"⟩ : MethodName) prog_18_method_12_code 1 (some (.object "java/lang/Long")) :: ws) ({ frames := 0, cells := 0, slots := 0, locals := 0 } : Room)) (fun as_ U => as_ = #[(.ref a1)] ∧ Z.Warmed39 U.vm ∧ U.heap = h0) (fun _ _ _ _ _ => True) (fun _ U out_ U' => ∃ v L, out_ = .returned v ∧ Q11 Z a1 f h0 n0 v U'.heap L ∧ FrameEnd U out_ U' L ({ frames := 0, cells := 0, slots := 0, locals := 0 } : Room).cells ({ frames := 0, cells := 0, slots := 0, locals := 0 } : Room).slots) := by
  refine MetFree.of_bodySF (plainFor_of_name pn_3) hisR ?_
  intro p e s m args below meth cd s₁ Bd hml0 hP hK
  obtain ⟨rfl, hZ, hh⟩ := hP
  have hx := Bd.exec
  have hby := Bd.bytes
  have hml : cd.maxLocals = 1 := hml0
  have hlk : meth.locks = false := BodyLoose.notSynchronized Bd
  have hown : s.vm.findClass "com/example/brasswire/brasswire/service/CreatedRange" = some m.cls := findClass_of_methodNamed Bd.named
  have hnm := (name_of_methodNamed Bd.named Bd.method).1
  have hret := Bd.returns
  have X0 : Stand p l e ({ frames := 0, cells := 0, slots := 0, locals := 0 } : Room) s m #[(.ref a1)] below meth cd s₁ [] 0 0 := Stand.of_body Bd
  have e0 : s₁.heap = h0 := by rw [← hh, Bd.state]; rfl
  have N0 := Fr.nil n0
  show own_Fin p e below (own_Ans s (Q11 Z a1 f h0 n0) ({ frames := 0, cells := 0, slots := 0, locals := 0 } : Room).cells ({ frames := 0, cells := 0, slots := 0, locals := 0 } : Room).slots) (s₁.setTop (entryFrame m #[(.ref a1)] 1))
  refine own_cast (ef_rm11 m a1) ?_
  show own_Fin p e below _ (s₁.setTop (mkF m 0 #[.val (.ref a1)] []))
  refine own_on (fun t => XS.aloadN X0.here hx rfl (hb hby d11_0) rfl rfl) ?_
  show own_Fin p e below _ (s₁.setTop (mkF m 1 #[.val (.ref a1)] [(.ref a1)]))
  obtain ⟨T101, X101, e101, st101⟩ := getF X0 hx hZ hown (host := "") (Or.inl (hw _ (List.mem_of_getElem? (i := 32) rfl))) Via.refl e0 F (g := (mkF m 1 #[.val (.ref a1)] [(.ref a1)])) rfl rfl (hb hby d11_1)
  refine own_on st101 ?_
  show own_Fin p e below _ (T101.setTop (mkF m 4 #[.val (.ref a1)] [f]))
  exact own_ret (t := (.object "java/lang/Long")) X101 hx hlk hret (by rcases ref_cases hf with h | ⟨_, h⟩ <;> subst h <;> rfl) (Or.inr (Or.inr (Or.inr (Or.inr ⟨rfl, rfl, hf⟩)))) (hb hby d11_4) (⟨rfl, N0, e101⟩) (by decide) (by decide)
theorem d9_0 : decode jdk_35_method_31_code 0 = .ok (.aload_n 0, 1) := by decide +kernel
theorem d9_1 : decode jdk_35_method_31_code 1 = .ok (.getfield 273, 3) := by decide +kernel
theorem d9_4 : decode jdk_35_method_31_code 4 = .ok (.lreturn, 1) := by decide +kernel
theorem ef_rm9 (m : MethodId) (x0 : Addr) : entryFrame m #[(.ref x0)] 1 = mkF m 0 #[.val (.ref x0)] [] := by first | (simp [entryFrame, mkF, argsToLocals, Value.category]; done) | rfl
def Q9 (Z : State) (a1 : Addr) (q : Int64) (h0 : Heap) (n0 : Nat) (v : Option Value) (h : Heap) (L : List Loc) : Prop := v = some (.long q) ∧ Fr n0 L ∧ h = h0
set_option maxRecDepth 65536 in
set_option maxHeartbeats 40000000 in
theorem rm9 (l : Launch) (Z : State) (a0 : Array Value) (hw : ∀ d ∈ tables_1, d.before a0 Z = true) (ws : List Jvm.Cond) (a1 : Addr) (q : Int64) (h0 : Heap) (n0 : Nat) (Z0 : n0 ≤ h0.size) (F : Fld Z h0 a1 "java/lang/Long" "value" "J" (.long q)) :
    MetFree l (⟨"java/lang/Long", "longValue", "()J"⟩ : MethodName) (head1 (Jvm.Cond.code (⟨"java/lang/Long", "longValue", "()J"⟩ : MethodName) jdk_35_method_31_code 1 (some .long) :: ws) ({ frames := 0, cells := 0, slots := 0, locals := 0 } : Room)) (fun as_ U => as_ = #[(.ref a1)] ∧ Z.Warmed39 U.vm ∧ U.heap = h0) (fun _ _ _ _ _ => True) (fun _ U out_ U' => ∃ v L, out_ = .returned v ∧ Q9 Z a1 q h0 n0 v U'.heap L ∧ FrameEnd U out_ U' L ({ frames := 0, cells := 0, slots := 0, locals := 0 } : Room).cells ({ frames := 0, cells := 0, slots := 0, locals := 0 } : Room).slots) := by
  refine MetFree.of_bodySF (plainFor_of_name pn_2) hisR ?_
  intro p e s m args below meth cd s₁ Bd hml0 hP hK
  obtain ⟨rfl, hZ, hh⟩ := hP
  have hx := Bd.exec
  have hby := Bd.bytes
  have hml : cd.maxLocals = 1 := hml0
  have hlk : meth.locks = false := BodyLoose.notSynchronized Bd
  have hown : s.vm.findClass "java/lang/Long" = some m.cls := findClass_of_methodNamed Bd.named
  have hnm := (name_of_methodNamed Bd.named Bd.method).1
  have hret := Bd.returns
  have X0 : Stand p l e ({ frames := 0, cells := 0, slots := 0, locals := 0 } : Room) s m #[(.ref a1)] below meth cd s₁ [] 0 0 := Stand.of_body Bd
  have e0 : s₁.heap = h0 := by rw [← hh, Bd.state]; rfl
  have N0 := Fr.nil n0
  show own_Fin p e below (own_Ans s (Q9 Z a1 q h0 n0) ({ frames := 0, cells := 0, slots := 0, locals := 0 } : Room).cells ({ frames := 0, cells := 0, slots := 0, locals := 0 } : Room).slots) (s₁.setTop (entryFrame m #[(.ref a1)] 1))
  refine own_cast (ef_rm9 m a1) ?_
  show own_Fin p e below _ (s₁.setTop (mkF m 0 #[.val (.ref a1)] []))
  refine own_on (fun t => XS.aloadN X0.here hx rfl (hb hby d9_0) rfl rfl) ?_
  show own_Fin p e below _ (s₁.setTop (mkF m 1 #[.val (.ref a1)] [(.ref a1)]))
  obtain ⟨T102, X102, e102, st102⟩ := getF X0 hx hZ hown (host := "") (Or.inl (hw _ (List.mem_of_getElem? (i := 53) rfl))) Via.refl e0 F (g := (mkF m 1 #[.val (.ref a1)] [(.ref a1)])) rfl rfl (hb hby d9_1)
  refine own_on st102 ?_
  show own_Fin p e below _ (T102.setTop (mkF m 4 #[.val (.ref a1)] [(.long q)]))
  exact own_ret (t := .long) X102 hx hlk hret rfl (Or.inr (Or.inl ⟨rfl, rfl, _, rfl⟩)) (hb hby d9_4) (⟨rfl, N0, e102⟩) (by decide) (by decide)
theorem pn_4 : plainName "com/example/brasswire/brasswire/service/CreatedRangeAtPinLaw" = true := by first | (simp [plainName, overriddenIn]; done) | decide +kernel
theorem d6_0 : decode method_2_code 0 = .ok (.aload_n 0, 1) := by decide +kernel
theorem d6_1 : decode method_2_code 1 = .ok (.invokevirtual 7, 3) := by decide +kernel
theorem pd_4 : parseMethodDescriptor "()Ljava/lang/Long;" = some ⟨[], some (.object "java/lang/Long")⟩ := by decide +kernel
theorem d6_4 : decode method_2_code 4 = .ok (.astore_n 3, 1) := by decide +kernel
theorem d6_5 : decode method_2_code 5 = .ok (.aload_n 3, 1) := by decide +kernel
theorem d6_6 : decode method_2_code 6 = .ok (.ifnull 14, 3) := by decide +kernel
theorem d6_20 : decode method_2_code 20 = .ok (.aload_n 0, 1) := by decide +kernel
theorem d6_21 : decode method_2_code 21 = .ok (.invokevirtual 19, 3) := by decide +kernel
theorem d6_24 : decode method_2_code 24 = .ok (.astore 4, 2) := by decide +kernel
theorem d6_26 : decode method_2_code 26 = .ok (.aload 4, 2) := by decide +kernel
theorem d6_28 : decode method_2_code 28 = .ok (.ifnull 15, 3) := by decide +kernel
theorem d6_31 : decode method_2_code 31 = .ok (.lload_n 1, 1) := by decide +kernel
theorem d6_32 : decode method_2_code 32 = .ok (.aload 4, 2) := by decide +kernel
theorem d6_34 : decode method_2_code 34 = .ok (.invokevirtual 13, 3) := by decide +kernel
theorem pd_5 : parseMethodDescriptor "()J" = some ⟨[], some .long⟩ := by decide +kernel
theorem d6_37 : decode method_2_code 37 = .ok (.lcmp, 1) := by decide +kernel
theorem d6_38 : decode method_2_code 38 = .ok (.ifCond .ge 5, 3) := by decide +kernel
theorem d6_41 : decode method_2_code 41 = .ok (.iconst 0, 1) := by decide +kernel
theorem d6_42 : decode method_2_code 42 = .ok (.ireturn, 1) := by decide +kernel
theorem d6_43 : decode method_2_code 43 = .ok (.aload_n 0, 1) := by decide +kernel
theorem d6_44 : decode method_2_code 44 = .ok (.invokevirtual 22, 3) := by decide +kernel
theorem d6_47 : decode method_2_code 47 = .ok (.astore 5, 2) := by decide +kernel
theorem d6_49 : decode method_2_code 49 = .ok (.aload 5, 2) := by decide +kernel
theorem d6_51 : decode method_2_code 51 = .ok (.ifnull 15, 3) := by decide +kernel
theorem d6_66 : decode method_2_code 66 = .ok (.aload_n 0, 1) := by decide +kernel
theorem d6_67 : decode method_2_code 67 = .ok (.invokevirtual 25, 3) := by decide +kernel
theorem d6_70 : decode method_2_code 70 = .ok (.astore 6, 2) := by decide +kernel
theorem d6_72 : decode method_2_code 72 = .ok (.aload 6, 2) := by decide +kernel
theorem d6_74 : decode method_2_code 74 = .ok (.ifnull 15, 3) := by decide +kernel
theorem d6_77 : decode method_2_code 77 = .ok (.lload_n 1, 1) := by decide +kernel
theorem d6_78 : decode method_2_code 78 = .ok (.aload 6, 2) := by decide +kernel
theorem d6_80 : decode method_2_code 80 = .ok (.invokevirtual 13, 3) := by decide +kernel
theorem d6_83 : decode method_2_code 83 = .ok (.lcmp, 1) := by decide +kernel
theorem d6_84 : decode method_2_code 84 = .ok (.ifCond .le 5, 3) := by decide +kernel
theorem d6_87 : decode method_2_code 87 = .ok (.iconst 0, 1) := by decide +kernel
theorem d6_88 : decode method_2_code 88 = .ok (.ireturn, 1) := by decide +kernel
theorem d6_89 : decode method_2_code 89 = .ok (.iconst 1, 1) := by decide +kernel
theorem d6_90 : decode method_2_code 90 = .ok (.ireturn, 1) := by decide +kernel
theorem ef_rm6 (m : MethodId) (x0 : Addr) (x1 : Int64) : entryFrame m #[(.ref x0), (.long x1)] 7 = mkF m 0 #[.val (.ref x0), .val (.long x1), .second, .unset, .unset, .unset, .unset] [] := by first | (simp [entryFrame, mkF, argsToLocals, Value.category]; done) | rfl
def Q6 (Z : State) (r : Addr) (x1 : Int64) (g1 : Addr) (g2 : Addr) (q : Int64) (h0 : Heap) (n0 : Nat) (v : Option Value) (h : Heap) (L : List Loc) : Prop := v = some (.int (if x1 = q then (1 : Int32) else 0)) ∧ Fr n0 L ∧ h = h0
set_option maxRecDepth 65536 in
set_option maxHeartbeats 40000000 in
theorem rm6 (l : Launch) (Z : State) (a0 : Array Value) (hw : ∀ d ∈ tables_1, d.before a0 Z = true) (ws : List Jvm.Cond) (r : Addr) (x1 : Int64) (g1 : Addr) (g2 : Addr) (q : Int64) (h0 : Heap) (n0 : Nat) (Z0 : n0 ≤ h0.size) (E : Exa Z h0 r "com/example/brasswire/brasswire/service/CreatedRange") (F0 : Fld Z h0 r "com/example/brasswire/brasswire/service/CreatedRange" "gt" "Ljava/lang/Long;" .null) (F1 : Fld Z h0 r "com/example/brasswire/brasswire/service/CreatedRange" "gte" "Ljava/lang/Long;" (.ref g1)) (F2 : Fld Z h0 r "com/example/brasswire/brasswire/service/CreatedRange" "lt" "Ljava/lang/Long;" .null) (F3 : Fld Z h0 r "com/example/brasswire/brasswire/service/CreatedRange" "lte" "Ljava/lang/Long;" (.ref g2)) (E1 : Exa Z h0 g1 "java/lang/Long") (G1 : Fld Z h0 g1 "java/lang/Long" "value" "J" (.long q)) (E2 : Exa Z h0 g2 "java/lang/Long") (G2 : Fld Z h0 g2 "java/lang/Long" "value" "J" (.long q)) :
    MetFree l (⟨"com/example/brasswire/brasswire/service/CreatedRangeAtPinLaw", "keeps", "(Lcom/example/brasswire/brasswire/service/CreatedRange;J)Z"⟩ : MethodName) (head1 (Jvm.Cond.code (⟨"com/example/brasswire/brasswire/service/CreatedRangeAtPinLaw", "keeps", "(Lcom/example/brasswire/brasswire/service/CreatedRange;J)Z"⟩ : MethodName) method_2_code 7 (some .boolean) :: ws) ({ frames := 1, cells := 0, slots := 0, locals := 14 } : Room)) (fun as_ U => as_ = #[(.ref r), (.long x1)] ∧ Z.Warmed39 U.vm ∧ U.heap = h0) (fun _ _ _ _ _ => True) (fun _ U out_ U' => ∃ v L, out_ = .returned v ∧ Q6 Z r x1 g1 g2 q h0 n0 v U'.heap L ∧ FrameEnd U out_ U' L ({ frames := 1, cells := 0, slots := 0, locals := 14 } : Room).cells ({ frames := 1, cells := 0, slots := 0, locals := 14 } : Room).slots) := by
  refine MetFree.of_bodySF (plainFor_of_name pn_4) hisR ?_
  intro p e s m args below meth cd s₁ Bd hml0 hP hK
  obtain ⟨rfl, hZ, hh⟩ := hP
  have hx := Bd.exec
  have hby := Bd.bytes
  have hml : cd.maxLocals = 7 := hml0
  have hlk : meth.locks = false := BodyLoose.notSynchronized Bd
  have hown : s.vm.findClass "com/example/brasswire/brasswire/service/CreatedRangeAtPinLaw" = some m.cls := findClass_of_methodNamed Bd.named
  have hnm := (name_of_methodNamed Bd.named Bd.method).1
  have hret := Bd.returns
  have X0 : Stand p l e ({ frames := 1, cells := 0, slots := 0, locals := 14 } : Room) s m #[(.ref r), (.long x1)] below meth cd s₁ [] 0 0 := Stand.of_body Bd
  have e0 : s₁.heap = h0 := by rw [← hh, Bd.state]; rfl
  have N0 := Fr.nil n0
  show own_Fin p e below (own_Ans s (Q6 Z r x1 g1 g2 q h0 n0) ({ frames := 1, cells := 0, slots := 0, locals := 14 } : Room).cells ({ frames := 1, cells := 0, slots := 0, locals := 14 } : Room).slots) (s₁.setTop (entryFrame m #[(.ref r), (.long x1)] 7))
  refine own_cast (ef_rm6 m r x1) ?_
  show own_Fin p e below _ (s₁.setTop (mkF m 0 #[.val (.ref r), .val (.long x1), .second, .unset, .unset, .unset, .unset] []))
  refine own_on (fun t => XS.aloadN X0.here hx rfl (hb hby d6_0) rfl rfl) ?_
  show own_Fin p e below _ (s₁.setTop (mkF m 1 #[.val (.ref r), .val (.long x1), .second, .unset, .unset, .unset, .unset] [(.ref r)]))
  obtain ⟨cq103, kq103, q103a, q103b, q103c⟩ := isOf hZ e0 E
  obtain ⟨_, _, ⟨T103, L103, k103, n103⟩, -, X103, ⟨Lc103, hQ103, l103, y103, z103⟩, st103⟩ := X0.virtualBack hx (y := (⟨"com/example/brasswire/brasswire/service/CreatedRange", "gt", "()Ljava/lang/Long;"⟩ : MethodName)) (z := (⟨"com/example/brasswire/brasswire/service/CreatedRange", "gt", "()Ljava/lang/Long;"⟩ : MethodName)) hown (mvT hZ (hw _ (List.mem_of_getElem? (i := 38) rfl))) (mvT hZ (hw _ (List.mem_of_getElem? (i := 39) rfl))) (notFace_of_selects (args := #[]) (mvT hZ (hw _ (List.mem_of_getElem? (i := 41) rfl)))) (mvT hZ (hw _ (List.mem_of_getElem? (i := 41) rfl))) (mvT hZ (hw _ (List.mem_of_getElem? (i := 40) rfl))) (by decide) (backOf (W := 0) (rm7 l Z a0 hw [] r .null h0 n0 (by exact Z0) F0 rfl) hZ (hw _ (List.mem_of_getElem? (i := 42) rfl)) (hw _ (List.mem_of_getElem? (i := 3) rfl)) (by decide) (by decide)) q103a q103c (g := (mkF m 1 #[.val (.ref r), .val (.long x1), .second, .unset, .unset, .unset, .unset] [(.ref r)])) rfl (by rw [hml]; rfl) (Steps.refl _) (argsL := []) (rest := []) (lenOf pd_4 rfl) rfl (by show 2 * 0 + _ ≤ _; exact Nat.le_of_eq rfl) (hb hby d6_1) (fun _ _ => ⟨rfl, e0, (by decide : 0 + 0 ≤ _), (by decide : 0 + 0 ≤ _)⟩)
  dsimp only [Pt.U, Pt.locs, Pt.cells, Pt.slots] at X103 l103 y103 z103 st103 hQ103
  subst l103 y103 z103
  obtain ⟨rfl, N103q, e103⟩ := hQ103
  have N103 := Fr.app N0 N103q
  refine own_via st103 ?_
  show own_Fin p e below _ (T103.setTop (mkF m 4 #[.val (.ref r), .val (.long x1), .second, .unset, .unset, .unset, .unset] [.null]))
  refine own_on (fun t => XS.astoreN X103.here hx rfl (hb hby d6_4) rfl rfl (l' := #[.val (.ref r), .val (.long x1), .second, .val .null, .unset, .unset, .unset]) rfl) ?_
  show own_Fin p e below _ (T103.setTop (mkF m 5 #[.val (.ref r), .val (.long x1), .second, .val .null, .unset, .unset, .unset] []))
  refine own_on (fun t => XS.aloadN X103.here hx rfl (hb hby d6_5) rfl rfl) ?_
  show own_Fin p e below _ (T103.setTop (mkF m 6 #[.val (.ref r), .val (.long x1), .second, .val .null, .unset, .unset, .unset] [.null]))
  refine own_on (fun t => XS.ifnullYes X103.here hx rfl (pc0 := 6) (pc' := 20) rfl (hb hby d6_6) rfl (by decide) (by decide)) ?_
  show own_Fin p e below _ (T103.setTop (mkF m 20 #[.val (.ref r), .val (.long x1), .second, .val .null, .unset, .unset, .unset] []))
  refine own_on (fun t => XS.aloadN X103.here hx rfl (hb hby d6_20) rfl rfl) ?_
  show own_Fin p e below _ (T103.setTop (mkF m 21 #[.val (.ref r), .val (.long x1), .second, .val .null, .unset, .unset, .unset] [(.ref r)]))
  obtain ⟨cq104, kq104, q104a, q104b, q104c⟩ := isOf hZ e103 E
  obtain ⟨_, _, ⟨T104, L104, k104, n104⟩, -, X104, ⟨Lc104, hQ104, l104, y104, z104⟩, st104⟩ := X103.virtualBack hx (y := (⟨"com/example/brasswire/brasswire/service/CreatedRange", "gte", "()Ljava/lang/Long;"⟩ : MethodName)) (z := (⟨"com/example/brasswire/brasswire/service/CreatedRange", "gte", "()Ljava/lang/Long;"⟩ : MethodName)) hown (mvT hZ (hw _ (List.mem_of_getElem? (i := 43) rfl))) (mvT hZ (hw _ (List.mem_of_getElem? (i := 44) rfl))) (notFace_of_selects (args := #[]) (mvT hZ (hw _ (List.mem_of_getElem? (i := 46) rfl)))) (mvT hZ (hw _ (List.mem_of_getElem? (i := 46) rfl))) (mvT hZ (hw _ (List.mem_of_getElem? (i := 45) rfl))) (by decide) (backOf (W := 0) (rm8 l Z a0 hw [] r (.ref g1) h0 n0 (by exact Z0) F1 rfl) hZ (hw _ (List.mem_of_getElem? (i := 47) rfl)) (hw _ (List.mem_of_getElem? (i := 3) rfl)) (by decide) (by decide)) q104a q104c (g := (mkF m 21 #[.val (.ref r), .val (.long x1), .second, .val .null, .unset, .unset, .unset] [(.ref r)])) rfl (by rw [hml]; rfl) (Steps.refl _) (argsL := []) (rest := []) (lenOf pd_4 rfl) rfl (by show 2 * 0 + _ ≤ _; exact Nat.le_of_eq rfl) (hb hby d6_21) (fun _ _ => ⟨rfl, e103, (by decide : 0 + 0 ≤ _), (by decide : 0 + 0 ≤ _)⟩)
  dsimp only [Pt.U, Pt.locs, Pt.cells, Pt.slots] at X104 l104 y104 z104 st104 hQ104
  subst l104 y104 z104
  obtain ⟨rfl, N104q, e104⟩ := hQ104
  have N104 := Fr.app N103 N104q
  refine own_via st104 ?_
  show own_Fin p e below _ (T104.setTop (mkF m 24 #[.val (.ref r), .val (.long x1), .second, .val .null, .unset, .unset, .unset] [(.ref g1)]))
  refine own_on (fun t => XS.astore X104.here hx rfl (hb hby d6_24) rfl rfl (l' := #[.val (.ref r), .val (.long x1), .second, .val .null, .val (.ref g1), .unset, .unset]) rfl) ?_
  show own_Fin p e below _ (T104.setTop (mkF m 26 #[.val (.ref r), .val (.long x1), .second, .val .null, .val (.ref g1), .unset, .unset] []))
  refine own_on (fun t => XS.aload X104.here hx rfl (hb hby d6_26) rfl rfl) ?_
  show own_Fin p e below _ (T104.setTop (mkF m 28 #[.val (.ref r), .val (.long x1), .second, .val .null, .val (.ref g1), .unset, .unset] [(.ref g1)]))
  refine own_on (fun t => XS.ifnullNo X104.here hx rfl (hb hby d6_28) rfl) ?_
  show own_Fin p e below _ (T104.setTop (mkF m 31 #[.val (.ref r), .val (.long x1), .second, .val .null, .val (.ref g1), .unset, .unset] []))
  refine own_on (fun t => XS.lloadN X104.here hx rfl (hb hby d6_31) rfl) ?_
  show own_Fin p e below _ (T104.setTop (mkF m 32 #[.val (.ref r), .val (.long x1), .second, .val .null, .val (.ref g1), .unset, .unset] [(.long x1)]))
  refine own_on (fun t => XS.aload X104.here hx rfl (hb hby d6_32) rfl rfl) ?_
  show own_Fin p e below _ (T104.setTop (mkF m 34 #[.val (.ref r), .val (.long x1), .second, .val .null, .val (.ref g1), .unset, .unset] [(.ref g1), (.long x1)]))
  obtain ⟨cq105, kq105, q105a, q105b, q105c⟩ := isOf hZ e104 E1
  obtain ⟨_, _, ⟨T105, L105, k105, n105⟩, -, X105, ⟨Lc105, hQ105, l105, y105, z105⟩, st105⟩ := X104.virtualBack hx (y := (⟨"java/lang/Long", "longValue", "()J"⟩ : MethodName)) (z := (⟨"java/lang/Long", "longValue", "()J"⟩ : MethodName)) hown (mvT hZ (hw _ (List.mem_of_getElem? (i := 48) rfl))) (mvT hZ (hw _ (List.mem_of_getElem? (i := 49) rfl))) (notFace_of_selects (args := #[]) (mvT hZ (hw _ (List.mem_of_getElem? (i := 51) rfl)))) (mvT hZ (hw _ (List.mem_of_getElem? (i := 51) rfl))) (mvT hZ (hw _ (List.mem_of_getElem? (i := 50) rfl))) (by decide) (backOf (W := 2) (rm9 l Z a0 hw [] g1 q h0 n0 (by exact Z0) G1) hZ (hw _ (List.mem_of_getElem? (i := 52) rfl)) (hw _ (List.mem_of_getElem? (i := 9) rfl)) (by decide) (by decide)) q105a q105c (g := (mkF m 34 #[.val (.ref r), .val (.long x1), .second, .val .null, .val (.ref g1), .unset, .unset] [(.ref g1), (.long x1)])) rfl (by rw [hml]; rfl) (Steps.refl _) (argsL := []) (rest := [(.long x1)]) (lenOf pd_5 rfl) rfl (by show 2 * 0 + _ ≤ _; exact Nat.le_of_eq rfl) (hb hby d6_34) (fun _ _ => ⟨rfl, e104, (by decide : 0 + 0 ≤ _), (by decide : 0 + 0 ≤ _)⟩)
  dsimp only [Pt.U, Pt.locs, Pt.cells, Pt.slots] at X105 l105 y105 z105 st105 hQ105
  subst l105 y105 z105
  obtain ⟨rfl, N105q, e105⟩ := hQ105
  have N105 := Fr.app N104 N105q
  refine own_via st105 ?_
  show own_Fin p e below _ (T105.setTop (mkF m 37 #[.val (.ref r), .val (.long x1), .second, .val .null, .val (.ref g1), .unset, .unset] [(.long q), (.long x1)]))
  refine own_on (fun t => XS.lcmp X105.here hx rfl (hb hby d6_37) rfl) ?_
  show own_Fin p e below _ (T105.setTop (mkF m 38 #[.val (.ref r), .val (.long x1), .second, .val .null, .val (.ref g1), .unset, .unset] [(.int (lcmpW x1 q))]))
  by_cases hc106 : (lcmpW x1 q) < (0 : Int32)
  · refine own_on (fun t => XS.ifNo X105.here hx rfl (hb hby d6_38) rfl ((if0 _ _).trans (tlt hc106).2.1)) ?_
    show own_Fin p e below _ (T105.setTop (mkF m 41 #[.val (.ref r), .val (.long x1), .second, .val .null, .val (.ref g1), .unset, .unset] []))
    refine own_on (fun t => XS.iconst X105.here hx rfl (hb hby d6_41)) ?_
    show own_Fin p e below _ (T105.setTop (mkF m 42 #[.val (.ref r), .val (.long x1), .second, .val .null, .val (.ref g1), .unset, .unset] [(.int (0 : Int32))]))
    exact own_ret (t := .boolean) X105 hx hlk hret rfl (Or.inl ⟨rfl, (by simp), _, rfl⟩) (hb hby d6_42) (⟨by rw [if_neg (own_k1 hc106)], N105, e105⟩) (by decide) (by decide)
  · refine own_on (fun t => XS.ifYes X105.here hx rfl (pc0 := 38) (pc' := 43) rfl (hb hby d6_38) rfl ((if0 _ _).trans (flt hc106).2.1) (by decide) (by decide)) ?_
    show own_Fin p e below _ (T105.setTop (mkF m 43 #[.val (.ref r), .val (.long x1), .second, .val .null, .val (.ref g1), .unset, .unset] []))
    refine own_on (fun t => XS.aloadN X105.here hx rfl (hb hby d6_43) rfl rfl) ?_
    show own_Fin p e below _ (T105.setTop (mkF m 44 #[.val (.ref r), .val (.long x1), .second, .val .null, .val (.ref g1), .unset, .unset] [(.ref r)]))
    obtain ⟨cq107, kq107, q107a, q107b, q107c⟩ := isOf hZ e105 E
    obtain ⟨_, _, ⟨T107, L107, k107, n107⟩, -, X107, ⟨Lc107, hQ107, l107, y107, z107⟩, st107⟩ := X105.virtualBack hx (y := (⟨"com/example/brasswire/brasswire/service/CreatedRange", "lt", "()Ljava/lang/Long;"⟩ : MethodName)) (z := (⟨"com/example/brasswire/brasswire/service/CreatedRange", "lt", "()Ljava/lang/Long;"⟩ : MethodName)) hown (mvT hZ (hw _ (List.mem_of_getElem? (i := 55) rfl))) (mvT hZ (hw _ (List.mem_of_getElem? (i := 56) rfl))) (notFace_of_selects (args := #[]) (mvT hZ (hw _ (List.mem_of_getElem? (i := 58) rfl)))) (mvT hZ (hw _ (List.mem_of_getElem? (i := 58) rfl))) (mvT hZ (hw _ (List.mem_of_getElem? (i := 57) rfl))) (by decide) (backOf (W := 0) (rm10 l Z a0 hw [] r .null h0 n0 (by exact Z0) F2 rfl) hZ (hw _ (List.mem_of_getElem? (i := 59) rfl)) (hw _ (List.mem_of_getElem? (i := 3) rfl)) (by decide) (by decide)) q107a q107c (g := (mkF m 44 #[.val (.ref r), .val (.long x1), .second, .val .null, .val (.ref g1), .unset, .unset] [(.ref r)])) rfl (by rw [hml]; rfl) (Steps.refl _) (argsL := []) (rest := []) (lenOf pd_4 rfl) rfl (by show 2 * 0 + _ ≤ _; exact Nat.le_of_eq rfl) (hb hby d6_44) (fun _ _ => ⟨rfl, e105, (by decide : 0 + 0 ≤ _), (by decide : 0 + 0 ≤ _)⟩)
    dsimp only [Pt.U, Pt.locs, Pt.cells, Pt.slots] at X107 l107 y107 z107 st107 hQ107
    subst l107 y107 z107
    obtain ⟨rfl, N107q, e107⟩ := hQ107
    have N107 := Fr.app N105 N107q
    refine own_via st107 ?_
    show own_Fin p e below _ (T107.setTop (mkF m 47 #[.val (.ref r), .val (.long x1), .second, .val .null, .val (.ref g1), .unset, .unset] [.null]))
    refine own_on (fun t => XS.astore X107.here hx rfl (hb hby d6_47) rfl rfl (l' := #[.val (.ref r), .val (.long x1), .second, .val .null, .val (.ref g1), .val .null, .unset]) rfl) ?_
    show own_Fin p e below _ (T107.setTop (mkF m 49 #[.val (.ref r), .val (.long x1), .second, .val .null, .val (.ref g1), .val .null, .unset] []))
    refine own_on (fun t => XS.aload X107.here hx rfl (hb hby d6_49) rfl rfl) ?_
    show own_Fin p e below _ (T107.setTop (mkF m 51 #[.val (.ref r), .val (.long x1), .second, .val .null, .val (.ref g1), .val .null, .unset] [.null]))
    refine own_on (fun t => XS.ifnullYes X107.here hx rfl (pc0 := 51) (pc' := 66) rfl (hb hby d6_51) rfl (by decide) (by decide)) ?_
    show own_Fin p e below _ (T107.setTop (mkF m 66 #[.val (.ref r), .val (.long x1), .second, .val .null, .val (.ref g1), .val .null, .unset] []))
    refine own_on (fun t => XS.aloadN X107.here hx rfl (hb hby d6_66) rfl rfl) ?_
    show own_Fin p e below _ (T107.setTop (mkF m 67 #[.val (.ref r), .val (.long x1), .second, .val .null, .val (.ref g1), .val .null, .unset] [(.ref r)]))
    obtain ⟨cq108, kq108, q108a, q108b, q108c⟩ := isOf hZ e107 E
    obtain ⟨_, _, ⟨T108, L108, k108, n108⟩, -, X108, ⟨Lc108, hQ108, l108, y108, z108⟩, st108⟩ := X107.virtualBack hx (y := (⟨"com/example/brasswire/brasswire/service/CreatedRange", "lte", "()Ljava/lang/Long;"⟩ : MethodName)) (z := (⟨"com/example/brasswire/brasswire/service/CreatedRange", "lte", "()Ljava/lang/Long;"⟩ : MethodName)) hown (mvT hZ (hw _ (List.mem_of_getElem? (i := 60) rfl))) (mvT hZ (hw _ (List.mem_of_getElem? (i := 61) rfl))) (notFace_of_selects (args := #[]) (mvT hZ (hw _ (List.mem_of_getElem? (i := 63) rfl)))) (mvT hZ (hw _ (List.mem_of_getElem? (i := 63) rfl))) (mvT hZ (hw _ (List.mem_of_getElem? (i := 62) rfl))) (by decide) (backOf (W := 0) (rm11 l Z a0 hw [] r (.ref g2) h0 n0 (by exact Z0) F3 rfl) hZ (hw _ (List.mem_of_getElem? (i := 64) rfl)) (hw _ (List.mem_of_getElem? (i := 3) rfl)) (by decide) (by decide)) q108a q108c (g := (mkF m 67 #[.val (.ref r), .val (.long x1), .second, .val .null, .val (.ref g1), .val .null, .unset] [(.ref r)])) rfl (by rw [hml]; rfl) (Steps.refl _) (argsL := []) (rest := []) (lenOf pd_4 rfl) rfl (by show 2 * 0 + _ ≤ _; exact Nat.le_of_eq rfl) (hb hby d6_67) (fun _ _ => ⟨rfl, e107, (by decide : 0 + 0 ≤ _), (by decide : 0 + 0 ≤ _)⟩)
    dsimp only [Pt.U, Pt.locs, Pt.cells, Pt.slots] at X108 l108 y108 z108 st108 hQ108
    subst l108 y108 z108
    obtain ⟨rfl, N108q, e108⟩ := hQ108
    have N108 := Fr.app N107 N108q
    refine own_via st108 ?_
    show own_Fin p e below _ (T108.setTop (mkF m 70 #[.val (.ref r), .val (.long x1), .second, .val .null, .val (.ref g1), .val .null, .unset] [(.ref g2)]))
    refine own_on (fun t => XS.astore X108.here hx rfl (hb hby d6_70) rfl rfl (l' := #[.val (.ref r), .val (.long x1), .second, .val .null, .val (.ref g1), .val .null, .val (.ref g2)]) rfl) ?_
    show own_Fin p e below _ (T108.setTop (mkF m 72 #[.val (.ref r), .val (.long x1), .second, .val .null, .val (.ref g1), .val .null, .val (.ref g2)] []))
    refine own_on (fun t => XS.aload X108.here hx rfl (hb hby d6_72) rfl rfl) ?_
    show own_Fin p e below _ (T108.setTop (mkF m 74 #[.val (.ref r), .val (.long x1), .second, .val .null, .val (.ref g1), .val .null, .val (.ref g2)] [(.ref g2)]))
    refine own_on (fun t => XS.ifnullNo X108.here hx rfl (hb hby d6_74) rfl) ?_
    show own_Fin p e below _ (T108.setTop (mkF m 77 #[.val (.ref r), .val (.long x1), .second, .val .null, .val (.ref g1), .val .null, .val (.ref g2)] []))
    refine own_on (fun t => XS.lloadN X108.here hx rfl (hb hby d6_77) rfl) ?_
    show own_Fin p e below _ (T108.setTop (mkF m 78 #[.val (.ref r), .val (.long x1), .second, .val .null, .val (.ref g1), .val .null, .val (.ref g2)] [(.long x1)]))
    refine own_on (fun t => XS.aload X108.here hx rfl (hb hby d6_78) rfl rfl) ?_
    show own_Fin p e below _ (T108.setTop (mkF m 80 #[.val (.ref r), .val (.long x1), .second, .val .null, .val (.ref g1), .val .null, .val (.ref g2)] [(.ref g2), (.long x1)]))
    obtain ⟨cq109, kq109, q109a, q109b, q109c⟩ := isOf hZ e108 E2
    obtain ⟨_, _, ⟨T109, L109, k109, n109⟩, -, X109, ⟨Lc109, hQ109, l109, y109, z109⟩, st109⟩ := X108.virtualBack hx (y := (⟨"java/lang/Long", "longValue", "()J"⟩ : MethodName)) (z := (⟨"java/lang/Long", "longValue", "()J"⟩ : MethodName)) hown (mvT hZ (hw _ (List.mem_of_getElem? (i := 48) rfl))) (mvT hZ (hw _ (List.mem_of_getElem? (i := 49) rfl))) (notFace_of_selects (args := #[]) (mvT hZ (hw _ (List.mem_of_getElem? (i := 51) rfl)))) (mvT hZ (hw _ (List.mem_of_getElem? (i := 51) rfl))) (mvT hZ (hw _ (List.mem_of_getElem? (i := 50) rfl))) (by decide) (backOf (W := 2) (rm9 l Z a0 hw [] g2 q h0 n0 (by exact Z0) G2) hZ (hw _ (List.mem_of_getElem? (i := 52) rfl)) (hw _ (List.mem_of_getElem? (i := 9) rfl)) (by decide) (by decide)) q109a q109c (g := (mkF m 80 #[.val (.ref r), .val (.long x1), .second, .val .null, .val (.ref g1), .val .null, .val (.ref g2)] [(.ref g2), (.long x1)])) rfl (by rw [hml]; rfl) (Steps.refl _) (argsL := []) (rest := [(.long x1)]) (lenOf pd_5 rfl) rfl (by show 2 * 0 + _ ≤ _; exact Nat.le_of_eq rfl) (hb hby d6_80) (fun _ _ => ⟨rfl, e108, (by decide : 0 + 0 ≤ _), (by decide : 0 + 0 ≤ _)⟩)
    dsimp only [Pt.U, Pt.locs, Pt.cells, Pt.slots] at X109 l109 y109 z109 st109 hQ109
    subst l109 y109 z109
    obtain ⟨rfl, N109q, e109⟩ := hQ109
    have N109 := Fr.app N108 N109q
    refine own_via st109 ?_
    show own_Fin p e below _ (T109.setTop (mkF m 83 #[.val (.ref r), .val (.long x1), .second, .val .null, .val (.ref g1), .val .null, .val (.ref g2)] [(.long q), (.long x1)]))
    refine own_on (fun t => XS.lcmp X109.here hx rfl (hb hby d6_83) rfl) ?_
    show own_Fin p e below _ (T109.setTop (mkF m 84 #[.val (.ref r), .val (.long x1), .second, .val .null, .val (.ref g1), .val .null, .val (.ref g2)] [(.int (lcmpW x1 q))]))
    by_cases hc110 : (0 : Int32) < (lcmpW x1 q)
    · refine own_on (fun t => XS.ifNo X109.here hx rfl (hb hby d6_84) rfl ((if0 _ _).trans (tlt hc110).2.2.2)) ?_
      show own_Fin p e below _ (T109.setTop (mkF m 87 #[.val (.ref r), .val (.long x1), .second, .val .null, .val (.ref g1), .val .null, .val (.ref g2)] []))
      refine own_on (fun t => XS.iconst X109.here hx rfl (hb hby d6_87)) ?_
      show own_Fin p e below _ (T109.setTop (mkF m 88 #[.val (.ref r), .val (.long x1), .second, .val .null, .val (.ref g1), .val .null, .val (.ref g2)] [(.int (0 : Int32))]))
      exact own_ret (t := .boolean) X109 hx hlk hret rfl (Or.inl ⟨rfl, (by simp), _, rfl⟩) (hb hby d6_88) (⟨by rw [if_neg (own_k2 hc110)], N109, e109⟩) (by decide) (by decide)
    · refine own_on (fun t => XS.ifYes X109.here hx rfl (pc0 := 84) (pc' := 89) rfl (hb hby d6_84) rfl ((if0 _ _).trans (flt hc110).2.2.2) (by decide) (by decide)) ?_
      show own_Fin p e below _ (T109.setTop (mkF m 89 #[.val (.ref r), .val (.long x1), .second, .val .null, .val (.ref g1), .val .null, .val (.ref g2)] []))
      refine own_on (fun t => XS.iconst X109.here hx rfl (hb hby d6_89)) ?_
      show own_Fin p e below _ (T109.setTop (mkF m 90 #[.val (.ref r), .val (.long x1), .second, .val .null, .val (.ref g1), .val .null, .val (.ref g2)] [(.int (1 : Int32))]))
      exact own_ret (t := .boolean) X109 hx hlk hret rfl (Or.inl ⟨rfl, (by simp), _, rfl⟩) (hb hby d6_90) (⟨by rw [if_pos (own_kt hc106 hc110)], N109, e109⟩) (by decide) (by decide)
theorem pd_6 : parseMethodDescriptor "(J)Lcom/example/brasswire/brasswire/service/CreatedRange;" = some ⟨[.long], some (.object "com/example/brasswire/brasswire/service/CreatedRange")⟩ := by decide +kernel
theorem pd_7 : parseMethodDescriptor "(Lcom/example/brasswire/brasswire/service/CreatedRange;J)Z" = some ⟨[(.object "com/example/brasswire/brasswire/service/CreatedRange"), .long], some .boolean⟩ := by decide +kernel
theorem ef_rm0 (m : MethodId) (x0 : Int64) (x1 : Int64) (x2 : Int32) : entryFrame m #[(.long x0), (.long x1), (.int x2)] maxLocals = mkF m 0 #[.val (.long x0), .second, .val (.long x1), .second, .val (.int x2), .unset, .unset, .unset, .unset, .unset] [] := by first | (simp [entryFrame, mkF, argsToLocals, Value.category, maxLocals]; done) | rfl
def Q0 (Z : State) (q1 : Int64) (q2 : Int64) (p3 : Int32) (q : Int64) (ca : Addr) (cc : Cell) (h0 : Heap) (n0 : Nat) (v : Option Value) (h : Heap) (L : List Loc) : Prop := v = some (.int 1) ∧ Fr n0 L
set_option maxRecDepth 65536 in
set_option maxHeartbeats 40000000 in
theorem rm0 (l : Launch) (Z : State) (a0 : Array Value) (hw : ∀ d ∈ tables_1, d.before a0 Z = true) (ws : List Jvm.Cond) (q1 : Int64) (q2 : Int64) (p3 : Int32) (q : Int64) (ca : Addr) (cc : Cell) (h0 : Heap) (n0 : Nat) (Z0 : n0 ≤ h0.size) (hq : q = (q1 - (q1 / (31556889864403199 : Int64)) * (31556889864403199 : Int64))) (O : Old Z n0 h0) (SC : Sta Z Z.heap "java/lang/Long$LongCache" "cache" "[Ljava/lang/Long;" (.ref ca)) (BX : Bxs Z ca cc "java/lang/Long" "J" (256 : Int32) own_val) :
    MetFree l x (head1 (Jvm.Cond.code x code maxLocals ret :: ws) room_1) (fun as_ U => as_ = #[(.long q1), (.long q2), (.int p3)] ∧ Z.Warmed39 U.vm ∧ U.heap = h0) (fun _ _ _ _ _ => True) (fun _ U out_ U' => ∃ v L, out_ = .returned v ∧ Q0 Z q1 q2 p3 q ca cc h0 n0 v U'.heap L ∧ FrameEnd U out_ U' L room_1.cells room_1.slots) := by
  refine MetFree.of_bodySF (plainFor_of_name pn_4) hisR ?_
  intro p e s m args below meth cd s₁ Bd hml0 hP hK
  obtain ⟨rfl, hZ, hh⟩ := hP
  have hx := Bd.exec
  have hby := Bd.bytes
  have hml : cd.maxLocals = 10 := hml0
  have hlk : meth.locks = false := BodyLoose.notSynchronized Bd
  have hown : s.vm.findClass "com/example/brasswire/brasswire/service/CreatedRangeAtPinLaw" = some m.cls := findClass_of_methodNamed Bd.named
  have hnm := (name_of_methodNamed Bd.named Bd.method).1
  have hret := Bd.returns
  have X0 : Stand p l e room_1 s m #[(.long q1), (.long q2), (.int p3)] below meth cd s₁ [] 0 0 := Stand.of_body Bd
  have e0 : s₁.heap = h0 := by rw [← hh, Bd.state]; rfl
  have N0 := Fr.nil n0
  show own_Fin p e below (own_Ans s (Q0 Z q1 q2 p3 q ca cc h0 n0) room_1.cells room_1.slots) (s₁.setTop (entryFrame m #[(.long q1), (.long q2), (.int p3)] maxLocals))
  refine own_cast (ef_rm0 m q1 q2 p3) ?_
  show own_Fin p e below _ (s₁.setTop (mkF m 0 #[.val (.long q1), .second, .val (.long q2), .second, .val (.int p3), .unset, .unset, .unset, .unset, .unset] []))
  refine own_on (fun t => XS.lloadN X0.here hx rfl (hb hby at_0) rfl) ?_
  show own_Fin p e below _ (s₁.setTop (mkF m 1 #[.val (.long q1), .second, .val (.long q2), .second, .val (.int p3), .unset, .unset, .unset, .unset, .unset] [(.long q1)]))
  refine own_on (fun t => X0.ldc2Long hx hown (mvT hZ (hw _ (List.mem_of_getElem? (i := 0) rfl))) (g := (mkF m 1 #[.val (.long q1), .second, .val (.long q2), .second, .val (.int p3), .unset, .unset, .unset, .unset, .unset] [(.long q1)])) rfl (hb hby at_1) t) ?_
  show own_Fin p e below _ (s₁.setTop (mkF m 4 #[.val (.long q1), .second, .val (.long q2), .second, .val (.int p3), .unset, .unset, .unset, .unset, .unset] [(.long (31556889864403199 : Int64)), (.long q1)]))
  refine own_on (fun t => XS.lrem X0.here hx rfl (hb hby at_4) rfl (by decide)) ?_
  show own_Fin p e below _ (s₁.setTop (mkF m 5 #[.val (.long q1), .second, .val (.long q2), .second, .val (.int p3), .unset, .unset, .unset, .unset, .unset] [(.long (q1 - (q1 / (31556889864403199 : Int64)) * (31556889864403199 : Int64)))]))
  rw [← hq]
  show own_Fin p e below _ (s₁.setTop (mkF m 5 #[.val (.long q1), .second, .val (.long q2), .second, .val (.int p3), .unset, .unset, .unset, .unset, .unset] [(.long q)]))
  refine own_on (fun t => XS.lstore X0.here hx rfl (hb hby at_5) rfl (l' := #[.val (.long q1), .second, .val (.long q2), .second, .val (.int p3), .val (.long q), .second, .unset, .unset, .unset]) rfl) ?_
  show own_Fin p e below _ (s₁.setTop (mkF m 7 #[.val (.long q1), .second, .val (.long q2), .second, .val (.int p3), .val (.long q), .second, .unset, .unset, .unset] []))
  refine own_on (fun t => XS.lload X0.here hx rfl (hb hby at_7) rfl) ?_
  show own_Fin p e below _ (s₁.setTop (mkF m 9 #[.val (.long q1), .second, .val (.long q2), .second, .val (.int p3), .val (.long q), .second, .unset, .unset, .unset] [(.long q)]))
  obtain ⟨_, _, ⟨T111, L111, k111, n111⟩, -, X111, ⟨Lc111, hQ111, l111, y111, z111⟩, st111⟩ := Jvm.LawKit.callS X0 hx (y := (⟨"com/example/brasswire/brasswire/service/CreatedRange", "at", "(J)Lcom/example/brasswire/brasswire/service/CreatedRange;"⟩ : MethodName)) hown (mvT hZ (hw _ (List.mem_of_getElem? (i := 1) rfl))) (mvT hZ (hw _ (List.mem_of_getElem? (i := 2) rfl))) (mvT hZ (hw _ (List.mem_of_getElem? (i := 3) rfl))) (mvT hZ (hw _ (List.mem_of_getElem? (i := 4) rfl))) (by decide) (backOf (W := 0) (rm1 l Z a0 hw [] q ca cc h0 n0 (by exact Z0) O SC BX) hZ (hw _ (List.mem_of_getElem? (i := 4) rfl)) (hw _ (List.mem_of_getElem? (i := 3) rfl)) (by decide) (by decide)) (g := (mkF m 9 #[.val (.long q1), .second, .val (.long q2), .second, .val (.int p3), .val (.long q), .second, .unset, .unset, .unset] [(.long q)])) rfl (by rw [hml]; rfl) (argsL := [(.long q)]) (rest := []) (lenOf pd_6 rfl) rfl (by show 2 * 0 + _ ≤ _; exact Nat.le_of_eq rfl) (hb hby at_9) (fun _ _ => ⟨rfl, e0, (by decide : 0 + 3 ≤ _), (by decide : 0 + 6 ≤ _)⟩)
  dsimp only [Pt.U, Pt.locs, Pt.cells, Pt.slots] at X111 l111 y111 z111 st111 hQ111
  subst l111 y111 z111
  obtain ⟨r111, ga111, gb111, rfl, N111q, K111, E111, F111q0, F111q1, F111q2, F111q3, E111a, G111a, E111b, G111b⟩ := hQ111
  have N111 := Fr.app N0 N111q
  have y112 := (O.keep K111 all0)
  have y113 := ((Keep.refl h0 []).trans K111 all0)
  have y114 := (Nat.le_trans Z0 K111.1)
  refine own_on st111 ?_
  show own_Fin p e below _ (T111.setTop (mkF m 12 #[.val (.long q1), .second, .val (.long q2), .second, .val (.int p3), .val (.long q), .second, .unset, .unset, .unset] [(.ref r111)]))
  refine own_on (fun t => XS.astore X111.here hx rfl (hb hby at_12) rfl rfl (l' := #[.val (.long q1), .second, .val (.long q2), .second, .val (.int p3), .val (.long q), .second, .val (.ref r111), .unset, .unset]) rfl) ?_
  show own_Fin p e below _ (T111.setTop (mkF m 14 #[.val (.long q1), .second, .val (.long q2), .second, .val (.int p3), .val (.long q), .second, .val (.ref r111), .unset, .unset] []))
  refine own_on (fun t => XS.aload X111.here hx rfl (hb hby at_14) rfl rfl) ?_
  show own_Fin p e below _ (T111.setTop (mkF m 16 #[.val (.long q1), .second, .val (.long q2), .second, .val (.int p3), .val (.long q), .second, .val (.ref r111), .unset, .unset] [(.ref r111)]))
  refine own_on (fun t => XS.ifnonnullYes X111.here hx rfl (pc0 := 16) (pc' := 21) rfl (hb hby at_16) rfl (by decide) (by decide)) ?_
  show own_Fin p e below _ (T111.setTop (mkF m 21 #[.val (.long q1), .second, .val (.long q2), .second, .val (.int p3), .val (.long q), .second, .val (.ref r111), .unset, .unset] []))
  refine own_on (fun t => XS.lload X111.here hx rfl (hb hby at_21) rfl) ?_
  show own_Fin p e below _ (T111.setTop (mkF m 23 #[.val (.long q1), .second, .val (.long q2), .second, .val (.int p3), .val (.long q), .second, .val (.ref r111), .unset, .unset] [(.long q)]))
  refine own_on (fun t => XS.iload X111.here hx rfl (hb hby at_23) rfl) ?_
  show own_Fin p e below _ (T111.setTop (mkF m 25 #[.val (.long q1), .second, .val (.long q2), .second, .val (.int p3), .val (.long q), .second, .val (.ref r111), .unset, .unset] [(.int p3), (.long q)]))
  refine own_on (fun t => XS.bipush X111.here hx rfl (hb hby at_25)) ?_
  show own_Fin p e below _ (T111.setTop (mkF m 27 #[.val (.long q1), .second, .val (.long q2), .second, .val (.int p3), .val (.long q), .second, .val (.ref r111), .unset, .unset] [(.int (7 : Int32)), (.int p3), (.long q)]))
  refine own_on (fun t => XS.iand X111.here hx rfl (hb hby at_27) rfl) ?_
  show own_Fin p e below _ (T111.setTop (mkF m 28 #[.val (.long q1), .second, .val (.long q2), .second, .val (.int p3), .val (.long q), .second, .val (.ref r111), .unset, .unset] [(.int (p3 &&& (7 : Int32))), (.long q)]))
  refine own_on (fun t => XS.iconst X111.here hx rfl (hb hby at_28)) ?_
  show own_Fin p e below _ (T111.setTop (mkF m 29 #[.val (.long q1), .second, .val (.long q2), .second, .val (.int p3), .val (.long q), .second, .val (.ref r111), .unset, .unset] [(.int (4 : Int32)), (.int (p3 &&& (7 : Int32))), (.long q)]))
  refine own_on (fun t => XS.isub X111.here hx rfl (hb hby at_29) rfl) ?_
  show own_Fin p e below _ (T111.setTop (mkF m 30 #[.val (.long q1), .second, .val (.long q2), .second, .val (.int p3), .val (.long q), .second, .val (.ref r111), .unset, .unset] [(.int ((p3 &&& (7 : Int32)) - (4 : Int32))), (.long q)]))
  refine own_on (fun t => XS.i2l X111.here hx rfl (hb hby at_30) rfl) ?_
  show own_Fin p e below _ (T111.setTop (mkF m 31 #[.val (.long q1), .second, .val (.long q2), .second, .val (.int p3), .val (.long q), .second, .val (.ref r111), .unset, .unset] [(.long (((p3 &&& (7 : Int32)) - (4 : Int32)).toInt64)), (.long q)]))
  refine own_on (fun t => XS.ladd X111.here hx rfl (hb hby at_31) rfl) ?_
  show own_Fin p e below _ (T111.setTop (mkF m 32 #[.val (.long q1), .second, .val (.long q2), .second, .val (.int p3), .val (.long q), .second, .val (.ref r111), .unset, .unset] [(.long (q + (((p3 &&& (7 : Int32)) - (4 : Int32)).toInt64)))]))
  refine own_on (fun t => XS.lstore X111.here hx rfl (hb hby at_32) rfl (l' := #[.val (.long q1), .second, .val (.long q2), .second, .val (.int p3), .val (.long q), .second, .val (.ref r111), .val (.long (q + (((p3 &&& (7 : Int32)) - (4 : Int32)).toInt64))), .second]) rfl) ?_
  show own_Fin p e below _ (T111.setTop (mkF m 34 #[.val (.long q1), .second, .val (.long q2), .second, .val (.int p3), .val (.long q), .second, .val (.ref r111), .val (.long (q + (((p3 &&& (7 : Int32)) - (4 : Int32)).toInt64))), .second] []))
  refine own_on (fun t => XS.aload X111.here hx rfl (hb hby at_34) rfl rfl) ?_
  show own_Fin p e below _ (T111.setTop (mkF m 36 #[.val (.long q1), .second, .val (.long q2), .second, .val (.int p3), .val (.long q), .second, .val (.ref r111), .val (.long (q + (((p3 &&& (7 : Int32)) - (4 : Int32)).toInt64))), .second] [(.ref r111)]))
  refine own_on (fun t => XS.lload X111.here hx rfl (hb hby at_36) rfl) ?_
  show own_Fin p e below _ (T111.setTop (mkF m 38 #[.val (.long q1), .second, .val (.long q2), .second, .val (.int p3), .val (.long q), .second, .val (.ref r111), .val (.long (q + (((p3 &&& (7 : Int32)) - (4 : Int32)).toInt64))), .second] [(.long q), (.ref r111)]))
  obtain ⟨_, _, ⟨T115, L115, k115, n115⟩, -, X115, ⟨Lc115, hQ115, l115, y115, z115⟩, st115⟩ := Jvm.LawKit.callS X111 hx (y := (⟨"com/example/brasswire/brasswire/service/CreatedRangeAtPinLaw", "keeps", "(Lcom/example/brasswire/brasswire/service/CreatedRange;J)Z"⟩ : MethodName)) hown (mvT hZ (hw _ (List.mem_of_getElem? (i := 34) rfl))) (mvT hZ (hw _ (List.mem_of_getElem? (i := 35) rfl))) (mvT hZ (hw _ (List.mem_of_getElem? (i := 36) rfl))) (mvT hZ (hw _ (List.mem_of_getElem? (i := 37) rfl))) (by decide) (backOf (W := 0) (rm6 l Z a0 hw [] r111 q ga111 gb111 q T111.heap n0 (by exact y114) E111 F111q0 F111q1 F111q2 F111q3 E111a G111a E111b G111b) hZ (hw _ (List.mem_of_getElem? (i := 37) rfl)) (hw _ (List.mem_of_getElem? (i := 36) rfl)) (by decide) (by decide)) (g := (mkF m 38 #[.val (.long q1), .second, .val (.long q2), .second, .val (.int p3), .val (.long q), .second, .val (.ref r111), .val (.long (q + (((p3 &&& (7 : Int32)) - (4 : Int32)).toInt64))), .second] [(.long q), (.ref r111)])) rfl (by rw [hml]; rfl) (argsL := [(.ref r111), (.long q)]) (rest := []) (lenOf pd_7 rfl) rfl (by show 2 * 0 + _ ≤ _; exact Nat.le_of_eq rfl) (hb hby at_38) (fun _ _ => ⟨rfl, rfl, (by decide : 3 + 0 ≤ _), (by decide : 6 + 0 ≤ _)⟩)
  dsimp only [Pt.U, Pt.locs, Pt.cells, Pt.slots] at X115 l115 y115 z115 st115 hQ115
  subst l115 y115 z115
  obtain ⟨rfl, N115q, e115⟩ := hQ115
  have N115 := Fr.app N111 N115q
  refine own_on st115 ?_
  show own_Fin p e below _ (T115.setTop (mkF m 41 #[.val (.long q1), .second, .val (.long q2), .second, .val (.int p3), .val (.long q), .second, .val (.ref r111), .val (.long (q + (((p3 &&& (7 : Int32)) - (4 : Int32)).toInt64))), .second] [(.int (if q = q then (1 : Int32) else 0))]))
  refine own_on (fun t => XS.ifNo X115.here hx rfl (hb hby at_41) rfl ((if0 _ _).trans (feq (own_b1 (rfl : q = q))).1)) ?_
  show own_Fin p e below _ (T115.setTop (mkF m 44 #[.val (.long q1), .second, .val (.long q2), .second, .val (.int p3), .val (.long q), .second, .val (.ref r111), .val (.long (q + (((p3 &&& (7 : Int32)) - (4 : Int32)).toInt64))), .second] []))
  refine own_on (fun t => XS.aload X115.here hx rfl (hb hby at_44) rfl rfl) ?_
  show own_Fin p e below _ (T115.setTop (mkF m 46 #[.val (.long q1), .second, .val (.long q2), .second, .val (.int p3), .val (.long q), .second, .val (.ref r111), .val (.long (q + (((p3 &&& (7 : Int32)) - (4 : Int32)).toInt64))), .second] [(.ref r111)]))
  refine own_on (fun t => XS.lload X115.here hx rfl (hb hby at_46) rfl) ?_
  show own_Fin p e below _ (T115.setTop (mkF m 48 #[.val (.long q1), .second, .val (.long q2), .second, .val (.int p3), .val (.long q), .second, .val (.ref r111), .val (.long (q + (((p3 &&& (7 : Int32)) - (4 : Int32)).toInt64))), .second] [(.long q), (.ref r111)]))
  refine own_on (fun t => XS.lconst X115.here hx rfl (hb hby at_48)) ?_
  show own_Fin p e below _ (T115.setTop (mkF m 49 #[.val (.long q1), .second, .val (.long q2), .second, .val (.int p3), .val (.long q), .second, .val (.ref r111), .val (.long (q + (((p3 &&& (7 : Int32)) - (4 : Int32)).toInt64))), .second] [(.long (1 : Int64)), (.long q), (.ref r111)]))
  refine own_on (fun t => XS.lsub X115.here hx rfl (hb hby at_49) rfl) ?_
  show own_Fin p e below _ (T115.setTop (mkF m 50 #[.val (.long q1), .second, .val (.long q2), .second, .val (.int p3), .val (.long q), .second, .val (.ref r111), .val (.long (q + (((p3 &&& (7 : Int32)) - (4 : Int32)).toInt64))), .second] [(.long (q - (1 : Int64))), (.ref r111)]))
  obtain ⟨_, _, ⟨T116, L116, k116, n116⟩, -, X116, ⟨Lc116, hQ116, l116, y116, z116⟩, st116⟩ := Jvm.LawKit.callS X115 hx (y := (⟨"com/example/brasswire/brasswire/service/CreatedRangeAtPinLaw", "keeps", "(Lcom/example/brasswire/brasswire/service/CreatedRange;J)Z"⟩ : MethodName)) hown (mvT hZ (hw _ (List.mem_of_getElem? (i := 34) rfl))) (mvT hZ (hw _ (List.mem_of_getElem? (i := 35) rfl))) (mvT hZ (hw _ (List.mem_of_getElem? (i := 36) rfl))) (mvT hZ (hw _ (List.mem_of_getElem? (i := 37) rfl))) (by decide) (backOf (W := 0) (rm6 l Z a0 hw [] r111 (q - (1 : Int64)) ga111 gb111 q T111.heap n0 (by exact y114) E111 F111q0 F111q1 F111q2 F111q3 E111a G111a E111b G111b) hZ (hw _ (List.mem_of_getElem? (i := 37) rfl)) (hw _ (List.mem_of_getElem? (i := 36) rfl)) (by decide) (by decide)) (g := (mkF m 50 #[.val (.long q1), .second, .val (.long q2), .second, .val (.int p3), .val (.long q), .second, .val (.ref r111), .val (.long (q + (((p3 &&& (7 : Int32)) - (4 : Int32)).toInt64))), .second] [(.long (q - (1 : Int64))), (.ref r111)])) rfl (by rw [hml]; rfl) (argsL := [(.ref r111), (.long (q - (1 : Int64)))]) (rest := []) (lenOf pd_7 rfl) rfl (by show 2 * 0 + _ ≤ _; exact Nat.le_of_eq rfl) (hb hby at_50) (fun _ _ => ⟨rfl, e115, (by decide : 3 + 0 ≤ _), (by decide : 6 + 0 ≤ _)⟩)
  dsimp only [Pt.U, Pt.locs, Pt.cells, Pt.slots] at X116 l116 y116 z116 st116 hQ116
  subst l116 y116 z116
  obtain ⟨rfl, N116q, e116⟩ := hQ116
  have N116 := Fr.app N115 N116q
  refine own_on st116 ?_
  show own_Fin p e below _ (T116.setTop (mkF m 53 #[.val (.long q1), .second, .val (.long q2), .second, .val (.int p3), .val (.long q), .second, .val (.ref r111), .val (.long (q + (((p3 &&& (7 : Int32)) - (4 : Int32)).toInt64))), .second] [(.int (if (q - (1 : Int64)) = q then (1 : Int32) else 0))]))
  refine own_on (fun t => XS.ifNo X116.here hx rfl (hb hby at_53) rfl ((if0 _ _).trans (teq (own_b0 (own_m1 q))).2)) ?_
  show own_Fin p e below _ (T116.setTop (mkF m 56 #[.val (.long q1), .second, .val (.long q2), .second, .val (.int p3), .val (.long q), .second, .val (.ref r111), .val (.long (q + (((p3 &&& (7 : Int32)) - (4 : Int32)).toInt64))), .second] []))
  refine own_on (fun t => XS.aload X116.here hx rfl (hb hby at_56) rfl rfl) ?_
  show own_Fin p e below _ (T116.setTop (mkF m 58 #[.val (.long q1), .second, .val (.long q2), .second, .val (.int p3), .val (.long q), .second, .val (.ref r111), .val (.long (q + (((p3 &&& (7 : Int32)) - (4 : Int32)).toInt64))), .second] [(.ref r111)]))
  refine own_on (fun t => XS.lload X116.here hx rfl (hb hby at_58) rfl) ?_
  show own_Fin p e below _ (T116.setTop (mkF m 60 #[.val (.long q1), .second, .val (.long q2), .second, .val (.int p3), .val (.long q), .second, .val (.ref r111), .val (.long (q + (((p3 &&& (7 : Int32)) - (4 : Int32)).toInt64))), .second] [(.long q), (.ref r111)]))
  refine own_on (fun t => XS.lconst X116.here hx rfl (hb hby at_60)) ?_
  show own_Fin p e below _ (T116.setTop (mkF m 61 #[.val (.long q1), .second, .val (.long q2), .second, .val (.int p3), .val (.long q), .second, .val (.ref r111), .val (.long (q + (((p3 &&& (7 : Int32)) - (4 : Int32)).toInt64))), .second] [(.long (1 : Int64)), (.long q), (.ref r111)]))
  refine own_on (fun t => XS.ladd X116.here hx rfl (hb hby at_61) rfl) ?_
  show own_Fin p e below _ (T116.setTop (mkF m 62 #[.val (.long q1), .second, .val (.long q2), .second, .val (.int p3), .val (.long q), .second, .val (.ref r111), .val (.long (q + (((p3 &&& (7 : Int32)) - (4 : Int32)).toInt64))), .second] [(.long (q + (1 : Int64))), (.ref r111)]))
  obtain ⟨_, _, ⟨T117, L117, k117, n117⟩, -, X117, ⟨Lc117, hQ117, l117, y117, z117⟩, st117⟩ := Jvm.LawKit.callS X116 hx (y := (⟨"com/example/brasswire/brasswire/service/CreatedRangeAtPinLaw", "keeps", "(Lcom/example/brasswire/brasswire/service/CreatedRange;J)Z"⟩ : MethodName)) hown (mvT hZ (hw _ (List.mem_of_getElem? (i := 34) rfl))) (mvT hZ (hw _ (List.mem_of_getElem? (i := 35) rfl))) (mvT hZ (hw _ (List.mem_of_getElem? (i := 36) rfl))) (mvT hZ (hw _ (List.mem_of_getElem? (i := 37) rfl))) (by decide) (backOf (W := 0) (rm6 l Z a0 hw [] r111 (q + (1 : Int64)) ga111 gb111 q T111.heap n0 (by exact y114) E111 F111q0 F111q1 F111q2 F111q3 E111a G111a E111b G111b) hZ (hw _ (List.mem_of_getElem? (i := 37) rfl)) (hw _ (List.mem_of_getElem? (i := 36) rfl)) (by decide) (by decide)) (g := (mkF m 62 #[.val (.long q1), .second, .val (.long q2), .second, .val (.int p3), .val (.long q), .second, .val (.ref r111), .val (.long (q + (((p3 &&& (7 : Int32)) - (4 : Int32)).toInt64))), .second] [(.long (q + (1 : Int64))), (.ref r111)])) rfl (by rw [hml]; rfl) (argsL := [(.ref r111), (.long (q + (1 : Int64)))]) (rest := []) (lenOf pd_7 rfl) rfl (by show 2 * 0 + _ ≤ _; exact Nat.le_of_eq rfl) (hb hby at_62) (fun _ _ => ⟨rfl, e116, (by decide : 3 + 0 ≤ _), (by decide : 6 + 0 ≤ _)⟩)
  dsimp only [Pt.U, Pt.locs, Pt.cells, Pt.slots] at X117 l117 y117 z117 st117 hQ117
  subst l117 y117 z117
  obtain ⟨rfl, N117q, e117⟩ := hQ117
  have N117 := Fr.app N116 N117q
  refine own_on st117 ?_
  show own_Fin p e below _ (T117.setTop (mkF m 65 #[.val (.long q1), .second, .val (.long q2), .second, .val (.int p3), .val (.long q), .second, .val (.ref r111), .val (.long (q + (((p3 &&& (7 : Int32)) - (4 : Int32)).toInt64))), .second] [(.int (if (q + (1 : Int64)) = q then (1 : Int32) else 0))]))
  refine own_on (fun t => XS.ifNo X117.here hx rfl (hb hby at_65) rfl ((if0 _ _).trans (teq (own_b0 (own_p1 q))).2)) ?_
  show own_Fin p e below _ (T117.setTop (mkF m 68 #[.val (.long q1), .second, .val (.long q2), .second, .val (.int p3), .val (.long q), .second, .val (.ref r111), .val (.long (q + (((p3 &&& (7 : Int32)) - (4 : Int32)).toInt64))), .second] []))
  refine own_on (fun t => XS.aload X117.here hx rfl (hb hby at_68) rfl rfl) ?_
  show own_Fin p e below _ (T117.setTop (mkF m 70 #[.val (.long q1), .second, .val (.long q2), .second, .val (.int p3), .val (.long q), .second, .val (.ref r111), .val (.long (q + (((p3 &&& (7 : Int32)) - (4 : Int32)).toInt64))), .second] [(.ref r111)]))
  refine own_on (fun t => XS.lloadN X117.here hx rfl (hb hby at_70) rfl) ?_
  show own_Fin p e below _ (T117.setTop (mkF m 71 #[.val (.long q1), .second, .val (.long q2), .second, .val (.int p3), .val (.long q), .second, .val (.ref r111), .val (.long (q + (((p3 &&& (7 : Int32)) - (4 : Int32)).toInt64))), .second] [(.long q2), (.ref r111)]))
  obtain ⟨_, _, ⟨T118, L118, k118, n118⟩, -, X118, ⟨Lc118, hQ118, l118, y118, z118⟩, st118⟩ := Jvm.LawKit.callS X117 hx (y := (⟨"com/example/brasswire/brasswire/service/CreatedRangeAtPinLaw", "keeps", "(Lcom/example/brasswire/brasswire/service/CreatedRange;J)Z"⟩ : MethodName)) hown (mvT hZ (hw _ (List.mem_of_getElem? (i := 34) rfl))) (mvT hZ (hw _ (List.mem_of_getElem? (i := 35) rfl))) (mvT hZ (hw _ (List.mem_of_getElem? (i := 36) rfl))) (mvT hZ (hw _ (List.mem_of_getElem? (i := 37) rfl))) (by decide) (backOf (W := 0) (rm6 l Z a0 hw [] r111 q2 ga111 gb111 q T111.heap n0 (by exact y114) E111 F111q0 F111q1 F111q2 F111q3 E111a G111a E111b G111b) hZ (hw _ (List.mem_of_getElem? (i := 37) rfl)) (hw _ (List.mem_of_getElem? (i := 36) rfl)) (by decide) (by decide)) (g := (mkF m 71 #[.val (.long q1), .second, .val (.long q2), .second, .val (.int p3), .val (.long q), .second, .val (.ref r111), .val (.long (q + (((p3 &&& (7 : Int32)) - (4 : Int32)).toInt64))), .second] [(.long q2), (.ref r111)])) rfl (by rw [hml]; rfl) (argsL := [(.ref r111), (.long q2)]) (rest := []) (lenOf pd_7 rfl) rfl (by show 2 * 0 + _ ≤ _; exact Nat.le_of_eq rfl) (hb hby at_71) (fun _ _ => ⟨rfl, e117, (by decide : 3 + 0 ≤ _), (by decide : 6 + 0 ≤ _)⟩)
  dsimp only [Pt.U, Pt.locs, Pt.cells, Pt.slots] at X118 l118 y118 z118 st118 hQ118
  subst l118 y118 z118
  obtain ⟨rfl, N118q, e118⟩ := hQ118
  have N118 := Fr.app N117 N118q
  refine own_on st118 ?_
  show own_Fin p e below _ (T118.setTop (mkF m 74 #[.val (.long q1), .second, .val (.long q2), .second, .val (.int p3), .val (.long q), .second, .val (.ref r111), .val (.long (q + (((p3 &&& (7 : Int32)) - (4 : Int32)).toInt64))), .second] [(.int (if q2 = q then (1 : Int32) else 0))]))
  refine own_on (fun t => XS.lloadN X118.here hx rfl (hb hby at_74) rfl) ?_
  show own_Fin p e below _ (T118.setTop (mkF m 75 #[.val (.long q1), .second, .val (.long q2), .second, .val (.int p3), .val (.long q), .second, .val (.ref r111), .val (.long (q + (((p3 &&& (7 : Int32)) - (4 : Int32)).toInt64))), .second] [(.long q2), (.int (if q2 = q then (1 : Int32) else 0))]))
  refine own_on (fun t => XS.lload X118.here hx rfl (hb hby at_75) rfl) ?_
  show own_Fin p e below _ (T118.setTop (mkF m 77 #[.val (.long q1), .second, .val (.long q2), .second, .val (.int p3), .val (.long q), .second, .val (.ref r111), .val (.long (q + (((p3 &&& (7 : Int32)) - (4 : Int32)).toInt64))), .second] [(.long q), (.long q2), (.int (if q2 = q then (1 : Int32) else 0))]))
  refine own_on (fun t => XS.lcmp X118.here hx rfl (hb hby at_77) rfl) ?_
  show own_Fin p e below _ (T118.setTop (mkF m 78 #[.val (.long q1), .second, .val (.long q2), .second, .val (.int p3), .val (.long q), .second, .val (.ref r111), .val (.long (q + (((p3 &&& (7 : Int32)) - (4 : Int32)).toInt64))), .second] [(.int (lcmpW q2 q)), (.int (if q2 = q then (1 : Int32) else 0))]))
  by_cases hc119 : (lcmpW q2 q) = (0 : Int32)
  · refine own_on (fun t => XS.ifNo X118.here hx rfl (hb hby at_78) rfl ((if0 _ _).trans (teq hc119).2)) ?_
    show own_Fin p e below _ (T118.setTop (mkF m 81 #[.val (.long q1), .second, .val (.long q2), .second, .val (.int p3), .val (.long q), .second, .val (.ref r111), .val (.long (q + (((p3 &&& (7 : Int32)) - (4 : Int32)).toInt64))), .second] [(.int (if q2 = q then (1 : Int32) else 0))]))
    refine own_on (fun t => XS.iconst X118.here hx rfl (hb hby at_81)) ?_
    show own_Fin p e below _ (T118.setTop (mkF m 82 #[.val (.long q1), .second, .val (.long q2), .second, .val (.int p3), .val (.long q), .second, .val (.ref r111), .val (.long (q + (((p3 &&& (7 : Int32)) - (4 : Int32)).toInt64))), .second] [(.int (1 : Int32)), (.int (if q2 = q then (1 : Int32) else 0))]))
    refine own_on (fun t => XS.goto X118.here hx rfl (pc0 := 82) (pc' := 86) rfl (hb hby at_82) (by decide) (by decide)) ?_
    show own_Fin p e below _ (T118.setTop (mkF m 86 #[.val (.long q1), .second, .val (.long q2), .second, .val (.int p3), .val (.long q), .second, .val (.ref r111), .val (.long (q + (((p3 &&& (7 : Int32)) - (4 : Int32)).toInt64))), .second] [(.int (1 : Int32)), (.int (if q2 = q then (1 : Int32) else 0))]))
    by_cases hc120 : (if q2 = q then (1 : Int32) else 0) = (1 : Int32)
    · refine own_on (fun t => XS.icmpNo X118.here hx rfl (hb hby at_86) rfl (teq hc120).2) ?_
      show own_Fin p e below _ (T118.setTop (mkF m 89 #[.val (.long q1), .second, .val (.long q2), .second, .val (.int p3), .val (.long q), .second, .val (.ref r111), .val (.long (q + (((p3 &&& (7 : Int32)) - (4 : Int32)).toInt64))), .second] []))
      refine own_on (fun t => XS.aload X118.here hx rfl (hb hby at_89) rfl rfl) ?_
      show own_Fin p e below _ (T118.setTop (mkF m 91 #[.val (.long q1), .second, .val (.long q2), .second, .val (.int p3), .val (.long q), .second, .val (.ref r111), .val (.long (q + (((p3 &&& (7 : Int32)) - (4 : Int32)).toInt64))), .second] [(.ref r111)]))
      refine own_on (fun t => XS.lload X118.here hx rfl (hb hby at_91) rfl) ?_
      show own_Fin p e below _ (T118.setTop (mkF m 93 #[.val (.long q1), .second, .val (.long q2), .second, .val (.int p3), .val (.long q), .second, .val (.ref r111), .val (.long (q + (((p3 &&& (7 : Int32)) - (4 : Int32)).toInt64))), .second] [(.long (q + (((p3 &&& (7 : Int32)) - (4 : Int32)).toInt64))), (.ref r111)]))
      obtain ⟨_, _, ⟨T121, L121, k121, n121⟩, -, X121, ⟨Lc121, hQ121, l121, y121, z121⟩, st121⟩ := Jvm.LawKit.callS X118 hx (y := (⟨"com/example/brasswire/brasswire/service/CreatedRangeAtPinLaw", "keeps", "(Lcom/example/brasswire/brasswire/service/CreatedRange;J)Z"⟩ : MethodName)) hown (mvT hZ (hw _ (List.mem_of_getElem? (i := 34) rfl))) (mvT hZ (hw _ (List.mem_of_getElem? (i := 35) rfl))) (mvT hZ (hw _ (List.mem_of_getElem? (i := 36) rfl))) (mvT hZ (hw _ (List.mem_of_getElem? (i := 37) rfl))) (by decide) (backOf (W := 0) (rm6 l Z a0 hw [] r111 (q + (((p3 &&& (7 : Int32)) - (4 : Int32)).toInt64)) ga111 gb111 q T111.heap n0 (by exact y114) E111 F111q0 F111q1 F111q2 F111q3 E111a G111a E111b G111b) hZ (hw _ (List.mem_of_getElem? (i := 37) rfl)) (hw _ (List.mem_of_getElem? (i := 36) rfl)) (by decide) (by decide)) (g := (mkF m 93 #[.val (.long q1), .second, .val (.long q2), .second, .val (.int p3), .val (.long q), .second, .val (.ref r111), .val (.long (q + (((p3 &&& (7 : Int32)) - (4 : Int32)).toInt64))), .second] [(.long (q + (((p3 &&& (7 : Int32)) - (4 : Int32)).toInt64))), (.ref r111)])) rfl (by rw [hml]; rfl) (argsL := [(.ref r111), (.long (q + (((p3 &&& (7 : Int32)) - (4 : Int32)).toInt64)))]) (rest := []) (lenOf pd_7 rfl) rfl (by show 2 * 0 + _ ≤ _; exact Nat.le_of_eq rfl) (hb hby at_93) (fun _ _ => ⟨rfl, e118, (by decide : 3 + 0 ≤ _), (by decide : 6 + 0 ≤ _)⟩)
      dsimp only [Pt.U, Pt.locs, Pt.cells, Pt.slots] at X121 l121 y121 z121 st121 hQ121
      subst l121 y121 z121
      obtain ⟨rfl, N121q, e121⟩ := hQ121
      have N121 := Fr.app N118 N121q
      refine own_on st121 ?_
      show own_Fin p e below _ (T121.setTop (mkF m 96 #[.val (.long q1), .second, .val (.long q2), .second, .val (.int p3), .val (.long q), .second, .val (.ref r111), .val (.long (q + (((p3 &&& (7 : Int32)) - (4 : Int32)).toInt64))), .second] [(.int (if (q + (((p3 &&& (7 : Int32)) - (4 : Int32)).toInt64)) = q then (1 : Int32) else 0))]))
      refine own_on (fun t => XS.lload X121.here hx rfl (hb hby at_96) rfl) ?_
      show own_Fin p e below _ (T121.setTop (mkF m 98 #[.val (.long q1), .second, .val (.long q2), .second, .val (.int p3), .val (.long q), .second, .val (.ref r111), .val (.long (q + (((p3 &&& (7 : Int32)) - (4 : Int32)).toInt64))), .second] [(.long (q + (((p3 &&& (7 : Int32)) - (4 : Int32)).toInt64))), (.int (if (q + (((p3 &&& (7 : Int32)) - (4 : Int32)).toInt64)) = q then (1 : Int32) else 0))]))
      refine own_on (fun t => XS.lload X121.here hx rfl (hb hby at_98) rfl) ?_
      show own_Fin p e below _ (T121.setTop (mkF m 100 #[.val (.long q1), .second, .val (.long q2), .second, .val (.int p3), .val (.long q), .second, .val (.ref r111), .val (.long (q + (((p3 &&& (7 : Int32)) - (4 : Int32)).toInt64))), .second] [(.long q), (.long (q + (((p3 &&& (7 : Int32)) - (4 : Int32)).toInt64))), (.int (if (q + (((p3 &&& (7 : Int32)) - (4 : Int32)).toInt64)) = q then (1 : Int32) else 0))]))
      refine own_on (fun t => XS.lcmp X121.here hx rfl (hb hby at_100) rfl) ?_
      show own_Fin p e below _ (T121.setTop (mkF m 101 #[.val (.long q1), .second, .val (.long q2), .second, .val (.int p3), .val (.long q), .second, .val (.ref r111), .val (.long (q + (((p3 &&& (7 : Int32)) - (4 : Int32)).toInt64))), .second] [(.int (lcmpW (q + (((p3 &&& (7 : Int32)) - (4 : Int32)).toInt64)) q)), (.int (if (q + (((p3 &&& (7 : Int32)) - (4 : Int32)).toInt64)) = q then (1 : Int32) else 0))]))
      by_cases hc122 : (lcmpW (q + (((p3 &&& (7 : Int32)) - (4 : Int32)).toInt64)) q) = (0 : Int32)
      · refine own_on (fun t => XS.ifNo X121.here hx rfl (hb hby at_101) rfl ((if0 _ _).trans (teq hc122).2)) ?_
        show own_Fin p e below _ (T121.setTop (mkF m 104 #[.val (.long q1), .second, .val (.long q2), .second, .val (.int p3), .val (.long q), .second, .val (.ref r111), .val (.long (q + (((p3 &&& (7 : Int32)) - (4 : Int32)).toInt64))), .second] [(.int (if (q + (((p3 &&& (7 : Int32)) - (4 : Int32)).toInt64)) = q then (1 : Int32) else 0))]))
        refine own_on (fun t => XS.iconst X121.here hx rfl (hb hby at_104)) ?_
        show own_Fin p e below _ (T121.setTop (mkF m 105 #[.val (.long q1), .second, .val (.long q2), .second, .val (.int p3), .val (.long q), .second, .val (.ref r111), .val (.long (q + (((p3 &&& (7 : Int32)) - (4 : Int32)).toInt64))), .second] [(.int (1 : Int32)), (.int (if (q + (((p3 &&& (7 : Int32)) - (4 : Int32)).toInt64)) = q then (1 : Int32) else 0))]))
        refine own_on (fun t => XS.goto X121.here hx rfl (pc0 := 105) (pc' := 109) rfl (hb hby at_105) (by decide) (by decide)) ?_
        show own_Fin p e below _ (T121.setTop (mkF m 109 #[.val (.long q1), .second, .val (.long q2), .second, .val (.int p3), .val (.long q), .second, .val (.ref r111), .val (.long (q + (((p3 &&& (7 : Int32)) - (4 : Int32)).toInt64))), .second] [(.int (1 : Int32)), (.int (if (q + (((p3 &&& (7 : Int32)) - (4 : Int32)).toInt64)) = q then (1 : Int32) else 0))]))
        by_cases hc123 : (if (q + (((p3 &&& (7 : Int32)) - (4 : Int32)).toInt64)) = q then (1 : Int32) else 0) = (1 : Int32)
        · refine own_on (fun t => XS.icmpNo X121.here hx rfl (hb hby at_109) rfl (teq hc123).2) ?_
          show own_Fin p e below _ (T121.setTop (mkF m 112 #[.val (.long q1), .second, .val (.long q2), .second, .val (.int p3), .val (.long q), .second, .val (.ref r111), .val (.long (q + (((p3 &&& (7 : Int32)) - (4 : Int32)).toInt64))), .second] []))
          refine own_on (fun t => XS.iconst X121.here hx rfl (hb hby at_112)) ?_
          show own_Fin p e below _ (T121.setTop (mkF m 113 #[.val (.long q1), .second, .val (.long q2), .second, .val (.int p3), .val (.long q), .second, .val (.ref r111), .val (.long (q + (((p3 &&& (7 : Int32)) - (4 : Int32)).toInt64))), .second] [(.int (1 : Int32))]))
          refine own_on (fun t => XS.goto X121.here hx rfl (pc0 := 113) (pc' := 117) rfl (hb hby at_113) (by decide) (by decide)) ?_
          show own_Fin p e below _ (T121.setTop (mkF m 117 #[.val (.long q1), .second, .val (.long q2), .second, .val (.int p3), .val (.long q), .second, .val (.ref r111), .val (.long (q + (((p3 &&& (7 : Int32)) - (4 : Int32)).toInt64))), .second] [(.int (1 : Int32))]))
          exact own_ret (t := .boolean) X121 hx hlk hret rfl (Or.inl ⟨rfl, (by simp), _, rfl⟩) (hb hby at_117) (⟨rfl, N121⟩) (by decide) (by decide)
        · refine own_on (fun t => XS.icmpYes X121.here hx rfl (pc0 := 109) (pc' := 116) rfl (hb hby at_109) rfl (feq hc123).2 (by decide) (by decide)) ?_
          show own_Fin p e below _ (T121.setTop (mkF m 116 #[.val (.long q1), .second, .val (.long q2), .second, .val (.int p3), .val (.long q), .second, .val (.ref r111), .val (.long (q + (((p3 &&& (7 : Int32)) - (4 : Int32)).toInt64))), .second] []))
          refine own_on (fun t => XS.iconst X121.here hx rfl (hb hby at_116)) ?_
          show own_Fin p e below _ (T121.setTop (mkF m 117 #[.val (.long q1), .second, .val (.long q2), .second, .val (.int p3), .val (.long q), .second, .val (.ref r111), .val (.long (q + (((p3 &&& (7 : Int32)) - (4 : Int32)).toInt64))), .second] [(.int (0 : Int32))]))
          exact own_ret (t := .boolean) X121 hx hlk hret rfl (Or.inl ⟨rfl, (by simp), _, rfl⟩) (hb hby at_117) (⟨by exfalso; simp_all [lw_eq], N121⟩) (by decide) (by decide)
      · refine own_on (fun t => XS.ifYes X121.here hx rfl (pc0 := 101) (pc' := 108) rfl (hb hby at_101) rfl ((if0 _ _).trans (feq hc122).2) (by decide) (by decide)) ?_
        show own_Fin p e below _ (T121.setTop (mkF m 108 #[.val (.long q1), .second, .val (.long q2), .second, .val (.int p3), .val (.long q), .second, .val (.ref r111), .val (.long (q + (((p3 &&& (7 : Int32)) - (4 : Int32)).toInt64))), .second] [(.int (if (q + (((p3 &&& (7 : Int32)) - (4 : Int32)).toInt64)) = q then (1 : Int32) else 0))]))
        refine own_on (fun t => XS.iconst X121.here hx rfl (hb hby at_108)) ?_
        show own_Fin p e below _ (T121.setTop (mkF m 109 #[.val (.long q1), .second, .val (.long q2), .second, .val (.int p3), .val (.long q), .second, .val (.ref r111), .val (.long (q + (((p3 &&& (7 : Int32)) - (4 : Int32)).toInt64))), .second] [(.int (0 : Int32)), (.int (if (q + (((p3 &&& (7 : Int32)) - (4 : Int32)).toInt64)) = q then (1 : Int32) else 0))]))
        by_cases hc124 : (if (q + (((p3 &&& (7 : Int32)) - (4 : Int32)).toInt64)) = q then (1 : Int32) else 0) = (0 : Int32)
        · refine own_on (fun t => XS.icmpNo X121.here hx rfl (hb hby at_109) rfl (teq hc124).2) ?_
          show own_Fin p e below _ (T121.setTop (mkF m 112 #[.val (.long q1), .second, .val (.long q2), .second, .val (.int p3), .val (.long q), .second, .val (.ref r111), .val (.long (q + (((p3 &&& (7 : Int32)) - (4 : Int32)).toInt64))), .second] []))
          refine own_on (fun t => XS.iconst X121.here hx rfl (hb hby at_112)) ?_
          show own_Fin p e below _ (T121.setTop (mkF m 113 #[.val (.long q1), .second, .val (.long q2), .second, .val (.int p3), .val (.long q), .second, .val (.ref r111), .val (.long (q + (((p3 &&& (7 : Int32)) - (4 : Int32)).toInt64))), .second] [(.int (1 : Int32))]))
          refine own_on (fun t => XS.goto X121.here hx rfl (pc0 := 113) (pc' := 117) rfl (hb hby at_113) (by decide) (by decide)) ?_
          show own_Fin p e below _ (T121.setTop (mkF m 117 #[.val (.long q1), .second, .val (.long q2), .second, .val (.int p3), .val (.long q), .second, .val (.ref r111), .val (.long (q + (((p3 &&& (7 : Int32)) - (4 : Int32)).toInt64))), .second] [(.int (1 : Int32))]))
          exact own_ret (t := .boolean) X121 hx hlk hret rfl (Or.inl ⟨rfl, (by simp), _, rfl⟩) (hb hby at_117) (⟨rfl, N121⟩) (by decide) (by decide)
        · refine own_on (fun t => XS.icmpYes X121.here hx rfl (pc0 := 109) (pc' := 116) rfl (hb hby at_109) rfl (feq hc124).2 (by decide) (by decide)) ?_
          show own_Fin p e below _ (T121.setTop (mkF m 116 #[.val (.long q1), .second, .val (.long q2), .second, .val (.int p3), .val (.long q), .second, .val (.ref r111), .val (.long (q + (((p3 &&& (7 : Int32)) - (4 : Int32)).toInt64))), .second] []))
          refine own_on (fun t => XS.iconst X121.here hx rfl (hb hby at_116)) ?_
          show own_Fin p e below _ (T121.setTop (mkF m 117 #[.val (.long q1), .second, .val (.long q2), .second, .val (.int p3), .val (.long q), .second, .val (.ref r111), .val (.long (q + (((p3 &&& (7 : Int32)) - (4 : Int32)).toInt64))), .second] [(.int (0 : Int32))]))
          exact own_ret (t := .boolean) X121 hx hlk hret rfl (Or.inl ⟨rfl, (by simp), _, rfl⟩) (hb hby at_117) (⟨by exfalso; simp_all [lw_eq], N121⟩) (by decide) (by decide)
    · refine own_on (fun t => XS.icmpYes X118.here hx rfl (pc0 := 86) (pc' := 116) rfl (hb hby at_86) rfl (feq hc120).2 (by decide) (by decide)) ?_
      show own_Fin p e below _ (T118.setTop (mkF m 116 #[.val (.long q1), .second, .val (.long q2), .second, .val (.int p3), .val (.long q), .second, .val (.ref r111), .val (.long (q + (((p3 &&& (7 : Int32)) - (4 : Int32)).toInt64))), .second] []))
      refine own_on (fun t => XS.iconst X118.here hx rfl (hb hby at_116)) ?_
      show own_Fin p e below _ (T118.setTop (mkF m 117 #[.val (.long q1), .second, .val (.long q2), .second, .val (.int p3), .val (.long q), .second, .val (.ref r111), .val (.long (q + (((p3 &&& (7 : Int32)) - (4 : Int32)).toInt64))), .second] [(.int (0 : Int32))]))
      exact own_ret (t := .boolean) X118 hx hlk hret rfl (Or.inl ⟨rfl, (by simp), _, rfl⟩) (hb hby at_117) (⟨by exfalso; simp_all [lw_eq], N118⟩) (by decide) (by decide)
  · refine own_on (fun t => XS.ifYes X118.here hx rfl (pc0 := 78) (pc' := 85) rfl (hb hby at_78) rfl ((if0 _ _).trans (feq hc119).2) (by decide) (by decide)) ?_
    show own_Fin p e below _ (T118.setTop (mkF m 85 #[.val (.long q1), .second, .val (.long q2), .second, .val (.int p3), .val (.long q), .second, .val (.ref r111), .val (.long (q + (((p3 &&& (7 : Int32)) - (4 : Int32)).toInt64))), .second] [(.int (if q2 = q then (1 : Int32) else 0))]))
    refine own_on (fun t => XS.iconst X118.here hx rfl (hb hby at_85)) ?_
    show own_Fin p e below _ (T118.setTop (mkF m 86 #[.val (.long q1), .second, .val (.long q2), .second, .val (.int p3), .val (.long q), .second, .val (.ref r111), .val (.long (q + (((p3 &&& (7 : Int32)) - (4 : Int32)).toInt64))), .second] [(.int (0 : Int32)), (.int (if q2 = q then (1 : Int32) else 0))]))
    by_cases hc125 : (if q2 = q then (1 : Int32) else 0) = (0 : Int32)
    · refine own_on (fun t => XS.icmpNo X118.here hx rfl (hb hby at_86) rfl (teq hc125).2) ?_
      show own_Fin p e below _ (T118.setTop (mkF m 89 #[.val (.long q1), .second, .val (.long q2), .second, .val (.int p3), .val (.long q), .second, .val (.ref r111), .val (.long (q + (((p3 &&& (7 : Int32)) - (4 : Int32)).toInt64))), .second] []))
      refine own_on (fun t => XS.aload X118.here hx rfl (hb hby at_89) rfl rfl) ?_
      show own_Fin p e below _ (T118.setTop (mkF m 91 #[.val (.long q1), .second, .val (.long q2), .second, .val (.int p3), .val (.long q), .second, .val (.ref r111), .val (.long (q + (((p3 &&& (7 : Int32)) - (4 : Int32)).toInt64))), .second] [(.ref r111)]))
      refine own_on (fun t => XS.lload X118.here hx rfl (hb hby at_91) rfl) ?_
      show own_Fin p e below _ (T118.setTop (mkF m 93 #[.val (.long q1), .second, .val (.long q2), .second, .val (.int p3), .val (.long q), .second, .val (.ref r111), .val (.long (q + (((p3 &&& (7 : Int32)) - (4 : Int32)).toInt64))), .second] [(.long (q + (((p3 &&& (7 : Int32)) - (4 : Int32)).toInt64))), (.ref r111)]))
      obtain ⟨_, _, ⟨T126, L126, k126, n126⟩, -, X126, ⟨Lc126, hQ126, l126, y126, z126⟩, st126⟩ := Jvm.LawKit.callS X118 hx (y := (⟨"com/example/brasswire/brasswire/service/CreatedRangeAtPinLaw", "keeps", "(Lcom/example/brasswire/brasswire/service/CreatedRange;J)Z"⟩ : MethodName)) hown (mvT hZ (hw _ (List.mem_of_getElem? (i := 34) rfl))) (mvT hZ (hw _ (List.mem_of_getElem? (i := 35) rfl))) (mvT hZ (hw _ (List.mem_of_getElem? (i := 36) rfl))) (mvT hZ (hw _ (List.mem_of_getElem? (i := 37) rfl))) (by decide) (backOf (W := 0) (rm6 l Z a0 hw [] r111 (q + (((p3 &&& (7 : Int32)) - (4 : Int32)).toInt64)) ga111 gb111 q T111.heap n0 (by exact y114) E111 F111q0 F111q1 F111q2 F111q3 E111a G111a E111b G111b) hZ (hw _ (List.mem_of_getElem? (i := 37) rfl)) (hw _ (List.mem_of_getElem? (i := 36) rfl)) (by decide) (by decide)) (g := (mkF m 93 #[.val (.long q1), .second, .val (.long q2), .second, .val (.int p3), .val (.long q), .second, .val (.ref r111), .val (.long (q + (((p3 &&& (7 : Int32)) - (4 : Int32)).toInt64))), .second] [(.long (q + (((p3 &&& (7 : Int32)) - (4 : Int32)).toInt64))), (.ref r111)])) rfl (by rw [hml]; rfl) (argsL := [(.ref r111), (.long (q + (((p3 &&& (7 : Int32)) - (4 : Int32)).toInt64)))]) (rest := []) (lenOf pd_7 rfl) rfl (by show 2 * 0 + _ ≤ _; exact Nat.le_of_eq rfl) (hb hby at_93) (fun _ _ => ⟨rfl, e118, (by decide : 3 + 0 ≤ _), (by decide : 6 + 0 ≤ _)⟩)
      dsimp only [Pt.U, Pt.locs, Pt.cells, Pt.slots] at X126 l126 y126 z126 st126 hQ126
      subst l126 y126 z126
      obtain ⟨rfl, N126q, e126⟩ := hQ126
      have N126 := Fr.app N118 N126q
      refine own_on st126 ?_
      show own_Fin p e below _ (T126.setTop (mkF m 96 #[.val (.long q1), .second, .val (.long q2), .second, .val (.int p3), .val (.long q), .second, .val (.ref r111), .val (.long (q + (((p3 &&& (7 : Int32)) - (4 : Int32)).toInt64))), .second] [(.int (if (q + (((p3 &&& (7 : Int32)) - (4 : Int32)).toInt64)) = q then (1 : Int32) else 0))]))
      refine own_on (fun t => XS.lload X126.here hx rfl (hb hby at_96) rfl) ?_
      show own_Fin p e below _ (T126.setTop (mkF m 98 #[.val (.long q1), .second, .val (.long q2), .second, .val (.int p3), .val (.long q), .second, .val (.ref r111), .val (.long (q + (((p3 &&& (7 : Int32)) - (4 : Int32)).toInt64))), .second] [(.long (q + (((p3 &&& (7 : Int32)) - (4 : Int32)).toInt64))), (.int (if (q + (((p3 &&& (7 : Int32)) - (4 : Int32)).toInt64)) = q then (1 : Int32) else 0))]))
      refine own_on (fun t => XS.lload X126.here hx rfl (hb hby at_98) rfl) ?_
      show own_Fin p e below _ (T126.setTop (mkF m 100 #[.val (.long q1), .second, .val (.long q2), .second, .val (.int p3), .val (.long q), .second, .val (.ref r111), .val (.long (q + (((p3 &&& (7 : Int32)) - (4 : Int32)).toInt64))), .second] [(.long q), (.long (q + (((p3 &&& (7 : Int32)) - (4 : Int32)).toInt64))), (.int (if (q + (((p3 &&& (7 : Int32)) - (4 : Int32)).toInt64)) = q then (1 : Int32) else 0))]))
      refine own_on (fun t => XS.lcmp X126.here hx rfl (hb hby at_100) rfl) ?_
      show own_Fin p e below _ (T126.setTop (mkF m 101 #[.val (.long q1), .second, .val (.long q2), .second, .val (.int p3), .val (.long q), .second, .val (.ref r111), .val (.long (q + (((p3 &&& (7 : Int32)) - (4 : Int32)).toInt64))), .second] [(.int (lcmpW (q + (((p3 &&& (7 : Int32)) - (4 : Int32)).toInt64)) q)), (.int (if (q + (((p3 &&& (7 : Int32)) - (4 : Int32)).toInt64)) = q then (1 : Int32) else 0))]))
      by_cases hc127 : (lcmpW (q + (((p3 &&& (7 : Int32)) - (4 : Int32)).toInt64)) q) = (0 : Int32)
      · refine own_on (fun t => XS.ifNo X126.here hx rfl (hb hby at_101) rfl ((if0 _ _).trans (teq hc127).2)) ?_
        show own_Fin p e below _ (T126.setTop (mkF m 104 #[.val (.long q1), .second, .val (.long q2), .second, .val (.int p3), .val (.long q), .second, .val (.ref r111), .val (.long (q + (((p3 &&& (7 : Int32)) - (4 : Int32)).toInt64))), .second] [(.int (if (q + (((p3 &&& (7 : Int32)) - (4 : Int32)).toInt64)) = q then (1 : Int32) else 0))]))
        refine own_on (fun t => XS.iconst X126.here hx rfl (hb hby at_104)) ?_
        show own_Fin p e below _ (T126.setTop (mkF m 105 #[.val (.long q1), .second, .val (.long q2), .second, .val (.int p3), .val (.long q), .second, .val (.ref r111), .val (.long (q + (((p3 &&& (7 : Int32)) - (4 : Int32)).toInt64))), .second] [(.int (1 : Int32)), (.int (if (q + (((p3 &&& (7 : Int32)) - (4 : Int32)).toInt64)) = q then (1 : Int32) else 0))]))
        refine own_on (fun t => XS.goto X126.here hx rfl (pc0 := 105) (pc' := 109) rfl (hb hby at_105) (by decide) (by decide)) ?_
        show own_Fin p e below _ (T126.setTop (mkF m 109 #[.val (.long q1), .second, .val (.long q2), .second, .val (.int p3), .val (.long q), .second, .val (.ref r111), .val (.long (q + (((p3 &&& (7 : Int32)) - (4 : Int32)).toInt64))), .second] [(.int (1 : Int32)), (.int (if (q + (((p3 &&& (7 : Int32)) - (4 : Int32)).toInt64)) = q then (1 : Int32) else 0))]))
        by_cases hc128 : (if (q + (((p3 &&& (7 : Int32)) - (4 : Int32)).toInt64)) = q then (1 : Int32) else 0) = (1 : Int32)
        · refine own_on (fun t => XS.icmpNo X126.here hx rfl (hb hby at_109) rfl (teq hc128).2) ?_
          show own_Fin p e below _ (T126.setTop (mkF m 112 #[.val (.long q1), .second, .val (.long q2), .second, .val (.int p3), .val (.long q), .second, .val (.ref r111), .val (.long (q + (((p3 &&& (7 : Int32)) - (4 : Int32)).toInt64))), .second] []))
          refine own_on (fun t => XS.iconst X126.here hx rfl (hb hby at_112)) ?_
          show own_Fin p e below _ (T126.setTop (mkF m 113 #[.val (.long q1), .second, .val (.long q2), .second, .val (.int p3), .val (.long q), .second, .val (.ref r111), .val (.long (q + (((p3 &&& (7 : Int32)) - (4 : Int32)).toInt64))), .second] [(.int (1 : Int32))]))
          refine own_on (fun t => XS.goto X126.here hx rfl (pc0 := 113) (pc' := 117) rfl (hb hby at_113) (by decide) (by decide)) ?_
          show own_Fin p e below _ (T126.setTop (mkF m 117 #[.val (.long q1), .second, .val (.long q2), .second, .val (.int p3), .val (.long q), .second, .val (.ref r111), .val (.long (q + (((p3 &&& (7 : Int32)) - (4 : Int32)).toInt64))), .second] [(.int (1 : Int32))]))
          exact own_ret (t := .boolean) X126 hx hlk hret rfl (Or.inl ⟨rfl, (by simp), _, rfl⟩) (hb hby at_117) (⟨rfl, N126⟩) (by decide) (by decide)
        · refine own_on (fun t => XS.icmpYes X126.here hx rfl (pc0 := 109) (pc' := 116) rfl (hb hby at_109) rfl (feq hc128).2 (by decide) (by decide)) ?_
          show own_Fin p e below _ (T126.setTop (mkF m 116 #[.val (.long q1), .second, .val (.long q2), .second, .val (.int p3), .val (.long q), .second, .val (.ref r111), .val (.long (q + (((p3 &&& (7 : Int32)) - (4 : Int32)).toInt64))), .second] []))
          refine own_on (fun t => XS.iconst X126.here hx rfl (hb hby at_116)) ?_
          show own_Fin p e below _ (T126.setTop (mkF m 117 #[.val (.long q1), .second, .val (.long q2), .second, .val (.int p3), .val (.long q), .second, .val (.ref r111), .val (.long (q + (((p3 &&& (7 : Int32)) - (4 : Int32)).toInt64))), .second] [(.int (0 : Int32))]))
          exact own_ret (t := .boolean) X126 hx hlk hret rfl (Or.inl ⟨rfl, (by simp), _, rfl⟩) (hb hby at_117) (⟨by exfalso; simp_all [lw_eq], N126⟩) (by decide) (by decide)
      · refine own_on (fun t => XS.ifYes X126.here hx rfl (pc0 := 101) (pc' := 108) rfl (hb hby at_101) rfl ((if0 _ _).trans (feq hc127).2) (by decide) (by decide)) ?_
        show own_Fin p e below _ (T126.setTop (mkF m 108 #[.val (.long q1), .second, .val (.long q2), .second, .val (.int p3), .val (.long q), .second, .val (.ref r111), .val (.long (q + (((p3 &&& (7 : Int32)) - (4 : Int32)).toInt64))), .second] [(.int (if (q + (((p3 &&& (7 : Int32)) - (4 : Int32)).toInt64)) = q then (1 : Int32) else 0))]))
        refine own_on (fun t => XS.iconst X126.here hx rfl (hb hby at_108)) ?_
        show own_Fin p e below _ (T126.setTop (mkF m 109 #[.val (.long q1), .second, .val (.long q2), .second, .val (.int p3), .val (.long q), .second, .val (.ref r111), .val (.long (q + (((p3 &&& (7 : Int32)) - (4 : Int32)).toInt64))), .second] [(.int (0 : Int32)), (.int (if (q + (((p3 &&& (7 : Int32)) - (4 : Int32)).toInt64)) = q then (1 : Int32) else 0))]))
        by_cases hc129 : (if (q + (((p3 &&& (7 : Int32)) - (4 : Int32)).toInt64)) = q then (1 : Int32) else 0) = (0 : Int32)
        · refine own_on (fun t => XS.icmpNo X126.here hx rfl (hb hby at_109) rfl (teq hc129).2) ?_
          show own_Fin p e below _ (T126.setTop (mkF m 112 #[.val (.long q1), .second, .val (.long q2), .second, .val (.int p3), .val (.long q), .second, .val (.ref r111), .val (.long (q + (((p3 &&& (7 : Int32)) - (4 : Int32)).toInt64))), .second] []))
          refine own_on (fun t => XS.iconst X126.here hx rfl (hb hby at_112)) ?_
          show own_Fin p e below _ (T126.setTop (mkF m 113 #[.val (.long q1), .second, .val (.long q2), .second, .val (.int p3), .val (.long q), .second, .val (.ref r111), .val (.long (q + (((p3 &&& (7 : Int32)) - (4 : Int32)).toInt64))), .second] [(.int (1 : Int32))]))
          refine own_on (fun t => XS.goto X126.here hx rfl (pc0 := 113) (pc' := 117) rfl (hb hby at_113) (by decide) (by decide)) ?_
          show own_Fin p e below _ (T126.setTop (mkF m 117 #[.val (.long q1), .second, .val (.long q2), .second, .val (.int p3), .val (.long q), .second, .val (.ref r111), .val (.long (q + (((p3 &&& (7 : Int32)) - (4 : Int32)).toInt64))), .second] [(.int (1 : Int32))]))
          exact own_ret (t := .boolean) X126 hx hlk hret rfl (Or.inl ⟨rfl, (by simp), _, rfl⟩) (hb hby at_117) (⟨rfl, N126⟩) (by decide) (by decide)
        · refine own_on (fun t => XS.icmpYes X126.here hx rfl (pc0 := 109) (pc' := 116) rfl (hb hby at_109) rfl (feq hc129).2 (by decide) (by decide)) ?_
          show own_Fin p e below _ (T126.setTop (mkF m 116 #[.val (.long q1), .second, .val (.long q2), .second, .val (.int p3), .val (.long q), .second, .val (.ref r111), .val (.long (q + (((p3 &&& (7 : Int32)) - (4 : Int32)).toInt64))), .second] []))
          refine own_on (fun t => XS.iconst X126.here hx rfl (hb hby at_116)) ?_
          show own_Fin p e below _ (T126.setTop (mkF m 117 #[.val (.long q1), .second, .val (.long q2), .second, .val (.int p3), .val (.long q), .second, .val (.ref r111), .val (.long (q + (((p3 &&& (7 : Int32)) - (4 : Int32)).toInt64))), .second] [(.int (0 : Int32))]))
          exact own_ret (t := .boolean) X126 hx hlk hret rfl (Or.inl ⟨rfl, (by simp), _, rfl⟩) (hb hby at_117) (⟨by exfalso; simp_all [lw_eq], N126⟩) (by decide) (by decide)
    · refine own_on (fun t => XS.icmpYes X118.here hx rfl (pc0 := 86) (pc' := 116) rfl (hb hby at_86) rfl (feq hc125).2 (by decide) (by decide)) ?_
      show own_Fin p e below _ (T118.setTop (mkF m 116 #[.val (.long q1), .second, .val (.long q2), .second, .val (.int p3), .val (.long q), .second, .val (.ref r111), .val (.long (q + (((p3 &&& (7 : Int32)) - (4 : Int32)).toInt64))), .second] []))
      refine own_on (fun t => XS.iconst X118.here hx rfl (hb hby at_116)) ?_
      show own_Fin p e below _ (T118.setTop (mkF m 117 #[.val (.long q1), .second, .val (.long q2), .second, .val (.int p3), .val (.long q), .second, .val (.ref r111), .val (.long (q + (((p3 &&& (7 : Int32)) - (4 : Int32)).toInt64))), .second] [(.int (0 : Int32))]))
      exact own_ret (t := .boolean) X118 hx hlk hret rfl (Or.inl ⟨rfl, (by simp), _, rfl⟩) (hb hby at_117) (⟨by exfalso; simp_all [lw_eq], N118⟩) (by decide) (by decide)
set_option maxRecDepth 65536 in
set_option maxHeartbeats 40000000 in
theorem comes_1 {Post : Tables → Env → Array Value → State → Outcome → State → Prop} (hpost : ∀ tb e args s v u, (limb_1_1.after args s (.returned v) u = true ∧ limb_1_2.after args s (.returned v) u = true ∧ True) → FrameEnd s (.returned v) u (Jvm.fieldLocs frame_1_writes args s ++ Jvm.arrayLocs frame_1_arrays args s ++ Jvm.staticLocs frame_1_statics s) 16 128 → Post tb e args s (.returned v) u) :
    ArmFor flags0 classFile x code maxLocals ret World_1 tables_1 room_1 Calls_1 rest_1 Pre_1 Post := by
  intro l hfl _ _ p e ha hc hk s m args below hf hA hF happ hP
  obtain ⟨hcalls, hrest, hpre⟩ := hP
  obtain ⟨-, -, -, hnamed, -, -, -, hat⟩ := (Spec.applies_iff hf).mp happ
  obtain ⟨hg, hn⟩ := and_e (Cond.before_iff.mp (show (Jvm.Cond.and given_1 narrow_1).before args s = true from hpre))
  obtain ⟨ga0l, ga0r⟩ := and_e hg
  obtain ⟨ga1l, ga1r⟩ := and_e ga0r
  obtain ⟨ga2l, ga2r⟩ := and_e ga1r
  obtain ⟨w0, w1, w2, rfl⟩ : ∃ w0 w1 w2 : Value, args = #[w0, w1, w2] := by
    have hs : args.size = 3 := by simpa [Cond.value, given_1] using ga0l
    obtain ⟨L⟩ := args
    match L, hs with
    | [w0, w1, w2], _ => exact ⟨w0, w1, w2, rfl⟩
  have hw := fun d (hd : d ∈ tables_1) => atoms_spec (ws := Jvm.Cond.code x code maxLocals ret :: tables_1) hat d (List.mem_cons_of_mem _ hd)
  have hfit : Fit s := fun {y c} hc i hi => by
    obtain ⟨ha, rfl⟩ := Array.getElem?_eq_some_iff.mp hc
    have q := List.all_eq_true.mp ((Array.all_eq_true_iff_forall_mem.mp hF) _ (Array.getElem_mem ha)) i (List.mem_range.mpr hi)
    simpa [Array.getElem?_eq_getElem hi] using q
  obtain ⟨hsets, hown0⟩ := atoms_of _ (rest_1_c_eq ▸ (show rest_1_c.before _ s = true from hrest))
  have hr0 := Cond.before_iff.mp hown0
  obtain ⟨i0, ei0⟩ := isL_v ga1l
  obtain rfl : w0 = (.long i0) := Option.some.inj ei0
  obtain ⟨i1, ei1⟩ := isL_v ga2l
  obtain rfl : w1 = (.long i1) := Option.some.inj ei1
  obtain ⟨i2, ei2⟩ := is_v ga2r
  obtain rfl : w2 = (.int i2) := Option.some.inj ei2
  have hs2 := Cond.before_iff.mp (hsets _ (List.mem_of_getElem? (i := 2) rfl))
  obtain ⟨ca, evc⟩ := arr_v hs2
  have SC := Sta.start evc (Or.inl (hsets _ (List.mem_of_getElem? (i := 1) rfl)))
  obtain ⟨cc, Ac⟩ := Arr.start evc hs2
  have hs4 := eqv_i (Term.int_eval (256)) (Cond.before_iff.mp (hsets _ (List.mem_of_getElem? (i := 4) rfl)))
  have hsz := own_len evc (Ac.fin (Vm.Alike.refl _)) hs4
  have BX : Bxs s ca cc "java/lang/Long" "J" (256 : Int32) own_val := Bxs.start (fun _ => evc) Ac hsz.1 hsz.2 (by decide) (Cond.before_iff.mp (hsets _ (List.mem_of_getElem? (i := 5) rfl))) (fun X j hj h => eqv_l (i2l_at (own_sub (idx_at hj) (Term.int_eval (128)))) h)
  obtain ⟨n, o, h1, h2, h3, _, L, rfl, ⟨rfl, N⟩, hq⟩ := rm0 l s _ hw tables_1 i0 i1 i2 _ ca cc s.heap s.heap.size (Nat.le_refl _) rfl (Old.start s) SC BX p e ha hc hk s m _ below hf ((Spec.applies_iff_loose hf).mp happ).1 ⟨rfl, State.Warmed39.refl s, rfl⟩ trivial
  refine ⟨n, _, h1, h2, h3, hpost _ _ _ _ _ _ ⟨Cond.after_iff.mpr rfl, Cond.after_iff.mpr (eq_i res_at (Term.int_eval (1)) rfl), trivial⟩ ⟨hq.1, hq.2.1, (hq.2.2.sift fun y hy => Or.inr (N y hy)).mono (by decide) (by decide)⟩⟩
theorem main_1_1 : Claimed_1_1 := comes_1 fun _ _ _ _ _ _ h hF => ⟨h.1, hF⟩
theorem main_1_2 : Claimed_1_2 := comes_1 fun _ _ _ _ _ _ h hF => ⟨h.2.1, hF⟩
end Jvm.Pilot.@@N@@
namespace Jvm.Pilot.@@N@@
open Jvm Jvm.ClassFile Sem Op Lib Jvm.Free Jvm.Stand Jvm.Pilot.@@N@@.Jvm.D
/-! MADE BY PROGRAM (witnessworld.py) out of the Statement's table words and the real class files: 17 classes; the members and pool entries that the words name. The judged class is class 1, her method 2. -/
namespace start1
open Jvm.ClassFile
def u (s : String) : CpInfo := .utf8 (stringToUtf16 s)
/-- a pool by its gaps: so many unusable entries, then the entry; so many at the end -/
def gap : Nat → List CpInfo → List CpInfo
  | 0, r => r
  | n + 1, r => .unusable :: gap n r
def poolList (es : List (Nat × CpInfo)) (last : Nat) : List CpInfo := es.foldr (fun e r => gap e.1 (e.2 :: r)) (gap last [])
def pool (es : List (Nat × CpInfo)) (last : Nat) : Array CpInfo := ⟨poolList es last⟩
def fileOf (pool : Array CpInfo) (this : Nat) (attrs : Array Attribute := #[]) (ms : Array MethodInfo := #[]) (fl : Nat := 33) (sup : Nat := 0) (ifs : Array Nat := #[]) (fds : Array FieldInfo := #[]) : ClassFile where
  minorVersion := 0
  majorVersion := 65
  constantPool := pool
  accessFlags := fl
  thisClass := this
  superClass := sup
  interfaces := ifs
  fields := fds
  methods := ms
  attributes := attrs
def plain (name : String) (sup : Option ClassId) : Class where
  name := name
  kind := .ordinary
  loader := none
  accessFlags := 33
  super := sup
  interfaces := #[]
  cf := none
  fields := #[]
  methods := #[]
  instanceTypes := #[]
  staticTypes := #[]
  resolved := #[]
  callSites := []
  init := .initialized
  statics := none
  mirror := none

def pool0 : Array CpInfo := pool [(5, u "<init>"), (0, u "()V"), (1, .class_ 10), (1, u "java/lang/Object")] 113

def k0c0 : Code := { maxStack := 0, maxLocals := 1, code := object_method_1_code, exceptionTable := #[], attributes := #[] }
def k0m0 : Method := { name := "<init>", desc := "()V", sig := { parameters := [], returnType := none }, accessFlags := 1, code := some k0c0 }
/-- java/lang/Object -/
def k0 : Class := { plain "java/lang/Object" none with
  accessFlags := 33
  interfaces := #[]
  cf := some (fileOf pool0 8 #[] #[{ accessFlags := 1, nameIndex := 5, descriptorIndex := 6, attributes := #[] }] 33 0 #[] #[])
  fields := #[]
  methods := #[k0m0]
  instanceTypes := #[]
  staticTypes := #[]
  resolved := Array.replicate 124 none
  statics := none }

def pool1 : Array CpInfo := pool [(2, .class_ 4), (1, u "java/lang/Object"), (0, u "<init>"), (0, u "()V"), (0, .methodref 8 9), (0, .class_ 10), (0, .nameAndType 11 12), (0, u "com/example/brasswire/brasswire/service/CreatedRange"), (0, u "gt"), (0, u "()Ljava/lang/Long;"), (0, .methodref 14 15), (0, .class_ 16), (0, .nameAndType 17 18), (0, u "java/lang/Long"), (0, u "longValue"), (0, u "()J"), (0, .methodref 8 20), (0, .nameAndType 21 12), (0, u "gte"), (0, .methodref 8 23), (0, .nameAndType 24 12), (0, u "lt"), (0, .methodref 8 26), (0, .nameAndType 27 12), (0, u "lte"), (0, .long 31556889864403199), (1, .methodref 8 31), (0, .nameAndType 32 33), (0, u "at"), (0, u "(J)Lcom/example/brasswire/brasswire/service/CreatedRange;"), (0, .methodref 35 36), (0, .class_ 37), (0, .nameAndType 38 39), (0, u "com/example/brasswire/brasswire/service/CreatedRangeAtPinLaw"), (0, u "keeps"), (0, u "(Lcom/example/brasswire/brasswire/service/CreatedRange;J)Z"), (3, u "law"), (0, u "(JJI)Z")] 2

def k1m0 : Method := { name := "<init>", desc := "()V", sig := { parameters := [], returnType := none }, accessFlags := 2, code := none }
def k1c1 : Code := { maxStack := 4, maxLocals := 7, code := method_2_code, exceptionTable := #[], attributes := #[] }
def k1m1 : Method := { name := "keeps", desc := "(Lcom/example/brasswire/brasswire/service/CreatedRange;J)Z", sig := { parameters := [(.object "com/example/brasswire/brasswire/service/CreatedRange"), .long], returnType := some .boolean }, accessFlags := 10, code := some k1c1 }
def k1c2 : Code := { maxStack := 5, maxLocals := 10, code := code, exceptionTable := #[], attributes := #[] }
def k1m2 : Method := { name := "law", desc := "(JJI)Z", sig := { parameters := [.long, .long, .int], returnType := some .boolean }, accessFlags := 9, code := some k1c2 }
/-- com/example/brasswire/brasswire/service/CreatedRangeAtPinLaw -/
def k1 : Class := { plain "com/example/brasswire/brasswire/service/CreatedRangeAtPinLaw" (some 0) with
  accessFlags := 49
  interfaces := #[]
  cf := some (fileOf pool1 35 #[] #[{ accessFlags := 2, nameIndex := 5, descriptorIndex := 6, attributes := #[] }, { accessFlags := 10, nameIndex := 38, descriptorIndex := 39, attributes := #[] }, { accessFlags := 9, nameIndex := 43, descriptorIndex := 44, attributes := #[] }] 49 2 #[] #[])
  fields := #[]
  methods := #[k1m0, k1m1, k1m2]
  instanceTypes := #[]
  staticTypes := #[]
  resolved := Array.replicate 47 none
  statics := none }

def pool2 : Array CpInfo := pool [(1, .methodref 2 3), (0, .class_ 4), (0, .nameAndType 5 6), (0, u "java/lang/Object"), (0, u "<init>"), (0, u "()V"), (0, .class_ 8), (0, u "java/lang/Record")] 13

def k2c0 : Code := { maxStack := 1, maxLocals := 1, code := jdk_30_method_1_code, exceptionTable := #[], attributes := #[] }
def k2m0 : Method := { name := "<init>", desc := "()V", sig := { parameters := [], returnType := none }, accessFlags := 4, code := some k2c0 }
/-- java/lang/Record -/
def k2 : Class := { plain "java/lang/Record" (some 0) with
  accessFlags := 1057
  interfaces := #[]
  cf := some (fileOf pool2 7 #[] #[{ accessFlags := 4, nameIndex := 5, descriptorIndex := 6, attributes := #[] }] 1057 2 #[] #[])
  fields := #[]
  methods := #[k2m0]
  instanceTypes := #[]
  staticTypes := #[]
  resolved := Array.replicate 22 none
  statics := none }

def pool3 : Array CpInfo := pool [(1, .methodref 2 3), (0, .class_ 4), (0, .nameAndType 5 6), (0, u "java/lang/Record"), (0, u "<init>"), (0, u "()V"), (0, .fieldref 8 9), (0, .class_ 10), (0, .nameAndType 11 12), (0, u "com/example/brasswire/brasswire/service/CreatedRange"), (0, u "gt"), (0, u "Ljava/lang/Long;"), (0, .fieldref 8 14), (0, .nameAndType 15 12), (0, u "gte"), (0, .fieldref 8 17), (0, .nameAndType 18 12), (0, u "lt"), (0, .fieldref 8 20), (0, .nameAndType 21 12), (0, u "lte"), (0, .methodref 23 24), (0, .class_ 25), (0, .nameAndType 26 27), (0, u "java/lang/Long"), (0, u "valueOf"), (0, u "(J)Ljava/lang/Long;"), (0, .methodref 8 29), (0, .nameAndType 5 30), (0, u "(Ljava/lang/Long;Ljava/lang/Long;Ljava/lang/Long;Ljava/lang/Long;)V"), (36, u "ANY"), (0, u "Lcom/example/brasswire/brasswire/service/CreatedRange;"), (3, u "at"), (0, u "(J)Lcom/example/brasswire/brasswire/service/CreatedRange;"), (6, u "()Ljava/lang/Long;")] 27

def k3c0 : Code := { maxStack := 2, maxLocals := 5, code := prog_18_method_1_code, exceptionTable := #[], attributes := #[] }
def k3m0 : Method := { name := "<init>", desc := "(Ljava/lang/Long;Ljava/lang/Long;Ljava/lang/Long;Ljava/lang/Long;)V", sig := { parameters := [(.object "java/lang/Long"), (.object "java/lang/Long"), (.object "java/lang/Long"), (.object "java/lang/Long")], returnType := none }, accessFlags := 1, code := some k3c0 }
def k3c1 : Code := { maxStack := 7, maxLocals := 2, code := prog_18_method_2_code, exceptionTable := #[], attributes := #[] }
def k3m1 : Method := { name := "at", desc := "(J)Lcom/example/brasswire/brasswire/service/CreatedRange;", sig := { parameters := [.long], returnType := some (.object "com/example/brasswire/brasswire/service/CreatedRange") }, accessFlags := 9, code := some k3c1 }
def k3c2 : Code := { maxStack := 1, maxLocals := 1, code := prog_18_method_9_code, exceptionTable := #[], attributes := #[] }
def k3m2 : Method := { name := "gt", desc := "()Ljava/lang/Long;", sig := { parameters := [], returnType := some (.object "java/lang/Long") }, accessFlags := 1, code := some k3c2 }
def k3c3 : Code := { maxStack := 1, maxLocals := 1, code := prog_18_method_10_code, exceptionTable := #[], attributes := #[] }
def k3m3 : Method := { name := "gte", desc := "()Ljava/lang/Long;", sig := { parameters := [], returnType := some (.object "java/lang/Long") }, accessFlags := 1, code := some k3c3 }
def k3c4 : Code := { maxStack := 1, maxLocals := 1, code := prog_18_method_11_code, exceptionTable := #[], attributes := #[] }
def k3m4 : Method := { name := "lt", desc := "()Ljava/lang/Long;", sig := { parameters := [], returnType := some (.object "java/lang/Long") }, accessFlags := 1, code := some k3c4 }
def k3c5 : Code := { maxStack := 1, maxLocals := 1, code := prog_18_method_12_code, exceptionTable := #[], attributes := #[] }
def k3m5 : Method := { name := "lte", desc := "()Ljava/lang/Long;", sig := { parameters := [], returnType := some (.object "java/lang/Long") }, accessFlags := 1, code := some k3c5 }
/-- com/example/brasswire/brasswire/service/CreatedRange -/
def k3 : Class := { plain "com/example/brasswire/brasswire/service/CreatedRange" (some 2) with
  accessFlags := 49
  interfaces := #[]
  cf := some (fileOf pool3 8 #[] #[{ accessFlags := 1, nameIndex := 5, descriptorIndex := 30, attributes := #[] }, { accessFlags := 9, nameIndex := 72, descriptorIndex := 73, attributes := #[] }, { accessFlags := 1, nameIndex := 11, descriptorIndex := 80, attributes := #[] }, { accessFlags := 1, nameIndex := 15, descriptorIndex := 80, attributes := #[] }, { accessFlags := 1, nameIndex := 18, descriptorIndex := 80, attributes := #[] }, { accessFlags := 1, nameIndex := 21, descriptorIndex := 80, attributes := #[] }] 49 2 #[] #[{ accessFlags := 18, nameIndex := 11, descriptorIndex := 12, attributes := #[] }, { accessFlags := 18, nameIndex := 15, descriptorIndex := 12, attributes := #[] }, { accessFlags := 18, nameIndex := 18, descriptorIndex := 12, attributes := #[] }, { accessFlags := 18, nameIndex := 21, descriptorIndex := 12, attributes := #[] }, { accessFlags := 25, nameIndex := 67, descriptorIndex := 68, attributes := #[] }])
  fields := #[{ name := "gt", type := (.object "java/lang/Long"), accessFlags := 18, slot := 0, constantValue := 0 }, { name := "gte", type := (.object "java/lang/Long"), accessFlags := 18, slot := 1, constantValue := 0 }, { name := "lt", type := (.object "java/lang/Long"), accessFlags := 18, slot := 2, constantValue := 0 }, { name := "lte", type := (.object "java/lang/Long"), accessFlags := 18, slot := 3, constantValue := 0 }, { name := "ANY", type := (.object "com/example/brasswire/brasswire/service/CreatedRange"), accessFlags := 25, slot := 0, constantValue := 0 }]
  methods := #[k3m0, k3m1, k3m2, k3m3, k3m4, k3m5]
  instanceTypes := #[(.object "java/lang/Long"), (.object "java/lang/Long"), (.object "java/lang/Long"), (.object "java/lang/Long")]
  staticTypes := #[(.object "com/example/brasswire/brasswire/service/CreatedRange")]
  resolved := Array.replicate 108 none
  statics := none }

def pool4 : Array CpInfo := pool [(1, .class_ 2), (0, u "java/io/Serializable"), (0, .class_ 4), (0, u "java/lang/Object")] 2

/-- java/io/Serializable -/
def k4 : Class := { plain "java/io/Serializable" (some 0) with
  accessFlags := 1537
  interfaces := #[]
  cf := some (fileOf pool4 1 #[] #[] 1537 3 #[] #[])
  fields := #[]
  methods := #[]
  instanceTypes := #[]
  staticTypes := #[]
  resolved := Array.replicate 7 none
  statics := none }

def pool5 : Array CpInfo := pool [(1, .methodref 2 3), (0, .class_ 4), (0, .nameAndType 5 6), (0, u "java/lang/Object"), (0, u "<init>"), (0, u "()V"), (1, .class_ 10), (1, u "java/lang/Number"), (2, .class_ 14), (0, u "java/io/Serializable"), (0, u "serialVersionUID"), (0, u "J")] 20

def k5c0 : Code := { maxStack := 1, maxLocals := 1, code := jdk_18_method_1_code, exceptionTable := #[], attributes := #[] }
def k5m0 : Method := { name := "<init>", desc := "()V", sig := { parameters := [], returnType := none }, accessFlags := 1, code := some k5c0 }
/-- java/lang/Number -/
def k5 : Class := { plain "java/lang/Number" (some 0) with
  accessFlags := 1057
  interfaces := #[4]
  cf := some (fileOf pool5 8 #[] #[{ accessFlags := 1, nameIndex := 5, descriptorIndex := 6, attributes := #[] }] 1057 2 #[13] #[{ accessFlags := 26, nameIndex := 15, descriptorIndex := 16, attributes := #[] }])
  fields := #[{ name := "serialVersionUID", type := .long, accessFlags := 26, slot := 0, constantValue := 0 }]
  methods := #[k5m0]
  instanceTypes := #[]
  staticTypes := #[.long]
  resolved := Array.replicate 37 none
  statics := none }

def pool6 : Array CpInfo := pool [(1, .class_ 2), (0, u "java/lang/Comparable"), (0, .class_ 4), (0, u "java/lang/Object")] 7

/-- java/lang/Comparable -/
def k6 : Class := { plain "java/lang/Comparable" (some 0) with
  accessFlags := 1537
  interfaces := #[]
  cf := some (fileOf pool6 1 #[] #[] 1537 3 #[] #[])
  fields := #[]
  methods := #[]
  instanceTypes := #[]
  staticTypes := #[]
  resolved := Array.replicate 12 none
  statics := none }

def pool7 : Array CpInfo := pool [(1, .class_ 2), (0, u "java/lang/constant/Constable"), (0, .class_ 4), (0, u "java/lang/Object")] 6

/-- java/lang/constant/Constable -/
def k7 : Class := { plain "java/lang/constant/Constable" (some 0) with
  accessFlags := 1537
  interfaces := #[]
  cf := some (fileOf pool7 1 #[] #[] 1537 3 #[] #[])
  fields := #[]
  methods := #[]
  instanceTypes := #[]
  staticTypes := #[]
  resolved := Array.replicate 11 none
  statics := none }

def pool8 : Array CpInfo := pool [(1, .class_ 2), (0, u "java/lang/constant/ConstantDesc"), (0, .class_ 4), (0, u "java/lang/Object")] 32

/-- java/lang/constant/ConstantDesc -/
def k8 : Class := { plain "java/lang/constant/ConstantDesc" (some 0) with
  accessFlags := 1537
  interfaces := #[]
  cf := some (fileOf pool8 1 #[] #[] 1537 3 #[] #[])
  fields := #[]
  methods := #[]
  instanceTypes := #[]
  staticTypes := #[]
  resolved := Array.replicate 37 none
  statics := none }

def pool9 : Array CpInfo := pool [(1, .class_ 2), (0, u "java/lang/Long"), (55, .nameAndType 59 60), (0, u "<init>"), (0, u "()V"), (24, u "valueOf"), (143, u "(J)Ljava/lang/Long;"), (0, .long 18446744073709551488), (1, .long 127), (1, .fieldref 235 236), (0, .class_ 237), (0, .nameAndType 238 239), (0, u "java/lang/Long$LongCache"), (0, u "cache"), (0, u "[Ljava/lang/Long;"), (0, .methodref 1 241), (0, .nameAndType 59 242), (0, u "(J)V"), (27, .methodref 271 58), (0, .class_ 272), (0, u "java/lang/Number"), (0, .fieldref 1 274), (0, .nameAndType 275 276), (0, u "value"), (0, u "J"), (5, u "longValue"), (0, u "()J"), (77, u "TYPE"), (0, u "Ljava/lang/Class;"), (0, .class_ 364), (0, u "java/lang/Comparable"), (0, .class_ 366), (0, u "java/lang/constant/Constable"), (0, .class_ 368), (0, u "java/lang/constant/ConstantDesc"), (0, u "MIN_VALUE"), (1, u "MAX_VALUE"), (4, u "SIZE"), (0, u "I"), (1, u "BYTES"), (1, u "serialVersionUID")] 142

def k9c0 : Code := { maxStack := 4, maxLocals := 3, code := jdk_35_method_24_code, exceptionTable := #[], attributes := #[] }
def k9m0 : Method := { name := "valueOf", desc := "(J)Ljava/lang/Long;", sig := { parameters := [.long], returnType := some (.object "java/lang/Long") }, accessFlags := 9, code := some k9c0 }
def k9c1 : Code := { maxStack := 3, maxLocals := 3, code := jdk_35_method_26_code, exceptionTable := #[], attributes := #[] }
def k9m1 : Method := { name := "<init>", desc := "(J)V", sig := { parameters := [.long], returnType := none }, accessFlags := 1, code := some k9c1 }
def k9c2 : Code := { maxStack := 2, maxLocals := 1, code := jdk_35_method_31_code, exceptionTable := #[], attributes := #[] }
def k9m2 : Method := { name := "longValue", desc := "()J", sig := { parameters := [], returnType := some .long }, accessFlags := 1, code := some k9c2 }
/-- java/lang/Long -/
def k9 : Class := { plain "java/lang/Long" (some 5) with
  accessFlags := 49
  interfaces := #[6, 7, 8]
  cf := some (fileOf pool9 1 #[.nestMembers #[235]] #[{ accessFlags := 9, nameIndex := 85, descriptorIndex := 229, attributes := #[] }, { accessFlags := 1, nameIndex := 59, descriptorIndex := 242, attributes := #[] }, { accessFlags := 1, nameIndex := 282, descriptorIndex := 283, attributes := #[] }] 49 271 #[363, 365, 367] #[{ accessFlags := 25, nameIndex := 369, descriptorIndex := 276, attributes := #[] }, { accessFlags := 25, nameIndex := 371, descriptorIndex := 276, attributes := #[] }, { accessFlags := 25, nameIndex := 361, descriptorIndex := 362, attributes := #[] }, { accessFlags := 18, nameIndex := 275, descriptorIndex := 276, attributes := #[] }, { accessFlags := 25, nameIndex := 376, descriptorIndex := 377, attributes := #[] }, { accessFlags := 25, nameIndex := 379, descriptorIndex := 377, attributes := #[] }, { accessFlags := 26, nameIndex := 381, descriptorIndex := 276, attributes := #[] }])
  fields := #[{ name := "MIN_VALUE", type := .long, accessFlags := 25, slot := 0, constantValue := 0 }, { name := "MAX_VALUE", type := .long, accessFlags := 25, slot := 1, constantValue := 0 }, { name := "TYPE", type := (.object "java/lang/Class"), accessFlags := 25, slot := 2, constantValue := 0 }, { name := "value", type := .long, accessFlags := 18, slot := 0, constantValue := 0 }, { name := "SIZE", type := .int, accessFlags := 25, slot := 3, constantValue := 0 }, { name := "BYTES", type := .int, accessFlags := 25, slot := 4, constantValue := 0 }, { name := "serialVersionUID", type := .long, accessFlags := 26, slot := 5, constantValue := 0 }]
  methods := #[k9m0, k9m1, k9m2]
  instanceTypes := #[.long]
  staticTypes := #[.long, .long, (.object "java/lang/Class"), .int, .int, .long]
  resolved := Array.replicate 524 none
  statics := none }

def pool10 : Array CpInfo := pool [(2, .class_ 4), (1, u "java/lang/Object"), (0, u "<init>"), (0, u "()V"), (0, .class_ 8), (0, u "java/lang/Long"), (7, .class_ 18), (1, u "java/lang/Long$LongCache"), (0, u "$assertionsDisabled"), (0, u "Z"), (8, u "archivedCache"), (0, u "[Ljava/lang/Long;"), (7, u "cache")] 24

def k10m0 : Method := { name := "<init>", desc := "()V", sig := { parameters := [], returnType := none }, accessFlags := 2, code := none }
/-- java/lang/Long$LongCache -/
def k10 : Class := { plain "java/lang/Long$LongCache" (some 0) with
  accessFlags := 48
  interfaces := #[]
  cf := some (fileOf pool10 16 #[.nestHost 7] #[{ accessFlags := 2, nameIndex := 5, descriptorIndex := 6, attributes := #[] }] 48 2 #[] #[{ accessFlags := 24, nameIndex := 38, descriptorIndex := 30, attributes := #[] }, { accessFlags := 8, nameIndex := 29, descriptorIndex := 30, attributes := #[] }, { accessFlags := 4120, nameIndex := 19, descriptorIndex := 20, attributes := #[] }])
  fields := #[{ name := "cache", type := (.array (.object "java/lang/Long")), accessFlags := 24, slot := 0, constantValue := 0 }, { name := "archivedCache", type := (.array (.object "java/lang/Long")), accessFlags := 8, slot := 1, constantValue := 0 }, { name := "$assertionsDisabled", type := .boolean, accessFlags := 4120, slot := 2, constantValue := 0 }]
  methods := #[k10m0]
  instanceTypes := #[]
  staticTypes := #[(.array (.object "java/lang/Long")), (.array (.object "java/lang/Long")), .boolean]
  resolved := Array.replicate 63 none
  statics := some 0 }

def pool11 : Array CpInfo := pool [(1, u "java/lang/Cloneable"), (0, .class_ 1), (0, u "java/lang/Object"), (0, .class_ 3)] 3

/-- java/lang/Cloneable -/
def k11 : Class := { plain "java/lang/Cloneable" (some 0) with
  accessFlags := 1537
  interfaces := #[]
  cf := some (fileOf pool11 2 #[] #[] 1537 4 #[] #[])
  fields := #[]
  methods := #[]
  instanceTypes := #[]
  staticTypes := #[]
  resolved := Array.replicate 8 none
  statics := none }

/-- the primitive byte -/
def k12 : Class := { plain "byte" none with kind := .primitive 'B', accessFlags := 0x411 }
/-- [B -/
def k13 : Class := { plain "[B" (some 0) with kind := .array 12 .byte, interfaces := #[11, 4], accessFlags := 1041 }

/-- the primitive int -/
def k14 : Class := { plain "int" none with kind := .primitive 'I', accessFlags := 0x411 }
/-- [I -/
def k15 : Class := { plain "[I" (some 0) with kind := .array 14 .int, interfaces := #[11, 4], accessFlags := 1041 }

/-- [Ljava/lang/Long; -/
def k16 : Class := { plain "[Ljava/lang/Long;" (some 0) with kind := .array 9 (.object "java/lang/Long"), interfaces := #[11, 4], accessFlags := 1041 }

def heap : Heap := #[{ cls := 10, slots := #[.ref 1, .null, .int 0], vm := .statics 10 },
  { cls := 16, slots := #[.ref 2, .ref 3, .ref 4, .ref 5, .ref 6, .ref 7, .ref 8, .ref 9, .ref 10, .ref 11, .ref 12, .ref 13, .ref 14, .ref 15, .ref 16, .ref 17, .ref 18, .ref 19, .ref 20, .ref 21, .ref 22, .ref 23, .ref 24, .ref 25, .ref 26, .ref 27, .ref 28, .ref 29, .ref 30, .ref 31, .ref 32, .ref 33, .ref 34, .ref 35, .ref 36, .ref 37, .ref 38, .ref 39, .ref 40, .ref 41, .ref 42, .ref 43, .ref 44, .ref 45, .ref 46, .ref 47, .ref 48, .ref 49, .ref 50, .ref 51, .ref 52, .ref 53, .ref 54, .ref 55, .ref 56, .ref 57, .ref 58, .ref 59, .ref 60, .ref 61, .ref 62, .ref 63, .ref 64, .ref 65, .ref 66, .ref 67, .ref 68, .ref 69, .ref 70, .ref 71, .ref 72, .ref 73, .ref 74, .ref 75, .ref 76, .ref 77, .ref 78, .ref 79, .ref 80, .ref 81, .ref 82, .ref 83, .ref 84, .ref 85, .ref 86, .ref 87, .ref 88, .ref 89, .ref 90, .ref 91, .ref 92, .ref 93, .ref 94, .ref 95, .ref 96, .ref 97, .ref 98, .ref 99, .ref 100, .ref 101, .ref 102, .ref 103, .ref 104, .ref 105, .ref 106, .ref 107, .ref 108, .ref 109, .ref 110, .ref 111, .ref 112, .ref 113, .ref 114, .ref 115, .ref 116, .ref 117, .ref 118, .ref 119, .ref 120, .ref 121, .ref 122, .ref 123, .ref 124, .ref 125, .ref 126, .ref 127, .ref 128, .ref 129, .ref 130, .ref 131, .ref 132, .ref 133, .ref 134, .ref 135, .ref 136, .ref 137, .ref 138, .ref 139, .ref 140, .ref 141, .ref 142, .ref 143, .ref 144, .ref 145, .ref 146, .ref 147, .ref 148, .ref 149, .ref 150, .ref 151, .ref 152, .ref 153, .ref 154, .ref 155, .ref 156, .ref 157, .ref 158, .ref 159, .ref 160, .ref 161, .ref 162, .ref 163, .ref 164, .ref 165, .ref 166, .ref 167, .ref 168, .ref 169, .ref 170, .ref 171, .ref 172, .ref 173, .ref 174, .ref 175, .ref 176, .ref 177, .ref 178, .ref 179, .ref 180, .ref 181, .ref 182, .ref 183, .ref 184, .ref 185, .ref 186, .ref 187, .ref 188, .ref 189, .ref 190, .ref 191, .ref 192, .ref 193, .ref 194, .ref 195, .ref 196, .ref 197, .ref 198, .ref 199, .ref 200, .ref 201, .ref 202, .ref 203, .ref 204, .ref 205, .ref 206, .ref 207, .ref 208, .ref 209, .ref 210, .ref 211, .ref 212, .ref 213, .ref 214, .ref 215, .ref 216, .ref 217, .ref 218, .ref 219, .ref 220, .ref 221, .ref 222, .ref 223, .ref 224, .ref 225, .ref 226, .ref 227, .ref 228, .ref 229, .ref 230, .ref 231, .ref 232, .ref 233, .ref 234, .ref 235, .ref 236, .ref 237, .ref 238, .ref 239, .ref 240, .ref 241, .ref 242, .ref 243, .ref 244, .ref 245, .ref 246, .ref 247, .ref 248, .ref 249, .ref 250, .ref 251, .ref 252, .ref 253, .ref 254, .ref 255, .ref 256, .ref 257], vm := .none },
  { cls := 9, slots := #[.long (-128)], vm := .none },
  { cls := 9, slots := #[.long (-127)], vm := .none },
  { cls := 9, slots := #[.long (-126)], vm := .none },
  { cls := 9, slots := #[.long (-125)], vm := .none },
  { cls := 9, slots := #[.long (-124)], vm := .none },
  { cls := 9, slots := #[.long (-123)], vm := .none },
  { cls := 9, slots := #[.long (-122)], vm := .none },
  { cls := 9, slots := #[.long (-121)], vm := .none },
  { cls := 9, slots := #[.long (-120)], vm := .none },
  { cls := 9, slots := #[.long (-119)], vm := .none },
  { cls := 9, slots := #[.long (-118)], vm := .none },
  { cls := 9, slots := #[.long (-117)], vm := .none },
  { cls := 9, slots := #[.long (-116)], vm := .none },
  { cls := 9, slots := #[.long (-115)], vm := .none },
  { cls := 9, slots := #[.long (-114)], vm := .none },
  { cls := 9, slots := #[.long (-113)], vm := .none },
  { cls := 9, slots := #[.long (-112)], vm := .none },
  { cls := 9, slots := #[.long (-111)], vm := .none },
  { cls := 9, slots := #[.long (-110)], vm := .none },
  { cls := 9, slots := #[.long (-109)], vm := .none },
  { cls := 9, slots := #[.long (-108)], vm := .none },
  { cls := 9, slots := #[.long (-107)], vm := .none },
  { cls := 9, slots := #[.long (-106)], vm := .none },
  { cls := 9, slots := #[.long (-105)], vm := .none },
  { cls := 9, slots := #[.long (-104)], vm := .none },
  { cls := 9, slots := #[.long (-103)], vm := .none },
  { cls := 9, slots := #[.long (-102)], vm := .none },
  { cls := 9, slots := #[.long (-101)], vm := .none },
  { cls := 9, slots := #[.long (-100)], vm := .none },
  { cls := 9, slots := #[.long (-99)], vm := .none },
  { cls := 9, slots := #[.long (-98)], vm := .none },
  { cls := 9, slots := #[.long (-97)], vm := .none },
  { cls := 9, slots := #[.long (-96)], vm := .none },
  { cls := 9, slots := #[.long (-95)], vm := .none },
  { cls := 9, slots := #[.long (-94)], vm := .none },
  { cls := 9, slots := #[.long (-93)], vm := .none },
  { cls := 9, slots := #[.long (-92)], vm := .none },
  { cls := 9, slots := #[.long (-91)], vm := .none },
  { cls := 9, slots := #[.long (-90)], vm := .none },
  { cls := 9, slots := #[.long (-89)], vm := .none },
  { cls := 9, slots := #[.long (-88)], vm := .none },
  { cls := 9, slots := #[.long (-87)], vm := .none },
  { cls := 9, slots := #[.long (-86)], vm := .none },
  { cls := 9, slots := #[.long (-85)], vm := .none },
  { cls := 9, slots := #[.long (-84)], vm := .none },
  { cls := 9, slots := #[.long (-83)], vm := .none },
  { cls := 9, slots := #[.long (-82)], vm := .none },
  { cls := 9, slots := #[.long (-81)], vm := .none },
  { cls := 9, slots := #[.long (-80)], vm := .none },
  { cls := 9, slots := #[.long (-79)], vm := .none },
  { cls := 9, slots := #[.long (-78)], vm := .none },
  { cls := 9, slots := #[.long (-77)], vm := .none },
  { cls := 9, slots := #[.long (-76)], vm := .none },
  { cls := 9, slots := #[.long (-75)], vm := .none },
  { cls := 9, slots := #[.long (-74)], vm := .none },
  { cls := 9, slots := #[.long (-73)], vm := .none },
  { cls := 9, slots := #[.long (-72)], vm := .none },
  { cls := 9, slots := #[.long (-71)], vm := .none },
  { cls := 9, slots := #[.long (-70)], vm := .none },
  { cls := 9, slots := #[.long (-69)], vm := .none },
  { cls := 9, slots := #[.long (-68)], vm := .none },
  { cls := 9, slots := #[.long (-67)], vm := .none },
  { cls := 9, slots := #[.long (-66)], vm := .none },
  { cls := 9, slots := #[.long (-65)], vm := .none },
  { cls := 9, slots := #[.long (-64)], vm := .none },
  { cls := 9, slots := #[.long (-63)], vm := .none },
  { cls := 9, slots := #[.long (-62)], vm := .none },
  { cls := 9, slots := #[.long (-61)], vm := .none },
  { cls := 9, slots := #[.long (-60)], vm := .none },
  { cls := 9, slots := #[.long (-59)], vm := .none },
  { cls := 9, slots := #[.long (-58)], vm := .none },
  { cls := 9, slots := #[.long (-57)], vm := .none },
  { cls := 9, slots := #[.long (-56)], vm := .none },
  { cls := 9, slots := #[.long (-55)], vm := .none },
  { cls := 9, slots := #[.long (-54)], vm := .none },
  { cls := 9, slots := #[.long (-53)], vm := .none },
  { cls := 9, slots := #[.long (-52)], vm := .none },
  { cls := 9, slots := #[.long (-51)], vm := .none },
  { cls := 9, slots := #[.long (-50)], vm := .none },
  { cls := 9, slots := #[.long (-49)], vm := .none },
  { cls := 9, slots := #[.long (-48)], vm := .none },
  { cls := 9, slots := #[.long (-47)], vm := .none },
  { cls := 9, slots := #[.long (-46)], vm := .none },
  { cls := 9, slots := #[.long (-45)], vm := .none },
  { cls := 9, slots := #[.long (-44)], vm := .none },
  { cls := 9, slots := #[.long (-43)], vm := .none },
  { cls := 9, slots := #[.long (-42)], vm := .none },
  { cls := 9, slots := #[.long (-41)], vm := .none },
  { cls := 9, slots := #[.long (-40)], vm := .none },
  { cls := 9, slots := #[.long (-39)], vm := .none },
  { cls := 9, slots := #[.long (-38)], vm := .none },
  { cls := 9, slots := #[.long (-37)], vm := .none },
  { cls := 9, slots := #[.long (-36)], vm := .none },
  { cls := 9, slots := #[.long (-35)], vm := .none },
  { cls := 9, slots := #[.long (-34)], vm := .none },
  { cls := 9, slots := #[.long (-33)], vm := .none },
  { cls := 9, slots := #[.long (-32)], vm := .none },
  { cls := 9, slots := #[.long (-31)], vm := .none },
  { cls := 9, slots := #[.long (-30)], vm := .none },
  { cls := 9, slots := #[.long (-29)], vm := .none },
  { cls := 9, slots := #[.long (-28)], vm := .none },
  { cls := 9, slots := #[.long (-27)], vm := .none },
  { cls := 9, slots := #[.long (-26)], vm := .none },
  { cls := 9, slots := #[.long (-25)], vm := .none },
  { cls := 9, slots := #[.long (-24)], vm := .none },
  { cls := 9, slots := #[.long (-23)], vm := .none },
  { cls := 9, slots := #[.long (-22)], vm := .none },
  { cls := 9, slots := #[.long (-21)], vm := .none },
  { cls := 9, slots := #[.long (-20)], vm := .none },
  { cls := 9, slots := #[.long (-19)], vm := .none },
  { cls := 9, slots := #[.long (-18)], vm := .none },
  { cls := 9, slots := #[.long (-17)], vm := .none },
  { cls := 9, slots := #[.long (-16)], vm := .none },
  { cls := 9, slots := #[.long (-15)], vm := .none },
  { cls := 9, slots := #[.long (-14)], vm := .none },
  { cls := 9, slots := #[.long (-13)], vm := .none },
  { cls := 9, slots := #[.long (-12)], vm := .none },
  { cls := 9, slots := #[.long (-11)], vm := .none },
  { cls := 9, slots := #[.long (-10)], vm := .none },
  { cls := 9, slots := #[.long (-9)], vm := .none },
  { cls := 9, slots := #[.long (-8)], vm := .none },
  { cls := 9, slots := #[.long (-7)], vm := .none },
  { cls := 9, slots := #[.long (-6)], vm := .none },
  { cls := 9, slots := #[.long (-5)], vm := .none },
  { cls := 9, slots := #[.long (-4)], vm := .none },
  { cls := 9, slots := #[.long (-3)], vm := .none },
  { cls := 9, slots := #[.long (-2)], vm := .none },
  { cls := 9, slots := #[.long (-1)], vm := .none },
  { cls := 9, slots := #[.long (0)], vm := .none },
  { cls := 9, slots := #[.long (1)], vm := .none },
  { cls := 9, slots := #[.long (2)], vm := .none },
  { cls := 9, slots := #[.long (3)], vm := .none },
  { cls := 9, slots := #[.long (4)], vm := .none },
  { cls := 9, slots := #[.long (5)], vm := .none },
  { cls := 9, slots := #[.long (6)], vm := .none },
  { cls := 9, slots := #[.long (7)], vm := .none },
  { cls := 9, slots := #[.long (8)], vm := .none },
  { cls := 9, slots := #[.long (9)], vm := .none },
  { cls := 9, slots := #[.long (10)], vm := .none },
  { cls := 9, slots := #[.long (11)], vm := .none },
  { cls := 9, slots := #[.long (12)], vm := .none },
  { cls := 9, slots := #[.long (13)], vm := .none },
  { cls := 9, slots := #[.long (14)], vm := .none },
  { cls := 9, slots := #[.long (15)], vm := .none },
  { cls := 9, slots := #[.long (16)], vm := .none },
  { cls := 9, slots := #[.long (17)], vm := .none },
  { cls := 9, slots := #[.long (18)], vm := .none },
  { cls := 9, slots := #[.long (19)], vm := .none },
  { cls := 9, slots := #[.long (20)], vm := .none },
  { cls := 9, slots := #[.long (21)], vm := .none },
  { cls := 9, slots := #[.long (22)], vm := .none },
  { cls := 9, slots := #[.long (23)], vm := .none },
  { cls := 9, slots := #[.long (24)], vm := .none },
  { cls := 9, slots := #[.long (25)], vm := .none },
  { cls := 9, slots := #[.long (26)], vm := .none },
  { cls := 9, slots := #[.long (27)], vm := .none },
  { cls := 9, slots := #[.long (28)], vm := .none },
  { cls := 9, slots := #[.long (29)], vm := .none },
  { cls := 9, slots := #[.long (30)], vm := .none },
  { cls := 9, slots := #[.long (31)], vm := .none },
  { cls := 9, slots := #[.long (32)], vm := .none },
  { cls := 9, slots := #[.long (33)], vm := .none },
  { cls := 9, slots := #[.long (34)], vm := .none },
  { cls := 9, slots := #[.long (35)], vm := .none },
  { cls := 9, slots := #[.long (36)], vm := .none },
  { cls := 9, slots := #[.long (37)], vm := .none },
  { cls := 9, slots := #[.long (38)], vm := .none },
  { cls := 9, slots := #[.long (39)], vm := .none },
  { cls := 9, slots := #[.long (40)], vm := .none },
  { cls := 9, slots := #[.long (41)], vm := .none },
  { cls := 9, slots := #[.long (42)], vm := .none },
  { cls := 9, slots := #[.long (43)], vm := .none },
  { cls := 9, slots := #[.long (44)], vm := .none },
  { cls := 9, slots := #[.long (45)], vm := .none },
  { cls := 9, slots := #[.long (46)], vm := .none },
  { cls := 9, slots := #[.long (47)], vm := .none },
  { cls := 9, slots := #[.long (48)], vm := .none },
  { cls := 9, slots := #[.long (49)], vm := .none },
  { cls := 9, slots := #[.long (50)], vm := .none },
  { cls := 9, slots := #[.long (51)], vm := .none },
  { cls := 9, slots := #[.long (52)], vm := .none },
  { cls := 9, slots := #[.long (53)], vm := .none },
  { cls := 9, slots := #[.long (54)], vm := .none },
  { cls := 9, slots := #[.long (55)], vm := .none },
  { cls := 9, slots := #[.long (56)], vm := .none },
  { cls := 9, slots := #[.long (57)], vm := .none },
  { cls := 9, slots := #[.long (58)], vm := .none },
  { cls := 9, slots := #[.long (59)], vm := .none },
  { cls := 9, slots := #[.long (60)], vm := .none },
  { cls := 9, slots := #[.long (61)], vm := .none },
  { cls := 9, slots := #[.long (62)], vm := .none },
  { cls := 9, slots := #[.long (63)], vm := .none },
  { cls := 9, slots := #[.long (64)], vm := .none },
  { cls := 9, slots := #[.long (65)], vm := .none },
  { cls := 9, slots := #[.long (66)], vm := .none },
  { cls := 9, slots := #[.long (67)], vm := .none },
  { cls := 9, slots := #[.long (68)], vm := .none },
  { cls := 9, slots := #[.long (69)], vm := .none },
  { cls := 9, slots := #[.long (70)], vm := .none },
  { cls := 9, slots := #[.long (71)], vm := .none },
  { cls := 9, slots := #[.long (72)], vm := .none },
  { cls := 9, slots := #[.long (73)], vm := .none },
  { cls := 9, slots := #[.long (74)], vm := .none },
  { cls := 9, slots := #[.long (75)], vm := .none },
  { cls := 9, slots := #[.long (76)], vm := .none },
  { cls := 9, slots := #[.long (77)], vm := .none },
  { cls := 9, slots := #[.long (78)], vm := .none },
  { cls := 9, slots := #[.long (79)], vm := .none },
  { cls := 9, slots := #[.long (80)], vm := .none },
  { cls := 9, slots := #[.long (81)], vm := .none },
  { cls := 9, slots := #[.long (82)], vm := .none },
  { cls := 9, slots := #[.long (83)], vm := .none },
  { cls := 9, slots := #[.long (84)], vm := .none },
  { cls := 9, slots := #[.long (85)], vm := .none },
  { cls := 9, slots := #[.long (86)], vm := .none },
  { cls := 9, slots := #[.long (87)], vm := .none },
  { cls := 9, slots := #[.long (88)], vm := .none },
  { cls := 9, slots := #[.long (89)], vm := .none },
  { cls := 9, slots := #[.long (90)], vm := .none },
  { cls := 9, slots := #[.long (91)], vm := .none },
  { cls := 9, slots := #[.long (92)], vm := .none },
  { cls := 9, slots := #[.long (93)], vm := .none },
  { cls := 9, slots := #[.long (94)], vm := .none },
  { cls := 9, slots := #[.long (95)], vm := .none },
  { cls := 9, slots := #[.long (96)], vm := .none },
  { cls := 9, slots := #[.long (97)], vm := .none },
  { cls := 9, slots := #[.long (98)], vm := .none },
  { cls := 9, slots := #[.long (99)], vm := .none },
  { cls := 9, slots := #[.long (100)], vm := .none },
  { cls := 9, slots := #[.long (101)], vm := .none },
  { cls := 9, slots := #[.long (102)], vm := .none },
  { cls := 9, slots := #[.long (103)], vm := .none },
  { cls := 9, slots := #[.long (104)], vm := .none },
  { cls := 9, slots := #[.long (105)], vm := .none },
  { cls := 9, slots := #[.long (106)], vm := .none },
  { cls := 9, slots := #[.long (107)], vm := .none },
  { cls := 9, slots := #[.long (108)], vm := .none },
  { cls := 9, slots := #[.long (109)], vm := .none },
  { cls := 9, slots := #[.long (110)], vm := .none },
  { cls := 9, slots := #[.long (111)], vm := .none },
  { cls := 9, slots := #[.long (112)], vm := .none },
  { cls := 9, slots := #[.long (113)], vm := .none },
  { cls := 9, slots := #[.long (114)], vm := .none },
  { cls := 9, slots := #[.long (115)], vm := .none },
  { cls := 9, slots := #[.long (116)], vm := .none },
  { cls := 9, slots := #[.long (117)], vm := .none },
  { cls := 9, slots := #[.long (118)], vm := .none },
  { cls := 9, slots := #[.long (119)], vm := .none },
  { cls := 9, slots := #[.long (120)], vm := .none },
  { cls := 9, slots := #[.long (121)], vm := .none },
  { cls := 9, slots := #[.long (122)], vm := .none },
  { cls := 9, slots := #[.long (123)], vm := .none },
  { cls := 9, slots := #[.long (124)], vm := .none },
  { cls := 9, slots := #[.long (125)], vm := .none },
  { cls := 9, slots := #[.long (126)], vm := .none },
  { cls := 9, slots := #[.long (127)], vm := .none }]
def classes : Array Class := #[k0, k1, k2, k3, k4, k5, k6, k7, k8, k9, k10, k11, k12, k13, k14, k15, k16]
def interned : List (Array UInt16 × Addr) := []
def slotsUsed : Nat := 515
def theMethod : MethodId := ⟨1, 2⟩
def args0 : Array Value := #[.long 5, .long 7, .int 3]
def aboutOver (below : List Frame) : State where
  vm := { classes := classes, interned := interned.toArray }
  heap := heap
  slotsUsed := slotsUsed
  threads := #[{ frames := .invoking theMethod args0 :: below }]
def below0 : List Frame := [.native { method := ⟨0, 0⟩, args := #[] }]
def about1 : State := aboutOver below0
def p0 : Program := .bare "" "" ""
def e0 : Env := launch0.env 0 0 0
theorem w_frames : about1.frames = Frame.invoking theMethod args0 :: below0 := rfl
set_option maxRecDepth 65536 in
theorem w_args : argsFit about1.vm theMethod args0 = true := by decide +kernel
set_option maxRecDepth 65536 in
theorem w_heap : heapFits about1 = true := by decide +kernel
set_option maxRecDepth 65536 in
theorem w_runnable : about1.curStatus? = some .runnable := by decide +kernel
set_option maxRecDepth 65536 in
theorem w_alone : about1.alone = true := by decide +kernel
set_option maxRecDepth 65536 in
theorem w_named : about1.methodNamed? x = some theMethod := by decide +kernel
set_option maxRecDepth 65536 in
theorem w_hears : about1.hears theMethod below0 = true := by decide +kernel
set_option maxRecDepth 65536 in
theorem w_ripe : about1.ripe theMethod args0 below0 = true := by decide +kernel
theorem w_running : about1.status = .running := rfl
set_option maxRecDepth 65536 in
theorem w_room : about1.hasRoom e0.platform room_1 = true :=
  launch0.hasRoom_least _ room_1 (by decide +kernel) (by decide +kernel) (by decide +kernel) (by decide +kernel) (by decide +kernel) (by decide +kernel)
theorem allAtoms_all (ts : List Jvm.Cond) (a : Array Jvm.Value) (st : Jvm.State) : (allAtoms ts).before a st = ts.all (fun c => c.before a st) := by
  induction ts with
  | nil => rfl
  | cons c t ih =>
    show (Jvm.Cond.and c (allAtoms t)).before a st = _
    rw [Jvm.Cond.before_and, ih, List.all_cons]
def words1 : List Jvm.Cond := Jvm.Cond.code x code maxLocals ret :: tables_1
/-- a 'code' word, met by the world's own term for the bytes: nothing is compared byte by byte -/
theorem code_word {y : MethodName} {bytes : ByteArray} {mx : Nat} {rt : Option FieldType} {a : Array Value} {s : State} {m : MethodId} {meth : Method} {c : Code} (h1 : s.methodNamed? y = some m) (h2 : s.vm.method? m = some meth) (h3 : meth.code = some c) (h4 : c.code = bytes)
    (h5 : (c.maxLocals == mx && c.exceptionTable.isEmpty && decide (c.maxStack ≤ mostOperands) && decide (meth.sig.returnType = rt) && !meth.locks && decide (parseMethodDescriptor y.desc = some meth.sig)) = true) : (Jvm.Cond.code y bytes mx rt).before a s = true := by
  simp only [Bool.and_eq_true, beq_iff_eq, Bool.not_eq_true', decide_eq_true_eq] at h5
  obtain ⟨⟨⟨⟨⟨g1, g2⟩, g3⟩, g4⟩, g5⟩, g6⟩ := h5
  simp [Cond.before, Cond.holds, Cond.value, h1, h2, h3, h4, g1, g2, g3, g4, g5, g6]
def isCode : Jvm.Cond → Bool
  | .code _ _ _ _ => true
  | _ => false
theorem all_split {L : List Jvm.Cond} {P : Jvm.Cond → Bool} (h1 : L.all (fun c => isCode c || P c) = true) (h2 : ∀ c ∈ L.filter isCode, P c = true) : L.all P = true := by
  refine List.all_eq_true.mpr fun c hc => ?_
  have h := List.all_eq_true.mp h1 c hc
  rcases Bool.eq_false_or_eq_true (isCode c) with hi | hi
  · exact h2 c (List.mem_filter.mpr ⟨hc, hi⟩)
  · simpa [hi] using h
set_option maxRecDepth 65536 in
theorem w_c0 : (Jvm.Cond.code x code maxLocals ret).before args0 about1 = true := code_word (m := ⟨1, 2⟩) (meth := k1m2) (c := k1c2) (by decide +kernel) rfl rfl rfl (by decide +kernel)
set_option maxRecDepth 65536 in
theorem w_c1 : (Jvm.Cond.code ({ cls := "com/example/brasswire/brasswire/service/CreatedRange", name := "at", desc := "(J)Lcom/example/brasswire/brasswire/service/CreatedRange;" } : Jvm.MethodName) prog_18_method_2_code (2 : Nat) (Option.some (Jvm.ClassFile.FieldType.object "com/example/brasswire/brasswire/service/CreatedRange"))).before args0 about1 = true := code_word (m := ⟨3, 1⟩) (meth := k3m1) (c := k3c1) (by decide +kernel) rfl rfl rfl (by decide +kernel)
set_option maxRecDepth 65536 in
theorem w_c2 : (Jvm.Cond.code ({ cls := "java/lang/Long", name := "valueOf", desc := "(J)Ljava/lang/Long;" } : Jvm.MethodName) jdk_35_method_24_code (3 : Nat) (Option.some (Jvm.ClassFile.FieldType.object "java/lang/Long"))).before args0 about1 = true := code_word (m := ⟨9, 0⟩) (meth := k9m0) (c := k9c0) (by decide +kernel) rfl rfl rfl (by decide +kernel)
set_option maxRecDepth 65536 in
theorem w_c3 : (Jvm.Cond.code ({ cls := "com/example/brasswire/brasswire/service/CreatedRange", name := "<init>", desc := "(Ljava/lang/Long;Ljava/lang/Long;Ljava/lang/Long;Ljava/lang/Long;)V" } : Jvm.MethodName) prog_18_method_1_code (5 : Nat) (Option.none : Option Jvm.ClassFile.FieldType)).before args0 about1 = true := code_word (m := ⟨3, 0⟩) (meth := k3m0) (c := k3c0) (by decide +kernel) rfl rfl rfl (by decide +kernel)
set_option maxRecDepth 65536 in
theorem w_c4 : (Jvm.Cond.code ({ cls := "java/lang/Record", name := "<init>", desc := "()V" } : Jvm.MethodName) jdk_30_method_1_code (1 : Nat) (Option.none : Option Jvm.ClassFile.FieldType)).before args0 about1 = true := code_word (m := ⟨2, 0⟩) (meth := k2m0) (c := k2c0) (by decide +kernel) rfl rfl rfl (by decide +kernel)
set_option maxRecDepth 65536 in
theorem w_c5 : (Jvm.Cond.code ({ cls := "java/lang/Object", name := "<init>", desc := "()V" } : Jvm.MethodName) object_method_1_code (1 : Nat) (Option.none : Option Jvm.ClassFile.FieldType)).before args0 about1 = true := code_word (m := ⟨0, 0⟩) (meth := k0m0) (c := k0c0) (by decide +kernel) rfl rfl rfl (by decide +kernel)
set_option maxRecDepth 65536 in
theorem w_c6 : (Jvm.Cond.code ({ cls := "com/example/brasswire/brasswire/service/CreatedRangeAtPinLaw", name := "keeps", desc := "(Lcom/example/brasswire/brasswire/service/CreatedRange;J)Z" } : Jvm.MethodName) method_2_code (7 : Nat) (Option.some Jvm.ClassFile.FieldType.boolean)).before args0 about1 = true := code_word (m := ⟨1, 1⟩) (meth := k1m1) (c := k1c1) (by decide +kernel) rfl rfl rfl (by decide +kernel)
set_option maxRecDepth 65536 in
theorem w_c7 : (Jvm.Cond.code ({ cls := "com/example/brasswire/brasswire/service/CreatedRange", name := "gt", desc := "()Ljava/lang/Long;" } : Jvm.MethodName) prog_18_method_9_code (1 : Nat) (Option.some (Jvm.ClassFile.FieldType.object "java/lang/Long"))).before args0 about1 = true := code_word (m := ⟨3, 2⟩) (meth := k3m2) (c := k3c2) (by decide +kernel) rfl rfl rfl (by decide +kernel)
set_option maxRecDepth 65536 in
theorem w_c8 : (Jvm.Cond.code ({ cls := "com/example/brasswire/brasswire/service/CreatedRange", name := "gte", desc := "()Ljava/lang/Long;" } : Jvm.MethodName) prog_18_method_10_code (1 : Nat) (Option.some (Jvm.ClassFile.FieldType.object "java/lang/Long"))).before args0 about1 = true := code_word (m := ⟨3, 3⟩) (meth := k3m3) (c := k3c3) (by decide +kernel) rfl rfl rfl (by decide +kernel)
set_option maxRecDepth 65536 in
theorem w_c9 : (Jvm.Cond.code ({ cls := "java/lang/Long", name := "longValue", desc := "()J" } : Jvm.MethodName) jdk_35_method_31_code (1 : Nat) (Option.some Jvm.ClassFile.FieldType.long)).before args0 about1 = true := code_word (m := ⟨9, 2⟩) (meth := k9m2) (c := k9c2) (by decide +kernel) rfl rfl rfl (by decide +kernel)
set_option maxRecDepth 65536 in
theorem w_c10 : (Jvm.Cond.code ({ cls := "com/example/brasswire/brasswire/service/CreatedRange", name := "lt", desc := "()Ljava/lang/Long;" } : Jvm.MethodName) prog_18_method_11_code (1 : Nat) (Option.some (Jvm.ClassFile.FieldType.object "java/lang/Long"))).before args0 about1 = true := code_word (m := ⟨3, 4⟩) (meth := k3m4) (c := k3c4) (by decide +kernel) rfl rfl rfl (by decide +kernel)
set_option maxRecDepth 65536 in
theorem w_c11 : (Jvm.Cond.code ({ cls := "com/example/brasswire/brasswire/service/CreatedRange", name := "lte", desc := "()Ljava/lang/Long;" } : Jvm.MethodName) prog_18_method_12_code (1 : Nat) (Option.some (Jvm.ClassFile.FieldType.object "java/lang/Long"))).before args0 about1 = true := code_word (m := ⟨3, 5⟩) (meth := k3m5) (c := k3c5) (by decide +kernel) rfl rfl rfl (by decide +kernel)
set_option maxRecDepth 65536 in
theorem w_c12 : (Jvm.Cond.code ({ cls := "java/lang/Long", name := "<init>", desc := "(J)V" } : Jvm.MethodName) jdk_35_method_26_code (3 : Nat) (Option.none : Option Jvm.ClassFile.FieldType)).before args0 about1 = true := code_word (m := ⟨9, 1⟩) (meth := k9m1) (c := k9c1) (by decide +kernel) rfl rfl rfl (by decide +kernel)
set_option maxRecDepth 65536 in
theorem w_c13 : (Jvm.Cond.code ({ cls := "java/lang/Number", name := "<init>", desc := "()V" } : Jvm.MethodName) jdk_18_method_1_code (1 : Nat) (Option.none : Option Jvm.ClassFile.FieldType)).before args0 about1 = true := code_word (m := ⟨5, 0⟩) (meth := k5m0) (c := k5c0) (by decide +kernel) rfl rfl rfl (by decide +kernel)
def codes1 : List Jvm.Cond := [Jvm.Cond.code x code maxLocals ret, Jvm.Cond.code ({ cls := "com/example/brasswire/brasswire/service/CreatedRange", name := "at", desc := "(J)Lcom/example/brasswire/brasswire/service/CreatedRange;" } : Jvm.MethodName) prog_18_method_2_code (2 : Nat) (Option.some (Jvm.ClassFile.FieldType.object "com/example/brasswire/brasswire/service/CreatedRange")), Jvm.Cond.code ({ cls := "java/lang/Long", name := "valueOf", desc := "(J)Ljava/lang/Long;" } : Jvm.MethodName) jdk_35_method_24_code (3 : Nat) (Option.some (Jvm.ClassFile.FieldType.object "java/lang/Long")), Jvm.Cond.code ({ cls := "com/example/brasswire/brasswire/service/CreatedRange", name := "<init>", desc := "(Ljava/lang/Long;Ljava/lang/Long;Ljava/lang/Long;Ljava/lang/Long;)V" } : Jvm.MethodName) prog_18_method_1_code (5 : Nat) (Option.none : Option Jvm.ClassFile.FieldType), Jvm.Cond.code ({ cls := "java/lang/Record", name := "<init>", desc := "()V" } : Jvm.MethodName) jdk_30_method_1_code (1 : Nat) (Option.none : Option Jvm.ClassFile.FieldType), Jvm.Cond.code ({ cls := "java/lang/Object", name := "<init>", desc := "()V" } : Jvm.MethodName) object_method_1_code (1 : Nat) (Option.none : Option Jvm.ClassFile.FieldType), Jvm.Cond.code ({ cls := "com/example/brasswire/brasswire/service/CreatedRangeAtPinLaw", name := "keeps", desc := "(Lcom/example/brasswire/brasswire/service/CreatedRange;J)Z" } : Jvm.MethodName) method_2_code (7 : Nat) (Option.some Jvm.ClassFile.FieldType.boolean), Jvm.Cond.code ({ cls := "com/example/brasswire/brasswire/service/CreatedRange", name := "gt", desc := "()Ljava/lang/Long;" } : Jvm.MethodName) prog_18_method_9_code (1 : Nat) (Option.some (Jvm.ClassFile.FieldType.object "java/lang/Long")), Jvm.Cond.code ({ cls := "com/example/brasswire/brasswire/service/CreatedRange", name := "gte", desc := "()Ljava/lang/Long;" } : Jvm.MethodName) prog_18_method_10_code (1 : Nat) (Option.some (Jvm.ClassFile.FieldType.object "java/lang/Long")), Jvm.Cond.code ({ cls := "java/lang/Long", name := "longValue", desc := "()J" } : Jvm.MethodName) jdk_35_method_31_code (1 : Nat) (Option.some Jvm.ClassFile.FieldType.long), Jvm.Cond.code ({ cls := "com/example/brasswire/brasswire/service/CreatedRange", name := "lt", desc := "()Ljava/lang/Long;" } : Jvm.MethodName) prog_18_method_11_code (1 : Nat) (Option.some (Jvm.ClassFile.FieldType.object "java/lang/Long")), Jvm.Cond.code ({ cls := "com/example/brasswire/brasswire/service/CreatedRange", name := "lte", desc := "()Ljava/lang/Long;" } : Jvm.MethodName) prog_18_method_12_code (1 : Nat) (Option.some (Jvm.ClassFile.FieldType.object "java/lang/Long")), Jvm.Cond.code ({ cls := "java/lang/Long", name := "<init>", desc := "(J)V" } : Jvm.MethodName) jdk_35_method_26_code (3 : Nat) (Option.none : Option Jvm.ClassFile.FieldType), Jvm.Cond.code ({ cls := "java/lang/Number", name := "<init>", desc := "()V" } : Jvm.MethodName) jdk_18_method_1_code (1 : Nat) (Option.none : Option Jvm.ClassFile.FieldType)]
set_option maxRecDepth 65536 in
theorem codes_eq : words1.filter isCode = codes1 := rfl
theorem w_codes : ∀ c ∈ words1.filter isCode, c.before args0 about1 = true := by
  rw [codes_eq]
  intro c hc
  simp only [codes1, List.mem_cons, List.not_mem_nil, or_false] at hc
  rcases hc with rfl | rfl | rfl | rfl | rfl | rfl | rfl | rfl | rfl | rfl | rfl | rfl | rfl | rfl
  · exact w_c0
  · exact w_c1
  · exact w_c2
  · exact w_c3
  · exact w_c4
  · exact w_c5
  · exact w_c6
  · exact w_c7
  · exact w_c8
  · exact w_c9
  · exact w_c10
  · exact w_c11
  · exact w_c12
  · exact w_c13
set_option maxRecDepth 65536 in
theorem w_t1 : (words1.take 24).all (fun c => isCode c || c.before args0 about1) = true := by decide +kernel
set_option maxRecDepth 65536 in
theorem w_t2 : ((words1.drop 24).take 24).all (fun c => isCode c || c.before args0 about1) = true := by decide +kernel
set_option maxRecDepth 65536 in
theorem w_t3 : (((words1.drop 24).drop 24).take 24).all (fun c => isCode c || c.before args0 about1) = true := by decide +kernel
set_option maxRecDepth 65536 in
theorem w_t4 : (((words1.drop 24).drop 24).drop 24).all (fun c => isCode c || c.before args0 about1) = true := by decide +kernel
theorem w_tables : (allAtoms (Jvm.Cond.code x code maxLocals ret :: tables_1)).before args0 about1 = true := by
  rw [allAtoms_all]
  show words1.all (fun c => c.before args0 about1) = true
  refine all_split ?_ w_codes
  rw [← List.take_append_drop 24 words1, List.all_append, w_t1, ← List.take_append_drop 24 (words1.drop 24), List.all_append, w_t2, ← List.take_append_drop 24 ((words1.drop 24).drop 24), List.all_append, w_t3, w_t4]
  rfl
set_option maxRecDepth 65536 in
theorem w_rest : rest_1_c.before args0 about1 = true := by decide +kernel
set_option maxRecDepth 65536 in
theorem w_case : (Jvm.Cond.and given_1 narrow_1).before args0 about1 = true := by decide +kernel
theorem w_applies : (headSpec (Jvm.Cond.code x code maxLocals ret :: tables_1) room_1).applies x e0.platform about1 = true :=
  (Spec.applies_iff w_frames).mpr ⟨w_running, w_runnable, w_alone, w_named, w_hears, w_ripe, w_room, w_tables⟩
theorem atStart : AtStart classFile x code maxLocals ret World_1 tables_1 room_1 Calls_1 rest_1 Pre_1 launch0 p0 e0 about1 theMethod args0 below0 :=
  ⟨lists_1, trivial, launch0.admits_env _ _ _, launch0.least_env, fairChoices_fair.cas, fairChoices_fair.clock, w_frames, w_args, w_heap, w_applies, trivial, w_rest, w_case⟩
end start1
theorem witness_1 : WitnessClaimed_1 := ⟨start1.p0, start1.e0, start1.about1, start1.theMethod, start1.args0, start1.below0, start1.atStart⟩
end Jvm.Pilot.@@N@@
