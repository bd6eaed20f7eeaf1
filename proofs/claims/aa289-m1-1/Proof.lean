import JvmDerived
import JvmDerived.Pilot.@@N@@Statement
import JvmDerived.Pilot.@@N@@Code
set_option linter.unusedVariables false
set_option linter.unusedSimpArgs false
namespace Jvm.Pilot.@@N@@
open Jvm Jvm.ClassFile Sem Op Lib Jvm.Free Jvm.Stand Jvm.LawKit Jvm.RoadKit Bundle Jvm.Pilot.@@N@@.Jvm.D
section Own
variable {p : Program} {l : Launch} {e : Env} {R : Room} {s : State} {m : MethodId} {args : Array Value} {below : List Frame} {meth : Method} {c : Code} {T : State} {locs : List Loc} {cells slots : Nat} {P : Outcome → State → Prop}
/-- from S the run comes to an end that answers -/
def own_Fin (p : Program) (e : Env) (below : List Frame) (P : Outcome → State → Prop) (S : State) : Prop := ∃ s₂ o, Steps p.tables e below S s₂ ∧ s₂.status = .running ∧ Ended s₂ below o ∧ P o s₂
def own_Ans (s : State) (Q : Option Value → Heap → List Loc → Prop) (k n : Nat) (o : Outcome) (t : State) : Prop := ∃ v L, o = .returned v ∧ Q v t.heap L ∧ FrameEnd s o t L k n
theorem own_on {A B : State} (k : ∀ t, Steps p.tables e below B t → Steps p.tables e below A t) (h : own_Fin p e below P B) : own_Fin p e below P A := by
  obtain ⟨s₂, o, h1, h2⟩ := h
  exact ⟨s₂, o, k _ h1, h2⟩
theorem own_via {A B : State} (k : Steps p.tables e below A B) (h : own_Fin p e below P B) : own_Fin p e below P A := own_on (fun _ r => k.trans r) h
theorem own_cast {g g' : JFrame} (q : g = g') (h : own_Fin p e below P (T.setTop g')) : own_Fin p e below P (T.setTop g) := q ▸ h
theorem own_ret {Q : Option Value → Heap → List Loc → Prop} {k n : Nat} (X : Stand p l e R s m args below meth c T locs cells slots) (hx : p.tables.exec = Jvm.exec) (hlk : meth.locks = false) {pc : Nat} {Ls : Array Slot} {w : Value} {t : FieldType} {i : Instr} {rest : List Value} (hret : meth.sig.returnType = some t) (hn : narrow t w = w)
    (hi : (i = .ireturn ∧ (t = .int ∨ t = .boolean ∨ t = .byte ∨ t = .char ∨ t = .short) ∧ ∃ z, w = .int z) ∨ (i = .lreturn ∧ t = .long ∧ ∃ z, w = .long z) ∨ (i = .dreturn ∧ t = .double ∧ ∃ z, w = .double z) ∨ (i = .freturn ∧ t = .float ∧ ∃ z, w = .float z) ∨ (i = .areturn ∧ t.isReference = true ∧ w.isRef = true))
    (hd : decode c.code pc = .ok (i, 1)) (hQ : Q (some w) T.heap locs) (hk : cells ≤ k) (hs : slots ≤ n) : own_Fin p e below (own_Ans s Q k n) (T.setTop (mkF m pc Ls (w :: rest))) := by
  obtain ⟨fs, hr, hrun, hended, hW, hsame⟩ := X.leave (v := some w) (fun h => by rw [hret] at h; cases h) hlk
  exact ⟨_, _, retOut X hx hret hn hi hd hr, hrun, hended, _, _, rfl, hQ, ⟨_, rfl⟩, hW, hsame.mono hk hs⟩
theorem own_retV {Q : Option Value → Heap → List Loc → Prop} {k n : Nat} (X : Stand p l e R s m args below meth c T locs cells slots) (hx : p.tables.exec = Jvm.exec) (hlk : meth.locks = false) {pc : Nat} {Ls : Array Slot} (hret : meth.sig.returnType = none)
    (hd : decode c.code pc = .ok (.return_, 1)) (hQ : Q none T.heap locs) (hk : cells ≤ k) (hs : slots ≤ n) : own_Fin p e below (own_Ans s Q k n) (T.setTop (mkF m pc Ls [])) := by
  obtain ⟨fs, hr, hrun, hended, hW, hsame⟩ := X.leave (v := none) (fun _ => rfl) hlk
  exact ⟨_, _, X.returnOut hx hret hd hr, hrun, hended, _, _, rfl, hQ, ⟨_, rfl⟩, hW, hsame.mono hk hs⟩
theorem own_b1 {P : Prop} [Decidable P] (h : P) : ¬ ((if P then (1 : Int32) else 0) = 0) := by simp [h]
theorem own_b0 {P : Prop} [Decidable P] (h : ¬ P) : (if P then (1 : Int32) else 0) = 0 := by simp [h]
theorem own_nb {P : Prop} [Decidable P] : narrow .boolean (.int (if P then (1 : Int32) else 0)) = .int (if P then (1 : Int32) else 0) := by split <;> rfl
theorem own_iI {t : FieldType} (h : t = .int ∨ t = .boolean ∨ t = .byte ∨ t = .char ∨ t = .short) {w : Value} {z : Int32} (hw : w = .int z) : ((Instr.ireturn = .ireturn ∧ (t = .int ∨ t = .boolean ∨ t = .byte ∨ t = .char ∨ t = .short) ∧ ∃ z, w = .int z) ∨ (Instr.ireturn = .lreturn ∧ t = .long ∧ ∃ z, w = .long z) ∨ (Instr.ireturn = .dreturn ∧ t = .double ∧ ∃ z, w = .double z) ∨ (Instr.ireturn = .freturn ∧ t = .float ∧ ∃ z, w = .float z) ∨ (Instr.ireturn = .areturn ∧ t.isReference = true ∧ w.isRef = true)) := Or.inl ⟨rfl, h, z, hw⟩
theorem own_ne_of {Z : State} {h : Heap} {x : Addr} (q : x < h.size) {b : Addr} (g : b = h.size) : x ≠ b := Nat.ne_of_lt (Nat.lt_of_lt_of_le q (Nat.le_of_eq g.symm))
theorem own_eqf {a0 : Array Value} {C n d : String} {t : Term} {a : Addr} {k : Int32} (ev : t.eval a0 s none [] s = some (.ref a)) (h : (Jvm.Cond.eq (.field t C n d) (.int k)).value a0 s none s [] = some true) : Fld s s.heap a C n d (.int k) := by
  obtain ⟨x, y, h1, h2, h3, -⟩ := cmp_v (Or.inl h)
  have hy : y = .int k := (Option.some.inj ((show (Term.int k).eval a0 s none [] s = some (.int k) from rfl).symm.trans h2)).symm
  subst hy
  cases x <;> simp [Kin, Value.isRef] at h3
  rename_i z
  have hz : z = k := by
    have q := h
    simp only [Cond.value, h1, show (Term.int k).eval a0 s none [] s = some (.int k) from rfl] at q
    simpa using q
  subst hz
  exact Fld.start ((fld_at ev).symm.trans h1)
theorem own_len {a0 : Array Value} {t : Term} {a : Addr} {cl : Cell} {z : Int32} (ht : t.eval a0 s none [] s = some (.ref a)) (ha : s.arrayAt? a = some cl) (h : (Term.length t).eval a0 s none [] s = some (.int z)) : cl.slots.size < 2 ^ 31 ∧ cl.slots.size.toInt32 = z := by
  by_cases hl : cl.slots.size < 2 ^ 31
  · rw [len_f ht ha hl] at h
    exact ⟨hl, by simpa using h⟩
  · have hl' : ¬ cl.slots.size < 2147483648 := hl
    simp [Term.eval, ht, ha, hl'] at h
theorem own_sub {a0 : Array Value} {t u : Term} {idx : List Nat} {x y : Int32} (h1 : t.eval a0 s none idx s = some (.int x)) (h2 : u.eval a0 s none idx s = some (.int y)) : (Term.sub t u).eval a0 s none idx s = some (.int (x - y)) := by simp [Term.eval, h1, h2]
theorem own_eqx {a0 : Array Value} {t u : Term} {b : Addr} (eu : u.eval a0 s none [] s = some (.ref b)) (h : (Jvm.Cond.eq t u).value a0 s none s [] = some true) : t.eval a0 s none [] s = some (.ref b) := by
  obtain ⟨x, y, h1, h2, h3, -⟩ := cmp_v (Or.inl h)
  cases eu.symm.trans h2
  have hr : x.isRef = true := by cases x <;> simp [Kin, Value.isRef] at h3 ⊢
  have q := gotT (eq_R h1 eu hr rfl) h
  subst q
  exact h1
theorem own_eqr {a0 : Array Value} {C n d : String} {t u : Term} {a b : Addr} (ev : t.eval a0 s none [] s = some (.ref a)) (eu : u.eval a0 s none [] s = some (.ref b)) (h : (Jvm.Cond.eq (.field t C n d) u).value a0 s none s [] = some true) : Fld s s.heap a C n d (.ref b) := by
  obtain ⟨x, y, h1, h2, h3, -⟩ := cmp_v (Or.inl h)
  cases eu.symm.trans h2
  have hr : x.isRef = true := by cases x <;> simp [Kin, Value.isRef] at h3 ⊢
  have q := gotT (eq_R h1 eu hr rfl) h
  subst q
  exact Fld.start ((fld_at ev).symm.trans h1)
end Own
theorem pn_0 : plainName "com/example/curves_to_bounds/curvestobounds/network/MultiplexingIncludesPinLaw" = true := by first | (simp [plainName, overriddenIn]; done) | decide +kernel
theorem d1_0 : decode method_2_code 0 = .ok (.iload_n 0, 1) := by decide +kernel
theorem d1_1 : decode method_2_code 1 = .ok (.iconst 1, 1) := by decide +kernel
theorem d1_2 : decode method_2_code 2 = .ok (.iand, 1) := by decide +kernel
theorem d1_3 : decode method_2_code 3 = .ok (.ifCond .ne 7, 3) := by decide +kernel
theorem d1_6 : decode method_2_code 6 = .ok (.getstatic 7, 3) := by decide +kernel
theorem d1_9 : decode method_2_code 9 = .ok (.areturn, 1) := by decide +kernel
theorem d1_10 : decode method_2_code 10 = .ok (.getstatic 13, 3) := by decide +kernel
theorem d1_13 : decode method_2_code 13 = .ok (.areturn, 1) := by decide +kernel
theorem ef_rm1 (m : MethodId) (x0 : Int32) : entryFrame m #[(.int x0)] 1 = mkF m 0 #[.val (.int x0)] [] := by first | (simp [entryFrame, mkF, argsToLocals, Value.category]; done) | rfl
def Q1 (Z : State) (p1 : Int32) (aA : Addr) (aF : Addr) (r : Addr) (h0 : Heap) (n0 : Nat) (v : Option Value) (h : Heap) (L : List Loc) : Prop := v = some (.ref r) ∧ Fr n0 L ∧ h = h0
set_option maxRecDepth 65536 in
set_option maxHeartbeats 40000000 in
theorem rm1 (l : Launch) (Z : State) (a0 : Array Value) (hw : ∀ d ∈ tables_1, d.before a0 Z = true) (ws : List Jvm.Cond) (p1 : Int32) (aA : Addr) (aF : Addr) (r : Addr) (h0 : Heap) (n0 : Nat) (Z0 : n0 ≤ h0.size) (sA : Sta Z h0 "com/example/curves_to_bounds/curvestobounds/network/Multiplexing" "ARBITRARY" "Lcom/example/curves_to_bounds/curvestobounds/network/Multiplexing;" (.ref aA)) (sF : Sta Z h0 "com/example/curves_to_bounds/curvestobounds/network/Multiplexing" "FIFO" "Lcom/example/curves_to_bounds/curvestobounds/network/Multiplexing;" (.ref aF)) (hr : r = if p1 &&& (1 : Int32) = 0 then aA else aF) :
    MetFree l (⟨"com/example/curves_to_bounds/curvestobounds/network/MultiplexingIncludesPinLaw", "pick", "(I)Lcom/example/curves_to_bounds/curvestobounds/network/Multiplexing;"⟩ : MethodName) (head1 (Jvm.Cond.code (⟨"com/example/curves_to_bounds/curvestobounds/network/MultiplexingIncludesPinLaw", "pick", "(I)Lcom/example/curves_to_bounds/curvestobounds/network/Multiplexing;"⟩ : MethodName) method_2_code 1 (some (.object "com/example/curves_to_bounds/curvestobounds/network/Multiplexing")) :: ws) ({ frames := 0, cells := 0, slots := 0, locals := 0 } : Room)) (fun as_ U => as_ = #[(.int p1)] ∧ Z.Warmed39 U.vm ∧ U.heap = h0) (fun _ _ _ _ _ => True) (fun _ U out_ U' => ∃ v L, out_ = .returned v ∧ Q1 Z p1 aA aF r h0 n0 v U'.heap L ∧ FrameEnd U out_ U' L ({ frames := 0, cells := 0, slots := 0, locals := 0 } : Room).cells ({ frames := 0, cells := 0, slots := 0, locals := 0 } : Room).slots) := by
  refine MetFree.of_bodySF (plainFor_of_name pn_0) hisR ?_
  intro p e s m args below meth cd s₁ Bd hml0 hP hK
  obtain ⟨rfl, hZ, hh⟩ := hP
  have hx := Bd.exec
  have hby := Bd.bytes
  have hml : cd.maxLocals = 1 := hml0
  have hlk : meth.locks = false := BodyLoose.notSynchronized Bd
  have hown : s.vm.findClass "com/example/curves_to_bounds/curvestobounds/network/MultiplexingIncludesPinLaw" = some m.cls := findClass_of_methodNamed Bd.named
  have hnm := (name_of_methodNamed Bd.named Bd.method).1
  have hret := Bd.returns
  have X0 : Stand p l e ({ frames := 0, cells := 0, slots := 0, locals := 0 } : Room) s m #[(.int p1)] below meth cd s₁ [] 0 0 := Stand.of_body Bd
  have e0 : s₁.heap = h0 := by rw [← hh, Bd.state]; rfl
  have N0 := Fr.nil n0
  show own_Fin p e below (own_Ans s (Q1 Z p1 aA aF r h0 n0) ({ frames := 0, cells := 0, slots := 0, locals := 0 } : Room).cells ({ frames := 0, cells := 0, slots := 0, locals := 0 } : Room).slots) (s₁.setTop (entryFrame m #[(.int p1)] 1))
  refine own_cast (ef_rm1 m p1) ?_
  show own_Fin p e below _ (s₁.setTop (mkF m 0 #[.val (.int p1)] []))
  refine own_on (fun t => XS.iloadN X0.here hx rfl (hb hby d1_0) rfl) ?_
  show own_Fin p e below _ (s₁.setTop (mkF m 1 #[.val (.int p1)] [(.int p1)]))
  refine own_on (fun t => XS.iconst X0.here hx rfl (hb hby d1_1)) ?_
  show own_Fin p e below _ (s₁.setTop (mkF m 2 #[.val (.int p1)] [(.int (1 : Int32)), (.int p1)]))
  refine own_on (fun t => XS.iand X0.here hx rfl (hb hby d1_2) rfl) ?_
  show own_Fin p e below _ (s₁.setTop (mkF m 3 #[.val (.int p1)] [(.int (p1 &&& (1 : Int32)))]))
  by_cases hc1 : (p1 &&& (1 : Int32)) = (0 : Int32)
  · refine own_on (fun t => XS.ifNo X0.here hx rfl (hb hby d1_3) rfl ((if0 _ _).trans (teq hc1).2)) ?_
    show own_Fin p e below _ (s₁.setTop (mkF m 6 #[.val (.int p1)] []))
    obtain ⟨T2, X2, e2, st2⟩ := getS2 X0 hx hZ hown (host := "") (Or.inl (hw _ (List.mem_of_getElem? (i := 4) rfl))) Via.refl e0 sA (g := (mkF m 6 #[.val (.int p1)] [])) rfl (hb hby d1_6)
    refine own_on st2 ?_
    show own_Fin p e below _ (T2.setTop (mkF m 9 #[.val (.int p1)] [(.ref aA)]))
    exact own_ret (t := (.object "com/example/curves_to_bounds/curvestobounds/network/Multiplexing")) X2 hx hlk hret rfl (Or.inr (Or.inr (Or.inr (Or.inr ⟨rfl, rfl, rfl⟩)))) (hb hby d1_9) (⟨by rw [hr]; simp [hc1], N0, e2⟩) (by decide) (by decide)
  · refine own_on (fun t => XS.ifYes X0.here hx rfl (pc0 := 3) (pc' := 10) rfl (hb hby d1_3) rfl ((if0 _ _).trans (feq hc1).2) (by decide) (by decide)) ?_
    show own_Fin p e below _ (s₁.setTop (mkF m 10 #[.val (.int p1)] []))
    obtain ⟨T3, X3, e3, st3⟩ := getS2 X0 hx hZ hown (host := "") (Or.inl (hw _ (List.mem_of_getElem? (i := 7) rfl))) Via.refl e0 sF (g := (mkF m 10 #[.val (.int p1)] [])) rfl (hb hby d1_10)
    refine own_on st3 ?_
    show own_Fin p e below _ (T3.setTop (mkF m 13 #[.val (.int p1)] [(.ref aF)]))
    exact own_ret (t := (.object "com/example/curves_to_bounds/curvestobounds/network/Multiplexing")) X3 hx hlk hret rfl (Or.inr (Or.inr (Or.inr (Or.inr ⟨rfl, rfl, rfl⟩)))) (hb hby d1_13) (⟨by rw [hr]; simp [hc1], N0, e3⟩) (by decide) (by decide)
theorem pn_1 : plainName "com/example/curves_to_bounds/curvestobounds/network/Multiplexing" = true := by first | (simp [plainName, overriddenIn]; done) | decide +kernel
theorem d2_0 : decode prog_28_method_4_code 0 = .ok (.aload_n 0, 1) := by decide +kernel
theorem d2_1 : decode prog_28_method_4_code 1 = .ok (.getstatic 3, 3) := by decide +kernel
theorem d2_4 : decode prog_28_method_4_code 4 = .ok (.if_acmp .eq 8, 3) := by decide +kernel
theorem d2_12 : decode prog_28_method_4_code 12 = .ok (.iconst 1, 1) := by decide +kernel
theorem d2_13 : decode prog_28_method_4_code 13 = .ok (.goto 4, 3) := by decide +kernel
theorem d2_17 : decode prog_28_method_4_code 17 = .ok (.ireturn, 1) := by decide +kernel
theorem d2_7 : decode prog_28_method_4_code 7 = .ok (.aload_n 0, 1) := by decide +kernel
theorem d2_8 : decode prog_28_method_4_code 8 = .ok (.aload_n 1, 1) := by decide +kernel
theorem d2_9 : decode prog_28_method_4_code 9 = .ok (.if_acmp .ne 7, 3) := by decide +kernel
theorem d2_16 : decode prog_28_method_4_code 16 = .ok (.iconst 0, 1) := by decide +kernel
theorem ef_rm2 (m : MethodId) (x0 : Addr) (x1 : Addr) : entryFrame m #[(.ref x0), (.ref x1)] 2 = mkF m 0 #[.val (.ref x0), .val (.ref x1)] [] := by first | (simp [entryFrame, mkF, argsToLocals, Value.category]; done) | rfl
def Q2 (Z : State) (a1 : Addr) (a2 : Addr) (aA : Addr) (h0 : Heap) (n0 : Nat) (v : Option Value) (h : Heap) (L : List Loc) : Prop := v = some (.int (if a1 = aA ∨ a1 = a2 then (1 : Int32) else 0)) ∧ Fr n0 L ∧ h = h0
set_option maxRecDepth 65536 in
set_option maxHeartbeats 40000000 in
theorem rm2 (l : Launch) (Z : State) (a0 : Array Value) (hw : ∀ d ∈ tables_1, d.before a0 Z = true) (ws : List Jvm.Cond) (a1 : Addr) (a2 : Addr) (aA : Addr) (h0 : Heap) (n0 : Nat) (Z0 : n0 ≤ h0.size) (sA : Sta Z h0 "com/example/curves_to_bounds/curvestobounds/network/Multiplexing" "ARBITRARY" "Lcom/example/curves_to_bounds/curvestobounds/network/Multiplexing;" (.ref aA)) :
    MetFree l (⟨"com/example/curves_to_bounds/curvestobounds/network/Multiplexing", "includes", "(Lcom/example/curves_to_bounds/curvestobounds/network/Multiplexing;)Z"⟩ : MethodName) (head1 (Jvm.Cond.code (⟨"com/example/curves_to_bounds/curvestobounds/network/Multiplexing", "includes", "(Lcom/example/curves_to_bounds/curvestobounds/network/Multiplexing;)Z"⟩ : MethodName) prog_28_method_4_code 2 (some .boolean) :: ws) ({ frames := 0, cells := 0, slots := 0, locals := 0 } : Room)) (fun as_ U => as_ = #[(.ref a1), (.ref a2)] ∧ Z.Warmed39 U.vm ∧ U.heap = h0) (fun _ _ _ _ _ => True) (fun _ U out_ U' => ∃ v L, out_ = .returned v ∧ Q2 Z a1 a2 aA h0 n0 v U'.heap L ∧ FrameEnd U out_ U' L ({ frames := 0, cells := 0, slots := 0, locals := 0 } : Room).cells ({ frames := 0, cells := 0, slots := 0, locals := 0 } : Room).slots) := by
  refine MetFree.of_bodySF (plainFor_of_name pn_1) hisR ?_
  intro p e s m args below meth cd s₁ Bd hml0 hP hK
  obtain ⟨rfl, hZ, hh⟩ := hP
  have hx := Bd.exec
  have hby := Bd.bytes
  have hml : cd.maxLocals = 2 := hml0
  have hlk : meth.locks = false := BodyLoose.notSynchronized Bd
  have hown : s.vm.findClass "com/example/curves_to_bounds/curvestobounds/network/Multiplexing" = some m.cls := findClass_of_methodNamed Bd.named
  have hnm := (name_of_methodNamed Bd.named Bd.method).1
  have hret := Bd.returns
  have X0 : Stand p l e ({ frames := 0, cells := 0, slots := 0, locals := 0 } : Room) s m #[(.ref a1), (.ref a2)] below meth cd s₁ [] 0 0 := Stand.of_body Bd
  have e0 : s₁.heap = h0 := by rw [← hh, Bd.state]; rfl
  have N0 := Fr.nil n0
  show own_Fin p e below (own_Ans s (Q2 Z a1 a2 aA h0 n0) ({ frames := 0, cells := 0, slots := 0, locals := 0 } : Room).cells ({ frames := 0, cells := 0, slots := 0, locals := 0 } : Room).slots) (s₁.setTop (entryFrame m #[(.ref a1), (.ref a2)] 2))
  refine own_cast (ef_rm2 m a1 a2) ?_
  show own_Fin p e below _ (s₁.setTop (mkF m 0 #[.val (.ref a1), .val (.ref a2)] []))
  refine own_on (fun t => XS.aloadN X0.here hx rfl (hb hby d2_0) rfl rfl) ?_
  show own_Fin p e below _ (s₁.setTop (mkF m 1 #[.val (.ref a1), .val (.ref a2)] [(.ref a1)]))
  obtain ⟨T4, X4, e4, st4⟩ := getS2 X0 hx hZ hown (host := "") (Or.inl (hw _ (List.mem_of_getElem? (i := 14) rfl))) Via.refl e0 sA (g := (mkF m 1 #[.val (.ref a1), .val (.ref a2)] [(.ref a1)])) rfl (hb hby d2_1)
  refine own_on st4 ?_
  show own_Fin p e below _ (T4.setTop (mkF m 4 #[.val (.ref a1), .val (.ref a2)] [(.ref aA), (.ref a1)]))
  by_cases ha5 : a1 = aA
  · refine own_on (fun t => Jvm.RoadKit.acmp (g := (mkF m 4 #[.val (.ref a1), .val (.ref a2)] [(.ref aA), (.ref a1)])) X4 hx rfl rfl rfl (pc0 := 4) (pc' := 12) (same := true) rfl (hb hby d2_4) rfl (decide_eq_true (congrArg Value.ref ha5)) (by decide) (by decide)) ?_
    show own_Fin p e below _ (T4.setTop (mkF m 12 #[.val (.ref a1), .val (.ref a2)] []))
    refine own_on (fun t => XS.iconst X4.here hx rfl (hb hby d2_12)) ?_
    show own_Fin p e below _ (T4.setTop (mkF m 13 #[.val (.ref a1), .val (.ref a2)] [(.int (1 : Int32))]))
    refine own_on (fun t => XS.goto X4.here hx rfl (pc0 := 13) (pc' := 17) rfl (hb hby d2_13) (by decide) (by decide)) ?_
    show own_Fin p e below _ (T4.setTop (mkF m 17 #[.val (.ref a1), .val (.ref a2)] [(.int (1 : Int32))]))
    exact own_ret (t := .boolean) X4 hx hlk hret rfl (Or.inl ⟨rfl, (by simp), _, rfl⟩) (hb hby d2_17) (⟨by simp [ha5], N0, e4⟩) (by decide) (by decide)
  · refine own_on (fun t => Jvm.RoadKit.acmp (g := (mkF m 4 #[.val (.ref a1), .val (.ref a2)] [(.ref aA), (.ref a1)])) X4 hx rfl rfl rfl (pc0 := 4) (pc' := 7) (same := false) rfl (hb hby d2_4) rfl (decide_eq_false fun q => ha5 (Value.ref.inj q)) (by decide) (by decide)) ?_
    show own_Fin p e below _ (T4.setTop (mkF m 7 #[.val (.ref a1), .val (.ref a2)] []))
    refine own_on (fun t => XS.aloadN X4.here hx rfl (hb hby d2_7) rfl rfl) ?_
    show own_Fin p e below _ (T4.setTop (mkF m 8 #[.val (.ref a1), .val (.ref a2)] [(.ref a1)]))
    refine own_on (fun t => XS.aloadN X4.here hx rfl (hb hby d2_8) rfl rfl) ?_
    show own_Fin p e below _ (T4.setTop (mkF m 9 #[.val (.ref a1), .val (.ref a2)] [(.ref a2), (.ref a1)]))
    by_cases ha6 : a1 = a2
    · refine own_on (fun t => Jvm.RoadKit.acmp (g := (mkF m 9 #[.val (.ref a1), .val (.ref a2)] [(.ref a2), (.ref a1)])) X4 hx rfl rfl rfl (pc0 := 9) (pc' := 12) (same := true) rfl (hb hby d2_9) rfl (decide_eq_true (congrArg Value.ref ha6)) (by decide) (by decide)) ?_
      show own_Fin p e below _ (T4.setTop (mkF m 12 #[.val (.ref a1), .val (.ref a2)] []))
      refine own_on (fun t => XS.iconst X4.here hx rfl (hb hby d2_12)) ?_
      show own_Fin p e below _ (T4.setTop (mkF m 13 #[.val (.ref a1), .val (.ref a2)] [(.int (1 : Int32))]))
      refine own_on (fun t => XS.goto X4.here hx rfl (pc0 := 13) (pc' := 17) rfl (hb hby d2_13) (by decide) (by decide)) ?_
      show own_Fin p e below _ (T4.setTop (mkF m 17 #[.val (.ref a1), .val (.ref a2)] [(.int (1 : Int32))]))
      exact own_ret (t := .boolean) X4 hx hlk hret rfl (Or.inl ⟨rfl, (by simp), _, rfl⟩) (hb hby d2_17) (⟨by simp [ha5, ha6], N0, e4⟩) (by decide) (by decide)
    · refine own_on (fun t => Jvm.RoadKit.acmp (g := (mkF m 9 #[.val (.ref a1), .val (.ref a2)] [(.ref a2), (.ref a1)])) X4 hx rfl rfl rfl (pc0 := 9) (pc' := 16) (same := false) rfl (hb hby d2_9) rfl (decide_eq_false fun q => ha6 (Value.ref.inj q)) (by decide) (by decide)) ?_
      show own_Fin p e below _ (T4.setTop (mkF m 16 #[.val (.ref a1), .val (.ref a2)] []))
      refine own_on (fun t => XS.iconst X4.here hx rfl (hb hby d2_16)) ?_
      show own_Fin p e below _ (T4.setTop (mkF m 17 #[.val (.ref a1), .val (.ref a2)] [(.int (0 : Int32))]))
      exact own_ret (t := .boolean) X4 hx hlk hret rfl (Or.inl ⟨rfl, (by simp), _, rfl⟩) (hb hby d2_17) (⟨by simp [ha5, ha6], N0, e4⟩) (by decide) (by decide)
theorem pd_0 : parseMethodDescriptor "(I)Lcom/example/curves_to_bounds/curvestobounds/network/Multiplexing;" = some ⟨[.int], some (.object "com/example/curves_to_bounds/curvestobounds/network/Multiplexing")⟩ := by decide +kernel
theorem pd_1 : parseMethodDescriptor "(Lcom/example/curves_to_bounds/curvestobounds/network/Multiplexing;)Z" = some ⟨[(.object "com/example/curves_to_bounds/curvestobounds/network/Multiplexing")], some .boolean⟩ := by decide +kernel
theorem ef_rm0 (m : MethodId) (x0 : Int32) (x1 : Int32) : entryFrame m #[(.int x0), (.int x1)] maxLocals = mkF m 0 #[.val (.int x0), .val (.int x1), .unset, .unset, .unset, .unset] [] := by first | (simp [entryFrame, mkF, argsToLocals, Value.category, maxLocals]; done) | rfl
def Q0 (Z : State) (p1 : Int32) (p2 : Int32) (aA : Addr) (aF : Addr) (r1 : Addr) (r2 : Addr) (h0 : Heap) (n0 : Nat) (v : Option Value) (h : Heap) (L : List Loc) : Prop := v = some (.int 1) ∧ Fr n0 L
set_option maxRecDepth 65536 in
set_option maxHeartbeats 40000000 in
theorem rm0 (l : Launch) (Z : State) (a0 : Array Value) (hw : ∀ d ∈ tables_1, d.before a0 Z = true) (ws : List Jvm.Cond) (p1 : Int32) (p2 : Int32) (aA : Addr) (aF : Addr) (r1 : Addr) (r2 : Addr) (h0 : Heap) (n0 : Nat) (Z0 : n0 ≤ h0.size) (sA : Sta Z h0 "com/example/curves_to_bounds/curvestobounds/network/Multiplexing" "ARBITRARY" "Lcom/example/curves_to_bounds/curvestobounds/network/Multiplexing;" (.ref aA)) (sF : Sta Z h0 "com/example/curves_to_bounds/curvestobounds/network/Multiplexing" "FIFO" "Lcom/example/curves_to_bounds/curvestobounds/network/Multiplexing;" (.ref aF)) (ne : aA ≠ aF) (hr1 : r1 = if p1 &&& (1 : Int32) = 0 then aA else aF) (hr2 : r2 = if p2 &&& (1 : Int32) = 0 then aA else aF) (E1 : Exa Z h0 r1 "com/example/curves_to_bounds/curvestobounds/network/Multiplexing") :
    MetFree l x (head1 (Jvm.Cond.code x code maxLocals ret :: ws) room_1) (fun as_ U => as_ = #[(.int p1), (.int p2)] ∧ Z.Warmed39 U.vm ∧ U.heap = h0) (fun _ _ _ _ _ => True) (fun _ U out_ U' => ∃ v L, out_ = .returned v ∧ Q0 Z p1 p2 aA aF r1 r2 h0 n0 v U'.heap L ∧ FrameEnd U out_ U' L room_1.cells room_1.slots) := by
  refine MetFree.of_bodySF (plainFor_of_name pn_0) hisR ?_
  intro p e s m args below meth cd s₁ Bd hml0 hP hK
  obtain ⟨rfl, hZ, hh⟩ := hP
  have hx := Bd.exec
  have hby := Bd.bytes
  have hml : cd.maxLocals = 6 := hml0
  have hlk : meth.locks = false := BodyLoose.notSynchronized Bd
  have hown : s.vm.findClass "com/example/curves_to_bounds/curvestobounds/network/MultiplexingIncludesPinLaw" = some m.cls := findClass_of_methodNamed Bd.named
  have hnm := (name_of_methodNamed Bd.named Bd.method).1
  have hret := Bd.returns
  have X0 : Stand p l e room_1 s m #[(.int p1), (.int p2)] below meth cd s₁ [] 0 0 := Stand.of_body Bd
  have e0 : s₁.heap = h0 := by rw [← hh, Bd.state]; rfl
  have N0 := Fr.nil n0
  show own_Fin p e below (own_Ans s (Q0 Z p1 p2 aA aF r1 r2 h0 n0) room_1.cells room_1.slots) (s₁.setTop (entryFrame m #[(.int p1), (.int p2)] maxLocals))
  refine own_cast (ef_rm0 m p1 p2) ?_
  show own_Fin p e below _ (s₁.setTop (mkF m 0 #[.val (.int p1), .val (.int p2), .unset, .unset, .unset, .unset] []))
  refine own_on (fun t => XS.iloadN X0.here hx rfl (hb hby at_0) rfl) ?_
  show own_Fin p e below _ (s₁.setTop (mkF m 1 #[.val (.int p1), .val (.int p2), .unset, .unset, .unset, .unset] [(.int p1)]))
  obtain ⟨_, _, ⟨T7, L7, k7, n7⟩, -, X7, ⟨Lc7, hQ7, l7, y7, z7⟩, st7⟩ := Jvm.LawKit.callS X0 hx (y := (⟨"com/example/curves_to_bounds/curvestobounds/network/MultiplexingIncludesPinLaw", "pick", "(I)Lcom/example/curves_to_bounds/curvestobounds/network/Multiplexing;"⟩ : MethodName)) hown (mvT hZ (hw _ (List.mem_of_getElem? (i := 0) rfl))) (mvT hZ (hw _ (List.mem_of_getElem? (i := 1) rfl))) (mvT hZ (hw _ (List.mem_of_getElem? (i := 2) rfl))) (mvT hZ (hw _ (List.mem_of_getElem? (i := 3) rfl))) (by decide) (backOf (W := 0) (rm1 l Z a0 hw [] p1 aA aF r1 h0 n0 (by exact Z0) sA sF hr1) hZ (hw _ (List.mem_of_getElem? (i := 3) rfl)) (hw _ (List.mem_of_getElem? (i := 2) rfl)) (by decide) (by decide)) (g := (mkF m 1 #[.val (.int p1), .val (.int p2), .unset, .unset, .unset, .unset] [(.int p1)])) rfl (by rw [hml]; rfl) (argsL := [(.int p1)]) (rest := []) (lenOf pd_0 rfl) rfl (by show 2 * 0 + _ ≤ _; exact Nat.le_of_eq rfl) (hb hby at_1) (fun _ _ => ⟨rfl, e0, (by decide : 0 + 0 ≤ _), (by decide : 0 + 0 ≤ _)⟩)
  dsimp only [Pt.U, Pt.locs, Pt.cells, Pt.slots] at X7 l7 y7 z7 st7 hQ7
  subst l7 y7 z7
  obtain ⟨rfl, N7q, e7⟩ := hQ7
  have N7 := Fr.app N0 N7q
  refine own_on st7 ?_
  show own_Fin p e below _ (T7.setTop (mkF m 4 #[.val (.int p1), .val (.int p2), .unset, .unset, .unset, .unset] [(.ref r1)]))
  refine own_on (fun t => XS.astoreN X7.here hx rfl (hb hby at_4) rfl rfl (l' := #[.val (.int p1), .val (.int p2), .val (.ref r1), .unset, .unset, .unset]) rfl) ?_
  show own_Fin p e below _ (T7.setTop (mkF m 5 #[.val (.int p1), .val (.int p2), .val (.ref r1), .unset, .unset, .unset] []))
  refine own_on (fun t => XS.iloadN X7.here hx rfl (hb hby at_5) rfl) ?_
  show own_Fin p e below _ (T7.setTop (mkF m 6 #[.val (.int p1), .val (.int p2), .val (.ref r1), .unset, .unset, .unset] [(.int p2)]))
  obtain ⟨_, _, ⟨T8, L8, k8, n8⟩, -, X8, ⟨Lc8, hQ8, l8, y8, z8⟩, st8⟩ := Jvm.LawKit.callS X7 hx (y := (⟨"com/example/curves_to_bounds/curvestobounds/network/MultiplexingIncludesPinLaw", "pick", "(I)Lcom/example/curves_to_bounds/curvestobounds/network/Multiplexing;"⟩ : MethodName)) hown (mvT hZ (hw _ (List.mem_of_getElem? (i := 0) rfl))) (mvT hZ (hw _ (List.mem_of_getElem? (i := 1) rfl))) (mvT hZ (hw _ (List.mem_of_getElem? (i := 2) rfl))) (mvT hZ (hw _ (List.mem_of_getElem? (i := 3) rfl))) (by decide) (backOf (W := 0) (rm1 l Z a0 hw [] p2 aA aF r2 h0 n0 (by exact Z0) sA sF hr2) hZ (hw _ (List.mem_of_getElem? (i := 3) rfl)) (hw _ (List.mem_of_getElem? (i := 2) rfl)) (by decide) (by decide)) (g := (mkF m 6 #[.val (.int p1), .val (.int p2), .val (.ref r1), .unset, .unset, .unset] [(.int p2)])) rfl (by rw [hml]; rfl) (argsL := [(.int p2)]) (rest := []) (lenOf pd_0 rfl) rfl (by show 2 * 0 + _ ≤ _; exact Nat.le_of_eq rfl) (hb hby at_6) (fun _ _ => ⟨rfl, e7, (by decide : 0 + 0 ≤ _), (by decide : 0 + 0 ≤ _)⟩)
  dsimp only [Pt.U, Pt.locs, Pt.cells, Pt.slots] at X8 l8 y8 z8 st8 hQ8
  subst l8 y8 z8
  obtain ⟨rfl, N8q, e8⟩ := hQ8
  have N8 := Fr.app N7 N8q
  refine own_on st8 ?_
  show own_Fin p e below _ (T8.setTop (mkF m 9 #[.val (.int p1), .val (.int p2), .val (.ref r1), .unset, .unset, .unset] [(.ref r2)]))
  refine own_on (fun t => XS.astoreN X8.here hx rfl (hb hby at_9) rfl rfl (l' := #[.val (.int p1), .val (.int p2), .val (.ref r1), .val (.ref r2), .unset, .unset]) rfl) ?_
  show own_Fin p e below _ (T8.setTop (mkF m 10 #[.val (.int p1), .val (.int p2), .val (.ref r1), .val (.ref r2), .unset, .unset] []))
  refine own_on (fun t => XS.iloadN X8.here hx rfl (hb hby at_10) rfl) ?_
  show own_Fin p e below _ (T8.setTop (mkF m 11 #[.val (.int p1), .val (.int p2), .val (.ref r1), .val (.ref r2), .unset, .unset] [(.int p1)]))
  refine own_on (fun t => XS.iconst X8.here hx rfl (hb hby at_11)) ?_
  show own_Fin p e below _ (T8.setTop (mkF m 12 #[.val (.int p1), .val (.int p2), .val (.ref r1), .val (.ref r2), .unset, .unset] [(.int (1 : Int32)), (.int p1)]))
  refine own_on (fun t => XS.iand X8.here hx rfl (hb hby at_12) rfl) ?_
  show own_Fin p e below _ (T8.setTop (mkF m 13 #[.val (.int p1), .val (.int p2), .val (.ref r1), .val (.ref r2), .unset, .unset] [(.int (p1 &&& (1 : Int32)))]))
  refine own_on (fun t => XS.iconst X8.here hx rfl (hb hby at_13)) ?_
  show own_Fin p e below _ (T8.setTop (mkF m 14 #[.val (.int p1), .val (.int p2), .val (.ref r1), .val (.ref r2), .unset, .unset] [(.int (1 : Int32)), (.int (p1 &&& (1 : Int32)))]))
  by_cases hc9 : (p1 &&& (1 : Int32)) = (1 : Int32)
  · refine own_on (fun t => XS.icmpNo X8.here hx rfl (hb hby at_14) rfl (teq hc9).2) ?_
    show own_Fin p e below _ (T8.setTop (mkF m 17 #[.val (.int p1), .val (.int p2), .val (.ref r1), .val (.ref r2), .unset, .unset] []))
    refine own_on (fun t => XS.iloadN X8.here hx rfl (hb hby at_17) rfl) ?_
    show own_Fin p e below _ (T8.setTop (mkF m 18 #[.val (.int p1), .val (.int p2), .val (.ref r1), .val (.ref r2), .unset, .unset] [(.int p2)]))
    refine own_on (fun t => XS.iconst X8.here hx rfl (hb hby at_18)) ?_
    show own_Fin p e below _ (T8.setTop (mkF m 19 #[.val (.int p1), .val (.int p2), .val (.ref r1), .val (.ref r2), .unset, .unset] [(.int (1 : Int32)), (.int p2)]))
    refine own_on (fun t => XS.iand X8.here hx rfl (hb hby at_19) rfl) ?_
    show own_Fin p e below _ (T8.setTop (mkF m 20 #[.val (.int p1), .val (.int p2), .val (.ref r1), .val (.ref r2), .unset, .unset] [(.int (p2 &&& (1 : Int32)))]))
    by_cases hc10 : (p2 &&& (1 : Int32)) = (0 : Int32)
    · refine own_on (fun t => XS.ifNo X8.here hx rfl (hb hby at_20) rfl ((if0 _ _).trans (teq hc10).2)) ?_
      show own_Fin p e below _ (T8.setTop (mkF m 23 #[.val (.int p1), .val (.int p2), .val (.ref r1), .val (.ref r2), .unset, .unset] []))
      refine own_on (fun t => XS.iconst X8.here hx rfl (hb hby at_23)) ?_
      show own_Fin p e below _ (T8.setTop (mkF m 24 #[.val (.int p1), .val (.int p2), .val (.ref r1), .val (.ref r2), .unset, .unset] [(.int (1 : Int32))]))
      refine own_on (fun t => XS.goto X8.here hx rfl (pc0 := 24) (pc' := 28) rfl (hb hby at_24) (by decide) (by decide)) ?_
      show own_Fin p e below _ (T8.setTop (mkF m 28 #[.val (.int p1), .val (.int p2), .val (.ref r1), .val (.ref r2), .unset, .unset] [(.int (1 : Int32))]))
      refine own_on (fun t => XS.istore X8.here hx rfl (hb hby at_28) rfl (l' := #[.val (.int p1), .val (.int p2), .val (.ref r1), .val (.ref r2), .val (.int (1 : Int32)), .unset]) rfl) ?_
      show own_Fin p e below _ (T8.setTop (mkF m 30 #[.val (.int p1), .val (.int p2), .val (.ref r1), .val (.ref r2), .val (.int (1 : Int32)), .unset] []))
      refine own_on (fun t => XS.iload X8.here hx rfl (hb hby at_30) rfl) ?_
      show own_Fin p e below _ (T8.setTop (mkF m 32 #[.val (.int p1), .val (.int p2), .val (.ref r1), .val (.ref r2), .val (.int (1 : Int32)), .unset] [(.int (1 : Int32))]))
      refine own_on (fun t => XS.ifYes X8.here hx rfl (pc0 := 32) (pc' := 39) rfl (hb hby at_32) rfl ((if0 _ _).trans (feq (by decide : ¬ ((1 : Int32) = (0 : Int32)))).2) (by decide) (by decide)) ?_
      show own_Fin p e below _ (T8.setTop (mkF m 39 #[.val (.int p1), .val (.int p2), .val (.ref r1), .val (.ref r2), .val (.int (1 : Int32)), .unset] []))
      refine own_on (fun t => XS.iconst X8.here hx rfl (hb hby at_39)) ?_
      show own_Fin p e below _ (T8.setTop (mkF m 40 #[.val (.int p1), .val (.int p2), .val (.ref r1), .val (.ref r2), .val (.int (1 : Int32)), .unset] [(.int (0 : Int32))]))
      refine own_on (fun t => XS.istore X8.here hx rfl (hb hby at_40) rfl (l' := #[.val (.int p1), .val (.int p2), .val (.ref r1), .val (.ref r2), .val (.int (1 : Int32)), .val (.int (0 : Int32))]) rfl) ?_
      show own_Fin p e below _ (T8.setTop (mkF m 42 #[.val (.int p1), .val (.int p2), .val (.ref r1), .val (.ref r2), .val (.int (1 : Int32)), .val (.int (0 : Int32))] []))
      refine own_on (fun t => XS.aloadN X8.here hx rfl (hb hby at_42) rfl rfl) ?_
      show own_Fin p e below _ (T8.setTop (mkF m 43 #[.val (.int p1), .val (.int p2), .val (.ref r1), .val (.ref r2), .val (.int (1 : Int32)), .val (.int (0 : Int32))] [(.ref r1)]))
      refine own_on (fun t => XS.aloadN X8.here hx rfl (hb hby at_43) rfl rfl) ?_
      show own_Fin p e below _ (T8.setTop (mkF m 44 #[.val (.int p1), .val (.int p2), .val (.ref r1), .val (.ref r2), .val (.int (1 : Int32)), .val (.int (0 : Int32))] [(.ref r2), (.ref r1)]))
      obtain ⟨cq11, kq11, q11a, q11b, q11c⟩ := isOf hZ e8 E1
      obtain ⟨_, _, ⟨T11, L11, k11, n11⟩, -, X11, ⟨Lc11, hQ11, l11, y11, z11⟩, st11⟩ := X8.virtualBack hx (y := (⟨"com/example/curves_to_bounds/curvestobounds/network/Multiplexing", "includes", "(Lcom/example/curves_to_bounds/curvestobounds/network/Multiplexing;)Z"⟩ : MethodName)) (z := (⟨"com/example/curves_to_bounds/curvestobounds/network/Multiplexing", "includes", "(Lcom/example/curves_to_bounds/curvestobounds/network/Multiplexing;)Z"⟩ : MethodName)) hown (mvT hZ (hw _ (List.mem_of_getElem? (i := 9) rfl))) (mvT hZ (hw _ (List.mem_of_getElem? (i := 10) rfl))) (notFace_of_selects (args := #[]) (mvT hZ (hw _ (List.mem_of_getElem? (i := 12) rfl)))) (mvT hZ (hw _ (List.mem_of_getElem? (i := 12) rfl))) (mvT hZ (hw _ (List.mem_of_getElem? (i := 11) rfl))) (by decide) (backOf (W := 0) (rm2 l Z a0 hw [] r1 r2 aA h0 n0 (by exact Z0) sA) hZ (hw _ (List.mem_of_getElem? (i := 13) rfl)) (hw _ (List.mem_of_getElem? (i := 5) rfl)) (by decide) (by decide)) q11a q11c (g := (mkF m 44 #[.val (.int p1), .val (.int p2), .val (.ref r1), .val (.ref r2), .val (.int (1 : Int32)), .val (.int (0 : Int32))] [(.ref r2), (.ref r1)])) rfl (by rw [hml]; rfl) (Steps.refl _) (argsL := [(.ref r2)]) (rest := []) (lenOf pd_1 rfl) rfl (by show 2 * 0 + _ ≤ _; exact Nat.le_of_eq rfl) (hb hby at_44) (fun _ _ => ⟨rfl, e8, (by decide : 0 + 0 ≤ _), (by decide : 0 + 0 ≤ _)⟩)
      dsimp only [Pt.U, Pt.locs, Pt.cells, Pt.slots] at X11 l11 y11 z11 st11 hQ11
      subst l11 y11 z11
      obtain ⟨rfl, N11q, e11⟩ := hQ11
      have N11 := Fr.app N8 N11q
      refine own_via st11 ?_
      show own_Fin p e below _ (T11.setTop (mkF m 47 #[.val (.int p1), .val (.int p2), .val (.ref r1), .val (.ref r2), .val (.int (1 : Int32)), .val (.int (0 : Int32))] [(.int (if r1 = aA ∨ r1 = r2 then (1 : Int32) else 0))]))
      refine own_on (fun t => XS.iload X11.here hx rfl (hb hby at_47) rfl) ?_
      show own_Fin p e below _ (T11.setTop (mkF m 49 #[.val (.int p1), .val (.int p2), .val (.ref r1), .val (.ref r2), .val (.int (1 : Int32)), .val (.int (0 : Int32))] [(.int (0 : Int32)), (.int (if r1 = aA ∨ r1 = r2 then (1 : Int32) else 0))]))
      by_cases hc12 : (if r1 = aA ∨ r1 = r2 then (1 : Int32) else 0) = (0 : Int32)
      · refine own_on (fun t => XS.icmpNo X11.here hx rfl (hb hby at_49) rfl (teq hc12).2) ?_
        show own_Fin p e below _ (T11.setTop (mkF m 52 #[.val (.int p1), .val (.int p2), .val (.ref r1), .val (.ref r2), .val (.int (1 : Int32)), .val (.int (0 : Int32))] []))
        refine own_on (fun t => XS.iconst X11.here hx rfl (hb hby at_52)) ?_
        show own_Fin p e below _ (T11.setTop (mkF m 53 #[.val (.int p1), .val (.int p2), .val (.ref r1), .val (.ref r2), .val (.int (1 : Int32)), .val (.int (0 : Int32))] [(.int (1 : Int32))]))
        refine own_on (fun t => XS.goto X11.here hx rfl (pc0 := 53) (pc' := 57) rfl (hb hby at_53) (by decide) (by decide)) ?_
        show own_Fin p e below _ (T11.setTop (mkF m 57 #[.val (.int p1), .val (.int p2), .val (.ref r1), .val (.ref r2), .val (.int (1 : Int32)), .val (.int (0 : Int32))] [(.int (1 : Int32))]))
        exact own_ret (t := .boolean) X11 hx hlk hret rfl (Or.inl ⟨rfl, (by simp), _, rfl⟩) (hb hby at_57) (⟨rfl, N11⟩) (by decide) (by decide)
      · refine own_on (fun t => XS.icmpYes X11.here hx rfl (pc0 := 49) (pc' := 56) rfl (hb hby at_49) rfl (feq hc12).2 (by decide) (by decide)) ?_
        show own_Fin p e below _ (T11.setTop (mkF m 56 #[.val (.int p1), .val (.int p2), .val (.ref r1), .val (.ref r2), .val (.int (1 : Int32)), .val (.int (0 : Int32))] []))
        refine own_on (fun t => XS.iconst X11.here hx rfl (hb hby at_56)) ?_
        show own_Fin p e below _ (T11.setTop (mkF m 57 #[.val (.int p1), .val (.int p2), .val (.ref r1), .val (.ref r2), .val (.int (1 : Int32)), .val (.int (0 : Int32))] [(.int (0 : Int32))]))
        exact own_ret (t := .boolean) X11 hx hlk hret rfl (Or.inl ⟨rfl, (by simp), _, rfl⟩) (hb hby at_57) (⟨by exfalso; rcases and_one p1 with q1 | q1 <;> rcases and_one p2 with q2 | q2 <;> simp_all, N11⟩) (by decide) (by decide)
    · refine own_on (fun t => XS.ifYes X8.here hx rfl (pc0 := 20) (pc' := 27) rfl (hb hby at_20) rfl ((if0 _ _).trans (feq hc10).2) (by decide) (by decide)) ?_
      show own_Fin p e below _ (T8.setTop (mkF m 27 #[.val (.int p1), .val (.int p2), .val (.ref r1), .val (.ref r2), .unset, .unset] []))
      refine own_on (fun t => XS.iconst X8.here hx rfl (hb hby at_27)) ?_
      show own_Fin p e below _ (T8.setTop (mkF m 28 #[.val (.int p1), .val (.int p2), .val (.ref r1), .val (.ref r2), .unset, .unset] [(.int (0 : Int32))]))
      refine own_on (fun t => XS.istore X8.here hx rfl (hb hby at_28) rfl (l' := #[.val (.int p1), .val (.int p2), .val (.ref r1), .val (.ref r2), .val (.int (0 : Int32)), .unset]) rfl) ?_
      show own_Fin p e below _ (T8.setTop (mkF m 30 #[.val (.int p1), .val (.int p2), .val (.ref r1), .val (.ref r2), .val (.int (0 : Int32)), .unset] []))
      refine own_on (fun t => XS.iload X8.here hx rfl (hb hby at_30) rfl) ?_
      show own_Fin p e below _ (T8.setTop (mkF m 32 #[.val (.int p1), .val (.int p2), .val (.ref r1), .val (.ref r2), .val (.int (0 : Int32)), .unset] [(.int (0 : Int32))]))
      refine own_on (fun t => XS.ifNo X8.here hx rfl (hb hby at_32) rfl ((if0 _ _).trans (teq (by decide : (0 : Int32) = (0 : Int32))).2)) ?_
      show own_Fin p e below _ (T8.setTop (mkF m 35 #[.val (.int p1), .val (.int p2), .val (.ref r1), .val (.ref r2), .val (.int (0 : Int32)), .unset] []))
      refine own_on (fun t => XS.iconst X8.here hx rfl (hb hby at_35)) ?_
      show own_Fin p e below _ (T8.setTop (mkF m 36 #[.val (.int p1), .val (.int p2), .val (.ref r1), .val (.ref r2), .val (.int (0 : Int32)), .unset] [(.int (1 : Int32))]))
      refine own_on (fun t => XS.goto X8.here hx rfl (pc0 := 36) (pc' := 40) rfl (hb hby at_36) (by decide) (by decide)) ?_
      show own_Fin p e below _ (T8.setTop (mkF m 40 #[.val (.int p1), .val (.int p2), .val (.ref r1), .val (.ref r2), .val (.int (0 : Int32)), .unset] [(.int (1 : Int32))]))
      refine own_on (fun t => XS.istore X8.here hx rfl (hb hby at_40) rfl (l' := #[.val (.int p1), .val (.int p2), .val (.ref r1), .val (.ref r2), .val (.int (0 : Int32)), .val (.int (1 : Int32))]) rfl) ?_
      show own_Fin p e below _ (T8.setTop (mkF m 42 #[.val (.int p1), .val (.int p2), .val (.ref r1), .val (.ref r2), .val (.int (0 : Int32)), .val (.int (1 : Int32))] []))
      refine own_on (fun t => XS.aloadN X8.here hx rfl (hb hby at_42) rfl rfl) ?_
      show own_Fin p e below _ (T8.setTop (mkF m 43 #[.val (.int p1), .val (.int p2), .val (.ref r1), .val (.ref r2), .val (.int (0 : Int32)), .val (.int (1 : Int32))] [(.ref r1)]))
      refine own_on (fun t => XS.aloadN X8.here hx rfl (hb hby at_43) rfl rfl) ?_
      show own_Fin p e below _ (T8.setTop (mkF m 44 #[.val (.int p1), .val (.int p2), .val (.ref r1), .val (.ref r2), .val (.int (0 : Int32)), .val (.int (1 : Int32))] [(.ref r2), (.ref r1)]))
      obtain ⟨cq13, kq13, q13a, q13b, q13c⟩ := isOf hZ e8 E1
      obtain ⟨_, _, ⟨T13, L13, k13, n13⟩, -, X13, ⟨Lc13, hQ13, l13, y13, z13⟩, st13⟩ := X8.virtualBack hx (y := (⟨"com/example/curves_to_bounds/curvestobounds/network/Multiplexing", "includes", "(Lcom/example/curves_to_bounds/curvestobounds/network/Multiplexing;)Z"⟩ : MethodName)) (z := (⟨"com/example/curves_to_bounds/curvestobounds/network/Multiplexing", "includes", "(Lcom/example/curves_to_bounds/curvestobounds/network/Multiplexing;)Z"⟩ : MethodName)) hown (mvT hZ (hw _ (List.mem_of_getElem? (i := 9) rfl))) (mvT hZ (hw _ (List.mem_of_getElem? (i := 10) rfl))) (notFace_of_selects (args := #[]) (mvT hZ (hw _ (List.mem_of_getElem? (i := 12) rfl)))) (mvT hZ (hw _ (List.mem_of_getElem? (i := 12) rfl))) (mvT hZ (hw _ (List.mem_of_getElem? (i := 11) rfl))) (by decide) (backOf (W := 0) (rm2 l Z a0 hw [] r1 r2 aA h0 n0 (by exact Z0) sA) hZ (hw _ (List.mem_of_getElem? (i := 13) rfl)) (hw _ (List.mem_of_getElem? (i := 5) rfl)) (by decide) (by decide)) q13a q13c (g := (mkF m 44 #[.val (.int p1), .val (.int p2), .val (.ref r1), .val (.ref r2), .val (.int (0 : Int32)), .val (.int (1 : Int32))] [(.ref r2), (.ref r1)])) rfl (by rw [hml]; rfl) (Steps.refl _) (argsL := [(.ref r2)]) (rest := []) (lenOf pd_1 rfl) rfl (by show 2 * 0 + _ ≤ _; exact Nat.le_of_eq rfl) (hb hby at_44) (fun _ _ => ⟨rfl, e8, (by decide : 0 + 0 ≤ _), (by decide : 0 + 0 ≤ _)⟩)
      dsimp only [Pt.U, Pt.locs, Pt.cells, Pt.slots] at X13 l13 y13 z13 st13 hQ13
      subst l13 y13 z13
      obtain ⟨rfl, N13q, e13⟩ := hQ13
      have N13 := Fr.app N8 N13q
      refine own_via st13 ?_
      show own_Fin p e below _ (T13.setTop (mkF m 47 #[.val (.int p1), .val (.int p2), .val (.ref r1), .val (.ref r2), .val (.int (0 : Int32)), .val (.int (1 : Int32))] [(.int (if r1 = aA ∨ r1 = r2 then (1 : Int32) else 0))]))
      refine own_on (fun t => XS.iload X13.here hx rfl (hb hby at_47) rfl) ?_
      show own_Fin p e below _ (T13.setTop (mkF m 49 #[.val (.int p1), .val (.int p2), .val (.ref r1), .val (.ref r2), .val (.int (0 : Int32)), .val (.int (1 : Int32))] [(.int (1 : Int32)), (.int (if r1 = aA ∨ r1 = r2 then (1 : Int32) else 0))]))
      by_cases hc14 : (if r1 = aA ∨ r1 = r2 then (1 : Int32) else 0) = (1 : Int32)
      · refine own_on (fun t => XS.icmpNo X13.here hx rfl (hb hby at_49) rfl (teq hc14).2) ?_
        show own_Fin p e below _ (T13.setTop (mkF m 52 #[.val (.int p1), .val (.int p2), .val (.ref r1), .val (.ref r2), .val (.int (0 : Int32)), .val (.int (1 : Int32))] []))
        refine own_on (fun t => XS.iconst X13.here hx rfl (hb hby at_52)) ?_
        show own_Fin p e below _ (T13.setTop (mkF m 53 #[.val (.int p1), .val (.int p2), .val (.ref r1), .val (.ref r2), .val (.int (0 : Int32)), .val (.int (1 : Int32))] [(.int (1 : Int32))]))
        refine own_on (fun t => XS.goto X13.here hx rfl (pc0 := 53) (pc' := 57) rfl (hb hby at_53) (by decide) (by decide)) ?_
        show own_Fin p e below _ (T13.setTop (mkF m 57 #[.val (.int p1), .val (.int p2), .val (.ref r1), .val (.ref r2), .val (.int (0 : Int32)), .val (.int (1 : Int32))] [(.int (1 : Int32))]))
        exact own_ret (t := .boolean) X13 hx hlk hret rfl (Or.inl ⟨rfl, (by simp), _, rfl⟩) (hb hby at_57) (⟨rfl, N13⟩) (by decide) (by decide)
      · refine own_on (fun t => XS.icmpYes X13.here hx rfl (pc0 := 49) (pc' := 56) rfl (hb hby at_49) rfl (feq hc14).2 (by decide) (by decide)) ?_
        show own_Fin p e below _ (T13.setTop (mkF m 56 #[.val (.int p1), .val (.int p2), .val (.ref r1), .val (.ref r2), .val (.int (0 : Int32)), .val (.int (1 : Int32))] []))
        refine own_on (fun t => XS.iconst X13.here hx rfl (hb hby at_56)) ?_
        show own_Fin p e below _ (T13.setTop (mkF m 57 #[.val (.int p1), .val (.int p2), .val (.ref r1), .val (.ref r2), .val (.int (0 : Int32)), .val (.int (1 : Int32))] [(.int (0 : Int32))]))
        exact own_ret (t := .boolean) X13 hx hlk hret rfl (Or.inl ⟨rfl, (by simp), _, rfl⟩) (hb hby at_57) (⟨by exfalso; rcases and_one p1 with q1 | q1 <;> rcases and_one p2 with q2 | q2 <;> simp_all, N13⟩) (by decide) (by decide)
  · refine own_on (fun t => XS.icmpYes X8.here hx rfl (pc0 := 14) (pc' := 27) rfl (hb hby at_14) rfl (feq hc9).2 (by decide) (by decide)) ?_
    show own_Fin p e below _ (T8.setTop (mkF m 27 #[.val (.int p1), .val (.int p2), .val (.ref r1), .val (.ref r2), .unset, .unset] []))
    refine own_on (fun t => XS.iconst X8.here hx rfl (hb hby at_27)) ?_
    show own_Fin p e below _ (T8.setTop (mkF m 28 #[.val (.int p1), .val (.int p2), .val (.ref r1), .val (.ref r2), .unset, .unset] [(.int (0 : Int32))]))
    refine own_on (fun t => XS.istore X8.here hx rfl (hb hby at_28) rfl (l' := #[.val (.int p1), .val (.int p2), .val (.ref r1), .val (.ref r2), .val (.int (0 : Int32)), .unset]) rfl) ?_
    show own_Fin p e below _ (T8.setTop (mkF m 30 #[.val (.int p1), .val (.int p2), .val (.ref r1), .val (.ref r2), .val (.int (0 : Int32)), .unset] []))
    refine own_on (fun t => XS.iload X8.here hx rfl (hb hby at_30) rfl) ?_
    show own_Fin p e below _ (T8.setTop (mkF m 32 #[.val (.int p1), .val (.int p2), .val (.ref r1), .val (.ref r2), .val (.int (0 : Int32)), .unset] [(.int (0 : Int32))]))
    refine own_on (fun t => XS.ifNo X8.here hx rfl (hb hby at_32) rfl ((if0 _ _).trans (teq (by decide : (0 : Int32) = (0 : Int32))).2)) ?_
    show own_Fin p e below _ (T8.setTop (mkF m 35 #[.val (.int p1), .val (.int p2), .val (.ref r1), .val (.ref r2), .val (.int (0 : Int32)), .unset] []))
    refine own_on (fun t => XS.iconst X8.here hx rfl (hb hby at_35)) ?_
    show own_Fin p e below _ (T8.setTop (mkF m 36 #[.val (.int p1), .val (.int p2), .val (.ref r1), .val (.ref r2), .val (.int (0 : Int32)), .unset] [(.int (1 : Int32))]))
    refine own_on (fun t => XS.goto X8.here hx rfl (pc0 := 36) (pc' := 40) rfl (hb hby at_36) (by decide) (by decide)) ?_
    show own_Fin p e below _ (T8.setTop (mkF m 40 #[.val (.int p1), .val (.int p2), .val (.ref r1), .val (.ref r2), .val (.int (0 : Int32)), .unset] [(.int (1 : Int32))]))
    refine own_on (fun t => XS.istore X8.here hx rfl (hb hby at_40) rfl (l' := #[.val (.int p1), .val (.int p2), .val (.ref r1), .val (.ref r2), .val (.int (0 : Int32)), .val (.int (1 : Int32))]) rfl) ?_
    show own_Fin p e below _ (T8.setTop (mkF m 42 #[.val (.int p1), .val (.int p2), .val (.ref r1), .val (.ref r2), .val (.int (0 : Int32)), .val (.int (1 : Int32))] []))
    refine own_on (fun t => XS.aloadN X8.here hx rfl (hb hby at_42) rfl rfl) ?_
    show own_Fin p e below _ (T8.setTop (mkF m 43 #[.val (.int p1), .val (.int p2), .val (.ref r1), .val (.ref r2), .val (.int (0 : Int32)), .val (.int (1 : Int32))] [(.ref r1)]))
    refine own_on (fun t => XS.aloadN X8.here hx rfl (hb hby at_43) rfl rfl) ?_
    show own_Fin p e below _ (T8.setTop (mkF m 44 #[.val (.int p1), .val (.int p2), .val (.ref r1), .val (.ref r2), .val (.int (0 : Int32)), .val (.int (1 : Int32))] [(.ref r2), (.ref r1)]))
    obtain ⟨cq15, kq15, q15a, q15b, q15c⟩ := isOf hZ e8 E1
    obtain ⟨_, _, ⟨T15, L15, k15, n15⟩, -, X15, ⟨Lc15, hQ15, l15, y15, z15⟩, st15⟩ := X8.virtualBack hx (y := (⟨"com/example/curves_to_bounds/curvestobounds/network/Multiplexing", "includes", "(Lcom/example/curves_to_bounds/curvestobounds/network/Multiplexing;)Z"⟩ : MethodName)) (z := (⟨"com/example/curves_to_bounds/curvestobounds/network/Multiplexing", "includes", "(Lcom/example/curves_to_bounds/curvestobounds/network/Multiplexing;)Z"⟩ : MethodName)) hown (mvT hZ (hw _ (List.mem_of_getElem? (i := 9) rfl))) (mvT hZ (hw _ (List.mem_of_getElem? (i := 10) rfl))) (notFace_of_selects (args := #[]) (mvT hZ (hw _ (List.mem_of_getElem? (i := 12) rfl)))) (mvT hZ (hw _ (List.mem_of_getElem? (i := 12) rfl))) (mvT hZ (hw _ (List.mem_of_getElem? (i := 11) rfl))) (by decide) (backOf (W := 0) (rm2 l Z a0 hw [] r1 r2 aA h0 n0 (by exact Z0) sA) hZ (hw _ (List.mem_of_getElem? (i := 13) rfl)) (hw _ (List.mem_of_getElem? (i := 5) rfl)) (by decide) (by decide)) q15a q15c (g := (mkF m 44 #[.val (.int p1), .val (.int p2), .val (.ref r1), .val (.ref r2), .val (.int (0 : Int32)), .val (.int (1 : Int32))] [(.ref r2), (.ref r1)])) rfl (by rw [hml]; rfl) (Steps.refl _) (argsL := [(.ref r2)]) (rest := []) (lenOf pd_1 rfl) rfl (by show 2 * 0 + _ ≤ _; exact Nat.le_of_eq rfl) (hb hby at_44) (fun _ _ => ⟨rfl, e8, (by decide : 0 + 0 ≤ _), (by decide : 0 + 0 ≤ _)⟩)
    dsimp only [Pt.U, Pt.locs, Pt.cells, Pt.slots] at X15 l15 y15 z15 st15 hQ15
    subst l15 y15 z15
    obtain ⟨rfl, N15q, e15⟩ := hQ15
    have N15 := Fr.app N8 N15q
    refine own_via st15 ?_
    show own_Fin p e below _ (T15.setTop (mkF m 47 #[.val (.int p1), .val (.int p2), .val (.ref r1), .val (.ref r2), .val (.int (0 : Int32)), .val (.int (1 : Int32))] [(.int (if r1 = aA ∨ r1 = r2 then (1 : Int32) else 0))]))
    refine own_on (fun t => XS.iload X15.here hx rfl (hb hby at_47) rfl) ?_
    show own_Fin p e below _ (T15.setTop (mkF m 49 #[.val (.int p1), .val (.int p2), .val (.ref r1), .val (.ref r2), .val (.int (0 : Int32)), .val (.int (1 : Int32))] [(.int (1 : Int32)), (.int (if r1 = aA ∨ r1 = r2 then (1 : Int32) else 0))]))
    by_cases hc16 : (if r1 = aA ∨ r1 = r2 then (1 : Int32) else 0) = (1 : Int32)
    · refine own_on (fun t => XS.icmpNo X15.here hx rfl (hb hby at_49) rfl (teq hc16).2) ?_
      show own_Fin p e below _ (T15.setTop (mkF m 52 #[.val (.int p1), .val (.int p2), .val (.ref r1), .val (.ref r2), .val (.int (0 : Int32)), .val (.int (1 : Int32))] []))
      refine own_on (fun t => XS.iconst X15.here hx rfl (hb hby at_52)) ?_
      show own_Fin p e below _ (T15.setTop (mkF m 53 #[.val (.int p1), .val (.int p2), .val (.ref r1), .val (.ref r2), .val (.int (0 : Int32)), .val (.int (1 : Int32))] [(.int (1 : Int32))]))
      refine own_on (fun t => XS.goto X15.here hx rfl (pc0 := 53) (pc' := 57) rfl (hb hby at_53) (by decide) (by decide)) ?_
      show own_Fin p e below _ (T15.setTop (mkF m 57 #[.val (.int p1), .val (.int p2), .val (.ref r1), .val (.ref r2), .val (.int (0 : Int32)), .val (.int (1 : Int32))] [(.int (1 : Int32))]))
      exact own_ret (t := .boolean) X15 hx hlk hret rfl (Or.inl ⟨rfl, (by simp), _, rfl⟩) (hb hby at_57) (⟨rfl, N15⟩) (by decide) (by decide)
    · refine own_on (fun t => XS.icmpYes X15.here hx rfl (pc0 := 49) (pc' := 56) rfl (hb hby at_49) rfl (feq hc16).2 (by decide) (by decide)) ?_
      show own_Fin p e below _ (T15.setTop (mkF m 56 #[.val (.int p1), .val (.int p2), .val (.ref r1), .val (.ref r2), .val (.int (0 : Int32)), .val (.int (1 : Int32))] []))
      refine own_on (fun t => XS.iconst X15.here hx rfl (hb hby at_56)) ?_
      show own_Fin p e below _ (T15.setTop (mkF m 57 #[.val (.int p1), .val (.int p2), .val (.ref r1), .val (.ref r2), .val (.int (0 : Int32)), .val (.int (1 : Int32))] [(.int (0 : Int32))]))
      exact own_ret (t := .boolean) X15 hx hlk hret rfl (Or.inl ⟨rfl, (by simp), _, rfl⟩) (hb hby at_57) (⟨by exfalso; rcases and_one p1 with q1 | q1 <;> rcases and_one p2 with q2 | q2 <;> simp_all, N15⟩) (by decide) (by decide)
set_option maxRecDepth 65536 in
set_option maxHeartbeats 40000000 in
theorem comes_1 {Post : Tables → Env → Array Value → State → Outcome → State → Prop} (hpost : ∀ tb e args s v u, (limb_1_1.after args s (.returned v) u = true ∧ limb_1_2.after args s (.returned v) u = true ∧ True) → FrameEnd s (.returned v) u (Jvm.fieldLocs frame_1_writes args s ++ Jvm.arrayLocs frame_1_arrays args s ++ Jvm.staticLocs frame_1_statics s) 0 0 → Post tb e args s (.returned v) u) :
    ArmFor flags0 classFile x code maxLocals ret World_1 tables_1 room_1 Calls_1 rest_1 Pre_1 Post := by
  intro l hfl _ _ p e ha hc hk s m args below hf hA hF happ hP
  obtain ⟨hcalls, hrest, hpre⟩ := hP
  obtain ⟨-, -, -, hnamed, -, -, -, hat⟩ := (Spec.applies_iff hf).mp happ
  obtain ⟨hg, hn⟩ := and_e (Cond.before_iff.mp (show (Jvm.Cond.and given_1 narrow_1).before args s = true from hpre))
  obtain ⟨ga0l, ga0r⟩ := and_e hg
  obtain ⟨ga1l, ga1r⟩ := and_e ga0r
  obtain ⟨na0l, na0r⟩ := and_e hn
  obtain ⟨na1l, na1r⟩ := and_e na0r
  obtain ⟨na2l, na2r⟩ := and_e na1r
  obtain ⟨w0, w1, rfl⟩ : ∃ w0 w1 : Value, args = #[w0, w1] := by
    have hs : args.size = 2 := by simpa [Cond.value, given_1] using ga0l
    obtain ⟨L⟩ := args
    match L, hs with
    | [w0, w1], _ => exact ⟨w0, w1, rfl⟩
  have hw := fun d (hd : d ∈ tables_1) => atoms_spec (ws := Jvm.Cond.code x code maxLocals ret :: tables_1) hat d (List.mem_cons_of_mem _ hd)
  have hfit : Fit s := fun {y c} hc i hi => by
    obtain ⟨ha, rfl⟩ := Array.getElem?_eq_some_iff.mp hc
    have q := List.all_eq_true.mp ((Array.all_eq_true_iff_forall_mem.mp hF) _ (Array.getElem_mem ha)) i (List.mem_range.mpr hi)
    simpa [Array.getElem?_eq_getElem hi] using q
  obtain ⟨i0, ei0⟩ := is_v ga1l
  obtain rfl : w0 = (.int i0) := Option.some.inj ei0
  obtain ⟨i1, ei1⟩ := is_v ga1r
  obtain rfl : w1 = (.int i1) := Option.some.inj ei1
  obtain ⟨a_Multiplexing_ARBITRARY, ev_Multiplexing_ARBITRARY⟩ := exa_v na0l
  have E_Multiplexing_ARBITRARY := Exa.start ev_Multiplexing_ARBITRARY na0l
  have S_Multiplexing_ARBITRARY := Sta.start ev_Multiplexing_ARBITRARY (Or.inr ⟨(hw _ (List.mem_of_getElem? (i := 5) rfl)), (hw _ (List.mem_of_getElem? (i := 6) rfl))⟩)
  obtain ⟨a_Multiplexing_FIFO, ev_Multiplexing_FIFO⟩ := exa_v na1l
  have E_Multiplexing_FIFO := Exa.start ev_Multiplexing_FIFO na1l
  have S_Multiplexing_FIFO := Sta.start ev_Multiplexing_FIFO (Or.inr ⟨(hw _ (List.mem_of_getElem? (i := 5) rfl)), (hw _ (List.mem_of_getElem? (i := 8) rfl))⟩)
  have F_Multiplexing_FIFO_ordinal := own_eqf ev_Multiplexing_FIFO na2l
  have F_Multiplexing_ARBITRARY_ordinal := own_eqf ev_Multiplexing_ARBITRARY na2r
  have ne := Fld.ne F_Multiplexing_ARBITRARY_ordinal F_Multiplexing_FIFO_ordinal (by decide)
  obtain ⟨n, o, h1, h2, h3, _, L, rfl, ⟨rfl, N⟩, hq⟩ := rm0 l s _ hw tables_1 i0 i1 a_Multiplexing_ARBITRARY a_Multiplexing_FIFO _ _ s.heap s.heap.size (Nat.le_refl _) S_Multiplexing_ARBITRARY S_Multiplexing_FIFO ne rfl rfl (by split <;> assumption) p e ha hc hk s m _ below hf ((Spec.applies_iff_loose hf).mp happ).1 ⟨rfl, State.Warmed39.refl s, rfl⟩ trivial
  refine ⟨n, _, h1, h2, h3, hpost _ _ _ _ _ _ ⟨Cond.after_iff.mpr rfl, Cond.after_iff.mpr (eq_i res_at (Term.int_eval (1)) rfl), trivial⟩ ⟨hq.1, hq.2.1, (hq.2.2.sift fun y hy => Or.inr (N y hy)).mono (by decide) (by decide)⟩⟩
theorem main_1_1 : Claimed_1_1 := comes_1 fun _ _ _ _ _ _ h hF => ⟨h.1, hF⟩
theorem main_1_2 : Claimed_1_2 := comes_1 fun _ _ _ _ _ _ h hF => ⟨h.2.1, hF⟩
end Jvm.Pilot.@@N@@
namespace Jvm.Pilot.@@N@@
open Jvm Jvm.ClassFile Sem Op Lib Jvm.Free Jvm.Stand Jvm.Pilot.@@N@@.Jvm.D
/-! MADE BY PROGRAM (witnessworld.py) out of the Statement's table words and the real class files: 12 classes; the members and pool entries that the words name. The judged class is class 1, her method 2. -/
namespace start1
open Jvm.ClassFile
def u (s : String) : CpInfo := .utf8 (stringToUtf16 s)
/-- a pool by its gaps: so many unusable entries, then the entry; so many at the end -/
def gap : Nat → List CpInfo → List CpInfo
  | 0, r => r
  | n + 1, r => .unusable :: gap n r
def poolList (es : List (Nat × CpInfo)) (last : Nat) : List CpInfo := es.foldr (fun e r => gap e.1 (e.2 :: r)) (gap last [])
def pool (es : List (Nat × CpInfo)) (last : Nat) : Array CpInfo := ⟨poolList es last⟩
def fileOf (pool : Array CpInfo) (this : Nat) (attrs : Array Attribute := #[]) (ms : Array MethodInfo := #[]) (fl : Nat := 33) (sup : Nat := 0) (ifs : Array Nat := #[]) (fds : Array FieldInfo := #[]) : ClassFile where
  minorVersion := 0
  majorVersion := 65
  constantPool := pool
  accessFlags := fl
  thisClass := this
  superClass := sup
  interfaces := ifs
  fields := fds
  methods := ms
  attributes := attrs
def plain (name : String) (sup : Option ClassId) : Class where
  name := name
  kind := .ordinary
  loader := none
  accessFlags := 33
  super := sup
  interfaces := #[]
  cf := none
  fields := #[]
  methods := #[]
  instanceTypes := #[]
  staticTypes := #[]
  resolved := #[]
  callSites := []
  init := .initialized
  statics := none
  mirror := none

def pool0 : Array CpInfo := pool [(5, u "<init>"), (0, u "()V"), (1, .class_ 10), (1, u "java/lang/Object")] 113

def k0m0 : Method := { name := "<init>", desc := "()V", sig := { parameters := [], returnType := none }, accessFlags := 1, code := none }
/-- java/lang/Object -/
def k0 : Class := { plain "java/lang/Object" none with
  accessFlags := 33
  interfaces := #[]
  cf := some (fileOf pool0 8 #[] #[{ accessFlags := 1, nameIndex := 5, descriptorIndex := 6, attributes := #[] }] 33 0 #[] #[])
  fields := #[]
  methods := #[k0m0]
  instanceTypes := #[]
  staticTypes := #[]
  resolved := Array.replicate 124 none
  statics := none }

def pool1 : Array CpInfo := pool [(2, .class_ 4), (1, u "java/lang/Object"), (0, u "<init>"), (0, u "()V"), (0, .fieldref 8 9), (0, .class_ 10), (0, .nameAndType 11 12), (0, u "com/example/curves_to_bounds/curvestobounds/network/Multiplexing"), (0, u "ARBITRARY"), (0, u "Lcom/example/curves_to_bounds/curvestobounds/network/Multiplexing;"), (0, .fieldref 8 14), (0, .nameAndType 15 12), (0, u "FIFO"), (0, .methodref 17 18), (0, .class_ 19), (0, .nameAndType 20 21), (0, u "com/example/curves_to_bounds/curvestobounds/network/MultiplexingIncludesPinLaw"), (0, u "pick"), (0, u "(I)Lcom/example/curves_to_bounds/curvestobounds/network/Multiplexing;"), (0, .methodref 8 23), (0, .nameAndType 24 25), (0, u "includes"), (0, u "(Lcom/example/curves_to_bounds/curvestobounds/network/Multiplexing;)Z"), (3, u "law"), (0, u "(II)Z")] 2

def k1m0 : Method := { name := "<init>", desc := "()V", sig := { parameters := [], returnType := none }, accessFlags := 1, code := none }
def k1c1 : Code := { maxStack := 2, maxLocals := 1, code := method_2_code, exceptionTable := #[], attributes := #[] }
def k1m1 : Method := { name := "pick", desc := "(I)Lcom/example/curves_to_bounds/curvestobounds/network/Multiplexing;", sig := { parameters := [.int], returnType := some (.object "com/example/curves_to_bounds/curvestobounds/network/Multiplexing") }, accessFlags := 10, code := some k1c1 }
def k1c2 : Code := { maxStack := 2, maxLocals := 6, code := code, exceptionTable := #[], attributes := #[] }
def k1m2 : Method := { name := "law", desc := "(II)Z", sig := { parameters := [.int, .int], returnType := some .boolean }, accessFlags := 9, code := some k1c2 }
/-- com/example/curves_to_bounds/curvestobounds/network/MultiplexingIncludesPinLaw -/
def k1 : Class := { plain "com/example/curves_to_bounds/curvestobounds/network/MultiplexingIncludesPinLaw" (some 0) with
  accessFlags := 49
  interfaces := #[]
  cf := some (fileOf pool1 17 #[] #[{ accessFlags := 1, nameIndex := 5, descriptorIndex := 6, attributes := #[] }, { accessFlags := 10, nameIndex := 20, descriptorIndex := 21, attributes := #[] }, { accessFlags := 9, nameIndex := 29, descriptorIndex := 30, attributes := #[] }] 49 2 #[] #[])
  fields := #[]
  methods := #[k1m0, k1m1, k1m2]
  instanceTypes := #[]
  staticTypes := #[]
  resolved := Array.replicate 33 none
  statics := none }

def pool2 : Array CpInfo := pool [(1, .class_ 2), (0, u "java/lang/constant/Constable"), (0, .class_ 4), (0, u "java/lang/Object")] 6

/-- java/lang/constant/Constable -/
def k2 : Class := { plain "java/lang/constant/Constable" (some 0) with
  accessFlags := 1537
  interfaces := #[]
  cf := some (fileOf pool2 1 #[] #[] 1537 3 #[] #[])
  fields := #[]
  methods := #[]
  instanceTypes := #[]
  staticTypes := #[]
  resolved := Array.replicate 11 none
  statics := none }

def pool3 : Array CpInfo := pool [(1, .class_ 2), (0, u "java/lang/Comparable"), (0, .class_ 4), (0, u "java/lang/Object")] 7

/-- java/lang/Comparable -/
def k3 : Class := { plain "java/lang/Comparable" (some 0) with
  accessFlags := 1537
  interfaces := #[]
  cf := some (fileOf pool3 1 #[] #[] 1537 3 #[] #[])
  fields := #[]
  methods := #[]
  instanceTypes := #[]
  staticTypes := #[]
  resolved := Array.replicate 12 none
  statics := none }

def pool4 : Array CpInfo := pool [(1, .class_ 2), (0, u "java/io/Serializable"), (0, .class_ 4), (0, u "java/lang/Object")] 2

/-- java/io/Serializable -/
def k4 : Class := { plain "java/io/Serializable" (some 0) with
  accessFlags := 1537
  interfaces := #[]
  cf := some (fileOf pool4 1 #[] #[] 1537 3 #[] #[])
  fields := #[]
  methods := #[]
  instanceTypes := #[]
  staticTypes := #[]
  resolved := Array.replicate 7 none
  statics := none }

def pool5 : Array CpInfo := pool [(2, .class_ 4), (1, u "java/lang/Enum"), (0, u "name"), (0, u "Ljava/lang/String;"), (2, u "ordinal"), (0, u "I"), (1, .class_ 14), (1, u "java/lang/Object"), (4, u "hash"), (86, .class_ 108), (1, u "java/lang/Enum$EnumDesc"), (2, .class_ 112), (0, u "java/lang/constant/Constable"), (0, .class_ 114), (0, u "java/lang/Comparable"), (0, .class_ 116), (0, u "java/io/Serializable")] 87

/-- java/lang/Enum -/
def k5 : Class := { plain "java/lang/Enum" (some 0) with
  accessFlags := 1057
  interfaces := #[2, 3, 4]
  cf := some (fileOf pool5 2 #[.nestMembers #[106]] #[] 1057 12 #[111, 113, 115] #[{ accessFlags := 18, nameIndex := 5, descriptorIndex := 6, attributes := #[] }, { accessFlags := 18, nameIndex := 9, descriptorIndex := 10, attributes := #[] }, { accessFlags := 2, nameIndex := 19, descriptorIndex := 10, attributes := #[] }])
  fields := #[{ name := "name", type := (.object "java/lang/String"), accessFlags := 18, slot := 0, constantValue := 0 }, { name := "ordinal", type := .int, accessFlags := 18, slot := 1, constantValue := 0 }, { name := "hash", type := .int, accessFlags := 2, slot := 2, constantValue := 0 }]
  methods := #[]
  instanceTypes := #[(.object "java/lang/String"), .int, .int]
  staticTypes := #[]
  resolved := Array.replicate 204 none
  statics := none }

def pool6 : Array CpInfo := pool [(1, .class_ 2), (0, u "com/example/curves_to_bounds/curvestobounds/network/Multiplexing"), (0, .fieldref 1 4), (0, .nameAndType 5 6), (0, u "ARBITRARY"), (0, u "Lcom/example/curves_to_bounds/curvestobounds/network/Multiplexing;"), (2, u "FIFO"), (2, u "$VALUES"), (0, u "[Lcom/example/curves_to_bounds/curvestobounds/network/Multiplexing;"), (6, .class_ 22), (1, u "java/lang/Enum"), (20, u "includes"), (0, u "(Lcom/example/curves_to_bounds/curvestobounds/network/Multiplexing;)Z")] 5

def k6c0 : Code := { maxStack := 2, maxLocals := 2, code := prog_28_method_4_code, exceptionTable := #[], attributes := #[] }
def k6m0 : Method := { name := "includes", desc := "(Lcom/example/curves_to_bounds/curvestobounds/network/Multiplexing;)Z", sig := { parameters := [(.object "com/example/curves_to_bounds/curvestobounds/network/Multiplexing")], returnType := some .boolean }, accessFlags := 1, code := some k6c0 }
/-- com/example/curves_to_bounds/curvestobounds/network/Multiplexing -/
def k6 : Class := { plain "com/example/curves_to_bounds/curvestobounds/network/Multiplexing" (some 5) with
  accessFlags := 16433
  interfaces := #[]
  cf := some (fileOf pool6 1 #[] #[{ accessFlags := 1, nameIndex := 43, descriptorIndex := 44, attributes := #[] }] 16433 20 #[] #[{ accessFlags := 16409, nameIndex := 5, descriptorIndex := 6, attributes := #[] }, { accessFlags := 16409, nameIndex := 9, descriptorIndex := 6, attributes := #[] }, { accessFlags := 4122, nameIndex := 12, descriptorIndex := 13, attributes := #[] }])
  fields := #[{ name := "ARBITRARY", type := (.object "com/example/curves_to_bounds/curvestobounds/network/Multiplexing"), accessFlags := 16409, slot := 0, constantValue := 0 }, { name := "FIFO", type := (.object "com/example/curves_to_bounds/curvestobounds/network/Multiplexing"), accessFlags := 16409, slot := 1, constantValue := 0 }, { name := "$VALUES", type := (.array (.object "com/example/curves_to_bounds/curvestobounds/network/Multiplexing")), accessFlags := 4122, slot := 2, constantValue := 0 }]
  methods := #[k6m0]
  instanceTypes := #[(.object "java/lang/String"), .int, .int]
  staticTypes := #[(.object "com/example/curves_to_bounds/curvestobounds/network/Multiplexing"), (.object "com/example/curves_to_bounds/curvestobounds/network/Multiplexing"), (.array (.object "com/example/curves_to_bounds/curvestobounds/network/Multiplexing"))]
  resolved := Array.replicate 50 none
  statics := some 0 }

def pool7 : Array CpInfo := pool [(1, u "java/lang/Cloneable"), (0, .class_ 1), (0, u "java/lang/Object"), (0, .class_ 3)] 3

/-- java/lang/Cloneable -/
def k7 : Class := { plain "java/lang/Cloneable" (some 0) with
  accessFlags := 1537
  interfaces := #[]
  cf := some (fileOf pool7 2 #[] #[] 1537 4 #[] #[])
  fields := #[]
  methods := #[]
  instanceTypes := #[]
  staticTypes := #[]
  resolved := Array.replicate 8 none
  statics := none }

/-- the primitive byte -/
def k8 : Class := { plain "byte" none with kind := .primitive 'B', accessFlags := 0x411 }
/-- [B -/
def k9 : Class := { plain "[B" (some 0) with kind := .array 8 .byte, interfaces := #[7, 4], accessFlags := 1041 }

/-- the primitive int -/
def k10 : Class := { plain "int" none with kind := .primitive 'I', accessFlags := 0x411 }
/-- [I -/
def k11 : Class := { plain "[I" (some 0) with kind := .array 10 .int, interfaces := #[7, 4], accessFlags := 1041 }

def heap : Heap := #[{ cls := 6, slots := #[.ref 1, .ref 2, .null], vm := .statics 6 },
  { cls := 6, slots := #[.null, .int 0, .int 0], vm := .none },
  { cls := 6, slots := #[.null, .int 1, .int 0], vm := .none }]
def classes : Array Class := #[k0, k1, k2, k3, k4, k5, k6, k7, k8, k9, k10, k11]
def interned : List (Array UInt16 × Addr) := []
def slotsUsed : Nat := 9
def theMethod : MethodId := ⟨1, 2⟩
def args0 : Array Value := #[.int 5, .int 7]
def aboutOver (below : List Frame) : State where
  vm := { classes := classes, interned := interned.toArray }
  heap := heap
  slotsUsed := slotsUsed
  threads := #[{ frames := .invoking theMethod args0 :: below }]
def below0 : List Frame := [.native { method := ⟨0, 0⟩, args := #[] }]
def about1 : State := aboutOver below0
def p0 : Program := .bare "" "" ""
def e0 : Env := launch0.env 0 0 0
theorem w_frames : about1.frames = Frame.invoking theMethod args0 :: below0 := rfl
set_option maxRecDepth 65536 in
theorem w_args : argsFit about1.vm theMethod args0 = true := by decide +kernel
set_option maxRecDepth 65536 in
theorem w_heap : heapFits about1 = true := by decide +kernel
set_option maxRecDepth 65536 in
theorem w_runnable : about1.curStatus? = some .runnable := by decide +kernel
set_option maxRecDepth 65536 in
theorem w_alone : about1.alone = true := by decide +kernel
set_option maxRecDepth 65536 in
theorem w_named : about1.methodNamed? x = some theMethod := by decide +kernel
set_option maxRecDepth 65536 in
theorem w_hears : about1.hears theMethod below0 = true := by decide +kernel
set_option maxRecDepth 65536 in
theorem w_ripe : about1.ripe theMethod args0 below0 = true := by decide +kernel
theorem w_running : about1.status = .running := rfl
set_option maxRecDepth 65536 in
theorem w_room : about1.hasRoom e0.platform room_1 = true :=
  launch0.hasRoom_least _ room_1 (by decide +kernel) (by decide +kernel) (by decide +kernel) (by decide +kernel) (by decide +kernel) (by decide +kernel)
theorem allAtoms_all (ts : List Jvm.Cond) (a : Array Jvm.Value) (st : Jvm.State) : (allAtoms ts).before a st = ts.all (fun c => c.before a st) := by
  induction ts with
  | nil => rfl
  | cons c t ih =>
    show (Jvm.Cond.and c (allAtoms t)).before a st = _
    rw [Jvm.Cond.before_and, ih, List.all_cons]
def words1 : List Jvm.Cond := Jvm.Cond.code x code maxLocals ret :: tables_1
/-- a 'code' word, met by the world's own term for the bytes: nothing is compared byte by byte -/
theorem code_word {y : MethodName} {bytes : ByteArray} {mx : Nat} {rt : Option FieldType} {a : Array Value} {s : State} {m : MethodId} {meth : Method} {c : Code} (h1 : s.methodNamed? y = some m) (h2 : s.vm.method? m = some meth) (h3 : meth.code = some c) (h4 : c.code = bytes)
    (h5 : (c.maxLocals == mx && c.exceptionTable.isEmpty && decide (c.maxStack ≤ mostOperands) && decide (meth.sig.returnType = rt) && !meth.locks && decide (parseMethodDescriptor y.desc = some meth.sig)) = true) : (Jvm.Cond.code y bytes mx rt).before a s = true := by
  simp only [Bool.and_eq_true, beq_iff_eq, Bool.not_eq_true', decide_eq_true_eq] at h5
  obtain ⟨⟨⟨⟨⟨g1, g2⟩, g3⟩, g4⟩, g5⟩, g6⟩ := h5
  simp [Cond.before, Cond.holds, Cond.value, h1, h2, h3, h4, g1, g2, g3, g4, g5, g6]
def isCode : Jvm.Cond → Bool
  | .code _ _ _ _ => true
  | _ => false
theorem all_split {L : List Jvm.Cond} {P : Jvm.Cond → Bool} (h1 : L.all (fun c => isCode c || P c) = true) (h2 : ∀ c ∈ L.filter isCode, P c = true) : L.all P = true := by
  refine List.all_eq_true.mpr fun c hc => ?_
  have h := List.all_eq_true.mp h1 c hc
  rcases Bool.eq_false_or_eq_true (isCode c) with hi | hi
  · exact h2 c (List.mem_filter.mpr ⟨hc, hi⟩)
  · simpa [hi] using h
set_option maxRecDepth 65536 in
theorem w_c0 : (Jvm.Cond.code x code maxLocals ret).before args0 about1 = true := code_word (m := ⟨1, 2⟩) (meth := k1m2) (c := k1c2) (by decide +kernel) rfl rfl rfl (by decide +kernel)
set_option maxRecDepth 65536 in
theorem w_c1 : (Jvm.Cond.code ({ cls := "com/example/curves_to_bounds/curvestobounds/network/MultiplexingIncludesPinLaw", name := "pick", desc := "(I)Lcom/example/curves_to_bounds/curvestobounds/network/Multiplexing;" } : Jvm.MethodName) method_2_code (1 : Nat) (Option.some (Jvm.ClassFile.FieldType.object "com/example/curves_to_bounds/curvestobounds/network/Multiplexing"))).before args0 about1 = true := code_word (m := ⟨1, 1⟩) (meth := k1m1) (c := k1c1) (by decide +kernel) rfl rfl rfl (by decide +kernel)
set_option maxRecDepth 65536 in
theorem w_c2 : (Jvm.Cond.code ({ cls := "com/example/curves_to_bounds/curvestobounds/network/Multiplexing", name := "includes", desc := "(Lcom/example/curves_to_bounds/curvestobounds/network/Multiplexing;)Z" } : Jvm.MethodName) prog_28_method_4_code (2 : Nat) (Option.some Jvm.ClassFile.FieldType.boolean)).before args0 about1 = true := code_word (m := ⟨6, 0⟩) (meth := k6m0) (c := k6c0) (by decide +kernel) rfl rfl rfl (by decide +kernel)
def codes1 : List Jvm.Cond := [Jvm.Cond.code x code maxLocals ret, Jvm.Cond.code ({ cls := "com/example/curves_to_bounds/curvestobounds/network/MultiplexingIncludesPinLaw", name := "pick", desc := "(I)Lcom/example/curves_to_bounds/curvestobounds/network/Multiplexing;" } : Jvm.MethodName) method_2_code (1 : Nat) (Option.some (Jvm.ClassFile.FieldType.object "com/example/curves_to_bounds/curvestobounds/network/Multiplexing")), Jvm.Cond.code ({ cls := "com/example/curves_to_bounds/curvestobounds/network/Multiplexing", name := "includes", desc := "(Lcom/example/curves_to_bounds/curvestobounds/network/Multiplexing;)Z" } : Jvm.MethodName) prog_28_method_4_code (2 : Nat) (Option.some Jvm.ClassFile.FieldType.boolean)]
set_option maxRecDepth 65536 in
theorem codes_eq : words1.filter isCode = codes1 := rfl
theorem w_codes : ∀ c ∈ words1.filter isCode, c.before args0 about1 = true := by
  rw [codes_eq]
  intro c hc
  simp only [codes1, List.mem_cons, List.not_mem_nil, or_false] at hc
  rcases hc with rfl | rfl | rfl
  · exact w_c0
  · exact w_c1
  · exact w_c2
set_option maxRecDepth 65536 in
theorem w_t1 : words1.all (fun c => isCode c || c.before args0 about1) = true := by decide +kernel
theorem w_tables : (allAtoms (Jvm.Cond.code x code maxLocals ret :: tables_1)).before args0 about1 = true := by
  rw [allAtoms_all]
  show words1.all (fun c => c.before args0 about1) = true
  refine all_split ?_ w_codes
  rw [w_t1]
set_option maxRecDepth 65536 in
theorem w_case : (Jvm.Cond.and given_1 narrow_1).before args0 about1 = true := by decide +kernel
theorem w_applies : (headSpec (Jvm.Cond.code x code maxLocals ret :: tables_1) room_1).applies x e0.platform about1 = true :=
  (Spec.applies_iff w_frames).mpr ⟨w_running, w_runnable, w_alone, w_named, w_hears, w_ripe, w_room, w_tables⟩
theorem atStart : AtStart classFile x code maxLocals ret World_1 tables_1 room_1 Calls_1 rest_1 Pre_1 launch0 p0 e0 about1 theMethod args0 below0 :=
  ⟨lists_1, trivial, launch0.admits_env _ _ _, launch0.least_env, fairChoices_fair.cas, fairChoices_fair.clock, w_frames, w_args, w_heap, w_applies, trivial, trivial, w_case⟩
end start1
theorem witness_1 : WitnessClaimed_1 := ⟨start1.p0, start1.e0, start1.about1, start1.theMethod, start1.args0, start1.below0, start1.atStart⟩
end Jvm.Pilot.@@N@@
