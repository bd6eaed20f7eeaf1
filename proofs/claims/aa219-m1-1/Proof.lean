import JvmDerived
import JvmDerived.Pilot.@@N@@Statement
import JvmDerived.Pilot.@@N@@Code
set_option linter.unusedVariables false
set_option linter.unusedSimpArgs false
namespace Jvm.Pilot.@@N@@
open Jvm Jvm.ClassFile Sem Op Lib Jvm.Free Jvm.Stand Jvm.LawKit Jvm.RoadKit Bundle Jvm.Pilot.@@N@@.Jvm.D
section Own
variable {p : Program} {l : Launch} {e : Env} {R : Room} {s : State} {m : MethodId} {args : Array Value} {below : List Frame} {meth : Method} {c : Code} {T : State} {locs : List Loc} {cells slots : Nat} {P : Outcome → State → Prop}
/-- from S the run comes to an end that answers -/
def own_Fin (p : Program) (e : Env) (below : List Frame) (P : Outcome → State → Prop) (S : State) : Prop := ∃ s₂ o, Steps p.tables e below S s₂ ∧ s₂.status = .running ∧ Ended s₂ below o ∧ P o s₂
def own_Ans (s : State) (Q : Option Value → Heap → List Loc → Prop) (k n : Nat) (o : Outcome) (t : State) : Prop := ∃ v L, o = .returned v ∧ Q v t.heap L ∧ FrameEnd s o t L k n
theorem own_on {A B : State} (k : ∀ t, Steps p.tables e below B t → Steps p.tables e below A t) (h : own_Fin p e below P B) : own_Fin p e below P A := by
  obtain ⟨s₂, o, h1, h2⟩ := h
  exact ⟨s₂, o, k _ h1, h2⟩
theorem own_via {A B : State} (k : Steps p.tables e below A B) (h : own_Fin p e below P B) : own_Fin p e below P A := own_on (fun _ r => k.trans r) h
theorem own_cast {g g' : JFrame} (q : g = g') (h : own_Fin p e below P (T.setTop g')) : own_Fin p e below P (T.setTop g) := q ▸ h
theorem own_ret {Q : Option Value → Heap → List Loc → Prop} {k n : Nat} (X : Stand p l e R s m args below meth c T locs cells slots) (hx : p.tables.exec = Jvm.exec) (hlk : meth.locks = false) {pc : Nat} {Ls : Array Slot} {w : Value} {t : FieldType} {i : Instr} {rest : List Value} (hret : meth.sig.returnType = some t) (hn : narrow t w = w)
    (hi : (i = .ireturn ∧ (t = .int ∨ t = .boolean ∨ t = .byte ∨ t = .char ∨ t = .short) ∧ ∃ z, w = .int z) ∨ (i = .lreturn ∧ t = .long ∧ ∃ z, w = .long z) ∨ (i = .dreturn ∧ t = .double ∧ ∃ z, w = .double z) ∨ (i = .freturn ∧ t = .float ∧ ∃ z, w = .float z) ∨ (i = .areturn ∧ t.isReference = true ∧ w.isRef = true))
    (hd : decode c.code pc = .ok (i, 1)) (hQ : Q (some w) T.heap locs) (hk : cells ≤ k) (hs : slots ≤ n) : own_Fin p e below (own_Ans s Q k n) (T.setTop (mkF m pc Ls (w :: rest))) := by
  obtain ⟨fs, hr, hrun, hended, hW, hsame⟩ := X.leave (v := some w) (fun h => by rw [hret] at h; cases h) hlk
  exact ⟨_, _, retOut X hx hret hn hi hd hr, hrun, hended, _, _, rfl, hQ, ⟨_, rfl⟩, hW, hsame.mono hk hs⟩
theorem own_retV {Q : Option Value → Heap → List Loc → Prop} {k n : Nat} (X : Stand p l e R s m args below meth c T locs cells slots) (hx : p.tables.exec = Jvm.exec) (hlk : meth.locks = false) {pc : Nat} {Ls : Array Slot} (hret : meth.sig.returnType = none)
    (hd : decode c.code pc = .ok (.return_, 1)) (hQ : Q none T.heap locs) (hk : cells ≤ k) (hs : slots ≤ n) : own_Fin p e below (own_Ans s Q k n) (T.setTop (mkF m pc Ls [])) := by
  obtain ⟨fs, hr, hrun, hended, hW, hsame⟩ := X.leave (v := none) (fun _ => rfl) hlk
  exact ⟨_, _, X.returnOut hx hret hd hr, hrun, hended, _, _, rfl, hQ, ⟨_, rfl⟩, hW, hsame.mono hk hs⟩
theorem own_b1 {P : Prop} [Decidable P] (h : P) : ¬ ((if P then (1 : Int32) else 0) = 0) := by simp [h]
theorem own_b0 {P : Prop} [Decidable P] (h : ¬ P) : (if P then (1 : Int32) else 0) = 0 := by simp [h]
theorem own_nb {P : Prop} [Decidable P] : narrow .boolean (.int (if P then (1 : Int32) else 0)) = .int (if P then (1 : Int32) else 0) := by split <;> rfl
theorem own_iI {t : FieldType} (h : t = .int ∨ t = .boolean ∨ t = .byte ∨ t = .char ∨ t = .short) {w : Value} {z : Int32} (hw : w = .int z) : ((Instr.ireturn = .ireturn ∧ (t = .int ∨ t = .boolean ∨ t = .byte ∨ t = .char ∨ t = .short) ∧ ∃ z, w = .int z) ∨ (Instr.ireturn = .lreturn ∧ t = .long ∧ ∃ z, w = .long z) ∨ (Instr.ireturn = .dreturn ∧ t = .double ∧ ∃ z, w = .double z) ∨ (Instr.ireturn = .freturn ∧ t = .float ∧ ∃ z, w = .float z) ∨ (Instr.ireturn = .areturn ∧ t.isReference = true ∧ w.isRef = true)) := Or.inl ⟨rfl, h, z, hw⟩
theorem own_ne_of {Z : State} {h : Heap} {x : Addr} (q : x < h.size) {b : Addr} (g : b = h.size) : x ≠ b := Nat.ne_of_lt (Nat.lt_of_lt_of_le q (Nat.le_of_eq g.symm))
theorem own_eqf {a0 : Array Value} {C n d : String} {t : Term} {a : Addr} {k : Int32} (ev : t.eval a0 s none [] s = some (.ref a)) (h : (Jvm.Cond.eq (.field t C n d) (.int k)).value a0 s none s [] = some true) : Fld s s.heap a C n d (.int k) := by
  obtain ⟨x, y, h1, h2, h3, -⟩ := cmp_v (Or.inl h)
  have hy : y = .int k := (Option.some.inj ((show (Term.int k).eval a0 s none [] s = some (.int k) from rfl).symm.trans h2)).symm
  subst hy
  cases x <;> simp [Kin, Value.isRef] at h3
  rename_i z
  have hz : z = k := by
    have q := h
    simp only [Cond.value, h1, show (Term.int k).eval a0 s none [] s = some (.int k) from rfl] at q
    simpa using q
  subst hz
  exact Fld.start ((fld_at ev).symm.trans h1)
theorem own_len {a0 : Array Value} {t : Term} {a : Addr} {cl : Cell} {z : Int32} (ht : t.eval a0 s none [] s = some (.ref a)) (ha : s.arrayAt? a = some cl) (h : (Term.length t).eval a0 s none [] s = some (.int z)) : cl.slots.size < 2 ^ 31 ∧ cl.slots.size.toInt32 = z := by
  by_cases hl : cl.slots.size < 2 ^ 31
  · rw [len_f ht ha hl] at h
    exact ⟨hl, by simpa using h⟩
  · have hl' : ¬ cl.slots.size < 2147483648 := hl
    simp [Term.eval, ht, ha, hl'] at h
theorem own_sub {a0 : Array Value} {t u : Term} {idx : List Nat} {x y : Int32} (h1 : t.eval a0 s none idx s = some (.int x)) (h2 : u.eval a0 s none idx s = some (.int y)) : (Term.sub t u).eval a0 s none idx s = some (.int (x - y)) := by simp [Term.eval, h1, h2]
theorem own_eqx {a0 : Array Value} {t u : Term} {b : Addr} (eu : u.eval a0 s none [] s = some (.ref b)) (h : (Jvm.Cond.eq t u).value a0 s none s [] = some true) : t.eval a0 s none [] s = some (.ref b) := by
  obtain ⟨x, y, h1, h2, h3, -⟩ := cmp_v (Or.inl h)
  cases eu.symm.trans h2
  have hr : x.isRef = true := by cases x <;> simp [Kin, Value.isRef] at h3 ⊢
  have q := gotT (eq_R h1 eu hr rfl) h
  subst q
  exact h1
theorem own_eqr {a0 : Array Value} {C n d : String} {t u : Term} {a b : Addr} (ev : t.eval a0 s none [] s = some (.ref a)) (eu : u.eval a0 s none [] s = some (.ref b)) (h : (Jvm.Cond.eq (.field t C n d) u).value a0 s none s [] = some true) : Fld s s.heap a C n d (.ref b) := by
  obtain ⟨x, y, h1, h2, h3, -⟩ := cmp_v (Or.inl h)
  cases eu.symm.trans h2
  have hr : x.isRef = true := by cases x <;> simp [Kin, Value.isRef] at h3 ⊢
  have q := gotT (eq_R h1 eu hr rfl) h
  subst q
  exact Fld.start ((fld_at ev).symm.trans h1)
end Own
def own_pick (k : Int32) (c0 c1 c2 c3 c4 c5 c6 c7 c8 c9 c10 : Addr) : Addr := if k = 0 then c0 else if k = 1 then c1 else if k = 2 then c2 else if k = 3 then c3 else if k = 4 then c4 else if k = 5 then c5 else if k = 6 then c6 else if k = 7 then c7 else if k = 8 then c8 else if k = 9 then c9 else c10
theorem pn_0 : plainName "com/example/tidelock/tidelock/DecisionRefusedPinLaw" = true := by first | (simp [plainName, overriddenIn]; done) | decide +kernel
theorem d1_0 : decode method_2_code 0 = .ok (.iload_n 0, 1) := by decide +kernel
theorem d1_1 : decode method_2_code 1 = .ok (.ifCond .ne 7, 3) := by decide +kernel
theorem d1_4 : decode method_2_code 4 = .ok (.getstatic 7, 3) := by decide +kernel
theorem d1_7 : decode method_2_code 7 = .ok (.areturn, 1) := by decide +kernel
theorem d1_8 : decode method_2_code 8 = .ok (.iload_n 0, 1) := by decide +kernel
theorem d1_9 : decode method_2_code 9 = .ok (.iconst 1, 1) := by decide +kernel
theorem d1_10 : decode method_2_code 10 = .ok (.if_icmp .ne 7, 3) := by decide +kernel
theorem d1_13 : decode method_2_code 13 = .ok (.getstatic 13, 3) := by decide +kernel
theorem d1_16 : decode method_2_code 16 = .ok (.areturn, 1) := by decide +kernel
theorem d1_17 : decode method_2_code 17 = .ok (.iload_n 0, 1) := by decide +kernel
theorem d1_18 : decode method_2_code 18 = .ok (.iconst 2, 1) := by decide +kernel
theorem d1_19 : decode method_2_code 19 = .ok (.if_icmp .ne 7, 3) := by decide +kernel
theorem d1_22 : decode method_2_code 22 = .ok (.getstatic 16, 3) := by decide +kernel
theorem d1_25 : decode method_2_code 25 = .ok (.areturn, 1) := by decide +kernel
theorem d1_26 : decode method_2_code 26 = .ok (.iload_n 0, 1) := by decide +kernel
theorem d1_27 : decode method_2_code 27 = .ok (.iconst 3, 1) := by decide +kernel
theorem d1_28 : decode method_2_code 28 = .ok (.if_icmp .ne 7, 3) := by decide +kernel
theorem d1_31 : decode method_2_code 31 = .ok (.getstatic 19, 3) := by decide +kernel
theorem d1_34 : decode method_2_code 34 = .ok (.areturn, 1) := by decide +kernel
theorem d1_35 : decode method_2_code 35 = .ok (.iload_n 0, 1) := by decide +kernel
theorem d1_36 : decode method_2_code 36 = .ok (.iconst 4, 1) := by decide +kernel
theorem d1_37 : decode method_2_code 37 = .ok (.if_icmp .ne 7, 3) := by decide +kernel
theorem d1_40 : decode method_2_code 40 = .ok (.getstatic 22, 3) := by decide +kernel
theorem d1_43 : decode method_2_code 43 = .ok (.areturn, 1) := by decide +kernel
theorem d1_44 : decode method_2_code 44 = .ok (.iload_n 0, 1) := by decide +kernel
theorem d1_45 : decode method_2_code 45 = .ok (.iconst 5, 1) := by decide +kernel
theorem d1_46 : decode method_2_code 46 = .ok (.if_icmp .ne 7, 3) := by decide +kernel
theorem d1_49 : decode method_2_code 49 = .ok (.getstatic 25, 3) := by decide +kernel
theorem d1_52 : decode method_2_code 52 = .ok (.areturn, 1) := by decide +kernel
theorem d1_53 : decode method_2_code 53 = .ok (.iload_n 0, 1) := by decide +kernel
theorem d1_54 : decode method_2_code 54 = .ok (.bipush 6, 2) := by decide +kernel
theorem d1_56 : decode method_2_code 56 = .ok (.if_icmp .ne 7, 3) := by decide +kernel
theorem d1_59 : decode method_2_code 59 = .ok (.getstatic 28, 3) := by decide +kernel
theorem d1_62 : decode method_2_code 62 = .ok (.areturn, 1) := by decide +kernel
theorem d1_63 : decode method_2_code 63 = .ok (.iload_n 0, 1) := by decide +kernel
theorem d1_64 : decode method_2_code 64 = .ok (.bipush 7, 2) := by decide +kernel
theorem d1_66 : decode method_2_code 66 = .ok (.if_icmp .ne 7, 3) := by decide +kernel
theorem d1_69 : decode method_2_code 69 = .ok (.getstatic 31, 3) := by decide +kernel
theorem d1_72 : decode method_2_code 72 = .ok (.areturn, 1) := by decide +kernel
theorem d1_73 : decode method_2_code 73 = .ok (.iload_n 0, 1) := by decide +kernel
theorem d1_74 : decode method_2_code 74 = .ok (.bipush 8, 2) := by decide +kernel
theorem d1_76 : decode method_2_code 76 = .ok (.if_icmp .ne 7, 3) := by decide +kernel
theorem d1_79 : decode method_2_code 79 = .ok (.getstatic 34, 3) := by decide +kernel
theorem d1_82 : decode method_2_code 82 = .ok (.areturn, 1) := by decide +kernel
theorem d1_83 : decode method_2_code 83 = .ok (.iload_n 0, 1) := by decide +kernel
theorem d1_84 : decode method_2_code 84 = .ok (.bipush 9, 2) := by decide +kernel
theorem d1_86 : decode method_2_code 86 = .ok (.if_icmp .ne 7, 3) := by decide +kernel
theorem d1_89 : decode method_2_code 89 = .ok (.getstatic 37, 3) := by decide +kernel
theorem d1_92 : decode method_2_code 92 = .ok (.areturn, 1) := by decide +kernel
theorem d1_93 : decode method_2_code 93 = .ok (.getstatic 40, 3) := by decide +kernel
theorem d1_96 : decode method_2_code 96 = .ok (.areturn, 1) := by decide +kernel
theorem ef_rm1 (m : MethodId) (x0 : Int32) : entryFrame m #[(.int x0)] 1 = mkF m 0 #[.val (.int x0)] [] := by first | (simp [entryFrame, mkF, argsToLocals, Value.category]; done) | rfl
def Q1 (Z : State) (p1 : Int32) (c0 : Addr) (c1 : Addr) (c2 : Addr) (c3 : Addr) (c4 : Addr) (c5 : Addr) (c6 : Addr) (c7 : Addr) (c8 : Addr) (c9 : Addr) (c10 : Addr) (r : Addr) (h0 : Heap) (n0 : Nat) (v : Option Value) (h : Heap) (L : List Loc) : Prop := v = some (.ref r) ∧ Fr n0 L ∧ h = h0
set_option maxRecDepth 65536 in
set_option maxHeartbeats 40000000 in
theorem rm1 (l : Launch) (Z : State) (a0 : Array Value) (hw : ∀ d ∈ tables_1, d.before a0 Z = true) (ws : List Jvm.Cond) (p1 : Int32) (c0 : Addr) (c1 : Addr) (c2 : Addr) (c3 : Addr) (c4 : Addr) (c5 : Addr) (c6 : Addr) (c7 : Addr) (c8 : Addr) (c9 : Addr) (c10 : Addr) (r : Addr) (h0 : Heap) (n0 : Nat) (Z0 : n0 ≤ h0.size) (s0 : Sta Z h0 "com/example/tidelock/tidelock/Outcome" "NO_SUCH_SALE" "Lcom/example/tidelock/tidelock/Outcome;" (.ref c0)) (s1 : Sta Z h0 "com/example/tidelock/tidelock/Outcome" "IDEMPOTENCY_KEY_MISSING" "Lcom/example/tidelock/tidelock/Outcome;" (.ref c1)) (s2 : Sta Z h0 "com/example/tidelock/tidelock/Outcome" "IDEMPOTENCY_KEY_REUSED" "Lcom/example/tidelock/tidelock/Outcome;" (.ref c2)) (s3 : Sta Z h0 "com/example/tidelock/tidelock/Outcome" "NOT_STARTED" "Lcom/example/tidelock/tidelock/Outcome;" (.ref c3)) (s4 : Sta Z h0 "com/example/tidelock/tidelock/Outcome" "ENDED" "Lcom/example/tidelock/tidelock/Outcome;" (.ref c4)) (s5 : Sta Z h0 "com/example/tidelock/tidelock/Outcome" "SOLD_OUT" "Lcom/example/tidelock/tidelock/Outcome;" (.ref c5)) (s6 : Sta Z h0 "com/example/tidelock/tidelock/Outcome" "NO_SUCH_CLAIM" "Lcom/example/tidelock/tidelock/Outcome;" (.ref c6)) (s7 : Sta Z h0 "com/example/tidelock/tidelock/Outcome" "BAD_TOKEN" "Lcom/example/tidelock/tidelock/Outcome;" (.ref c7)) (s8 : Sta Z h0 "com/example/tidelock/tidelock/Outcome" "PAID" "Lcom/example/tidelock/tidelock/Outcome;" (.ref c8)) (s9 : Sta Z h0 "com/example/tidelock/tidelock/Outcome" "EXPIRED" "Lcom/example/tidelock/tidelock/Outcome;" (.ref c9)) (s10 : Sta Z h0 "com/example/tidelock/tidelock/Outcome" "RELEASED" "Lcom/example/tidelock/tidelock/Outcome;" (.ref c10)) (hr : r = own_pick p1 c0 c1 c2 c3 c4 c5 c6 c7 c8 c9 c10) :
    MetFree l (⟨"com/example/tidelock/tidelock/DecisionRefusedPinLaw", "pick", "(I)Lcom/example/tidelock/tidelock/Outcome;"⟩ : MethodName) (head1 (Jvm.Cond.code (⟨"com/example/tidelock/tidelock/DecisionRefusedPinLaw", "pick", "(I)Lcom/example/tidelock/tidelock/Outcome;"⟩ : MethodName) method_2_code 1 (some (.object "com/example/tidelock/tidelock/Outcome")) :: ws) ({ frames := 0, cells := 0, slots := 0, locals := 0 } : Room)) (fun as_ U => as_ = #[(.int p1)] ∧ Z.Warmed39 U.vm ∧ U.heap = h0) (fun _ _ _ _ _ => True) (fun _ U out_ U' => ∃ v L, out_ = .returned v ∧ Q1 Z p1 c0 c1 c2 c3 c4 c5 c6 c7 c8 c9 c10 r h0 n0 v U'.heap L ∧ FrameEnd U out_ U' L ({ frames := 0, cells := 0, slots := 0, locals := 0 } : Room).cells ({ frames := 0, cells := 0, slots := 0, locals := 0 } : Room).slots) := by
  refine MetFree.of_bodySF (plainFor_of_name pn_0) hisR ?_
  intro p e s m args below meth cd s₁ Bd hml0 hP hK
  obtain ⟨rfl, hZ, hh⟩ := hP
  have hx := Bd.exec
  have hby := Bd.bytes
  have hml : cd.maxLocals = 1 := hml0
  have hlk : meth.locks = false := BodyLoose.notSynchronized Bd
  have hown : s.vm.findClass "com/example/tidelock/tidelock/DecisionRefusedPinLaw" = some m.cls := findClass_of_methodNamed Bd.named
  have hnm := (name_of_methodNamed Bd.named Bd.method).1
  have hret := Bd.returns
  have X0 : Stand p l e ({ frames := 0, cells := 0, slots := 0, locals := 0 } : Room) s m #[(.int p1)] below meth cd s₁ [] 0 0 := Stand.of_body Bd
  have e0 : s₁.heap = h0 := by rw [← hh, Bd.state]; rfl
  have N0 := Fr.nil n0
  show own_Fin p e below (own_Ans s (Q1 Z p1 c0 c1 c2 c3 c4 c5 c6 c7 c8 c9 c10 r h0 n0) ({ frames := 0, cells := 0, slots := 0, locals := 0 } : Room).cells ({ frames := 0, cells := 0, slots := 0, locals := 0 } : Room).slots) (s₁.setTop (entryFrame m #[(.int p1)] 1))
  refine own_cast (ef_rm1 m p1) ?_
  show own_Fin p e below _ (s₁.setTop (mkF m 0 #[.val (.int p1)] []))
  refine own_on (fun t => XS.iloadN X0.here hx rfl (hb hby d1_0) rfl) ?_
  show own_Fin p e below _ (s₁.setTop (mkF m 1 #[.val (.int p1)] [(.int p1)]))
  by_cases hc1 : p1 = (0 : Int32)
  · refine own_on (fun t => XS.ifNo X0.here hx rfl (hb hby d1_1) rfl ((if0 _ _).trans (teq hc1).2)) ?_
    show own_Fin p e below _ (s₁.setTop (mkF m 4 #[.val (.int p1)] []))
    obtain ⟨T2, X2, e2, st2⟩ := getS2 X0 hx hZ hown (host := "") (Or.inl (hw _ (List.mem_of_getElem? (i := 5) rfl))) Via.refl e0 s0 (g := (mkF m 4 #[.val (.int p1)] [])) rfl (hb hby d1_4)
    refine own_on st2 ?_
    show own_Fin p e below _ (T2.setTop (mkF m 7 #[.val (.int p1)] [(.ref c0)]))
    exact own_ret (t := (.object "com/example/tidelock/tidelock/Outcome")) X2 hx hlk hret rfl (Or.inr (Or.inr (Or.inr (Or.inr ⟨rfl, rfl, rfl⟩)))) (hb hby d1_7) (⟨by rw [hr]; simp [own_pick, hc1], N0, e2⟩) (by decide) (by decide)
  · refine own_on (fun t => XS.ifYes X0.here hx rfl (pc0 := 1) (pc' := 8) rfl (hb hby d1_1) rfl ((if0 _ _).trans (feq hc1).2) (by decide) (by decide)) ?_
    show own_Fin p e below _ (s₁.setTop (mkF m 8 #[.val (.int p1)] []))
    refine own_on (fun t => XS.iloadN X0.here hx rfl (hb hby d1_8) rfl) ?_
    show own_Fin p e below _ (s₁.setTop (mkF m 9 #[.val (.int p1)] [(.int p1)]))
    refine own_on (fun t => XS.iconst X0.here hx rfl (hb hby d1_9)) ?_
    show own_Fin p e below _ (s₁.setTop (mkF m 10 #[.val (.int p1)] [(.int (1 : Int32)), (.int p1)]))
    by_cases hc3 : p1 = (1 : Int32)
    · refine own_on (fun t => XS.icmpNo X0.here hx rfl (hb hby d1_10) rfl (teq hc3).2) ?_
      show own_Fin p e below _ (s₁.setTop (mkF m 13 #[.val (.int p1)] []))
      obtain ⟨T4, X4, e4, st4⟩ := getS2 X0 hx hZ hown (host := "") (Or.inl (hw _ (List.mem_of_getElem? (i := 58) rfl))) Via.refl e0 s1 (g := (mkF m 13 #[.val (.int p1)] [])) rfl (hb hby d1_13)
      refine own_on st4 ?_
      show own_Fin p e below _ (T4.setTop (mkF m 16 #[.val (.int p1)] [(.ref c1)]))
      exact own_ret (t := (.object "com/example/tidelock/tidelock/Outcome")) X4 hx hlk hret rfl (Or.inr (Or.inr (Or.inr (Or.inr ⟨rfl, rfl, rfl⟩)))) (hb hby d1_16) (⟨by rw [hr]; simp [own_pick, hc1, hc3], N0, e4⟩) (by decide) (by decide)
    · refine own_on (fun t => XS.icmpYes X0.here hx rfl (pc0 := 10) (pc' := 17) rfl (hb hby d1_10) rfl (feq hc3).2 (by decide) (by decide)) ?_
      show own_Fin p e below _ (s₁.setTop (mkF m 17 #[.val (.int p1)] []))
      refine own_on (fun t => XS.iloadN X0.here hx rfl (hb hby d1_17) rfl) ?_
      show own_Fin p e below _ (s₁.setTop (mkF m 18 #[.val (.int p1)] [(.int p1)]))
      refine own_on (fun t => XS.iconst X0.here hx rfl (hb hby d1_18)) ?_
      show own_Fin p e below _ (s₁.setTop (mkF m 19 #[.val (.int p1)] [(.int (2 : Int32)), (.int p1)]))
      by_cases hc5 : p1 = (2 : Int32)
      · refine own_on (fun t => XS.icmpNo X0.here hx rfl (hb hby d1_19) rfl (teq hc5).2) ?_
        show own_Fin p e below _ (s₁.setTop (mkF m 22 #[.val (.int p1)] []))
        obtain ⟨T6, X6, e6, st6⟩ := getS2 X0 hx hZ hown (host := "") (Or.inl (hw _ (List.mem_of_getElem? (i := 54) rfl))) Via.refl e0 s2 (g := (mkF m 22 #[.val (.int p1)] [])) rfl (hb hby d1_22)
        refine own_on st6 ?_
        show own_Fin p e below _ (T6.setTop (mkF m 25 #[.val (.int p1)] [(.ref c2)]))
        exact own_ret (t := (.object "com/example/tidelock/tidelock/Outcome")) X6 hx hlk hret rfl (Or.inr (Or.inr (Or.inr (Or.inr ⟨rfl, rfl, rfl⟩)))) (hb hby d1_25) (⟨by rw [hr]; simp [own_pick, hc1, hc3, hc5], N0, e6⟩) (by decide) (by decide)
      · refine own_on (fun t => XS.icmpYes X0.here hx rfl (pc0 := 19) (pc' := 26) rfl (hb hby d1_19) rfl (feq hc5).2 (by decide) (by decide)) ?_
        show own_Fin p e below _ (s₁.setTop (mkF m 26 #[.val (.int p1)] []))
        refine own_on (fun t => XS.iloadN X0.here hx rfl (hb hby d1_26) rfl) ?_
        show own_Fin p e below _ (s₁.setTop (mkF m 27 #[.val (.int p1)] [(.int p1)]))
        refine own_on (fun t => XS.iconst X0.here hx rfl (hb hby d1_27)) ?_
        show own_Fin p e below _ (s₁.setTop (mkF m 28 #[.val (.int p1)] [(.int (3 : Int32)), (.int p1)]))
        by_cases hc7 : p1 = (3 : Int32)
        · refine own_on (fun t => XS.icmpNo X0.here hx rfl (hb hby d1_28) rfl (teq hc7).2) ?_
          show own_Fin p e below _ (s₁.setTop (mkF m 31 #[.val (.int p1)] []))
          obtain ⟨T8, X8, e8, st8⟩ := getS2 X0 hx hZ hown (host := "") (Or.inl (hw _ (List.mem_of_getElem? (i := 48) rfl))) Via.refl e0 s3 (g := (mkF m 31 #[.val (.int p1)] [])) rfl (hb hby d1_31)
          refine own_on st8 ?_
          show own_Fin p e below _ (T8.setTop (mkF m 34 #[.val (.int p1)] [(.ref c3)]))
          exact own_ret (t := (.object "com/example/tidelock/tidelock/Outcome")) X8 hx hlk hret rfl (Or.inr (Or.inr (Or.inr (Or.inr ⟨rfl, rfl, rfl⟩)))) (hb hby d1_34) (⟨by rw [hr]; simp [own_pick, hc1, hc3, hc5, hc7], N0, e8⟩) (by decide) (by decide)
        · refine own_on (fun t => XS.icmpYes X0.here hx rfl (pc0 := 28) (pc' := 35) rfl (hb hby d1_28) rfl (feq hc7).2 (by decide) (by decide)) ?_
          show own_Fin p e below _ (s₁.setTop (mkF m 35 #[.val (.int p1)] []))
          refine own_on (fun t => XS.iloadN X0.here hx rfl (hb hby d1_35) rfl) ?_
          show own_Fin p e below _ (s₁.setTop (mkF m 36 #[.val (.int p1)] [(.int p1)]))
          refine own_on (fun t => XS.iconst X0.here hx rfl (hb hby d1_36)) ?_
          show own_Fin p e below _ (s₁.setTop (mkF m 37 #[.val (.int p1)] [(.int (4 : Int32)), (.int p1)]))
          by_cases hc9 : p1 = (4 : Int32)
          · refine own_on (fun t => XS.icmpNo X0.here hx rfl (hb hby d1_37) rfl (teq hc9).2) ?_
            show own_Fin p e below _ (s₁.setTop (mkF m 40 #[.val (.int p1)] []))
            obtain ⟨T10, X10, e10, st10⟩ := getS2 X0 hx hZ hown (host := "") (Or.inl (hw _ (List.mem_of_getElem? (i := 66) rfl))) Via.refl e0 s4 (g := (mkF m 40 #[.val (.int p1)] [])) rfl (hb hby d1_40)
            refine own_on st10 ?_
            show own_Fin p e below _ (T10.setTop (mkF m 43 #[.val (.int p1)] [(.ref c4)]))
            exact own_ret (t := (.object "com/example/tidelock/tidelock/Outcome")) X10 hx hlk hret rfl (Or.inr (Or.inr (Or.inr (Or.inr ⟨rfl, rfl, rfl⟩)))) (hb hby d1_43) (⟨by rw [hr]; simp [own_pick, hc1, hc3, hc5, hc7, hc9], N0, e10⟩) (by decide) (by decide)
          · refine own_on (fun t => XS.icmpYes X0.here hx rfl (pc0 := 37) (pc' := 44) rfl (hb hby d1_37) rfl (feq hc9).2 (by decide) (by decide)) ?_
            show own_Fin p e below _ (s₁.setTop (mkF m 44 #[.val (.int p1)] []))
            refine own_on (fun t => XS.iloadN X0.here hx rfl (hb hby d1_44) rfl) ?_
            show own_Fin p e below _ (s₁.setTop (mkF m 45 #[.val (.int p1)] [(.int p1)]))
            refine own_on (fun t => XS.iconst X0.here hx rfl (hb hby d1_45)) ?_
            show own_Fin p e below _ (s₁.setTop (mkF m 46 #[.val (.int p1)] [(.int (5 : Int32)), (.int p1)]))
            by_cases hc11 : p1 = (5 : Int32)
            · refine own_on (fun t => XS.icmpNo X0.here hx rfl (hb hby d1_46) rfl (teq hc11).2) ?_
              show own_Fin p e below _ (s₁.setTop (mkF m 49 #[.val (.int p1)] []))
              obtain ⟨T12, X12, e12, st12⟩ := getS2 X0 hx hZ hown (host := "") (Or.inl (hw _ (List.mem_of_getElem? (i := 62) rfl))) Via.refl e0 s5 (g := (mkF m 49 #[.val (.int p1)] [])) rfl (hb hby d1_49)
              refine own_on st12 ?_
              show own_Fin p e below _ (T12.setTop (mkF m 52 #[.val (.int p1)] [(.ref c5)]))
              exact own_ret (t := (.object "com/example/tidelock/tidelock/Outcome")) X12 hx hlk hret rfl (Or.inr (Or.inr (Or.inr (Or.inr ⟨rfl, rfl, rfl⟩)))) (hb hby d1_52) (⟨by rw [hr]; simp [own_pick, hc1, hc3, hc5, hc7, hc9, hc11], N0, e12⟩) (by decide) (by decide)
            · refine own_on (fun t => XS.icmpYes X0.here hx rfl (pc0 := 46) (pc' := 53) rfl (hb hby d1_46) rfl (feq hc11).2 (by decide) (by decide)) ?_
              show own_Fin p e below _ (s₁.setTop (mkF m 53 #[.val (.int p1)] []))
              refine own_on (fun t => XS.iloadN X0.here hx rfl (hb hby d1_53) rfl) ?_
              show own_Fin p e below _ (s₁.setTop (mkF m 54 #[.val (.int p1)] [(.int p1)]))
              refine own_on (fun t => XS.bipush X0.here hx rfl (hb hby d1_54)) ?_
              show own_Fin p e below _ (s₁.setTop (mkF m 56 #[.val (.int p1)] [(.int (6 : Int32)), (.int p1)]))
              by_cases hc13 : p1 = (6 : Int32)
              · refine own_on (fun t => XS.icmpNo X0.here hx rfl (hb hby d1_56) rfl (teq hc13).2) ?_
                show own_Fin p e below _ (s₁.setTop (mkF m 59 #[.val (.int p1)] []))
                obtain ⟨T14, X14, e14, st14⟩ := getS2 X0 hx hZ hown (host := "") (Or.inl (hw _ (List.mem_of_getElem? (i := 64) rfl))) Via.refl e0 s6 (g := (mkF m 59 #[.val (.int p1)] [])) rfl (hb hby d1_59)
                refine own_on st14 ?_
                show own_Fin p e below _ (T14.setTop (mkF m 62 #[.val (.int p1)] [(.ref c6)]))
                exact own_ret (t := (.object "com/example/tidelock/tidelock/Outcome")) X14 hx hlk hret rfl (Or.inr (Or.inr (Or.inr (Or.inr ⟨rfl, rfl, rfl⟩)))) (hb hby d1_62) (⟨by rw [hr]; simp [own_pick, hc1, hc3, hc5, hc7, hc9, hc11, hc13], N0, e14⟩) (by decide) (by decide)
              · refine own_on (fun t => XS.icmpYes X0.here hx rfl (pc0 := 56) (pc' := 63) rfl (hb hby d1_56) rfl (feq hc13).2 (by decide) (by decide)) ?_
                show own_Fin p e below _ (s₁.setTop (mkF m 63 #[.val (.int p1)] []))
                refine own_on (fun t => XS.iloadN X0.here hx rfl (hb hby d1_63) rfl) ?_
                show own_Fin p e below _ (s₁.setTop (mkF m 64 #[.val (.int p1)] [(.int p1)]))
                refine own_on (fun t => XS.bipush X0.here hx rfl (hb hby d1_64)) ?_
                show own_Fin p e below _ (s₁.setTop (mkF m 66 #[.val (.int p1)] [(.int (7 : Int32)), (.int p1)]))
                by_cases hc15 : p1 = (7 : Int32)
                · refine own_on (fun t => XS.icmpNo X0.here hx rfl (hb hby d1_66) rfl (teq hc15).2) ?_
                  show own_Fin p e below _ (s₁.setTop (mkF m 69 #[.val (.int p1)] []))
                  obtain ⟨T16, X16, e16, st16⟩ := getS2 X0 hx hZ hown (host := "") (Or.inl (hw _ (List.mem_of_getElem? (i := 50) rfl))) Via.refl e0 s7 (g := (mkF m 69 #[.val (.int p1)] [])) rfl (hb hby d1_69)
                  refine own_on st16 ?_
                  show own_Fin p e below _ (T16.setTop (mkF m 72 #[.val (.int p1)] [(.ref c7)]))
                  exact own_ret (t := (.object "com/example/tidelock/tidelock/Outcome")) X16 hx hlk hret rfl (Or.inr (Or.inr (Or.inr (Or.inr ⟨rfl, rfl, rfl⟩)))) (hb hby d1_72) (⟨by rw [hr]; simp [own_pick, hc1, hc3, hc5, hc7, hc9, hc11, hc13, hc15], N0, e16⟩) (by decide) (by decide)
                · refine own_on (fun t => XS.icmpYes X0.here hx rfl (pc0 := 66) (pc' := 73) rfl (hb hby d1_66) rfl (feq hc15).2 (by decide) (by decide)) ?_
                  show own_Fin p e below _ (s₁.setTop (mkF m 73 #[.val (.int p1)] []))
                  refine own_on (fun t => XS.iloadN X0.here hx rfl (hb hby d1_73) rfl) ?_
                  show own_Fin p e below _ (s₁.setTop (mkF m 74 #[.val (.int p1)] [(.int p1)]))
                  refine own_on (fun t => XS.bipush X0.here hx rfl (hb hby d1_74)) ?_
                  show own_Fin p e below _ (s₁.setTop (mkF m 76 #[.val (.int p1)] [(.int (8 : Int32)), (.int p1)]))
                  by_cases hc17 : p1 = (8 : Int32)
                  · refine own_on (fun t => XS.icmpNo X0.here hx rfl (hb hby d1_76) rfl (teq hc17).2) ?_
                    show own_Fin p e below _ (s₁.setTop (mkF m 79 #[.val (.int p1)] []))
                    obtain ⟨T18, X18, e18, st18⟩ := getS2 X0 hx hZ hown (host := "") (Or.inl (hw _ (List.mem_of_getElem? (i := 52) rfl))) Via.refl e0 s8 (g := (mkF m 79 #[.val (.int p1)] [])) rfl (hb hby d1_79)
                    refine own_on st18 ?_
                    show own_Fin p e below _ (T18.setTop (mkF m 82 #[.val (.int p1)] [(.ref c8)]))
                    exact own_ret (t := (.object "com/example/tidelock/tidelock/Outcome")) X18 hx hlk hret rfl (Or.inr (Or.inr (Or.inr (Or.inr ⟨rfl, rfl, rfl⟩)))) (hb hby d1_82) (⟨by rw [hr]; simp [own_pick, hc1, hc3, hc5, hc7, hc9, hc11, hc13, hc15, hc17], N0, e18⟩) (by decide) (by decide)
                  · refine own_on (fun t => XS.icmpYes X0.here hx rfl (pc0 := 76) (pc' := 83) rfl (hb hby d1_76) rfl (feq hc17).2 (by decide) (by decide)) ?_
                    show own_Fin p e below _ (s₁.setTop (mkF m 83 #[.val (.int p1)] []))
                    refine own_on (fun t => XS.iloadN X0.here hx rfl (hb hby d1_83) rfl) ?_
                    show own_Fin p e below _ (s₁.setTop (mkF m 84 #[.val (.int p1)] [(.int p1)]))
                    refine own_on (fun t => XS.bipush X0.here hx rfl (hb hby d1_84)) ?_
                    show own_Fin p e below _ (s₁.setTop (mkF m 86 #[.val (.int p1)] [(.int (9 : Int32)), (.int p1)]))
                    by_cases hc19 : p1 = (9 : Int32)
                    · refine own_on (fun t => XS.icmpNo X0.here hx rfl (hb hby d1_86) rfl (teq hc19).2) ?_
                      show own_Fin p e below _ (s₁.setTop (mkF m 89 #[.val (.int p1)] []))
                      obtain ⟨T20, X20, e20, st20⟩ := getS2 X0 hx hZ hown (host := "") (Or.inl (hw _ (List.mem_of_getElem? (i := 60) rfl))) Via.refl e0 s9 (g := (mkF m 89 #[.val (.int p1)] [])) rfl (hb hby d1_89)
                      refine own_on st20 ?_
                      show own_Fin p e below _ (T20.setTop (mkF m 92 #[.val (.int p1)] [(.ref c9)]))
                      exact own_ret (t := (.object "com/example/tidelock/tidelock/Outcome")) X20 hx hlk hret rfl (Or.inr (Or.inr (Or.inr (Or.inr ⟨rfl, rfl, rfl⟩)))) (hb hby d1_92) (⟨by rw [hr]; simp [own_pick, hc1, hc3, hc5, hc7, hc9, hc11, hc13, hc15, hc17, hc19], N0, e20⟩) (by decide) (by decide)
                    · refine own_on (fun t => XS.icmpYes X0.here hx rfl (pc0 := 86) (pc' := 93) rfl (hb hby d1_86) rfl (feq hc19).2 (by decide) (by decide)) ?_
                      show own_Fin p e below _ (s₁.setTop (mkF m 93 #[.val (.int p1)] []))
                      obtain ⟨T21, X21, e21, st21⟩ := getS2 X0 hx hZ hown (host := "") (Or.inl (hw _ (List.mem_of_getElem? (i := 56) rfl))) Via.refl e0 s10 (g := (mkF m 93 #[.val (.int p1)] [])) rfl (hb hby d1_93)
                      refine own_on st21 ?_
                      show own_Fin p e below _ (T21.setTop (mkF m 96 #[.val (.int p1)] [(.ref c10)]))
                      exact own_ret (t := (.object "com/example/tidelock/tidelock/Outcome")) X21 hx hlk hret rfl (Or.inr (Or.inr (Or.inr (Or.inr ⟨rfl, rfl, rfl⟩)))) (hb hby d1_96) (⟨by rw [hr]; simp [own_pick, hc1, hc3, hc5, hc7, hc9, hc11, hc13, hc15, hc17, hc19], N0, e21⟩) (by decide) (by decide)
theorem pn_1 : plainName "com/example/tidelock/tidelock/Decision" = true := by first | (simp [plainName, overriddenIn]; done) | decide +kernel
theorem d3_0 : decode prog_3_method_1_code 0 = .ok (.aload_n 0, 1) := by decide +kernel
theorem d3_1 : decode prog_3_method_1_code 1 = .ok (.invokespecial 1, 3) := by decide +kernel
theorem d3_4 : decode prog_3_method_1_code 4 = .ok (.aload_n 0, 1) := by decide +kernel
theorem d3_5 : decode prog_3_method_1_code 5 = .ok (.aload_n 1, 1) := by decide +kernel
theorem d3_6 : decode prog_3_method_1_code 6 = .ok (.putfield 7, 3) := by decide +kernel
theorem d3_9 : decode prog_3_method_1_code 9 = .ok (.aload_n 0, 1) := by decide +kernel
theorem d3_10 : decode prog_3_method_1_code 10 = .ok (.aload_n 2, 1) := by decide +kernel
theorem d3_11 : decode prog_3_method_1_code 11 = .ok (.putfield 13, 3) := by decide +kernel
theorem d3_14 : decode prog_3_method_1_code 14 = .ok (.aload_n 0, 1) := by decide +kernel
theorem d3_15 : decode prog_3_method_1_code 15 = .ok (.aload_n 3, 1) := by decide +kernel
theorem d3_16 : decode prog_3_method_1_code 16 = .ok (.putfield 17, 3) := by decide +kernel
theorem d3_19 : decode prog_3_method_1_code 19 = .ok (.aload_n 0, 1) := by decide +kernel
theorem d3_20 : decode prog_3_method_1_code 20 = .ok (.aload 4, 2) := by decide +kernel
theorem d3_22 : decode prog_3_method_1_code 22 = .ok (.putfield 21, 3) := by decide +kernel
theorem d3_25 : decode prog_3_method_1_code 25 = .ok (.return_, 1) := by decide +kernel
theorem ef_rm3 (m : MethodId) (x0 : Addr) (x1 : Addr) : entryFrame m #[(.ref x0), (.ref x1), .null, .null, .null] 5 = mkF m 0 #[.val (.ref x0), .val (.ref x1), .val .null, .val .null, .val .null] [] := by first | (simp [entryFrame, mkF, argsToLocals, Value.category]; done) | rfl
def Q3 (Z : State) (a : Addr) (o : Addr) (h0 : Heap) (n0 : Nat) (v : Option Value) (h : Heap) (L : List Loc) : Prop := v = none ∧ Fr n0 L ∧ Keep h0 h [a] ∧ Exa Z h a "com/example/tidelock/tidelock/Decision" ∧ Fld Z h a "com/example/tidelock/tidelock/Decision" "outcome" "Lcom/example/tidelock/tidelock/Outcome;" (.ref o) ∧ Fld Z h a "com/example/tidelock/tidelock/Decision" "claim" "Lcom/example/tidelock/tidelock/Identifier;" .null ∧ Fld Z h a "com/example/tidelock/tidelock/Decision" "token" "Ljava/lang/String;" .null ∧ Fld Z h a "com/example/tidelock/tidelock/Decision" "expiresAt" "Ljava/time/Instant;" .null
set_option maxRecDepth 65536 in
set_option maxHeartbeats 40000000 in
theorem rm3 (l : Launch) (Z : State) (a0 : Array Value) (hw : ∀ d ∈ tables_1, d.before a0 Z = true) (ws : List Jvm.Cond) (a : Addr) (o : Addr) (h0 : Heap) (n0 : Nat) (Z0 : n0 ≤ h0.size) (E : Exa Z h0 a "com/example/tidelock/tidelock/Decision") (F0 : Fld Z h0 a "com/example/tidelock/tidelock/Decision" "outcome" "Lcom/example/tidelock/tidelock/Outcome;" .null) (F1 : Fld Z h0 a "com/example/tidelock/tidelock/Decision" "claim" "Lcom/example/tidelock/tidelock/Identifier;" .null) (F2 : Fld Z h0 a "com/example/tidelock/tidelock/Decision" "token" "Ljava/lang/String;" .null) (F3 : Fld Z h0 a "com/example/tidelock/tidelock/Decision" "expiresAt" "Ljava/time/Instant;" .null) (ga : n0 ≤ a) :
    MetFree l (⟨"com/example/tidelock/tidelock/Decision", "<init>", "(Lcom/example/tidelock/tidelock/Outcome;Lcom/example/tidelock/tidelock/Identifier;Ljava/lang/String;Ljava/time/Instant;)V"⟩ : MethodName) (head1 (Jvm.Cond.code (⟨"com/example/tidelock/tidelock/Decision", "<init>", "(Lcom/example/tidelock/tidelock/Outcome;Lcom/example/tidelock/tidelock/Identifier;Ljava/lang/String;Ljava/time/Instant;)V"⟩ : MethodName) prog_3_method_1_code 5 none :: ws) ({ frames := 1, cells := 0, slots := 0, locals := 12 } : Room)) (fun as_ U => as_ = #[(.ref a), (.ref o), .null, .null, .null] ∧ Z.Warmed39 U.vm ∧ U.heap = h0) (fun _ _ _ _ _ => True) (fun _ U out_ U' => ∃ v L, out_ = .returned v ∧ Q3 Z a o h0 n0 v U'.heap L ∧ FrameEnd U out_ U' L ({ frames := 1, cells := 0, slots := 0, locals := 12 } : Room).cells ({ frames := 1, cells := 0, slots := 0, locals := 12 } : Room).slots) := by
  refine MetFree.of_bodySF (plainFor_of_name pn_1) hisR ?_
  intro p e s m args below meth cd s₁ Bd hml0 hP hK
  obtain ⟨rfl, hZ, hh⟩ := hP
  have hx := Bd.exec
  have hby := Bd.bytes
  have hml : cd.maxLocals = 5 := hml0
  have hlk : meth.locks = false := BodyLoose.notSynchronized Bd
  have hown : s.vm.findClass "com/example/tidelock/tidelock/Decision" = some m.cls := findClass_of_methodNamed Bd.named
  have hnm := (name_of_methodNamed Bd.named Bd.method).1
  have hret := Bd.returns
  have X0 : Stand p l e ({ frames := 1, cells := 0, slots := 0, locals := 12 } : Room) s m #[(.ref a), (.ref o), .null, .null, .null] below meth cd s₁ [] 0 0 := Stand.of_body Bd
  have e0 : s₁.heap = h0 := by rw [← hh, Bd.state]; rfl
  have N0 := Fr.nil n0
  show own_Fin p e below (own_Ans s (Q3 Z a o h0 n0) ({ frames := 1, cells := 0, slots := 0, locals := 12 } : Room).cells ({ frames := 1, cells := 0, slots := 0, locals := 12 } : Room).slots) (s₁.setTop (entryFrame m #[(.ref a), (.ref o), .null, .null, .null] 5))
  refine own_cast (ef_rm3 m a o) ?_
  show own_Fin p e below _ (s₁.setTop (mkF m 0 #[.val (.ref a), .val (.ref o), .val .null, .val .null, .val .null] []))
  refine own_on (fun t => XS.aloadN X0.here hx rfl (hb hby d3_0) rfl rfl) ?_
  show own_Fin p e below _ (s₁.setTop (mkF m 1 #[.val (.ref a), .val (.ref o), .val .null, .val .null, .val .null] [(.ref a)]))
  obtain ⟨T22, X22, e22, st22⟩ := initO X0 hx hZ hown (hw _ (List.mem_of_getElem? (i := 17) rfl)) (hw _ (List.mem_of_getElem? (i := 18) rfl)) (hw _ (List.mem_of_getElem? (i := 19) rfl)) e0 (g := (mkF m 1 #[.val (.ref a), .val (.ref o), .val .null, .val .null, .val .null] [(.ref a)])) rfl (by rw [hml]; rfl) rfl (hb hby d3_1) (by decide) (W := 0) (by show 2 * 0 + _ ≤ _; exact Nat.le_of_eq rfl) (by decide)
  refine own_on st22 ?_
  show own_Fin p e below _ (T22.setTop (mkF m 4 #[.val (.ref a), .val (.ref o), .val .null, .val .null, .val .null] []))
  refine own_on (fun t => XS.aloadN X22.here hx rfl (hb hby d3_4) rfl rfl) ?_
  show own_Fin p e below _ (T22.setTop (mkF m 5 #[.val (.ref a), .val (.ref o), .val .null, .val .null, .val .null] [(.ref a)]))
  refine own_on (fun t => XS.aloadN X22.here hx rfl (hb hby d3_5) rfl rfl) ?_
  show own_Fin p e below _ (T22.setTop (mkF m 6 #[.val (.ref a), .val (.ref o), .val .null, .val .null, .val .null] [(.ref o), (.ref a)]))
  obtain ⟨T23, h23, X23, e23, W23, st23⟩ := putF X22 hx hZ hown (host := "") (Or.inl (hw _ (List.mem_of_getElem? (i := 20) rfl))) Via.refl e22 F0 E (Or.inr ⟨(hw _ (List.mem_of_getElem? (i := 21) rfl)), rfl, hnm⟩) (hw _ (List.mem_of_getElem? (i := 13) rfl)) (ty := (.object "com/example/tidelock/tidelock/Outcome")) (by decide) rfl rfl (g := (mkF m 6 #[.val (.ref a), .val (.ref o), .val .null, .val .null, .val .null] [(.ref o), (.ref a)])) rfl rfl (hb hby d3_6)
  have N23 := Fr.snoc X23 N0 ga
  have y24 := (E.wr W23)
  have y25 := ((Keep.refl h0 [a]).wr W23 (Or.inl (List.mem_of_getElem? (i := 0) rfl)))
  have y26 := (Nat.le_trans Z0 (Keep.of_wr W23).1)
  have y27 := (F0.same W23)
  have y28 := (F1.other W23 (Or.inr (slot_ne (Or.inr (hw _ (List.mem_of_getElem? (i := 23) rfl))) (Or.inr (hw _ (List.mem_of_getElem? (i := 21) rfl))) (by decide) (t := (.object "com/example/tidelock/tidelock/Identifier")) (t' := (.object "com/example/tidelock/tidelock/Outcome")) (by decide) (by decide))))
  have y29 := (F2.other W23 (Or.inr (slot_ne (Or.inr (hw _ (List.mem_of_getElem? (i := 25) rfl))) (Or.inr (hw _ (List.mem_of_getElem? (i := 21) rfl))) (by decide) (t := (.object "java/lang/String")) (t' := (.object "com/example/tidelock/tidelock/Outcome")) (by decide) (by decide))))
  have y30 := (F3.other W23 (Or.inr (slot_ne (Or.inr (hw _ (List.mem_of_getElem? (i := 27) rfl))) (Or.inr (hw _ (List.mem_of_getElem? (i := 21) rfl))) (by decide) (t := (.object "java/time/Instant")) (t' := (.object "com/example/tidelock/tidelock/Outcome")) (by decide) (by decide))))
  refine own_on st23 ?_
  show own_Fin p e below _ (T23.setTop (mkF m 9 #[.val (.ref a), .val (.ref o), .val .null, .val .null, .val .null] []))
  refine own_on (fun t => XS.aloadN X23.here hx rfl (hb hby d3_9) rfl rfl) ?_
  show own_Fin p e below _ (T23.setTop (mkF m 10 #[.val (.ref a), .val (.ref o), .val .null, .val .null, .val .null] [(.ref a)]))
  refine own_on (fun t => XS.aloadN X23.here hx rfl (hb hby d3_10) rfl rfl) ?_
  show own_Fin p e below _ (T23.setTop (mkF m 11 #[.val (.ref a), .val (.ref o), .val .null, .val .null, .val .null] [.null, (.ref a)]))
  obtain ⟨T31, h31, X31, e31, W31, st31⟩ := putF X23 hx hZ hown (host := "") (Or.inl (hw _ (List.mem_of_getElem? (i := 22) rfl))) Via.refl e23 y28 y24 (Or.inr ⟨(hw _ (List.mem_of_getElem? (i := 23) rfl)), rfl, hnm⟩) (hw _ (List.mem_of_getElem? (i := 13) rfl)) (ty := (.object "com/example/tidelock/tidelock/Identifier")) (by decide) rfl rfl (g := (mkF m 11 #[.val (.ref a), .val (.ref o), .val .null, .val .null, .val .null] [.null, (.ref a)])) rfl rfl (hb hby d3_11)
  have N31 := Fr.snoc X31 N23 ga
  have y32 := (y24.wr W31)
  have y33 := (y25.wr W31 (Or.inl (List.mem_of_getElem? (i := 0) rfl)))
  have y34 := (Nat.le_trans y26 (Keep.of_wr W31).1)
  have y35 := (y27.other W31 (Or.inr (slot_ne (Or.inr (hw _ (List.mem_of_getElem? (i := 21) rfl))) (Or.inr (hw _ (List.mem_of_getElem? (i := 23) rfl))) (by decide) (t := (.object "com/example/tidelock/tidelock/Outcome")) (t' := (.object "com/example/tidelock/tidelock/Identifier")) (by decide) (by decide))))
  have y36 := (y28.same W31)
  have y37 := (y29.other W31 (Or.inr (slot_ne (Or.inr (hw _ (List.mem_of_getElem? (i := 25) rfl))) (Or.inr (hw _ (List.mem_of_getElem? (i := 23) rfl))) (by decide) (t := (.object "java/lang/String")) (t' := (.object "com/example/tidelock/tidelock/Identifier")) (by decide) (by decide))))
  have y38 := (y30.other W31 (Or.inr (slot_ne (Or.inr (hw _ (List.mem_of_getElem? (i := 27) rfl))) (Or.inr (hw _ (List.mem_of_getElem? (i := 23) rfl))) (by decide) (t := (.object "java/time/Instant")) (t' := (.object "com/example/tidelock/tidelock/Identifier")) (by decide) (by decide))))
  refine own_on st31 ?_
  show own_Fin p e below _ (T31.setTop (mkF m 14 #[.val (.ref a), .val (.ref o), .val .null, .val .null, .val .null] []))
  refine own_on (fun t => XS.aloadN X31.here hx rfl (hb hby d3_14) rfl rfl) ?_
  show own_Fin p e below _ (T31.setTop (mkF m 15 #[.val (.ref a), .val (.ref o), .val .null, .val .null, .val .null] [(.ref a)]))
  refine own_on (fun t => XS.aloadN X31.here hx rfl (hb hby d3_15) rfl rfl) ?_
  show own_Fin p e below _ (T31.setTop (mkF m 16 #[.val (.ref a), .val (.ref o), .val .null, .val .null, .val .null] [.null, (.ref a)]))
  obtain ⟨T39, h39, X39, e39, W39, st39⟩ := putF X31 hx hZ hown (host := "") (Or.inl (hw _ (List.mem_of_getElem? (i := 24) rfl))) Via.refl e31 y37 y32 (Or.inr ⟨(hw _ (List.mem_of_getElem? (i := 25) rfl)), rfl, hnm⟩) (hw _ (List.mem_of_getElem? (i := 13) rfl)) (ty := (.object "java/lang/String")) (by decide) rfl rfl (g := (mkF m 16 #[.val (.ref a), .val (.ref o), .val .null, .val .null, .val .null] [.null, (.ref a)])) rfl rfl (hb hby d3_16)
  have N39 := Fr.snoc X39 N31 ga
  have y40 := (y32.wr W39)
  have y41 := (y33.wr W39 (Or.inl (List.mem_of_getElem? (i := 0) rfl)))
  have y42 := (Nat.le_trans y34 (Keep.of_wr W39).1)
  have y43 := (y35.other W39 (Or.inr (slot_ne (Or.inr (hw _ (List.mem_of_getElem? (i := 21) rfl))) (Or.inr (hw _ (List.mem_of_getElem? (i := 25) rfl))) (by decide) (t := (.object "com/example/tidelock/tidelock/Outcome")) (t' := (.object "java/lang/String")) (by decide) (by decide))))
  have y44 := (y36.other W39 (Or.inr (slot_ne (Or.inr (hw _ (List.mem_of_getElem? (i := 23) rfl))) (Or.inr (hw _ (List.mem_of_getElem? (i := 25) rfl))) (by decide) (t := (.object "com/example/tidelock/tidelock/Identifier")) (t' := (.object "java/lang/String")) (by decide) (by decide))))
  have y45 := (y37.same W39)
  have y46 := (y38.other W39 (Or.inr (slot_ne (Or.inr (hw _ (List.mem_of_getElem? (i := 27) rfl))) (Or.inr (hw _ (List.mem_of_getElem? (i := 25) rfl))) (by decide) (t := (.object "java/time/Instant")) (t' := (.object "java/lang/String")) (by decide) (by decide))))
  refine own_on st39 ?_
  show own_Fin p e below _ (T39.setTop (mkF m 19 #[.val (.ref a), .val (.ref o), .val .null, .val .null, .val .null] []))
  refine own_on (fun t => XS.aloadN X39.here hx rfl (hb hby d3_19) rfl rfl) ?_
  show own_Fin p e below _ (T39.setTop (mkF m 20 #[.val (.ref a), .val (.ref o), .val .null, .val .null, .val .null] [(.ref a)]))
  refine own_on (fun t => XS.aload X39.here hx rfl (hb hby d3_20) rfl rfl) ?_
  show own_Fin p e below _ (T39.setTop (mkF m 22 #[.val (.ref a), .val (.ref o), .val .null, .val .null, .val .null] [.null, (.ref a)]))
  obtain ⟨T47, h47, X47, e47, W47, st47⟩ := putF X39 hx hZ hown (host := "") (Or.inl (hw _ (List.mem_of_getElem? (i := 26) rfl))) Via.refl e39 y46 y40 (Or.inr ⟨(hw _ (List.mem_of_getElem? (i := 27) rfl)), rfl, hnm⟩) (hw _ (List.mem_of_getElem? (i := 13) rfl)) (ty := (.object "java/time/Instant")) (by decide) rfl rfl (g := (mkF m 22 #[.val (.ref a), .val (.ref o), .val .null, .val .null, .val .null] [.null, (.ref a)])) rfl rfl (hb hby d3_22)
  have N47 := Fr.snoc X47 N39 ga
  have y48 := (y40.wr W47)
  have y49 := (y41.wr W47 (Or.inl (List.mem_of_getElem? (i := 0) rfl)))
  have y50 := (Nat.le_trans y42 (Keep.of_wr W47).1)
  have y51 := (y43.other W47 (Or.inr (slot_ne (Or.inr (hw _ (List.mem_of_getElem? (i := 21) rfl))) (Or.inr (hw _ (List.mem_of_getElem? (i := 27) rfl))) (by decide) (t := (.object "com/example/tidelock/tidelock/Outcome")) (t' := (.object "java/time/Instant")) (by decide) (by decide))))
  have y52 := (y44.other W47 (Or.inr (slot_ne (Or.inr (hw _ (List.mem_of_getElem? (i := 23) rfl))) (Or.inr (hw _ (List.mem_of_getElem? (i := 27) rfl))) (by decide) (t := (.object "com/example/tidelock/tidelock/Identifier")) (t' := (.object "java/time/Instant")) (by decide) (by decide))))
  have y53 := (y45.other W47 (Or.inr (slot_ne (Or.inr (hw _ (List.mem_of_getElem? (i := 25) rfl))) (Or.inr (hw _ (List.mem_of_getElem? (i := 27) rfl))) (by decide) (t := (.object "java/lang/String")) (t' := (.object "java/time/Instant")) (by decide) (by decide))))
  have y54 := (y46.same W47)
  refine own_on st47 ?_
  show own_Fin p e below _ (T47.setTop (mkF m 25 #[.val (.ref a), .val (.ref o), .val .null, .val .null, .val .null] []))
  exact own_retV X47 hx hlk hret (hb hby d3_25) (by show Q3 Z a o h0 n0 _ T47.heap _; rw [e47]; exact ⟨rfl, N47, y49, y48, y51, y52, y53, y54⟩) (by decide) (by decide)
theorem d2_0 : decode prog_3_method_2_code 0 = .ok (.new 8, 3) := by decide +kernel
theorem d2_3 : decode prog_3_method_2_code 3 = .ok (.dup, 1) := by decide +kernel
theorem d2_4 : decode prog_3_method_2_code 4 = .ok (.aload_n 0, 1) := by decide +kernel
theorem d2_5 : decode prog_3_method_2_code 5 = .ok (.aconst_null, 1) := by decide +kernel
theorem d2_6 : decode prog_3_method_2_code 6 = .ok (.aconst_null, 1) := by decide +kernel
theorem d2_7 : decode prog_3_method_2_code 7 = .ok (.aconst_null, 1) := by decide +kernel
theorem d2_8 : decode prog_3_method_2_code 8 = .ok (.invokespecial 25, 3) := by decide +kernel
theorem pd_0 : parseMethodDescriptor "(Lcom/example/tidelock/tidelock/Outcome;Lcom/example/tidelock/tidelock/Identifier;Ljava/lang/String;Ljava/time/Instant;)V" = some ⟨[(.object "com/example/tidelock/tidelock/Outcome"), (.object "com/example/tidelock/tidelock/Identifier"), (.object "java/lang/String"), (.object "java/time/Instant")], none⟩ := by decide +kernel
theorem d2_11 : decode prog_3_method_2_code 11 = .ok (.areturn, 1) := by decide +kernel
theorem ef_rm2 (m : MethodId) (x0 : Addr) : entryFrame m #[(.ref x0)] 1 = mkF m 0 #[.val (.ref x0)] [] := by first | (simp [entryFrame, mkF, argsToLocals, Value.category]; done) | rfl
def Q2 (Z : State) (o : Addr) (h0 : Heap) (n0 : Nat) (v : Option Value) (h : Heap) (L : List Loc) : Prop := ∃ b : Addr, v = some (.ref b) ∧ Fr n0 L ∧ Keep h0 h [] ∧ n0 ≤ b ∧ Exa Z h b "com/example/tidelock/tidelock/Decision" ∧ Fld Z h b "com/example/tidelock/tidelock/Decision" "outcome" "Lcom/example/tidelock/tidelock/Outcome;" (.ref o) ∧ Fld Z h b "com/example/tidelock/tidelock/Decision" "claim" "Lcom/example/tidelock/tidelock/Identifier;" .null ∧ Fld Z h b "com/example/tidelock/tidelock/Decision" "token" "Ljava/lang/String;" .null ∧ Fld Z h b "com/example/tidelock/tidelock/Decision" "expiresAt" "Ljava/time/Instant;" .null
set_option maxRecDepth 65536 in
set_option maxHeartbeats 40000000 in
theorem rm2 (l : Launch) (Z : State) (a0 : Array Value) (hw : ∀ d ∈ tables_1, d.before a0 Z = true) (ws : List Jvm.Cond) (o : Addr) (h0 : Heap) (n0 : Nat) (Z0 : n0 ≤ h0.size) :
    MetFree l (⟨"com/example/tidelock/tidelock/Decision", "refused", "(Lcom/example/tidelock/tidelock/Outcome;)Lcom/example/tidelock/tidelock/Decision;"⟩ : MethodName) (head1 (Jvm.Cond.code (⟨"com/example/tidelock/tidelock/Decision", "refused", "(Lcom/example/tidelock/tidelock/Outcome;)Lcom/example/tidelock/tidelock/Decision;"⟩ : MethodName) prog_3_method_2_code 1 (some (.object "com/example/tidelock/tidelock/Decision")) :: ws) ({ frames := 2, cells := 1, slots := 4, locals := 29 } : Room)) (fun as_ U => as_ = #[(.ref o)] ∧ Z.Warmed39 U.vm ∧ U.heap = h0) (fun _ _ _ _ _ => True) (fun _ U out_ U' => ∃ v L, out_ = .returned v ∧ Q2 Z o h0 n0 v U'.heap L ∧ FrameEnd U out_ U' L ({ frames := 2, cells := 1, slots := 4, locals := 29 } : Room).cells ({ frames := 2, cells := 1, slots := 4, locals := 29 } : Room).slots) := by
  refine MetFree.of_bodySF (plainFor_of_name pn_1) hisR ?_
  intro p e s m args below meth cd s₁ Bd hml0 hP hK
  obtain ⟨rfl, hZ, hh⟩ := hP
  have hx := Bd.exec
  have hby := Bd.bytes
  have hml : cd.maxLocals = 1 := hml0
  have hlk : meth.locks = false := BodyLoose.notSynchronized Bd
  have hown : s.vm.findClass "com/example/tidelock/tidelock/Decision" = some m.cls := findClass_of_methodNamed Bd.named
  have hnm := (name_of_methodNamed Bd.named Bd.method).1
  have hret := Bd.returns
  have X0 : Stand p l e ({ frames := 2, cells := 1, slots := 4, locals := 29 } : Room) s m #[(.ref o)] below meth cd s₁ [] 0 0 := Stand.of_body Bd
  have e0 : s₁.heap = h0 := by rw [← hh, Bd.state]; rfl
  have N0 := Fr.nil n0
  show own_Fin p e below (own_Ans s (Q2 Z o h0 n0) ({ frames := 2, cells := 1, slots := 4, locals := 29 } : Room).cells ({ frames := 2, cells := 1, slots := 4, locals := 29 } : Room).slots) (s₁.setTop (entryFrame m #[(.ref o)] 1))
  refine own_cast (ef_rm2 m o) ?_
  show own_Fin p e below _ (s₁.setTop (mkF m 0 #[.val (.ref o)] []))
  obtain ⟨T55, h55, X55, e55, E55, A55, D55, -, st55⟩ := newO X0 hx hZ hown (hw _ (List.mem_of_getElem? (i := 12) rfl)) (hw _ (List.mem_of_getElem? (i := 13) rfl)) (hw _ (List.mem_of_getElem? (i := 10) rfl)) e0 (g := (mkF m 0 #[.val (.ref o)] [])) rfl (hb hby d2_0) (by decide) (by decide)
  obtain ⟨b55, g55⟩ : ∃ z, z = h0.size := ⟨_, rfl⟩
  rw [← g55] at A55 D55 st55
  have y56 := ((Keep.refl h0 []).ext E55)
  have y57 := (Nat.le_trans Z0 E55.1)
  have gn55 : n0 ≤ b55 := Nat.le_trans Z0 (Nat.le_of_eq g55.symm)
  have gk55 : h0.size ≤ b55 := Nat.le_trans (Keep.refl h0 []).1 (Nat.le_of_eq g55.symm)
  have F55_outcome : Fld Z h55 b55 "com/example/tidelock/tidelock/Decision" "outcome" "Lcom/example/tidelock/tidelock/Outcome;" .null := D55 (Or.inr (hw _ (List.mem_of_getElem? (i := 21) rfl))) (ty := (.object "com/example/tidelock/tidelock/Outcome")) (by decide)
  have F55_claim : Fld Z h55 b55 "com/example/tidelock/tidelock/Decision" "claim" "Lcom/example/tidelock/tidelock/Identifier;" .null := D55 (Or.inr (hw _ (List.mem_of_getElem? (i := 23) rfl))) (ty := (.object "com/example/tidelock/tidelock/Identifier")) (by decide)
  have F55_token : Fld Z h55 b55 "com/example/tidelock/tidelock/Decision" "token" "Ljava/lang/String;" .null := D55 (Or.inr (hw _ (List.mem_of_getElem? (i := 25) rfl))) (ty := (.object "java/lang/String")) (by decide)
  have F55_expiresAt : Fld Z h55 b55 "com/example/tidelock/tidelock/Decision" "expiresAt" "Ljava/time/Instant;" .null := D55 (Or.inr (hw _ (List.mem_of_getElem? (i := 27) rfl))) (ty := (.object "java/time/Instant")) (by decide)
  refine own_on st55 ?_
  show own_Fin p e below _ (T55.setTop (mkF m 3 #[.val (.ref o)] [(.ref b55)]))
  refine own_on (fun t => XS.dup X55.here hx rfl (hb hby d2_3) rfl rfl) ?_
  show own_Fin p e below _ (T55.setTop (mkF m 4 #[.val (.ref o)] [(.ref b55), (.ref b55)]))
  refine own_on (fun t => XS.aloadN X55.here hx rfl (hb hby d2_4) rfl rfl) ?_
  show own_Fin p e below _ (T55.setTop (mkF m 5 #[.val (.ref o)] [(.ref o), (.ref b55), (.ref b55)]))
  refine own_on (fun t => XS.aconstNull X55.here hx rfl (hb hby d2_5)) ?_
  show own_Fin p e below _ (T55.setTop (mkF m 6 #[.val (.ref o)] [.null, (.ref o), (.ref b55), (.ref b55)]))
  refine own_on (fun t => XS.aconstNull X55.here hx rfl (hb hby d2_6)) ?_
  show own_Fin p e below _ (T55.setTop (mkF m 7 #[.val (.ref o)] [.null, .null, (.ref o), (.ref b55), (.ref b55)]))
  refine own_on (fun t => XS.aconstNull X55.here hx rfl (hb hby d2_7)) ?_
  show own_Fin p e below _ (T55.setTop (mkF m 8 #[.val (.ref o)] [.null, .null, .null, (.ref o), (.ref b55), (.ref b55)]))
  obtain ⟨_, _, ⟨T58, L58, k58, n58⟩, -, X58, ⟨Lc58, hQ58, l58, y58, z58⟩, st58⟩ := X55.specialBack hx (y := (⟨"com/example/tidelock/tidelock/Decision", "<init>", "(Lcom/example/tidelock/tidelock/Outcome;Lcom/example/tidelock/tidelock/Identifier;Ljava/lang/String;Ljava/time/Instant;)V"⟩ : MethodName)) rfl hown (mvT hZ (hw _ (List.mem_of_getElem? (i := 14) rfl))) (mvT hZ (hw _ (List.mem_of_getElem? (i := 15) rfl))) (mvT hZ (hw _ (List.mem_of_getElem? (i := 16) rfl))) (by decide) (backOf (W := 1) (rm3 l Z a0 hw [] b55 o h55 n0 (by exact y57) A55 F55_outcome F55_claim F55_token F55_expiresAt gn55) hZ (hw _ (List.mem_of_getElem? (i := 16) rfl)) (hw _ (List.mem_of_getElem? (i := 10) rfl)) (by decide) (by decide)) (g := (mkF m 8 #[.val (.ref o)] [.null, .null, .null, (.ref o), (.ref b55), (.ref b55)])) rfl (by rw [hml]; rfl) (Steps.refl _) (a := b55) (argsL := [(.ref o), .null, .null, .null]) (rest := [(.ref b55)]) (lenOf pd_0 rfl) rfl (by show 2 * 0 + _ ≤ _; exact Nat.le_of_eq rfl) (hb hby d2_8) (fun _ _ => ⟨rfl, e55, (by decide : 1 + 0 ≤ _), (by decide : 4 + 0 ≤ _)⟩)
  dsimp only [Pt.U, Pt.locs, Pt.cells, Pt.slots] at X58 l58 y58 z58 st58 hQ58
  subst l58 y58 z58
  obtain ⟨rfl, N58q, K58, E58q, F58q0, F58q1, F58q2, F58q3⟩ := hQ58
  have N58 := Fr.app N0 N58q
  have y59 := (y56.trans K58 (allS (Or.inr gk55) all0))
  have y60 := (Nat.le_trans y57 K58.1)
  have y61 := (A55.keep K58)
  refine own_via st58 ?_
  show own_Fin p e below _ (T58.setTop (mkF m 11 #[.val (.ref o)] [(.ref b55)]))
  exact own_ret (t := (.object "com/example/tidelock/tidelock/Decision")) X58 hx hlk hret rfl (Or.inr (Or.inr (Or.inr (Or.inr ⟨rfl, rfl, rfl⟩)))) (hb hby d2_11) (by show Q2 Z o h0 n0 _ T58.heap _; exact ⟨b55, rfl, N58, y59, gn55, y61, F58q0, F58q1, F58q2, F58q3⟩) (by decide) (by decide)
theorem d5_0 : decode prog_3_method_5_code 0 = .ok (.aload_n 0, 1) := by decide +kernel
theorem d5_1 : decode prog_3_method_5_code 1 = .ok (.getfield 7, 3) := by decide +kernel
theorem d5_4 : decode prog_3_method_5_code 4 = .ok (.areturn, 1) := by decide +kernel
theorem ef_rm5 (m : MethodId) (x0 : Addr) : entryFrame m #[(.ref x0)] 1 = mkF m 0 #[.val (.ref x0)] [] := by first | (simp [entryFrame, mkF, argsToLocals, Value.category]; done) | rfl
def Q5 (Z : State) (a1 : Addr) (f : Value) (h0 : Heap) (n0 : Nat) (v : Option Value) (h : Heap) (L : List Loc) : Prop := v = some f ∧ Fr n0 L ∧ h = h0
set_option maxRecDepth 65536 in
set_option maxHeartbeats 40000000 in
theorem rm5 (l : Launch) (Z : State) (a0 : Array Value) (hw : ∀ d ∈ tables_1, d.before a0 Z = true) (ws : List Jvm.Cond) (a1 : Addr) (f : Value) (h0 : Heap) (n0 : Nat) (Z0 : n0 ≤ h0.size) (F : Fld Z h0 a1 "com/example/tidelock/tidelock/Decision" "outcome" "Lcom/example/tidelock/tidelock/Outcome;" f) (hf : f.isRef = true) :
    MetFree l (⟨"com/example/tidelock/tidelock/Decision", "outcome", "()Lcom/example/tidelock/tidelock/Outcome;"⟩ : MethodName) (head1 (Jvm.Cond.code (⟨"com/example/tidelock/tidelock/Decision", "outcome", "()Lcom/example/tidelock/tidelock/Outcome;"⟩ : MethodName) prog_3_method_5_code 1 (some (.object "com/example/tidelock/tidelock/Outcome")) :: ws) ({ frames := 0, cells := 0, slots := 0, locals := 0 } : Room)) (fun as_ U => as_ = #[(.ref a1)] ∧ Z.Warmed39 U.vm ∧ U.heap = h0) (fun _ _ _ _ _ => True) (fun _ U out_ U' => ∃ v L, out_ = .returned v ∧ Q5 Z a1 f h0 n0 v U'.heap L ∧ FrameEnd U out_ U' L ({ frames := 0, cells := 0, slots := 0, locals := 0 } : Room).cells ({ frames := 0, cells := 0, slots := 0, locals := 0 } : Room).slots) := by
  refine MetFree.of_bodySF (plainFor_of_name pn_1) hisR ?_
  intro p e s m args below meth cd s₁ Bd hml0 hP hK
  obtain ⟨rfl, hZ, hh⟩ := hP
  have hx := Bd.exec
  have hby := Bd.bytes
  have hml : cd.maxLocals = 1 := hml0
  have hlk : meth.locks = false := BodyLoose.notSynchronized Bd
  have hown : s.vm.findClass "com/example/tidelock/tidelock/Decision" = some m.cls := findClass_of_methodNamed Bd.named
  have hnm := (name_of_methodNamed Bd.named Bd.method).1
  have hret := Bd.returns
  have X0 : Stand p l e ({ frames := 0, cells := 0, slots := 0, locals := 0 } : Room) s m #[(.ref a1)] below meth cd s₁ [] 0 0 := Stand.of_body Bd
  have e0 : s₁.heap = h0 := by rw [← hh, Bd.state]; rfl
  have N0 := Fr.nil n0
  show own_Fin p e below (own_Ans s (Q5 Z a1 f h0 n0) ({ frames := 0, cells := 0, slots := 0, locals := 0 } : Room).cells ({ frames := 0, cells := 0, slots := 0, locals := 0 } : Room).slots) (s₁.setTop (entryFrame m #[(.ref a1)] 1))
  refine own_cast (ef_rm5 m a1) ?_
  show own_Fin p e below _ (s₁.setTop (mkF m 0 #[.val (.ref a1)] []))
  refine own_on (fun t => XS.aloadN X0.here hx rfl (hb hby d5_0) rfl rfl) ?_
  show own_Fin p e below _ (s₁.setTop (mkF m 1 #[.val (.ref a1)] [(.ref a1)]))
  obtain ⟨T62, X62, e62, st62⟩ := getF X0 hx hZ hown (host := "") (Or.inl (hw _ (List.mem_of_getElem? (i := 20) rfl))) Via.refl e0 F (g := (mkF m 1 #[.val (.ref a1)] [(.ref a1)])) rfl rfl (hb hby d5_1)
  refine own_on st62 ?_
  show own_Fin p e below _ (T62.setTop (mkF m 4 #[.val (.ref a1)] [f]))
  exact own_ret (t := (.object "com/example/tidelock/tidelock/Outcome")) X62 hx hlk hret (by rcases ref_cases hf with h | ⟨_, h⟩ <;> subst h <;> rfl) (Or.inr (Or.inr (Or.inr (Or.inr ⟨rfl, rfl, hf⟩)))) (hb hby d5_4) (⟨rfl, N0, e62⟩) (by decide) (by decide)
theorem d6_0 : decode prog_3_method_6_code 0 = .ok (.aload_n 0, 1) := by decide +kernel
theorem d6_1 : decode prog_3_method_6_code 1 = .ok (.getfield 13, 3) := by decide +kernel
theorem d6_4 : decode prog_3_method_6_code 4 = .ok (.areturn, 1) := by decide +kernel
theorem ef_rm6 (m : MethodId) (x0 : Addr) : entryFrame m #[(.ref x0)] 1 = mkF m 0 #[.val (.ref x0)] [] := by first | (simp [entryFrame, mkF, argsToLocals, Value.category]; done) | rfl
def Q6 (Z : State) (a1 : Addr) (f : Value) (h0 : Heap) (n0 : Nat) (v : Option Value) (h : Heap) (L : List Loc) : Prop := v = some f ∧ Fr n0 L ∧ h = h0
set_option maxRecDepth 65536 in
set_option maxHeartbeats 40000000 in
theorem rm6 (l : Launch) (Z : State) (a0 : Array Value) (hw : ∀ d ∈ tables_1, d.before a0 Z = true) (ws : List Jvm.Cond) (a1 : Addr) (f : Value) (h0 : Heap) (n0 : Nat) (Z0 : n0 ≤ h0.size) (F : Fld Z h0 a1 "com/example/tidelock/tidelock/Decision" "claim" "Lcom/example/tidelock/tidelock/Identifier;" f) (hf : f.isRef = true) :
    MetFree l (⟨"com/example/tidelock/tidelock/Decision", "claim", "()Lcom/example/tidelock/tidelock/Identifier;"⟩ : MethodName) (head1 (Jvm.Cond.code (⟨"com/example/tidelock/tidelock/Decision", "claim", "()Lcom/example/tidelock/tidelock/Identifier;"⟩ : MethodName) prog_3_method_6_code 1 (some (.object "com/example/tidelock/tidelock/Identifier")) :: ws) ({ frames := 0, cells := 0, slots := 0, locals := 0 } : Room)) (fun as_ U => as_ = #[(.ref a1)] ∧ Z.Warmed39 U.vm ∧ U.heap = h0) (fun _ _ _ _ _ => True) (fun _ U out_ U' => ∃ v L, out_ = .returned v ∧ Q6 Z a1 f h0 n0 v U'.heap L ∧ FrameEnd U out_ U' L ({ frames := 0, cells := 0, slots := 0, locals := 0 } : Room).cells ({ frames := 0, cells := 0, slots := 0, locals := 0 } : Room).slots) := by
  refine MetFree.of_bodySF (plainFor_of_name pn_1) hisR ?_
  intro p e s m args below meth cd s₁ Bd hml0 hP hK
  obtain ⟨rfl, hZ, hh⟩ := hP
  have hx := Bd.exec
  have hby := Bd.bytes
  have hml : cd.maxLocals = 1 := hml0
  have hlk : meth.locks = false := BodyLoose.notSynchronized Bd
  have hown : s.vm.findClass "com/example/tidelock/tidelock/Decision" = some m.cls := findClass_of_methodNamed Bd.named
  have hnm := (name_of_methodNamed Bd.named Bd.method).1
  have hret := Bd.returns
  have X0 : Stand p l e ({ frames := 0, cells := 0, slots := 0, locals := 0 } : Room) s m #[(.ref a1)] below meth cd s₁ [] 0 0 := Stand.of_body Bd
  have e0 : s₁.heap = h0 := by rw [← hh, Bd.state]; rfl
  have N0 := Fr.nil n0
  show own_Fin p e below (own_Ans s (Q6 Z a1 f h0 n0) ({ frames := 0, cells := 0, slots := 0, locals := 0 } : Room).cells ({ frames := 0, cells := 0, slots := 0, locals := 0 } : Room).slots) (s₁.setTop (entryFrame m #[(.ref a1)] 1))
  refine own_cast (ef_rm6 m a1) ?_
  show own_Fin p e below _ (s₁.setTop (mkF m 0 #[.val (.ref a1)] []))
  refine own_on (fun t => XS.aloadN X0.here hx rfl (hb hby d6_0) rfl rfl) ?_
  show own_Fin p e below _ (s₁.setTop (mkF m 1 #[.val (.ref a1)] [(.ref a1)]))
  obtain ⟨T63, X63, e63, st63⟩ := getF X0 hx hZ hown (host := "") (Or.inl (hw _ (List.mem_of_getElem? (i := 22) rfl))) Via.refl e0 F (g := (mkF m 1 #[.val (.ref a1)] [(.ref a1)])) rfl rfl (hb hby d6_1)
  refine own_on st63 ?_
  show own_Fin p e below _ (T63.setTop (mkF m 4 #[.val (.ref a1)] [f]))
  exact own_ret (t := (.object "com/example/tidelock/tidelock/Identifier")) X63 hx hlk hret (by rcases ref_cases hf with h | ⟨_, h⟩ <;> subst h <;> rfl) (Or.inr (Or.inr (Or.inr (Or.inr ⟨rfl, rfl, hf⟩)))) (hb hby d6_4) (⟨rfl, N0, e63⟩) (by decide) (by decide)
theorem d7_0 : decode prog_3_method_7_code 0 = .ok (.aload_n 0, 1) := by decide +kernel
theorem d7_1 : decode prog_3_method_7_code 1 = .ok (.getfield 17, 3) := by decide +kernel
theorem d7_4 : decode prog_3_method_7_code 4 = .ok (.areturn, 1) := by decide +kernel
theorem ef_rm7 (m : MethodId) (x0 : Addr) : entryFrame m #[(.ref x0)] 1 = mkF m 0 #[.val (.ref x0)] [] := by first | (simp [entryFrame, mkF, argsToLocals, Value.category]; done) | rfl
def Q7 (Z : State) (a1 : Addr) (f : Value) (h0 : Heap) (n0 : Nat) (v : Option Value) (h : Heap) (L : List Loc) : Prop := v = some f ∧ Fr n0 L ∧ h = h0
set_option maxRecDepth 65536 in
set_option maxHeartbeats 40000000 in
theorem rm7 (l : Launch) (Z : State) (a0 : Array Value) (hw : ∀ d ∈ tables_1, d.before a0 Z = true) (ws : List Jvm.Cond) (a1 : Addr) (f : Value) (h0 : Heap) (n0 : Nat) (Z0 : n0 ≤ h0.size) (F : Fld Z h0 a1 "com/example/tidelock/tidelock/Decision" "token" "Ljava/lang/String;" f) (hf : f.isRef = true) :
    MetFree l (⟨"com/example/tidelock/tidelock/Decision", "token", "()Ljava/lang/String;"⟩ : MethodName) (head1 (Jvm.Cond.code (⟨"com/example/tidelock/tidelock/Decision", "token", "()Ljava/lang/String;"⟩ : MethodName) prog_3_method_7_code 1 (some (.object "java/lang/String")) :: ws) ({ frames := 0, cells := 0, slots := 0, locals := 0 } : Room)) (fun as_ U => as_ = #[(.ref a1)] ∧ Z.Warmed39 U.vm ∧ U.heap = h0) (fun _ _ _ _ _ => True) (fun _ U out_ U' => ∃ v L, out_ = .returned v ∧ Q7 Z a1 f h0 n0 v U'.heap L ∧ FrameEnd U out_ U' L ({ frames := 0, cells := 0, slots := 0, locals := 0 } : Room).cells ({ frames := 0, cells := 0, slots := 0, locals := 0 } : Room).slots) := by
  refine MetFree.of_bodySF (plainFor_of_name pn_1) hisR ?_
  intro p e s m args below meth cd s₁ Bd hml0 hP hK
  obtain ⟨rfl, hZ, hh⟩ := hP
  have hx := Bd.exec
  have hby := Bd.bytes
  have hml : cd.maxLocals = 1 := hml0
  have hlk : meth.locks = false := BodyLoose.notSynchronized Bd
  have hown : s.vm.findClass "com/example/tidelock/tidelock/Decision" = some m.cls := findClass_of_methodNamed Bd.named
  have hnm := (name_of_methodNamed Bd.named Bd.method).1
  have hret := Bd.returns
  have X0 : Stand p l e ({ frames := 0, cells := 0, slots := 0, locals := 0 } : Room) s m #[(.ref a1)] below meth cd s₁ [] 0 0 := Stand.of_body Bd
  have e0 : s₁.heap = h0 := by rw [← hh, Bd.state]; rfl
  have N0 := Fr.nil n0
  show own_Fin p e below (own_Ans s (Q7 Z a1 f h0 n0) ({ frames := 0, cells := 0, slots := 0, locals := 0 } : Room).cells ({ frames := 0, cells := 0, slots := 0, locals := 0 } : Room).slots) (s₁.setTop (entryFrame m #[(.ref a1)] 1))
  refine own_cast (ef_rm7 m a1) ?_
  show own_Fin p e below _ (s₁.setTop (mkF m 0 #[.val (.ref a1)] []))
  refine own_on (fun t => XS.aloadN X0.here hx rfl (hb hby d7_0) rfl rfl) ?_
  show own_Fin p e below _ (s₁.setTop (mkF m 1 #[.val (.ref a1)] [(.ref a1)]))
  obtain ⟨T64, X64, e64, st64⟩ := getF X0 hx hZ hown (host := "") (Or.inl (hw _ (List.mem_of_getElem? (i := 24) rfl))) Via.refl e0 F (g := (mkF m 1 #[.val (.ref a1)] [(.ref a1)])) rfl rfl (hb hby d7_1)
  refine own_on st64 ?_
  show own_Fin p e below _ (T64.setTop (mkF m 4 #[.val (.ref a1)] [f]))
  exact own_ret (t := (.object "java/lang/String")) X64 hx hlk hret (by rcases ref_cases hf with h | ⟨_, h⟩ <;> subst h <;> rfl) (Or.inr (Or.inr (Or.inr (Or.inr ⟨rfl, rfl, hf⟩)))) (hb hby d7_4) (⟨rfl, N0, e64⟩) (by decide) (by decide)
theorem d8_0 : decode prog_3_method_8_code 0 = .ok (.aload_n 0, 1) := by decide +kernel
theorem d8_1 : decode prog_3_method_8_code 1 = .ok (.getfield 21, 3) := by decide +kernel
theorem d8_4 : decode prog_3_method_8_code 4 = .ok (.areturn, 1) := by decide +kernel
theorem ef_rm8 (m : MethodId) (x0 : Addr) : entryFrame m #[(.ref x0)] 1 = mkF m 0 #[.val (.ref x0)] [] := by first | (simp [entryFrame, mkF, argsToLocals, Value.category]; done) | rfl
def Q8 (Z : State) (a1 : Addr) (f : Value) (h0 : Heap) (n0 : Nat) (v : Option Value) (h : Heap) (L : List Loc) : Prop := v = some f ∧ Fr n0 L ∧ h = h0
set_option maxRecDepth 65536 in
set_option maxHeartbeats 40000000 in
theorem rm8 (l : Launch) (Z : State) (a0 : Array Value) (hw : ∀ d ∈ tables_1, d.before a0 Z = true) (ws : List Jvm.Cond) (a1 : Addr) (f : Value) (h0 : Heap) (n0 : Nat) (Z0 : n0 ≤ h0.size) (F : Fld Z h0 a1 "com/example/tidelock/tidelock/Decision" "expiresAt" "Ljava/time/Instant;" f) (hf : f.isRef = true) :
    MetFree l (⟨"com/example/tidelock/tidelock/Decision", "expiresAt", "()Ljava/time/Instant;"⟩ : MethodName) (head1 (Jvm.Cond.code (⟨"com/example/tidelock/tidelock/Decision", "expiresAt", "()Ljava/time/Instant;"⟩ : MethodName) prog_3_method_8_code 1 (some (.object "java/time/Instant")) :: ws) ({ frames := 0, cells := 0, slots := 0, locals := 0 } : Room)) (fun as_ U => as_ = #[(.ref a1)] ∧ Z.Warmed39 U.vm ∧ U.heap = h0) (fun _ _ _ _ _ => True) (fun _ U out_ U' => ∃ v L, out_ = .returned v ∧ Q8 Z a1 f h0 n0 v U'.heap L ∧ FrameEnd U out_ U' L ({ frames := 0, cells := 0, slots := 0, locals := 0 } : Room).cells ({ frames := 0, cells := 0, slots := 0, locals := 0 } : Room).slots) := by
  refine MetFree.of_bodySF (plainFor_of_name pn_1) hisR ?_
  intro p e s m args below meth cd s₁ Bd hml0 hP hK
  obtain ⟨rfl, hZ, hh⟩ := hP
  have hx := Bd.exec
  have hby := Bd.bytes
  have hml : cd.maxLocals = 1 := hml0
  have hlk : meth.locks = false := BodyLoose.notSynchronized Bd
  have hown : s.vm.findClass "com/example/tidelock/tidelock/Decision" = some m.cls := findClass_of_methodNamed Bd.named
  have hnm := (name_of_methodNamed Bd.named Bd.method).1
  have hret := Bd.returns
  have X0 : Stand p l e ({ frames := 0, cells := 0, slots := 0, locals := 0 } : Room) s m #[(.ref a1)] below meth cd s₁ [] 0 0 := Stand.of_body Bd
  have e0 : s₁.heap = h0 := by rw [← hh, Bd.state]; rfl
  have N0 := Fr.nil n0
  show own_Fin p e below (own_Ans s (Q8 Z a1 f h0 n0) ({ frames := 0, cells := 0, slots := 0, locals := 0 } : Room).cells ({ frames := 0, cells := 0, slots := 0, locals := 0 } : Room).slots) (s₁.setTop (entryFrame m #[(.ref a1)] 1))
  refine own_cast (ef_rm8 m a1) ?_
  show own_Fin p e below _ (s₁.setTop (mkF m 0 #[.val (.ref a1)] []))
  refine own_on (fun t => XS.aloadN X0.here hx rfl (hb hby d8_0) rfl rfl) ?_
  show own_Fin p e below _ (s₁.setTop (mkF m 1 #[.val (.ref a1)] [(.ref a1)]))
  obtain ⟨T65, X65, e65, st65⟩ := getF X0 hx hZ hown (host := "") (Or.inl (hw _ (List.mem_of_getElem? (i := 26) rfl))) Via.refl e0 F (g := (mkF m 1 #[.val (.ref a1)] [(.ref a1)])) rfl rfl (hb hby d8_1)
  refine own_on st65 ?_
  show own_Fin p e below _ (T65.setTop (mkF m 4 #[.val (.ref a1)] [f]))
  exact own_ret (t := (.object "java/time/Instant")) X65 hx hlk hret (by rcases ref_cases hf with h | ⟨_, h⟩ <;> subst h <;> rfl) (Or.inr (Or.inr (Or.inr (Or.inr ⟨rfl, rfl, hf⟩)))) (hb hby d8_4) (⟨rfl, N0, e65⟩) (by decide) (by decide)
theorem pd_1 : parseMethodDescriptor "(I)Lcom/example/tidelock/tidelock/Outcome;" = some ⟨[.int], some (.object "com/example/tidelock/tidelock/Outcome")⟩ := by decide +kernel
theorem pd_2 : parseMethodDescriptor "(Lcom/example/tidelock/tidelock/Outcome;)Lcom/example/tidelock/tidelock/Decision;" = some ⟨[(.object "com/example/tidelock/tidelock/Outcome")], some (.object "com/example/tidelock/tidelock/Decision")⟩ := by decide +kernel
theorem pd_3 : parseMethodDescriptor "()Lcom/example/tidelock/tidelock/Outcome;" = some ⟨[], some (.object "com/example/tidelock/tidelock/Outcome")⟩ := by decide +kernel
theorem pd_4 : parseMethodDescriptor "()Lcom/example/tidelock/tidelock/Identifier;" = some ⟨[], some (.object "com/example/tidelock/tidelock/Identifier")⟩ := by decide +kernel
theorem pd_5 : parseMethodDescriptor "()Ljava/lang/String;" = some ⟨[], some (.object "java/lang/String")⟩ := by decide +kernel
theorem pd_6 : parseMethodDescriptor "()Ljava/time/Instant;" = some ⟨[], some (.object "java/time/Instant")⟩ := by decide +kernel
theorem ef_rm0 (m : MethodId) (x0 : Int32) : entryFrame m #[(.int x0)] maxLocals = mkF m 0 #[.val (.int x0), .unset, .unset, .unset] [] := by first | (simp [entryFrame, mkF, argsToLocals, Value.category, maxLocals]; done) | rfl
def Q0 (Z : State) (p1 : Int32) (c0 : Addr) (c1 : Addr) (c2 : Addr) (c3 : Addr) (c4 : Addr) (c5 : Addr) (c6 : Addr) (c7 : Addr) (c8 : Addr) (c9 : Addr) (c10 : Addr) (r : Addr) (h0 : Heap) (n0 : Nat) (v : Option Value) (h : Heap) (L : List Loc) : Prop := v = some (.int 1) ∧ Fr n0 L
set_option maxRecDepth 65536 in
set_option maxHeartbeats 40000000 in
theorem rm0 (l : Launch) (Z : State) (a0 : Array Value) (hw : ∀ d ∈ tables_1, d.before a0 Z = true) (ws : List Jvm.Cond) (p1 : Int32) (c0 : Addr) (c1 : Addr) (c2 : Addr) (c3 : Addr) (c4 : Addr) (c5 : Addr) (c6 : Addr) (c7 : Addr) (c8 : Addr) (c9 : Addr) (c10 : Addr) (r : Addr) (h0 : Heap) (n0 : Nat) (Z0 : n0 ≤ h0.size) (s0 : Sta Z h0 "com/example/tidelock/tidelock/Outcome" "NO_SUCH_SALE" "Lcom/example/tidelock/tidelock/Outcome;" (.ref c0)) (s1 : Sta Z h0 "com/example/tidelock/tidelock/Outcome" "IDEMPOTENCY_KEY_MISSING" "Lcom/example/tidelock/tidelock/Outcome;" (.ref c1)) (s2 : Sta Z h0 "com/example/tidelock/tidelock/Outcome" "IDEMPOTENCY_KEY_REUSED" "Lcom/example/tidelock/tidelock/Outcome;" (.ref c2)) (s3 : Sta Z h0 "com/example/tidelock/tidelock/Outcome" "NOT_STARTED" "Lcom/example/tidelock/tidelock/Outcome;" (.ref c3)) (s4 : Sta Z h0 "com/example/tidelock/tidelock/Outcome" "ENDED" "Lcom/example/tidelock/tidelock/Outcome;" (.ref c4)) (s5 : Sta Z h0 "com/example/tidelock/tidelock/Outcome" "SOLD_OUT" "Lcom/example/tidelock/tidelock/Outcome;" (.ref c5)) (s6 : Sta Z h0 "com/example/tidelock/tidelock/Outcome" "NO_SUCH_CLAIM" "Lcom/example/tidelock/tidelock/Outcome;" (.ref c6)) (s7 : Sta Z h0 "com/example/tidelock/tidelock/Outcome" "BAD_TOKEN" "Lcom/example/tidelock/tidelock/Outcome;" (.ref c7)) (s8 : Sta Z h0 "com/example/tidelock/tidelock/Outcome" "PAID" "Lcom/example/tidelock/tidelock/Outcome;" (.ref c8)) (s9 : Sta Z h0 "com/example/tidelock/tidelock/Outcome" "EXPIRED" "Lcom/example/tidelock/tidelock/Outcome;" (.ref c9)) (s10 : Sta Z h0 "com/example/tidelock/tidelock/Outcome" "RELEASED" "Lcom/example/tidelock/tidelock/Outcome;" (.ref c10)) (hr : r = own_pick ((p1 &&& (2147483647 : Int32)) % (11 : Int32)) c0 c1 c2 c3 c4 c5 c6 c7 c8 c9 c10) :
    MetFree l x (head1 (Jvm.Cond.code x code maxLocals ret :: ws) room_1) (fun as_ U => as_ = #[(.int p1)] ∧ Z.Warmed39 U.vm ∧ U.heap = h0) (fun _ _ _ _ _ => True) (fun _ U out_ U' => ∃ v L, out_ = .returned v ∧ Q0 Z p1 c0 c1 c2 c3 c4 c5 c6 c7 c8 c9 c10 r h0 n0 v U'.heap L ∧ FrameEnd U out_ U' L room_1.cells room_1.slots) := by
  refine MetFree.of_bodySF (plainFor_of_name pn_0) hisR ?_
  intro p e s m args below meth cd s₁ Bd hml0 hP hK
  obtain ⟨rfl, hZ, hh⟩ := hP
  have hx := Bd.exec
  have hby := Bd.bytes
  have hml : cd.maxLocals = 4 := hml0
  have hlk : meth.locks = false := BodyLoose.notSynchronized Bd
  have hown : s.vm.findClass "com/example/tidelock/tidelock/DecisionRefusedPinLaw" = some m.cls := findClass_of_methodNamed Bd.named
  have hnm := (name_of_methodNamed Bd.named Bd.method).1
  have hret := Bd.returns
  have X0 : Stand p l e room_1 s m #[(.int p1)] below meth cd s₁ [] 0 0 := Stand.of_body Bd
  have e0 : s₁.heap = h0 := by rw [← hh, Bd.state]; rfl
  have N0 := Fr.nil n0
  show own_Fin p e below (own_Ans s (Q0 Z p1 c0 c1 c2 c3 c4 c5 c6 c7 c8 c9 c10 r h0 n0) room_1.cells room_1.slots) (s₁.setTop (entryFrame m #[(.int p1)] maxLocals))
  refine own_cast (ef_rm0 m p1) ?_
  show own_Fin p e below _ (s₁.setTop (mkF m 0 #[.val (.int p1), .unset, .unset, .unset] []))
  refine own_on (fun t => XS.iloadN X0.here hx rfl (hb hby at_0) rfl) ?_
  show own_Fin p e below _ (s₁.setTop (mkF m 1 #[.val (.int p1), .unset, .unset, .unset] [(.int p1)]))
  refine own_on (fun t => X0.ldcInt hx hown (mvT hZ (hw _ (List.mem_of_getElem? (i := 0) rfl))) (g := (mkF m 1 #[.val (.int p1), .unset, .unset, .unset] [(.int p1)])) rfl (hb hby at_1) t) ?_
  show own_Fin p e below _ (s₁.setTop (mkF m 3 #[.val (.int p1), .unset, .unset, .unset] [(.int (2147483647 : Int32)), (.int p1)]))
  refine own_on (fun t => XS.iand X0.here hx rfl (hb hby at_3) rfl) ?_
  show own_Fin p e below _ (s₁.setTop (mkF m 4 #[.val (.int p1), .unset, .unset, .unset] [(.int (p1 &&& (2147483647 : Int32)))]))
  refine own_on (fun t => XS.bipush X0.here hx rfl (hb hby at_4)) ?_
  show own_Fin p e below _ (s₁.setTop (mkF m 6 #[.val (.int p1), .unset, .unset, .unset] [(.int (11 : Int32)), (.int (p1 &&& (2147483647 : Int32)))]))
  refine own_on (fun t => iremM X0 hx rfl (hb hby at_6) rfl (by decide)) ?_
  show own_Fin p e below _ (s₁.setTop (mkF m 7 #[.val (.int p1), .unset, .unset, .unset] [(.int ((p1 &&& (2147483647 : Int32)) % (11 : Int32)))]))
  refine own_on (fun t => XS.istoreN X0.here hx rfl (hb hby at_7) rfl (l' := #[.val (.int p1), .val (.int ((p1 &&& (2147483647 : Int32)) % (11 : Int32))), .unset, .unset]) rfl) ?_
  show own_Fin p e below _ (s₁.setTop (mkF m 8 #[.val (.int p1), .val (.int ((p1 &&& (2147483647 : Int32)) % (11 : Int32))), .unset, .unset] []))
  refine own_on (fun t => XS.iloadN X0.here hx rfl (hb hby at_8) rfl) ?_
  show own_Fin p e below _ (s₁.setTop (mkF m 9 #[.val (.int p1), .val (.int ((p1 &&& (2147483647 : Int32)) % (11 : Int32))), .unset, .unset] [(.int ((p1 &&& (2147483647 : Int32)) % (11 : Int32)))]))
  obtain ⟨_, _, ⟨T66, L66, k66, n66⟩, -, X66, ⟨Lc66, hQ66, l66, y66, z66⟩, st66⟩ := Jvm.LawKit.callS X0 hx (y := (⟨"com/example/tidelock/tidelock/DecisionRefusedPinLaw", "pick", "(I)Lcom/example/tidelock/tidelock/Outcome;"⟩ : MethodName)) hown (mvT hZ (hw _ (List.mem_of_getElem? (i := 1) rfl))) (mvT hZ (hw _ (List.mem_of_getElem? (i := 2) rfl))) (mvT hZ (hw _ (List.mem_of_getElem? (i := 3) rfl))) (mvT hZ (hw _ (List.mem_of_getElem? (i := 4) rfl))) (by decide) (backOf (W := 0) (rm1 l Z a0 hw [] ((p1 &&& (2147483647 : Int32)) % (11 : Int32)) c0 c1 c2 c3 c4 c5 c6 c7 c8 c9 c10 r h0 n0 (by exact Z0) s0 s1 s2 s3 s4 s5 s6 s7 s8 s9 s10 hr) hZ (hw _ (List.mem_of_getElem? (i := 4) rfl)) (hw _ (List.mem_of_getElem? (i := 3) rfl)) (by decide) (by decide)) (g := (mkF m 9 #[.val (.int p1), .val (.int ((p1 &&& (2147483647 : Int32)) % (11 : Int32))), .unset, .unset] [(.int ((p1 &&& (2147483647 : Int32)) % (11 : Int32)))])) rfl (by rw [hml]; rfl) (argsL := [(.int ((p1 &&& (2147483647 : Int32)) % (11 : Int32)))]) (rest := []) (lenOf pd_1 rfl) rfl (by show 2 * 0 + _ ≤ _; exact Nat.le_of_eq rfl) (hb hby at_9) (fun _ _ => ⟨rfl, e0, (by decide : 0 + 0 ≤ _), (by decide : 0 + 0 ≤ _)⟩)
  dsimp only [Pt.U, Pt.locs, Pt.cells, Pt.slots] at X66 l66 y66 z66 st66 hQ66
  subst l66 y66 z66
  obtain ⟨rfl, N66q, e66⟩ := hQ66
  have N66 := Fr.app N0 N66q
  refine own_on st66 ?_
  show own_Fin p e below _ (T66.setTop (mkF m 12 #[.val (.int p1), .val (.int ((p1 &&& (2147483647 : Int32)) % (11 : Int32))), .unset, .unset] [(.ref r)]))
  refine own_on (fun t => XS.astoreN X66.here hx rfl (hb hby at_12) rfl rfl (l' := #[.val (.int p1), .val (.int ((p1 &&& (2147483647 : Int32)) % (11 : Int32))), .val (.ref r), .unset]) rfl) ?_
  show own_Fin p e below _ (T66.setTop (mkF m 13 #[.val (.int p1), .val (.int ((p1 &&& (2147483647 : Int32)) % (11 : Int32))), .val (.ref r), .unset] []))
  refine own_on (fun t => XS.aloadN X66.here hx rfl (hb hby at_13) rfl rfl) ?_
  show own_Fin p e below _ (T66.setTop (mkF m 14 #[.val (.int p1), .val (.int ((p1 &&& (2147483647 : Int32)) % (11 : Int32))), .val (.ref r), .unset] [(.ref r)]))
  obtain ⟨_, _, ⟨T67, L67, k67, n67⟩, -, X67, ⟨Lc67, hQ67, l67, y67, z67⟩, st67⟩ := Jvm.LawKit.callS X66 hx (y := (⟨"com/example/tidelock/tidelock/Decision", "refused", "(Lcom/example/tidelock/tidelock/Outcome;)Lcom/example/tidelock/tidelock/Decision;"⟩ : MethodName)) hown (mvT hZ (hw _ (List.mem_of_getElem? (i := 8) rfl))) (mvT hZ (hw _ (List.mem_of_getElem? (i := 9) rfl))) (mvT hZ (hw _ (List.mem_of_getElem? (i := 10) rfl))) (mvT hZ (hw _ (List.mem_of_getElem? (i := 11) rfl))) (by decide) (backOf (W := 0) (rm2 l Z a0 hw [] r h0 n0 (by exact Z0)) hZ (hw _ (List.mem_of_getElem? (i := 11) rfl)) (hw _ (List.mem_of_getElem? (i := 10) rfl)) (by decide) (by decide)) (g := (mkF m 14 #[.val (.int p1), .val (.int ((p1 &&& (2147483647 : Int32)) % (11 : Int32))), .val (.ref r), .unset] [(.ref r)])) rfl (by rw [hml]; rfl) (argsL := [(.ref r)]) (rest := []) (lenOf pd_2 rfl) rfl (by show 2 * 0 + _ ≤ _; exact Nat.le_of_eq rfl) (hb hby at_14) (fun _ _ => ⟨rfl, e66, (by decide : 0 + 1 ≤ _), (by decide : 0 + 4 ≤ _)⟩)
  dsimp only [Pt.U, Pt.locs, Pt.cells, Pt.slots] at X67 l67 y67 z67 st67 hQ67
  subst l67 y67 z67
  obtain ⟨b67, rfl, N67q, K67, gn67, E67q, F67q0, F67q1, F67q2, F67q3⟩ := hQ67
  have N67 := Fr.app N66 N67q
  have y68 := (Nat.le_trans Z0 K67.1)
  refine own_on st67 ?_
  show own_Fin p e below _ (T67.setTop (mkF m 17 #[.val (.int p1), .val (.int ((p1 &&& (2147483647 : Int32)) % (11 : Int32))), .val (.ref r), .unset] [(.ref b67)]))
  refine own_on (fun t => XS.astoreN X67.here hx rfl (hb hby at_17) rfl rfl (l' := #[.val (.int p1), .val (.int ((p1 &&& (2147483647 : Int32)) % (11 : Int32))), .val (.ref r), .val (.ref b67)]) rfl) ?_
  show own_Fin p e below _ (T67.setTop (mkF m 18 #[.val (.int p1), .val (.int ((p1 &&& (2147483647 : Int32)) % (11 : Int32))), .val (.ref r), .val (.ref b67)] []))
  refine own_on (fun t => XS.aloadN X67.here hx rfl (hb hby at_18) rfl rfl) ?_
  show own_Fin p e below _ (T67.setTop (mkF m 19 #[.val (.int p1), .val (.int ((p1 &&& (2147483647 : Int32)) % (11 : Int32))), .val (.ref r), .val (.ref b67)] [(.ref b67)]))
  obtain ⟨cq69, kq69, q69a, q69b, q69c⟩ := isOf hZ rfl E67q
  obtain ⟨_, _, ⟨T69, L69, k69, n69⟩, -, X69, ⟨Lc69, hQ69, l69, y69, z69⟩, st69⟩ := X67.virtualBack hx (y := (⟨"com/example/tidelock/tidelock/Decision", "outcome", "()Lcom/example/tidelock/tidelock/Outcome;"⟩ : MethodName)) (z := (⟨"com/example/tidelock/tidelock/Decision", "outcome", "()Lcom/example/tidelock/tidelock/Outcome;"⟩ : MethodName)) hown (mvT hZ (hw _ (List.mem_of_getElem? (i := 28) rfl))) (mvT hZ (hw _ (List.mem_of_getElem? (i := 29) rfl))) (notFace_of_selects (args := #[]) (mvT hZ (hw _ (List.mem_of_getElem? (i := 31) rfl)))) (mvT hZ (hw _ (List.mem_of_getElem? (i := 31) rfl))) (mvT hZ (hw _ (List.mem_of_getElem? (i := 30) rfl))) (by decide) (backOf (W := 0) (rm5 l Z a0 hw [] b67 (.ref r) T67.heap n0 (by exact y68) F67q0 rfl) hZ (hw _ (List.mem_of_getElem? (i := 32) rfl)) (hw _ (List.mem_of_getElem? (i := 10) rfl)) (by decide) (by decide)) q69a q69c (g := (mkF m 19 #[.val (.int p1), .val (.int ((p1 &&& (2147483647 : Int32)) % (11 : Int32))), .val (.ref r), .val (.ref b67)] [(.ref b67)])) rfl (by rw [hml]; rfl) (Steps.refl _) (argsL := []) (rest := []) (lenOf pd_3 rfl) rfl (by show 2 * 0 + _ ≤ _; exact Nat.le_of_eq rfl) (hb hby at_19) (fun _ _ => ⟨rfl, rfl, (by decide : 1 + 0 ≤ _), (by decide : 4 + 0 ≤ _)⟩)
  dsimp only [Pt.U, Pt.locs, Pt.cells, Pt.slots] at X69 l69 y69 z69 st69 hQ69
  subst l69 y69 z69
  obtain ⟨rfl, N69q, e69⟩ := hQ69
  have N69 := Fr.app N67 N69q
  refine own_via st69 ?_
  show own_Fin p e below _ (T69.setTop (mkF m 22 #[.val (.int p1), .val (.int ((p1 &&& (2147483647 : Int32)) % (11 : Int32))), .val (.ref r), .val (.ref b67)] [(.ref r)]))
  refine own_on (fun t => XS.aloadN X69.here hx rfl (hb hby at_22) rfl rfl) ?_
  show own_Fin p e below _ (T69.setTop (mkF m 23 #[.val (.int p1), .val (.int ((p1 &&& (2147483647 : Int32)) % (11 : Int32))), .val (.ref r), .val (.ref b67)] [(.ref r), (.ref r)]))
  refine own_on (fun t => Jvm.RoadKit.acmp (g := (mkF m 23 #[.val (.int p1), .val (.int ((p1 &&& (2147483647 : Int32)) % (11 : Int32))), .val (.ref r), .val (.ref b67)] [(.ref r), (.ref r)])) X69 hx rfl rfl rfl (pc0 := 23) (pc' := 26) (same := true) rfl (hb hby at_23) rfl (decide_eq_true rfl) (by decide) (by decide)) ?_
  show own_Fin p e below _ (T69.setTop (mkF m 26 #[.val (.int p1), .val (.int ((p1 &&& (2147483647 : Int32)) % (11 : Int32))), .val (.ref r), .val (.ref b67)] []))
  refine own_on (fun t => XS.aloadN X69.here hx rfl (hb hby at_26) rfl rfl) ?_
  show own_Fin p e below _ (T69.setTop (mkF m 27 #[.val (.int p1), .val (.int ((p1 &&& (2147483647 : Int32)) % (11 : Int32))), .val (.ref r), .val (.ref b67)] [(.ref b67)]))
  obtain ⟨cq70, kq70, q70a, q70b, q70c⟩ := isOf hZ e69 E67q
  obtain ⟨_, _, ⟨T70, L70, k70, n70⟩, -, X70, ⟨Lc70, hQ70, l70, y70, z70⟩, st70⟩ := X69.virtualBack hx (y := (⟨"com/example/tidelock/tidelock/Decision", "claim", "()Lcom/example/tidelock/tidelock/Identifier;"⟩ : MethodName)) (z := (⟨"com/example/tidelock/tidelock/Decision", "claim", "()Lcom/example/tidelock/tidelock/Identifier;"⟩ : MethodName)) hown (mvT hZ (hw _ (List.mem_of_getElem? (i := 33) rfl))) (mvT hZ (hw _ (List.mem_of_getElem? (i := 34) rfl))) (notFace_of_selects (args := #[]) (mvT hZ (hw _ (List.mem_of_getElem? (i := 36) rfl)))) (mvT hZ (hw _ (List.mem_of_getElem? (i := 36) rfl))) (mvT hZ (hw _ (List.mem_of_getElem? (i := 35) rfl))) (by decide) (backOf (W := 0) (rm6 l Z a0 hw [] b67 .null T67.heap n0 (by exact y68) F67q1 rfl) hZ (hw _ (List.mem_of_getElem? (i := 37) rfl)) (hw _ (List.mem_of_getElem? (i := 10) rfl)) (by decide) (by decide)) q70a q70c (g := (mkF m 27 #[.val (.int p1), .val (.int ((p1 &&& (2147483647 : Int32)) % (11 : Int32))), .val (.ref r), .val (.ref b67)] [(.ref b67)])) rfl (by rw [hml]; rfl) (Steps.refl _) (argsL := []) (rest := []) (lenOf pd_4 rfl) rfl (by show 2 * 0 + _ ≤ _; exact Nat.le_of_eq rfl) (hb hby at_27) (fun _ _ => ⟨rfl, e69, (by decide : 1 + 0 ≤ _), (by decide : 4 + 0 ≤ _)⟩)
  dsimp only [Pt.U, Pt.locs, Pt.cells, Pt.slots] at X70 l70 y70 z70 st70 hQ70
  subst l70 y70 z70
  obtain ⟨rfl, N70q, e70⟩ := hQ70
  have N70 := Fr.app N69 N70q
  refine own_via st70 ?_
  show own_Fin p e below _ (T70.setTop (mkF m 30 #[.val (.int p1), .val (.int ((p1 &&& (2147483647 : Int32)) % (11 : Int32))), .val (.ref r), .val (.ref b67)] [.null]))
  refine own_on (fun t => XS.ifnonnullNo X70.here hx rfl (hb hby at_30) rfl) ?_
  show own_Fin p e below _ (T70.setTop (mkF m 33 #[.val (.int p1), .val (.int ((p1 &&& (2147483647 : Int32)) % (11 : Int32))), .val (.ref r), .val (.ref b67)] []))
  refine own_on (fun t => XS.aloadN X70.here hx rfl (hb hby at_33) rfl rfl) ?_
  show own_Fin p e below _ (T70.setTop (mkF m 34 #[.val (.int p1), .val (.int ((p1 &&& (2147483647 : Int32)) % (11 : Int32))), .val (.ref r), .val (.ref b67)] [(.ref b67)]))
  obtain ⟨cq71, kq71, q71a, q71b, q71c⟩ := isOf hZ e70 E67q
  obtain ⟨_, _, ⟨T71, L71, k71, n71⟩, -, X71, ⟨Lc71, hQ71, l71, y71, z71⟩, st71⟩ := X70.virtualBack hx (y := (⟨"com/example/tidelock/tidelock/Decision", "token", "()Ljava/lang/String;"⟩ : MethodName)) (z := (⟨"com/example/tidelock/tidelock/Decision", "token", "()Ljava/lang/String;"⟩ : MethodName)) hown (mvT hZ (hw _ (List.mem_of_getElem? (i := 38) rfl))) (mvT hZ (hw _ (List.mem_of_getElem? (i := 39) rfl))) (notFace_of_selects (args := #[]) (mvT hZ (hw _ (List.mem_of_getElem? (i := 41) rfl)))) (mvT hZ (hw _ (List.mem_of_getElem? (i := 41) rfl))) (mvT hZ (hw _ (List.mem_of_getElem? (i := 40) rfl))) (by decide) (backOf (W := 0) (rm7 l Z a0 hw [] b67 .null T67.heap n0 (by exact y68) F67q2 rfl) hZ (hw _ (List.mem_of_getElem? (i := 42) rfl)) (hw _ (List.mem_of_getElem? (i := 10) rfl)) (by decide) (by decide)) q71a q71c (g := (mkF m 34 #[.val (.int p1), .val (.int ((p1 &&& (2147483647 : Int32)) % (11 : Int32))), .val (.ref r), .val (.ref b67)] [(.ref b67)])) rfl (by rw [hml]; rfl) (Steps.refl _) (argsL := []) (rest := []) (lenOf pd_5 rfl) rfl (by show 2 * 0 + _ ≤ _; exact Nat.le_of_eq rfl) (hb hby at_34) (fun _ _ => ⟨rfl, e70, (by decide : 1 + 0 ≤ _), (by decide : 4 + 0 ≤ _)⟩)
  dsimp only [Pt.U, Pt.locs, Pt.cells, Pt.slots] at X71 l71 y71 z71 st71 hQ71
  subst l71 y71 z71
  obtain ⟨rfl, N71q, e71⟩ := hQ71
  have N71 := Fr.app N70 N71q
  refine own_via st71 ?_
  show own_Fin p e below _ (T71.setTop (mkF m 37 #[.val (.int p1), .val (.int ((p1 &&& (2147483647 : Int32)) % (11 : Int32))), .val (.ref r), .val (.ref b67)] [.null]))
  refine own_on (fun t => XS.ifnonnullNo X71.here hx rfl (hb hby at_37) rfl) ?_
  show own_Fin p e below _ (T71.setTop (mkF m 40 #[.val (.int p1), .val (.int ((p1 &&& (2147483647 : Int32)) % (11 : Int32))), .val (.ref r), .val (.ref b67)] []))
  refine own_on (fun t => XS.aloadN X71.here hx rfl (hb hby at_40) rfl rfl) ?_
  show own_Fin p e below _ (T71.setTop (mkF m 41 #[.val (.int p1), .val (.int ((p1 &&& (2147483647 : Int32)) % (11 : Int32))), .val (.ref r), .val (.ref b67)] [(.ref b67)]))
  obtain ⟨cq72, kq72, q72a, q72b, q72c⟩ := isOf hZ e71 E67q
  obtain ⟨_, _, ⟨T72, L72, k72, n72⟩, -, X72, ⟨Lc72, hQ72, l72, y72, z72⟩, st72⟩ := X71.virtualBack hx (y := (⟨"com/example/tidelock/tidelock/Decision", "expiresAt", "()Ljava/time/Instant;"⟩ : MethodName)) (z := (⟨"com/example/tidelock/tidelock/Decision", "expiresAt", "()Ljava/time/Instant;"⟩ : MethodName)) hown (mvT hZ (hw _ (List.mem_of_getElem? (i := 43) rfl))) (mvT hZ (hw _ (List.mem_of_getElem? (i := 44) rfl))) (notFace_of_selects (args := #[]) (mvT hZ (hw _ (List.mem_of_getElem? (i := 46) rfl)))) (mvT hZ (hw _ (List.mem_of_getElem? (i := 46) rfl))) (mvT hZ (hw _ (List.mem_of_getElem? (i := 45) rfl))) (by decide) (backOf (W := 0) (rm8 l Z a0 hw [] b67 .null T67.heap n0 (by exact y68) F67q3 rfl) hZ (hw _ (List.mem_of_getElem? (i := 47) rfl)) (hw _ (List.mem_of_getElem? (i := 10) rfl)) (by decide) (by decide)) q72a q72c (g := (mkF m 41 #[.val (.int p1), .val (.int ((p1 &&& (2147483647 : Int32)) % (11 : Int32))), .val (.ref r), .val (.ref b67)] [(.ref b67)])) rfl (by rw [hml]; rfl) (Steps.refl _) (argsL := []) (rest := []) (lenOf pd_6 rfl) rfl (by show 2 * 0 + _ ≤ _; exact Nat.le_of_eq rfl) (hb hby at_41) (fun _ _ => ⟨rfl, e71, (by decide : 1 + 0 ≤ _), (by decide : 4 + 0 ≤ _)⟩)
  dsimp only [Pt.U, Pt.locs, Pt.cells, Pt.slots] at X72 l72 y72 z72 st72 hQ72
  subst l72 y72 z72
  obtain ⟨rfl, N72q, e72⟩ := hQ72
  have N72 := Fr.app N71 N72q
  refine own_via st72 ?_
  show own_Fin p e below _ (T72.setTop (mkF m 44 #[.val (.int p1), .val (.int ((p1 &&& (2147483647 : Int32)) % (11 : Int32))), .val (.ref r), .val (.ref b67)] [.null]))
  refine own_on (fun t => XS.ifnonnullNo X72.here hx rfl (hb hby at_44) rfl) ?_
  show own_Fin p e below _ (T72.setTop (mkF m 47 #[.val (.int p1), .val (.int ((p1 &&& (2147483647 : Int32)) % (11 : Int32))), .val (.ref r), .val (.ref b67)] []))
  refine own_on (fun t => XS.iconst X72.here hx rfl (hb hby at_47)) ?_
  show own_Fin p e below _ (T72.setTop (mkF m 48 #[.val (.int p1), .val (.int ((p1 &&& (2147483647 : Int32)) % (11 : Int32))), .val (.ref r), .val (.ref b67)] [(.int (1 : Int32))]))
  refine own_on (fun t => XS.goto X72.here hx rfl (pc0 := 48) (pc' := 52) rfl (hb hby at_48) (by decide) (by decide)) ?_
  show own_Fin p e below _ (T72.setTop (mkF m 52 #[.val (.int p1), .val (.int ((p1 &&& (2147483647 : Int32)) % (11 : Int32))), .val (.ref r), .val (.ref b67)] [(.int (1 : Int32))]))
  exact own_ret (t := .boolean) X72 hx hlk hret rfl (Or.inl ⟨rfl, (by simp), _, rfl⟩) (hb hby at_52) (⟨rfl, N72⟩) (by decide) (by decide)
set_option maxRecDepth 65536 in
set_option maxHeartbeats 40000000 in
theorem comes_1 {Post : Tables → Env → Array Value → State → Outcome → State → Prop} (hpost : ∀ tb e args s v u, (limb_1_1.after args s (.returned v) u = true ∧ limb_1_2.after args s (.returned v) u = true ∧ True) → FrameEnd s (.returned v) u (Jvm.fieldLocs frame_1_writes args s ++ Jvm.arrayLocs frame_1_arrays args s ++ Jvm.staticLocs frame_1_statics s) 16 128 → Post tb e args s (.returned v) u) :
    ArmFor flags0 classFile x code maxLocals ret World_1 tables_1 room_1 Calls_1 rest_1 Pre_1 Post := by
  intro l hfl _ _ p e ha hc hk s m args below hf hA hF happ hP
  obtain ⟨hcalls, hrest, hpre⟩ := hP
  obtain ⟨-, -, -, hnamed, -, -, -, hat⟩ := (Spec.applies_iff hf).mp happ
  obtain ⟨hg, hn⟩ := and_e (Cond.before_iff.mp (show (Jvm.Cond.and given_1 narrow_1).before args s = true from hpre))
  obtain ⟨ga0l, ga0r⟩ := and_e hg
  obtain ⟨na0l, na0r⟩ := and_e hn
  obtain ⟨na1l, na1r⟩ := and_e na0r
  obtain ⟨na2l, na2r⟩ := and_e na1r
  obtain ⟨na3l, na3r⟩ := and_e na2r
  obtain ⟨na4l, na4r⟩ := and_e na3r
  obtain ⟨na5l, na5r⟩ := and_e na4r
  obtain ⟨na6l, na6r⟩ := and_e na5r
  obtain ⟨na7l, na7r⟩ := and_e na6r
  obtain ⟨na8l, na8r⟩ := and_e na7r
  obtain ⟨na9l, na9r⟩ := and_e na8r
  obtain ⟨w0, rfl⟩ : ∃ w0 : Value, args = #[w0] := by
    have hs : args.size = 1 := by simpa [Cond.value, given_1] using ga0l
    obtain ⟨L⟩ := args
    match L, hs with
    | [w0], _ => exact ⟨w0, rfl⟩
  have hw := fun d (hd : d ∈ tables_1) => atoms_spec (ws := Jvm.Cond.code x code maxLocals ret :: tables_1) hat d (List.mem_cons_of_mem _ hd)
  have hfit : Fit s := fun {y c} hc i hi => by
    obtain ⟨ha, rfl⟩ := Array.getElem?_eq_some_iff.mp hc
    have q := List.all_eq_true.mp ((Array.all_eq_true_iff_forall_mem.mp hF) _ (Array.getElem_mem ha)) i (List.mem_range.mpr hi)
    simpa [Array.getElem?_eq_getElem hi] using q
  obtain ⟨i0, ei0⟩ := is_v ga0r
  obtain rfl : w0 = (.int i0) := Option.some.inj ei0
  obtain ⟨a_Outcome_NO_SUCH_SALE, ev_Outcome_NO_SUCH_SALE⟩ := exa_v na0l
  have E_Outcome_NO_SUCH_SALE := Exa.start ev_Outcome_NO_SUCH_SALE na0l
  have S_Outcome_NO_SUCH_SALE := Sta.start ev_Outcome_NO_SUCH_SALE (Or.inr ⟨(hw _ (List.mem_of_getElem? (i := 6) rfl)), (hw _ (List.mem_of_getElem? (i := 7) rfl))⟩)
  obtain ⟨a_Outcome_NOT_STARTED, ev_Outcome_NOT_STARTED⟩ := exa_v na1l
  have E_Outcome_NOT_STARTED := Exa.start ev_Outcome_NOT_STARTED na1l
  have S_Outcome_NOT_STARTED := Sta.start ev_Outcome_NOT_STARTED (Or.inr ⟨(hw _ (List.mem_of_getElem? (i := 6) rfl)), (hw _ (List.mem_of_getElem? (i := 49) rfl))⟩)
  obtain ⟨a_Outcome_BAD_TOKEN, ev_Outcome_BAD_TOKEN⟩ := exa_v na2l
  have E_Outcome_BAD_TOKEN := Exa.start ev_Outcome_BAD_TOKEN na2l
  have S_Outcome_BAD_TOKEN := Sta.start ev_Outcome_BAD_TOKEN (Or.inr ⟨(hw _ (List.mem_of_getElem? (i := 6) rfl)), (hw _ (List.mem_of_getElem? (i := 51) rfl))⟩)
  obtain ⟨a_Outcome_PAID, ev_Outcome_PAID⟩ := exa_v na3l
  have E_Outcome_PAID := Exa.start ev_Outcome_PAID na3l
  have S_Outcome_PAID := Sta.start ev_Outcome_PAID (Or.inr ⟨(hw _ (List.mem_of_getElem? (i := 6) rfl)), (hw _ (List.mem_of_getElem? (i := 53) rfl))⟩)
  obtain ⟨a_Outcome_IDEMPOTENCY_KEY_REUSED, ev_Outcome_IDEMPOTENCY_KEY_REUSED⟩ := exa_v na4l
  have E_Outcome_IDEMPOTENCY_KEY_REUSED := Exa.start ev_Outcome_IDEMPOTENCY_KEY_REUSED na4l
  have S_Outcome_IDEMPOTENCY_KEY_REUSED := Sta.start ev_Outcome_IDEMPOTENCY_KEY_REUSED (Or.inr ⟨(hw _ (List.mem_of_getElem? (i := 6) rfl)), (hw _ (List.mem_of_getElem? (i := 55) rfl))⟩)
  obtain ⟨a_Outcome_RELEASED, ev_Outcome_RELEASED⟩ := exa_v na5l
  have E_Outcome_RELEASED := Exa.start ev_Outcome_RELEASED na5l
  have S_Outcome_RELEASED := Sta.start ev_Outcome_RELEASED (Or.inr ⟨(hw _ (List.mem_of_getElem? (i := 6) rfl)), (hw _ (List.mem_of_getElem? (i := 57) rfl))⟩)
  obtain ⟨a_Outcome_IDEMPOTENCY_KEY_MISSING, ev_Outcome_IDEMPOTENCY_KEY_MISSING⟩ := exa_v na6l
  have E_Outcome_IDEMPOTENCY_KEY_MISSING := Exa.start ev_Outcome_IDEMPOTENCY_KEY_MISSING na6l
  have S_Outcome_IDEMPOTENCY_KEY_MISSING := Sta.start ev_Outcome_IDEMPOTENCY_KEY_MISSING (Or.inr ⟨(hw _ (List.mem_of_getElem? (i := 6) rfl)), (hw _ (List.mem_of_getElem? (i := 59) rfl))⟩)
  obtain ⟨a_Outcome_EXPIRED, ev_Outcome_EXPIRED⟩ := exa_v na7l
  have E_Outcome_EXPIRED := Exa.start ev_Outcome_EXPIRED na7l
  have S_Outcome_EXPIRED := Sta.start ev_Outcome_EXPIRED (Or.inr ⟨(hw _ (List.mem_of_getElem? (i := 6) rfl)), (hw _ (List.mem_of_getElem? (i := 61) rfl))⟩)
  obtain ⟨a_Outcome_SOLD_OUT, ev_Outcome_SOLD_OUT⟩ := exa_v na8l
  have E_Outcome_SOLD_OUT := Exa.start ev_Outcome_SOLD_OUT na8l
  have S_Outcome_SOLD_OUT := Sta.start ev_Outcome_SOLD_OUT (Or.inr ⟨(hw _ (List.mem_of_getElem? (i := 6) rfl)), (hw _ (List.mem_of_getElem? (i := 63) rfl))⟩)
  obtain ⟨a_Outcome_NO_SUCH_CLAIM, ev_Outcome_NO_SUCH_CLAIM⟩ := exa_v na9l
  have E_Outcome_NO_SUCH_CLAIM := Exa.start ev_Outcome_NO_SUCH_CLAIM na9l
  have S_Outcome_NO_SUCH_CLAIM := Sta.start ev_Outcome_NO_SUCH_CLAIM (Or.inr ⟨(hw _ (List.mem_of_getElem? (i := 6) rfl)), (hw _ (List.mem_of_getElem? (i := 65) rfl))⟩)
  obtain ⟨a_Outcome_ENDED, ev_Outcome_ENDED⟩ := exa_v na9r
  have E_Outcome_ENDED := Exa.start ev_Outcome_ENDED na9r
  have S_Outcome_ENDED := Sta.start ev_Outcome_ENDED (Or.inr ⟨(hw _ (List.mem_of_getElem? (i := 6) rfl)), (hw _ (List.mem_of_getElem? (i := 67) rfl))⟩)
  obtain ⟨n, o, h1, h2, h3, _, L, rfl, ⟨rfl, N⟩, hq⟩ := rm0 l s _ hw tables_1 i0 a_Outcome_NO_SUCH_SALE a_Outcome_IDEMPOTENCY_KEY_MISSING a_Outcome_IDEMPOTENCY_KEY_REUSED a_Outcome_NOT_STARTED a_Outcome_ENDED a_Outcome_SOLD_OUT a_Outcome_NO_SUCH_CLAIM a_Outcome_BAD_TOKEN a_Outcome_PAID a_Outcome_EXPIRED a_Outcome_RELEASED _ s.heap s.heap.size (Nat.le_refl _) S_Outcome_NO_SUCH_SALE S_Outcome_IDEMPOTENCY_KEY_MISSING S_Outcome_IDEMPOTENCY_KEY_REUSED S_Outcome_NOT_STARTED S_Outcome_ENDED S_Outcome_SOLD_OUT S_Outcome_NO_SUCH_CLAIM S_Outcome_BAD_TOKEN S_Outcome_PAID S_Outcome_EXPIRED S_Outcome_RELEASED rfl p e ha hc hk s m _ below hf ((Spec.applies_iff_loose hf).mp happ).1 ⟨rfl, State.Warmed39.refl s, rfl⟩ trivial
  refine ⟨n, _, h1, h2, h3, hpost _ _ _ _ _ _ ⟨Cond.after_iff.mpr rfl, Cond.after_iff.mpr (eq_i res_at (Term.int_eval (1)) rfl), trivial⟩ ⟨hq.1, hq.2.1, (hq.2.2.sift fun y hy => Or.inr (N y hy)).mono (by decide) (by decide)⟩⟩
theorem main_1_1 : Claimed_1_1 := comes_1 fun _ _ _ _ _ _ h hF => ⟨h.1, hF⟩
theorem main_1_2 : Claimed_1_2 := comes_1 fun _ _ _ _ _ _ h hF => ⟨h.2.1, hF⟩
end Jvm.Pilot.@@N@@
namespace Jvm.Pilot.@@N@@
open Jvm Jvm.ClassFile Sem Op Lib Jvm.Free Jvm.Stand Jvm.Pilot.@@N@@.Jvm.D
/-! MADE BY PROGRAM (witnessworld.py) out of the Statement's table words and the real class files: 13 classes; the members and pool entries that the words name. The judged class is class 1, her method 2. -/
namespace start1
open Jvm.ClassFile
def u (s : String) : CpInfo := .utf8 (stringToUtf16 s)
/-- a pool by its gaps: so many unusable entries, then the entry; so many at the end -/
def gap : Nat → List CpInfo → List CpInfo
  | 0, r => r
  | n + 1, r => .unusable :: gap n r
def poolList (es : List (Nat × CpInfo)) (last : Nat) : List CpInfo := es.foldr (fun e r => gap e.1 (e.2 :: r)) (gap last [])
def pool (es : List (Nat × CpInfo)) (last : Nat) : Array CpInfo := ⟨poolList es last⟩
def fileOf (pool : Array CpInfo) (this : Nat) (attrs : Array Attribute := #[]) (ms : Array MethodInfo := #[]) (fl : Nat := 33) (sup : Nat := 0) (ifs : Array Nat := #[]) (fds : Array FieldInfo := #[]) : ClassFile where
  minorVersion := 0
  majorVersion := 65
  constantPool := pool
  accessFlags := fl
  thisClass := this
  superClass := sup
  interfaces := ifs
  fields := fds
  methods := ms
  attributes := attrs
def plain (name : String) (sup : Option ClassId) : Class where
  name := name
  kind := .ordinary
  loader := none
  accessFlags := 33
  super := sup
  interfaces := #[]
  cf := none
  fields := #[]
  methods := #[]
  instanceTypes := #[]
  staticTypes := #[]
  resolved := #[]
  callSites := []
  init := .initialized
  statics := none
  mirror := none

def pool0 : Array CpInfo := pool [(5, u "<init>"), (0, u "()V"), (1, .class_ 10), (1, u "java/lang/Object")] 113

def k0c0 : Code := { maxStack := 0, maxLocals := 1, code := object_method_1_code, exceptionTable := #[], attributes := #[] }
def k0m0 : Method := { name := "<init>", desc := "()V", sig := { parameters := [], returnType := none }, accessFlags := 1, code := some k0c0 }
/-- java/lang/Object -/
def k0 : Class := { plain "java/lang/Object" none with
  accessFlags := 33
  interfaces := #[]
  cf := some (fileOf pool0 8 #[] #[{ accessFlags := 1, nameIndex := 5, descriptorIndex := 6, attributes := #[] }] 33 0 #[] #[])
  fields := #[]
  methods := #[k0m0]
  instanceTypes := #[]
  staticTypes := #[]
  resolved := Array.replicate 124 none
  statics := none }

def pool1 : Array CpInfo := pool [(2, .class_ 4), (1, u "java/lang/Object"), (0, u "<init>"), (0, u "()V"), (0, .fieldref 8 9), (0, .class_ 10), (0, .nameAndType 11 12), (0, u "com/example/tidelock/tidelock/Outcome"), (0, u "NO_SUCH_SALE"), (0, u "Lcom/example/tidelock/tidelock/Outcome;"), (0, .fieldref 8 14), (0, .nameAndType 15 12), (0, u "IDEMPOTENCY_KEY_MISSING"), (0, .fieldref 8 17), (0, .nameAndType 18 12), (0, u "IDEMPOTENCY_KEY_REUSED"), (0, .fieldref 8 20), (0, .nameAndType 21 12), (0, u "NOT_STARTED"), (0, .fieldref 8 23), (0, .nameAndType 24 12), (0, u "ENDED"), (0, .fieldref 8 26), (0, .nameAndType 27 12), (0, u "SOLD_OUT"), (0, .fieldref 8 29), (0, .nameAndType 30 12), (0, u "NO_SUCH_CLAIM"), (0, .fieldref 8 32), (0, .nameAndType 33 12), (0, u "BAD_TOKEN"), (0, .fieldref 8 35), (0, .nameAndType 36 12), (0, u "PAID"), (0, .fieldref 8 38), (0, .nameAndType 39 12), (0, u "EXPIRED"), (0, .fieldref 8 41), (0, .nameAndType 42 12), (0, u "RELEASED"), (0, .integer 2147483647), (0, .methodref 45 46), (0, .class_ 47), (0, .nameAndType 48 49), (0, u "com/example/tidelock/tidelock/DecisionRefusedPinLaw"), (0, u "pick"), (0, u "(I)Lcom/example/tidelock/tidelock/Outcome;"), (0, .methodref 51 52), (0, .class_ 53), (0, .nameAndType 54 55), (0, u "com/example/tidelock/tidelock/Decision"), (0, u "refused"), (0, u "(Lcom/example/tidelock/tidelock/Outcome;)Lcom/example/tidelock/tidelock/Decision;"), (0, .methodref 51 57), (0, .nameAndType 58 59), (0, u "outcome"), (0, u "()Lcom/example/tidelock/tidelock/Outcome;"), (0, .methodref 51 61), (0, .nameAndType 62 63), (0, u "claim"), (0, u "()Lcom/example/tidelock/tidelock/Identifier;"), (0, .methodref 51 65), (0, .nameAndType 66 67), (0, u "token"), (0, u "()Ljava/lang/String;"), (0, .methodref 51 69), (0, .nameAndType 70 71), (0, u "expiresAt"), (0, u "()Ljava/time/Instant;"), (3, u "law"), (0, u "(I)Z")] 2

def k1m0 : Method := { name := "<init>", desc := "()V", sig := { parameters := [], returnType := none }, accessFlags := 2, code := none }
def k1c1 : Code := { maxStack := 2, maxLocals := 1, code := method_2_code, exceptionTable := #[], attributes := #[] }
def k1m1 : Method := { name := "pick", desc := "(I)Lcom/example/tidelock/tidelock/Outcome;", sig := { parameters := [.int], returnType := some (.object "com/example/tidelock/tidelock/Outcome") }, accessFlags := 10, code := some k1c1 }
def k1c2 : Code := { maxStack := 2, maxLocals := 4, code := code, exceptionTable := #[], attributes := #[] }
def k1m2 : Method := { name := "law", desc := "(I)Z", sig := { parameters := [.int], returnType := some .boolean }, accessFlags := 9, code := some k1c2 }
/-- com/example/tidelock/tidelock/DecisionRefusedPinLaw -/
def k1 : Class := { plain "com/example/tidelock/tidelock/DecisionRefusedPinLaw" (some 0) with
  accessFlags := 49
  interfaces := #[]
  cf := some (fileOf pool1 45 #[] #[{ accessFlags := 2, nameIndex := 5, descriptorIndex := 6, attributes := #[] }, { accessFlags := 10, nameIndex := 48, descriptorIndex := 49, attributes := #[] }, { accessFlags := 9, nameIndex := 75, descriptorIndex := 76, attributes := #[] }] 49 2 #[] #[])
  fields := #[]
  methods := #[k1m0, k1m1, k1m2]
  instanceTypes := #[]
  staticTypes := #[]
  resolved := Array.replicate 79 none
  statics := none }

def pool2 : Array CpInfo := pool [(1, .class_ 2), (0, u "java/lang/constant/Constable"), (0, .class_ 4), (0, u "java/lang/Object")] 6

/-- java/lang/constant/Constable -/
def k2 : Class := { plain "java/lang/constant/Constable" (some 0) with
  accessFlags := 1537
  interfaces := #[]
  cf := some (fileOf pool2 1 #[] #[] 1537 3 #[] #[])
  fields := #[]
  methods := #[]
  instanceTypes := #[]
  staticTypes := #[]
  resolved := Array.replicate 11 none
  statics := none }

def pool3 : Array CpInfo := pool [(1, .class_ 2), (0, u "java/lang/Comparable"), (0, .class_ 4), (0, u "java/lang/Object")] 7

/-- java/lang/Comparable -/
def k3 : Class := { plain "java/lang/Comparable" (some 0) with
  accessFlags := 1537
  interfaces := #[]
  cf := some (fileOf pool3 1 #[] #[] 1537 3 #[] #[])
  fields := #[]
  methods := #[]
  instanceTypes := #[]
  staticTypes := #[]
  resolved := Array.replicate 12 none
  statics := none }

def pool4 : Array CpInfo := pool [(1, .class_ 2), (0, u "java/io/Serializable"), (0, .class_ 4), (0, u "java/lang/Object")] 2

/-- java/io/Serializable -/
def k4 : Class := { plain "java/io/Serializable" (some 0) with
  accessFlags := 1537
  interfaces := #[]
  cf := some (fileOf pool4 1 #[] #[] 1537 3 #[] #[])
  fields := #[]
  methods := #[]
  instanceTypes := #[]
  staticTypes := #[]
  resolved := Array.replicate 7 none
  statics := none }

def pool5 : Array CpInfo := pool [(2, .class_ 4), (1, u "java/lang/Enum"), (0, u "name"), (0, u "Ljava/lang/String;"), (2, u "ordinal"), (0, u "I"), (1, .class_ 14), (1, u "java/lang/Object"), (4, u "hash"), (86, .class_ 108), (1, u "java/lang/Enum$EnumDesc"), (2, .class_ 112), (0, u "java/lang/constant/Constable"), (0, .class_ 114), (0, u "java/lang/Comparable"), (0, .class_ 116), (0, u "java/io/Serializable")] 87

/-- java/lang/Enum -/
def k5 : Class := { plain "java/lang/Enum" (some 0) with
  accessFlags := 1057
  interfaces := #[2, 3, 4]
  cf := some (fileOf pool5 2 #[.nestMembers #[106]] #[] 1057 12 #[111, 113, 115] #[{ accessFlags := 18, nameIndex := 5, descriptorIndex := 6, attributes := #[] }, { accessFlags := 18, nameIndex := 9, descriptorIndex := 10, attributes := #[] }, { accessFlags := 2, nameIndex := 19, descriptorIndex := 10, attributes := #[] }])
  fields := #[{ name := "name", type := (.object "java/lang/String"), accessFlags := 18, slot := 0, constantValue := 0 }, { name := "ordinal", type := .int, accessFlags := 18, slot := 1, constantValue := 0 }, { name := "hash", type := .int, accessFlags := 2, slot := 2, constantValue := 0 }]
  methods := #[]
  instanceTypes := #[(.object "java/lang/String"), .int, .int]
  staticTypes := #[]
  resolved := Array.replicate 204 none
  statics := none }

def pool6 : Array CpInfo := pool [(1, .class_ 2), (0, u "com/example/tidelock/tidelock/Outcome"), (2, u "ADMITTED"), (0, u "Lcom/example/tidelock/tidelock/Outcome;"), (2, u "NO_SUCH_SALE"), (2, u "IDEMPOTENCY_KEY_MISSING"), (2, u "IDEMPOTENCY_KEY_REUSED"), (2, u "NOT_STARTED"), (2, u "ENDED"), (2, u "ALREADY_CLAIMED"), (2, u "SOLD_OUT"), (2, u "NO_SUCH_CLAIM"), (2, u "BAD_TOKEN"), (2, u "PAID"), (2, u "EXPIRED"), (2, u "RELEASED"), (2, u "$VALUES"), (0, u "[Lcom/example/tidelock/tidelock/Outcome;"), (6, .class_ 55), (1, u "java/lang/Enum")] 35

/-- com/example/tidelock/tidelock/Outcome -/
def k6 : Class := { plain "com/example/tidelock/tidelock/Outcome" (some 5) with
  accessFlags := 16433
  interfaces := #[]
  cf := some (fileOf pool6 1 #[] #[] 16433 53 #[] #[{ accessFlags := 16409, nameIndex := 5, descriptorIndex := 6, attributes := #[] }, { accessFlags := 16409, nameIndex := 9, descriptorIndex := 6, attributes := #[] }, { accessFlags := 16409, nameIndex := 12, descriptorIndex := 6, attributes := #[] }, { accessFlags := 16409, nameIndex := 15, descriptorIndex := 6, attributes := #[] }, { accessFlags := 16409, nameIndex := 18, descriptorIndex := 6, attributes := #[] }, { accessFlags := 16409, nameIndex := 21, descriptorIndex := 6, attributes := #[] }, { accessFlags := 16409, nameIndex := 24, descriptorIndex := 6, attributes := #[] }, { accessFlags := 16409, nameIndex := 27, descriptorIndex := 6, attributes := #[] }, { accessFlags := 16409, nameIndex := 30, descriptorIndex := 6, attributes := #[] }, { accessFlags := 16409, nameIndex := 33, descriptorIndex := 6, attributes := #[] }, { accessFlags := 16409, nameIndex := 36, descriptorIndex := 6, attributes := #[] }, { accessFlags := 16409, nameIndex := 39, descriptorIndex := 6, attributes := #[] }, { accessFlags := 16409, nameIndex := 42, descriptorIndex := 6, attributes := #[] }, { accessFlags := 4122, nameIndex := 45, descriptorIndex := 46, attributes := #[] }])
  fields := #[{ name := "ADMITTED", type := (.object "com/example/tidelock/tidelock/Outcome"), accessFlags := 16409, slot := 0, constantValue := 0 }, { name := "NO_SUCH_SALE", type := (.object "com/example/tidelock/tidelock/Outcome"), accessFlags := 16409, slot := 1, constantValue := 0 }, { name := "IDEMPOTENCY_KEY_MISSING", type := (.object "com/example/tidelock/tidelock/Outcome"), accessFlags := 16409, slot := 2, constantValue := 0 }, { name := "IDEMPOTENCY_KEY_REUSED", type := (.object "com/example/tidelock/tidelock/Outcome"), accessFlags := 16409, slot := 3, constantValue := 0 }, { name := "NOT_STARTED", type := (.object "com/example/tidelock/tidelock/Outcome"), accessFlags := 16409, slot := 4, constantValue := 0 }, { name := "ENDED", type := (.object "com/example/tidelock/tidelock/Outcome"), accessFlags := 16409, slot := 5, constantValue := 0 }, { name := "ALREADY_CLAIMED", type := (.object "com/example/tidelock/tidelock/Outcome"), accessFlags := 16409, slot := 6, constantValue := 0 }, { name := "SOLD_OUT", type := (.object "com/example/tidelock/tidelock/Outcome"), accessFlags := 16409, slot := 7, constantValue := 0 }, { name := "NO_SUCH_CLAIM", type := (.object "com/example/tidelock/tidelock/Outcome"), accessFlags := 16409, slot := 8, constantValue := 0 }, { name := "BAD_TOKEN", type := (.object "com/example/tidelock/tidelock/Outcome"), accessFlags := 16409, slot := 9, constantValue := 0 }, { name := "PAID", type := (.object "com/example/tidelock/tidelock/Outcome"), accessFlags := 16409, slot := 10, constantValue := 0 }, { name := "EXPIRED", type := (.object "com/example/tidelock/tidelock/Outcome"), accessFlags := 16409, slot := 11, constantValue := 0 }, { name := "RELEASED", type := (.object "com/example/tidelock/tidelock/Outcome"), accessFlags := 16409, slot := 12, constantValue := 0 }, { name := "$VALUES", type := (.array (.object "com/example/tidelock/tidelock/Outcome")), accessFlags := 4122, slot := 13, constantValue := 0 }]
  methods := #[]
  instanceTypes := #[(.object "java/lang/String"), .int, .int]
  staticTypes := #[(.object "com/example/tidelock/tidelock/Outcome"), (.object "com/example/tidelock/tidelock/Outcome"), (.object "com/example/tidelock/tidelock/Outcome"), (.object "com/example/tidelock/tidelock/Outcome"), (.object "com/example/tidelock/tidelock/Outcome"), (.object "com/example/tidelock/tidelock/Outcome"), (.object "com/example/tidelock/tidelock/Outcome"), (.object "com/example/tidelock/tidelock/Outcome"), (.object "com/example/tidelock/tidelock/Outcome"), (.object "com/example/tidelock/tidelock/Outcome"), (.object "com/example/tidelock/tidelock/Outcome"), (.object "com/example/tidelock/tidelock/Outcome"), (.object "com/example/tidelock/tidelock/Outcome"), (.array (.object "com/example/tidelock/tidelock/Outcome"))]
  resolved := Array.replicate 91 none
  statics := some 0 }

def pool7 : Array CpInfo := pool [(1, .methodref 2 3), (0, .class_ 4), (0, .nameAndType 5 6), (0, u "java/lang/Object"), (0, u "<init>"), (0, u "()V"), (0, .fieldref 8 9), (0, .class_ 10), (0, .nameAndType 11 12), (0, u "com/example/tidelock/tidelock/Decision"), (0, u "outcome"), (0, u "Lcom/example/tidelock/tidelock/Outcome;"), (0, .fieldref 8 14), (0, .nameAndType 15 16), (0, u "claim"), (0, u "Lcom/example/tidelock/tidelock/Identifier;"), (0, .fieldref 8 18), (0, .nameAndType 19 20), (0, u "token"), (0, u "Ljava/lang/String;"), (0, .fieldref 8 22), (0, .nameAndType 23 24), (0, u "expiresAt"), (0, u "Ljava/time/Instant;"), (0, .methodref 8 26), (0, .nameAndType 5 27), (0, u "(Lcom/example/tidelock/tidelock/Outcome;Lcom/example/tidelock/tidelock/Identifier;Ljava/lang/String;Ljava/time/Instant;)V"), (25, u "refused"), (0, u "(Lcom/example/tidelock/tidelock/Outcome;)Lcom/example/tidelock/tidelock/Decision;"), (4, u "()Lcom/example/tidelock/tidelock/Outcome;"), (0, u "()Lcom/example/tidelock/tidelock/Identifier;"), (0, u "()Ljava/lang/String;"), (0, u "()Ljava/time/Instant;")] 2

def k7c0 : Code := { maxStack := 2, maxLocals := 5, code := prog_3_method_1_code, exceptionTable := #[], attributes := #[] }
def k7m0 : Method := { name := "<init>", desc := "(Lcom/example/tidelock/tidelock/Outcome;Lcom/example/tidelock/tidelock/Identifier;Ljava/lang/String;Ljava/time/Instant;)V", sig := { parameters := [(.object "com/example/tidelock/tidelock/Outcome"), (.object "com/example/tidelock/tidelock/Identifier"), (.object "java/lang/String"), (.object "java/time/Instant")], returnType := none }, accessFlags := 2, code := some k7c0 }
def k7c1 : Code := { maxStack := 6, maxLocals := 1, code := prog_3_method_2_code, exceptionTable := #[], attributes := #[] }
def k7m1 : Method := { name := "refused", desc := "(Lcom/example/tidelock/tidelock/Outcome;)Lcom/example/tidelock/tidelock/Decision;", sig := { parameters := [(.object "com/example/tidelock/tidelock/Outcome")], returnType := some (.object "com/example/tidelock/tidelock/Decision") }, accessFlags := 9, code := some k7c1 }
def k7c2 : Code := { maxStack := 1, maxLocals := 1, code := prog_3_method_5_code, exceptionTable := #[], attributes := #[] }
def k7m2 : Method := { name := "outcome", desc := "()Lcom/example/tidelock/tidelock/Outcome;", sig := { parameters := [], returnType := some (.object "com/example/tidelock/tidelock/Outcome") }, accessFlags := 1, code := some k7c2 }
def k7c3 : Code := { maxStack := 1, maxLocals := 1, code := prog_3_method_6_code, exceptionTable := #[], attributes := #[] }
def k7m3 : Method := { name := "claim", desc := "()Lcom/example/tidelock/tidelock/Identifier;", sig := { parameters := [], returnType := some (.object "com/example/tidelock/tidelock/Identifier") }, accessFlags := 1, code := some k7c3 }
def k7c4 : Code := { maxStack := 1, maxLocals := 1, code := prog_3_method_7_code, exceptionTable := #[], attributes := #[] }
def k7m4 : Method := { name := "token", desc := "()Ljava/lang/String;", sig := { parameters := [], returnType := some (.object "java/lang/String") }, accessFlags := 1, code := some k7c4 }
def k7c5 : Code := { maxStack := 1, maxLocals := 1, code := prog_3_method_8_code, exceptionTable := #[], attributes := #[] }
def k7m5 : Method := { name := "expiresAt", desc := "()Ljava/time/Instant;", sig := { parameters := [], returnType := some (.object "java/time/Instant") }, accessFlags := 1, code := some k7c5 }
/-- com/example/tidelock/tidelock/Decision -/
def k7 : Class := { plain "com/example/tidelock/tidelock/Decision" (some 0) with
  accessFlags := 49
  interfaces := #[]
  cf := some (fileOf pool7 8 #[] #[{ accessFlags := 2, nameIndex := 5, descriptorIndex := 27, attributes := #[] }, { accessFlags := 9, nameIndex := 53, descriptorIndex := 54, attributes := #[] }, { accessFlags := 1, nameIndex := 11, descriptorIndex := 59, attributes := #[] }, { accessFlags := 1, nameIndex := 15, descriptorIndex := 60, attributes := #[] }, { accessFlags := 1, nameIndex := 19, descriptorIndex := 61, attributes := #[] }, { accessFlags := 1, nameIndex := 23, descriptorIndex := 62, attributes := #[] }] 49 2 #[] #[{ accessFlags := 18, nameIndex := 11, descriptorIndex := 12, attributes := #[] }, { accessFlags := 18, nameIndex := 15, descriptorIndex := 16, attributes := #[] }, { accessFlags := 18, nameIndex := 19, descriptorIndex := 20, attributes := #[] }, { accessFlags := 18, nameIndex := 23, descriptorIndex := 24, attributes := #[] }])
  fields := #[{ name := "outcome", type := (.object "com/example/tidelock/tidelock/Outcome"), accessFlags := 18, slot := 0, constantValue := 0 }, { name := "claim", type := (.object "com/example/tidelock/tidelock/Identifier"), accessFlags := 18, slot := 1, constantValue := 0 }, { name := "token", type := (.object "java/lang/String"), accessFlags := 18, slot := 2, constantValue := 0 }, { name := "expiresAt", type := (.object "java/time/Instant"), accessFlags := 18, slot := 3, constantValue := 0 }]
  methods := #[k7m0, k7m1, k7m2, k7m3, k7m4, k7m5]
  instanceTypes := #[(.object "com/example/tidelock/tidelock/Outcome"), (.object "com/example/tidelock/tidelock/Identifier"), (.object "java/lang/String"), (.object "java/time/Instant")]
  staticTypes := #[]
  resolved := Array.replicate 65 none
  statics := none }

def pool8 : Array CpInfo := pool [(1, u "java/lang/Cloneable"), (0, .class_ 1), (0, u "java/lang/Object"), (0, .class_ 3)] 3

/-- java/lang/Cloneable -/
def k8 : Class := { plain "java/lang/Cloneable" (some 0) with
  accessFlags := 1537
  interfaces := #[]
  cf := some (fileOf pool8 2 #[] #[] 1537 4 #[] #[])
  fields := #[]
  methods := #[]
  instanceTypes := #[]
  staticTypes := #[]
  resolved := Array.replicate 8 none
  statics := none }

/-- the primitive byte -/
def k9 : Class := { plain "byte" none with kind := .primitive 'B', accessFlags := 0x411 }
/-- [B -/
def k10 : Class := { plain "[B" (some 0) with kind := .array 9 .byte, interfaces := #[8, 4], accessFlags := 1041 }

/-- the primitive int -/
def k11 : Class := { plain "int" none with kind := .primitive 'I', accessFlags := 0x411 }
/-- [I -/
def k12 : Class := { plain "[I" (some 0) with kind := .array 11 .int, interfaces := #[8, 4], accessFlags := 1041 }

def heap : Heap := #[{ cls := 6, slots := #[.null, .ref 1, .ref 2, .ref 3, .ref 4, .ref 5, .null, .ref 6, .ref 7, .ref 8, .ref 9, .ref 10, .ref 11, .null], vm := .statics 6 },
  { cls := 6, slots := #[.null, .int 0, .int 0], vm := .none },
  { cls := 6, slots := #[.null, .int 1, .int 0], vm := .none },
  { cls := 6, slots := #[.null, .int 2, .int 0], vm := .none },
  { cls := 6, slots := #[.null, .int 3, .int 0], vm := .none },
  { cls := 6, slots := #[.null, .int 4, .int 0], vm := .none },
  { cls := 6, slots := #[.null, .int 5, .int 0], vm := .none },
  { cls := 6, slots := #[.null, .int 6, .int 0], vm := .none },
  { cls := 6, slots := #[.null, .int 7, .int 0], vm := .none },
  { cls := 6, slots := #[.null, .int 8, .int 0], vm := .none },
  { cls := 6, slots := #[.null, .int 9, .int 0], vm := .none },
  { cls := 6, slots := #[.null, .int 10, .int 0], vm := .none }]
def classes : Array Class := #[k0, k1, k2, k3, k4, k5, k6, k7, k8, k9, k10, k11, k12]
def interned : List (Array UInt16 × Addr) := []
def slotsUsed : Nat := 47
def theMethod : MethodId := ⟨1, 2⟩
def args0 : Array Value := #[.int 5]
def aboutOver (below : List Frame) : State where
  vm := { classes := classes, interned := interned.toArray }
  heap := heap
  slotsUsed := slotsUsed
  threads := #[{ frames := .invoking theMethod args0 :: below }]
def below0 : List Frame := [.native { method := ⟨0, 0⟩, args := #[] }]
def about1 : State := aboutOver below0
def p0 : Program := .bare "" "" ""
def e0 : Env := launch0.env 0 0 0
theorem w_frames : about1.frames = Frame.invoking theMethod args0 :: below0 := rfl
set_option maxRecDepth 65536 in
theorem w_args : argsFit about1.vm theMethod args0 = true := by decide +kernel
set_option maxRecDepth 65536 in
theorem w_heap : heapFits about1 = true := by decide +kernel
set_option maxRecDepth 65536 in
theorem w_runnable : about1.curStatus? = some .runnable := by decide +kernel
set_option maxRecDepth 65536 in
theorem w_alone : about1.alone = true := by decide +kernel
set_option maxRecDepth 65536 in
theorem w_named : about1.methodNamed? x = some theMethod := by decide +kernel
set_option maxRecDepth 65536 in
theorem w_hears : about1.hears theMethod below0 = true := by decide +kernel
set_option maxRecDepth 65536 in
theorem w_ripe : about1.ripe theMethod args0 below0 = true := by decide +kernel
theorem w_running : about1.status = .running := rfl
set_option maxRecDepth 65536 in
theorem w_room : about1.hasRoom e0.platform room_1 = true :=
  launch0.hasRoom_least _ room_1 (by decide +kernel) (by decide +kernel) (by decide +kernel) (by decide +kernel) (by decide +kernel) (by decide +kernel)
theorem allAtoms_all (ts : List Jvm.Cond) (a : Array Jvm.Value) (st : Jvm.State) : (allAtoms ts).before a st = ts.all (fun c => c.before a st) := by
  induction ts with
  | nil => rfl
  | cons c t ih =>
    show (Jvm.Cond.and c (allAtoms t)).before a st = _
    rw [Jvm.Cond.before_and, ih, List.all_cons]
def words1 : List Jvm.Cond := Jvm.Cond.code x code maxLocals ret :: tables_1
/-- a 'code' word, met by the world's own term for the bytes: nothing is compared byte by byte -/
theorem code_word {y : MethodName} {bytes : ByteArray} {mx : Nat} {rt : Option FieldType} {a : Array Value} {s : State} {m : MethodId} {meth : Method} {c : Code} (h1 : s.methodNamed? y = some m) (h2 : s.vm.method? m = some meth) (h3 : meth.code = some c) (h4 : c.code = bytes)
    (h5 : (c.maxLocals == mx && c.exceptionTable.isEmpty && decide (c.maxStack ≤ mostOperands) && decide (meth.sig.returnType = rt) && !meth.locks && decide (parseMethodDescriptor y.desc = some meth.sig)) = true) : (Jvm.Cond.code y bytes mx rt).before a s = true := by
  simp only [Bool.and_eq_true, beq_iff_eq, Bool.not_eq_true', decide_eq_true_eq] at h5
  obtain ⟨⟨⟨⟨⟨g1, g2⟩, g3⟩, g4⟩, g5⟩, g6⟩ := h5
  simp [Cond.before, Cond.holds, Cond.value, h1, h2, h3, h4, g1, g2, g3, g4, g5, g6]
def isCode : Jvm.Cond → Bool
  | .code _ _ _ _ => true
  | _ => false
theorem all_split {L : List Jvm.Cond} {P : Jvm.Cond → Bool} (h1 : L.all (fun c => isCode c || P c) = true) (h2 : ∀ c ∈ L.filter isCode, P c = true) : L.all P = true := by
  refine List.all_eq_true.mpr fun c hc => ?_
  have h := List.all_eq_true.mp h1 c hc
  rcases Bool.eq_false_or_eq_true (isCode c) with hi | hi
  · exact h2 c (List.mem_filter.mpr ⟨hc, hi⟩)
  · simpa [hi] using h
set_option maxRecDepth 65536 in
theorem w_c0 : (Jvm.Cond.code x code maxLocals ret).before args0 about1 = true := code_word (m := ⟨1, 2⟩) (meth := k1m2) (c := k1c2) (by decide +kernel) rfl rfl rfl (by decide +kernel)
set_option maxRecDepth 65536 in
theorem w_c1 : (Jvm.Cond.code ({ cls := "com/example/tidelock/tidelock/DecisionRefusedPinLaw", name := "pick", desc := "(I)Lcom/example/tidelock/tidelock/Outcome;" } : Jvm.MethodName) method_2_code (1 : Nat) (Option.some (Jvm.ClassFile.FieldType.object "com/example/tidelock/tidelock/Outcome"))).before args0 about1 = true := code_word (m := ⟨1, 1⟩) (meth := k1m1) (c := k1c1) (by decide +kernel) rfl rfl rfl (by decide +kernel)
set_option maxRecDepth 65536 in
theorem w_c2 : (Jvm.Cond.code ({ cls := "com/example/tidelock/tidelock/Decision", name := "refused", desc := "(Lcom/example/tidelock/tidelock/Outcome;)Lcom/example/tidelock/tidelock/Decision;" } : Jvm.MethodName) prog_3_method_2_code (1 : Nat) (Option.some (Jvm.ClassFile.FieldType.object "com/example/tidelock/tidelock/Decision"))).before args0 about1 = true := code_word (m := ⟨7, 1⟩) (meth := k7m1) (c := k7c1) (by decide +kernel) rfl rfl rfl (by decide +kernel)
set_option maxRecDepth 65536 in
theorem w_c3 : (Jvm.Cond.code ({ cls := "com/example/tidelock/tidelock/Decision", name := "<init>", desc := "(Lcom/example/tidelock/tidelock/Outcome;Lcom/example/tidelock/tidelock/Identifier;Ljava/lang/String;Ljava/time/Instant;)V" } : Jvm.MethodName) prog_3_method_1_code (5 : Nat) (Option.none : Option Jvm.ClassFile.FieldType)).before args0 about1 = true := code_word (m := ⟨7, 0⟩) (meth := k7m0) (c := k7c0) (by decide +kernel) rfl rfl rfl (by decide +kernel)
set_option maxRecDepth 65536 in
theorem w_c4 : (Jvm.Cond.code ({ cls := "java/lang/Object", name := "<init>", desc := "()V" } : Jvm.MethodName) object_method_1_code (1 : Nat) (Option.none : Option Jvm.ClassFile.FieldType)).before args0 about1 = true := code_word (m := ⟨0, 0⟩) (meth := k0m0) (c := k0c0) (by decide +kernel) rfl rfl rfl (by decide +kernel)
set_option maxRecDepth 65536 in
theorem w_c5 : (Jvm.Cond.code ({ cls := "com/example/tidelock/tidelock/Decision", name := "outcome", desc := "()Lcom/example/tidelock/tidelock/Outcome;" } : Jvm.MethodName) prog_3_method_5_code (1 : Nat) (Option.some (Jvm.ClassFile.FieldType.object "com/example/tidelock/tidelock/Outcome"))).before args0 about1 = true := code_word (m := ⟨7, 2⟩) (meth := k7m2) (c := k7c2) (by decide +kernel) rfl rfl rfl (by decide +kernel)
set_option maxRecDepth 65536 in
theorem w_c6 : (Jvm.Cond.code ({ cls := "com/example/tidelock/tidelock/Decision", name := "claim", desc := "()Lcom/example/tidelock/tidelock/Identifier;" } : Jvm.MethodName) prog_3_method_6_code (1 : Nat) (Option.some (Jvm.ClassFile.FieldType.object "com/example/tidelock/tidelock/Identifier"))).before args0 about1 = true := code_word (m := ⟨7, 3⟩) (meth := k7m3) (c := k7c3) (by decide +kernel) rfl rfl rfl (by decide +kernel)
set_option maxRecDepth 65536 in
theorem w_c7 : (Jvm.Cond.code ({ cls := "com/example/tidelock/tidelock/Decision", name := "token", desc := "()Ljava/lang/String;" } : Jvm.MethodName) prog_3_method_7_code (1 : Nat) (Option.some (Jvm.ClassFile.FieldType.object "java/lang/String"))).before args0 about1 = true := code_word (m := ⟨7, 4⟩) (meth := k7m4) (c := k7c4) (by decide +kernel) rfl rfl rfl (by decide +kernel)
set_option maxRecDepth 65536 in
theorem w_c8 : (Jvm.Cond.code ({ cls := "com/example/tidelock/tidelock/Decision", name := "expiresAt", desc := "()Ljava/time/Instant;" } : Jvm.MethodName) prog_3_method_8_code (1 : Nat) (Option.some (Jvm.ClassFile.FieldType.object "java/time/Instant"))).before args0 about1 = true := code_word (m := ⟨7, 5⟩) (meth := k7m5) (c := k7c5) (by decide +kernel) rfl rfl rfl (by decide +kernel)
def codes1 : List Jvm.Cond := [Jvm.Cond.code x code maxLocals ret, Jvm.Cond.code ({ cls := "com/example/tidelock/tidelock/DecisionRefusedPinLaw", name := "pick", desc := "(I)Lcom/example/tidelock/tidelock/Outcome;" } : Jvm.MethodName) method_2_code (1 : Nat) (Option.some (Jvm.ClassFile.FieldType.object "com/example/tidelock/tidelock/Outcome")), Jvm.Cond.code ({ cls := "com/example/tidelock/tidelock/Decision", name := "refused", desc := "(Lcom/example/tidelock/tidelock/Outcome;)Lcom/example/tidelock/tidelock/Decision;" } : Jvm.MethodName) prog_3_method_2_code (1 : Nat) (Option.some (Jvm.ClassFile.FieldType.object "com/example/tidelock/tidelock/Decision")), Jvm.Cond.code ({ cls := "com/example/tidelock/tidelock/Decision", name := "<init>", desc := "(Lcom/example/tidelock/tidelock/Outcome;Lcom/example/tidelock/tidelock/Identifier;Ljava/lang/String;Ljava/time/Instant;)V" } : Jvm.MethodName) prog_3_method_1_code (5 : Nat) (Option.none : Option Jvm.ClassFile.FieldType), Jvm.Cond.code ({ cls := "java/lang/Object", name := "<init>", desc := "()V" } : Jvm.MethodName) object_method_1_code (1 : Nat) (Option.none : Option Jvm.ClassFile.FieldType), Jvm.Cond.code ({ cls := "com/example/tidelock/tidelock/Decision", name := "outcome", desc := "()Lcom/example/tidelock/tidelock/Outcome;" } : Jvm.MethodName) prog_3_method_5_code (1 : Nat) (Option.some (Jvm.ClassFile.FieldType.object "com/example/tidelock/tidelock/Outcome")), Jvm.Cond.code ({ cls := "com/example/tidelock/tidelock/Decision", name := "claim", desc := "()Lcom/example/tidelock/tidelock/Identifier;" } : Jvm.MethodName) prog_3_method_6_code (1 : Nat) (Option.some (Jvm.ClassFile.FieldType.object "com/example/tidelock/tidelock/Identifier")), Jvm.Cond.code ({ cls := "com/example/tidelock/tidelock/Decision", name := "token", desc := "()Ljava/lang/String;" } : Jvm.MethodName) prog_3_method_7_code (1 : Nat) (Option.some (Jvm.ClassFile.FieldType.object "java/lang/String")), Jvm.Cond.code ({ cls := "com/example/tidelock/tidelock/Decision", name := "expiresAt", desc := "()Ljava/time/Instant;" } : Jvm.MethodName) prog_3_method_8_code (1 : Nat) (Option.some (Jvm.ClassFile.FieldType.object "java/time/Instant"))]
set_option maxRecDepth 65536 in
theorem codes_eq : words1.filter isCode = codes1 := rfl
theorem w_codes : ∀ c ∈ words1.filter isCode, c.before args0 about1 = true := by
  rw [codes_eq]
  intro c hc
  simp only [codes1, List.mem_cons, List.not_mem_nil, or_false] at hc
  rcases hc with rfl | rfl | rfl | rfl | rfl | rfl | rfl | rfl | rfl
  · exact w_c0
  · exact w_c1
  · exact w_c2
  · exact w_c3
  · exact w_c4
  · exact w_c5
  · exact w_c6
  · exact w_c7
  · exact w_c8
set_option maxRecDepth 65536 in
theorem w_t1 : (words1.take 24).all (fun c => isCode c || c.before args0 about1) = true := by decide +kernel
set_option maxRecDepth 65536 in
theorem w_t2 : ((words1.drop 24).take 24).all (fun c => isCode c || c.before args0 about1) = true := by decide +kernel
set_option maxRecDepth 65536 in
theorem w_t3 : ((words1.drop 24).drop 24).all (fun c => isCode c || c.before args0 about1) = true := by decide +kernel
theorem w_tables : (allAtoms (Jvm.Cond.code x code maxLocals ret :: tables_1)).before args0 about1 = true := by
  rw [allAtoms_all]
  show words1.all (fun c => c.before args0 about1) = true
  refine all_split ?_ w_codes
  rw [← List.take_append_drop 24 words1, List.all_append, w_t1, ← List.take_append_drop 24 (words1.drop 24), List.all_append, w_t2, w_t3]
  rfl
set_option maxRecDepth 65536 in
theorem w_case : (Jvm.Cond.and given_1 narrow_1).before args0 about1 = true := by decide +kernel
theorem w_applies : (headSpec (Jvm.Cond.code x code maxLocals ret :: tables_1) room_1).applies x e0.platform about1 = true :=
  (Spec.applies_iff w_frames).mpr ⟨w_running, w_runnable, w_alone, w_named, w_hears, w_ripe, w_room, w_tables⟩
theorem atStart : AtStart classFile x code maxLocals ret World_1 tables_1 room_1 Calls_1 rest_1 Pre_1 launch0 p0 e0 about1 theMethod args0 below0 :=
  ⟨lists_1, trivial, launch0.admits_env _ _ _, launch0.least_env, fairChoices_fair.cas, fairChoices_fair.clock, w_frames, w_args, w_heap, w_applies, trivial, trivial, w_case⟩
end start1
theorem witness_1 : WitnessClaimed_1 := ⟨start1.p0, start1.e0, start1.about1, start1.theMethod, start1.args0, start1.below0, start1.atStart⟩
end Jvm.Pilot.@@N@@
