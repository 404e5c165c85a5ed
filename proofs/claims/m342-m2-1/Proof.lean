import JvmDerived
import JvmDerived.Pilot.@@N@@Statement
import JvmDerived.Pilot.@@N@@Code
set_option linter.unusedVariables false
set_option linter.unusedSimpArgs false
namespace Jvm.RoadKit
open Sem ClassFile Op Lib Jvm.Stand Jvm.Free Jvm.LawKit
section New
variable {p : Program} {l : Launch} {e : Env} {R : Room} {s : State} {m : MethodId} {args : Array Value} {below : List Frame} {meth : Method} {c : Code} {T : State} {locs : List Loc} {cells slots : Nat}
theorem retI (X : Stand p l e R s m args below meth c T locs cells slots) (hx : p.tables.exec = Jvm.exec) {pc : Nat} {Ls : Array Slot} {z : Int32} {rest : List Value} (hret : meth.sig.returnType = some .int) (hd : decode c.code pc = .ok (.ireturn, 1)) {fs : List Frame}
    (hl : ∀ (f : JFrame) (acts : List Action), f.method = m → f.locked = none → f.entered = [] → (doReturn e (T.setTop f) acts (some (.int z))).1 = T.setFrames fs) : Steps p.tables e below (T.setTop (mkF m pc Ls (.int z :: rest))) (T.setFrames fs) := by
  have hm' : T.vm.method? m = some meth := X.method'
  have hn : narrow .int (.int z) = .int z := rfl
  show Steps p.tables e below (T.setTop { method := m, pc := pc, locals := Ls, stack := _ :: rest, locked := none }) _
  jvm_step X.here [X.here.top, hx, hd, hm', hret, hn]
  first | (intro acts; rw [hl _ acts rfl rfl rfl]) | rw [hl _ _ rfl rfl rfl]
  exact Steps.refl _
end New
end Jvm.RoadKit
namespace Jvm.Pilot.@@N@@
open Jvm Jvm.ClassFile Sem Op Lib Jvm.Free Jvm.Stand Jvm.LawKit Jvm.RoadKit Bundle Jvm.Pilot.@@N@@.Jvm.D
theorem own_w {a0 : Array Value} {Z : State} (hw : ∀ d ∈ tables_1, d.before a0 Z = true) (k : Nat) {d : Jvm.Cond} (h : tables_1[k]? = some d := by rfl) : d.before a0 Z = true := hw _ (List.mem_of_getElem? h)
abbrev oI (x : Int32) : Slot := .val (.int x)
abbrev oR (a : Addr) : Slot := .val (.ref a)
abbrev oJ (x : Int64) : Slot := .val (.long x)
abbrev oD (x : UInt64) : Slot := .val (.double x)
/-- from the state A the run comes to an end of which Q holds -/
def own_Go (p : Program) (e : Env) (below : List Frame) (Q : Outcome → State → Prop) (A : State) : Prop := ∃ s₂ o, Steps p.tables e below A s₂ ∧ s₂.status = .running ∧ Ended s₂ below o ∧ Q o s₂
theorem own_via {p : Program} {e : Env} {below : List Frame} {Q : Outcome → State → Prop} {A B : State} (h : ∀ t, Steps p.tables e below B t → Steps p.tables e below A t) (g : own_Go p e below Q B) : own_Go p e below Q A := by
  obtain ⟨s₂, o, h1, h2⟩ := g
  exact ⟨s₂, o, h _ h1, h2⟩
theorem own_tr {p : Program} {e : Env} {below : List Frame} {Q : Outcome → State → Prop} {A B : State} (h : Steps p.tables e below A B) (g : own_Go p e below Q B) : own_Go p e below Q A := by
  obtain ⟨s₂, o, h1, h2⟩ := g
  exact ⟨s₂, o, h.trans h1, h2⟩
/-- from the state A the run comes to a state B of which Φ holds -/
def own_Pc (p : Program) (e : Env) (below : List Frame) (Φ : State → Prop) (A : State) : Prop := ∃ B, (∀ t, Steps p.tables e below B t → Steps p.tables e below A t) ∧ Φ B
theorem own_pvia {p : Program} {e : Env} {below : List Frame} {Φ : State → Prop} {A B : State} (h : ∀ t, Steps p.tables e below B t → Steps p.tables e below A t) (g : own_Pc p e below Φ B) : own_Pc p e below Φ A := by
  obtain ⟨B', h1, h2⟩ := g
  exact ⟨B', fun t k => h t (h1 t k), h2⟩
theorem own_ptr {p : Program} {e : Env} {below : List Frame} {Φ : State → Prop} {A B : State} (h : Steps p.tables e below A B) (g : own_Pc p e below Φ B) : own_Pc p e below Φ A := own_pvia (fun t k => h.trans k) g
theorem own_start {p : Program} {e : Env} {below : List Frame} {Q : Outcome → State → Prop} {A : State} (h : own_Go p e below Q A) : ∃ s₂ o, Steps p.tables e below A s₂ ∧ s₂.status = .running ∧ Ended s₂ below o ∧ Q o s₂ := h
theorem own_fld {args : Array Value} {s : State} {C f dd O n d : String} {k : Int32} {a : Addr} (ev : (Term.static C f dd).eval args s none [] s = some (.ref a)) (h : (Jvm.Cond.eq (Term.field (Term.static C f dd) O n d) (Term.int k)).value args s none s [] = some true) : Fld s s.heap a O n d (.int k) := by
  have e1 : (Term.field (Term.static C f dd) O n d).eval args s none [] s = s.fieldOf? a O n d := fld_at ev
  have e2 : (Term.int k).eval args s none [] s = some (.int k) := rfl
  refine Fld.start ?_
  cases q : s.fieldOf? a O n d with
  | none => simp [Cond.value, e1, q] at h
  | some v => cases v <;> simp [Cond.value, e1, e2, q] at h ⊢; exact h
theorem own_int_ne {x y : Int32} (h : x ≠ y) : (Value.int x) ≠ .int y := fun q => h (Value.int.inj q)
def f1 (this : Addr) (aPASS : Addr) (aINCONCLUSIVE : Addr) (aNOT_TAKEN : Addr) : Int32 := (if this = aPASS then (1 : Int32) else (if this = aINCONCLUSIVE then (1 : Int32) else (if this = aNOT_TAKEN then (1 : Int32) else (0 : Int32))))
theorem d1_0 : decode prog_39_method_4_code 0 = .ok (.aload_n 0, 1) := by decide +kernel
theorem d1_1 : decode prog_39_method_4_code 1 = .ok (.getstatic 10, 3) := by decide +kernel
theorem d1_4 : decode prog_39_method_4_code 4 = .ok (.if_acmp .eq 17, 3) := by decide +kernel
theorem d1_7 : decode prog_39_method_4_code 7 = .ok (.aload_n 0, 1) := by decide +kernel
theorem d1_8 : decode prog_39_method_4_code 8 = .ok (.getstatic 13, 3) := by decide +kernel
theorem d1_11 : decode prog_39_method_4_code 11 = .ok (.if_acmp .eq 10, 3) := by decide +kernel
theorem d1_14 : decode prog_39_method_4_code 14 = .ok (.aload_n 0, 1) := by decide +kernel
theorem d1_15 : decode prog_39_method_4_code 15 = .ok (.getstatic 16, 3) := by decide +kernel
theorem d1_18 : decode prog_39_method_4_code 18 = .ok (.if_acmp .ne 7, 3) := by decide +kernel
theorem d1_21 : decode prog_39_method_4_code 21 = .ok (.iconst 1, 1) := by decide +kernel
theorem d1_22 : decode prog_39_method_4_code 22 = .ok (.goto 4, 3) := by decide +kernel
theorem d1_25 : decode prog_39_method_4_code 25 = .ok (.iconst 0, 1) := by decide +kernel
theorem d1_26 : decode prog_39_method_4_code 26 = .ok (.ireturn, 1) := by decide +kernel
theorem pn_1 : plainName "com/example/quiescence/quiescence/ioco/TestCase$Action" = true := by first | (simp [plainName, overriddenIn]; done) | decide +kernel
theorem ef_rm1 (m : MethodId) (q0 : Addr) : entryFrame m #[(.ref q0)] 1 = mkF m 0 #[oR q0] [] := by first | (simp [entryFrame, mkF, argsToLocals, Value.category]; done) | rfl
def Q1 (Z : State) (this : Addr) (aPASS : Addr) (aINCONCLUSIVE : Addr) (aNOT_TAKEN : Addr) (r : Int32) (h0 : Heap) (n0 : Nat) (v : Option Value) (h : Heap) (L : List Loc) : Prop := v = some (.int r) ∧ Fr n0 L ∧ h = h0
set_option maxRecDepth 65536 in
set_option maxHeartbeats 40000000 in
theorem rm1 (l : Launch) (Z : State) (a0 : Array Value) (hw : ∀ d ∈ tables_1, d.before a0 Z = true) (ws : List Jvm.Cond) (this : Addr) (aPASS : Addr) (aINCONCLUSIVE : Addr) (aNOT_TAKEN : Addr) (r : Int32) (h0 : Heap) (n0 : Nat) (Z0 : n0 ≤ h0.size) (S_aPASS : Sta Z h0 "com/example/quiescence/quiescence/ioco/TestCase$Action" "PASS" "Lcom/example/quiescence/quiescence/ioco/TestCase$Action;" (.ref aPASS)) (S_aINCONCLUSIVE : Sta Z h0 "com/example/quiescence/quiescence/ioco/TestCase$Action" "INCONCLUSIVE" "Lcom/example/quiescence/quiescence/ioco/TestCase$Action;" (.ref aINCONCLUSIVE)) (S_aNOT_TAKEN : Sta Z h0 "com/example/quiescence/quiescence/ioco/TestCase$Action" "NOT_TAKEN" "Lcom/example/quiescence/quiescence/ioco/TestCase$Action;" (.ref aNOT_TAKEN)) (hr0 : (f1 this aPASS aINCONCLUSIVE aNOT_TAKEN) = r) :
    MetFree l (⟨"com/example/quiescence/quiescence/ioco/TestCase$Action", "ends", "()Z"⟩ : MethodName) (head1 (Jvm.Cond.code (⟨"com/example/quiescence/quiescence/ioco/TestCase$Action", "ends", "()Z"⟩ : MethodName) prog_39_method_4_code 1 (some .boolean) :: ws) ({ frames := 0, cells := 0, slots := 0, locals := 0 } : Room)) (fun a U => a = #[(.ref this)] ∧ Z.Warmed39 U.vm ∧ U.heap = h0) (fun _ _ _ _ _ => True) (fun _ U o U' => ∃ v L, o = .returned v ∧ Q1 Z this aPASS aINCONCLUSIVE aNOT_TAKEN r h0 n0 v U'.heap L ∧ FrameEnd U o U' L ({ frames := 0, cells := 0, slots := 0, locals := 0 } : Room).cells ({ frames := 0, cells := 0, slots := 0, locals := 0 } : Room).slots) := by
  refine MetFree.of_bodySF (plainFor_of_name pn_1) hisR ?_
  intro p e s m args below meth c s₁ Bd hml0 hP hK
  obtain ⟨rfl, hZ, hh⟩ := hP
  have hx := Bd.exec
  have hby := Bd.bytes
  have hml : c.maxLocals = 1 := hml0
  have hown : s.vm.findClass "com/example/quiescence/quiescence/ioco/TestCase$Action" = some m.cls := findClass_of_methodNamed Bd.named
  have hnm := (name_of_methodNamed Bd.named Bd.method).1
  have X0 : Stand p l e ({ frames := 0, cells := 0, slots := 0, locals := 0 } : Room) s m #[(.ref this)] below meth c s₁ [] 0 0 := Stand.of_body Bd
  have e0 : s₁.heap = h0 := by rw [← hh, Bd.state]; rfl
  have N0 := Fr.nil n0
  refine own_start ?_
  refine own_via (fun t k => castTop (ef_rm1 m this) k) ?_
  show own_Go p e below _ (s₁.setTop (mkF m 0 #[oR this] []))
  refine own_via (fun t kz => XS.aloadN X0.here hx rfl (hb hby d1_0) rfl rfl kz) ?_
  show own_Go p e below _ (s₁.setTop (mkF m 1 #[oR this] [(.ref this)]))
  obtain ⟨T1, X1, e1, st1⟩ := getS2 X0 hx hZ hown (host := "") (Or.inl (own_w hw 9)) Via.refl e0 S_aPASS (g := (mkF m 1 #[oR this] [(.ref this)])) rfl (hb hby d1_1)
  refine own_via st1 ?_
  show own_Go p e below _ (T1.setTop (mkF m 4 #[oR this] [(.ref aPASS), (.ref this)]))
  by_cases hc4_2 : this = aPASS
  · refine own_via (fun t kz => Jvm.RoadKit.acmp (g := (mkF m 4 #[oR this] [(.ref aPASS), (.ref this)])) X1 hx rfl rfl rfl (pc0 := 4) (pc' := 21) (same := true) rfl (hb hby d1_4) rfl (decide_eq_true (congrArg Value.ref hc4_2)) (by decide) (by decide) kz) ?_
    show own_Go p e below _ (T1.setTop (mkF m 21 #[oR this] []))
    refine own_via (fun t kz => XS.iconst X1.here hx rfl (hb hby d1_21) kz) ?_
    show own_Go p e below _ (T1.setTop (mkF m 22 #[oR this] [(.int (1 : Int32))]))
    refine own_via (fun t kz => XS.goto X1.here hx rfl (pc0 := 22) (pc' := 26) rfl (hb hby d1_22) (by decide) (by decide) kz) ?_
    show own_Go p e below _ (T1.setTop (mkF m 26 #[oR this] [(.int (1 : Int32))]))
    have hv : (f1 this aPASS aINCONCLUSIVE aNOT_TAKEN) = (1 : Int32) := by unfold f1; rw [if_pos hc4_2]
    obtain ⟨fs, hr, hrun, hended, hW, hsame⟩ := X1.leave (v := some (.int (1 : Int32))) (fun h => by rw [Bd.returns] at h; cases h)
    refine ⟨_, _, retN X1 hx (t := .boolean) Bd.returns (by simp) (hb hby d1_26) hr, hrun, hended, _, _, rfl, ?_, ⟨_, rfl⟩, hW, hsame.mono (by decide) (by decide)⟩
    show Q1 Z this aPASS aINCONCLUSIVE aNOT_TAKEN r h0 n0 _ T1.heap _
    rw [e1]
    exact ⟨by rw [← hr0, hv], N0, rfl⟩
  · refine own_via (fun t kz => Jvm.RoadKit.acmp (g := (mkF m 4 #[oR this] [(.ref aPASS), (.ref this)])) X1 hx rfl rfl rfl (pc0 := 4) (pc' := 7) (same := false) rfl (hb hby d1_4) rfl (decide_eq_false fun q => hc4_2 (Value.ref.inj q)) (by decide) (by decide) kz) ?_
    show own_Go p e below _ (T1.setTop (mkF m 7 #[oR this] []))
    refine own_via (fun t kz => XS.aloadN X1.here hx rfl (hb hby d1_7) rfl rfl kz) ?_
    show own_Go p e below _ (T1.setTop (mkF m 8 #[oR this] [(.ref this)]))
    obtain ⟨T4, X4, e4, st4⟩ := getS2 X1 hx hZ hown (host := "") (Or.inl (own_w hw 11)) Via.refl e1 S_aINCONCLUSIVE (g := (mkF m 8 #[oR this] [(.ref this)])) rfl (hb hby d1_8)
    refine own_via st4 ?_
    show own_Go p e below _ (T4.setTop (mkF m 11 #[oR this] [(.ref aINCONCLUSIVE), (.ref this)]))
    by_cases hc11_5 : this = aINCONCLUSIVE
    · refine own_via (fun t kz => Jvm.RoadKit.acmp (g := (mkF m 11 #[oR this] [(.ref aINCONCLUSIVE), (.ref this)])) X4 hx rfl rfl rfl (pc0 := 11) (pc' := 21) (same := true) rfl (hb hby d1_11) rfl (decide_eq_true (congrArg Value.ref hc11_5)) (by decide) (by decide) kz) ?_
      show own_Go p e below _ (T4.setTop (mkF m 21 #[oR this] []))
      refine own_via (fun t kz => XS.iconst X4.here hx rfl (hb hby d1_21) kz) ?_
      show own_Go p e below _ (T4.setTop (mkF m 22 #[oR this] [(.int (1 : Int32))]))
      refine own_via (fun t kz => XS.goto X4.here hx rfl (pc0 := 22) (pc' := 26) rfl (hb hby d1_22) (by decide) (by decide) kz) ?_
      show own_Go p e below _ (T4.setTop (mkF m 26 #[oR this] [(.int (1 : Int32))]))
      have hv : (f1 this aPASS aINCONCLUSIVE aNOT_TAKEN) = (1 : Int32) := by unfold f1; rw [if_neg hc4_2, if_pos hc11_5]
      obtain ⟨fs, hr, hrun, hended, hW, hsame⟩ := X4.leave (v := some (.int (1 : Int32))) (fun h => by rw [Bd.returns] at h; cases h)
      refine ⟨_, _, retN X4 hx (t := .boolean) Bd.returns (by simp) (hb hby d1_26) hr, hrun, hended, _, _, rfl, ?_, ⟨_, rfl⟩, hW, hsame.mono (by decide) (by decide)⟩
      show Q1 Z this aPASS aINCONCLUSIVE aNOT_TAKEN r h0 n0 _ T4.heap _
      rw [e4]
      exact ⟨by rw [← hr0, hv], N0, rfl⟩
    · refine own_via (fun t kz => Jvm.RoadKit.acmp (g := (mkF m 11 #[oR this] [(.ref aINCONCLUSIVE), (.ref this)])) X4 hx rfl rfl rfl (pc0 := 11) (pc' := 14) (same := false) rfl (hb hby d1_11) rfl (decide_eq_false fun q => hc11_5 (Value.ref.inj q)) (by decide) (by decide) kz) ?_
      show own_Go p e below _ (T4.setTop (mkF m 14 #[oR this] []))
      refine own_via (fun t kz => XS.aloadN X4.here hx rfl (hb hby d1_14) rfl rfl kz) ?_
      show own_Go p e below _ (T4.setTop (mkF m 15 #[oR this] [(.ref this)]))
      obtain ⟨T7, X7, e7, st7⟩ := getS2 X4 hx hZ hown (host := "") (Or.inl (own_w hw 13)) Via.refl e4 S_aNOT_TAKEN (g := (mkF m 15 #[oR this] [(.ref this)])) rfl (hb hby d1_15)
      refine own_via st7 ?_
      show own_Go p e below _ (T7.setTop (mkF m 18 #[oR this] [(.ref aNOT_TAKEN), (.ref this)]))
      by_cases hc18_8 : this = aNOT_TAKEN
      · refine own_via (fun t kz => Jvm.RoadKit.acmp (g := (mkF m 18 #[oR this] [(.ref aNOT_TAKEN), (.ref this)])) X7 hx rfl rfl rfl (pc0 := 18) (pc' := 21) (same := true) rfl (hb hby d1_18) rfl (decide_eq_true (congrArg Value.ref hc18_8)) (by decide) (by decide) kz) ?_
        show own_Go p e below _ (T7.setTop (mkF m 21 #[oR this] []))
        refine own_via (fun t kz => XS.iconst X7.here hx rfl (hb hby d1_21) kz) ?_
        show own_Go p e below _ (T7.setTop (mkF m 22 #[oR this] [(.int (1 : Int32))]))
        refine own_via (fun t kz => XS.goto X7.here hx rfl (pc0 := 22) (pc' := 26) rfl (hb hby d1_22) (by decide) (by decide) kz) ?_
        show own_Go p e below _ (T7.setTop (mkF m 26 #[oR this] [(.int (1 : Int32))]))
        have hv : (f1 this aPASS aINCONCLUSIVE aNOT_TAKEN) = (1 : Int32) := by unfold f1; rw [if_neg hc4_2, if_neg hc11_5, if_pos hc18_8]
        obtain ⟨fs, hr, hrun, hended, hW, hsame⟩ := X7.leave (v := some (.int (1 : Int32))) (fun h => by rw [Bd.returns] at h; cases h)
        refine ⟨_, _, retN X7 hx (t := .boolean) Bd.returns (by simp) (hb hby d1_26) hr, hrun, hended, _, _, rfl, ?_, ⟨_, rfl⟩, hW, hsame.mono (by decide) (by decide)⟩
        show Q1 Z this aPASS aINCONCLUSIVE aNOT_TAKEN r h0 n0 _ T7.heap _
        rw [e7]
        exact ⟨by rw [← hr0, hv], N0, rfl⟩
      · refine own_via (fun t kz => Jvm.RoadKit.acmp (g := (mkF m 18 #[oR this] [(.ref aNOT_TAKEN), (.ref this)])) X7 hx rfl rfl rfl (pc0 := 18) (pc' := 25) (same := false) rfl (hb hby d1_18) rfl (decide_eq_false fun q => hc18_8 (Value.ref.inj q)) (by decide) (by decide) kz) ?_
        show own_Go p e below _ (T7.setTop (mkF m 25 #[oR this] []))
        refine own_via (fun t kz => XS.iconst X7.here hx rfl (hb hby d1_25) kz) ?_
        show own_Go p e below _ (T7.setTop (mkF m 26 #[oR this] [(.int (0 : Int32))]))
        have hv : (f1 this aPASS aINCONCLUSIVE aNOT_TAKEN) = (0 : Int32) := by unfold f1; rw [if_neg hc4_2, if_neg hc11_5, if_neg hc18_8]
        obtain ⟨fs, hr, hrun, hended, hW, hsame⟩ := X7.leave (v := some (.int (0 : Int32))) (fun h => by rw [Bd.returns] at h; cases h)
        refine ⟨_, _, retN X7 hx (t := .boolean) Bd.returns (by simp) (hb hby d1_26) hr, hrun, hended, _, _, rfl, ?_, ⟨_, rfl⟩, hW, hsame.mono (by decide) (by decide)⟩
        show Q1 Z this aPASS aINCONCLUSIVE aNOT_TAKEN r h0 n0 _ T7.heap _
        rw [e7]
        exact ⟨by rw [← hr0, hv], N0, rfl⟩
theorem pn_0 : plainName "com/example/quiescence/quiescence/ioco/TestCaseEndsPinLaw" = true := by first | (simp [plainName, overriddenIn]; done) | decide +kernel
theorem pd_0_0 : parseMethodDescriptor "()Z" = some ⟨[], some .boolean⟩ := by decide +kernel
theorem ef_rm0 (m : MethodId) (q0 : Int32) : entryFrame m #[(.int q0)] maxLocals = mkF m 0 #[oI q0, .unset, .unset, .unset] [] := by first | (simp [entryFrame, mkF, argsToLocals, Value.category, maxLocals]; done) | rfl
def Q0 (Z : State) (p0 : Int32) (aINPUT : Addr) (aPASS : Addr) (aINCONCLUSIVE : Addr) (aNOT_TAKEN : Addr) (aOBSERVE : Addr) (h0 : Heap) (n0 : Nat) (v : Option Value) (h : Heap) (L : List Loc) : Prop := v = some (.int (1 : Int32)) ∧ Fr n0 L
set_option maxRecDepth 65536 in
set_option maxHeartbeats 40000000 in
theorem rm0 (l : Launch) (Z : State) (a0 : Array Value) (hw : ∀ d ∈ tables_1, d.before a0 Z = true) (ws : List Jvm.Cond) (p0 : Int32) (aINPUT : Addr) (aPASS : Addr) (aINCONCLUSIVE : Addr) (aNOT_TAKEN : Addr) (aOBSERVE : Addr) (h0 : Heap) (n0 : Nat) (Z0 : n0 ≤ h0.size) (E_INPUT : Exa Z h0 aINPUT "com/example/quiescence/quiescence/ioco/TestCase$Action") (S_INPUT : Sta Z h0 "com/example/quiescence/quiescence/ioco/TestCase$Action" "INPUT" "Lcom/example/quiescence/quiescence/ioco/TestCase$Action;" (.ref aINPUT)) (E_PASS : Exa Z h0 aPASS "com/example/quiescence/quiescence/ioco/TestCase$Action") (S_PASS : Sta Z h0 "com/example/quiescence/quiescence/ioco/TestCase$Action" "PASS" "Lcom/example/quiescence/quiescence/ioco/TestCase$Action;" (.ref aPASS)) (E_INCONCLUSIVE : Exa Z h0 aINCONCLUSIVE "com/example/quiescence/quiescence/ioco/TestCase$Action") (S_INCONCLUSIVE : Sta Z h0 "com/example/quiescence/quiescence/ioco/TestCase$Action" "INCONCLUSIVE" "Lcom/example/quiescence/quiescence/ioco/TestCase$Action;" (.ref aINCONCLUSIVE)) (E_NOT_TAKEN : Exa Z h0 aNOT_TAKEN "com/example/quiescence/quiescence/ioco/TestCase$Action") (S_NOT_TAKEN : Sta Z h0 "com/example/quiescence/quiescence/ioco/TestCase$Action" "NOT_TAKEN" "Lcom/example/quiescence/quiescence/ioco/TestCase$Action;" (.ref aNOT_TAKEN)) (E_OBSERVE : Exa Z h0 aOBSERVE "com/example/quiescence/quiescence/ioco/TestCase$Action") (S_OBSERVE : Sta Z h0 "com/example/quiescence/quiescence/ioco/TestCase$Action" "OBSERVE" "Lcom/example/quiescence/quiescence/ioco/TestCase$Action;" (.ref aOBSERVE)) (F_INPUT_ordinal : Fld Z h0 aINPUT "java/lang/Enum" "ordinal" "I" (.int (0 : Int32))) (F_PASS_ordinal : Fld Z h0 aPASS "java/lang/Enum" "ordinal" "I" (.int (2 : Int32))) (F_INCONCLUSIVE_ordinal : Fld Z h0 aINCONCLUSIVE "java/lang/Enum" "ordinal" "I" (.int (3 : Int32))) (F_NOT_TAKEN_ordinal : Fld Z h0 aNOT_TAKEN "java/lang/Enum" "ordinal" "I" (.int (4 : Int32))) (F_OBSERVE_ordinal : Fld Z h0 aOBSERVE "java/lang/Enum" "ordinal" "I" (.int (1 : Int32))) (ne_INPUT_PASS : aINPUT ≠ aPASS) (ne_INPUT_INCONCLUSIVE : aINPUT ≠ aINCONCLUSIVE) (ne_INPUT_NOT_TAKEN : aINPUT ≠ aNOT_TAKEN) (ne_INPUT_OBSERVE : aINPUT ≠ aOBSERVE) (ne_PASS_INCONCLUSIVE : aPASS ≠ aINCONCLUSIVE) (ne_PASS_NOT_TAKEN : aPASS ≠ aNOT_TAKEN) (ne_PASS_OBSERVE : aPASS ≠ aOBSERVE) (ne_INCONCLUSIVE_NOT_TAKEN : aINCONCLUSIVE ≠ aNOT_TAKEN) (ne_INCONCLUSIVE_OBSERVE : aINCONCLUSIVE ≠ aOBSERVE) (ne_NOT_TAKEN_OBSERVE : aNOT_TAKEN ≠ aOBSERVE) :
    MetFree l x (head1 (Jvm.Cond.code x code maxLocals ret :: ws) room_1) (fun a U => a = #[(.int p0)] ∧ Z.Warmed39 U.vm ∧ U.heap = h0) (fun _ _ _ _ _ => True) (fun _ U o U' => ∃ v L, o = .returned v ∧ Q0 Z p0 aINPUT aPASS aINCONCLUSIVE aNOT_TAKEN aOBSERVE h0 n0 v U'.heap L ∧ FrameEnd U o U' L room_1.cells room_1.slots) := by
  refine MetFree.of_bodySF (plainFor_of_name pn_0) hisR ?_
  intro p e s m args below meth c s₁ Bd hml0 hP hK
  obtain ⟨rfl, hZ, hh⟩ := hP
  have hx := Bd.exec
  have hby := Bd.bytes
  have hml : c.maxLocals = 4 := hml0
  have hown : s.vm.findClass "com/example/quiescence/quiescence/ioco/TestCaseEndsPinLaw" = some m.cls := findClass_of_methodNamed Bd.named
  have hnm := (name_of_methodNamed Bd.named Bd.method).1
  have X0 : Stand p l e room_1 s m #[(.int p0)] below meth c s₁ [] 0 0 := Stand.of_body Bd
  have e0 : s₁.heap = h0 := by rw [← hh, Bd.state]; rfl
  have N0 := Fr.nil n0
  refine own_start ?_
  refine own_via (fun t k => castTop (ef_rm0 m p0) k) ?_
  show own_Go p e below _ (s₁.setTop (mkF m 0 #[oI p0, .unset, .unset, .unset] []))
  refine own_via (fun t kz => XS.iloadN X0.here hx rfl (hb hby at_0) rfl kz) ?_
  show own_Go p e below _ (s₁.setTop (mkF m 1 #[oI p0, .unset, .unset, .unset] [(.int p0)]))
  refine own_via (fun t kz => X0.ldcInt hx hown (mvT hZ (own_w hw 0)) (g := (mkF m 1 #[oI p0, .unset, .unset, .unset] [(.int p0)])) rfl (hb hby at_1) t kz) ?_
  show own_Go p e below _ (s₁.setTop (mkF m 3 #[oI p0, .unset, .unset, .unset] [(.int (2147483647 : Int32)), (.int p0)]))
  refine own_via (fun t kz => XS.iand X0.here hx rfl (hb hby at_3) rfl kz) ?_
  show own_Go p e below _ (s₁.setTop (mkF m 4 #[oI p0, .unset, .unset, .unset] [(.int (p0 &&& (2147483647 : Int32)))]))
  refine own_via (fun t kz => XS.iconst X0.here hx rfl (hb hby at_4) kz) ?_
  show own_Go p e below _ (s₁.setTop (mkF m 5 #[oI p0, .unset, .unset, .unset] [(.int (5 : Int32)), (.int (p0 &&& (2147483647 : Int32)))]))
  refine own_via (fun t kz => iremM X0 hx rfl (hb hby at_5) rfl (by decide) kz) ?_
  show own_Go p e below _ (s₁.setTop (mkF m 6 #[oI p0, .unset, .unset, .unset] [(.int ((p0 &&& (2147483647 : Int32)) % (5 : Int32)))]))
  refine own_via (fun t kz => XS.istoreN X0.here hx rfl (hb hby at_6) rfl (l' := #[oI p0, oI ((p0 &&& (2147483647 : Int32)) % (5 : Int32)), .unset, .unset]) rfl kz) ?_
  show own_Go p e below _ (s₁.setTop (mkF m 7 #[oI p0, oI ((p0 &&& (2147483647 : Int32)) % (5 : Int32)), .unset, .unset] []))
  refine own_via (fun t kz => XS.iloadN X0.here hx rfl (hb hby at_7) rfl kz) ?_
  show own_Go p e below _ (s₁.setTop (mkF m 8 #[oI p0, oI ((p0 &&& (2147483647 : Int32)) % (5 : Int32)), .unset, .unset] [(.int ((p0 &&& (2147483647 : Int32)) % (5 : Int32)))]))
  by_cases hc8_1 : ((p0 &&& (2147483647 : Int32)) % (5 : Int32)) = (0 : Int32)
  · refine own_via (fun t kz => XS.ifNo X0.here hx rfl (hb hby at_8) rfl ((if0 _ _).trans (teq hc8_1).2) kz) ?_
    show own_Go p e below _ (s₁.setTop (mkF m 11 #[oI p0, oI ((p0 &&& (2147483647 : Int32)) % (5 : Int32)), .unset, .unset] []))
    obtain ⟨T2, X2, e2, st2⟩ := getS2 X0 hx hZ hown (host := "") (Or.inl (own_w hw 1)) Via.refl e0 S_INPUT (g := (mkF m 11 #[oI p0, oI ((p0 &&& (2147483647 : Int32)) % (5 : Int32)), .unset, .unset] [])) rfl (hb hby at_11)
    refine own_via st2 ?_
    show own_Go p e below _ (T2.setTop (mkF m 14 #[oI p0, oI ((p0 &&& (2147483647 : Int32)) % (5 : Int32)), .unset, .unset] [(.ref aINPUT)]))
    refine own_via (fun t kz => XS.astoreN X2.here hx rfl (hb hby at_14) rfl rfl (l' := #[oI p0, oI ((p0 &&& (2147483647 : Int32)) % (5 : Int32)), oR aINPUT, .unset]) rfl kz) ?_
    show own_Go p e below _ (T2.setTop (mkF m 15 #[oI p0, oI ((p0 &&& (2147483647 : Int32)) % (5 : Int32)), oR aINPUT, .unset] []))
    refine own_via (fun t kz => XS.iconst X2.here hx rfl (hb hby at_15) kz) ?_
    show own_Go p e below _ (T2.setTop (mkF m 16 #[oI p0, oI ((p0 &&& (2147483647 : Int32)) % (5 : Int32)), oR aINPUT, .unset] [(.int (0 : Int32))]))
    refine own_via (fun t kz => XS.istoreN X2.here hx rfl (hb hby at_16) rfl (l' := #[oI p0, oI ((p0 &&& (2147483647 : Int32)) % (5 : Int32)), oR aINPUT, oI (0 : Int32)]) rfl kz) ?_
    show own_Go p e below _ (T2.setTop (mkF m 17 #[oI p0, oI ((p0 &&& (2147483647 : Int32)) % (5 : Int32)), oR aINPUT, oI (0 : Int32)] []))
    refine own_via (fun t kz => XS.goto X2.here hx rfl (pc0 := 17) (pc' := 68) rfl (hb hby at_17) (by decide) (by decide) kz) ?_
    show own_Go p e below _ (T2.setTop (mkF m 68 #[oI p0, oI ((p0 &&& (2147483647 : Int32)) % (5 : Int32)), oR aINPUT, oI (0 : Int32)] []))
    refine own_via (fun t kz => XS.aloadN X2.here hx rfl (hb hby at_68) rfl rfl kz) ?_
    show own_Go p e below _ (T2.setTop (mkF m 69 #[oI p0, oI ((p0 &&& (2147483647 : Int32)) % (5 : Int32)), oR aINPUT, oI (0 : Int32)] [(.ref aINPUT)]))
    obtain ⟨cq3, kq3, qa3, qb3, qc3⟩ := isOf hZ e2 E_INPUT
    obtain ⟨_, _, ⟨T3, L3, k3, n3⟩, -, X3, ⟨Lc3, hQ3, l3, y3, z3⟩, st3⟩ := X2.virtualBack hx (y := (⟨"com/example/quiescence/quiescence/ioco/TestCase$Action", "ends", "()Z"⟩ : MethodName)) (z := (⟨"com/example/quiescence/quiescence/ioco/TestCase$Action", "ends", "()Z"⟩ : MethodName)) hown (mvT hZ (own_w hw 4)) (mvT hZ (own_w hw 5)) (notFace_of_selects (args := #[]) (mvT hZ (own_w hw 7))) (mvT hZ (own_w hw 7)) (mvT hZ (own_w hw 6)) (by decide) (backOf (W := 0) (rm1 l Z a0 hw [] aINPUT aPASS aINCONCLUSIVE aNOT_TAKEN (0 : Int32) h0 n0 Z0 S_PASS S_INCONCLUSIVE S_NOT_TAKEN (by unfold f1; rw [if_neg ne_INPUT_PASS, if_neg ne_INPUT_INCONCLUSIVE, if_neg ne_INPUT_NOT_TAKEN])) hZ (own_w hw 8) (own_w hw 2) (by decide) (by decide)) qa3 qc3 (g := (mkF m 69 #[oI p0, oI ((p0 &&& (2147483647 : Int32)) % (5 : Int32)), oR aINPUT, oI (0 : Int32)] [(.ref aINPUT)])) rfl (by rw [hml]; rfl) (Steps.refl _) (argsL := []) (rest := []) (lenOf pd_0_0 rfl) rfl (by show 2 * 0 + _ ≤ _; exact Nat.le_of_eq rfl) (hb hby at_69) (fun _ _ => ⟨rfl, e2, (by decide : 0 + 0 ≤ _), (by decide : 0 + 0 ≤ _)⟩)
    dsimp only [Pt.U, Pt.locs, Pt.cells, Pt.slots] at X3 l3 y3 z3 st3 hQ3
    subst l3 y3 z3
    obtain ⟨rfl, Nq3, e3⟩ := hQ3
    have N4 := Fr.app N0 Nq3
    refine own_tr st3 ?_
    show own_Go p e below _ (T3.setTop (mkF m 72 #[oI p0, oI ((p0 &&& (2147483647 : Int32)) % (5 : Int32)), oR aINPUT, oI (0 : Int32)] [(.int (0 : Int32))]))
    refine own_via (fun t kz => XS.iloadN X3.here hx rfl (hb hby at_72) rfl kz) ?_
    show own_Go p e below _ (T3.setTop (mkF m 73 #[oI p0, oI ((p0 &&& (2147483647 : Int32)) % (5 : Int32)), oR aINPUT, oI (0 : Int32)] [(.int (0 : Int32)), (.int (0 : Int32))]))
    refine own_via (fun t kz => XS.icmpNo X3.here hx rfl (hb hby at_73) rfl (teq (by decide : (0 : Int32) = (0 : Int32))).2 kz) ?_
    show own_Go p e below _ (T3.setTop (mkF m 76 #[oI p0, oI ((p0 &&& (2147483647 : Int32)) % (5 : Int32)), oR aINPUT, oI (0 : Int32)] []))
    refine own_via (fun t kz => XS.iconst X3.here hx rfl (hb hby at_76) kz) ?_
    show own_Go p e below _ (T3.setTop (mkF m 77 #[oI p0, oI ((p0 &&& (2147483647 : Int32)) % (5 : Int32)), oR aINPUT, oI (0 : Int32)] [(.int (1 : Int32))]))
    refine own_via (fun t kz => XS.goto X3.here hx rfl (pc0 := 77) (pc' := 81) rfl (hb hby at_77) (by decide) (by decide) kz) ?_
    show own_Go p e below _ (T3.setTop (mkF m 81 #[oI p0, oI ((p0 &&& (2147483647 : Int32)) % (5 : Int32)), oR aINPUT, oI (0 : Int32)] [(.int (1 : Int32))]))
    obtain ⟨fs, hr, hrun, hended, hW, hsame⟩ := X3.leave (v := some (.int (1 : Int32))) (fun h => by rw [Bd.returns] at h; cases h)
    refine ⟨_, _, retN X3 hx (t := .boolean) Bd.returns (by simp) (hb hby at_81) hr, hrun, hended, _, _, rfl, ?_, ⟨_, rfl⟩, hW, hsame.mono (by decide) (by decide)⟩
    show Q0 Z p0 aINPUT aPASS aINCONCLUSIVE aNOT_TAKEN aOBSERVE h0 n0 _ T3.heap _
    rw [e3]
    exact ⟨rfl, N4⟩
  · refine own_via (fun t kz => XS.ifYes X0.here hx rfl (pc0 := 8) (pc' := 20) rfl (hb hby at_8) rfl ((if0 _ _).trans (feq hc8_1).2) (by decide) (by decide) kz) ?_
    show own_Go p e below _ (s₁.setTop (mkF m 20 #[oI p0, oI ((p0 &&& (2147483647 : Int32)) % (5 : Int32)), .unset, .unset] []))
    refine own_via (fun t kz => XS.iloadN X0.here hx rfl (hb hby at_20) rfl kz) ?_
    show own_Go p e below _ (s₁.setTop (mkF m 21 #[oI p0, oI ((p0 &&& (2147483647 : Int32)) % (5 : Int32)), .unset, .unset] [(.int ((p0 &&& (2147483647 : Int32)) % (5 : Int32)))]))
    refine own_via (fun t kz => XS.iconst X0.here hx rfl (hb hby at_21) kz) ?_
    show own_Go p e below _ (s₁.setTop (mkF m 22 #[oI p0, oI ((p0 &&& (2147483647 : Int32)) % (5 : Int32)), .unset, .unset] [(.int (1 : Int32)), (.int ((p0 &&& (2147483647 : Int32)) % (5 : Int32)))]))
    by_cases hc22_6 : ((p0 &&& (2147483647 : Int32)) % (5 : Int32)) = (1 : Int32)
    · refine own_via (fun t kz => XS.icmpNo X0.here hx rfl (hb hby at_22) rfl (teq hc22_6).2 kz) ?_
      show own_Go p e below _ (s₁.setTop (mkF m 25 #[oI p0, oI ((p0 &&& (2147483647 : Int32)) % (5 : Int32)), .unset, .unset] []))
      obtain ⟨T7, X7, e7, st7⟩ := getS2 X0 hx hZ hown (host := "") (Or.inl (own_w hw 16)) Via.refl e0 S_OBSERVE (g := (mkF m 25 #[oI p0, oI ((p0 &&& (2147483647 : Int32)) % (5 : Int32)), .unset, .unset] [])) rfl (hb hby at_25)
      refine own_via st7 ?_
      show own_Go p e below _ (T7.setTop (mkF m 28 #[oI p0, oI ((p0 &&& (2147483647 : Int32)) % (5 : Int32)), .unset, .unset] [(.ref aOBSERVE)]))
      refine own_via (fun t kz => XS.astoreN X7.here hx rfl (hb hby at_28) rfl rfl (l' := #[oI p0, oI ((p0 &&& (2147483647 : Int32)) % (5 : Int32)), oR aOBSERVE, .unset]) rfl kz) ?_
      show own_Go p e below _ (T7.setTop (mkF m 29 #[oI p0, oI ((p0 &&& (2147483647 : Int32)) % (5 : Int32)), oR aOBSERVE, .unset] []))
      refine own_via (fun t kz => XS.iconst X7.here hx rfl (hb hby at_29) kz) ?_
      show own_Go p e below _ (T7.setTop (mkF m 30 #[oI p0, oI ((p0 &&& (2147483647 : Int32)) % (5 : Int32)), oR aOBSERVE, .unset] [(.int (0 : Int32))]))
      refine own_via (fun t kz => XS.istoreN X7.here hx rfl (hb hby at_30) rfl (l' := #[oI p0, oI ((p0 &&& (2147483647 : Int32)) % (5 : Int32)), oR aOBSERVE, oI (0 : Int32)]) rfl kz) ?_
      show own_Go p e below _ (T7.setTop (mkF m 31 #[oI p0, oI ((p0 &&& (2147483647 : Int32)) % (5 : Int32)), oR aOBSERVE, oI (0 : Int32)] []))
      refine own_via (fun t kz => XS.goto X7.here hx rfl (pc0 := 31) (pc' := 68) rfl (hb hby at_31) (by decide) (by decide) kz) ?_
      show own_Go p e below _ (T7.setTop (mkF m 68 #[oI p0, oI ((p0 &&& (2147483647 : Int32)) % (5 : Int32)), oR aOBSERVE, oI (0 : Int32)] []))
      refine own_via (fun t kz => XS.aloadN X7.here hx rfl (hb hby at_68) rfl rfl kz) ?_
      show own_Go p e below _ (T7.setTop (mkF m 69 #[oI p0, oI ((p0 &&& (2147483647 : Int32)) % (5 : Int32)), oR aOBSERVE, oI (0 : Int32)] [(.ref aOBSERVE)]))
      obtain ⟨cq8, kq8, qa8, qb8, qc8⟩ := isOf hZ e7 E_OBSERVE
      obtain ⟨_, _, ⟨T8, L8, k8, n8⟩, -, X8, ⟨Lc8, hQ8, l8, y8, z8⟩, st8⟩ := X7.virtualBack hx (y := (⟨"com/example/quiescence/quiescence/ioco/TestCase$Action", "ends", "()Z"⟩ : MethodName)) (z := (⟨"com/example/quiescence/quiescence/ioco/TestCase$Action", "ends", "()Z"⟩ : MethodName)) hown (mvT hZ (own_w hw 4)) (mvT hZ (own_w hw 5)) (notFace_of_selects (args := #[]) (mvT hZ (own_w hw 7))) (mvT hZ (own_w hw 7)) (mvT hZ (own_w hw 6)) (by decide) (backOf (W := 0) (rm1 l Z a0 hw [] aOBSERVE aPASS aINCONCLUSIVE aNOT_TAKEN (0 : Int32) h0 n0 Z0 S_PASS S_INCONCLUSIVE S_NOT_TAKEN (by unfold f1; rw [if_neg (Ne.symm ne_PASS_OBSERVE), if_neg (Ne.symm ne_INCONCLUSIVE_OBSERVE), if_neg (Ne.symm ne_NOT_TAKEN_OBSERVE)])) hZ (own_w hw 8) (own_w hw 2) (by decide) (by decide)) qa8 qc8 (g := (mkF m 69 #[oI p0, oI ((p0 &&& (2147483647 : Int32)) % (5 : Int32)), oR aOBSERVE, oI (0 : Int32)] [(.ref aOBSERVE)])) rfl (by rw [hml]; rfl) (Steps.refl _) (argsL := []) (rest := []) (lenOf pd_0_0 rfl) rfl (by show 2 * 0 + _ ≤ _; exact Nat.le_of_eq rfl) (hb hby at_69) (fun _ _ => ⟨rfl, e7, (by decide : 0 + 0 ≤ _), (by decide : 0 + 0 ≤ _)⟩)
      dsimp only [Pt.U, Pt.locs, Pt.cells, Pt.slots] at X8 l8 y8 z8 st8 hQ8
      subst l8 y8 z8
      obtain ⟨rfl, Nq8, e8⟩ := hQ8
      have N9 := Fr.app N0 Nq8
      refine own_tr st8 ?_
      show own_Go p e below _ (T8.setTop (mkF m 72 #[oI p0, oI ((p0 &&& (2147483647 : Int32)) % (5 : Int32)), oR aOBSERVE, oI (0 : Int32)] [(.int (0 : Int32))]))
      refine own_via (fun t kz => XS.iloadN X8.here hx rfl (hb hby at_72) rfl kz) ?_
      show own_Go p e below _ (T8.setTop (mkF m 73 #[oI p0, oI ((p0 &&& (2147483647 : Int32)) % (5 : Int32)), oR aOBSERVE, oI (0 : Int32)] [(.int (0 : Int32)), (.int (0 : Int32))]))
      refine own_via (fun t kz => XS.icmpNo X8.here hx rfl (hb hby at_73) rfl (teq (by decide : (0 : Int32) = (0 : Int32))).2 kz) ?_
      show own_Go p e below _ (T8.setTop (mkF m 76 #[oI p0, oI ((p0 &&& (2147483647 : Int32)) % (5 : Int32)), oR aOBSERVE, oI (0 : Int32)] []))
      refine own_via (fun t kz => XS.iconst X8.here hx rfl (hb hby at_76) kz) ?_
      show own_Go p e below _ (T8.setTop (mkF m 77 #[oI p0, oI ((p0 &&& (2147483647 : Int32)) % (5 : Int32)), oR aOBSERVE, oI (0 : Int32)] [(.int (1 : Int32))]))
      refine own_via (fun t kz => XS.goto X8.here hx rfl (pc0 := 77) (pc' := 81) rfl (hb hby at_77) (by decide) (by decide) kz) ?_
      show own_Go p e below _ (T8.setTop (mkF m 81 #[oI p0, oI ((p0 &&& (2147483647 : Int32)) % (5 : Int32)), oR aOBSERVE, oI (0 : Int32)] [(.int (1 : Int32))]))
      obtain ⟨fs, hr, hrun, hended, hW, hsame⟩ := X8.leave (v := some (.int (1 : Int32))) (fun h => by rw [Bd.returns] at h; cases h)
      refine ⟨_, _, retN X8 hx (t := .boolean) Bd.returns (by simp) (hb hby at_81) hr, hrun, hended, _, _, rfl, ?_, ⟨_, rfl⟩, hW, hsame.mono (by decide) (by decide)⟩
      show Q0 Z p0 aINPUT aPASS aINCONCLUSIVE aNOT_TAKEN aOBSERVE h0 n0 _ T8.heap _
      rw [e8]
      exact ⟨rfl, N9⟩
    · refine own_via (fun t kz => XS.icmpYes X0.here hx rfl (pc0 := 22) (pc' := 34) rfl (hb hby at_22) rfl (feq hc22_6).2 (by decide) (by decide) kz) ?_
      show own_Go p e below _ (s₁.setTop (mkF m 34 #[oI p0, oI ((p0 &&& (2147483647 : Int32)) % (5 : Int32)), .unset, .unset] []))
      refine own_via (fun t kz => XS.iloadN X0.here hx rfl (hb hby at_34) rfl kz) ?_
      show own_Go p e below _ (s₁.setTop (mkF m 35 #[oI p0, oI ((p0 &&& (2147483647 : Int32)) % (5 : Int32)), .unset, .unset] [(.int ((p0 &&& (2147483647 : Int32)) % (5 : Int32)))]))
      refine own_via (fun t kz => XS.iconst X0.here hx rfl (hb hby at_35) kz) ?_
      show own_Go p e below _ (s₁.setTop (mkF m 36 #[oI p0, oI ((p0 &&& (2147483647 : Int32)) % (5 : Int32)), .unset, .unset] [(.int (2 : Int32)), (.int ((p0 &&& (2147483647 : Int32)) % (5 : Int32)))]))
      by_cases hc36_11 : ((p0 &&& (2147483647 : Int32)) % (5 : Int32)) = (2 : Int32)
      · refine own_via (fun t kz => XS.icmpNo X0.here hx rfl (hb hby at_36) rfl (teq hc36_11).2 kz) ?_
        show own_Go p e below _ (s₁.setTop (mkF m 39 #[oI p0, oI ((p0 &&& (2147483647 : Int32)) % (5 : Int32)), .unset, .unset] []))
        obtain ⟨T12, X12, e12, st12⟩ := getS2 X0 hx hZ hown (host := "") (Or.inl (own_w hw 19)) Via.refl e0 S_PASS (g := (mkF m 39 #[oI p0, oI ((p0 &&& (2147483647 : Int32)) % (5 : Int32)), .unset, .unset] [])) rfl (hb hby at_39)
        refine own_via st12 ?_
        show own_Go p e below _ (T12.setTop (mkF m 42 #[oI p0, oI ((p0 &&& (2147483647 : Int32)) % (5 : Int32)), .unset, .unset] [(.ref aPASS)]))
        refine own_via (fun t kz => XS.astoreN X12.here hx rfl (hb hby at_42) rfl rfl (l' := #[oI p0, oI ((p0 &&& (2147483647 : Int32)) % (5 : Int32)), oR aPASS, .unset]) rfl kz) ?_
        show own_Go p e below _ (T12.setTop (mkF m 43 #[oI p0, oI ((p0 &&& (2147483647 : Int32)) % (5 : Int32)), oR aPASS, .unset] []))
        refine own_via (fun t kz => XS.iconst X12.here hx rfl (hb hby at_43) kz) ?_
        show own_Go p e below _ (T12.setTop (mkF m 44 #[oI p0, oI ((p0 &&& (2147483647 : Int32)) % (5 : Int32)), oR aPASS, .unset] [(.int (1 : Int32))]))
        refine own_via (fun t kz => XS.istoreN X12.here hx rfl (hb hby at_44) rfl (l' := #[oI p0, oI ((p0 &&& (2147483647 : Int32)) % (5 : Int32)), oR aPASS, oI (1 : Int32)]) rfl kz) ?_
        show own_Go p e below _ (T12.setTop (mkF m 45 #[oI p0, oI ((p0 &&& (2147483647 : Int32)) % (5 : Int32)), oR aPASS, oI (1 : Int32)] []))
        refine own_via (fun t kz => XS.goto X12.here hx rfl (pc0 := 45) (pc' := 68) rfl (hb hby at_45) (by decide) (by decide) kz) ?_
        show own_Go p e below _ (T12.setTop (mkF m 68 #[oI p0, oI ((p0 &&& (2147483647 : Int32)) % (5 : Int32)), oR aPASS, oI (1 : Int32)] []))
        refine own_via (fun t kz => XS.aloadN X12.here hx rfl (hb hby at_68) rfl rfl kz) ?_
        show own_Go p e below _ (T12.setTop (mkF m 69 #[oI p0, oI ((p0 &&& (2147483647 : Int32)) % (5 : Int32)), oR aPASS, oI (1 : Int32)] [(.ref aPASS)]))
        obtain ⟨cq13, kq13, qa13, qb13, qc13⟩ := isOf hZ e12 E_PASS
        obtain ⟨_, _, ⟨T13, L13, k13, n13⟩, -, X13, ⟨Lc13, hQ13, l13, y13, z13⟩, st13⟩ := X12.virtualBack hx (y := (⟨"com/example/quiescence/quiescence/ioco/TestCase$Action", "ends", "()Z"⟩ : MethodName)) (z := (⟨"com/example/quiescence/quiescence/ioco/TestCase$Action", "ends", "()Z"⟩ : MethodName)) hown (mvT hZ (own_w hw 4)) (mvT hZ (own_w hw 5)) (notFace_of_selects (args := #[]) (mvT hZ (own_w hw 7))) (mvT hZ (own_w hw 7)) (mvT hZ (own_w hw 6)) (by decide) (backOf (W := 0) (rm1 l Z a0 hw [] aPASS aPASS aINCONCLUSIVE aNOT_TAKEN (1 : Int32) h0 n0 Z0 S_PASS S_INCONCLUSIVE S_NOT_TAKEN (by unfold f1; rw [if_pos (rfl : aPASS = aPASS)])) hZ (own_w hw 8) (own_w hw 2) (by decide) (by decide)) qa13 qc13 (g := (mkF m 69 #[oI p0, oI ((p0 &&& (2147483647 : Int32)) % (5 : Int32)), oR aPASS, oI (1 : Int32)] [(.ref aPASS)])) rfl (by rw [hml]; rfl) (Steps.refl _) (argsL := []) (rest := []) (lenOf pd_0_0 rfl) rfl (by show 2 * 0 + _ ≤ _; exact Nat.le_of_eq rfl) (hb hby at_69) (fun _ _ => ⟨rfl, e12, (by decide : 0 + 0 ≤ _), (by decide : 0 + 0 ≤ _)⟩)
        dsimp only [Pt.U, Pt.locs, Pt.cells, Pt.slots] at X13 l13 y13 z13 st13 hQ13
        subst l13 y13 z13
        obtain ⟨rfl, Nq13, e13⟩ := hQ13
        have N14 := Fr.app N0 Nq13
        refine own_tr st13 ?_
        show own_Go p e below _ (T13.setTop (mkF m 72 #[oI p0, oI ((p0 &&& (2147483647 : Int32)) % (5 : Int32)), oR aPASS, oI (1 : Int32)] [(.int (1 : Int32))]))
        refine own_via (fun t kz => XS.iloadN X13.here hx rfl (hb hby at_72) rfl kz) ?_
        show own_Go p e below _ (T13.setTop (mkF m 73 #[oI p0, oI ((p0 &&& (2147483647 : Int32)) % (5 : Int32)), oR aPASS, oI (1 : Int32)] [(.int (1 : Int32)), (.int (1 : Int32))]))
        refine own_via (fun t kz => XS.icmpNo X13.here hx rfl (hb hby at_73) rfl (teq (by decide : (1 : Int32) = (1 : Int32))).2 kz) ?_
        show own_Go p e below _ (T13.setTop (mkF m 76 #[oI p0, oI ((p0 &&& (2147483647 : Int32)) % (5 : Int32)), oR aPASS, oI (1 : Int32)] []))
        refine own_via (fun t kz => XS.iconst X13.here hx rfl (hb hby at_76) kz) ?_
        show own_Go p e below _ (T13.setTop (mkF m 77 #[oI p0, oI ((p0 &&& (2147483647 : Int32)) % (5 : Int32)), oR aPASS, oI (1 : Int32)] [(.int (1 : Int32))]))
        refine own_via (fun t kz => XS.goto X13.here hx rfl (pc0 := 77) (pc' := 81) rfl (hb hby at_77) (by decide) (by decide) kz) ?_
        show own_Go p e below _ (T13.setTop (mkF m 81 #[oI p0, oI ((p0 &&& (2147483647 : Int32)) % (5 : Int32)), oR aPASS, oI (1 : Int32)] [(.int (1 : Int32))]))
        obtain ⟨fs, hr, hrun, hended, hW, hsame⟩ := X13.leave (v := some (.int (1 : Int32))) (fun h => by rw [Bd.returns] at h; cases h)
        refine ⟨_, _, retN X13 hx (t := .boolean) Bd.returns (by simp) (hb hby at_81) hr, hrun, hended, _, _, rfl, ?_, ⟨_, rfl⟩, hW, hsame.mono (by decide) (by decide)⟩
        show Q0 Z p0 aINPUT aPASS aINCONCLUSIVE aNOT_TAKEN aOBSERVE h0 n0 _ T13.heap _
        rw [e13]
        exact ⟨rfl, N14⟩
      · refine own_via (fun t kz => XS.icmpYes X0.here hx rfl (pc0 := 36) (pc' := 48) rfl (hb hby at_36) rfl (feq hc36_11).2 (by decide) (by decide) kz) ?_
        show own_Go p e below _ (s₁.setTop (mkF m 48 #[oI p0, oI ((p0 &&& (2147483647 : Int32)) % (5 : Int32)), .unset, .unset] []))
        refine own_via (fun t kz => XS.iloadN X0.here hx rfl (hb hby at_48) rfl kz) ?_
        show own_Go p e below _ (s₁.setTop (mkF m 49 #[oI p0, oI ((p0 &&& (2147483647 : Int32)) % (5 : Int32)), .unset, .unset] [(.int ((p0 &&& (2147483647 : Int32)) % (5 : Int32)))]))
        refine own_via (fun t kz => XS.iconst X0.here hx rfl (hb hby at_49) kz) ?_
        show own_Go p e below _ (s₁.setTop (mkF m 50 #[oI p0, oI ((p0 &&& (2147483647 : Int32)) % (5 : Int32)), .unset, .unset] [(.int (3 : Int32)), (.int ((p0 &&& (2147483647 : Int32)) % (5 : Int32)))]))
        by_cases hc50_16 : ((p0 &&& (2147483647 : Int32)) % (5 : Int32)) = (3 : Int32)
        · refine own_via (fun t kz => XS.icmpNo X0.here hx rfl (hb hby at_50) rfl (teq hc50_16).2 kz) ?_
          show own_Go p e below _ (s₁.setTop (mkF m 53 #[oI p0, oI ((p0 &&& (2147483647 : Int32)) % (5 : Int32)), .unset, .unset] []))
          obtain ⟨T17, X17, e17, st17⟩ := getS2 X0 hx hZ hown (host := "") (Or.inl (own_w hw 15)) Via.refl e0 S_INCONCLUSIVE (g := (mkF m 53 #[oI p0, oI ((p0 &&& (2147483647 : Int32)) % (5 : Int32)), .unset, .unset] [])) rfl (hb hby at_53)
          refine own_via st17 ?_
          show own_Go p e below _ (T17.setTop (mkF m 56 #[oI p0, oI ((p0 &&& (2147483647 : Int32)) % (5 : Int32)), .unset, .unset] [(.ref aINCONCLUSIVE)]))
          refine own_via (fun t kz => XS.astoreN X17.here hx rfl (hb hby at_56) rfl rfl (l' := #[oI p0, oI ((p0 &&& (2147483647 : Int32)) % (5 : Int32)), oR aINCONCLUSIVE, .unset]) rfl kz) ?_
          show own_Go p e below _ (T17.setTop (mkF m 57 #[oI p0, oI ((p0 &&& (2147483647 : Int32)) % (5 : Int32)), oR aINCONCLUSIVE, .unset] []))
          refine own_via (fun t kz => XS.iconst X17.here hx rfl (hb hby at_57) kz) ?_
          show own_Go p e below _ (T17.setTop (mkF m 58 #[oI p0, oI ((p0 &&& (2147483647 : Int32)) % (5 : Int32)), oR aINCONCLUSIVE, .unset] [(.int (1 : Int32))]))
          refine own_via (fun t kz => XS.istoreN X17.here hx rfl (hb hby at_58) rfl (l' := #[oI p0, oI ((p0 &&& (2147483647 : Int32)) % (5 : Int32)), oR aINCONCLUSIVE, oI (1 : Int32)]) rfl kz) ?_
          show own_Go p e below _ (T17.setTop (mkF m 59 #[oI p0, oI ((p0 &&& (2147483647 : Int32)) % (5 : Int32)), oR aINCONCLUSIVE, oI (1 : Int32)] []))
          refine own_via (fun t kz => XS.goto X17.here hx rfl (pc0 := 59) (pc' := 68) rfl (hb hby at_59) (by decide) (by decide) kz) ?_
          show own_Go p e below _ (T17.setTop (mkF m 68 #[oI p0, oI ((p0 &&& (2147483647 : Int32)) % (5 : Int32)), oR aINCONCLUSIVE, oI (1 : Int32)] []))
          refine own_via (fun t kz => XS.aloadN X17.here hx rfl (hb hby at_68) rfl rfl kz) ?_
          show own_Go p e below _ (T17.setTop (mkF m 69 #[oI p0, oI ((p0 &&& (2147483647 : Int32)) % (5 : Int32)), oR aINCONCLUSIVE, oI (1 : Int32)] [(.ref aINCONCLUSIVE)]))
          obtain ⟨cq18, kq18, qa18, qb18, qc18⟩ := isOf hZ e17 E_INCONCLUSIVE
          obtain ⟨_, _, ⟨T18, L18, k18, n18⟩, -, X18, ⟨Lc18, hQ18, l18, y18, z18⟩, st18⟩ := X17.virtualBack hx (y := (⟨"com/example/quiescence/quiescence/ioco/TestCase$Action", "ends", "()Z"⟩ : MethodName)) (z := (⟨"com/example/quiescence/quiescence/ioco/TestCase$Action", "ends", "()Z"⟩ : MethodName)) hown (mvT hZ (own_w hw 4)) (mvT hZ (own_w hw 5)) (notFace_of_selects (args := #[]) (mvT hZ (own_w hw 7))) (mvT hZ (own_w hw 7)) (mvT hZ (own_w hw 6)) (by decide) (backOf (W := 0) (rm1 l Z a0 hw [] aINCONCLUSIVE aPASS aINCONCLUSIVE aNOT_TAKEN (1 : Int32) h0 n0 Z0 S_PASS S_INCONCLUSIVE S_NOT_TAKEN (by unfold f1; rw [if_neg (Ne.symm ne_PASS_INCONCLUSIVE), if_pos (rfl : aINCONCLUSIVE = aINCONCLUSIVE)])) hZ (own_w hw 8) (own_w hw 2) (by decide) (by decide)) qa18 qc18 (g := (mkF m 69 #[oI p0, oI ((p0 &&& (2147483647 : Int32)) % (5 : Int32)), oR aINCONCLUSIVE, oI (1 : Int32)] [(.ref aINCONCLUSIVE)])) rfl (by rw [hml]; rfl) (Steps.refl _) (argsL := []) (rest := []) (lenOf pd_0_0 rfl) rfl (by show 2 * 0 + _ ≤ _; exact Nat.le_of_eq rfl) (hb hby at_69) (fun _ _ => ⟨rfl, e17, (by decide : 0 + 0 ≤ _), (by decide : 0 + 0 ≤ _)⟩)
          dsimp only [Pt.U, Pt.locs, Pt.cells, Pt.slots] at X18 l18 y18 z18 st18 hQ18
          subst l18 y18 z18
          obtain ⟨rfl, Nq18, e18⟩ := hQ18
          have N19 := Fr.app N0 Nq18
          refine own_tr st18 ?_
          show own_Go p e below _ (T18.setTop (mkF m 72 #[oI p0, oI ((p0 &&& (2147483647 : Int32)) % (5 : Int32)), oR aINCONCLUSIVE, oI (1 : Int32)] [(.int (1 : Int32))]))
          refine own_via (fun t kz => XS.iloadN X18.here hx rfl (hb hby at_72) rfl kz) ?_
          show own_Go p e below _ (T18.setTop (mkF m 73 #[oI p0, oI ((p0 &&& (2147483647 : Int32)) % (5 : Int32)), oR aINCONCLUSIVE, oI (1 : Int32)] [(.int (1 : Int32)), (.int (1 : Int32))]))
          refine own_via (fun t kz => XS.icmpNo X18.here hx rfl (hb hby at_73) rfl (teq (by decide : (1 : Int32) = (1 : Int32))).2 kz) ?_
          show own_Go p e below _ (T18.setTop (mkF m 76 #[oI p0, oI ((p0 &&& (2147483647 : Int32)) % (5 : Int32)), oR aINCONCLUSIVE, oI (1 : Int32)] []))
          refine own_via (fun t kz => XS.iconst X18.here hx rfl (hb hby at_76) kz) ?_
          show own_Go p e below _ (T18.setTop (mkF m 77 #[oI p0, oI ((p0 &&& (2147483647 : Int32)) % (5 : Int32)), oR aINCONCLUSIVE, oI (1 : Int32)] [(.int (1 : Int32))]))
          refine own_via (fun t kz => XS.goto X18.here hx rfl (pc0 := 77) (pc' := 81) rfl (hb hby at_77) (by decide) (by decide) kz) ?_
          show own_Go p e below _ (T18.setTop (mkF m 81 #[oI p0, oI ((p0 &&& (2147483647 : Int32)) % (5 : Int32)), oR aINCONCLUSIVE, oI (1 : Int32)] [(.int (1 : Int32))]))
          obtain ⟨fs, hr, hrun, hended, hW, hsame⟩ := X18.leave (v := some (.int (1 : Int32))) (fun h => by rw [Bd.returns] at h; cases h)
          refine ⟨_, _, retN X18 hx (t := .boolean) Bd.returns (by simp) (hb hby at_81) hr, hrun, hended, _, _, rfl, ?_, ⟨_, rfl⟩, hW, hsame.mono (by decide) (by decide)⟩
          show Q0 Z p0 aINPUT aPASS aINCONCLUSIVE aNOT_TAKEN aOBSERVE h0 n0 _ T18.heap _
          rw [e18]
          exact ⟨rfl, N19⟩
        · refine own_via (fun t kz => XS.icmpYes X0.here hx rfl (pc0 := 50) (pc' := 62) rfl (hb hby at_50) rfl (feq hc50_16).2 (by decide) (by decide) kz) ?_
          show own_Go p e below _ (s₁.setTop (mkF m 62 #[oI p0, oI ((p0 &&& (2147483647 : Int32)) % (5 : Int32)), .unset, .unset] []))
          obtain ⟨T21, X21, e21, st21⟩ := getS2 X0 hx hZ hown (host := "") (Or.inl (own_w hw 18)) Via.refl e0 S_NOT_TAKEN (g := (mkF m 62 #[oI p0, oI ((p0 &&& (2147483647 : Int32)) % (5 : Int32)), .unset, .unset] [])) rfl (hb hby at_62)
          refine own_via st21 ?_
          show own_Go p e below _ (T21.setTop (mkF m 65 #[oI p0, oI ((p0 &&& (2147483647 : Int32)) % (5 : Int32)), .unset, .unset] [(.ref aNOT_TAKEN)]))
          refine own_via (fun t kz => XS.astoreN X21.here hx rfl (hb hby at_65) rfl rfl (l' := #[oI p0, oI ((p0 &&& (2147483647 : Int32)) % (5 : Int32)), oR aNOT_TAKEN, .unset]) rfl kz) ?_
          show own_Go p e below _ (T21.setTop (mkF m 66 #[oI p0, oI ((p0 &&& (2147483647 : Int32)) % (5 : Int32)), oR aNOT_TAKEN, .unset] []))
          refine own_via (fun t kz => XS.iconst X21.here hx rfl (hb hby at_66) kz) ?_
          show own_Go p e below _ (T21.setTop (mkF m 67 #[oI p0, oI ((p0 &&& (2147483647 : Int32)) % (5 : Int32)), oR aNOT_TAKEN, .unset] [(.int (1 : Int32))]))
          refine own_via (fun t kz => XS.istoreN X21.here hx rfl (hb hby at_67) rfl (l' := #[oI p0, oI ((p0 &&& (2147483647 : Int32)) % (5 : Int32)), oR aNOT_TAKEN, oI (1 : Int32)]) rfl kz) ?_
          show own_Go p e below _ (T21.setTop (mkF m 68 #[oI p0, oI ((p0 &&& (2147483647 : Int32)) % (5 : Int32)), oR aNOT_TAKEN, oI (1 : Int32)] []))
          refine own_via (fun t kz => XS.aloadN X21.here hx rfl (hb hby at_68) rfl rfl kz) ?_
          show own_Go p e below _ (T21.setTop (mkF m 69 #[oI p0, oI ((p0 &&& (2147483647 : Int32)) % (5 : Int32)), oR aNOT_TAKEN, oI (1 : Int32)] [(.ref aNOT_TAKEN)]))
          obtain ⟨cq22, kq22, qa22, qb22, qc22⟩ := isOf hZ e21 E_NOT_TAKEN
          obtain ⟨_, _, ⟨T22, L22, k22, n22⟩, -, X22, ⟨Lc22, hQ22, l22, y22, z22⟩, st22⟩ := X21.virtualBack hx (y := (⟨"com/example/quiescence/quiescence/ioco/TestCase$Action", "ends", "()Z"⟩ : MethodName)) (z := (⟨"com/example/quiescence/quiescence/ioco/TestCase$Action", "ends", "()Z"⟩ : MethodName)) hown (mvT hZ (own_w hw 4)) (mvT hZ (own_w hw 5)) (notFace_of_selects (args := #[]) (mvT hZ (own_w hw 7))) (mvT hZ (own_w hw 7)) (mvT hZ (own_w hw 6)) (by decide) (backOf (W := 0) (rm1 l Z a0 hw [] aNOT_TAKEN aPASS aINCONCLUSIVE aNOT_TAKEN (1 : Int32) h0 n0 Z0 S_PASS S_INCONCLUSIVE S_NOT_TAKEN (by unfold f1; rw [if_neg (Ne.symm ne_PASS_NOT_TAKEN), if_neg (Ne.symm ne_INCONCLUSIVE_NOT_TAKEN), if_pos (rfl : aNOT_TAKEN = aNOT_TAKEN)])) hZ (own_w hw 8) (own_w hw 2) (by decide) (by decide)) qa22 qc22 (g := (mkF m 69 #[oI p0, oI ((p0 &&& (2147483647 : Int32)) % (5 : Int32)), oR aNOT_TAKEN, oI (1 : Int32)] [(.ref aNOT_TAKEN)])) rfl (by rw [hml]; rfl) (Steps.refl _) (argsL := []) (rest := []) (lenOf pd_0_0 rfl) rfl (by show 2 * 0 + _ ≤ _; exact Nat.le_of_eq rfl) (hb hby at_69) (fun _ _ => ⟨rfl, e21, (by decide : 0 + 0 ≤ _), (by decide : 0 + 0 ≤ _)⟩)
          dsimp only [Pt.U, Pt.locs, Pt.cells, Pt.slots] at X22 l22 y22 z22 st22 hQ22
          subst l22 y22 z22
          obtain ⟨rfl, Nq22, e22⟩ := hQ22
          have N23 := Fr.app N0 Nq22
          refine own_tr st22 ?_
          show own_Go p e below _ (T22.setTop (mkF m 72 #[oI p0, oI ((p0 &&& (2147483647 : Int32)) % (5 : Int32)), oR aNOT_TAKEN, oI (1 : Int32)] [(.int (1 : Int32))]))
          refine own_via (fun t kz => XS.iloadN X22.here hx rfl (hb hby at_72) rfl kz) ?_
          show own_Go p e below _ (T22.setTop (mkF m 73 #[oI p0, oI ((p0 &&& (2147483647 : Int32)) % (5 : Int32)), oR aNOT_TAKEN, oI (1 : Int32)] [(.int (1 : Int32)), (.int (1 : Int32))]))
          refine own_via (fun t kz => XS.icmpNo X22.here hx rfl (hb hby at_73) rfl (teq (by decide : (1 : Int32) = (1 : Int32))).2 kz) ?_
          show own_Go p e below _ (T22.setTop (mkF m 76 #[oI p0, oI ((p0 &&& (2147483647 : Int32)) % (5 : Int32)), oR aNOT_TAKEN, oI (1 : Int32)] []))
          refine own_via (fun t kz => XS.iconst X22.here hx rfl (hb hby at_76) kz) ?_
          show own_Go p e below _ (T22.setTop (mkF m 77 #[oI p0, oI ((p0 &&& (2147483647 : Int32)) % (5 : Int32)), oR aNOT_TAKEN, oI (1 : Int32)] [(.int (1 : Int32))]))
          refine own_via (fun t kz => XS.goto X22.here hx rfl (pc0 := 77) (pc' := 81) rfl (hb hby at_77) (by decide) (by decide) kz) ?_
          show own_Go p e below _ (T22.setTop (mkF m 81 #[oI p0, oI ((p0 &&& (2147483647 : Int32)) % (5 : Int32)), oR aNOT_TAKEN, oI (1 : Int32)] [(.int (1 : Int32))]))
          obtain ⟨fs, hr, hrun, hended, hW, hsame⟩ := X22.leave (v := some (.int (1 : Int32))) (fun h => by rw [Bd.returns] at h; cases h)
          refine ⟨_, _, retN X22 hx (t := .boolean) Bd.returns (by simp) (hb hby at_81) hr, hrun, hended, _, _, rfl, ?_, ⟨_, rfl⟩, hW, hsame.mono (by decide) (by decide)⟩
          show Q0 Z p0 aINPUT aPASS aINCONCLUSIVE aNOT_TAKEN aOBSERVE h0 n0 _ T22.heap _
          rw [e22]
          exact ⟨rfl, N23⟩
set_option maxRecDepth 65536 in
set_option maxHeartbeats 40000000 in
theorem comes_1 {Post : Tables → Env → Array Value → State → Outcome → State → Prop} (hpost : ∀ tb e args s v u, (limb_1_1.after args s (.returned v) u = true ∧ limb_1_2.after args s (.returned v) u = true ∧ True) → FrameEnd s (.returned v) u (Jvm.fieldLocs frame_1_writes args s ++ Jvm.arrayLocs frame_1_arrays args s ++ Jvm.staticLocs frame_1_statics s) 0 0 → Post tb e args s (.returned v) u) :
    ArmFor flags0 classFile x code maxLocals ret World_1 tables_1 room_1 Calls_1 rest_1 Pre_1 Post := by
  intro l hfl _ _ p e ha hc hk s m args below hf hA hF happ hP
  obtain ⟨hcalls, hrest, hpre⟩ := hP
  obtain ⟨-, -, -, hnamed, -, -, -, hat⟩ := (Spec.applies_iff hf).mp happ
  obtain ⟨hg, hn⟩ := and_e (Cond.before_iff.mp (show (Jvm.Cond.and given_1 narrow_1).before args s = true from hpre))
  obtain ⟨g1, g2⟩ := and_e hg
  obtain ⟨w0, rfl⟩ : ∃ w0 : Value, args = #[w0] := by
    have hs : args.size = 1 := by simpa [Cond.value, given_1] using g1
    obtain ⟨L⟩ := args
    match L, hs with
    | [w0], _ => exact ⟨w0, rfl⟩
  have hw := fun d (hd : d ∈ tables_1) => atoms_spec (ws := Jvm.Cond.code x code maxLocals ret :: tables_1) hat d (List.mem_cons_of_mem _ hd)
  obtain ⟨i0, ei0⟩ := is_v g2
  obtain rfl : w0 = (.int i0) := Option.some.inj ei0
  obtain ⟨nr1, nr2⟩ := and_e hn
  obtain ⟨nr3, nr4⟩ := and_e nr2
  obtain ⟨nr5, nr6⟩ := and_e nr4
  obtain ⟨nr7, nr8⟩ := and_e nr6
  obtain ⟨nr9, nr10⟩ := and_e nr8
  obtain ⟨nr11, nr12⟩ := and_e nr10
  obtain ⟨nr13, nr14⟩ := and_e nr12
  obtain ⟨nr15, nr16⟩ := and_e nr14
  obtain ⟨nr17, nr18⟩ := and_e nr16
  obtain ⟨aINPUT, evINPUT⟩ := exa_v nr1
  have E_INPUT := Exa.start evINPUT nr1
  have S_INPUT := Sta.start evINPUT (Or.inr ⟨(own_w hw 2), (own_w hw 3)⟩)
  obtain ⟨aPASS, evPASS⟩ := exa_v nr3
  have E_PASS := Exa.start evPASS nr3
  have S_PASS := Sta.start evPASS (Or.inr ⟨(own_w hw 2), (own_w hw 10)⟩)
  obtain ⟨aINCONCLUSIVE, evINCONCLUSIVE⟩ := exa_v nr9
  have E_INCONCLUSIVE := Exa.start evINCONCLUSIVE nr9
  have S_INCONCLUSIVE := Sta.start evINCONCLUSIVE (Or.inr ⟨(own_w hw 2), (own_w hw 12)⟩)
  obtain ⟨aNOT_TAKEN, evNOT_TAKEN⟩ := exa_v nr13
  have E_NOT_TAKEN := Exa.start evNOT_TAKEN nr13
  have S_NOT_TAKEN := Sta.start evNOT_TAKEN (Or.inr ⟨(own_w hw 2), (own_w hw 14)⟩)
  obtain ⟨aOBSERVE, evOBSERVE⟩ := exa_v nr17
  have E_OBSERVE := Exa.start evOBSERVE nr17
  have S_OBSERVE := Sta.start evOBSERVE (Or.inr ⟨(own_w hw 2), (own_w hw 17)⟩)
  have F_INPUT_ordinal := own_fld evINPUT nr5
  have F_PASS_ordinal := own_fld evPASS nr7
  have F_INCONCLUSIVE_ordinal := own_fld evINCONCLUSIVE nr11
  have F_NOT_TAKEN_ordinal := own_fld evNOT_TAKEN nr15
  have F_OBSERVE_ordinal := own_fld evOBSERVE nr18
  obtain ⟨n, o, h1, h2, h3, _, L, rfl, ⟨rfl, N⟩, hq⟩ := rm0 l s _ hw tables_1 i0 aINPUT aPASS aINCONCLUSIVE aNOT_TAKEN aOBSERVE s.heap s.heap.size (Nat.le_refl _) E_INPUT S_INPUT E_PASS S_PASS E_INCONCLUSIVE S_INCONCLUSIVE E_NOT_TAKEN S_NOT_TAKEN E_OBSERVE S_OBSERVE F_INPUT_ordinal F_PASS_ordinal F_INCONCLUSIVE_ordinal F_NOT_TAKEN_ordinal F_OBSERVE_ordinal (Fld.ne F_INPUT_ordinal F_PASS_ordinal (own_int_ne (by decide))) (Fld.ne F_INPUT_ordinal F_INCONCLUSIVE_ordinal (own_int_ne (by decide))) (Fld.ne F_INPUT_ordinal F_NOT_TAKEN_ordinal (own_int_ne (by decide))) (Fld.ne F_INPUT_ordinal F_OBSERVE_ordinal (own_int_ne (by decide))) (Fld.ne F_PASS_ordinal F_INCONCLUSIVE_ordinal (own_int_ne (by decide))) (Fld.ne F_PASS_ordinal F_NOT_TAKEN_ordinal (own_int_ne (by decide))) (Fld.ne F_PASS_ordinal F_OBSERVE_ordinal (own_int_ne (by decide))) (Fld.ne F_INCONCLUSIVE_ordinal F_NOT_TAKEN_ordinal (own_int_ne (by decide))) (Fld.ne F_INCONCLUSIVE_ordinal F_OBSERVE_ordinal (own_int_ne (by decide))) (Fld.ne F_NOT_TAKEN_ordinal F_OBSERVE_ordinal (own_int_ne (by decide))) p e ha hc hk s m _ below hf ((Spec.applies_iff_loose hf).mp happ).1 ⟨rfl, State.Warmed39.refl s, rfl⟩ trivial
  refine ⟨n, _, h1, h2, h3, hpost _ _ _ _ _ _ ⟨Cond.after_iff.mpr rfl, Cond.after_iff.mpr (eq_i res_at (Term.int_eval (1)) rfl), trivial⟩ ⟨hq.1, hq.2.1, (hq.2.2.sift fun y hy => Or.inr (N y hy)).mono (by decide) (by decide)⟩⟩
theorem main_1_1 : Claimed_1_1 := comes_1 fun _ _ _ _ _ _ h hF => ⟨h.1, hF⟩
theorem main_1_2 : Claimed_1_2 := comes_1 fun _ _ _ _ _ _ h hF => ⟨h.2.1, hF⟩
end Jvm.Pilot.@@N@@
namespace Jvm.Pilot.@@N@@
open Jvm Jvm.ClassFile Sem Op Lib Jvm.Free Jvm.Stand Jvm.Pilot.@@N@@.Jvm.D
/-! MADE BY PROGRAM (witnessworld.py) out of the Statement's table words and the real class files: 12 classes; the members and pool entries that the words name. The judged class is class 1, her method 1. -/
namespace start1
open Jvm.ClassFile
def u (s : String) : CpInfo := .utf8 (stringToUtf16 s)
/-- a pool by its gaps: so many unusable entries, then the entry; so many at the end -/
def gap : Nat → List CpInfo → List CpInfo
  | 0, r => r
  | n + 1, r => .unusable :: gap n r
def poolList (es : List (Nat × CpInfo)) (last : Nat) : List CpInfo := es.foldr (fun e r => gap e.1 (e.2 :: r)) (gap last [])
def pool (es : List (Nat × CpInfo)) (last : Nat) : Array CpInfo := ⟨poolList es last⟩
def fileOf (pool : Array CpInfo) (this : Nat) (attrs : Array Attribute := #[]) (ms : Array MethodInfo := #[]) (fl : Nat := 33) (sup : Nat := 0) (ifs : Array Nat := #[]) (fds : Array FieldInfo := #[]) : ClassFile where
  minorVersion := 0
  majorVersion := 65
  constantPool := pool
  accessFlags := fl
  thisClass := this
  superClass := sup
  interfaces := ifs
  fields := fds
  methods := ms
  attributes := attrs
def plain (name : String) (sup : Option ClassId) : Class where
  name := name
  kind := .ordinary
  loader := none
  accessFlags := 33
  super := sup
  interfaces := #[]
  cf := none
  fields := #[]
  methods := #[]
  instanceTypes := #[]
  staticTypes := #[]
  resolved := #[]
  callSites := []
  init := .initialized
  statics := none
  mirror := none

def pool0 : Array CpInfo := pool [(5, u "<init>"), (0, u "()V"), (1, .class_ 10), (1, u "java/lang/Object")] 113

def k0m0 : Method := { name := "<init>", desc := "()V", sig := { parameters := [], returnType := none }, accessFlags := 1, code := none }
/-- java/lang/Object -/
def k0 : Class := { plain "java/lang/Object" none with
  accessFlags := 33
  interfaces := #[]
  cf := some (fileOf pool0 8 #[] #[{ accessFlags := 1, nameIndex := 5, descriptorIndex := 6, attributes := #[] }] 33 0 #[] #[])
  fields := #[]
  methods := #[k0m0]
  instanceTypes := #[]
  staticTypes := #[]
  resolved := Array.replicate 124 none
  statics := none }

def pool1 : Array CpInfo := pool [(2, .class_ 4), (1, u "java/lang/Object"), (0, u "<init>"), (0, u "()V"), (0, .integer 2147483647), (0, .fieldref 9 10), (0, .class_ 11), (0, .nameAndType 12 13), (0, u "com/example/quiescence/quiescence/ioco/TestCase$Action"), (0, u "INPUT"), (0, u "Lcom/example/quiescence/quiescence/ioco/TestCase$Action;"), (0, .fieldref 9 15), (0, .nameAndType 16 13), (0, u "OBSERVE"), (0, .fieldref 9 18), (0, .nameAndType 19 13), (0, u "PASS"), (0, .fieldref 9 21), (0, .nameAndType 22 13), (0, u "INCONCLUSIVE"), (0, .fieldref 9 24), (0, .nameAndType 25 13), (0, u "NOT_TAKEN"), (0, .methodref 9 27), (0, .nameAndType 28 29), (0, u "ends"), (0, u "()Z"), (0, .class_ 31), (0, u "com/example/quiescence/quiescence/ioco/TestCaseEndsPinLaw"), (2, u "law"), (0, u "(I)Z")] 7

def k1m0 : Method := { name := "<init>", desc := "()V", sig := { parameters := [], returnType := none }, accessFlags := 2, code := none }
def k1c1 : Code := { maxStack := 2, maxLocals := 4, code := code, exceptionTable := #[], attributes := #[] }
def k1m1 : Method := { name := "law", desc := "(I)Z", sig := { parameters := [.int], returnType := some .boolean }, accessFlags := 9, code := some k1c1 }
/-- com/example/quiescence/quiescence/ioco/TestCaseEndsPinLaw -/
def k1 : Class := { plain "com/example/quiescence/quiescence/ioco/TestCaseEndsPinLaw" (some 0) with
  accessFlags := 49
  interfaces := #[]
  cf := some (fileOf pool1 30 #[] #[{ accessFlags := 2, nameIndex := 5, descriptorIndex := 6, attributes := #[] }, { accessFlags := 9, nameIndex := 34, descriptorIndex := 35, attributes := #[] }] 49 2 #[] #[])
  fields := #[]
  methods := #[k1m0, k1m1]
  instanceTypes := #[]
  staticTypes := #[]
  resolved := Array.replicate 43 none
  statics := none }

def pool2 : Array CpInfo := pool [(1, .class_ 2), (0, u "java/lang/constant/Constable"), (0, .class_ 4), (0, u "java/lang/Object")] 6

/-- java/lang/constant/Constable -/
def k2 : Class := { plain "java/lang/constant/Constable" (some 0) with
  accessFlags := 1537
  interfaces := #[]
  cf := some (fileOf pool2 1 #[] #[] 1537 3 #[] #[])
  fields := #[]
  methods := #[]
  instanceTypes := #[]
  staticTypes := #[]
  resolved := Array.replicate 11 none
  statics := none }

def pool3 : Array CpInfo := pool [(1, .class_ 2), (0, u "java/lang/Comparable"), (0, .class_ 4), (0, u "java/lang/Object")] 7

/-- java/lang/Comparable -/
def k3 : Class := { plain "java/lang/Comparable" (some 0) with
  accessFlags := 1537
  interfaces := #[]
  cf := some (fileOf pool3 1 #[] #[] 1537 3 #[] #[])
  fields := #[]
  methods := #[]
  instanceTypes := #[]
  staticTypes := #[]
  resolved := Array.replicate 12 none
  statics := none }

def pool4 : Array CpInfo := pool [(1, .class_ 2), (0, u "java/io/Serializable"), (0, .class_ 4), (0, u "java/lang/Object")] 2

/-- java/io/Serializable -/
def k4 : Class := { plain "java/io/Serializable" (some 0) with
  accessFlags := 1537
  interfaces := #[]
  cf := some (fileOf pool4 1 #[] #[] 1537 3 #[] #[])
  fields := #[]
  methods := #[]
  instanceTypes := #[]
  staticTypes := #[]
  resolved := Array.replicate 7 none
  statics := none }

def pool5 : Array CpInfo := pool [(2, .class_ 4), (1, u "java/lang/Enum"), (0, u "name"), (0, u "Ljava/lang/String;"), (2, u "ordinal"), (0, u "I"), (1, .class_ 14), (1, u "java/lang/Object"), (4, u "hash"), (86, .class_ 108), (1, u "java/lang/Enum$EnumDesc"), (2, .class_ 112), (0, u "java/lang/constant/Constable"), (0, .class_ 114), (0, u "java/lang/Comparable"), (0, .class_ 116), (0, u "java/io/Serializable")] 87

/-- java/lang/Enum -/
def k5 : Class := { plain "java/lang/Enum" (some 0) with
  accessFlags := 1057
  interfaces := #[2, 3, 4]
  cf := some (fileOf pool5 2 #[.nestMembers #[106]] #[] 1057 12 #[111, 113, 115] #[{ accessFlags := 18, nameIndex := 5, descriptorIndex := 6, attributes := #[] }, { accessFlags := 18, nameIndex := 9, descriptorIndex := 10, attributes := #[] }, { accessFlags := 2, nameIndex := 19, descriptorIndex := 10, attributes := #[] }])
  fields := #[{ name := "name", type := (.object "java/lang/String"), accessFlags := 18, slot := 0, constantValue := 0 }, { name := "ordinal", type := .int, accessFlags := 18, slot := 1, constantValue := 0 }, { name := "hash", type := .int, accessFlags := 2, slot := 2, constantValue := 0 }]
  methods := #[]
  instanceTypes := #[(.object "java/lang/String"), .int, .int]
  staticTypes := #[]
  resolved := Array.replicate 204 none
  statics := none }

def pool6 : Array CpInfo := pool [(1, .class_ 2), (0, u "com/example/quiescence/quiescence/ioco/TestCase$Action"), (2, u "INPUT"), (0, u "Lcom/example/quiescence/quiescence/ioco/TestCase$Action;"), (2, u "OBSERVE"), (0, .fieldref 1 11), (0, .nameAndType 12 6), (0, u "PASS"), (0, .fieldref 1 14), (0, .nameAndType 15 6), (0, u "INCONCLUSIVE"), (0, .fieldref 1 17), (0, .nameAndType 18 6), (0, u "NOT_TAKEN"), (2, u "$VALUES"), (0, u "[Lcom/example/quiescence/quiescence/ioco/TestCase$Action;"), (6, .class_ 31), (1, u "java/lang/Enum"), (23, u "ends"), (0, u "()Z"), (6, .class_ 64), (0, u "com/example/quiescence/quiescence/ioco/TestCase")] 2

def k6c0 : Code := { maxStack := 2, maxLocals := 1, code := prog_39_method_4_code, exceptionTable := #[], attributes := #[] }
def k6m0 : Method := { name := "ends", desc := "()Z", sig := { parameters := [], returnType := some .boolean }, accessFlags := 1, code := some k6c0 }
/-- com/example/quiescence/quiescence/ioco/TestCase$Action -/
def k6 : Class := { plain "com/example/quiescence/quiescence/ioco/TestCase$Action" (some 5) with
  accessFlags := 16433
  interfaces := #[]
  cf := some (fileOf pool6 1 #[.nestHost 63] #[{ accessFlags := 1, nameIndex := 55, descriptorIndex := 56, attributes := #[] }] 16433 29 #[] #[{ accessFlags := 16409, nameIndex := 5, descriptorIndex := 6, attributes := #[] }, { accessFlags := 16409, nameIndex := 9, descriptorIndex := 6, attributes := #[] }, { accessFlags := 16409, nameIndex := 12, descriptorIndex := 6, attributes := #[] }, { accessFlags := 16409, nameIndex := 15, descriptorIndex := 6, attributes := #[] }, { accessFlags := 16409, nameIndex := 18, descriptorIndex := 6, attributes := #[] }, { accessFlags := 4122, nameIndex := 21, descriptorIndex := 22, attributes := #[] }])
  fields := #[{ name := "INPUT", type := (.object "com/example/quiescence/quiescence/ioco/TestCase$Action"), accessFlags := 16409, slot := 0, constantValue := 0 }, { name := "OBSERVE", type := (.object "com/example/quiescence/quiescence/ioco/TestCase$Action"), accessFlags := 16409, slot := 1, constantValue := 0 }, { name := "PASS", type := (.object "com/example/quiescence/quiescence/ioco/TestCase$Action"), accessFlags := 16409, slot := 2, constantValue := 0 }, { name := "INCONCLUSIVE", type := (.object "com/example/quiescence/quiescence/ioco/TestCase$Action"), accessFlags := 16409, slot := 3, constantValue := 0 }, { name := "NOT_TAKEN", type := (.object "com/example/quiescence/quiescence/ioco/TestCase$Action"), accessFlags := 16409, slot := 4, constantValue := 0 }, { name := "$VALUES", type := (.array (.object "com/example/quiescence/quiescence/ioco/TestCase$Action")), accessFlags := 4122, slot := 5, constantValue := 0 }]
  methods := #[k6m0]
  instanceTypes := #[(.object "java/lang/String"), .int, .int]
  staticTypes := #[(.object "com/example/quiescence/quiescence/ioco/TestCase$Action"), (.object "com/example/quiescence/quiescence/ioco/TestCase$Action"), (.object "com/example/quiescence/quiescence/ioco/TestCase$Action"), (.object "com/example/quiescence/quiescence/ioco/TestCase$Action"), (.object "com/example/quiescence/quiescence/ioco/TestCase$Action"), (.array (.object "com/example/quiescence/quiescence/ioco/TestCase$Action"))]
  resolved := Array.replicate 67 none
  statics := some 0 }

def pool7 : Array CpInfo := pool [(1, u "java/lang/Cloneable"), (0, .class_ 1), (0, u "java/lang/Object"), (0, .class_ 3)] 3

/-- java/lang/Cloneable -/
def k7 : Class := { plain "java/lang/Cloneable" (some 0) with
  accessFlags := 1537
  interfaces := #[]
  cf := some (fileOf pool7 2 #[] #[] 1537 4 #[] #[])
  fields := #[]
  methods := #[]
  instanceTypes := #[]
  staticTypes := #[]
  resolved := Array.replicate 8 none
  statics := none }

/-- the primitive byte -/
def k8 : Class := { plain "byte" none with kind := .primitive 'B', accessFlags := 0x411 }
/-- [B -/
def k9 : Class := { plain "[B" (some 0) with kind := .array 8 .byte, interfaces := #[7, 4], accessFlags := 1041 }

/-- the primitive int -/
def k10 : Class := { plain "int" none with kind := .primitive 'I', accessFlags := 0x411 }
/-- [I -/
def k11 : Class := { plain "[I" (some 0) with kind := .array 10 .int, interfaces := #[7, 4], accessFlags := 1041 }

def heap : Heap := #[{ cls := 6, slots := #[.ref 1, .ref 5, .ref 2, .ref 3, .ref 4, .null], vm := .statics 6 },
  { cls := 6, slots := #[.null, .int 0, .int 0], vm := .none },
  { cls := 6, slots := #[.null, .int 2, .int 0], vm := .none },
  { cls := 6, slots := #[.null, .int 3, .int 0], vm := .none },
  { cls := 6, slots := #[.null, .int 4, .int 0], vm := .none },
  { cls := 6, slots := #[.null, .int 1, .int 0], vm := .none }]
def classes : Array Class := #[k0, k1, k2, k3, k4, k5, k6, k7, k8, k9, k10, k11]
def interned : List (Array UInt16 × Addr) := []
def slotsUsed : Nat := 21
def theMethod : MethodId := ⟨1, 1⟩
def args0 : Array Value := #[.int 5]
def aboutOver (below : List Frame) : State where
  vm := { classes := classes, interned := interned.toArray }
  heap := heap
  slotsUsed := slotsUsed
  threads := #[{ frames := .invoking theMethod args0 :: below }]
def below0 : List Frame := [.native { method := ⟨0, 0⟩, args := #[] }]
def about1 : State := aboutOver below0
def p0 : Program := .bare "" "" ""
def e0 : Env := launch0.env 0 0 0
theorem w_frames : about1.frames = Frame.invoking theMethod args0 :: below0 := rfl
set_option maxRecDepth 65536 in
theorem w_args : argsFit about1.vm theMethod args0 = true := by decide +kernel
set_option maxRecDepth 65536 in
theorem w_heap : heapFits about1 = true := by decide +kernel
set_option maxRecDepth 65536 in
theorem w_runnable : about1.curStatus? = some .runnable := by decide +kernel
set_option maxRecDepth 65536 in
theorem w_alone : about1.alone = true := by decide +kernel
set_option maxRecDepth 65536 in
theorem w_named : about1.methodNamed? x = some theMethod := by decide +kernel
set_option maxRecDepth 65536 in
theorem w_hears : about1.hears theMethod below0 = true := by decide +kernel
set_option maxRecDepth 65536 in
theorem w_ripe : about1.ripe theMethod args0 below0 = true := by decide +kernel
theorem w_running : about1.status = .running := rfl
set_option maxRecDepth 65536 in
theorem w_room : about1.hasRoom e0.platform room_1 = true :=
  launch0.hasRoom_least _ room_1 (by decide +kernel) (by decide +kernel) (by decide +kernel) (by decide +kernel) (by decide +kernel) (by decide +kernel)
theorem allAtoms_all (ts : List Jvm.Cond) (a : Array Jvm.Value) (st : Jvm.State) : (allAtoms ts).before a st = ts.all (fun c => c.before a st) := by
  induction ts with
  | nil => rfl
  | cons c t ih =>
    show (Jvm.Cond.and c (allAtoms t)).before a st = _
    rw [Jvm.Cond.before_and, ih, List.all_cons]
def words1 : List Jvm.Cond := Jvm.Cond.code x code maxLocals ret :: tables_1
/-- a 'code' word, met by the world's own term for the bytes: nothing is compared byte by byte -/
theorem code_word {y : MethodName} {bytes : ByteArray} {mx : Nat} {rt : Option FieldType} {a : Array Value} {s : State} {m : MethodId} {meth : Method} {c : Code} (h1 : s.methodNamed? y = some m) (h2 : s.vm.method? m = some meth) (h3 : meth.code = some c) (h4 : c.code = bytes)
    (h5 : (c.maxLocals == mx && c.exceptionTable.isEmpty && decide (c.maxStack ≤ mostOperands) && decide (meth.sig.returnType = rt) && !meth.locks && decide (parseMethodDescriptor y.desc = some meth.sig)) = true) : (Jvm.Cond.code y bytes mx rt).before a s = true := by
  simp only [Bool.and_eq_true, beq_iff_eq, Bool.not_eq_true', decide_eq_true_eq] at h5
  obtain ⟨⟨⟨⟨⟨g1, g2⟩, g3⟩, g4⟩, g5⟩, g6⟩ := h5
  simp [Cond.before, Cond.holds, Cond.value, h1, h2, h3, h4, g1, g2, g3, g4, g5, g6]
def isCode : Jvm.Cond → Bool
  | .code _ _ _ _ => true
  | _ => false
theorem all_split {L : List Jvm.Cond} {P : Jvm.Cond → Bool} (h1 : L.all (fun c => isCode c || P c) = true) (h2 : ∀ c ∈ L.filter isCode, P c = true) : L.all P = true := by
  refine List.all_eq_true.mpr fun c hc => ?_
  have h := List.all_eq_true.mp h1 c hc
  rcases Bool.eq_false_or_eq_true (isCode c) with hi | hi
  · exact h2 c (List.mem_filter.mpr ⟨hc, hi⟩)
  · simpa [hi] using h
set_option maxRecDepth 65536 in
theorem w_c0 : (Jvm.Cond.code x code maxLocals ret).before args0 about1 = true := code_word (m := ⟨1, 1⟩) (meth := k1m1) (c := k1c1) (by decide +kernel) rfl rfl rfl (by decide +kernel)
set_option maxRecDepth 65536 in
theorem w_c1 : (Jvm.Cond.code ({ cls := "com/example/quiescence/quiescence/ioco/TestCase$Action", name := "ends", desc := "()Z" } : Jvm.MethodName) prog_39_method_4_code (1 : Nat) (Option.some Jvm.ClassFile.FieldType.boolean)).before args0 about1 = true := code_word (m := ⟨6, 0⟩) (meth := k6m0) (c := k6c0) (by decide +kernel) rfl rfl rfl (by decide +kernel)
def codes1 : List Jvm.Cond := [Jvm.Cond.code x code maxLocals ret, Jvm.Cond.code ({ cls := "com/example/quiescence/quiescence/ioco/TestCase$Action", name := "ends", desc := "()Z" } : Jvm.MethodName) prog_39_method_4_code (1 : Nat) (Option.some Jvm.ClassFile.FieldType.boolean)]
set_option maxRecDepth 65536 in
theorem codes_eq : words1.filter isCode = codes1 := rfl
theorem w_codes : ∀ c ∈ words1.filter isCode, c.before args0 about1 = true := by
  rw [codes_eq]
  intro c hc
  simp only [codes1, List.mem_cons, List.not_mem_nil, or_false] at hc
  rcases hc with rfl | rfl
  · exact w_c0
  · exact w_c1
set_option maxRecDepth 65536 in
theorem w_t1 : words1.all (fun c => isCode c || c.before args0 about1) = true := by decide +kernel
theorem w_tables : (allAtoms (Jvm.Cond.code x code maxLocals ret :: tables_1)).before args0 about1 = true := by
  rw [allAtoms_all]
  show words1.all (fun c => c.before args0 about1) = true
  refine all_split ?_ w_codes
  rw [w_t1]
set_option maxRecDepth 65536 in
theorem w_case : (Jvm.Cond.and given_1 narrow_1).before args0 about1 = true := by decide +kernel
theorem w_applies : (headSpec (Jvm.Cond.code x code maxLocals ret :: tables_1) room_1).applies x e0.platform about1 = true :=
  (Spec.applies_iff w_frames).mpr ⟨w_running, w_runnable, w_alone, w_named, w_hears, w_ripe, w_room, w_tables⟩
theorem atStart : AtStart classFile x code maxLocals ret World_1 tables_1 room_1 Calls_1 rest_1 Pre_1 launch0 p0 e0 about1 theMethod args0 below0 :=
  ⟨lists_1, trivial, launch0.admits_env _ _ _, launch0.least_env, fairChoices_fair.cas, fairChoices_fair.clock, w_frames, w_args, w_heap, w_applies, trivial, trivial, w_case⟩
end start1
theorem witness_1 : WitnessClaimed_1 := ⟨start1.p0, start1.e0, start1.about1, start1.theMethod, start1.args0, start1.below0, start1.atStart⟩
end Jvm.Pilot.@@N@@
