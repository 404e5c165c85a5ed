import JvmDerived
import JvmDerived.Pilot.@@N@@Statement
import JvmDerived.Pilot.@@N@@Code
set_option linter.unusedVariables false
set_option linter.unusedSimpArgs false
namespace Jvm.RoadKit
open Sem ClassFile Op Lib Jvm.Stand Jvm.Free Jvm.LawKit
section New
variable {p : Program} {l : Launch} {e : Env} {R : Room} {s : State} {m : MethodId} {args : Array Value} {below : List Frame} {meth : Method} {c : Code} {T : State} {locs : List Loc} {cells slots : Nat}
theorem retI (X : Stand p l e R s m args below meth c T locs cells slots) (hx : p.tables.exec = Jvm.exec) {pc : Nat} {Ls : Array Slot} {z : Int32} {rest : List Value} (hret : meth.sig.returnType = some .int) (hd : decode c.code pc = .ok (.ireturn, 1)) {fs : List Frame}
    (hl : ∀ (f : JFrame) (acts : List Action), f.method = m → f.locked = none → f.entered = [] → (doReturn e (T.setTop f) acts (some (.int z))).1 = T.setFrames fs) : Steps p.tables e below (T.setTop (mkF m pc Ls (.int z :: rest))) (T.setFrames fs) := by
  have hm' : T.vm.method? m = some meth := X.method'
  have hn : narrow .int (.int z) = .int z := rfl
  show Steps p.tables e below (T.setTop { method := m, pc := pc, locals := Ls, stack := _ :: rest, locked := none }) _
  jvm_step X.here [X.here.top, hx, hd, hm', hret, hn]
  first | (intro acts; rw [hl _ acts rfl rfl rfl]) | rw [hl _ _ rfl rfl rfl]
  exact Steps.refl _
end New
end Jvm.RoadKit
namespace Jvm.Pilot.@@N@@
open Jvm Jvm.ClassFile Sem Op Lib Jvm.Free Jvm.Stand Jvm.LawKit Jvm.RoadKit Bundle Jvm.Pilot.@@N@@.Jvm.D
theorem own_w {a0 : Array Value} {Z : State} (hw : ∀ d ∈ tables_1, d.before a0 Z = true) (k : Nat) {d : Jvm.Cond} (h : tables_1[k]? = some d := by rfl) : d.before a0 Z = true := hw _ (List.mem_of_getElem? h)
abbrev oI (x : Int32) : Slot := .val (.int x)
abbrev oR (a : Addr) : Slot := .val (.ref a)
abbrev oJ (x : Int64) : Slot := .val (.long x)
abbrev oD (x : UInt64) : Slot := .val (.double x)
/-- from the state A the run comes to an end of which Q holds -/
def own_Go (p : Program) (e : Env) (below : List Frame) (Q : Outcome → State → Prop) (A : State) : Prop := ∃ s₂ o, Steps p.tables e below A s₂ ∧ s₂.status = .running ∧ Ended s₂ below o ∧ Q o s₂
theorem own_via {p : Program} {e : Env} {below : List Frame} {Q : Outcome → State → Prop} {A B : State} (h : ∀ t, Steps p.tables e below B t → Steps p.tables e below A t) (g : own_Go p e below Q B) : own_Go p e below Q A := by
  obtain ⟨s₂, o, h1, h2⟩ := g
  exact ⟨s₂, o, h _ h1, h2⟩
theorem own_tr {p : Program} {e : Env} {below : List Frame} {Q : Outcome → State → Prop} {A B : State} (h : Steps p.tables e below A B) (g : own_Go p e below Q B) : own_Go p e below Q A := by
  obtain ⟨s₂, o, h1, h2⟩ := g
  exact ⟨s₂, o, h.trans h1, h2⟩
/-- from the state A the run comes to a state B of which Φ holds -/
def own_Pc (p : Program) (e : Env) (below : List Frame) (Φ : State → Prop) (A : State) : Prop := ∃ B, (∀ t, Steps p.tables e below B t → Steps p.tables e below A t) ∧ Φ B
theorem own_pvia {p : Program} {e : Env} {below : List Frame} {Φ : State → Prop} {A B : State} (h : ∀ t, Steps p.tables e below B t → Steps p.tables e below A t) (g : own_Pc p e below Φ B) : own_Pc p e below Φ A := by
  obtain ⟨B', h1, h2⟩ := g
  exact ⟨B', fun t k => h t (h1 t k), h2⟩
theorem own_ptr {p : Program} {e : Env} {below : List Frame} {Φ : State → Prop} {A B : State} (h : Steps p.tables e below A B) (g : own_Pc p e below Φ B) : own_Pc p e below Φ A := own_pvia (fun t k => h.trans k) g
theorem own_start {p : Program} {e : Env} {below : List Frame} {Q : Outcome → State → Prop} {A : State} (h : own_Go p e below Q A) : ∃ s₂ o, Steps p.tables e below A s₂ ∧ s₂.status = .running ∧ Ended s₂ below o ∧ Q o s₂ := h
theorem own_fld {args : Array Value} {s : State} {C f dd O n d : String} {k : Int32} {a : Addr} (ev : (Term.static C f dd).eval args s none [] s = some (.ref a)) (h : (Jvm.Cond.eq (Term.field (Term.static C f dd) O n d) (Term.int k)).value args s none s [] = some true) : Fld s s.heap a O n d (.int k) := by
  have e1 : (Term.field (Term.static C f dd) O n d).eval args s none [] s = s.fieldOf? a O n d := fld_at ev
  have e2 : (Term.int k).eval args s none [] s = some (.int k) := rfl
  refine Fld.start ?_
  cases q : s.fieldOf? a O n d with
  | none => simp [Cond.value, e1, q] at h
  | some v => cases v <;> simp [Cond.value, e1, e2, q] at h ⊢; exact h
theorem own_int_ne {x y : Int32} (h : x ≠ y) : (Value.int x) ≠ .int y := fun q => h (Value.int.inj q)
def f1 (this : Addr) (aPREDICATE : Addr) (aIMPACT : Addr) : Int32 := (if this = aPREDICATE then (1 : Int32) else (if this = aIMPACT then (1 : Int32) else (0 : Int32)))
theorem d1_0 : decode prog_1_method_7_code 0 = .ok (.aload_n 0, 1) := by decide +kernel
theorem d1_1 : decode prog_1_method_7_code 1 = .ok (.getstatic 10, 3) := by decide +kernel
theorem d1_4 : decode prog_1_method_7_code 4 = .ok (.if_acmp .eq 10, 3) := by decide +kernel
theorem d1_7 : decode prog_1_method_7_code 7 = .ok (.aload_n 0, 1) := by decide +kernel
theorem d1_8 : decode prog_1_method_7_code 8 = .ok (.getstatic 13, 3) := by decide +kernel
theorem d1_11 : decode prog_1_method_7_code 11 = .ok (.if_acmp .ne 7, 3) := by decide +kernel
theorem d1_14 : decode prog_1_method_7_code 14 = .ok (.iconst 1, 1) := by decide +kernel
theorem d1_15 : decode prog_1_method_7_code 15 = .ok (.goto 4, 3) := by decide +kernel
theorem d1_18 : decode prog_1_method_7_code 18 = .ok (.iconst 0, 1) := by decide +kernel
theorem d1_19 : decode prog_1_method_7_code 19 = .ok (.ireturn, 1) := by decide +kernel
theorem pn_1 : plainName "com/example/ashlar/ashlar/Algorithm" = true := by first | (simp [plainName, overriddenIn]; done) | decide +kernel
theorem ef_rm1 (m : MethodId) (q0 : Addr) : entryFrame m #[(.ref q0)] 1 = mkF m 0 #[oR q0] [] := by first | (simp [entryFrame, mkF, argsToLocals, Value.category]; done) | rfl
def Q1 (Z : State) (this : Addr) (aPREDICATE : Addr) (aIMPACT : Addr) (r : Int32) (h0 : Heap) (n0 : Nat) (v : Option Value) (h : Heap) (L : List Loc) : Prop := v = some (.int r) ∧ Fr n0 L ∧ h = h0
set_option maxRecDepth 65536 in
set_option maxHeartbeats 40000000 in
theorem rm1 (l : Launch) (Z : State) (a0 : Array Value) (hw : ∀ d ∈ tables_1, d.before a0 Z = true) (ws : List Jvm.Cond) (this : Addr) (aPREDICATE : Addr) (aIMPACT : Addr) (r : Int32) (h0 : Heap) (n0 : Nat) (Z0 : n0 ≤ h0.size) (S_aPREDICATE : Sta Z h0 "com/example/ashlar/ashlar/Algorithm" "PREDICATE" "Lcom/example/ashlar/ashlar/Algorithm;" (.ref aPREDICATE)) (S_aIMPACT : Sta Z h0 "com/example/ashlar/ashlar/Algorithm" "IMPACT" "Lcom/example/ashlar/ashlar/Algorithm;" (.ref aIMPACT)) (hr0 : (f1 this aPREDICATE aIMPACT) = r) :
    MetFree l (⟨"com/example/ashlar/ashlar/Algorithm", "takesBlocks", "()Z"⟩ : MethodName) (head1 (Jvm.Cond.code (⟨"com/example/ashlar/ashlar/Algorithm", "takesBlocks", "()Z"⟩ : MethodName) prog_1_method_7_code 1 (some .boolean) :: ws) ({ frames := 0, cells := 0, slots := 0, locals := 0 } : Room)) (fun a U => a = #[(.ref this)] ∧ Z.Warmed39 U.vm ∧ U.heap = h0) (fun _ _ _ _ _ => True) (fun _ U o U' => ∃ v L, o = .returned v ∧ Q1 Z this aPREDICATE aIMPACT r h0 n0 v U'.heap L ∧ FrameEnd U o U' L ({ frames := 0, cells := 0, slots := 0, locals := 0 } : Room).cells ({ frames := 0, cells := 0, slots := 0, locals := 0 } : Room).slots) := by
  refine MetFree.of_bodySF (plainFor_of_name pn_1) hisR ?_
  intro p e s m args below meth c s₁ Bd hml0 hP hK
  obtain ⟨rfl, hZ, hh⟩ := hP
  have hx := Bd.exec
  have hby := Bd.bytes
  have hml : c.maxLocals = 1 := hml0
  have hown : s.vm.findClass "com/example/ashlar/ashlar/Algorithm" = some m.cls := findClass_of_methodNamed Bd.named
  have hnm := (name_of_methodNamed Bd.named Bd.method).1
  have X0 : Stand p l e ({ frames := 0, cells := 0, slots := 0, locals := 0 } : Room) s m #[(.ref this)] below meth c s₁ [] 0 0 := Stand.of_body Bd
  have e0 : s₁.heap = h0 := by rw [← hh, Bd.state]; rfl
  have N0 := Fr.nil n0
  refine own_start ?_
  refine own_via (fun t k => castTop (ef_rm1 m this) k) ?_
  show own_Go p e below _ (s₁.setTop (mkF m 0 #[oR this] []))
  refine own_via (fun t kz => XS.aloadN X0.here hx rfl (hb hby d1_0) rfl rfl kz) ?_
  show own_Go p e below _ (s₁.setTop (mkF m 1 #[oR this] [(.ref this)]))
  obtain ⟨T1, X1, e1, st1⟩ := getS2 X0 hx hZ hown (host := "") (Or.inl (own_w hw 9)) Via.refl e0 S_aPREDICATE (g := (mkF m 1 #[oR this] [(.ref this)])) rfl (hb hby d1_1)
  refine own_via st1 ?_
  show own_Go p e below _ (T1.setTop (mkF m 4 #[oR this] [(.ref aPREDICATE), (.ref this)]))
  by_cases hc4_2 : this = aPREDICATE
  · refine own_via (fun t kz => Jvm.RoadKit.acmp (g := (mkF m 4 #[oR this] [(.ref aPREDICATE), (.ref this)])) X1 hx rfl rfl rfl (pc0 := 4) (pc' := 14) (same := true) rfl (hb hby d1_4) rfl (decide_eq_true (congrArg Value.ref hc4_2)) (by decide) (by decide) kz) ?_
    show own_Go p e below _ (T1.setTop (mkF m 14 #[oR this] []))
    refine own_via (fun t kz => XS.iconst X1.here hx rfl (hb hby d1_14) kz) ?_
    show own_Go p e below _ (T1.setTop (mkF m 15 #[oR this] [(.int (1 : Int32))]))
    refine own_via (fun t kz => XS.goto X1.here hx rfl (pc0 := 15) (pc' := 19) rfl (hb hby d1_15) (by decide) (by decide) kz) ?_
    show own_Go p e below _ (T1.setTop (mkF m 19 #[oR this] [(.int (1 : Int32))]))
    have hv : (f1 this aPREDICATE aIMPACT) = (1 : Int32) := by unfold f1; rw [if_pos hc4_2]
    obtain ⟨fs, hr, hrun, hended, hW, hsame⟩ := X1.leave (v := some (.int (1 : Int32))) (fun h => by rw [Bd.returns] at h; cases h)
    refine ⟨_, _, retN X1 hx (t := .boolean) Bd.returns (by simp) (hb hby d1_19) hr, hrun, hended, _, _, rfl, ?_, ⟨_, rfl⟩, hW, hsame.mono (by decide) (by decide)⟩
    show Q1 Z this aPREDICATE aIMPACT r h0 n0 _ T1.heap _
    rw [e1]
    exact ⟨by rw [← hr0, hv], N0, rfl⟩
  · refine own_via (fun t kz => Jvm.RoadKit.acmp (g := (mkF m 4 #[oR this] [(.ref aPREDICATE), (.ref this)])) X1 hx rfl rfl rfl (pc0 := 4) (pc' := 7) (same := false) rfl (hb hby d1_4) rfl (decide_eq_false fun q => hc4_2 (Value.ref.inj q)) (by decide) (by decide) kz) ?_
    show own_Go p e below _ (T1.setTop (mkF m 7 #[oR this] []))
    refine own_via (fun t kz => XS.aloadN X1.here hx rfl (hb hby d1_7) rfl rfl kz) ?_
    show own_Go p e below _ (T1.setTop (mkF m 8 #[oR this] [(.ref this)]))
    obtain ⟨T4, X4, e4, st4⟩ := getS2 X1 hx hZ hown (host := "") (Or.inl (own_w hw 11)) Via.refl e1 S_aIMPACT (g := (mkF m 8 #[oR this] [(.ref this)])) rfl (hb hby d1_8)
    refine own_via st4 ?_
    show own_Go p e below _ (T4.setTop (mkF m 11 #[oR this] [(.ref aIMPACT), (.ref this)]))
    by_cases hc11_5 : this = aIMPACT
    · refine own_via (fun t kz => Jvm.RoadKit.acmp (g := (mkF m 11 #[oR this] [(.ref aIMPACT), (.ref this)])) X4 hx rfl rfl rfl (pc0 := 11) (pc' := 14) (same := true) rfl (hb hby d1_11) rfl (decide_eq_true (congrArg Value.ref hc11_5)) (by decide) (by decide) kz) ?_
      show own_Go p e below _ (T4.setTop (mkF m 14 #[oR this] []))
      refine own_via (fun t kz => XS.iconst X4.here hx rfl (hb hby d1_14) kz) ?_
      show own_Go p e below _ (T4.setTop (mkF m 15 #[oR this] [(.int (1 : Int32))]))
      refine own_via (fun t kz => XS.goto X4.here hx rfl (pc0 := 15) (pc' := 19) rfl (hb hby d1_15) (by decide) (by decide) kz) ?_
      show own_Go p e below _ (T4.setTop (mkF m 19 #[oR this] [(.int (1 : Int32))]))
      have hv : (f1 this aPREDICATE aIMPACT) = (1 : Int32) := by unfold f1; rw [if_neg hc4_2, if_pos hc11_5]
      obtain ⟨fs, hr, hrun, hended, hW, hsame⟩ := X4.leave (v := some (.int (1 : Int32))) (fun h => by rw [Bd.returns] at h; cases h)
      refine ⟨_, _, retN X4 hx (t := .boolean) Bd.returns (by simp) (hb hby d1_19) hr, hrun, hended, _, _, rfl, ?_, ⟨_, rfl⟩, hW, hsame.mono (by decide) (by decide)⟩
      show Q1 Z this aPREDICATE aIMPACT r h0 n0 _ T4.heap _
      rw [e4]
      exact ⟨by rw [← hr0, hv], N0, rfl⟩
    · refine own_via (fun t kz => Jvm.RoadKit.acmp (g := (mkF m 11 #[oR this] [(.ref aIMPACT), (.ref this)])) X4 hx rfl rfl rfl (pc0 := 11) (pc' := 18) (same := false) rfl (hb hby d1_11) rfl (decide_eq_false fun q => hc11_5 (Value.ref.inj q)) (by decide) (by decide) kz) ?_
      show own_Go p e below _ (T4.setTop (mkF m 18 #[oR this] []))
      refine own_via (fun t kz => XS.iconst X4.here hx rfl (hb hby d1_18) kz) ?_
      show own_Go p e below _ (T4.setTop (mkF m 19 #[oR this] [(.int (0 : Int32))]))
      have hv : (f1 this aPREDICATE aIMPACT) = (0 : Int32) := by unfold f1; rw [if_neg hc4_2, if_neg hc11_5]
      obtain ⟨fs, hr, hrun, hended, hW, hsame⟩ := X4.leave (v := some (.int (0 : Int32))) (fun h => by rw [Bd.returns] at h; cases h)
      refine ⟨_, _, retN X4 hx (t := .boolean) Bd.returns (by simp) (hb hby d1_19) hr, hrun, hended, _, _, rfl, ?_, ⟨_, rfl⟩, hW, hsame.mono (by decide) (by decide)⟩
      show Q1 Z this aPREDICATE aIMPACT r h0 n0 _ T4.heap _
      rw [e4]
      exact ⟨by rw [← hr0, hv], N0, rfl⟩
def f2 (w : Int32) : Int32 := w
theorem d2_0 : decode prog_1_method_6_code 0 = .ok (.aload_n 0, 1) := by decide +kernel
theorem d2_1 : decode prog_1_method_6_code 1 = .ok (.getfield 42, 3) := by decide +kernel
theorem d2_4 : decode prog_1_method_6_code 4 = .ok (.ireturn, 1) := by decide +kernel
theorem ef_rm2 (m : MethodId) (q0 : Addr) : entryFrame m #[(.ref q0)] 1 = mkF m 0 #[oR q0] [] := by first | (simp [entryFrame, mkF, argsToLocals, Value.category]; done) | rfl
def Q2 (Z : State) (this : Addr) (w : Int32) (r : Int32) (h0 : Heap) (n0 : Nat) (v : Option Value) (h : Heap) (L : List Loc) : Prop := v = some (.int r) ∧ Fr n0 L ∧ h = h0
set_option maxRecDepth 65536 in
set_option maxHeartbeats 40000000 in
theorem rm2 (l : Launch) (Z : State) (a0 : Array Value) (hw : ∀ d ∈ tables_1, d.before a0 Z = true) (ws : List Jvm.Cond) (this : Addr) (w : Int32) (r : Int32) (h0 : Heap) (n0 : Nat) (Z0 : n0 ≤ h0.size) (hnw : narrow .boolean (.int w) = .int w) (F_w : Fld Z h0 this "com/example/ashlar/ashlar/Algorithm" "bounded" "Z" (.int w)) (hr0 : (f2 w) = r) :
    MetFree l (⟨"com/example/ashlar/ashlar/Algorithm", "bounded", "()Z"⟩ : MethodName) (head1 (Jvm.Cond.code (⟨"com/example/ashlar/ashlar/Algorithm", "bounded", "()Z"⟩ : MethodName) prog_1_method_6_code 1 (some .boolean) :: ws) ({ frames := 0, cells := 0, slots := 0, locals := 0 } : Room)) (fun a U => a = #[(.ref this)] ∧ Z.Warmed39 U.vm ∧ U.heap = h0) (fun _ _ _ _ _ => True) (fun _ U o U' => ∃ v L, o = .returned v ∧ Q2 Z this w r h0 n0 v U'.heap L ∧ FrameEnd U o U' L ({ frames := 0, cells := 0, slots := 0, locals := 0 } : Room).cells ({ frames := 0, cells := 0, slots := 0, locals := 0 } : Room).slots) := by
  refine MetFree.of_bodySF (plainFor_of_name pn_1) hisR ?_
  intro p e s m args below meth c s₁ Bd hml0 hP hK
  obtain ⟨rfl, hZ, hh⟩ := hP
  have hx := Bd.exec
  have hby := Bd.bytes
  have hml : c.maxLocals = 1 := hml0
  have hown : s.vm.findClass "com/example/ashlar/ashlar/Algorithm" = some m.cls := findClass_of_methodNamed Bd.named
  have hnm := (name_of_methodNamed Bd.named Bd.method).1
  have X0 : Stand p l e ({ frames := 0, cells := 0, slots := 0, locals := 0 } : Room) s m #[(.ref this)] below meth c s₁ [] 0 0 := Stand.of_body Bd
  have e0 : s₁.heap = h0 := by rw [← hh, Bd.state]; rfl
  have N0 := Fr.nil n0
  refine own_start ?_
  refine own_via (fun t k => castTop (ef_rm2 m this) k) ?_
  show own_Go p e below _ (s₁.setTop (mkF m 0 #[oR this] []))
  refine own_via (fun t kz => XS.aloadN X0.here hx rfl (hb hby d2_0) rfl rfl kz) ?_
  show own_Go p e below _ (s₁.setTop (mkF m 1 #[oR this] [(.ref this)]))
  obtain ⟨T1, X1, e1, st1⟩ := getF X0 hx hZ hown (host := "") (Or.inl (own_w hw 18)) Via.refl e0 F_w (g := (mkF m 1 #[oR this] [(.ref this)])) rfl rfl (hb hby d2_1)
  refine own_via st1 ?_
  show own_Go p e below _ (T1.setTop (mkF m 4 #[oR this] [(.int w)]))
  have hv : (f2 w) = w := by unfold f2; rfl
  obtain ⟨fs, hr, hrun, hended, hW, hsame⟩ := X1.leave (v := some (.int w)) (fun h => by rw [Bd.returns] at h; cases h)
  refine ⟨_, _, retOut X1 hx (i := .ireturn) Bd.returns (hnw) (Or.inl ⟨rfl, by simp, _, rfl⟩) (hb hby d2_4) hr, hrun, hended, _, _, rfl, ?_, ⟨_, rfl⟩, hW, hsame.mono (by decide) (by decide)⟩
  show Q2 Z this w r h0 n0 _ T1.heap _
  rw [e1]
  exact ⟨by rw [← hr0, hv], N0, rfl⟩
def f3 (this : Addr) (aIMPACT : Addr) : Int32 := (if this = aIMPACT then (1 : Int32) else (0 : Int32))
theorem d3_0 : decode prog_1_method_8_code 0 = .ok (.aload_n 0, 1) := by decide +kernel
theorem d3_1 : decode prog_1_method_8_code 1 = .ok (.getstatic 13, 3) := by decide +kernel
theorem d3_4 : decode prog_1_method_8_code 4 = .ok (.if_acmp .ne 7, 3) := by decide +kernel
theorem d3_7 : decode prog_1_method_8_code 7 = .ok (.iconst 1, 1) := by decide +kernel
theorem d3_8 : decode prog_1_method_8_code 8 = .ok (.goto 4, 3) := by decide +kernel
theorem d3_11 : decode prog_1_method_8_code 11 = .ok (.iconst 0, 1) := by decide +kernel
theorem d3_12 : decode prog_1_method_8_code 12 = .ok (.ireturn, 1) := by decide +kernel
theorem ef_rm3 (m : MethodId) (q0 : Addr) : entryFrame m #[(.ref q0)] 1 = mkF m 0 #[oR q0] [] := by first | (simp [entryFrame, mkF, argsToLocals, Value.category]; done) | rfl
def Q3 (Z : State) (this : Addr) (aIMPACT : Addr) (r : Int32) (h0 : Heap) (n0 : Nat) (v : Option Value) (h : Heap) (L : List Loc) : Prop := v = some (.int r) ∧ Fr n0 L ∧ h = h0
set_option maxRecDepth 65536 in
set_option maxHeartbeats 40000000 in
theorem rm3 (l : Launch) (Z : State) (a0 : Array Value) (hw : ∀ d ∈ tables_1, d.before a0 Z = true) (ws : List Jvm.Cond) (this : Addr) (aIMPACT : Addr) (r : Int32) (h0 : Heap) (n0 : Nat) (Z0 : n0 ≤ h0.size) (S_aIMPACT : Sta Z h0 "com/example/ashlar/ashlar/Algorithm" "IMPACT" "Lcom/example/ashlar/ashlar/Algorithm;" (.ref aIMPACT)) (hr0 : (f3 this aIMPACT) = r) :
    MetFree l (⟨"com/example/ashlar/ashlar/Algorithm", "coversByForce", "()Z"⟩ : MethodName) (head1 (Jvm.Cond.code (⟨"com/example/ashlar/ashlar/Algorithm", "coversByForce", "()Z"⟩ : MethodName) prog_1_method_8_code 1 (some .boolean) :: ws) ({ frames := 0, cells := 0, slots := 0, locals := 0 } : Room)) (fun a U => a = #[(.ref this)] ∧ Z.Warmed39 U.vm ∧ U.heap = h0) (fun _ _ _ _ _ => True) (fun _ U o U' => ∃ v L, o = .returned v ∧ Q3 Z this aIMPACT r h0 n0 v U'.heap L ∧ FrameEnd U o U' L ({ frames := 0, cells := 0, slots := 0, locals := 0 } : Room).cells ({ frames := 0, cells := 0, slots := 0, locals := 0 } : Room).slots) := by
  refine MetFree.of_bodySF (plainFor_of_name pn_1) hisR ?_
  intro p e s m args below meth c s₁ Bd hml0 hP hK
  obtain ⟨rfl, hZ, hh⟩ := hP
  have hx := Bd.exec
  have hby := Bd.bytes
  have hml : c.maxLocals = 1 := hml0
  have hown : s.vm.findClass "com/example/ashlar/ashlar/Algorithm" = some m.cls := findClass_of_methodNamed Bd.named
  have hnm := (name_of_methodNamed Bd.named Bd.method).1
  have X0 : Stand p l e ({ frames := 0, cells := 0, slots := 0, locals := 0 } : Room) s m #[(.ref this)] below meth c s₁ [] 0 0 := Stand.of_body Bd
  have e0 : s₁.heap = h0 := by rw [← hh, Bd.state]; rfl
  have N0 := Fr.nil n0
  refine own_start ?_
  refine own_via (fun t k => castTop (ef_rm3 m this) k) ?_
  show own_Go p e below _ (s₁.setTop (mkF m 0 #[oR this] []))
  refine own_via (fun t kz => XS.aloadN X0.here hx rfl (hb hby d3_0) rfl rfl kz) ?_
  show own_Go p e below _ (s₁.setTop (mkF m 1 #[oR this] [(.ref this)]))
  obtain ⟨T1, X1, e1, st1⟩ := getS2 X0 hx hZ hown (host := "") (Or.inl (own_w hw 11)) Via.refl e0 S_aIMPACT (g := (mkF m 1 #[oR this] [(.ref this)])) rfl (hb hby d3_1)
  refine own_via st1 ?_
  show own_Go p e below _ (T1.setTop (mkF m 4 #[oR this] [(.ref aIMPACT), (.ref this)]))
  by_cases hc4_2 : this = aIMPACT
  · refine own_via (fun t kz => Jvm.RoadKit.acmp (g := (mkF m 4 #[oR this] [(.ref aIMPACT), (.ref this)])) X1 hx rfl rfl rfl (pc0 := 4) (pc' := 7) (same := true) rfl (hb hby d3_4) rfl (decide_eq_true (congrArg Value.ref hc4_2)) (by decide) (by decide) kz) ?_
    show own_Go p e below _ (T1.setTop (mkF m 7 #[oR this] []))
    refine own_via (fun t kz => XS.iconst X1.here hx rfl (hb hby d3_7) kz) ?_
    show own_Go p e below _ (T1.setTop (mkF m 8 #[oR this] [(.int (1 : Int32))]))
    refine own_via (fun t kz => XS.goto X1.here hx rfl (pc0 := 8) (pc' := 12) rfl (hb hby d3_8) (by decide) (by decide) kz) ?_
    show own_Go p e below _ (T1.setTop (mkF m 12 #[oR this] [(.int (1 : Int32))]))
    have hv : (f3 this aIMPACT) = (1 : Int32) := by unfold f3; rw [if_pos hc4_2]
    obtain ⟨fs, hr, hrun, hended, hW, hsame⟩ := X1.leave (v := some (.int (1 : Int32))) (fun h => by rw [Bd.returns] at h; cases h)
    refine ⟨_, _, retN X1 hx (t := .boolean) Bd.returns (by simp) (hb hby d3_12) hr, hrun, hended, _, _, rfl, ?_, ⟨_, rfl⟩, hW, hsame.mono (by decide) (by decide)⟩
    show Q3 Z this aIMPACT r h0 n0 _ T1.heap _
    rw [e1]
    exact ⟨by rw [← hr0, hv], N0, rfl⟩
  · refine own_via (fun t kz => Jvm.RoadKit.acmp (g := (mkF m 4 #[oR this] [(.ref aIMPACT), (.ref this)])) X1 hx rfl rfl rfl (pc0 := 4) (pc' := 11) (same := false) rfl (hb hby d3_4) rfl (decide_eq_false fun q => hc4_2 (Value.ref.inj q)) (by decide) (by decide) kz) ?_
    show own_Go p e below _ (T1.setTop (mkF m 11 #[oR this] []))
    refine own_via (fun t kz => XS.iconst X1.here hx rfl (hb hby d3_11) kz) ?_
    show own_Go p e below _ (T1.setTop (mkF m 12 #[oR this] [(.int (0 : Int32))]))
    have hv : (f3 this aIMPACT) = (0 : Int32) := by unfold f3; rw [if_neg hc4_2]
    obtain ⟨fs, hr, hrun, hended, hW, hsame⟩ := X1.leave (v := some (.int (0 : Int32))) (fun h => by rw [Bd.returns] at h; cases h)
    refine ⟨_, _, retN X1 hx (t := .boolean) Bd.returns (by simp) (hb hby d3_12) hr, hrun, hended, _, _, rfl, ?_, ⟨_, rfl⟩, hW, hsame.mono (by decide) (by decide)⟩
    show Q3 Z this aIMPACT r h0 n0 _ T1.heap _
    rw [e1]
    exact ⟨by rw [← hr0, hv], N0, rfl⟩
theorem pn_0 : plainName "com/example/ashlar/ashlar/AlgorithmTakesBlocksPinLaw" = true := by first | (simp [plainName, overriddenIn]; done) | decide +kernel
theorem pd_0_0 : parseMethodDescriptor "()Z" = some ⟨[], some .boolean⟩ := by decide +kernel
theorem ef_rm0 (m : MethodId) (q0 : Int32) : entryFrame m #[(.int q0)] maxLocals = mkF m 0 #[oI q0, .unset, .unset, .unset, .unset] [] := by first | (simp [entryFrame, mkF, argsToLocals, Value.category, maxLocals]; done) | rfl
def Q0 (Z : State) (p0 : Int32) (aBMC : Addr) (aPREDICATE : Addr) (aIMPACT : Addr) (aKINDUCTION : Addr) (aCONGRUENCE : Addr) (h0 : Heap) (n0 : Nat) (v : Option Value) (h : Heap) (L : List Loc) : Prop := v = some (.int (1 : Int32)) ∧ Fr n0 L
set_option maxRecDepth 65536 in
set_option maxHeartbeats 40000000 in
theorem rm0 (l : Launch) (Z : State) (a0 : Array Value) (hw : ∀ d ∈ tables_1, d.before a0 Z = true) (ws : List Jvm.Cond) (p0 : Int32) (aBMC : Addr) (aPREDICATE : Addr) (aIMPACT : Addr) (aKINDUCTION : Addr) (aCONGRUENCE : Addr) (h0 : Heap) (n0 : Nat) (Z0 : n0 ≤ h0.size) (E_BMC : Exa Z h0 aBMC "com/example/ashlar/ashlar/Algorithm") (S_BMC : Sta Z h0 "com/example/ashlar/ashlar/Algorithm" "BMC" "Lcom/example/ashlar/ashlar/Algorithm;" (.ref aBMC)) (E_PREDICATE : Exa Z h0 aPREDICATE "com/example/ashlar/ashlar/Algorithm") (S_PREDICATE : Sta Z h0 "com/example/ashlar/ashlar/Algorithm" "PREDICATE" "Lcom/example/ashlar/ashlar/Algorithm;" (.ref aPREDICATE)) (E_IMPACT : Exa Z h0 aIMPACT "com/example/ashlar/ashlar/Algorithm") (S_IMPACT : Sta Z h0 "com/example/ashlar/ashlar/Algorithm" "IMPACT" "Lcom/example/ashlar/ashlar/Algorithm;" (.ref aIMPACT)) (E_KINDUCTION : Exa Z h0 aKINDUCTION "com/example/ashlar/ashlar/Algorithm") (S_KINDUCTION : Sta Z h0 "com/example/ashlar/ashlar/Algorithm" "KINDUCTION" "Lcom/example/ashlar/ashlar/Algorithm;" (.ref aKINDUCTION)) (E_CONGRUENCE : Exa Z h0 aCONGRUENCE "com/example/ashlar/ashlar/Algorithm") (S_CONGRUENCE : Sta Z h0 "com/example/ashlar/ashlar/Algorithm" "CONGRUENCE" "Lcom/example/ashlar/ashlar/Algorithm;" (.ref aCONGRUENCE)) (F_BMC_ordinal : Fld Z h0 aBMC "java/lang/Enum" "ordinal" "I" (.int (0 : Int32))) (F_PREDICATE_ordinal : Fld Z h0 aPREDICATE "java/lang/Enum" "ordinal" "I" (.int (2 : Int32))) (F_IMPACT_ordinal : Fld Z h0 aIMPACT "java/lang/Enum" "ordinal" "I" (.int (3 : Int32))) (F_BMC_bounded : Fld Z h0 aBMC "com/example/ashlar/ashlar/Algorithm" "bounded" "Z" (.int (1 : Int32))) (F_IMPACT_bounded : Fld Z h0 aIMPACT "com/example/ashlar/ashlar/Algorithm" "bounded" "Z" (.int (0 : Int32))) (F_KINDUCTION_ordinal : Fld Z h0 aKINDUCTION "java/lang/Enum" "ordinal" "I" (.int (1 : Int32))) (F_KINDUCTION_bounded : Fld Z h0 aKINDUCTION "com/example/ashlar/ashlar/Algorithm" "bounded" "Z" (.int (1 : Int32))) (F_CONGRUENCE_ordinal : Fld Z h0 aCONGRUENCE "java/lang/Enum" "ordinal" "I" (.int (4 : Int32))) (F_CONGRUENCE_bounded : Fld Z h0 aCONGRUENCE "com/example/ashlar/ashlar/Algorithm" "bounded" "Z" (.int (0 : Int32))) (F_PREDICATE_bounded : Fld Z h0 aPREDICATE "com/example/ashlar/ashlar/Algorithm" "bounded" "Z" (.int (0 : Int32))) (ne_BMC_PREDICATE : aBMC ≠ aPREDICATE) (ne_BMC_IMPACT : aBMC ≠ aIMPACT) (ne_BMC_KINDUCTION : aBMC ≠ aKINDUCTION) (ne_BMC_CONGRUENCE : aBMC ≠ aCONGRUENCE) (ne_PREDICATE_IMPACT : aPREDICATE ≠ aIMPACT) (ne_PREDICATE_KINDUCTION : aPREDICATE ≠ aKINDUCTION) (ne_PREDICATE_CONGRUENCE : aPREDICATE ≠ aCONGRUENCE) (ne_IMPACT_KINDUCTION : aIMPACT ≠ aKINDUCTION) (ne_IMPACT_CONGRUENCE : aIMPACT ≠ aCONGRUENCE) (ne_KINDUCTION_CONGRUENCE : aKINDUCTION ≠ aCONGRUENCE) :
    MetFree l x (head1 (Jvm.Cond.code x code maxLocals ret :: ws) room_1) (fun a U => a = #[(.int p0)] ∧ Z.Warmed39 U.vm ∧ U.heap = h0) (fun _ _ _ _ _ => True) (fun _ U o U' => ∃ v L, o = .returned v ∧ Q0 Z p0 aBMC aPREDICATE aIMPACT aKINDUCTION aCONGRUENCE h0 n0 v U'.heap L ∧ FrameEnd U o U' L room_1.cells room_1.slots) := by
  refine MetFree.of_bodySF (plainFor_of_name pn_0) hisR ?_
  intro p e s m args below meth c s₁ Bd hml0 hP hK
  obtain ⟨rfl, hZ, hh⟩ := hP
  have hx := Bd.exec
  have hby := Bd.bytes
  have hml : c.maxLocals = 5 := hml0
  have hown : s.vm.findClass "com/example/ashlar/ashlar/AlgorithmTakesBlocksPinLaw" = some m.cls := findClass_of_methodNamed Bd.named
  have hnm := (name_of_methodNamed Bd.named Bd.method).1
  have X0 : Stand p l e room_1 s m #[(.int p0)] below meth c s₁ [] 0 0 := Stand.of_body Bd
  have e0 : s₁.heap = h0 := by rw [← hh, Bd.state]; rfl
  have N0 := Fr.nil n0
  refine own_start ?_
  refine own_via (fun t k => castTop (ef_rm0 m p0) k) ?_
  show own_Go p e below _ (s₁.setTop (mkF m 0 #[oI p0, .unset, .unset, .unset, .unset] []))
  refine own_via (fun t kz => XS.iloadN X0.here hx rfl (hb hby at_0) rfl kz) ?_
  show own_Go p e below _ (s₁.setTop (mkF m 1 #[oI p0, .unset, .unset, .unset, .unset] [(.int p0)]))
  refine own_via (fun t kz => X0.ldcInt hx hown (mvT hZ (own_w hw 0)) (g := (mkF m 1 #[oI p0, .unset, .unset, .unset, .unset] [(.int p0)])) rfl (hb hby at_1) t kz) ?_
  show own_Go p e below _ (s₁.setTop (mkF m 3 #[oI p0, .unset, .unset, .unset, .unset] [(.int (2147483647 : Int32)), (.int p0)]))
  refine own_via (fun t kz => XS.iand X0.here hx rfl (hb hby at_3) rfl kz) ?_
  show own_Go p e below _ (s₁.setTop (mkF m 4 #[oI p0, .unset, .unset, .unset, .unset] [(.int (p0 &&& (2147483647 : Int32)))]))
  refine own_via (fun t kz => XS.iconst X0.here hx rfl (hb hby at_4) kz) ?_
  show own_Go p e below _ (s₁.setTop (mkF m 5 #[oI p0, .unset, .unset, .unset, .unset] [(.int (5 : Int32)), (.int (p0 &&& (2147483647 : Int32)))]))
  refine own_via (fun t kz => iremM X0 hx rfl (hb hby at_5) rfl (by decide) kz) ?_
  show own_Go p e below _ (s₁.setTop (mkF m 6 #[oI p0, .unset, .unset, .unset, .unset] [(.int ((p0 &&& (2147483647 : Int32)) % (5 : Int32)))]))
  refine own_via (fun t kz => XS.istoreN X0.here hx rfl (hb hby at_6) rfl (l' := #[oI p0, oI ((p0 &&& (2147483647 : Int32)) % (5 : Int32)), .unset, .unset, .unset]) rfl kz) ?_
  show own_Go p e below _ (s₁.setTop (mkF m 7 #[oI p0, oI ((p0 &&& (2147483647 : Int32)) % (5 : Int32)), .unset, .unset, .unset] []))
  refine own_via (fun t kz => XS.iloadN X0.here hx rfl (hb hby at_7) rfl kz) ?_
  show own_Go p e below _ (s₁.setTop (mkF m 8 #[oI p0, oI ((p0 &&& (2147483647 : Int32)) % (5 : Int32)), .unset, .unset, .unset] [(.int ((p0 &&& (2147483647 : Int32)) % (5 : Int32)))]))
  by_cases hc8_1 : ((p0 &&& (2147483647 : Int32)) % (5 : Int32)) = (0 : Int32)
  · refine own_via (fun t kz => XS.ifNo X0.here hx rfl (hb hby at_8) rfl ((if0 _ _).trans (teq hc8_1).2) kz) ?_
    show own_Go p e below _ (s₁.setTop (mkF m 11 #[oI p0, oI ((p0 &&& (2147483647 : Int32)) % (5 : Int32)), .unset, .unset, .unset] []))
    obtain ⟨T2, X2, e2, st2⟩ := getS2 X0 hx hZ hown (host := "") (Or.inl (own_w hw 1)) Via.refl e0 S_BMC (g := (mkF m 11 #[oI p0, oI ((p0 &&& (2147483647 : Int32)) % (5 : Int32)), .unset, .unset, .unset] [])) rfl (hb hby at_11)
    refine own_via st2 ?_
    show own_Go p e below _ (T2.setTop (mkF m 14 #[oI p0, oI ((p0 &&& (2147483647 : Int32)) % (5 : Int32)), .unset, .unset, .unset] [(.ref aBMC)]))
    refine own_via (fun t kz => XS.astoreN X2.here hx rfl (hb hby at_14) rfl rfl (l' := #[oI p0, oI ((p0 &&& (2147483647 : Int32)) % (5 : Int32)), oR aBMC, .unset, .unset]) rfl kz) ?_
    show own_Go p e below _ (T2.setTop (mkF m 15 #[oI p0, oI ((p0 &&& (2147483647 : Int32)) % (5 : Int32)), oR aBMC, .unset, .unset] []))
    refine own_via (fun t kz => XS.iconst X2.here hx rfl (hb hby at_15) kz) ?_
    show own_Go p e below _ (T2.setTop (mkF m 16 #[oI p0, oI ((p0 &&& (2147483647 : Int32)) % (5 : Int32)), oR aBMC, .unset, .unset] [(.int (0 : Int32))]))
    refine own_via (fun t kz => XS.istoreN X2.here hx rfl (hb hby at_16) rfl (l' := #[oI p0, oI ((p0 &&& (2147483647 : Int32)) % (5 : Int32)), oR aBMC, oI (0 : Int32), .unset]) rfl kz) ?_
    show own_Go p e below _ (T2.setTop (mkF m 17 #[oI p0, oI ((p0 &&& (2147483647 : Int32)) % (5 : Int32)), oR aBMC, oI (0 : Int32), .unset] []))
    refine own_via (fun t kz => XS.goto X2.here hx rfl (pc0 := 17) (pc' := 68) rfl (hb hby at_17) (by decide) (by decide) kz) ?_
    show own_Go p e below _ (T2.setTop (mkF m 68 #[oI p0, oI ((p0 &&& (2147483647 : Int32)) % (5 : Int32)), oR aBMC, oI (0 : Int32), .unset] []))
    refine own_via (fun t kz => XS.aloadN X2.here hx rfl (hb hby at_68) rfl rfl kz) ?_
    show own_Go p e below _ (T2.setTop (mkF m 69 #[oI p0, oI ((p0 &&& (2147483647 : Int32)) % (5 : Int32)), oR aBMC, oI (0 : Int32), .unset] [(.ref aBMC)]))
    obtain ⟨cq3, kq3, qa3, qb3, qc3⟩ := isOf hZ e2 E_BMC
    obtain ⟨_, _, ⟨T3, L3, k3, n3⟩, -, X3, ⟨Lc3, hQ3, l3, y3, z3⟩, st3⟩ := X2.virtualBack hx (y := (⟨"com/example/ashlar/ashlar/Algorithm", "takesBlocks", "()Z"⟩ : MethodName)) (z := (⟨"com/example/ashlar/ashlar/Algorithm", "takesBlocks", "()Z"⟩ : MethodName)) hown (mvT hZ (own_w hw 4)) (mvT hZ (own_w hw 5)) (notFace_of_selects (args := #[]) (mvT hZ (own_w hw 7))) (mvT hZ (own_w hw 7)) (mvT hZ (own_w hw 6)) (by decide) (backOf (W := 0) (rm1 l Z a0 hw [] aBMC aPREDICATE aIMPACT (0 : Int32) h0 n0 Z0 S_PREDICATE S_IMPACT (by unfold f1; rw [if_neg ne_BMC_PREDICATE, if_neg ne_BMC_IMPACT])) hZ (own_w hw 8) (own_w hw 2) (by decide) (by decide)) qa3 qc3 (g := (mkF m 69 #[oI p0, oI ((p0 &&& (2147483647 : Int32)) % (5 : Int32)), oR aBMC, oI (0 : Int32), .unset] [(.ref aBMC)])) rfl (by rw [hml]; rfl) (Steps.refl _) (argsL := []) (rest := []) (lenOf pd_0_0 rfl) rfl (by show 2 * 0 + _ ≤ _; exact Nat.le_of_eq rfl) (hb hby at_69) (fun _ _ => ⟨rfl, e2, (by decide : 0 + 0 ≤ _), (by decide : 0 + 0 ≤ _)⟩)
    dsimp only [Pt.U, Pt.locs, Pt.cells, Pt.slots] at X3 l3 y3 z3 st3 hQ3
    subst l3 y3 z3
    obtain ⟨rfl, Nq3, e3⟩ := hQ3
    have N4 := Fr.app N0 Nq3
    refine own_tr st3 ?_
    show own_Go p e below _ (T3.setTop (mkF m 72 #[oI p0, oI ((p0 &&& (2147483647 : Int32)) % (5 : Int32)), oR aBMC, oI (0 : Int32), .unset] [(.int (0 : Int32))]))
    refine own_via (fun t kz => XS.istore X3.here hx rfl (hb hby at_72) rfl (l' := #[oI p0, oI ((p0 &&& (2147483647 : Int32)) % (5 : Int32)), oR aBMC, oI (0 : Int32), oI (0 : Int32)]) rfl kz) ?_
    show own_Go p e below _ (T3.setTop (mkF m 74 #[oI p0, oI ((p0 &&& (2147483647 : Int32)) % (5 : Int32)), oR aBMC, oI (0 : Int32), oI (0 : Int32)] []))
    refine own_via (fun t kz => XS.iload X3.here hx rfl (hb hby at_74) rfl kz) ?_
    show own_Go p e below _ (T3.setTop (mkF m 76 #[oI p0, oI ((p0 &&& (2147483647 : Int32)) % (5 : Int32)), oR aBMC, oI (0 : Int32), oI (0 : Int32)] [(.int (0 : Int32))]))
    refine own_via (fun t kz => XS.iloadN X3.here hx rfl (hb hby at_76) rfl kz) ?_
    show own_Go p e below _ (T3.setTop (mkF m 77 #[oI p0, oI ((p0 &&& (2147483647 : Int32)) % (5 : Int32)), oR aBMC, oI (0 : Int32), oI (0 : Int32)] [(.int (0 : Int32)), (.int (0 : Int32))]))
    refine own_via (fun t kz => XS.icmpYes X3.here hx rfl (pc0 := 77) (pc' := 82) rfl (hb hby at_77) rfl (teq (by decide : (0 : Int32) = (0 : Int32))).1 (by decide) (by decide) kz) ?_
    show own_Go p e below _ (T3.setTop (mkF m 82 #[oI p0, oI ((p0 &&& (2147483647 : Int32)) % (5 : Int32)), oR aBMC, oI (0 : Int32), oI (0 : Int32)] []))
    refine own_via (fun t kz => XS.aloadN X3.here hx rfl (hb hby at_82) rfl rfl kz) ?_
    show own_Go p e below _ (T3.setTop (mkF m 83 #[oI p0, oI ((p0 &&& (2147483647 : Int32)) % (5 : Int32)), oR aBMC, oI (0 : Int32), oI (0 : Int32)] [(.ref aBMC)]))
    obtain ⟨cq5, kq5, qa5, qb5, qc5⟩ := isOf hZ e3 E_BMC
    obtain ⟨_, _, ⟨T5, L5, k5, n5⟩, -, X5, ⟨Lc5, hQ5, l5, y5, z5⟩, st5⟩ := X3.virtualBack hx (y := (⟨"com/example/ashlar/ashlar/Algorithm", "bounded", "()Z"⟩ : MethodName)) (z := (⟨"com/example/ashlar/ashlar/Algorithm", "bounded", "()Z"⟩ : MethodName)) hown (mvT hZ (own_w hw 13)) (mvT hZ (own_w hw 14)) (notFace_of_selects (args := #[]) (mvT hZ (own_w hw 16))) (mvT hZ (own_w hw 16)) (mvT hZ (own_w hw 15)) (by decide) (backOf (W := 0) (rm2 l Z a0 hw [] aBMC (1 : Int32) (1 : Int32) h0 n0 Z0 rfl F_BMC_bounded (by unfold f2; rfl)) hZ (own_w hw 17) (own_w hw 2) (by decide) (by decide)) qa5 qc5 (g := (mkF m 83 #[oI p0, oI ((p0 &&& (2147483647 : Int32)) % (5 : Int32)), oR aBMC, oI (0 : Int32), oI (0 : Int32)] [(.ref aBMC)])) rfl (by rw [hml]; rfl) (Steps.refl _) (argsL := []) (rest := []) (lenOf pd_0_0 rfl) rfl (by show 2 * 0 + _ ≤ _; exact Nat.le_of_eq rfl) (hb hby at_83) (fun _ _ => ⟨rfl, e3, (by decide : 0 + 0 ≤ _), (by decide : 0 + 0 ≤ _)⟩)
    dsimp only [Pt.U, Pt.locs, Pt.cells, Pt.slots] at X5 l5 y5 z5 st5 hQ5
    subst l5 y5 z5
    obtain ⟨rfl, Nq5, e5⟩ := hQ5
    have N6 := Fr.app N4 Nq5
    refine own_tr st5 ?_
    show own_Go p e below _ (T5.setTop (mkF m 86 #[oI p0, oI ((p0 &&& (2147483647 : Int32)) % (5 : Int32)), oR aBMC, oI (0 : Int32), oI (0 : Int32)] [(.int (1 : Int32))]))
    refine own_via (fun t kz => XS.ifNo X5.here hx rfl (hb hby at_86) rfl ((if0 _ _).trans (feq (by decide : ¬ ((1 : Int32) = (0 : Int32)))).1) kz) ?_
    show own_Go p e below _ (T5.setTop (mkF m 89 #[oI p0, oI ((p0 &&& (2147483647 : Int32)) % (5 : Int32)), oR aBMC, oI (0 : Int32), oI (0 : Int32)] []))
    refine own_via (fun t kz => XS.iload X5.here hx rfl (hb hby at_89) rfl kz) ?_
    show own_Go p e below _ (T5.setTop (mkF m 91 #[oI p0, oI ((p0 &&& (2147483647 : Int32)) % (5 : Int32)), oR aBMC, oI (0 : Int32), oI (0 : Int32)] [(.int (0 : Int32))]))
    refine own_via (fun t kz => XS.ifYes X5.here hx rfl (pc0 := 91) (pc' := 96) rfl (hb hby at_91) rfl ((if0 _ _).trans (teq (by decide : (0 : Int32) = (0 : Int32))).1) (by decide) (by decide) kz) ?_
    show own_Go p e below _ (T5.setTop (mkF m 96 #[oI p0, oI ((p0 &&& (2147483647 : Int32)) % (5 : Int32)), oR aBMC, oI (0 : Int32), oI (0 : Int32)] []))
    refine own_via (fun t kz => XS.aloadN X5.here hx rfl (hb hby at_96) rfl rfl kz) ?_
    show own_Go p e below _ (T5.setTop (mkF m 97 #[oI p0, oI ((p0 &&& (2147483647 : Int32)) % (5 : Int32)), oR aBMC, oI (0 : Int32), oI (0 : Int32)] [(.ref aBMC)]))
    obtain ⟨cq7, kq7, qa7, qb7, qc7⟩ := isOf hZ e5 E_BMC
    obtain ⟨_, _, ⟨T7, L7, k7, n7⟩, -, X7, ⟨Lc7, hQ7, l7, y7, z7⟩, st7⟩ := X5.virtualBack hx (y := (⟨"com/example/ashlar/ashlar/Algorithm", "coversByForce", "()Z"⟩ : MethodName)) (z := (⟨"com/example/ashlar/ashlar/Algorithm", "coversByForce", "()Z"⟩ : MethodName)) hown (mvT hZ (own_w hw 20)) (mvT hZ (own_w hw 21)) (notFace_of_selects (args := #[]) (mvT hZ (own_w hw 23))) (mvT hZ (own_w hw 23)) (mvT hZ (own_w hw 22)) (by decide) (backOf (W := 0) (rm3 l Z a0 hw [] aBMC aIMPACT (0 : Int32) h0 n0 Z0 S_IMPACT (by unfold f3; rw [if_neg ne_BMC_IMPACT])) hZ (own_w hw 24) (own_w hw 2) (by decide) (by decide)) qa7 qc7 (g := (mkF m 97 #[oI p0, oI ((p0 &&& (2147483647 : Int32)) % (5 : Int32)), oR aBMC, oI (0 : Int32), oI (0 : Int32)] [(.ref aBMC)])) rfl (by rw [hml]; rfl) (Steps.refl _) (argsL := []) (rest := []) (lenOf pd_0_0 rfl) rfl (by show 2 * 0 + _ ≤ _; exact Nat.le_of_eq rfl) (hb hby at_97) (fun _ _ => ⟨rfl, e5, (by decide : 0 + 0 ≤ _), (by decide : 0 + 0 ≤ _)⟩)
    dsimp only [Pt.U, Pt.locs, Pt.cells, Pt.slots] at X7 l7 y7 z7 st7 hQ7
    subst l7 y7 z7
    obtain ⟨rfl, Nq7, e7⟩ := hQ7
    have N8 := Fr.app N6 Nq7
    refine own_tr st7 ?_
    show own_Go p e below _ (T7.setTop (mkF m 100 #[oI p0, oI ((p0 &&& (2147483647 : Int32)) % (5 : Int32)), oR aBMC, oI (0 : Int32), oI (0 : Int32)] [(.int (0 : Int32))]))
    refine own_via (fun t kz => XS.ifYes X7.here hx rfl (pc0 := 100) (pc' := 110) rfl (hb hby at_100) rfl ((if0 _ _).trans (teq (by decide : (0 : Int32) = (0 : Int32))).1) (by decide) (by decide) kz) ?_
    show own_Go p e below _ (T7.setTop (mkF m 110 #[oI p0, oI ((p0 &&& (2147483647 : Int32)) % (5 : Int32)), oR aBMC, oI (0 : Int32), oI (0 : Int32)] []))
    refine own_via (fun t kz => XS.iconst X7.here hx rfl (hb hby at_110) kz) ?_
    show own_Go p e below _ (T7.setTop (mkF m 111 #[oI p0, oI ((p0 &&& (2147483647 : Int32)) % (5 : Int32)), oR aBMC, oI (0 : Int32), oI (0 : Int32)] [(.int (1 : Int32))]))
    obtain ⟨fs, hr, hrun, hended, hW, hsame⟩ := X7.leave (v := some (.int (1 : Int32))) (fun h => by rw [Bd.returns] at h; cases h)
    refine ⟨_, _, retN X7 hx (t := .boolean) Bd.returns (by simp) (hb hby at_111) hr, hrun, hended, _, _, rfl, ?_, ⟨_, rfl⟩, hW, hsame.mono (by decide) (by decide)⟩
    show Q0 Z p0 aBMC aPREDICATE aIMPACT aKINDUCTION aCONGRUENCE h0 n0 _ T7.heap _
    rw [e7]
    exact ⟨rfl, N8⟩
  · refine own_via (fun t kz => XS.ifYes X0.here hx rfl (pc0 := 8) (pc' := 20) rfl (hb hby at_8) rfl ((if0 _ _).trans (feq hc8_1).2) (by decide) (by decide) kz) ?_
    show own_Go p e below _ (s₁.setTop (mkF m 20 #[oI p0, oI ((p0 &&& (2147483647 : Int32)) % (5 : Int32)), .unset, .unset, .unset] []))
    refine own_via (fun t kz => XS.iloadN X0.here hx rfl (hb hby at_20) rfl kz) ?_
    show own_Go p e below _ (s₁.setTop (mkF m 21 #[oI p0, oI ((p0 &&& (2147483647 : Int32)) % (5 : Int32)), .unset, .unset, .unset] [(.int ((p0 &&& (2147483647 : Int32)) % (5 : Int32)))]))
    refine own_via (fun t kz => XS.iconst X0.here hx rfl (hb hby at_21) kz) ?_
    show own_Go p e below _ (s₁.setTop (mkF m 22 #[oI p0, oI ((p0 &&& (2147483647 : Int32)) % (5 : Int32)), .unset, .unset, .unset] [(.int (1 : Int32)), (.int ((p0 &&& (2147483647 : Int32)) % (5 : Int32)))]))
    by_cases hc22_10 : ((p0 &&& (2147483647 : Int32)) % (5 : Int32)) = (1 : Int32)
    · refine own_via (fun t kz => XS.icmpNo X0.here hx rfl (hb hby at_22) rfl (teq hc22_10).2 kz) ?_
      show own_Go p e below _ (s₁.setTop (mkF m 25 #[oI p0, oI ((p0 &&& (2147483647 : Int32)) % (5 : Int32)), .unset, .unset, .unset] []))
      obtain ⟨T11, X11, e11, st11⟩ := getS2 X0 hx hZ hown (host := "") (Or.inl (own_w hw 26)) Via.refl e0 S_KINDUCTION (g := (mkF m 25 #[oI p0, oI ((p0 &&& (2147483647 : Int32)) % (5 : Int32)), .unset, .unset, .unset] [])) rfl (hb hby at_25)
      refine own_via st11 ?_
      show own_Go p e below _ (T11.setTop (mkF m 28 #[oI p0, oI ((p0 &&& (2147483647 : Int32)) % (5 : Int32)), .unset, .unset, .unset] [(.ref aKINDUCTION)]))
      refine own_via (fun t kz => XS.astoreN X11.here hx rfl (hb hby at_28) rfl rfl (l' := #[oI p0, oI ((p0 &&& (2147483647 : Int32)) % (5 : Int32)), oR aKINDUCTION, .unset, .unset]) rfl kz) ?_
      show own_Go p e below _ (T11.setTop (mkF m 29 #[oI p0, oI ((p0 &&& (2147483647 : Int32)) % (5 : Int32)), oR aKINDUCTION, .unset, .unset] []))
      refine own_via (fun t kz => XS.iconst X11.here hx rfl (hb hby at_29) kz) ?_
      show own_Go p e below _ (T11.setTop (mkF m 30 #[oI p0, oI ((p0 &&& (2147483647 : Int32)) % (5 : Int32)), oR aKINDUCTION, .unset, .unset] [(.int (0 : Int32))]))
      refine own_via (fun t kz => XS.istoreN X11.here hx rfl (hb hby at_30) rfl (l' := #[oI p0, oI ((p0 &&& (2147483647 : Int32)) % (5 : Int32)), oR aKINDUCTION, oI (0 : Int32), .unset]) rfl kz) ?_
      show own_Go p e below _ (T11.setTop (mkF m 31 #[oI p0, oI ((p0 &&& (2147483647 : Int32)) % (5 : Int32)), oR aKINDUCTION, oI (0 : Int32), .unset] []))
      refine own_via (fun t kz => XS.goto X11.here hx rfl (pc0 := 31) (pc' := 68) rfl (hb hby at_31) (by decide) (by decide) kz) ?_
      show own_Go p e below _ (T11.setTop (mkF m 68 #[oI p0, oI ((p0 &&& (2147483647 : Int32)) % (5 : Int32)), oR aKINDUCTION, oI (0 : Int32), .unset] []))
      refine own_via (fun t kz => XS.aloadN X11.here hx rfl (hb hby at_68) rfl rfl kz) ?_
      show own_Go p e below _ (T11.setTop (mkF m 69 #[oI p0, oI ((p0 &&& (2147483647 : Int32)) % (5 : Int32)), oR aKINDUCTION, oI (0 : Int32), .unset] [(.ref aKINDUCTION)]))
      obtain ⟨cq12, kq12, qa12, qb12, qc12⟩ := isOf hZ e11 E_KINDUCTION
      obtain ⟨_, _, ⟨T12, L12, k12, n12⟩, -, X12, ⟨Lc12, hQ12, l12, y12, z12⟩, st12⟩ := X11.virtualBack hx (y := (⟨"com/example/ashlar/ashlar/Algorithm", "takesBlocks", "()Z"⟩ : MethodName)) (z := (⟨"com/example/ashlar/ashlar/Algorithm", "takesBlocks", "()Z"⟩ : MethodName)) hown (mvT hZ (own_w hw 4)) (mvT hZ (own_w hw 5)) (notFace_of_selects (args := #[]) (mvT hZ (own_w hw 7))) (mvT hZ (own_w hw 7)) (mvT hZ (own_w hw 6)) (by decide) (backOf (W := 0) (rm1 l Z a0 hw [] aKINDUCTION aPREDICATE aIMPACT (0 : Int32) h0 n0 Z0 S_PREDICATE S_IMPACT (by unfold f1; rw [if_neg (Ne.symm ne_PREDICATE_KINDUCTION), if_neg (Ne.symm ne_IMPACT_KINDUCTION)])) hZ (own_w hw 8) (own_w hw 2) (by decide) (by decide)) qa12 qc12 (g := (mkF m 69 #[oI p0, oI ((p0 &&& (2147483647 : Int32)) % (5 : Int32)), oR aKINDUCTION, oI (0 : Int32), .unset] [(.ref aKINDUCTION)])) rfl (by rw [hml]; rfl) (Steps.refl _) (argsL := []) (rest := []) (lenOf pd_0_0 rfl) rfl (by show 2 * 0 + _ ≤ _; exact Nat.le_of_eq rfl) (hb hby at_69) (fun _ _ => ⟨rfl, e11, (by decide : 0 + 0 ≤ _), (by decide : 0 + 0 ≤ _)⟩)
      dsimp only [Pt.U, Pt.locs, Pt.cells, Pt.slots] at X12 l12 y12 z12 st12 hQ12
      subst l12 y12 z12
      obtain ⟨rfl, Nq12, e12⟩ := hQ12
      have N13 := Fr.app N0 Nq12
      refine own_tr st12 ?_
      show own_Go p e below _ (T12.setTop (mkF m 72 #[oI p0, oI ((p0 &&& (2147483647 : Int32)) % (5 : Int32)), oR aKINDUCTION, oI (0 : Int32), .unset] [(.int (0 : Int32))]))
      refine own_via (fun t kz => XS.istore X12.here hx rfl (hb hby at_72) rfl (l' := #[oI p0, oI ((p0 &&& (2147483647 : Int32)) % (5 : Int32)), oR aKINDUCTION, oI (0 : Int32), oI (0 : Int32)]) rfl kz) ?_
      show own_Go p e below _ (T12.setTop (mkF m 74 #[oI p0, oI ((p0 &&& (2147483647 : Int32)) % (5 : Int32)), oR aKINDUCTION, oI (0 : Int32), oI (0 : Int32)] []))
      refine own_via (fun t kz => XS.iload X12.here hx rfl (hb hby at_74) rfl kz) ?_
      show own_Go p e below _ (T12.setTop (mkF m 76 #[oI p0, oI ((p0 &&& (2147483647 : Int32)) % (5 : Int32)), oR aKINDUCTION, oI (0 : Int32), oI (0 : Int32)] [(.int (0 : Int32))]))
      refine own_via (fun t kz => XS.iloadN X12.here hx rfl (hb hby at_76) rfl kz) ?_
      show own_Go p e below _ (T12.setTop (mkF m 77 #[oI p0, oI ((p0 &&& (2147483647 : Int32)) % (5 : Int32)), oR aKINDUCTION, oI (0 : Int32), oI (0 : Int32)] [(.int (0 : Int32)), (.int (0 : Int32))]))
      refine own_via (fun t kz => XS.icmpYes X12.here hx rfl (pc0 := 77) (pc' := 82) rfl (hb hby at_77) rfl (teq (by decide : (0 : Int32) = (0 : Int32))).1 (by decide) (by decide) kz) ?_
      show own_Go p e below _ (T12.setTop (mkF m 82 #[oI p0, oI ((p0 &&& (2147483647 : Int32)) % (5 : Int32)), oR aKINDUCTION, oI (0 : Int32), oI (0 : Int32)] []))
      refine own_via (fun t kz => XS.aloadN X12.here hx rfl (hb hby at_82) rfl rfl kz) ?_
      show own_Go p e below _ (T12.setTop (mkF m 83 #[oI p0, oI ((p0 &&& (2147483647 : Int32)) % (5 : Int32)), oR aKINDUCTION, oI (0 : Int32), oI (0 : Int32)] [(.ref aKINDUCTION)]))
      obtain ⟨cq14, kq14, qa14, qb14, qc14⟩ := isOf hZ e12 E_KINDUCTION
      obtain ⟨_, _, ⟨T14, L14, k14, n14⟩, -, X14, ⟨Lc14, hQ14, l14, y14, z14⟩, st14⟩ := X12.virtualBack hx (y := (⟨"com/example/ashlar/ashlar/Algorithm", "bounded", "()Z"⟩ : MethodName)) (z := (⟨"com/example/ashlar/ashlar/Algorithm", "bounded", "()Z"⟩ : MethodName)) hown (mvT hZ (own_w hw 13)) (mvT hZ (own_w hw 14)) (notFace_of_selects (args := #[]) (mvT hZ (own_w hw 16))) (mvT hZ (own_w hw 16)) (mvT hZ (own_w hw 15)) (by decide) (backOf (W := 0) (rm2 l Z a0 hw [] aKINDUCTION (1 : Int32) (1 : Int32) h0 n0 Z0 rfl F_KINDUCTION_bounded (by unfold f2; rfl)) hZ (own_w hw 17) (own_w hw 2) (by decide) (by decide)) qa14 qc14 (g := (mkF m 83 #[oI p0, oI ((p0 &&& (2147483647 : Int32)) % (5 : Int32)), oR aKINDUCTION, oI (0 : Int32), oI (0 : Int32)] [(.ref aKINDUCTION)])) rfl (by rw [hml]; rfl) (Steps.refl _) (argsL := []) (rest := []) (lenOf pd_0_0 rfl) rfl (by show 2 * 0 + _ ≤ _; exact Nat.le_of_eq rfl) (hb hby at_83) (fun _ _ => ⟨rfl, e12, (by decide : 0 + 0 ≤ _), (by decide : 0 + 0 ≤ _)⟩)
      dsimp only [Pt.U, Pt.locs, Pt.cells, Pt.slots] at X14 l14 y14 z14 st14 hQ14
      subst l14 y14 z14
      obtain ⟨rfl, Nq14, e14⟩ := hQ14
      have N15 := Fr.app N13 Nq14
      refine own_tr st14 ?_
      show own_Go p e below _ (T14.setTop (mkF m 86 #[oI p0, oI ((p0 &&& (2147483647 : Int32)) % (5 : Int32)), oR aKINDUCTION, oI (0 : Int32), oI (0 : Int32)] [(.int (1 : Int32))]))
      refine own_via (fun t kz => XS.ifNo X14.here hx rfl (hb hby at_86) rfl ((if0 _ _).trans (feq (by decide : ¬ ((1 : Int32) = (0 : Int32)))).1) kz) ?_
      show own_Go p e below _ (T14.setTop (mkF m 89 #[oI p0, oI ((p0 &&& (2147483647 : Int32)) % (5 : Int32)), oR aKINDUCTION, oI (0 : Int32), oI (0 : Int32)] []))
      refine own_via (fun t kz => XS.iload X14.here hx rfl (hb hby at_89) rfl kz) ?_
      show own_Go p e below _ (T14.setTop (mkF m 91 #[oI p0, oI ((p0 &&& (2147483647 : Int32)) % (5 : Int32)), oR aKINDUCTION, oI (0 : Int32), oI (0 : Int32)] [(.int (0 : Int32))]))
      refine own_via (fun t kz => XS.ifYes X14.here hx rfl (pc0 := 91) (pc' := 96) rfl (hb hby at_91) rfl ((if0 _ _).trans (teq (by decide : (0 : Int32) = (0 : Int32))).1) (by decide) (by decide) kz) ?_
      show own_Go p e below _ (T14.setTop (mkF m 96 #[oI p0, oI ((p0 &&& (2147483647 : Int32)) % (5 : Int32)), oR aKINDUCTION, oI (0 : Int32), oI (0 : Int32)] []))
      refine own_via (fun t kz => XS.aloadN X14.here hx rfl (hb hby at_96) rfl rfl kz) ?_
      show own_Go p e below _ (T14.setTop (mkF m 97 #[oI p0, oI ((p0 &&& (2147483647 : Int32)) % (5 : Int32)), oR aKINDUCTION, oI (0 : Int32), oI (0 : Int32)] [(.ref aKINDUCTION)]))
      obtain ⟨cq16, kq16, qa16, qb16, qc16⟩ := isOf hZ e14 E_KINDUCTION
      obtain ⟨_, _, ⟨T16, L16, k16, n16⟩, -, X16, ⟨Lc16, hQ16, l16, y16, z16⟩, st16⟩ := X14.virtualBack hx (y := (⟨"com/example/ashlar/ashlar/Algorithm", "coversByForce", "()Z"⟩ : MethodName)) (z := (⟨"com/example/ashlar/ashlar/Algorithm", "coversByForce", "()Z"⟩ : MethodName)) hown (mvT hZ (own_w hw 20)) (mvT hZ (own_w hw 21)) (notFace_of_selects (args := #[]) (mvT hZ (own_w hw 23))) (mvT hZ (own_w hw 23)) (mvT hZ (own_w hw 22)) (by decide) (backOf (W := 0) (rm3 l Z a0 hw [] aKINDUCTION aIMPACT (0 : Int32) h0 n0 Z0 S_IMPACT (by unfold f3; rw [if_neg (Ne.symm ne_IMPACT_KINDUCTION)])) hZ (own_w hw 24) (own_w hw 2) (by decide) (by decide)) qa16 qc16 (g := (mkF m 97 #[oI p0, oI ((p0 &&& (2147483647 : Int32)) % (5 : Int32)), oR aKINDUCTION, oI (0 : Int32), oI (0 : Int32)] [(.ref aKINDUCTION)])) rfl (by rw [hml]; rfl) (Steps.refl _) (argsL := []) (rest := []) (lenOf pd_0_0 rfl) rfl (by show 2 * 0 + _ ≤ _; exact Nat.le_of_eq rfl) (hb hby at_97) (fun _ _ => ⟨rfl, e14, (by decide : 0 + 0 ≤ _), (by decide : 0 + 0 ≤ _)⟩)
      dsimp only [Pt.U, Pt.locs, Pt.cells, Pt.slots] at X16 l16 y16 z16 st16 hQ16
      subst l16 y16 z16
      obtain ⟨rfl, Nq16, e16⟩ := hQ16
      have N17 := Fr.app N15 Nq16
      refine own_tr st16 ?_
      show own_Go p e below _ (T16.setTop (mkF m 100 #[oI p0, oI ((p0 &&& (2147483647 : Int32)) % (5 : Int32)), oR aKINDUCTION, oI (0 : Int32), oI (0 : Int32)] [(.int (0 : Int32))]))
      refine own_via (fun t kz => XS.ifYes X16.here hx rfl (pc0 := 100) (pc' := 110) rfl (hb hby at_100) rfl ((if0 _ _).trans (teq (by decide : (0 : Int32) = (0 : Int32))).1) (by decide) (by decide) kz) ?_
      show own_Go p e below _ (T16.setTop (mkF m 110 #[oI p0, oI ((p0 &&& (2147483647 : Int32)) % (5 : Int32)), oR aKINDUCTION, oI (0 : Int32), oI (0 : Int32)] []))
      refine own_via (fun t kz => XS.iconst X16.here hx rfl (hb hby at_110) kz) ?_
      show own_Go p e below _ (T16.setTop (mkF m 111 #[oI p0, oI ((p0 &&& (2147483647 : Int32)) % (5 : Int32)), oR aKINDUCTION, oI (0 : Int32), oI (0 : Int32)] [(.int (1 : Int32))]))
      obtain ⟨fs, hr, hrun, hended, hW, hsame⟩ := X16.leave (v := some (.int (1 : Int32))) (fun h => by rw [Bd.returns] at h; cases h)
      refine ⟨_, _, retN X16 hx (t := .boolean) Bd.returns (by simp) (hb hby at_111) hr, hrun, hended, _, _, rfl, ?_, ⟨_, rfl⟩, hW, hsame.mono (by decide) (by decide)⟩
      show Q0 Z p0 aBMC aPREDICATE aIMPACT aKINDUCTION aCONGRUENCE h0 n0 _ T16.heap _
      rw [e16]
      exact ⟨rfl, N17⟩
    · refine own_via (fun t kz => XS.icmpYes X0.here hx rfl (pc0 := 22) (pc' := 34) rfl (hb hby at_22) rfl (feq hc22_10).2 (by decide) (by decide) kz) ?_
      show own_Go p e below _ (s₁.setTop (mkF m 34 #[oI p0, oI ((p0 &&& (2147483647 : Int32)) % (5 : Int32)), .unset, .unset, .unset] []))
      refine own_via (fun t kz => XS.iloadN X0.here hx rfl (hb hby at_34) rfl kz) ?_
      show own_Go p e below _ (s₁.setTop (mkF m 35 #[oI p0, oI ((p0 &&& (2147483647 : Int32)) % (5 : Int32)), .unset, .unset, .unset] [(.int ((p0 &&& (2147483647 : Int32)) % (5 : Int32)))]))
      refine own_via (fun t kz => XS.iconst X0.here hx rfl (hb hby at_35) kz) ?_
      show own_Go p e below _ (s₁.setTop (mkF m 36 #[oI p0, oI ((p0 &&& (2147483647 : Int32)) % (5 : Int32)), .unset, .unset, .unset] [(.int (2 : Int32)), (.int ((p0 &&& (2147483647 : Int32)) % (5 : Int32)))]))
      by_cases hc36_19 : ((p0 &&& (2147483647 : Int32)) % (5 : Int32)) = (2 : Int32)
      · refine own_via (fun t kz => XS.icmpNo X0.here hx rfl (hb hby at_36) rfl (teq hc36_19).2 kz) ?_
        show own_Go p e below _ (s₁.setTop (mkF m 39 #[oI p0, oI ((p0 &&& (2147483647 : Int32)) % (5 : Int32)), .unset, .unset, .unset] []))
        obtain ⟨T20, X20, e20, st20⟩ := getS2 X0 hx hZ hown (host := "") (Or.inl (own_w hw 30)) Via.refl e0 S_PREDICATE (g := (mkF m 39 #[oI p0, oI ((p0 &&& (2147483647 : Int32)) % (5 : Int32)), .unset, .unset, .unset] [])) rfl (hb hby at_39)
        refine own_via st20 ?_
        show own_Go p e below _ (T20.setTop (mkF m 42 #[oI p0, oI ((p0 &&& (2147483647 : Int32)) % (5 : Int32)), .unset, .unset, .unset] [(.ref aPREDICATE)]))
        refine own_via (fun t kz => XS.astoreN X20.here hx rfl (hb hby at_42) rfl rfl (l' := #[oI p0, oI ((p0 &&& (2147483647 : Int32)) % (5 : Int32)), oR aPREDICATE, .unset, .unset]) rfl kz) ?_
        show own_Go p e below _ (T20.setTop (mkF m 43 #[oI p0, oI ((p0 &&& (2147483647 : Int32)) % (5 : Int32)), oR aPREDICATE, .unset, .unset] []))
        refine own_via (fun t kz => XS.iconst X20.here hx rfl (hb hby at_43) kz) ?_
        show own_Go p e below _ (T20.setTop (mkF m 44 #[oI p0, oI ((p0 &&& (2147483647 : Int32)) % (5 : Int32)), oR aPREDICATE, .unset, .unset] [(.int (1 : Int32))]))
        refine own_via (fun t kz => XS.istoreN X20.here hx rfl (hb hby at_44) rfl (l' := #[oI p0, oI ((p0 &&& (2147483647 : Int32)) % (5 : Int32)), oR aPREDICATE, oI (1 : Int32), .unset]) rfl kz) ?_
        show own_Go p e below _ (T20.setTop (mkF m 45 #[oI p0, oI ((p0 &&& (2147483647 : Int32)) % (5 : Int32)), oR aPREDICATE, oI (1 : Int32), .unset] []))
        refine own_via (fun t kz => XS.goto X20.here hx rfl (pc0 := 45) (pc' := 68) rfl (hb hby at_45) (by decide) (by decide) kz) ?_
        show own_Go p e below _ (T20.setTop (mkF m 68 #[oI p0, oI ((p0 &&& (2147483647 : Int32)) % (5 : Int32)), oR aPREDICATE, oI (1 : Int32), .unset] []))
        refine own_via (fun t kz => XS.aloadN X20.here hx rfl (hb hby at_68) rfl rfl kz) ?_
        show own_Go p e below _ (T20.setTop (mkF m 69 #[oI p0, oI ((p0 &&& (2147483647 : Int32)) % (5 : Int32)), oR aPREDICATE, oI (1 : Int32), .unset] [(.ref aPREDICATE)]))
        obtain ⟨cq21, kq21, qa21, qb21, qc21⟩ := isOf hZ e20 E_PREDICATE
        obtain ⟨_, _, ⟨T21, L21, k21, n21⟩, -, X21, ⟨Lc21, hQ21, l21, y21, z21⟩, st21⟩ := X20.virtualBack hx (y := (⟨"com/example/ashlar/ashlar/Algorithm", "takesBlocks", "()Z"⟩ : MethodName)) (z := (⟨"com/example/ashlar/ashlar/Algorithm", "takesBlocks", "()Z"⟩ : MethodName)) hown (mvT hZ (own_w hw 4)) (mvT hZ (own_w hw 5)) (notFace_of_selects (args := #[]) (mvT hZ (own_w hw 7))) (mvT hZ (own_w hw 7)) (mvT hZ (own_w hw 6)) (by decide) (backOf (W := 0) (rm1 l Z a0 hw [] aPREDICATE aPREDICATE aIMPACT (1 : Int32) h0 n0 Z0 S_PREDICATE S_IMPACT (by unfold f1; rw [if_pos (rfl : aPREDICATE = aPREDICATE)])) hZ (own_w hw 8) (own_w hw 2) (by decide) (by decide)) qa21 qc21 (g := (mkF m 69 #[oI p0, oI ((p0 &&& (2147483647 : Int32)) % (5 : Int32)), oR aPREDICATE, oI (1 : Int32), .unset] [(.ref aPREDICATE)])) rfl (by rw [hml]; rfl) (Steps.refl _) (argsL := []) (rest := []) (lenOf pd_0_0 rfl) rfl (by show 2 * 0 + _ ≤ _; exact Nat.le_of_eq rfl) (hb hby at_69) (fun _ _ => ⟨rfl, e20, (by decide : 0 + 0 ≤ _), (by decide : 0 + 0 ≤ _)⟩)
        dsimp only [Pt.U, Pt.locs, Pt.cells, Pt.slots] at X21 l21 y21 z21 st21 hQ21
        subst l21 y21 z21
        obtain ⟨rfl, Nq21, e21⟩ := hQ21
        have N22 := Fr.app N0 Nq21
        refine own_tr st21 ?_
        show own_Go p e below _ (T21.setTop (mkF m 72 #[oI p0, oI ((p0 &&& (2147483647 : Int32)) % (5 : Int32)), oR aPREDICATE, oI (1 : Int32), .unset] [(.int (1 : Int32))]))
        refine own_via (fun t kz => XS.istore X21.here hx rfl (hb hby at_72) rfl (l' := #[oI p0, oI ((p0 &&& (2147483647 : Int32)) % (5 : Int32)), oR aPREDICATE, oI (1 : Int32), oI (1 : Int32)]) rfl kz) ?_
        show own_Go p e below _ (T21.setTop (mkF m 74 #[oI p0, oI ((p0 &&& (2147483647 : Int32)) % (5 : Int32)), oR aPREDICATE, oI (1 : Int32), oI (1 : Int32)] []))
        refine own_via (fun t kz => XS.iload X21.here hx rfl (hb hby at_74) rfl kz) ?_
        show own_Go p e below _ (T21.setTop (mkF m 76 #[oI p0, oI ((p0 &&& (2147483647 : Int32)) % (5 : Int32)), oR aPREDICATE, oI (1 : Int32), oI (1 : Int32)] [(.int (1 : Int32))]))
        refine own_via (fun t kz => XS.iloadN X21.here hx rfl (hb hby at_76) rfl kz) ?_
        show own_Go p e below _ (T21.setTop (mkF m 77 #[oI p0, oI ((p0 &&& (2147483647 : Int32)) % (5 : Int32)), oR aPREDICATE, oI (1 : Int32), oI (1 : Int32)] [(.int (1 : Int32)), (.int (1 : Int32))]))
        refine own_via (fun t kz => XS.icmpYes X21.here hx rfl (pc0 := 77) (pc' := 82) rfl (hb hby at_77) rfl (teq (by decide : (1 : Int32) = (1 : Int32))).1 (by decide) (by decide) kz) ?_
        show own_Go p e below _ (T21.setTop (mkF m 82 #[oI p0, oI ((p0 &&& (2147483647 : Int32)) % (5 : Int32)), oR aPREDICATE, oI (1 : Int32), oI (1 : Int32)] []))
        refine own_via (fun t kz => XS.aloadN X21.here hx rfl (hb hby at_82) rfl rfl kz) ?_
        show own_Go p e below _ (T21.setTop (mkF m 83 #[oI p0, oI ((p0 &&& (2147483647 : Int32)) % (5 : Int32)), oR aPREDICATE, oI (1 : Int32), oI (1 : Int32)] [(.ref aPREDICATE)]))
        obtain ⟨cq23, kq23, qa23, qb23, qc23⟩ := isOf hZ e21 E_PREDICATE
        obtain ⟨_, _, ⟨T23, L23, k23, n23⟩, -, X23, ⟨Lc23, hQ23, l23, y23, z23⟩, st23⟩ := X21.virtualBack hx (y := (⟨"com/example/ashlar/ashlar/Algorithm", "bounded", "()Z"⟩ : MethodName)) (z := (⟨"com/example/ashlar/ashlar/Algorithm", "bounded", "()Z"⟩ : MethodName)) hown (mvT hZ (own_w hw 13)) (mvT hZ (own_w hw 14)) (notFace_of_selects (args := #[]) (mvT hZ (own_w hw 16))) (mvT hZ (own_w hw 16)) (mvT hZ (own_w hw 15)) (by decide) (backOf (W := 0) (rm2 l Z a0 hw [] aPREDICATE (0 : Int32) (0 : Int32) h0 n0 Z0 rfl F_PREDICATE_bounded (by unfold f2; rfl)) hZ (own_w hw 17) (own_w hw 2) (by decide) (by decide)) qa23 qc23 (g := (mkF m 83 #[oI p0, oI ((p0 &&& (2147483647 : Int32)) % (5 : Int32)), oR aPREDICATE, oI (1 : Int32), oI (1 : Int32)] [(.ref aPREDICATE)])) rfl (by rw [hml]; rfl) (Steps.refl _) (argsL := []) (rest := []) (lenOf pd_0_0 rfl) rfl (by show 2 * 0 + _ ≤ _; exact Nat.le_of_eq rfl) (hb hby at_83) (fun _ _ => ⟨rfl, e21, (by decide : 0 + 0 ≤ _), (by decide : 0 + 0 ≤ _)⟩)
        dsimp only [Pt.U, Pt.locs, Pt.cells, Pt.slots] at X23 l23 y23 z23 st23 hQ23
        subst l23 y23 z23
        obtain ⟨rfl, Nq23, e23⟩ := hQ23
        have N24 := Fr.app N22 Nq23
        refine own_tr st23 ?_
        show own_Go p e below _ (T23.setTop (mkF m 86 #[oI p0, oI ((p0 &&& (2147483647 : Int32)) % (5 : Int32)), oR aPREDICATE, oI (1 : Int32), oI (1 : Int32)] [(.int (0 : Int32))]))
        refine own_via (fun t kz => XS.ifYes X23.here hx rfl (pc0 := 86) (pc' := 96) rfl (hb hby at_86) rfl ((if0 _ _).trans (teq (by decide : (0 : Int32) = (0 : Int32))).1) (by decide) (by decide) kz) ?_
        show own_Go p e below _ (T23.setTop (mkF m 96 #[oI p0, oI ((p0 &&& (2147483647 : Int32)) % (5 : Int32)), oR aPREDICATE, oI (1 : Int32), oI (1 : Int32)] []))
        refine own_via (fun t kz => XS.aloadN X23.here hx rfl (hb hby at_96) rfl rfl kz) ?_
        show own_Go p e below _ (T23.setTop (mkF m 97 #[oI p0, oI ((p0 &&& (2147483647 : Int32)) % (5 : Int32)), oR aPREDICATE, oI (1 : Int32), oI (1 : Int32)] [(.ref aPREDICATE)]))
        obtain ⟨cq25, kq25, qa25, qb25, qc25⟩ := isOf hZ e23 E_PREDICATE
        obtain ⟨_, _, ⟨T25, L25, k25, n25⟩, -, X25, ⟨Lc25, hQ25, l25, y25, z25⟩, st25⟩ := X23.virtualBack hx (y := (⟨"com/example/ashlar/ashlar/Algorithm", "coversByForce", "()Z"⟩ : MethodName)) (z := (⟨"com/example/ashlar/ashlar/Algorithm", "coversByForce", "()Z"⟩ : MethodName)) hown (mvT hZ (own_w hw 20)) (mvT hZ (own_w hw 21)) (notFace_of_selects (args := #[]) (mvT hZ (own_w hw 23))) (mvT hZ (own_w hw 23)) (mvT hZ (own_w hw 22)) (by decide) (backOf (W := 0) (rm3 l Z a0 hw [] aPREDICATE aIMPACT (0 : Int32) h0 n0 Z0 S_IMPACT (by unfold f3; rw [if_neg ne_PREDICATE_IMPACT])) hZ (own_w hw 24) (own_w hw 2) (by decide) (by decide)) qa25 qc25 (g := (mkF m 97 #[oI p0, oI ((p0 &&& (2147483647 : Int32)) % (5 : Int32)), oR aPREDICATE, oI (1 : Int32), oI (1 : Int32)] [(.ref aPREDICATE)])) rfl (by rw [hml]; rfl) (Steps.refl _) (argsL := []) (rest := []) (lenOf pd_0_0 rfl) rfl (by show 2 * 0 + _ ≤ _; exact Nat.le_of_eq rfl) (hb hby at_97) (fun _ _ => ⟨rfl, e23, (by decide : 0 + 0 ≤ _), (by decide : 0 + 0 ≤ _)⟩)
        dsimp only [Pt.U, Pt.locs, Pt.cells, Pt.slots] at X25 l25 y25 z25 st25 hQ25
        subst l25 y25 z25
        obtain ⟨rfl, Nq25, e25⟩ := hQ25
        have N26 := Fr.app N24 Nq25
        refine own_tr st25 ?_
        show own_Go p e below _ (T25.setTop (mkF m 100 #[oI p0, oI ((p0 &&& (2147483647 : Int32)) % (5 : Int32)), oR aPREDICATE, oI (1 : Int32), oI (1 : Int32)] [(.int (0 : Int32))]))
        refine own_via (fun t kz => XS.ifYes X25.here hx rfl (pc0 := 100) (pc' := 110) rfl (hb hby at_100) rfl ((if0 _ _).trans (teq (by decide : (0 : Int32) = (0 : Int32))).1) (by decide) (by decide) kz) ?_
        show own_Go p e below _ (T25.setTop (mkF m 110 #[oI p0, oI ((p0 &&& (2147483647 : Int32)) % (5 : Int32)), oR aPREDICATE, oI (1 : Int32), oI (1 : Int32)] []))
        refine own_via (fun t kz => XS.iconst X25.here hx rfl (hb hby at_110) kz) ?_
        show own_Go p e below _ (T25.setTop (mkF m 111 #[oI p0, oI ((p0 &&& (2147483647 : Int32)) % (5 : Int32)), oR aPREDICATE, oI (1 : Int32), oI (1 : Int32)] [(.int (1 : Int32))]))
        obtain ⟨fs, hr, hrun, hended, hW, hsame⟩ := X25.leave (v := some (.int (1 : Int32))) (fun h => by rw [Bd.returns] at h; cases h)
        refine ⟨_, _, retN X25 hx (t := .boolean) Bd.returns (by simp) (hb hby at_111) hr, hrun, hended, _, _, rfl, ?_, ⟨_, rfl⟩, hW, hsame.mono (by decide) (by decide)⟩
        show Q0 Z p0 aBMC aPREDICATE aIMPACT aKINDUCTION aCONGRUENCE h0 n0 _ T25.heap _
        rw [e25]
        exact ⟨rfl, N26⟩
      · refine own_via (fun t kz => XS.icmpYes X0.here hx rfl (pc0 := 36) (pc' := 48) rfl (hb hby at_36) rfl (feq hc36_19).2 (by decide) (by decide) kz) ?_
        show own_Go p e below _ (s₁.setTop (mkF m 48 #[oI p0, oI ((p0 &&& (2147483647 : Int32)) % (5 : Int32)), .unset, .unset, .unset] []))
        refine own_via (fun t kz => XS.iloadN X0.here hx rfl (hb hby at_48) rfl kz) ?_
        show own_Go p e below _ (s₁.setTop (mkF m 49 #[oI p0, oI ((p0 &&& (2147483647 : Int32)) % (5 : Int32)), .unset, .unset, .unset] [(.int ((p0 &&& (2147483647 : Int32)) % (5 : Int32)))]))
        refine own_via (fun t kz => XS.iconst X0.here hx rfl (hb hby at_49) kz) ?_
        show own_Go p e below _ (s₁.setTop (mkF m 50 #[oI p0, oI ((p0 &&& (2147483647 : Int32)) % (5 : Int32)), .unset, .unset, .unset] [(.int (3 : Int32)), (.int ((p0 &&& (2147483647 : Int32)) % (5 : Int32)))]))
        by_cases hc50_28 : ((p0 &&& (2147483647 : Int32)) % (5 : Int32)) = (3 : Int32)
        · refine own_via (fun t kz => XS.icmpNo X0.here hx rfl (hb hby at_50) rfl (teq hc50_28).2 kz) ?_
          show own_Go p e below _ (s₁.setTop (mkF m 53 #[oI p0, oI ((p0 &&& (2147483647 : Int32)) % (5 : Int32)), .unset, .unset, .unset] []))
          obtain ⟨T29, X29, e29, st29⟩ := getS2 X0 hx hZ hown (host := "") (Or.inl (own_w hw 25)) Via.refl e0 S_IMPACT (g := (mkF m 53 #[oI p0, oI ((p0 &&& (2147483647 : Int32)) % (5 : Int32)), .unset, .unset, .unset] [])) rfl (hb hby at_53)
          refine own_via st29 ?_
          show own_Go p e below _ (T29.setTop (mkF m 56 #[oI p0, oI ((p0 &&& (2147483647 : Int32)) % (5 : Int32)), .unset, .unset, .unset] [(.ref aIMPACT)]))
          refine own_via (fun t kz => XS.astoreN X29.here hx rfl (hb hby at_56) rfl rfl (l' := #[oI p0, oI ((p0 &&& (2147483647 : Int32)) % (5 : Int32)), oR aIMPACT, .unset, .unset]) rfl kz) ?_
          show own_Go p e below _ (T29.setTop (mkF m 57 #[oI p0, oI ((p0 &&& (2147483647 : Int32)) % (5 : Int32)), oR aIMPACT, .unset, .unset] []))
          refine own_via (fun t kz => XS.iconst X29.here hx rfl (hb hby at_57) kz) ?_
          show own_Go p e below _ (T29.setTop (mkF m 58 #[oI p0, oI ((p0 &&& (2147483647 : Int32)) % (5 : Int32)), oR aIMPACT, .unset, .unset] [(.int (1 : Int32))]))
          refine own_via (fun t kz => XS.istoreN X29.here hx rfl (hb hby at_58) rfl (l' := #[oI p0, oI ((p0 &&& (2147483647 : Int32)) % (5 : Int32)), oR aIMPACT, oI (1 : Int32), .unset]) rfl kz) ?_
          show own_Go p e below _ (T29.setTop (mkF m 59 #[oI p0, oI ((p0 &&& (2147483647 : Int32)) % (5 : Int32)), oR aIMPACT, oI (1 : Int32), .unset] []))
          refine own_via (fun t kz => XS.goto X29.here hx rfl (pc0 := 59) (pc' := 68) rfl (hb hby at_59) (by decide) (by decide) kz) ?_
          show own_Go p e below _ (T29.setTop (mkF m 68 #[oI p0, oI ((p0 &&& (2147483647 : Int32)) % (5 : Int32)), oR aIMPACT, oI (1 : Int32), .unset] []))
          refine own_via (fun t kz => XS.aloadN X29.here hx rfl (hb hby at_68) rfl rfl kz) ?_
          show own_Go p e below _ (T29.setTop (mkF m 69 #[oI p0, oI ((p0 &&& (2147483647 : Int32)) % (5 : Int32)), oR aIMPACT, oI (1 : Int32), .unset] [(.ref aIMPACT)]))
          obtain ⟨cq30, kq30, qa30, qb30, qc30⟩ := isOf hZ e29 E_IMPACT
          obtain ⟨_, _, ⟨T30, L30, k30, n30⟩, -, X30, ⟨Lc30, hQ30, l30, y30, z30⟩, st30⟩ := X29.virtualBack hx (y := (⟨"com/example/ashlar/ashlar/Algorithm", "takesBlocks", "()Z"⟩ : MethodName)) (z := (⟨"com/example/ashlar/ashlar/Algorithm", "takesBlocks", "()Z"⟩ : MethodName)) hown (mvT hZ (own_w hw 4)) (mvT hZ (own_w hw 5)) (notFace_of_selects (args := #[]) (mvT hZ (own_w hw 7))) (mvT hZ (own_w hw 7)) (mvT hZ (own_w hw 6)) (by decide) (backOf (W := 0) (rm1 l Z a0 hw [] aIMPACT aPREDICATE aIMPACT (1 : Int32) h0 n0 Z0 S_PREDICATE S_IMPACT (by unfold f1; rw [if_neg (Ne.symm ne_PREDICATE_IMPACT), if_pos (rfl : aIMPACT = aIMPACT)])) hZ (own_w hw 8) (own_w hw 2) (by decide) (by decide)) qa30 qc30 (g := (mkF m 69 #[oI p0, oI ((p0 &&& (2147483647 : Int32)) % (5 : Int32)), oR aIMPACT, oI (1 : Int32), .unset] [(.ref aIMPACT)])) rfl (by rw [hml]; rfl) (Steps.refl _) (argsL := []) (rest := []) (lenOf pd_0_0 rfl) rfl (by show 2 * 0 + _ ≤ _; exact Nat.le_of_eq rfl) (hb hby at_69) (fun _ _ => ⟨rfl, e29, (by decide : 0 + 0 ≤ _), (by decide : 0 + 0 ≤ _)⟩)
          dsimp only [Pt.U, Pt.locs, Pt.cells, Pt.slots] at X30 l30 y30 z30 st30 hQ30
          subst l30 y30 z30
          obtain ⟨rfl, Nq30, e30⟩ := hQ30
          have N31 := Fr.app N0 Nq30
          refine own_tr st30 ?_
          show own_Go p e below _ (T30.setTop (mkF m 72 #[oI p0, oI ((p0 &&& (2147483647 : Int32)) % (5 : Int32)), oR aIMPACT, oI (1 : Int32), .unset] [(.int (1 : Int32))]))
          refine own_via (fun t kz => XS.istore X30.here hx rfl (hb hby at_72) rfl (l' := #[oI p0, oI ((p0 &&& (2147483647 : Int32)) % (5 : Int32)), oR aIMPACT, oI (1 : Int32), oI (1 : Int32)]) rfl kz) ?_
          show own_Go p e below _ (T30.setTop (mkF m 74 #[oI p0, oI ((p0 &&& (2147483647 : Int32)) % (5 : Int32)), oR aIMPACT, oI (1 : Int32), oI (1 : Int32)] []))
          refine own_via (fun t kz => XS.iload X30.here hx rfl (hb hby at_74) rfl kz) ?_
          show own_Go p e below _ (T30.setTop (mkF m 76 #[oI p0, oI ((p0 &&& (2147483647 : Int32)) % (5 : Int32)), oR aIMPACT, oI (1 : Int32), oI (1 : Int32)] [(.int (1 : Int32))]))
          refine own_via (fun t kz => XS.iloadN X30.here hx rfl (hb hby at_76) rfl kz) ?_
          show own_Go p e below _ (T30.setTop (mkF m 77 #[oI p0, oI ((p0 &&& (2147483647 : Int32)) % (5 : Int32)), oR aIMPACT, oI (1 : Int32), oI (1 : Int32)] [(.int (1 : Int32)), (.int (1 : Int32))]))
          refine own_via (fun t kz => XS.icmpYes X30.here hx rfl (pc0 := 77) (pc' := 82) rfl (hb hby at_77) rfl (teq (by decide : (1 : Int32) = (1 : Int32))).1 (by decide) (by decide) kz) ?_
          show own_Go p e below _ (T30.setTop (mkF m 82 #[oI p0, oI ((p0 &&& (2147483647 : Int32)) % (5 : Int32)), oR aIMPACT, oI (1 : Int32), oI (1 : Int32)] []))
          refine own_via (fun t kz => XS.aloadN X30.here hx rfl (hb hby at_82) rfl rfl kz) ?_
          show own_Go p e below _ (T30.setTop (mkF m 83 #[oI p0, oI ((p0 &&& (2147483647 : Int32)) % (5 : Int32)), oR aIMPACT, oI (1 : Int32), oI (1 : Int32)] [(.ref aIMPACT)]))
          obtain ⟨cq32, kq32, qa32, qb32, qc32⟩ := isOf hZ e30 E_IMPACT
          obtain ⟨_, _, ⟨T32, L32, k32, n32⟩, -, X32, ⟨Lc32, hQ32, l32, y32, z32⟩, st32⟩ := X30.virtualBack hx (y := (⟨"com/example/ashlar/ashlar/Algorithm", "bounded", "()Z"⟩ : MethodName)) (z := (⟨"com/example/ashlar/ashlar/Algorithm", "bounded", "()Z"⟩ : MethodName)) hown (mvT hZ (own_w hw 13)) (mvT hZ (own_w hw 14)) (notFace_of_selects (args := #[]) (mvT hZ (own_w hw 16))) (mvT hZ (own_w hw 16)) (mvT hZ (own_w hw 15)) (by decide) (backOf (W := 0) (rm2 l Z a0 hw [] aIMPACT (0 : Int32) (0 : Int32) h0 n0 Z0 rfl F_IMPACT_bounded (by unfold f2; rfl)) hZ (own_w hw 17) (own_w hw 2) (by decide) (by decide)) qa32 qc32 (g := (mkF m 83 #[oI p0, oI ((p0 &&& (2147483647 : Int32)) % (5 : Int32)), oR aIMPACT, oI (1 : Int32), oI (1 : Int32)] [(.ref aIMPACT)])) rfl (by rw [hml]; rfl) (Steps.refl _) (argsL := []) (rest := []) (lenOf pd_0_0 rfl) rfl (by show 2 * 0 + _ ≤ _; exact Nat.le_of_eq rfl) (hb hby at_83) (fun _ _ => ⟨rfl, e30, (by decide : 0 + 0 ≤ _), (by decide : 0 + 0 ≤ _)⟩)
          dsimp only [Pt.U, Pt.locs, Pt.cells, Pt.slots] at X32 l32 y32 z32 st32 hQ32
          subst l32 y32 z32
          obtain ⟨rfl, Nq32, e32⟩ := hQ32
          have N33 := Fr.app N31 Nq32
          refine own_tr st32 ?_
          show own_Go p e below _ (T32.setTop (mkF m 86 #[oI p0, oI ((p0 &&& (2147483647 : Int32)) % (5 : Int32)), oR aIMPACT, oI (1 : Int32), oI (1 : Int32)] [(.int (0 : Int32))]))
          refine own_via (fun t kz => XS.ifYes X32.here hx rfl (pc0 := 86) (pc' := 96) rfl (hb hby at_86) rfl ((if0 _ _).trans (teq (by decide : (0 : Int32) = (0 : Int32))).1) (by decide) (by decide) kz) ?_
          show own_Go p e below _ (T32.setTop (mkF m 96 #[oI p0, oI ((p0 &&& (2147483647 : Int32)) % (5 : Int32)), oR aIMPACT, oI (1 : Int32), oI (1 : Int32)] []))
          refine own_via (fun t kz => XS.aloadN X32.here hx rfl (hb hby at_96) rfl rfl kz) ?_
          show own_Go p e below _ (T32.setTop (mkF m 97 #[oI p0, oI ((p0 &&& (2147483647 : Int32)) % (5 : Int32)), oR aIMPACT, oI (1 : Int32), oI (1 : Int32)] [(.ref aIMPACT)]))
          obtain ⟨cq34, kq34, qa34, qb34, qc34⟩ := isOf hZ e32 E_IMPACT
          obtain ⟨_, _, ⟨T34, L34, k34, n34⟩, -, X34, ⟨Lc34, hQ34, l34, y34, z34⟩, st34⟩ := X32.virtualBack hx (y := (⟨"com/example/ashlar/ashlar/Algorithm", "coversByForce", "()Z"⟩ : MethodName)) (z := (⟨"com/example/ashlar/ashlar/Algorithm", "coversByForce", "()Z"⟩ : MethodName)) hown (mvT hZ (own_w hw 20)) (mvT hZ (own_w hw 21)) (notFace_of_selects (args := #[]) (mvT hZ (own_w hw 23))) (mvT hZ (own_w hw 23)) (mvT hZ (own_w hw 22)) (by decide) (backOf (W := 0) (rm3 l Z a0 hw [] aIMPACT aIMPACT (1 : Int32) h0 n0 Z0 S_IMPACT (by unfold f3; rw [if_pos (rfl : aIMPACT = aIMPACT)])) hZ (own_w hw 24) (own_w hw 2) (by decide) (by decide)) qa34 qc34 (g := (mkF m 97 #[oI p0, oI ((p0 &&& (2147483647 : Int32)) % (5 : Int32)), oR aIMPACT, oI (1 : Int32), oI (1 : Int32)] [(.ref aIMPACT)])) rfl (by rw [hml]; rfl) (Steps.refl _) (argsL := []) (rest := []) (lenOf pd_0_0 rfl) rfl (by show 2 * 0 + _ ≤ _; exact Nat.le_of_eq rfl) (hb hby at_97) (fun _ _ => ⟨rfl, e32, (by decide : 0 + 0 ≤ _), (by decide : 0 + 0 ≤ _)⟩)
          dsimp only [Pt.U, Pt.locs, Pt.cells, Pt.slots] at X34 l34 y34 z34 st34 hQ34
          subst l34 y34 z34
          obtain ⟨rfl, Nq34, e34⟩ := hQ34
          have N35 := Fr.app N33 Nq34
          refine own_tr st34 ?_
          show own_Go p e below _ (T34.setTop (mkF m 100 #[oI p0, oI ((p0 &&& (2147483647 : Int32)) % (5 : Int32)), oR aIMPACT, oI (1 : Int32), oI (1 : Int32)] [(.int (1 : Int32))]))
          refine own_via (fun t kz => XS.ifNo X34.here hx rfl (hb hby at_100) rfl ((if0 _ _).trans (feq (by decide : ¬ ((1 : Int32) = (0 : Int32)))).1) kz) ?_
          show own_Go p e below _ (T34.setTop (mkF m 103 #[oI p0, oI ((p0 &&& (2147483647 : Int32)) % (5 : Int32)), oR aIMPACT, oI (1 : Int32), oI (1 : Int32)] []))
          refine own_via (fun t kz => XS.iload X34.here hx rfl (hb hby at_103) rfl kz) ?_
          show own_Go p e below _ (T34.setTop (mkF m 105 #[oI p0, oI ((p0 &&& (2147483647 : Int32)) % (5 : Int32)), oR aIMPACT, oI (1 : Int32), oI (1 : Int32)] [(.int (1 : Int32))]))
          refine own_via (fun t kz => XS.ifYes X34.here hx rfl (pc0 := 105) (pc' := 110) rfl (hb hby at_105) rfl ((if0 _ _).trans (feq (by decide : ¬ ((1 : Int32) = (0 : Int32)))).2) (by decide) (by decide) kz) ?_
          show own_Go p e below _ (T34.setTop (mkF m 110 #[oI p0, oI ((p0 &&& (2147483647 : Int32)) % (5 : Int32)), oR aIMPACT, oI (1 : Int32), oI (1 : Int32)] []))
          refine own_via (fun t kz => XS.iconst X34.here hx rfl (hb hby at_110) kz) ?_
          show own_Go p e below _ (T34.setTop (mkF m 111 #[oI p0, oI ((p0 &&& (2147483647 : Int32)) % (5 : Int32)), oR aIMPACT, oI (1 : Int32), oI (1 : Int32)] [(.int (1 : Int32))]))
          obtain ⟨fs, hr, hrun, hended, hW, hsame⟩ := X34.leave (v := some (.int (1 : Int32))) (fun h => by rw [Bd.returns] at h; cases h)
          refine ⟨_, _, retN X34 hx (t := .boolean) Bd.returns (by simp) (hb hby at_111) hr, hrun, hended, _, _, rfl, ?_, ⟨_, rfl⟩, hW, hsame.mono (by decide) (by decide)⟩
          show Q0 Z p0 aBMC aPREDICATE aIMPACT aKINDUCTION aCONGRUENCE h0 n0 _ T34.heap _
          rw [e34]
          exact ⟨rfl, N35⟩
        · refine own_via (fun t kz => XS.icmpYes X0.here hx rfl (pc0 := 50) (pc' := 62) rfl (hb hby at_50) rfl (feq hc50_28).2 (by decide) (by decide) kz) ?_
          show own_Go p e below _ (s₁.setTop (mkF m 62 #[oI p0, oI ((p0 &&& (2147483647 : Int32)) % (5 : Int32)), .unset, .unset, .unset] []))
          obtain ⟨T37, X37, e37, st37⟩ := getS2 X0 hx hZ hown (host := "") (Or.inl (own_w hw 28)) Via.refl e0 S_CONGRUENCE (g := (mkF m 62 #[oI p0, oI ((p0 &&& (2147483647 : Int32)) % (5 : Int32)), .unset, .unset, .unset] [])) rfl (hb hby at_62)
          refine own_via st37 ?_
          show own_Go p e below _ (T37.setTop (mkF m 65 #[oI p0, oI ((p0 &&& (2147483647 : Int32)) % (5 : Int32)), .unset, .unset, .unset] [(.ref aCONGRUENCE)]))
          refine own_via (fun t kz => XS.astoreN X37.here hx rfl (hb hby at_65) rfl rfl (l' := #[oI p0, oI ((p0 &&& (2147483647 : Int32)) % (5 : Int32)), oR aCONGRUENCE, .unset, .unset]) rfl kz) ?_
          show own_Go p e below _ (T37.setTop (mkF m 66 #[oI p0, oI ((p0 &&& (2147483647 : Int32)) % (5 : Int32)), oR aCONGRUENCE, .unset, .unset] []))
          refine own_via (fun t kz => XS.iconst X37.here hx rfl (hb hby at_66) kz) ?_
          show own_Go p e below _ (T37.setTop (mkF m 67 #[oI p0, oI ((p0 &&& (2147483647 : Int32)) % (5 : Int32)), oR aCONGRUENCE, .unset, .unset] [(.int (0 : Int32))]))
          refine own_via (fun t kz => XS.istoreN X37.here hx rfl (hb hby at_67) rfl (l' := #[oI p0, oI ((p0 &&& (2147483647 : Int32)) % (5 : Int32)), oR aCONGRUENCE, oI (0 : Int32), .unset]) rfl kz) ?_
          show own_Go p e below _ (T37.setTop (mkF m 68 #[oI p0, oI ((p0 &&& (2147483647 : Int32)) % (5 : Int32)), oR aCONGRUENCE, oI (0 : Int32), .unset] []))
          refine own_via (fun t kz => XS.aloadN X37.here hx rfl (hb hby at_68) rfl rfl kz) ?_
          show own_Go p e below _ (T37.setTop (mkF m 69 #[oI p0, oI ((p0 &&& (2147483647 : Int32)) % (5 : Int32)), oR aCONGRUENCE, oI (0 : Int32), .unset] [(.ref aCONGRUENCE)]))
          obtain ⟨cq38, kq38, qa38, qb38, qc38⟩ := isOf hZ e37 E_CONGRUENCE
          obtain ⟨_, _, ⟨T38, L38, k38, n38⟩, -, X38, ⟨Lc38, hQ38, l38, y38, z38⟩, st38⟩ := X37.virtualBack hx (y := (⟨"com/example/ashlar/ashlar/Algorithm", "takesBlocks", "()Z"⟩ : MethodName)) (z := (⟨"com/example/ashlar/ashlar/Algorithm", "takesBlocks", "()Z"⟩ : MethodName)) hown (mvT hZ (own_w hw 4)) (mvT hZ (own_w hw 5)) (notFace_of_selects (args := #[]) (mvT hZ (own_w hw 7))) (mvT hZ (own_w hw 7)) (mvT hZ (own_w hw 6)) (by decide) (backOf (W := 0) (rm1 l Z a0 hw [] aCONGRUENCE aPREDICATE aIMPACT (0 : Int32) h0 n0 Z0 S_PREDICATE S_IMPACT (by unfold f1; rw [if_neg (Ne.symm ne_PREDICATE_CONGRUENCE), if_neg (Ne.symm ne_IMPACT_CONGRUENCE)])) hZ (own_w hw 8) (own_w hw 2) (by decide) (by decide)) qa38 qc38 (g := (mkF m 69 #[oI p0, oI ((p0 &&& (2147483647 : Int32)) % (5 : Int32)), oR aCONGRUENCE, oI (0 : Int32), .unset] [(.ref aCONGRUENCE)])) rfl (by rw [hml]; rfl) (Steps.refl _) (argsL := []) (rest := []) (lenOf pd_0_0 rfl) rfl (by show 2 * 0 + _ ≤ _; exact Nat.le_of_eq rfl) (hb hby at_69) (fun _ _ => ⟨rfl, e37, (by decide : 0 + 0 ≤ _), (by decide : 0 + 0 ≤ _)⟩)
          dsimp only [Pt.U, Pt.locs, Pt.cells, Pt.slots] at X38 l38 y38 z38 st38 hQ38
          subst l38 y38 z38
          obtain ⟨rfl, Nq38, e38⟩ := hQ38
          have N39 := Fr.app N0 Nq38
          refine own_tr st38 ?_
          show own_Go p e below _ (T38.setTop (mkF m 72 #[oI p0, oI ((p0 &&& (2147483647 : Int32)) % (5 : Int32)), oR aCONGRUENCE, oI (0 : Int32), .unset] [(.int (0 : Int32))]))
          refine own_via (fun t kz => XS.istore X38.here hx rfl (hb hby at_72) rfl (l' := #[oI p0, oI ((p0 &&& (2147483647 : Int32)) % (5 : Int32)), oR aCONGRUENCE, oI (0 : Int32), oI (0 : Int32)]) rfl kz) ?_
          show own_Go p e below _ (T38.setTop (mkF m 74 #[oI p0, oI ((p0 &&& (2147483647 : Int32)) % (5 : Int32)), oR aCONGRUENCE, oI (0 : Int32), oI (0 : Int32)] []))
          refine own_via (fun t kz => XS.iload X38.here hx rfl (hb hby at_74) rfl kz) ?_
          show own_Go p e below _ (T38.setTop (mkF m 76 #[oI p0, oI ((p0 &&& (2147483647 : Int32)) % (5 : Int32)), oR aCONGRUENCE, oI (0 : Int32), oI (0 : Int32)] [(.int (0 : Int32))]))
          refine own_via (fun t kz => XS.iloadN X38.here hx rfl (hb hby at_76) rfl kz) ?_
          show own_Go p e below _ (T38.setTop (mkF m 77 #[oI p0, oI ((p0 &&& (2147483647 : Int32)) % (5 : Int32)), oR aCONGRUENCE, oI (0 : Int32), oI (0 : Int32)] [(.int (0 : Int32)), (.int (0 : Int32))]))
          refine own_via (fun t kz => XS.icmpYes X38.here hx rfl (pc0 := 77) (pc' := 82) rfl (hb hby at_77) rfl (teq (by decide : (0 : Int32) = (0 : Int32))).1 (by decide) (by decide) kz) ?_
          show own_Go p e below _ (T38.setTop (mkF m 82 #[oI p0, oI ((p0 &&& (2147483647 : Int32)) % (5 : Int32)), oR aCONGRUENCE, oI (0 : Int32), oI (0 : Int32)] []))
          refine own_via (fun t kz => XS.aloadN X38.here hx rfl (hb hby at_82) rfl rfl kz) ?_
          show own_Go p e below _ (T38.setTop (mkF m 83 #[oI p0, oI ((p0 &&& (2147483647 : Int32)) % (5 : Int32)), oR aCONGRUENCE, oI (0 : Int32), oI (0 : Int32)] [(.ref aCONGRUENCE)]))
          obtain ⟨cq40, kq40, qa40, qb40, qc40⟩ := isOf hZ e38 E_CONGRUENCE
          obtain ⟨_, _, ⟨T40, L40, k40, n40⟩, -, X40, ⟨Lc40, hQ40, l40, y40, z40⟩, st40⟩ := X38.virtualBack hx (y := (⟨"com/example/ashlar/ashlar/Algorithm", "bounded", "()Z"⟩ : MethodName)) (z := (⟨"com/example/ashlar/ashlar/Algorithm", "bounded", "()Z"⟩ : MethodName)) hown (mvT hZ (own_w hw 13)) (mvT hZ (own_w hw 14)) (notFace_of_selects (args := #[]) (mvT hZ (own_w hw 16))) (mvT hZ (own_w hw 16)) (mvT hZ (own_w hw 15)) (by decide) (backOf (W := 0) (rm2 l Z a0 hw [] aCONGRUENCE (0 : Int32) (0 : Int32) h0 n0 Z0 rfl F_CONGRUENCE_bounded (by unfold f2; rfl)) hZ (own_w hw 17) (own_w hw 2) (by decide) (by decide)) qa40 qc40 (g := (mkF m 83 #[oI p0, oI ((p0 &&& (2147483647 : Int32)) % (5 : Int32)), oR aCONGRUENCE, oI (0 : Int32), oI (0 : Int32)] [(.ref aCONGRUENCE)])) rfl (by rw [hml]; rfl) (Steps.refl _) (argsL := []) (rest := []) (lenOf pd_0_0 rfl) rfl (by show 2 * 0 + _ ≤ _; exact Nat.le_of_eq rfl) (hb hby at_83) (fun _ _ => ⟨rfl, e38, (by decide : 0 + 0 ≤ _), (by decide : 0 + 0 ≤ _)⟩)
          dsimp only [Pt.U, Pt.locs, Pt.cells, Pt.slots] at X40 l40 y40 z40 st40 hQ40
          subst l40 y40 z40
          obtain ⟨rfl, Nq40, e40⟩ := hQ40
          have N41 := Fr.app N39 Nq40
          refine own_tr st40 ?_
          show own_Go p e below _ (T40.setTop (mkF m 86 #[oI p0, oI ((p0 &&& (2147483647 : Int32)) % (5 : Int32)), oR aCONGRUENCE, oI (0 : Int32), oI (0 : Int32)] [(.int (0 : Int32))]))
          refine own_via (fun t kz => XS.ifYes X40.here hx rfl (pc0 := 86) (pc' := 96) rfl (hb hby at_86) rfl ((if0 _ _).trans (teq (by decide : (0 : Int32) = (0 : Int32))).1) (by decide) (by decide) kz) ?_
          show own_Go p e below _ (T40.setTop (mkF m 96 #[oI p0, oI ((p0 &&& (2147483647 : Int32)) % (5 : Int32)), oR aCONGRUENCE, oI (0 : Int32), oI (0 : Int32)] []))
          refine own_via (fun t kz => XS.aloadN X40.here hx rfl (hb hby at_96) rfl rfl kz) ?_
          show own_Go p e below _ (T40.setTop (mkF m 97 #[oI p0, oI ((p0 &&& (2147483647 : Int32)) % (5 : Int32)), oR aCONGRUENCE, oI (0 : Int32), oI (0 : Int32)] [(.ref aCONGRUENCE)]))
          obtain ⟨cq42, kq42, qa42, qb42, qc42⟩ := isOf hZ e40 E_CONGRUENCE
          obtain ⟨_, _, ⟨T42, L42, k42, n42⟩, -, X42, ⟨Lc42, hQ42, l42, y42, z42⟩, st42⟩ := X40.virtualBack hx (y := (⟨"com/example/ashlar/ashlar/Algorithm", "coversByForce", "()Z"⟩ : MethodName)) (z := (⟨"com/example/ashlar/ashlar/Algorithm", "coversByForce", "()Z"⟩ : MethodName)) hown (mvT hZ (own_w hw 20)) (mvT hZ (own_w hw 21)) (notFace_of_selects (args := #[]) (mvT hZ (own_w hw 23))) (mvT hZ (own_w hw 23)) (mvT hZ (own_w hw 22)) (by decide) (backOf (W := 0) (rm3 l Z a0 hw [] aCONGRUENCE aIMPACT (0 : Int32) h0 n0 Z0 S_IMPACT (by unfold f3; rw [if_neg (Ne.symm ne_IMPACT_CONGRUENCE)])) hZ (own_w hw 24) (own_w hw 2) (by decide) (by decide)) qa42 qc42 (g := (mkF m 97 #[oI p0, oI ((p0 &&& (2147483647 : Int32)) % (5 : Int32)), oR aCONGRUENCE, oI (0 : Int32), oI (0 : Int32)] [(.ref aCONGRUENCE)])) rfl (by rw [hml]; rfl) (Steps.refl _) (argsL := []) (rest := []) (lenOf pd_0_0 rfl) rfl (by show 2 * 0 + _ ≤ _; exact Nat.le_of_eq rfl) (hb hby at_97) (fun _ _ => ⟨rfl, e40, (by decide : 0 + 0 ≤ _), (by decide : 0 + 0 ≤ _)⟩)
          dsimp only [Pt.U, Pt.locs, Pt.cells, Pt.slots] at X42 l42 y42 z42 st42 hQ42
          subst l42 y42 z42
          obtain ⟨rfl, Nq42, e42⟩ := hQ42
          have N43 := Fr.app N41 Nq42
          refine own_tr st42 ?_
          show own_Go p e below _ (T42.setTop (mkF m 100 #[oI p0, oI ((p0 &&& (2147483647 : Int32)) % (5 : Int32)), oR aCONGRUENCE, oI (0 : Int32), oI (0 : Int32)] [(.int (0 : Int32))]))
          refine own_via (fun t kz => XS.ifYes X42.here hx rfl (pc0 := 100) (pc' := 110) rfl (hb hby at_100) rfl ((if0 _ _).trans (teq (by decide : (0 : Int32) = (0 : Int32))).1) (by decide) (by decide) kz) ?_
          show own_Go p e below _ (T42.setTop (mkF m 110 #[oI p0, oI ((p0 &&& (2147483647 : Int32)) % (5 : Int32)), oR aCONGRUENCE, oI (0 : Int32), oI (0 : Int32)] []))
          refine own_via (fun t kz => XS.iconst X42.here hx rfl (hb hby at_110) kz) ?_
          show own_Go p e below _ (T42.setTop (mkF m 111 #[oI p0, oI ((p0 &&& (2147483647 : Int32)) % (5 : Int32)), oR aCONGRUENCE, oI (0 : Int32), oI (0 : Int32)] [(.int (1 : Int32))]))
          obtain ⟨fs, hr, hrun, hended, hW, hsame⟩ := X42.leave (v := some (.int (1 : Int32))) (fun h => by rw [Bd.returns] at h; cases h)
          refine ⟨_, _, retN X42 hx (t := .boolean) Bd.returns (by simp) (hb hby at_111) hr, hrun, hended, _, _, rfl, ?_, ⟨_, rfl⟩, hW, hsame.mono (by decide) (by decide)⟩
          show Q0 Z p0 aBMC aPREDICATE aIMPACT aKINDUCTION aCONGRUENCE h0 n0 _ T42.heap _
          rw [e42]
          exact ⟨rfl, N43⟩
set_option maxRecDepth 65536 in
set_option maxHeartbeats 40000000 in
theorem comes_1 {Post : Tables → Env → Array Value → State → Outcome → State → Prop} (hpost : ∀ tb e args s v u, (limb_1_1.after args s (.returned v) u = true ∧ limb_1_2.after args s (.returned v) u = true ∧ True) → FrameEnd s (.returned v) u (Jvm.fieldLocs frame_1_writes args s ++ Jvm.arrayLocs frame_1_arrays args s ++ Jvm.staticLocs frame_1_statics s) 0 0 → Post tb e args s (.returned v) u) :
    ArmFor flags0 classFile x code maxLocals ret World_1 tables_1 room_1 Calls_1 rest_1 Pre_1 Post := by
  intro l hfl _ _ p e ha hc hk s m args below hf hA hF happ hP
  obtain ⟨hcalls, hrest, hpre⟩ := hP
  obtain ⟨-, -, -, hnamed, -, -, -, hat⟩ := (Spec.applies_iff hf).mp happ
  obtain ⟨hg, hn⟩ := and_e (Cond.before_iff.mp (show (Jvm.Cond.and given_1 narrow_1).before args s = true from hpre))
  obtain ⟨g1, g2⟩ := and_e hg
  obtain ⟨w0, rfl⟩ : ∃ w0 : Value, args = #[w0] := by
    have hs : args.size = 1 := by simpa [Cond.value, given_1] using g1
    obtain ⟨L⟩ := args
    match L, hs with
    | [w0], _ => exact ⟨w0, rfl⟩
  have hw := fun d (hd : d ∈ tables_1) => atoms_spec (ws := Jvm.Cond.code x code maxLocals ret :: tables_1) hat d (List.mem_cons_of_mem _ hd)
  obtain ⟨i0, ei0⟩ := is_v g2
  obtain rfl : w0 = (.int i0) := Option.some.inj ei0
  obtain ⟨nr1, nr2⟩ := and_e hn
  obtain ⟨nr3, nr4⟩ := and_e nr2
  obtain ⟨nr5, nr6⟩ := and_e nr4
  obtain ⟨nr7, nr8⟩ := and_e nr6
  obtain ⟨nr9, nr10⟩ := and_e nr8
  obtain ⟨nr11, nr12⟩ := and_e nr10
  obtain ⟨nr13, nr14⟩ := and_e nr12
  obtain ⟨nr15, nr16⟩ := and_e nr14
  obtain ⟨nr17, nr18⟩ := and_e nr16
  obtain ⟨nr19, nr20⟩ := and_e nr18
  obtain ⟨nr21, nr22⟩ := and_e nr20
  obtain ⟨nr23, nr24⟩ := and_e nr22
  obtain ⟨nr25, nr26⟩ := and_e nr24
  obtain ⟨nr27, nr28⟩ := and_e nr26
  obtain ⟨aBMC, evBMC⟩ := exa_v nr1
  have E_BMC := Exa.start evBMC nr1
  have S_BMC := Sta.start evBMC (Or.inr ⟨(own_w hw 2), (own_w hw 3)⟩)
  obtain ⟨aPREDICATE, evPREDICATE⟩ := exa_v nr3
  have E_PREDICATE := Exa.start evPREDICATE nr3
  have S_PREDICATE := Sta.start evPREDICATE (Or.inr ⟨(own_w hw 2), (own_w hw 10)⟩)
  obtain ⟨aIMPACT, evIMPACT⟩ := exa_v nr9
  have E_IMPACT := Exa.start evIMPACT nr9
  have S_IMPACT := Sta.start evIMPACT (Or.inr ⟨(own_w hw 2), (own_w hw 12)⟩)
  obtain ⟨aKINDUCTION, evKINDUCTION⟩ := exa_v nr17
  have E_KINDUCTION := Exa.start evKINDUCTION nr17
  have S_KINDUCTION := Sta.start evKINDUCTION (Or.inr ⟨(own_w hw 2), (own_w hw 27)⟩)
  obtain ⟨aCONGRUENCE, evCONGRUENCE⟩ := exa_v nr23
  have E_CONGRUENCE := Exa.start evCONGRUENCE nr23
  have S_CONGRUENCE := Sta.start evCONGRUENCE (Or.inr ⟨(own_w hw 2), (own_w hw 29)⟩)
  have F_BMC_ordinal := own_fld evBMC nr5
  have F_PREDICATE_ordinal := own_fld evPREDICATE nr7
  have F_IMPACT_ordinal := own_fld evIMPACT nr11
  have F_BMC_bounded := own_fld evBMC nr13
  have F_IMPACT_bounded := own_fld evIMPACT nr15
  have F_KINDUCTION_ordinal := own_fld evKINDUCTION nr19
  have F_KINDUCTION_bounded := own_fld evKINDUCTION nr21
  have F_CONGRUENCE_ordinal := own_fld evCONGRUENCE nr25
  have F_CONGRUENCE_bounded := own_fld evCONGRUENCE nr27
  have F_PREDICATE_bounded := own_fld evPREDICATE nr28
  obtain ⟨n, o, h1, h2, h3, _, L, rfl, ⟨rfl, N⟩, hq⟩ := rm0 l s _ hw tables_1 i0 aBMC aPREDICATE aIMPACT aKINDUCTION aCONGRUENCE s.heap s.heap.size (Nat.le_refl _) E_BMC S_BMC E_PREDICATE S_PREDICATE E_IMPACT S_IMPACT E_KINDUCTION S_KINDUCTION E_CONGRUENCE S_CONGRUENCE F_BMC_ordinal F_PREDICATE_ordinal F_IMPACT_ordinal F_BMC_bounded F_IMPACT_bounded F_KINDUCTION_ordinal F_KINDUCTION_bounded F_CONGRUENCE_ordinal F_CONGRUENCE_bounded F_PREDICATE_bounded (Fld.ne F_BMC_ordinal F_PREDICATE_ordinal (own_int_ne (by decide))) (Fld.ne F_BMC_ordinal F_IMPACT_ordinal (own_int_ne (by decide))) (Fld.ne F_BMC_ordinal F_KINDUCTION_ordinal (own_int_ne (by decide))) (Fld.ne F_BMC_ordinal F_CONGRUENCE_ordinal (own_int_ne (by decide))) (Fld.ne F_PREDICATE_ordinal F_IMPACT_ordinal (own_int_ne (by decide))) (Fld.ne F_PREDICATE_ordinal F_KINDUCTION_ordinal (own_int_ne (by decide))) (Fld.ne F_PREDICATE_ordinal F_CONGRUENCE_ordinal (own_int_ne (by decide))) (Fld.ne F_IMPACT_ordinal F_KINDUCTION_ordinal (own_int_ne (by decide))) (Fld.ne F_IMPACT_ordinal F_CONGRUENCE_ordinal (own_int_ne (by decide))) (Fld.ne F_KINDUCTION_ordinal F_CONGRUENCE_ordinal (own_int_ne (by decide))) p e ha hc hk s m _ below hf ((Spec.applies_iff_loose hf).mp happ).1 ⟨rfl, State.Warmed39.refl s, rfl⟩ trivial
  refine ⟨n, _, h1, h2, h3, hpost _ _ _ _ _ _ ⟨Cond.after_iff.mpr rfl, Cond.after_iff.mpr (eq_i res_at (Term.int_eval (1)) rfl), trivial⟩ ⟨hq.1, hq.2.1, (hq.2.2.sift fun y hy => Or.inr (N y hy)).mono (by decide) (by decide)⟩⟩
theorem main_1_1 : Claimed_1_1 := comes_1 fun _ _ _ _ _ _ h hF => ⟨h.1, hF⟩
theorem main_1_2 : Claimed_1_2 := comes_1 fun _ _ _ _ _ _ h hF => ⟨h.2.1, hF⟩
end Jvm.Pilot.@@N@@
namespace Jvm.Pilot.@@N@@
open Jvm Jvm.ClassFile Sem Op Lib Jvm.Free Jvm.Stand Jvm.Pilot.@@N@@.Jvm.D
/-! MADE BY PROGRAM (witnessworld.py) out of the Statement's table words and the real class files: 12 classes; the members and pool entries that the words name. The judged class is class 1, her method 1. -/
namespace start1
open Jvm.ClassFile
def u (s : String) : CpInfo := .utf8 (stringToUtf16 s)
/-- a pool by its gaps: so many unusable entries, then the entry; so many at the end -/
def gap : Nat → List CpInfo → List CpInfo
  | 0, r => r
  | n + 1, r => .unusable :: gap n r
def poolList (es : List (Nat × CpInfo)) (last : Nat) : List CpInfo := es.foldr (fun e r => gap e.1 (e.2 :: r)) (gap last [])
def pool (es : List (Nat × CpInfo)) (last : Nat) : Array CpInfo := ⟨poolList es last⟩
def fileOf (pool : Array CpInfo) (this : Nat) (attrs : Array Attribute := #[]) (ms : Array MethodInfo := #[]) (fl : Nat := 33) (sup : Nat := 0) (ifs : Array Nat := #[]) (fds : Array FieldInfo := #[]) : ClassFile where
  minorVersion := 0
  majorVersion := 65
  constantPool := pool
  accessFlags := fl
  thisClass := this
  superClass := sup
  interfaces := ifs
  fields := fds
  methods := ms
  attributes := attrs
def plain (name : String) (sup : Option ClassId) : Class where
  name := name
  kind := .ordinary
  loader := none
  accessFlags := 33
  super := sup
  interfaces := #[]
  cf := none
  fields := #[]
  methods := #[]
  instanceTypes := #[]
  staticTypes := #[]
  resolved := #[]
  callSites := []
  init := .initialized
  statics := none
  mirror := none

def pool0 : Array CpInfo := pool [(5, u "<init>"), (0, u "()V"), (1, .class_ 10), (1, u "java/lang/Object")] 113

def k0m0 : Method := { name := "<init>", desc := "()V", sig := { parameters := [], returnType := none }, accessFlags := 1, code := none }
/-- java/lang/Object -/
def k0 : Class := { plain "java/lang/Object" none with
  accessFlags := 33
  interfaces := #[]
  cf := some (fileOf pool0 8 #[] #[{ accessFlags := 1, nameIndex := 5, descriptorIndex := 6, attributes := #[] }] 33 0 #[] #[])
  fields := #[]
  methods := #[k0m0]
  instanceTypes := #[]
  staticTypes := #[]
  resolved := Array.replicate 124 none
  statics := none }

def pool1 : Array CpInfo := pool [(2, .class_ 4), (1, u "java/lang/Object"), (0, u "<init>"), (0, u "()V"), (0, .integer 2147483647), (0, .fieldref 9 10), (0, .class_ 11), (0, .nameAndType 12 13), (0, u "com/example/ashlar/ashlar/Algorithm"), (0, u "BMC"), (0, u "Lcom/example/ashlar/ashlar/Algorithm;"), (0, .fieldref 9 15), (0, .nameAndType 16 13), (0, u "KINDUCTION"), (0, .fieldref 9 18), (0, .nameAndType 19 13), (0, u "PREDICATE"), (0, .fieldref 9 21), (0, .nameAndType 22 13), (0, u "IMPACT"), (0, .fieldref 9 24), (0, .nameAndType 25 13), (0, u "CONGRUENCE"), (0, .methodref 9 27), (0, .nameAndType 28 29), (0, u "takesBlocks"), (0, u "()Z"), (0, .methodref 9 31), (0, .nameAndType 32 29), (0, u "bounded"), (0, .methodref 9 34), (0, .nameAndType 35 29), (0, u "coversByForce"), (0, .class_ 37), (0, u "com/example/ashlar/ashlar/AlgorithmTakesBlocksPinLaw"), (2, u "law"), (0, u "(I)Z")] 3

def k1m0 : Method := { name := "<init>", desc := "()V", sig := { parameters := [], returnType := none }, accessFlags := 1, code := none }
def k1c1 : Code := { maxStack := 2, maxLocals := 5, code := code, exceptionTable := #[], attributes := #[] }
def k1m1 : Method := { name := "law", desc := "(I)Z", sig := { parameters := [.int], returnType := some .boolean }, accessFlags := 9, code := some k1c1 }
/-- com/example/ashlar/ashlar/AlgorithmTakesBlocksPinLaw -/
def k1 : Class := { plain "com/example/ashlar/ashlar/AlgorithmTakesBlocksPinLaw" (some 0) with
  accessFlags := 49
  interfaces := #[]
  cf := some (fileOf pool1 36 #[] #[{ accessFlags := 1, nameIndex := 5, descriptorIndex := 6, attributes := #[] }, { accessFlags := 9, nameIndex := 40, descriptorIndex := 41, attributes := #[] }] 49 2 #[] #[])
  fields := #[]
  methods := #[k1m0, k1m1]
  instanceTypes := #[]
  staticTypes := #[]
  resolved := Array.replicate 45 none
  statics := none }

def pool2 : Array CpInfo := pool [(1, .class_ 2), (0, u "java/lang/constant/Constable"), (0, .class_ 4), (0, u "java/lang/Object")] 6

/-- java/lang/constant/Constable -/
def k2 : Class := { plain "java/lang/constant/Constable" (some 0) with
  accessFlags := 1537
  interfaces := #[]
  cf := some (fileOf pool2 1 #[] #[] 1537 3 #[] #[])
  fields := #[]
  methods := #[]
  instanceTypes := #[]
  staticTypes := #[]
  resolved := Array.replicate 11 none
  statics := none }

def pool3 : Array CpInfo := pool [(1, .class_ 2), (0, u "java/lang/Comparable"), (0, .class_ 4), (0, u "java/lang/Object")] 7

/-- java/lang/Comparable -/
def k3 : Class := { plain "java/lang/Comparable" (some 0) with
  accessFlags := 1537
  interfaces := #[]
  cf := some (fileOf pool3 1 #[] #[] 1537 3 #[] #[])
  fields := #[]
  methods := #[]
  instanceTypes := #[]
  staticTypes := #[]
  resolved := Array.replicate 12 none
  statics := none }

def pool4 : Array CpInfo := pool [(1, .class_ 2), (0, u "java/io/Serializable"), (0, .class_ 4), (0, u "java/lang/Object")] 2

/-- java/io/Serializable -/
def k4 : Class := { plain "java/io/Serializable" (some 0) with
  accessFlags := 1537
  interfaces := #[]
  cf := some (fileOf pool4 1 #[] #[] 1537 3 #[] #[])
  fields := #[]
  methods := #[]
  instanceTypes := #[]
  staticTypes := #[]
  resolved := Array.replicate 7 none
  statics := none }

def pool5 : Array CpInfo := pool [(2, .class_ 4), (1, u "java/lang/Enum"), (0, u "name"), (0, u "Ljava/lang/String;"), (2, u "ordinal"), (0, u "I"), (1, .class_ 14), (1, u "java/lang/Object"), (4, u "hash"), (86, .class_ 108), (1, u "java/lang/Enum$EnumDesc"), (2, .class_ 112), (0, u "java/lang/constant/Constable"), (0, .class_ 114), (0, u "java/lang/Comparable"), (0, .class_ 116), (0, u "java/io/Serializable")] 87

/-- java/lang/Enum -/
def k5 : Class := { plain "java/lang/Enum" (some 0) with
  accessFlags := 1057
  interfaces := #[2, 3, 4]
  cf := some (fileOf pool5 2 #[.nestMembers #[106]] #[] 1057 12 #[111, 113, 115] #[{ accessFlags := 18, nameIndex := 5, descriptorIndex := 6, attributes := #[] }, { accessFlags := 18, nameIndex := 9, descriptorIndex := 10, attributes := #[] }, { accessFlags := 2, nameIndex := 19, descriptorIndex := 10, attributes := #[] }])
  fields := #[{ name := "name", type := (.object "java/lang/String"), accessFlags := 18, slot := 0, constantValue := 0 }, { name := "ordinal", type := .int, accessFlags := 18, slot := 1, constantValue := 0 }, { name := "hash", type := .int, accessFlags := 2, slot := 2, constantValue := 0 }]
  methods := #[]
  instanceTypes := #[(.object "java/lang/String"), .int, .int]
  staticTypes := #[]
  resolved := Array.replicate 204 none
  statics := none }

def pool6 : Array CpInfo := pool [(1, .class_ 2), (0, u "com/example/ashlar/ashlar/Algorithm"), (2, u "BMC"), (0, u "Lcom/example/ashlar/ashlar/Algorithm;"), (2, u "KINDUCTION"), (0, .fieldref 1 11), (0, .nameAndType 12 6), (0, u "PREDICATE"), (0, .fieldref 1 14), (0, .nameAndType 15 6), (0, u "IMPACT"), (2, u "CONGRUENCE"), (2, u "$VALUES"), (0, u "[Lcom/example/ashlar/ashlar/Algorithm;"), (6, .class_ 31), (1, u "java/lang/Enum"), (8, u "optionName"), (0, u "Ljava/lang/String;"), (0, .fieldref 1 43), (0, .nameAndType 44 45), (0, u "bounded"), (0, u "Z"), (81, u "()Z"), (0, u "takesBlocks"), (0, u "coversByForce")] 27

def k6c0 : Code := { maxStack := 1, maxLocals := 1, code := prog_1_method_6_code, exceptionTable := #[], attributes := #[] }
def k6m0 : Method := { name := "bounded", desc := "()Z", sig := { parameters := [], returnType := some .boolean }, accessFlags := 0, code := some k6c0 }
def k6c1 : Code := { maxStack := 2, maxLocals := 1, code := prog_1_method_7_code, exceptionTable := #[], attributes := #[] }
def k6m1 : Method := { name := "takesBlocks", desc := "()Z", sig := { parameters := [], returnType := some .boolean }, accessFlags := 0, code := some k6c1 }
def k6c2 : Code := { maxStack := 2, maxLocals := 1, code := prog_1_method_8_code, exceptionTable := #[], attributes := #[] }
def k6m2 : Method := { name := "coversByForce", desc := "()Z", sig := { parameters := [], returnType := some .boolean }, accessFlags := 0, code := some k6c2 }
/-- com/example/ashlar/ashlar/Algorithm -/
def k6 : Class := { plain "com/example/ashlar/ashlar/Algorithm" (some 5) with
  accessFlags := 16432
  interfaces := #[]
  cf := some (fileOf pool6 1 #[] #[{ accessFlags := 0, nameIndex := 44, descriptorIndex := 127, attributes := #[] }, { accessFlags := 0, nameIndex := 128, descriptorIndex := 127, attributes := #[] }, { accessFlags := 0, nameIndex := 129, descriptorIndex := 127, attributes := #[] }] 16432 29 #[] #[{ accessFlags := 16409, nameIndex := 5, descriptorIndex := 6, attributes := #[] }, { accessFlags := 16409, nameIndex := 9, descriptorIndex := 6, attributes := #[] }, { accessFlags := 16409, nameIndex := 12, descriptorIndex := 6, attributes := #[] }, { accessFlags := 16409, nameIndex := 15, descriptorIndex := 6, attributes := #[] }, { accessFlags := 16409, nameIndex := 18, descriptorIndex := 6, attributes := #[] }, { accessFlags := 18, nameIndex := 40, descriptorIndex := 41, attributes := #[] }, { accessFlags := 18, nameIndex := 44, descriptorIndex := 45, attributes := #[] }, { accessFlags := 4122, nameIndex := 21, descriptorIndex := 22, attributes := #[] }])
  fields := #[{ name := "BMC", type := (.object "com/example/ashlar/ashlar/Algorithm"), accessFlags := 16409, slot := 0, constantValue := 0 }, { name := "KINDUCTION", type := (.object "com/example/ashlar/ashlar/Algorithm"), accessFlags := 16409, slot := 1, constantValue := 0 }, { name := "PREDICATE", type := (.object "com/example/ashlar/ashlar/Algorithm"), accessFlags := 16409, slot := 2, constantValue := 0 }, { name := "IMPACT", type := (.object "com/example/ashlar/ashlar/Algorithm"), accessFlags := 16409, slot := 3, constantValue := 0 }, { name := "CONGRUENCE", type := (.object "com/example/ashlar/ashlar/Algorithm"), accessFlags := 16409, slot := 4, constantValue := 0 }, { name := "optionName", type := (.object "java/lang/String"), accessFlags := 18, slot := 3, constantValue := 0 }, { name := "bounded", type := .boolean, accessFlags := 18, slot := 4, constantValue := 0 }, { name := "$VALUES", type := (.array (.object "com/example/ashlar/ashlar/Algorithm")), accessFlags := 4122, slot := 5, constantValue := 0 }]
  methods := #[k6m0, k6m1, k6m2]
  instanceTypes := #[(.object "java/lang/String"), .int, .int, (.object "java/lang/String"), .boolean]
  staticTypes := #[(.object "com/example/ashlar/ashlar/Algorithm"), (.object "com/example/ashlar/ashlar/Algorithm"), (.object "com/example/ashlar/ashlar/Algorithm"), (.object "com/example/ashlar/ashlar/Algorithm"), (.object "com/example/ashlar/ashlar/Algorithm"), (.array (.object "com/example/ashlar/ashlar/Algorithm"))]
  resolved := Array.replicate 157 none
  statics := some 0 }

def pool7 : Array CpInfo := pool [(1, u "java/lang/Cloneable"), (0, .class_ 1), (0, u "java/lang/Object"), (0, .class_ 3)] 3

/-- java/lang/Cloneable -/
def k7 : Class := { plain "java/lang/Cloneable" (some 0) with
  accessFlags := 1537
  interfaces := #[]
  cf := some (fileOf pool7 2 #[] #[] 1537 4 #[] #[])
  fields := #[]
  methods := #[]
  instanceTypes := #[]
  staticTypes := #[]
  resolved := Array.replicate 8 none
  statics := none }

/-- the primitive byte -/
def k8 : Class := { plain "byte" none with kind := .primitive 'B', accessFlags := 0x411 }
/-- [B -/
def k9 : Class := { plain "[B" (some 0) with kind := .array 8 .byte, interfaces := #[7, 4], accessFlags := 1041 }

/-- the primitive int -/
def k10 : Class := { plain "int" none with kind := .primitive 'I', accessFlags := 0x411 }
/-- [I -/
def k11 : Class := { plain "[I" (some 0) with kind := .array 10 .int, interfaces := #[7, 4], accessFlags := 1041 }

def heap : Heap := #[{ cls := 6, slots := #[.ref 1, .ref 4, .ref 2, .ref 3, .ref 5, .null], vm := .statics 6 },
  { cls := 6, slots := #[.null, .int 0, .int 0, .null, .int 1], vm := .none },
  { cls := 6, slots := #[.null, .int 2, .int 0, .null, .int 0], vm := .none },
  { cls := 6, slots := #[.null, .int 3, .int 0, .null, .int 0], vm := .none },
  { cls := 6, slots := #[.null, .int 1, .int 0, .null, .int 1], vm := .none },
  { cls := 6, slots := #[.null, .int 4, .int 0, .null, .int 0], vm := .none }]
def classes : Array Class := #[k0, k1, k2, k3, k4, k5, k6, k7, k8, k9, k10, k11]
def interned : List (Array UInt16 × Addr) := []
def slotsUsed : Nat := 31
def theMethod : MethodId := ⟨1, 1⟩
def args0 : Array Value := #[.int 5]
def aboutOver (below : List Frame) : State where
  vm := { classes := classes, interned := interned.toArray }
  heap := heap
  slotsUsed := slotsUsed
  threads := #[{ frames := .invoking theMethod args0 :: below }]
def below0 : List Frame := [.native { method := ⟨0, 0⟩, args := #[] }]
def about1 : State := aboutOver below0
def p0 : Program := .bare "" "" ""
def e0 : Env := launch0.env 0 0 0
theorem w_frames : about1.frames = Frame.invoking theMethod args0 :: below0 := rfl
set_option maxRecDepth 65536 in
theorem w_args : argsFit about1.vm theMethod args0 = true := by decide +kernel
set_option maxRecDepth 65536 in
theorem w_heap : heapFits about1 = true := by decide +kernel
set_option maxRecDepth 65536 in
theorem w_runnable : about1.curStatus? = some .runnable := by decide +kernel
set_option maxRecDepth 65536 in
theorem w_alone : about1.alone = true := by decide +kernel
set_option maxRecDepth 65536 in
theorem w_named : about1.methodNamed? x = some theMethod := by decide +kernel
set_option maxRecDepth 65536 in
theorem w_hears : about1.hears theMethod below0 = true := by decide +kernel
set_option maxRecDepth 65536 in
theorem w_ripe : about1.ripe theMethod args0 below0 = true := by decide +kernel
theorem w_running : about1.status = .running := rfl
set_option maxRecDepth 65536 in
theorem w_room : about1.hasRoom e0.platform room_1 = true :=
  launch0.hasRoom_least _ room_1 (by decide +kernel) (by decide +kernel) (by decide +kernel) (by decide +kernel) (by decide +kernel) (by decide +kernel)
theorem allAtoms_all (ts : List Jvm.Cond) (a : Array Jvm.Value) (st : Jvm.State) : (allAtoms ts).before a st = ts.all (fun c => c.before a st) := by
  induction ts with
  | nil => rfl
  | cons c t ih =>
    show (Jvm.Cond.and c (allAtoms t)).before a st = _
    rw [Jvm.Cond.before_and, ih, List.all_cons]
def words1 : List Jvm.Cond := Jvm.Cond.code x code maxLocals ret :: tables_1
/-- a 'code' word, met by the world's own term for the bytes: nothing is compared byte by byte -/
theorem code_word {y : MethodName} {bytes : ByteArray} {mx : Nat} {rt : Option FieldType} {a : Array Value} {s : State} {m : MethodId} {meth : Method} {c : Code} (h1 : s.methodNamed? y = some m) (h2 : s.vm.method? m = some meth) (h3 : meth.code = some c) (h4 : c.code = bytes)
    (h5 : (c.maxLocals == mx && c.exceptionTable.isEmpty && decide (c.maxStack ≤ mostOperands) && decide (meth.sig.returnType = rt) && !meth.locks && decide (parseMethodDescriptor y.desc = some meth.sig)) = true) : (Jvm.Cond.code y bytes mx rt).before a s = true := by
  simp only [Bool.and_eq_true, beq_iff_eq, Bool.not_eq_true', decide_eq_true_eq] at h5
  obtain ⟨⟨⟨⟨⟨g1, g2⟩, g3⟩, g4⟩, g5⟩, g6⟩ := h5
  simp [Cond.before, Cond.holds, Cond.value, h1, h2, h3, h4, g1, g2, g3, g4, g5, g6]
def isCode : Jvm.Cond → Bool
  | .code _ _ _ _ => true
  | _ => false
theorem all_split {L : List Jvm.Cond} {P : Jvm.Cond → Bool} (h1 : L.all (fun c => isCode c || P c) = true) (h2 : ∀ c ∈ L.filter isCode, P c = true) : L.all P = true := by
  refine List.all_eq_true.mpr fun c hc => ?_
  have h := List.all_eq_true.mp h1 c hc
  rcases Bool.eq_false_or_eq_true (isCode c) with hi | hi
  · exact h2 c (List.mem_filter.mpr ⟨hc, hi⟩)
  · simpa [hi] using h
set_option maxRecDepth 65536 in
theorem w_c0 : (Jvm.Cond.code x code maxLocals ret).before args0 about1 = true := code_word (m := ⟨1, 1⟩) (meth := k1m1) (c := k1c1) (by decide +kernel) rfl rfl rfl (by decide +kernel)
set_option maxRecDepth 65536 in
theorem w_c1 : (Jvm.Cond.code ({ cls := "com/example/ashlar/ashlar/Algorithm", name := "takesBlocks", desc := "()Z" } : Jvm.MethodName) prog_1_method_7_code (1 : Nat) (Option.some Jvm.ClassFile.FieldType.boolean)).before args0 about1 = true := code_word (m := ⟨6, 1⟩) (meth := k6m1) (c := k6c1) (by decide +kernel) rfl rfl rfl (by decide +kernel)
set_option maxRecDepth 65536 in
theorem w_c2 : (Jvm.Cond.code ({ cls := "com/example/ashlar/ashlar/Algorithm", name := "bounded", desc := "()Z" } : Jvm.MethodName) prog_1_method_6_code (1 : Nat) (Option.some Jvm.ClassFile.FieldType.boolean)).before args0 about1 = true := code_word (m := ⟨6, 0⟩) (meth := k6m0) (c := k6c0) (by decide +kernel) rfl rfl rfl (by decide +kernel)
set_option maxRecDepth 65536 in
theorem w_c3 : (Jvm.Cond.code ({ cls := "com/example/ashlar/ashlar/Algorithm", name := "coversByForce", desc := "()Z" } : Jvm.MethodName) prog_1_method_8_code (1 : Nat) (Option.some Jvm.ClassFile.FieldType.boolean)).before args0 about1 = true := code_word (m := ⟨6, 2⟩) (meth := k6m2) (c := k6c2) (by decide +kernel) rfl rfl rfl (by decide +kernel)
def codes1 : List Jvm.Cond := [Jvm.Cond.code x code maxLocals ret, Jvm.Cond.code ({ cls := "com/example/ashlar/ashlar/Algorithm", name := "takesBlocks", desc := "()Z" } : Jvm.MethodName) prog_1_method_7_code (1 : Nat) (Option.some Jvm.ClassFile.FieldType.boolean), Jvm.Cond.code ({ cls := "com/example/ashlar/ashlar/Algorithm", name := "bounded", desc := "()Z" } : Jvm.MethodName) prog_1_method_6_code (1 : Nat) (Option.some Jvm.ClassFile.FieldType.boolean), Jvm.Cond.code ({ cls := "com/example/ashlar/ashlar/Algorithm", name := "coversByForce", desc := "()Z" } : Jvm.MethodName) prog_1_method_8_code (1 : Nat) (Option.some Jvm.ClassFile.FieldType.boolean)]
set_option maxRecDepth 65536 in
theorem codes_eq : words1.filter isCode = codes1 := rfl
theorem w_codes : ∀ c ∈ words1.filter isCode, c.before args0 about1 = true := by
  rw [codes_eq]
  intro c hc
  simp only [codes1, List.mem_cons, List.not_mem_nil, or_false] at hc
  rcases hc with rfl | rfl | rfl | rfl
  · exact w_c0
  · exact w_c1
  · exact w_c2
  · exact w_c3
set_option maxRecDepth 65536 in
theorem w_t1 : (words1.take 24).all (fun c => isCode c || c.before args0 about1) = true := by decide +kernel
set_option maxRecDepth 65536 in
theorem w_t2 : (words1.drop 24).all (fun c => isCode c || c.before args0 about1) = true := by decide +kernel
theorem w_tables : (allAtoms (Jvm.Cond.code x code maxLocals ret :: tables_1)).before args0 about1 = true := by
  rw [allAtoms_all]
  show words1.all (fun c => c.before args0 about1) = true
  refine all_split ?_ w_codes
  rw [← List.take_append_drop 24 words1, List.all_append, w_t1, w_t2]
  rfl
set_option maxRecDepth 65536 in
theorem w_case : (Jvm.Cond.and given_1 narrow_1).before args0 about1 = true := by decide +kernel
theorem w_applies : (headSpec (Jvm.Cond.code x code maxLocals ret :: tables_1) room_1).applies x e0.platform about1 = true :=
  (Spec.applies_iff w_frames).mpr ⟨w_running, w_runnable, w_alone, w_named, w_hears, w_ripe, w_room, w_tables⟩
theorem atStart : AtStart classFile x code maxLocals ret World_1 tables_1 room_1 Calls_1 rest_1 Pre_1 launch0 p0 e0 about1 theMethod args0 below0 :=
  ⟨lists_1, trivial, launch0.admits_env _ _ _, launch0.least_env, fairChoices_fair.cas, fairChoices_fair.clock, w_frames, w_args, w_heap, w_applies, trivial, trivial, w_case⟩
end start1
theorem witness_1 : WitnessClaimed_1 := ⟨start1.p0, start1.e0, start1.about1, start1.theMethod, start1.args0, start1.below0, start1.atStart⟩
end Jvm.Pilot.@@N@@
