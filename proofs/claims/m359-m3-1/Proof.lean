import JvmDerived
import JvmDerived.Pilot.@@N@@Statement
import JvmDerived.Pilot.@@N@@Code
set_option linter.unusedVariables false
set_option linter.unusedSimpArgs false
namespace Jvm.RoadKit
open Sem ClassFile Op Lib Jvm.Stand Jvm.Free Jvm.LawKit
section New
variable {p : Program} {l : Launch} {e : Env} {R : Room} {s : State} {m : MethodId} {args : Array Value} {below : List Frame} {meth : Method} {c : Code} {T : State} {locs : List Loc} {cells slots : Nat}
theorem retI (X : Stand p l e R s m args below meth c T locs cells slots) (hx : p.tables.exec = Jvm.exec) {pc : Nat} {Ls : Array Slot} {z : Int32} {rest : List Value} (hret : meth.sig.returnType = some .int) (hd : decode c.code pc = .ok (.ireturn, 1)) {fs : List Frame}
    (hl : ∀ (f : JFrame) (acts : List Action), f.method = m → f.locked = none → f.entered = [] → (doReturn e (T.setTop f) acts (some (.int z))).1 = T.setFrames fs) : Steps p.tables e below (T.setTop (mkF m pc Ls (.int z :: rest))) (T.setFrames fs) := by
  have hm' : T.vm.method? m = some meth := X.method'
  have hn : narrow .int (.int z) = .int z := rfl
  show Steps p.tables e below (T.setTop { method := m, pc := pc, locals := Ls, stack := _ :: rest, locked := none }) _
  jvm_step X.here [X.here.top, hx, hd, hm', hret, hn]
  first | (intro acts; rw [hl _ acts rfl rfl rfl]) | rw [hl _ _ rfl rfl rfl]
  exact Steps.refl _
end New
end Jvm.RoadKit
namespace Jvm.Pilot.@@N@@
open Jvm Jvm.ClassFile Sem Op Lib Jvm.Free Jvm.Stand Jvm.LawKit Jvm.RoadKit Bundle Jvm.Pilot.@@N@@.Jvm.D
theorem own_w {a0 : Array Value} {Z : State} (hw : ∀ d ∈ tables_1, d.before a0 Z = true) (k : Nat) {d : Jvm.Cond} (h : tables_1[k]? = some d := by rfl) : d.before a0 Z = true := hw _ (List.mem_of_getElem? h)
abbrev oI (x : Int32) : Slot := .val (.int x)
abbrev oR (a : Addr) : Slot := .val (.ref a)
abbrev oJ (x : Int64) : Slot := .val (.long x)
abbrev oD (x : UInt64) : Slot := .val (.double x)
/-- from the state A the run comes to an end of which Q holds -/
def own_Go (p : Program) (e : Env) (below : List Frame) (Q : Outcome → State → Prop) (A : State) : Prop := ∃ s₂ o, Steps p.tables e below A s₂ ∧ s₂.status = .running ∧ Ended s₂ below o ∧ Q o s₂
theorem own_via {p : Program} {e : Env} {below : List Frame} {Q : Outcome → State → Prop} {A B : State} (h : ∀ t, Steps p.tables e below B t → Steps p.tables e below A t) (g : own_Go p e below Q B) : own_Go p e below Q A := by
  obtain ⟨s₂, o, h1, h2⟩ := g
  exact ⟨s₂, o, h _ h1, h2⟩
theorem own_tr {p : Program} {e : Env} {below : List Frame} {Q : Outcome → State → Prop} {A B : State} (h : Steps p.tables e below A B) (g : own_Go p e below Q B) : own_Go p e below Q A := by
  obtain ⟨s₂, o, h1, h2⟩ := g
  exact ⟨s₂, o, h.trans h1, h2⟩
/-- from the state A the run comes to a state B of which Φ holds -/
def own_Pc (p : Program) (e : Env) (below : List Frame) (Φ : State → Prop) (A : State) : Prop := ∃ B, (∀ t, Steps p.tables e below B t → Steps p.tables e below A t) ∧ Φ B
theorem own_pvia {p : Program} {e : Env} {below : List Frame} {Φ : State → Prop} {A B : State} (h : ∀ t, Steps p.tables e below B t → Steps p.tables e below A t) (g : own_Pc p e below Φ B) : own_Pc p e below Φ A := by
  obtain ⟨B', h1, h2⟩ := g
  exact ⟨B', fun t k => h t (h1 t k), h2⟩
theorem own_ptr {p : Program} {e : Env} {below : List Frame} {Φ : State → Prop} {A B : State} (h : Steps p.tables e below A B) (g : own_Pc p e below Φ B) : own_Pc p e below Φ A := own_pvia (fun t k => h.trans k) g
theorem own_start {p : Program} {e : Env} {below : List Frame} {Q : Outcome → State → Prop} {A : State} (h : own_Go p e below Q A) : ∃ s₂ o, Steps p.tables e below A s₂ ∧ s₂.status = .running ∧ Ended s₂ below o ∧ Q o s₂ := h
theorem own_fld {args : Array Value} {s : State} {C f dd O n d : String} {k : Int32} {a : Addr} (ev : (Term.static C f dd).eval args s none [] s = some (.ref a)) (h : (Jvm.Cond.eq (Term.field (Term.static C f dd) O n d) (Term.int k)).value args s none s [] = some true) : Fld s s.heap a O n d (.int k) := by
  have e1 : (Term.field (Term.static C f dd) O n d).eval args s none [] s = s.fieldOf? a O n d := fld_at ev
  have e2 : (Term.int k).eval args s none [] s = some (.int k) := rfl
  refine Fld.start ?_
  cases q : s.fieldOf? a O n d with
  | none => simp [Cond.value, e1, q] at h
  | some v => cases v <;> simp [Cond.value, e1, e2, q] at h ⊢; exact h
theorem own_int_ne {x y : Int32} (h : x ≠ y) : (Value.int x) ≠ .int y := fun q => h (Value.int.inj q)
def f1 (p0 : Int32) (aBMC : Addr) (aKINDUCTION : Addr) (aPREDICATE : Addr) (aIMPACT : Addr) (aCONGRUENCE : Addr) : Addr := (if p0 = (0 : Int32) then aBMC else (if p0 = (1 : Int32) then aKINDUCTION else (if p0 = (2 : Int32) then aPREDICATE else (if p0 = (3 : Int32) then aIMPACT else aCONGRUENCE))))
theorem d1_0 : decode method_2_code 0 = .ok (.iload_n 0, 1) := by decide +kernel
theorem d1_1 : decode method_2_code 1 = .ok (.ifCond .ne 7, 3) := by decide +kernel
theorem d1_4 : decode method_2_code 4 = .ok (.getstatic 7, 3) := by decide +kernel
theorem d1_7 : decode method_2_code 7 = .ok (.areturn, 1) := by decide +kernel
theorem d1_8 : decode method_2_code 8 = .ok (.iload_n 0, 1) := by decide +kernel
theorem d1_9 : decode method_2_code 9 = .ok (.iconst 1, 1) := by decide +kernel
theorem d1_10 : decode method_2_code 10 = .ok (.if_icmp .ne 7, 3) := by decide +kernel
theorem d1_13 : decode method_2_code 13 = .ok (.getstatic 13, 3) := by decide +kernel
theorem d1_16 : decode method_2_code 16 = .ok (.areturn, 1) := by decide +kernel
theorem d1_17 : decode method_2_code 17 = .ok (.iload_n 0, 1) := by decide +kernel
theorem d1_18 : decode method_2_code 18 = .ok (.iconst 2, 1) := by decide +kernel
theorem d1_19 : decode method_2_code 19 = .ok (.if_icmp .ne 7, 3) := by decide +kernel
theorem d1_22 : decode method_2_code 22 = .ok (.getstatic 16, 3) := by decide +kernel
theorem d1_25 : decode method_2_code 25 = .ok (.areturn, 1) := by decide +kernel
theorem d1_26 : decode method_2_code 26 = .ok (.iload_n 0, 1) := by decide +kernel
theorem d1_27 : decode method_2_code 27 = .ok (.iconst 3, 1) := by decide +kernel
theorem d1_28 : decode method_2_code 28 = .ok (.if_icmp .ne 7, 3) := by decide +kernel
theorem d1_31 : decode method_2_code 31 = .ok (.getstatic 19, 3) := by decide +kernel
theorem d1_34 : decode method_2_code 34 = .ok (.areturn, 1) := by decide +kernel
theorem d1_35 : decode method_2_code 35 = .ok (.getstatic 22, 3) := by decide +kernel
theorem d1_38 : decode method_2_code 38 = .ok (.areturn, 1) := by decide +kernel
theorem pn_1 : plainName "com/example/ashlar/ashlar/AlgorithmCoversByForcePinLaw" = true := by first | (simp [plainName, overriddenIn]; done) | decide +kernel
theorem ef_rm1 (m : MethodId) (q0 : Int32) : entryFrame m #[(.int q0)] 1 = mkF m 0 #[oI q0] [] := by first | (simp [entryFrame, mkF, argsToLocals, Value.category]; done) | rfl
def Q1 (Z : State) (p0 : Int32) (aBMC : Addr) (aKINDUCTION : Addr) (aPREDICATE : Addr) (aIMPACT : Addr) (aCONGRUENCE : Addr) (r : Addr) (h0 : Heap) (n0 : Nat) (v : Option Value) (h : Heap) (L : List Loc) : Prop := v = some (.ref r) ∧ Fr n0 L ∧ h = h0
set_option maxRecDepth 65536 in
set_option maxHeartbeats 40000000 in
theorem rm1 (l : Launch) (Z : State) (a0 : Array Value) (hw : ∀ d ∈ tables_1, d.before a0 Z = true) (ws : List Jvm.Cond) (p0 : Int32) (aBMC : Addr) (aKINDUCTION : Addr) (aPREDICATE : Addr) (aIMPACT : Addr) (aCONGRUENCE : Addr) (r : Addr) (h0 : Heap) (n0 : Nat) (Z0 : n0 ≤ h0.size) (S_aBMC : Sta Z h0 "com/example/ashlar/ashlar/Algorithm" "BMC" "Lcom/example/ashlar/ashlar/Algorithm;" (.ref aBMC)) (S_aKINDUCTION : Sta Z h0 "com/example/ashlar/ashlar/Algorithm" "KINDUCTION" "Lcom/example/ashlar/ashlar/Algorithm;" (.ref aKINDUCTION)) (S_aPREDICATE : Sta Z h0 "com/example/ashlar/ashlar/Algorithm" "PREDICATE" "Lcom/example/ashlar/ashlar/Algorithm;" (.ref aPREDICATE)) (S_aIMPACT : Sta Z h0 "com/example/ashlar/ashlar/Algorithm" "IMPACT" "Lcom/example/ashlar/ashlar/Algorithm;" (.ref aIMPACT)) (S_aCONGRUENCE : Sta Z h0 "com/example/ashlar/ashlar/Algorithm" "CONGRUENCE" "Lcom/example/ashlar/ashlar/Algorithm;" (.ref aCONGRUENCE)) (hr0 : (f1 p0 aBMC aKINDUCTION aPREDICATE aIMPACT aCONGRUENCE) = r) :
    MetFree l (⟨"com/example/ashlar/ashlar/AlgorithmCoversByForcePinLaw", "pick", "(I)Lcom/example/ashlar/ashlar/Algorithm;"⟩ : MethodName) (head1 (Jvm.Cond.code (⟨"com/example/ashlar/ashlar/AlgorithmCoversByForcePinLaw", "pick", "(I)Lcom/example/ashlar/ashlar/Algorithm;"⟩ : MethodName) method_2_code 1 (some (.object "com/example/ashlar/ashlar/Algorithm")) :: ws) ({ frames := 0, cells := 0, slots := 0, locals := 0 } : Room)) (fun a U => a = #[(.int p0)] ∧ Z.Warmed39 U.vm ∧ U.heap = h0) (fun _ _ _ _ _ => True) (fun _ U o U' => ∃ v L, o = .returned v ∧ Q1 Z p0 aBMC aKINDUCTION aPREDICATE aIMPACT aCONGRUENCE r h0 n0 v U'.heap L ∧ FrameEnd U o U' L ({ frames := 0, cells := 0, slots := 0, locals := 0 } : Room).cells ({ frames := 0, cells := 0, slots := 0, locals := 0 } : Room).slots) := by
  refine MetFree.of_bodySF (plainFor_of_name pn_1) hisR ?_
  intro p e s m args below meth c s₁ Bd hml0 hP hK
  obtain ⟨rfl, hZ, hh⟩ := hP
  have hx := Bd.exec
  have hby := Bd.bytes
  have hml : c.maxLocals = 1 := hml0
  have hown : s.vm.findClass "com/example/ashlar/ashlar/AlgorithmCoversByForcePinLaw" = some m.cls := findClass_of_methodNamed Bd.named
  have hnm := (name_of_methodNamed Bd.named Bd.method).1
  have X0 : Stand p l e ({ frames := 0, cells := 0, slots := 0, locals := 0 } : Room) s m #[(.int p0)] below meth c s₁ [] 0 0 := Stand.of_body Bd
  have e0 : s₁.heap = h0 := by rw [← hh, Bd.state]; rfl
  have N0 := Fr.nil n0
  refine own_start ?_
  refine own_via (fun t k => castTop (ef_rm1 m p0) k) ?_
  show own_Go p e below _ (s₁.setTop (mkF m 0 #[oI p0] []))
  refine own_via (fun t kz => XS.iloadN X0.here hx rfl (hb hby d1_0) rfl kz) ?_
  show own_Go p e below _ (s₁.setTop (mkF m 1 #[oI p0] [(.int p0)]))
  by_cases hc1_1 : p0 = (0 : Int32)
  · refine own_via (fun t kz => XS.ifNo X0.here hx rfl (hb hby d1_1) rfl ((if0 _ _).trans (teq hc1_1).2) kz) ?_
    show own_Go p e below _ (s₁.setTop (mkF m 4 #[oI p0] []))
    obtain ⟨T2, X2, e2, st2⟩ := getS2 X0 hx hZ hown (host := "") (Or.inl (own_w hw 5)) Via.refl e0 S_aBMC (g := (mkF m 4 #[oI p0] [])) rfl (hb hby d1_4)
    refine own_via st2 ?_
    show own_Go p e below _ (T2.setTop (mkF m 7 #[oI p0] [(.ref aBMC)]))
    have hv : (f1 p0 aBMC aKINDUCTION aPREDICATE aIMPACT aCONGRUENCE) = aBMC := by unfold f1; rw [if_pos hc1_1]
    obtain ⟨fs, hr, hrun, hended, hW, hsame⟩ := X2.leave (v := some (.ref aBMC)) (fun h => by rw [Bd.returns] at h; cases h)
    refine ⟨_, _, retOut X2 hx (i := .areturn) Bd.returns rfl (Or.inr (Or.inr (Or.inr (Or.inr ⟨rfl, rfl, rfl⟩)))) (hb hby d1_7) hr, hrun, hended, _, _, rfl, ?_, ⟨_, rfl⟩, hW, hsame.mono (by decide) (by decide)⟩
    show Q1 Z p0 aBMC aKINDUCTION aPREDICATE aIMPACT aCONGRUENCE r h0 n0 _ T2.heap _
    rw [e2]
    exact ⟨by rw [← hr0, hv], N0, rfl⟩
  · refine own_via (fun t kz => XS.ifYes X0.here hx rfl (pc0 := 1) (pc' := 8) rfl (hb hby d1_1) rfl ((if0 _ _).trans (feq hc1_1).2) (by decide) (by decide) kz) ?_
    show own_Go p e below _ (s₁.setTop (mkF m 8 #[oI p0] []))
    refine own_via (fun t kz => XS.iloadN X0.here hx rfl (hb hby d1_8) rfl kz) ?_
    show own_Go p e below _ (s₁.setTop (mkF m 9 #[oI p0] [(.int p0)]))
    refine own_via (fun t kz => XS.iconst X0.here hx rfl (hb hby d1_9) kz) ?_
    show own_Go p e below _ (s₁.setTop (mkF m 10 #[oI p0] [(.int (1 : Int32)), (.int p0)]))
    by_cases hc10_4 : p0 = (1 : Int32)
    · refine own_via (fun t kz => XS.icmpNo X0.here hx rfl (hb hby d1_10) rfl (teq hc10_4).2 kz) ?_
      show own_Go p e below _ (s₁.setTop (mkF m 13 #[oI p0] []))
      obtain ⟨T5, X5, e5, st5⟩ := getS2 X0 hx hZ hown (host := "") (Or.inl (own_w hw 16)) Via.refl e0 S_aKINDUCTION (g := (mkF m 13 #[oI p0] [])) rfl (hb hby d1_13)
      refine own_via st5 ?_
      show own_Go p e below _ (T5.setTop (mkF m 16 #[oI p0] [(.ref aKINDUCTION)]))
      have hv : (f1 p0 aBMC aKINDUCTION aPREDICATE aIMPACT aCONGRUENCE) = aKINDUCTION := by unfold f1; rw [if_neg hc1_1, if_pos hc10_4]
      obtain ⟨fs, hr, hrun, hended, hW, hsame⟩ := X5.leave (v := some (.ref aKINDUCTION)) (fun h => by rw [Bd.returns] at h; cases h)
      refine ⟨_, _, retOut X5 hx (i := .areturn) Bd.returns rfl (Or.inr (Or.inr (Or.inr (Or.inr ⟨rfl, rfl, rfl⟩)))) (hb hby d1_16) hr, hrun, hended, _, _, rfl, ?_, ⟨_, rfl⟩, hW, hsame.mono (by decide) (by decide)⟩
      show Q1 Z p0 aBMC aKINDUCTION aPREDICATE aIMPACT aCONGRUENCE r h0 n0 _ T5.heap _
      rw [e5]
      exact ⟨by rw [← hr0, hv], N0, rfl⟩
    · refine own_via (fun t kz => XS.icmpYes X0.here hx rfl (pc0 := 10) (pc' := 17) rfl (hb hby d1_10) rfl (feq hc10_4).2 (by decide) (by decide) kz) ?_
      show own_Go p e below _ (s₁.setTop (mkF m 17 #[oI p0] []))
      refine own_via (fun t kz => XS.iloadN X0.here hx rfl (hb hby d1_17) rfl kz) ?_
      show own_Go p e below _ (s₁.setTop (mkF m 18 #[oI p0] [(.int p0)]))
      refine own_via (fun t kz => XS.iconst X0.here hx rfl (hb hby d1_18) kz) ?_
      show own_Go p e below _ (s₁.setTop (mkF m 19 #[oI p0] [(.int (2 : Int32)), (.int p0)]))
      by_cases hc19_7 : p0 = (2 : Int32)
      · refine own_via (fun t kz => XS.icmpNo X0.here hx rfl (hb hby d1_19) rfl (teq hc19_7).2 kz) ?_
        show own_Go p e below _ (s₁.setTop (mkF m 22 #[oI p0] []))
        obtain ⟨T8, X8, e8, st8⟩ := getS2 X0 hx hZ hown (host := "") (Or.inl (own_w hw 20)) Via.refl e0 S_aPREDICATE (g := (mkF m 22 #[oI p0] [])) rfl (hb hby d1_22)
        refine own_via st8 ?_
        show own_Go p e below _ (T8.setTop (mkF m 25 #[oI p0] [(.ref aPREDICATE)]))
        have hv : (f1 p0 aBMC aKINDUCTION aPREDICATE aIMPACT aCONGRUENCE) = aPREDICATE := by unfold f1; rw [if_neg hc1_1, if_neg hc10_4, if_pos hc19_7]
        obtain ⟨fs, hr, hrun, hended, hW, hsame⟩ := X8.leave (v := some (.ref aPREDICATE)) (fun h => by rw [Bd.returns] at h; cases h)
        refine ⟨_, _, retOut X8 hx (i := .areturn) Bd.returns rfl (Or.inr (Or.inr (Or.inr (Or.inr ⟨rfl, rfl, rfl⟩)))) (hb hby d1_25) hr, hrun, hended, _, _, rfl, ?_, ⟨_, rfl⟩, hW, hsame.mono (by decide) (by decide)⟩
        show Q1 Z p0 aBMC aKINDUCTION aPREDICATE aIMPACT aCONGRUENCE r h0 n0 _ T8.heap _
        rw [e8]
        exact ⟨by rw [← hr0, hv], N0, rfl⟩
      · refine own_via (fun t kz => XS.icmpYes X0.here hx rfl (pc0 := 19) (pc' := 26) rfl (hb hby d1_19) rfl (feq hc19_7).2 (by decide) (by decide) kz) ?_
        show own_Go p e below _ (s₁.setTop (mkF m 26 #[oI p0] []))
        refine own_via (fun t kz => XS.iloadN X0.here hx rfl (hb hby d1_26) rfl kz) ?_
        show own_Go p e below _ (s₁.setTop (mkF m 27 #[oI p0] [(.int p0)]))
        refine own_via (fun t kz => XS.iconst X0.here hx rfl (hb hby d1_27) kz) ?_
        show own_Go p e below _ (s₁.setTop (mkF m 28 #[oI p0] [(.int (3 : Int32)), (.int p0)]))
        by_cases hc28_10 : p0 = (3 : Int32)
        · refine own_via (fun t kz => XS.icmpNo X0.here hx rfl (hb hby d1_28) rfl (teq hc28_10).2 kz) ?_
          show own_Go p e below _ (s₁.setTop (mkF m 31 #[oI p0] []))
          obtain ⟨T11, X11, e11, st11⟩ := getS2 X0 hx hZ hown (host := "") (Or.inl (own_w hw 15)) Via.refl e0 S_aIMPACT (g := (mkF m 31 #[oI p0] [])) rfl (hb hby d1_31)
          refine own_via st11 ?_
          show own_Go p e below _ (T11.setTop (mkF m 34 #[oI p0] [(.ref aIMPACT)]))
          have hv : (f1 p0 aBMC aKINDUCTION aPREDICATE aIMPACT aCONGRUENCE) = aIMPACT := by unfold f1; rw [if_neg hc1_1, if_neg hc10_4, if_neg hc19_7, if_pos hc28_10]
          obtain ⟨fs, hr, hrun, hended, hW, hsame⟩ := X11.leave (v := some (.ref aIMPACT)) (fun h => by rw [Bd.returns] at h; cases h)
          refine ⟨_, _, retOut X11 hx (i := .areturn) Bd.returns rfl (Or.inr (Or.inr (Or.inr (Or.inr ⟨rfl, rfl, rfl⟩)))) (hb hby d1_34) hr, hrun, hended, _, _, rfl, ?_, ⟨_, rfl⟩, hW, hsame.mono (by decide) (by decide)⟩
          show Q1 Z p0 aBMC aKINDUCTION aPREDICATE aIMPACT aCONGRUENCE r h0 n0 _ T11.heap _
          rw [e11]
          exact ⟨by rw [← hr0, hv], N0, rfl⟩
        · refine own_via (fun t kz => XS.icmpYes X0.here hx rfl (pc0 := 28) (pc' := 35) rfl (hb hby d1_28) rfl (feq hc28_10).2 (by decide) (by decide) kz) ?_
          show own_Go p e below _ (s₁.setTop (mkF m 35 #[oI p0] []))
          obtain ⟨T13, X13, e13, st13⟩ := getS2 X0 hx hZ hown (host := "") (Or.inl (own_w hw 18)) Via.refl e0 S_aCONGRUENCE (g := (mkF m 35 #[oI p0] [])) rfl (hb hby d1_35)
          refine own_via st13 ?_
          show own_Go p e below _ (T13.setTop (mkF m 38 #[oI p0] [(.ref aCONGRUENCE)]))
          have hv : (f1 p0 aBMC aKINDUCTION aPREDICATE aIMPACT aCONGRUENCE) = aCONGRUENCE := by unfold f1; rw [if_neg hc1_1, if_neg hc10_4, if_neg hc19_7, if_neg hc28_10]
          obtain ⟨fs, hr, hrun, hended, hW, hsame⟩ := X13.leave (v := some (.ref aCONGRUENCE)) (fun h => by rw [Bd.returns] at h; cases h)
          refine ⟨_, _, retOut X13 hx (i := .areturn) Bd.returns rfl (Or.inr (Or.inr (Or.inr (Or.inr ⟨rfl, rfl, rfl⟩)))) (hb hby d1_38) hr, hrun, hended, _, _, rfl, ?_, ⟨_, rfl⟩, hW, hsame.mono (by decide) (by decide)⟩
          show Q1 Z p0 aBMC aKINDUCTION aPREDICATE aIMPACT aCONGRUENCE r h0 n0 _ T13.heap _
          rw [e13]
          exact ⟨by rw [← hr0, hv], N0, rfl⟩
def f2 (this : Addr) (aIMPACT : Addr) : Int32 := (if this = aIMPACT then (1 : Int32) else (0 : Int32))
theorem d2_0 : decode prog_1_method_8_code 0 = .ok (.aload_n 0, 1) := by decide +kernel
theorem d2_1 : decode prog_1_method_8_code 1 = .ok (.getstatic 13, 3) := by decide +kernel
theorem d2_4 : decode prog_1_method_8_code 4 = .ok (.if_acmp .ne 7, 3) := by decide +kernel
theorem d2_7 : decode prog_1_method_8_code 7 = .ok (.iconst 1, 1) := by decide +kernel
theorem d2_8 : decode prog_1_method_8_code 8 = .ok (.goto 4, 3) := by decide +kernel
theorem d2_11 : decode prog_1_method_8_code 11 = .ok (.iconst 0, 1) := by decide +kernel
theorem d2_12 : decode prog_1_method_8_code 12 = .ok (.ireturn, 1) := by decide +kernel
theorem pn_2 : plainName "com/example/ashlar/ashlar/Algorithm" = true := by first | (simp [plainName, overriddenIn]; done) | decide +kernel
theorem ef_rm2 (m : MethodId) (q0 : Addr) : entryFrame m #[(.ref q0)] 1 = mkF m 0 #[oR q0] [] := by first | (simp [entryFrame, mkF, argsToLocals, Value.category]; done) | rfl
def Q2 (Z : State) (this : Addr) (aIMPACT : Addr) (r : Int32) (h0 : Heap) (n0 : Nat) (v : Option Value) (h : Heap) (L : List Loc) : Prop := v = some (.int r) ∧ Fr n0 L ∧ h = h0
set_option maxRecDepth 65536 in
set_option maxHeartbeats 40000000 in
theorem rm2 (l : Launch) (Z : State) (a0 : Array Value) (hw : ∀ d ∈ tables_1, d.before a0 Z = true) (ws : List Jvm.Cond) (this : Addr) (aIMPACT : Addr) (r : Int32) (h0 : Heap) (n0 : Nat) (Z0 : n0 ≤ h0.size) (S_aIMPACT : Sta Z h0 "com/example/ashlar/ashlar/Algorithm" "IMPACT" "Lcom/example/ashlar/ashlar/Algorithm;" (.ref aIMPACT)) (hr0 : (f2 this aIMPACT) = r) :
    MetFree l (⟨"com/example/ashlar/ashlar/Algorithm", "coversByForce", "()Z"⟩ : MethodName) (head1 (Jvm.Cond.code (⟨"com/example/ashlar/ashlar/Algorithm", "coversByForce", "()Z"⟩ : MethodName) prog_1_method_8_code 1 (some .boolean) :: ws) ({ frames := 0, cells := 0, slots := 0, locals := 0 } : Room)) (fun a U => a = #[(.ref this)] ∧ Z.Warmed39 U.vm ∧ U.heap = h0) (fun _ _ _ _ _ => True) (fun _ U o U' => ∃ v L, o = .returned v ∧ Q2 Z this aIMPACT r h0 n0 v U'.heap L ∧ FrameEnd U o U' L ({ frames := 0, cells := 0, slots := 0, locals := 0 } : Room).cells ({ frames := 0, cells := 0, slots := 0, locals := 0 } : Room).slots) := by
  refine MetFree.of_bodySF (plainFor_of_name pn_2) hisR ?_
  intro p e s m args below meth c s₁ Bd hml0 hP hK
  obtain ⟨rfl, hZ, hh⟩ := hP
  have hx := Bd.exec
  have hby := Bd.bytes
  have hml : c.maxLocals = 1 := hml0
  have hown : s.vm.findClass "com/example/ashlar/ashlar/Algorithm" = some m.cls := findClass_of_methodNamed Bd.named
  have hnm := (name_of_methodNamed Bd.named Bd.method).1
  have X0 : Stand p l e ({ frames := 0, cells := 0, slots := 0, locals := 0 } : Room) s m #[(.ref this)] below meth c s₁ [] 0 0 := Stand.of_body Bd
  have e0 : s₁.heap = h0 := by rw [← hh, Bd.state]; rfl
  have N0 := Fr.nil n0
  refine own_start ?_
  refine own_via (fun t k => castTop (ef_rm2 m this) k) ?_
  show own_Go p e below _ (s₁.setTop (mkF m 0 #[oR this] []))
  refine own_via (fun t kz => XS.aloadN X0.here hx rfl (hb hby d2_0) rfl rfl kz) ?_
  show own_Go p e below _ (s₁.setTop (mkF m 1 #[oR this] [(.ref this)]))
  obtain ⟨T1, X1, e1, st1⟩ := getS2 X0 hx hZ hown (host := "") (Or.inl (own_w hw 13)) Via.refl e0 S_aIMPACT (g := (mkF m 1 #[oR this] [(.ref this)])) rfl (hb hby d2_1)
  refine own_via st1 ?_
  show own_Go p e below _ (T1.setTop (mkF m 4 #[oR this] [(.ref aIMPACT), (.ref this)]))
  by_cases hc4_2 : this = aIMPACT
  · refine own_via (fun t kz => Jvm.RoadKit.acmp (g := (mkF m 4 #[oR this] [(.ref aIMPACT), (.ref this)])) X1 hx rfl rfl rfl (pc0 := 4) (pc' := 7) (same := true) rfl (hb hby d2_4) rfl (decide_eq_true (congrArg Value.ref hc4_2)) (by decide) (by decide) kz) ?_
    show own_Go p e below _ (T1.setTop (mkF m 7 #[oR this] []))
    refine own_via (fun t kz => XS.iconst X1.here hx rfl (hb hby d2_7) kz) ?_
    show own_Go p e below _ (T1.setTop (mkF m 8 #[oR this] [(.int (1 : Int32))]))
    refine own_via (fun t kz => XS.goto X1.here hx rfl (pc0 := 8) (pc' := 12) rfl (hb hby d2_8) (by decide) (by decide) kz) ?_
    show own_Go p e below _ (T1.setTop (mkF m 12 #[oR this] [(.int (1 : Int32))]))
    have hv : (f2 this aIMPACT) = (1 : Int32) := by unfold f2; rw [if_pos hc4_2]
    obtain ⟨fs, hr, hrun, hended, hW, hsame⟩ := X1.leave (v := some (.int (1 : Int32))) (fun h => by rw [Bd.returns] at h; cases h)
    refine ⟨_, _, retN X1 hx (t := .boolean) Bd.returns (by simp) (hb hby d2_12) hr, hrun, hended, _, _, rfl, ?_, ⟨_, rfl⟩, hW, hsame.mono (by decide) (by decide)⟩
    show Q2 Z this aIMPACT r h0 n0 _ T1.heap _
    rw [e1]
    exact ⟨by rw [← hr0, hv], N0, rfl⟩
  · refine own_via (fun t kz => Jvm.RoadKit.acmp (g := (mkF m 4 #[oR this] [(.ref aIMPACT), (.ref this)])) X1 hx rfl rfl rfl (pc0 := 4) (pc' := 11) (same := false) rfl (hb hby d2_4) rfl (decide_eq_false fun q => hc4_2 (Value.ref.inj q)) (by decide) (by decide) kz) ?_
    show own_Go p e below _ (T1.setTop (mkF m 11 #[oR this] []))
    refine own_via (fun t kz => XS.iconst X1.here hx rfl (hb hby d2_11) kz) ?_
    show own_Go p e below _ (T1.setTop (mkF m 12 #[oR this] [(.int (0 : Int32))]))
    have hv : (f2 this aIMPACT) = (0 : Int32) := by unfold f2; rw [if_neg hc4_2]
    obtain ⟨fs, hr, hrun, hended, hW, hsame⟩ := X1.leave (v := some (.int (0 : Int32))) (fun h => by rw [Bd.returns] at h; cases h)
    refine ⟨_, _, retN X1 hx (t := .boolean) Bd.returns (by simp) (hb hby d2_12) hr, hrun, hended, _, _, rfl, ?_, ⟨_, rfl⟩, hW, hsame.mono (by decide) (by decide)⟩
    show Q2 Z this aIMPACT r h0 n0 _ T1.heap _
    rw [e1]
    exact ⟨by rw [← hr0, hv], N0, rfl⟩
theorem pd_0_0 : parseMethodDescriptor "(I)Lcom/example/ashlar/ashlar/Algorithm;" = some ⟨[.int], some (.object "com/example/ashlar/ashlar/Algorithm")⟩ := by decide +kernel
theorem pd_0_1 : parseMethodDescriptor "()Z" = some ⟨[], some .boolean⟩ := by decide +kernel
theorem ef_rm0 (m : MethodId) (q0 : Int32) : entryFrame m #[(.int q0)] maxLocals = mkF m 0 #[oI q0, .unset, .unset, .unset] [] := by first | (simp [entryFrame, mkF, argsToLocals, Value.category, maxLocals]; done) | rfl
def Q0 (Z : State) (p0 : Int32) (aBMC : Addr) (aIMPACT : Addr) (aKINDUCTION : Addr) (aCONGRUENCE : Addr) (aPREDICATE : Addr) (h0 : Heap) (n0 : Nat) (v : Option Value) (h : Heap) (L : List Loc) : Prop := v = some (.int (1 : Int32)) ∧ Fr n0 L
set_option maxRecDepth 65536 in
set_option maxHeartbeats 40000000 in
theorem rm0 (l : Launch) (Z : State) (a0 : Array Value) (hw : ∀ d ∈ tables_1, d.before a0 Z = true) (ws : List Jvm.Cond) (p0 : Int32) (aBMC : Addr) (aIMPACT : Addr) (aKINDUCTION : Addr) (aCONGRUENCE : Addr) (aPREDICATE : Addr) (h0 : Heap) (n0 : Nat) (Z0 : n0 ≤ h0.size) (E_BMC : Exa Z h0 aBMC "com/example/ashlar/ashlar/Algorithm") (S_BMC : Sta Z h0 "com/example/ashlar/ashlar/Algorithm" "BMC" "Lcom/example/ashlar/ashlar/Algorithm;" (.ref aBMC)) (E_IMPACT : Exa Z h0 aIMPACT "com/example/ashlar/ashlar/Algorithm") (S_IMPACT : Sta Z h0 "com/example/ashlar/ashlar/Algorithm" "IMPACT" "Lcom/example/ashlar/ashlar/Algorithm;" (.ref aIMPACT)) (E_KINDUCTION : Exa Z h0 aKINDUCTION "com/example/ashlar/ashlar/Algorithm") (S_KINDUCTION : Sta Z h0 "com/example/ashlar/ashlar/Algorithm" "KINDUCTION" "Lcom/example/ashlar/ashlar/Algorithm;" (.ref aKINDUCTION)) (E_CONGRUENCE : Exa Z h0 aCONGRUENCE "com/example/ashlar/ashlar/Algorithm") (S_CONGRUENCE : Sta Z h0 "com/example/ashlar/ashlar/Algorithm" "CONGRUENCE" "Lcom/example/ashlar/ashlar/Algorithm;" (.ref aCONGRUENCE)) (E_PREDICATE : Exa Z h0 aPREDICATE "com/example/ashlar/ashlar/Algorithm") (S_PREDICATE : Sta Z h0 "com/example/ashlar/ashlar/Algorithm" "PREDICATE" "Lcom/example/ashlar/ashlar/Algorithm;" (.ref aPREDICATE)) (F_BMC_ordinal : Fld Z h0 aBMC "java/lang/Enum" "ordinal" "I" (.int (0 : Int32))) (F_IMPACT_ordinal : Fld Z h0 aIMPACT "java/lang/Enum" "ordinal" "I" (.int (3 : Int32))) (F_KINDUCTION_ordinal : Fld Z h0 aKINDUCTION "java/lang/Enum" "ordinal" "I" (.int (1 : Int32))) (F_CONGRUENCE_ordinal : Fld Z h0 aCONGRUENCE "java/lang/Enum" "ordinal" "I" (.int (4 : Int32))) (F_PREDICATE_ordinal : Fld Z h0 aPREDICATE "java/lang/Enum" "ordinal" "I" (.int (2 : Int32))) (ne_BMC_IMPACT : aBMC ≠ aIMPACT) (ne_BMC_KINDUCTION : aBMC ≠ aKINDUCTION) (ne_BMC_CONGRUENCE : aBMC ≠ aCONGRUENCE) (ne_BMC_PREDICATE : aBMC ≠ aPREDICATE) (ne_IMPACT_KINDUCTION : aIMPACT ≠ aKINDUCTION) (ne_IMPACT_CONGRUENCE : aIMPACT ≠ aCONGRUENCE) (ne_IMPACT_PREDICATE : aIMPACT ≠ aPREDICATE) (ne_KINDUCTION_CONGRUENCE : aKINDUCTION ≠ aCONGRUENCE) (ne_KINDUCTION_PREDICATE : aKINDUCTION ≠ aPREDICATE) (ne_CONGRUENCE_PREDICATE : aCONGRUENCE ≠ aPREDICATE) :
    MetFree l x (head1 (Jvm.Cond.code x code maxLocals ret :: ws) room_1) (fun a U => a = #[(.int p0)] ∧ Z.Warmed39 U.vm ∧ U.heap = h0) (fun _ _ _ _ _ => True) (fun _ U o U' => ∃ v L, o = .returned v ∧ Q0 Z p0 aBMC aIMPACT aKINDUCTION aCONGRUENCE aPREDICATE h0 n0 v U'.heap L ∧ FrameEnd U o U' L room_1.cells room_1.slots) := by
  refine MetFree.of_bodySF (plainFor_of_name pn_1) hisR ?_
  intro p e s m args below meth c s₁ Bd hml0 hP hK
  obtain ⟨rfl, hZ, hh⟩ := hP
  have hx := Bd.exec
  have hby := Bd.bytes
  have hml : c.maxLocals = 4 := hml0
  have hown : s.vm.findClass "com/example/ashlar/ashlar/AlgorithmCoversByForcePinLaw" = some m.cls := findClass_of_methodNamed Bd.named
  have hnm := (name_of_methodNamed Bd.named Bd.method).1
  have X0 : Stand p l e room_1 s m #[(.int p0)] below meth c s₁ [] 0 0 := Stand.of_body Bd
  have e0 : s₁.heap = h0 := by rw [← hh, Bd.state]; rfl
  have N0 := Fr.nil n0
  refine own_start ?_
  refine own_via (fun t k => castTop (ef_rm0 m p0) k) ?_
  show own_Go p e below _ (s₁.setTop (mkF m 0 #[oI p0, .unset, .unset, .unset] []))
  refine own_via (fun t kz => XS.iloadN X0.here hx rfl (hb hby at_0) rfl kz) ?_
  show own_Go p e below _ (s₁.setTop (mkF m 1 #[oI p0, .unset, .unset, .unset] [(.int p0)]))
  refine own_via (fun t kz => X0.ldcInt hx hown (mvT hZ (own_w hw 0)) (g := (mkF m 1 #[oI p0, .unset, .unset, .unset] [(.int p0)])) rfl (hb hby at_1) t kz) ?_
  show own_Go p e below _ (s₁.setTop (mkF m 3 #[oI p0, .unset, .unset, .unset] [(.int (2147483647 : Int32)), (.int p0)]))
  refine own_via (fun t kz => XS.iand X0.here hx rfl (hb hby at_3) rfl kz) ?_
  show own_Go p e below _ (s₁.setTop (mkF m 4 #[oI p0, .unset, .unset, .unset] [(.int (p0 &&& (2147483647 : Int32)))]))
  refine own_via (fun t kz => XS.iconst X0.here hx rfl (hb hby at_4) kz) ?_
  show own_Go p e below _ (s₁.setTop (mkF m 5 #[oI p0, .unset, .unset, .unset] [(.int (5 : Int32)), (.int (p0 &&& (2147483647 : Int32)))]))
  refine own_via (fun t kz => iremM X0 hx rfl (hb hby at_5) rfl (by decide) kz) ?_
  show own_Go p e below _ (s₁.setTop (mkF m 6 #[oI p0, .unset, .unset, .unset] [(.int ((p0 &&& (2147483647 : Int32)) % (5 : Int32)))]))
  refine own_via (fun t kz => XS.istoreN X0.here hx rfl (hb hby at_6) rfl (l' := #[oI p0, oI ((p0 &&& (2147483647 : Int32)) % (5 : Int32)), .unset, .unset]) rfl kz) ?_
  show own_Go p e below _ (s₁.setTop (mkF m 7 #[oI p0, oI ((p0 &&& (2147483647 : Int32)) % (5 : Int32)), .unset, .unset] []))
  refine own_via (fun t kz => XS.iloadN X0.here hx rfl (hb hby at_7) rfl kz) ?_
  show own_Go p e below _ (s₁.setTop (mkF m 8 #[oI p0, oI ((p0 &&& (2147483647 : Int32)) % (5 : Int32)), .unset, .unset] [(.int ((p0 &&& (2147483647 : Int32)) % (5 : Int32)))]))
  by_cases hc8_1 : ((p0 &&& (2147483647 : Int32)) % (5 : Int32)) = (0 : Int32)
  · obtain ⟨_, _, ⟨T2, L2, k2, n2⟩, -, X2, ⟨Lc2, hQ2, l2, y2, z2⟩, st2⟩ := Jvm.LawKit.callS X0 hx (y := (⟨"com/example/ashlar/ashlar/AlgorithmCoversByForcePinLaw", "pick", "(I)Lcom/example/ashlar/ashlar/Algorithm;"⟩ : MethodName)) hown (mvT hZ (own_w hw 1)) (mvT hZ (own_w hw 2)) (mvT hZ (own_w hw 3)) (mvT hZ (own_w hw 4)) (by decide) (backOf (W := 0) (rm1 l Z a0 hw [] ((p0 &&& (2147483647 : Int32)) % (5 : Int32)) aBMC aKINDUCTION aPREDICATE aIMPACT aCONGRUENCE aBMC h0 n0 Z0 S_BMC S_KINDUCTION S_PREDICATE S_IMPACT S_CONGRUENCE (by unfold f1; rw [if_pos hc8_1])) hZ (own_w hw 4) (own_w hw 3) (by decide) (by decide)) (g := (mkF m 8 #[oI p0, oI ((p0 &&& (2147483647 : Int32)) % (5 : Int32)), .unset, .unset] [(.int ((p0 &&& (2147483647 : Int32)) % (5 : Int32)))])) rfl (by rw [hml]; rfl) (argsL := [(.int ((p0 &&& (2147483647 : Int32)) % (5 : Int32)))]) (rest := []) (lenOf pd_0_0 rfl) rfl (by show 2 * 0 + _ ≤ _; exact Nat.le_of_eq rfl) (hb hby at_8) (fun _ _ => ⟨rfl, e0, (by decide : 0 + 0 ≤ _), (by decide : 0 + 0 ≤ _)⟩)
    dsimp only [Pt.U, Pt.locs, Pt.cells, Pt.slots] at X2 l2 y2 z2 st2 hQ2
    subst l2 y2 z2
    obtain ⟨rfl, Nq2, e2⟩ := hQ2
    have N3 := Fr.app N0 Nq2
    refine own_via st2 ?_
    show own_Go p e below _ (T2.setTop (mkF m 11 #[oI p0, oI ((p0 &&& (2147483647 : Int32)) % (5 : Int32)), .unset, .unset] [(.ref aBMC)]))
    refine own_via (fun t kz => XS.astoreN X2.here hx rfl (hb hby at_11) rfl rfl (l' := #[oI p0, oI ((p0 &&& (2147483647 : Int32)) % (5 : Int32)), oR aBMC, .unset]) rfl kz) ?_
    show own_Go p e below _ (T2.setTop (mkF m 12 #[oI p0, oI ((p0 &&& (2147483647 : Int32)) % (5 : Int32)), oR aBMC, .unset] []))
    refine own_via (fun t kz => XS.iloadN X2.here hx rfl (hb hby at_12) rfl kz) ?_
    show own_Go p e below _ (T2.setTop (mkF m 13 #[oI p0, oI ((p0 &&& (2147483647 : Int32)) % (5 : Int32)), oR aBMC, .unset] [(.int ((p0 &&& (2147483647 : Int32)) % (5 : Int32)))]))
    refine own_via (fun t kz => XS.iconst X2.here hx rfl (hb hby at_13) kz) ?_
    show own_Go p e below _ (T2.setTop (mkF m 14 #[oI p0, oI ((p0 &&& (2147483647 : Int32)) % (5 : Int32)), oR aBMC, .unset] [(.int (3 : Int32)), (.int ((p0 &&& (2147483647 : Int32)) % (5 : Int32)))]))
    refine own_via (fun t kz => XS.icmpYes X2.here hx rfl (pc0 := 14) (pc' := 21) rfl (hb hby at_14) rfl (feq (by rw [hc8_1]; decide : ¬ (((p0 &&& (2147483647 : Int32)) % (5 : Int32)) = (3 : Int32)))).2 (by decide) (by decide) kz) ?_
    show own_Go p e below _ (T2.setTop (mkF m 21 #[oI p0, oI ((p0 &&& (2147483647 : Int32)) % (5 : Int32)), oR aBMC, .unset] []))
    refine own_via (fun t kz => XS.iconst X2.here hx rfl (hb hby at_21) kz) ?_
    show own_Go p e below _ (T2.setTop (mkF m 22 #[oI p0, oI ((p0 &&& (2147483647 : Int32)) % (5 : Int32)), oR aBMC, .unset] [(.int (0 : Int32))]))
    refine own_via (fun t kz => XS.istoreN X2.here hx rfl (hb hby at_22) rfl (l' := #[oI p0, oI ((p0 &&& (2147483647 : Int32)) % (5 : Int32)), oR aBMC, oI (0 : Int32)]) rfl kz) ?_
    show own_Go p e below _ (T2.setTop (mkF m 23 #[oI p0, oI ((p0 &&& (2147483647 : Int32)) % (5 : Int32)), oR aBMC, oI (0 : Int32)] []))
    refine own_via (fun t kz => XS.aloadN X2.here hx rfl (hb hby at_23) rfl rfl kz) ?_
    show own_Go p e below _ (T2.setTop (mkF m 24 #[oI p0, oI ((p0 &&& (2147483647 : Int32)) % (5 : Int32)), oR aBMC, oI (0 : Int32)] [(.ref aBMC)]))
    obtain ⟨cq4, kq4, qa4, qb4, qc4⟩ := isOf hZ e2 E_BMC
    obtain ⟨_, _, ⟨T4, L4, k4, n4⟩, -, X4, ⟨Lc4, hQ4, l4, y4, z4⟩, st4⟩ := X2.virtualBack hx (y := (⟨"com/example/ashlar/ashlar/Algorithm", "coversByForce", "()Z"⟩ : MethodName)) (z := (⟨"com/example/ashlar/ashlar/Algorithm", "coversByForce", "()Z"⟩ : MethodName)) hown (mvT hZ (own_w hw 8)) (mvT hZ (own_w hw 9)) (notFace_of_selects (args := #[]) (mvT hZ (own_w hw 11))) (mvT hZ (own_w hw 11)) (mvT hZ (own_w hw 10)) (by decide) (backOf (W := 0) (rm2 l Z a0 hw [] aBMC aIMPACT (0 : Int32) h0 n0 Z0 S_IMPACT (by unfold f2; rw [if_neg ne_BMC_IMPACT])) hZ (own_w hw 12) (own_w hw 6) (by decide) (by decide)) qa4 qc4 (g := (mkF m 24 #[oI p0, oI ((p0 &&& (2147483647 : Int32)) % (5 : Int32)), oR aBMC, oI (0 : Int32)] [(.ref aBMC)])) rfl (by rw [hml]; rfl) (Steps.refl _) (argsL := []) (rest := []) (lenOf pd_0_1 rfl) rfl (by show 2 * 0 + _ ≤ _; exact Nat.le_of_eq rfl) (hb hby at_24) (fun _ _ => ⟨rfl, e2, (by decide : 0 + 0 ≤ _), (by decide : 0 + 0 ≤ _)⟩)
    dsimp only [Pt.U, Pt.locs, Pt.cells, Pt.slots] at X4 l4 y4 z4 st4 hQ4
    subst l4 y4 z4
    obtain ⟨rfl, Nq4, e4⟩ := hQ4
    have N5 := Fr.app N3 Nq4
    refine own_tr st4 ?_
    show own_Go p e below _ (T4.setTop (mkF m 27 #[oI p0, oI ((p0 &&& (2147483647 : Int32)) % (5 : Int32)), oR aBMC, oI (0 : Int32)] [(.int (0 : Int32))]))
    refine own_via (fun t kz => XS.iloadN X4.here hx rfl (hb hby at_27) rfl kz) ?_
    show own_Go p e below _ (T4.setTop (mkF m 28 #[oI p0, oI ((p0 &&& (2147483647 : Int32)) % (5 : Int32)), oR aBMC, oI (0 : Int32)] [(.int (0 : Int32)), (.int (0 : Int32))]))
    refine own_via (fun t kz => XS.icmpNo X4.here hx rfl (hb hby at_28) rfl (teq (by decide : (0 : Int32) = (0 : Int32))).2 kz) ?_
    show own_Go p e below _ (T4.setTop (mkF m 31 #[oI p0, oI ((p0 &&& (2147483647 : Int32)) % (5 : Int32)), oR aBMC, oI (0 : Int32)] []))
    refine own_via (fun t kz => XS.iconst X4.here hx rfl (hb hby at_31) kz) ?_
    show own_Go p e below _ (T4.setTop (mkF m 32 #[oI p0, oI ((p0 &&& (2147483647 : Int32)) % (5 : Int32)), oR aBMC, oI (0 : Int32)] [(.int (1 : Int32))]))
    refine own_via (fun t kz => XS.goto X4.here hx rfl (pc0 := 32) (pc' := 36) rfl (hb hby at_32) (by decide) (by decide) kz) ?_
    show own_Go p e below _ (T4.setTop (mkF m 36 #[oI p0, oI ((p0 &&& (2147483647 : Int32)) % (5 : Int32)), oR aBMC, oI (0 : Int32)] [(.int (1 : Int32))]))
    obtain ⟨fs, hr, hrun, hended, hW, hsame⟩ := X4.leave (v := some (.int (1 : Int32))) (fun h => by rw [Bd.returns] at h; cases h)
    refine ⟨_, _, retN X4 hx (t := .boolean) Bd.returns (by simp) (hb hby at_36) hr, hrun, hended, _, _, rfl, ?_, ⟨_, rfl⟩, hW, hsame.mono (by decide) (by decide)⟩
    show Q0 Z p0 aBMC aIMPACT aKINDUCTION aCONGRUENCE aPREDICATE h0 n0 _ T4.heap _
    rw [e4]
    exact ⟨rfl, N5⟩
  · by_cases hc8_7 : ((p0 &&& (2147483647 : Int32)) % (5 : Int32)) = (1 : Int32)
    · obtain ⟨_, _, ⟨T8, L8, k8, n8⟩, -, X8, ⟨Lc8, hQ8, l8, y8, z8⟩, st8⟩ := Jvm.LawKit.callS X0 hx (y := (⟨"com/example/ashlar/ashlar/AlgorithmCoversByForcePinLaw", "pick", "(I)Lcom/example/ashlar/ashlar/Algorithm;"⟩ : MethodName)) hown (mvT hZ (own_w hw 1)) (mvT hZ (own_w hw 2)) (mvT hZ (own_w hw 3)) (mvT hZ (own_w hw 4)) (by decide) (backOf (W := 0) (rm1 l Z a0 hw [] ((p0 &&& (2147483647 : Int32)) % (5 : Int32)) aBMC aKINDUCTION aPREDICATE aIMPACT aCONGRUENCE aKINDUCTION h0 n0 Z0 S_BMC S_KINDUCTION S_PREDICATE S_IMPACT S_CONGRUENCE (by unfold f1; rw [if_neg hc8_1, if_pos hc8_7])) hZ (own_w hw 4) (own_w hw 3) (by decide) (by decide)) (g := (mkF m 8 #[oI p0, oI ((p0 &&& (2147483647 : Int32)) % (5 : Int32)), .unset, .unset] [(.int ((p0 &&& (2147483647 : Int32)) % (5 : Int32)))])) rfl (by rw [hml]; rfl) (argsL := [(.int ((p0 &&& (2147483647 : Int32)) % (5 : Int32)))]) (rest := []) (lenOf pd_0_0 rfl) rfl (by show 2 * 0 + _ ≤ _; exact Nat.le_of_eq rfl) (hb hby at_8) (fun _ _ => ⟨rfl, e0, (by decide : 0 + 0 ≤ _), (by decide : 0 + 0 ≤ _)⟩)
      dsimp only [Pt.U, Pt.locs, Pt.cells, Pt.slots] at X8 l8 y8 z8 st8 hQ8
      subst l8 y8 z8
      obtain ⟨rfl, Nq8, e8⟩ := hQ8
      have N9 := Fr.app N0 Nq8
      refine own_via st8 ?_
      show own_Go p e below _ (T8.setTop (mkF m 11 #[oI p0, oI ((p0 &&& (2147483647 : Int32)) % (5 : Int32)), .unset, .unset] [(.ref aKINDUCTION)]))
      refine own_via (fun t kz => XS.astoreN X8.here hx rfl (hb hby at_11) rfl rfl (l' := #[oI p0, oI ((p0 &&& (2147483647 : Int32)) % (5 : Int32)), oR aKINDUCTION, .unset]) rfl kz) ?_
      show own_Go p e below _ (T8.setTop (mkF m 12 #[oI p0, oI ((p0 &&& (2147483647 : Int32)) % (5 : Int32)), oR aKINDUCTION, .unset] []))
      refine own_via (fun t kz => XS.iloadN X8.here hx rfl (hb hby at_12) rfl kz) ?_
      show own_Go p e below _ (T8.setTop (mkF m 13 #[oI p0, oI ((p0 &&& (2147483647 : Int32)) % (5 : Int32)), oR aKINDUCTION, .unset] [(.int ((p0 &&& (2147483647 : Int32)) % (5 : Int32)))]))
      refine own_via (fun t kz => XS.iconst X8.here hx rfl (hb hby at_13) kz) ?_
      show own_Go p e below _ (T8.setTop (mkF m 14 #[oI p0, oI ((p0 &&& (2147483647 : Int32)) % (5 : Int32)), oR aKINDUCTION, .unset] [(.int (3 : Int32)), (.int ((p0 &&& (2147483647 : Int32)) % (5 : Int32)))]))
      refine own_via (fun t kz => XS.icmpYes X8.here hx rfl (pc0 := 14) (pc' := 21) rfl (hb hby at_14) rfl (feq (by rw [hc8_7]; decide : ¬ (((p0 &&& (2147483647 : Int32)) % (5 : Int32)) = (3 : Int32)))).2 (by decide) (by decide) kz) ?_
      show own_Go p e below _ (T8.setTop (mkF m 21 #[oI p0, oI ((p0 &&& (2147483647 : Int32)) % (5 : Int32)), oR aKINDUCTION, .unset] []))
      refine own_via (fun t kz => XS.iconst X8.here hx rfl (hb hby at_21) kz) ?_
      show own_Go p e below _ (T8.setTop (mkF m 22 #[oI p0, oI ((p0 &&& (2147483647 : Int32)) % (5 : Int32)), oR aKINDUCTION, .unset] [(.int (0 : Int32))]))
      refine own_via (fun t kz => XS.istoreN X8.here hx rfl (hb hby at_22) rfl (l' := #[oI p0, oI ((p0 &&& (2147483647 : Int32)) % (5 : Int32)), oR aKINDUCTION, oI (0 : Int32)]) rfl kz) ?_
      show own_Go p e below _ (T8.setTop (mkF m 23 #[oI p0, oI ((p0 &&& (2147483647 : Int32)) % (5 : Int32)), oR aKINDUCTION, oI (0 : Int32)] []))
      refine own_via (fun t kz => XS.aloadN X8.here hx rfl (hb hby at_23) rfl rfl kz) ?_
      show own_Go p e below _ (T8.setTop (mkF m 24 #[oI p0, oI ((p0 &&& (2147483647 : Int32)) % (5 : Int32)), oR aKINDUCTION, oI (0 : Int32)] [(.ref aKINDUCTION)]))
      obtain ⟨cq10, kq10, qa10, qb10, qc10⟩ := isOf hZ e8 E_KINDUCTION
      obtain ⟨_, _, ⟨T10, L10, k10, n10⟩, -, X10, ⟨Lc10, hQ10, l10, y10, z10⟩, st10⟩ := X8.virtualBack hx (y := (⟨"com/example/ashlar/ashlar/Algorithm", "coversByForce", "()Z"⟩ : MethodName)) (z := (⟨"com/example/ashlar/ashlar/Algorithm", "coversByForce", "()Z"⟩ : MethodName)) hown (mvT hZ (own_w hw 8)) (mvT hZ (own_w hw 9)) (notFace_of_selects (args := #[]) (mvT hZ (own_w hw 11))) (mvT hZ (own_w hw 11)) (mvT hZ (own_w hw 10)) (by decide) (backOf (W := 0) (rm2 l Z a0 hw [] aKINDUCTION aIMPACT (0 : Int32) h0 n0 Z0 S_IMPACT (by unfold f2; rw [if_neg (Ne.symm ne_IMPACT_KINDUCTION)])) hZ (own_w hw 12) (own_w hw 6) (by decide) (by decide)) qa10 qc10 (g := (mkF m 24 #[oI p0, oI ((p0 &&& (2147483647 : Int32)) % (5 : Int32)), oR aKINDUCTION, oI (0 : Int32)] [(.ref aKINDUCTION)])) rfl (by rw [hml]; rfl) (Steps.refl _) (argsL := []) (rest := []) (lenOf pd_0_1 rfl) rfl (by show 2 * 0 + _ ≤ _; exact Nat.le_of_eq rfl) (hb hby at_24) (fun _ _ => ⟨rfl, e8, (by decide : 0 + 0 ≤ _), (by decide : 0 + 0 ≤ _)⟩)
      dsimp only [Pt.U, Pt.locs, Pt.cells, Pt.slots] at X10 l10 y10 z10 st10 hQ10
      subst l10 y10 z10
      obtain ⟨rfl, Nq10, e10⟩ := hQ10
      have N11 := Fr.app N9 Nq10
      refine own_tr st10 ?_
      show own_Go p e below _ (T10.setTop (mkF m 27 #[oI p0, oI ((p0 &&& (2147483647 : Int32)) % (5 : Int32)), oR aKINDUCTION, oI (0 : Int32)] [(.int (0 : Int32))]))
      refine own_via (fun t kz => XS.iloadN X10.here hx rfl (hb hby at_27) rfl kz) ?_
      show own_Go p e below _ (T10.setTop (mkF m 28 #[oI p0, oI ((p0 &&& (2147483647 : Int32)) % (5 : Int32)), oR aKINDUCTION, oI (0 : Int32)] [(.int (0 : Int32)), (.int (0 : Int32))]))
      refine own_via (fun t kz => XS.icmpNo X10.here hx rfl (hb hby at_28) rfl (teq (by decide : (0 : Int32) = (0 : Int32))).2 kz) ?_
      show own_Go p e below _ (T10.setTop (mkF m 31 #[oI p0, oI ((p0 &&& (2147483647 : Int32)) % (5 : Int32)), oR aKINDUCTION, oI (0 : Int32)] []))
      refine own_via (fun t kz => XS.iconst X10.here hx rfl (hb hby at_31) kz) ?_
      show own_Go p e below _ (T10.setTop (mkF m 32 #[oI p0, oI ((p0 &&& (2147483647 : Int32)) % (5 : Int32)), oR aKINDUCTION, oI (0 : Int32)] [(.int (1 : Int32))]))
      refine own_via (fun t kz => XS.goto X10.here hx rfl (pc0 := 32) (pc' := 36) rfl (hb hby at_32) (by decide) (by decide) kz) ?_
      show own_Go p e below _ (T10.setTop (mkF m 36 #[oI p0, oI ((p0 &&& (2147483647 : Int32)) % (5 : Int32)), oR aKINDUCTION, oI (0 : Int32)] [(.int (1 : Int32))]))
      obtain ⟨fs, hr, hrun, hended, hW, hsame⟩ := X10.leave (v := some (.int (1 : Int32))) (fun h => by rw [Bd.returns] at h; cases h)
      refine ⟨_, _, retN X10 hx (t := .boolean) Bd.returns (by simp) (hb hby at_36) hr, hrun, hended, _, _, rfl, ?_, ⟨_, rfl⟩, hW, hsame.mono (by decide) (by decide)⟩
      show Q0 Z p0 aBMC aIMPACT aKINDUCTION aCONGRUENCE aPREDICATE h0 n0 _ T10.heap _
      rw [e10]
      exact ⟨rfl, N11⟩
    · by_cases hc8_13 : ((p0 &&& (2147483647 : Int32)) % (5 : Int32)) = (2 : Int32)
      · obtain ⟨_, _, ⟨T14, L14, k14, n14⟩, -, X14, ⟨Lc14, hQ14, l14, y14, z14⟩, st14⟩ := Jvm.LawKit.callS X0 hx (y := (⟨"com/example/ashlar/ashlar/AlgorithmCoversByForcePinLaw", "pick", "(I)Lcom/example/ashlar/ashlar/Algorithm;"⟩ : MethodName)) hown (mvT hZ (own_w hw 1)) (mvT hZ (own_w hw 2)) (mvT hZ (own_w hw 3)) (mvT hZ (own_w hw 4)) (by decide) (backOf (W := 0) (rm1 l Z a0 hw [] ((p0 &&& (2147483647 : Int32)) % (5 : Int32)) aBMC aKINDUCTION aPREDICATE aIMPACT aCONGRUENCE aPREDICATE h0 n0 Z0 S_BMC S_KINDUCTION S_PREDICATE S_IMPACT S_CONGRUENCE (by unfold f1; rw [if_neg hc8_1, if_neg hc8_7, if_pos hc8_13])) hZ (own_w hw 4) (own_w hw 3) (by decide) (by decide)) (g := (mkF m 8 #[oI p0, oI ((p0 &&& (2147483647 : Int32)) % (5 : Int32)), .unset, .unset] [(.int ((p0 &&& (2147483647 : Int32)) % (5 : Int32)))])) rfl (by rw [hml]; rfl) (argsL := [(.int ((p0 &&& (2147483647 : Int32)) % (5 : Int32)))]) (rest := []) (lenOf pd_0_0 rfl) rfl (by show 2 * 0 + _ ≤ _; exact Nat.le_of_eq rfl) (hb hby at_8) (fun _ _ => ⟨rfl, e0, (by decide : 0 + 0 ≤ _), (by decide : 0 + 0 ≤ _)⟩)
        dsimp only [Pt.U, Pt.locs, Pt.cells, Pt.slots] at X14 l14 y14 z14 st14 hQ14
        subst l14 y14 z14
        obtain ⟨rfl, Nq14, e14⟩ := hQ14
        have N15 := Fr.app N0 Nq14
        refine own_via st14 ?_
        show own_Go p e below _ (T14.setTop (mkF m 11 #[oI p0, oI ((p0 &&& (2147483647 : Int32)) % (5 : Int32)), .unset, .unset] [(.ref aPREDICATE)]))
        refine own_via (fun t kz => XS.astoreN X14.here hx rfl (hb hby at_11) rfl rfl (l' := #[oI p0, oI ((p0 &&& (2147483647 : Int32)) % (5 : Int32)), oR aPREDICATE, .unset]) rfl kz) ?_
        show own_Go p e below _ (T14.setTop (mkF m 12 #[oI p0, oI ((p0 &&& (2147483647 : Int32)) % (5 : Int32)), oR aPREDICATE, .unset] []))
        refine own_via (fun t kz => XS.iloadN X14.here hx rfl (hb hby at_12) rfl kz) ?_
        show own_Go p e below _ (T14.setTop (mkF m 13 #[oI p0, oI ((p0 &&& (2147483647 : Int32)) % (5 : Int32)), oR aPREDICATE, .unset] [(.int ((p0 &&& (2147483647 : Int32)) % (5 : Int32)))]))
        refine own_via (fun t kz => XS.iconst X14.here hx rfl (hb hby at_13) kz) ?_
        show own_Go p e below _ (T14.setTop (mkF m 14 #[oI p0, oI ((p0 &&& (2147483647 : Int32)) % (5 : Int32)), oR aPREDICATE, .unset] [(.int (3 : Int32)), (.int ((p0 &&& (2147483647 : Int32)) % (5 : Int32)))]))
        refine own_via (fun t kz => XS.icmpYes X14.here hx rfl (pc0 := 14) (pc' := 21) rfl (hb hby at_14) rfl (feq (by rw [hc8_13]; decide : ¬ (((p0 &&& (2147483647 : Int32)) % (5 : Int32)) = (3 : Int32)))).2 (by decide) (by decide) kz) ?_
        show own_Go p e below _ (T14.setTop (mkF m 21 #[oI p0, oI ((p0 &&& (2147483647 : Int32)) % (5 : Int32)), oR aPREDICATE, .unset] []))
        refine own_via (fun t kz => XS.iconst X14.here hx rfl (hb hby at_21) kz) ?_
        show own_Go p e below _ (T14.setTop (mkF m 22 #[oI p0, oI ((p0 &&& (2147483647 : Int32)) % (5 : Int32)), oR aPREDICATE, .unset] [(.int (0 : Int32))]))
        refine own_via (fun t kz => XS.istoreN X14.here hx rfl (hb hby at_22) rfl (l' := #[oI p0, oI ((p0 &&& (2147483647 : Int32)) % (5 : Int32)), oR aPREDICATE, oI (0 : Int32)]) rfl kz) ?_
        show own_Go p e below _ (T14.setTop (mkF m 23 #[oI p0, oI ((p0 &&& (2147483647 : Int32)) % (5 : Int32)), oR aPREDICATE, oI (0 : Int32)] []))
        refine own_via (fun t kz => XS.aloadN X14.here hx rfl (hb hby at_23) rfl rfl kz) ?_
        show own_Go p e below _ (T14.setTop (mkF m 24 #[oI p0, oI ((p0 &&& (2147483647 : Int32)) % (5 : Int32)), oR aPREDICATE, oI (0 : Int32)] [(.ref aPREDICATE)]))
        obtain ⟨cq16, kq16, qa16, qb16, qc16⟩ := isOf hZ e14 E_PREDICATE
        obtain ⟨_, _, ⟨T16, L16, k16, n16⟩, -, X16, ⟨Lc16, hQ16, l16, y16, z16⟩, st16⟩ := X14.virtualBack hx (y := (⟨"com/example/ashlar/ashlar/Algorithm", "coversByForce", "()Z"⟩ : MethodName)) (z := (⟨"com/example/ashlar/ashlar/Algorithm", "coversByForce", "()Z"⟩ : MethodName)) hown (mvT hZ (own_w hw 8)) (mvT hZ (own_w hw 9)) (notFace_of_selects (args := #[]) (mvT hZ (own_w hw 11))) (mvT hZ (own_w hw 11)) (mvT hZ (own_w hw 10)) (by decide) (backOf (W := 0) (rm2 l Z a0 hw [] aPREDICATE aIMPACT (0 : Int32) h0 n0 Z0 S_IMPACT (by unfold f2; rw [if_neg (Ne.symm ne_IMPACT_PREDICATE)])) hZ (own_w hw 12) (own_w hw 6) (by decide) (by decide)) qa16 qc16 (g := (mkF m 24 #[oI p0, oI ((p0 &&& (2147483647 : Int32)) % (5 : Int32)), oR aPREDICATE, oI (0 : Int32)] [(.ref aPREDICATE)])) rfl (by rw [hml]; rfl) (Steps.refl _) (argsL := []) (rest := []) (lenOf pd_0_1 rfl) rfl (by show 2 * 0 + _ ≤ _; exact Nat.le_of_eq rfl) (hb hby at_24) (fun _ _ => ⟨rfl, e14, (by decide : 0 + 0 ≤ _), (by decide : 0 + 0 ≤ _)⟩)
        dsimp only [Pt.U, Pt.locs, Pt.cells, Pt.slots] at X16 l16 y16 z16 st16 hQ16
        subst l16 y16 z16
        obtain ⟨rfl, Nq16, e16⟩ := hQ16
        have N17 := Fr.app N15 Nq16
        refine own_tr st16 ?_
        show own_Go p e below _ (T16.setTop (mkF m 27 #[oI p0, oI ((p0 &&& (2147483647 : Int32)) % (5 : Int32)), oR aPREDICATE, oI (0 : Int32)] [(.int (0 : Int32))]))
        refine own_via (fun t kz => XS.iloadN X16.here hx rfl (hb hby at_27) rfl kz) ?_
        show own_Go p e below _ (T16.setTop (mkF m 28 #[oI p0, oI ((p0 &&& (2147483647 : Int32)) % (5 : Int32)), oR aPREDICATE, oI (0 : Int32)] [(.int (0 : Int32)), (.int (0 : Int32))]))
        refine own_via (fun t kz => XS.icmpNo X16.here hx rfl (hb hby at_28) rfl (teq (by decide : (0 : Int32) = (0 : Int32))).2 kz) ?_
        show own_Go p e below _ (T16.setTop (mkF m 31 #[oI p0, oI ((p0 &&& (2147483647 : Int32)) % (5 : Int32)), oR aPREDICATE, oI (0 : Int32)] []))
        refine own_via (fun t kz => XS.iconst X16.here hx rfl (hb hby at_31) kz) ?_
        show own_Go p e below _ (T16.setTop (mkF m 32 #[oI p0, oI ((p0 &&& (2147483647 : Int32)) % (5 : Int32)), oR aPREDICATE, oI (0 : Int32)] [(.int (1 : Int32))]))
        refine own_via (fun t kz => XS.goto X16.here hx rfl (pc0 := 32) (pc' := 36) rfl (hb hby at_32) (by decide) (by decide) kz) ?_
        show own_Go p e below _ (T16.setTop (mkF m 36 #[oI p0, oI ((p0 &&& (2147483647 : Int32)) % (5 : Int32)), oR aPREDICATE, oI (0 : Int32)] [(.int (1 : Int32))]))
        obtain ⟨fs, hr, hrun, hended, hW, hsame⟩ := X16.leave (v := some (.int (1 : Int32))) (fun h => by rw [Bd.returns] at h; cases h)
        refine ⟨_, _, retN X16 hx (t := .boolean) Bd.returns (by simp) (hb hby at_36) hr, hrun, hended, _, _, rfl, ?_, ⟨_, rfl⟩, hW, hsame.mono (by decide) (by decide)⟩
        show Q0 Z p0 aBMC aIMPACT aKINDUCTION aCONGRUENCE aPREDICATE h0 n0 _ T16.heap _
        rw [e16]
        exact ⟨rfl, N17⟩
      · by_cases hc8_19 : ((p0 &&& (2147483647 : Int32)) % (5 : Int32)) = (3 : Int32)
        · obtain ⟨_, _, ⟨T20, L20, k20, n20⟩, -, X20, ⟨Lc20, hQ20, l20, y20, z20⟩, st20⟩ := Jvm.LawKit.callS X0 hx (y := (⟨"com/example/ashlar/ashlar/AlgorithmCoversByForcePinLaw", "pick", "(I)Lcom/example/ashlar/ashlar/Algorithm;"⟩ : MethodName)) hown (mvT hZ (own_w hw 1)) (mvT hZ (own_w hw 2)) (mvT hZ (own_w hw 3)) (mvT hZ (own_w hw 4)) (by decide) (backOf (W := 0) (rm1 l Z a0 hw [] ((p0 &&& (2147483647 : Int32)) % (5 : Int32)) aBMC aKINDUCTION aPREDICATE aIMPACT aCONGRUENCE aIMPACT h0 n0 Z0 S_BMC S_KINDUCTION S_PREDICATE S_IMPACT S_CONGRUENCE (by unfold f1; rw [if_neg hc8_1, if_neg hc8_7, if_neg hc8_13, if_pos hc8_19])) hZ (own_w hw 4) (own_w hw 3) (by decide) (by decide)) (g := (mkF m 8 #[oI p0, oI ((p0 &&& (2147483647 : Int32)) % (5 : Int32)), .unset, .unset] [(.int ((p0 &&& (2147483647 : Int32)) % (5 : Int32)))])) rfl (by rw [hml]; rfl) (argsL := [(.int ((p0 &&& (2147483647 : Int32)) % (5 : Int32)))]) (rest := []) (lenOf pd_0_0 rfl) rfl (by show 2 * 0 + _ ≤ _; exact Nat.le_of_eq rfl) (hb hby at_8) (fun _ _ => ⟨rfl, e0, (by decide : 0 + 0 ≤ _), (by decide : 0 + 0 ≤ _)⟩)
          dsimp only [Pt.U, Pt.locs, Pt.cells, Pt.slots] at X20 l20 y20 z20 st20 hQ20
          subst l20 y20 z20
          obtain ⟨rfl, Nq20, e20⟩ := hQ20
          have N21 := Fr.app N0 Nq20
          refine own_via st20 ?_
          show own_Go p e below _ (T20.setTop (mkF m 11 #[oI p0, oI ((p0 &&& (2147483647 : Int32)) % (5 : Int32)), .unset, .unset] [(.ref aIMPACT)]))
          refine own_via (fun t kz => XS.astoreN X20.here hx rfl (hb hby at_11) rfl rfl (l' := #[oI p0, oI ((p0 &&& (2147483647 : Int32)) % (5 : Int32)), oR aIMPACT, .unset]) rfl kz) ?_
          show own_Go p e below _ (T20.setTop (mkF m 12 #[oI p0, oI ((p0 &&& (2147483647 : Int32)) % (5 : Int32)), oR aIMPACT, .unset] []))
          refine own_via (fun t kz => XS.iloadN X20.here hx rfl (hb hby at_12) rfl kz) ?_
          show own_Go p e below _ (T20.setTop (mkF m 13 #[oI p0, oI ((p0 &&& (2147483647 : Int32)) % (5 : Int32)), oR aIMPACT, .unset] [(.int ((p0 &&& (2147483647 : Int32)) % (5 : Int32)))]))
          refine own_via (fun t kz => XS.iconst X20.here hx rfl (hb hby at_13) kz) ?_
          show own_Go p e below _ (T20.setTop (mkF m 14 #[oI p0, oI ((p0 &&& (2147483647 : Int32)) % (5 : Int32)), oR aIMPACT, .unset] [(.int (3 : Int32)), (.int ((p0 &&& (2147483647 : Int32)) % (5 : Int32)))]))
          refine own_via (fun t kz => XS.icmpNo X20.here hx rfl (hb hby at_14) rfl (teq hc8_19).2 kz) ?_
          show own_Go p e below _ (T20.setTop (mkF m 17 #[oI p0, oI ((p0 &&& (2147483647 : Int32)) % (5 : Int32)), oR aIMPACT, .unset] []))
          refine own_via (fun t kz => XS.iconst X20.here hx rfl (hb hby at_17) kz) ?_
          show own_Go p e below _ (T20.setTop (mkF m 18 #[oI p0, oI ((p0 &&& (2147483647 : Int32)) % (5 : Int32)), oR aIMPACT, .unset] [(.int (1 : Int32))]))
          refine own_via (fun t kz => XS.goto X20.here hx rfl (pc0 := 18) (pc' := 22) rfl (hb hby at_18) (by decide) (by decide) kz) ?_
          show own_Go p e below _ (T20.setTop (mkF m 22 #[oI p0, oI ((p0 &&& (2147483647 : Int32)) % (5 : Int32)), oR aIMPACT, .unset] [(.int (1 : Int32))]))
          refine own_via (fun t kz => XS.istoreN X20.here hx rfl (hb hby at_22) rfl (l' := #[oI p0, oI ((p0 &&& (2147483647 : Int32)) % (5 : Int32)), oR aIMPACT, oI (1 : Int32)]) rfl kz) ?_
          show own_Go p e below _ (T20.setTop (mkF m 23 #[oI p0, oI ((p0 &&& (2147483647 : Int32)) % (5 : Int32)), oR aIMPACT, oI (1 : Int32)] []))
          refine own_via (fun t kz => XS.aloadN X20.here hx rfl (hb hby at_23) rfl rfl kz) ?_
          show own_Go p e below _ (T20.setTop (mkF m 24 #[oI p0, oI ((p0 &&& (2147483647 : Int32)) % (5 : Int32)), oR aIMPACT, oI (1 : Int32)] [(.ref aIMPACT)]))
          obtain ⟨cq22, kq22, qa22, qb22, qc22⟩ := isOf hZ e20 E_IMPACT
          obtain ⟨_, _, ⟨T22, L22, k22, n22⟩, -, X22, ⟨Lc22, hQ22, l22, y22, z22⟩, st22⟩ := X20.virtualBack hx (y := (⟨"com/example/ashlar/ashlar/Algorithm", "coversByForce", "()Z"⟩ : MethodName)) (z := (⟨"com/example/ashlar/ashlar/Algorithm", "coversByForce", "()Z"⟩ : MethodName)) hown (mvT hZ (own_w hw 8)) (mvT hZ (own_w hw 9)) (notFace_of_selects (args := #[]) (mvT hZ (own_w hw 11))) (mvT hZ (own_w hw 11)) (mvT hZ (own_w hw 10)) (by decide) (backOf (W := 0) (rm2 l Z a0 hw [] aIMPACT aIMPACT (1 : Int32) h0 n0 Z0 S_IMPACT (by unfold f2; rw [if_pos (rfl : aIMPACT = aIMPACT)])) hZ (own_w hw 12) (own_w hw 6) (by decide) (by decide)) qa22 qc22 (g := (mkF m 24 #[oI p0, oI ((p0 &&& (2147483647 : Int32)) % (5 : Int32)), oR aIMPACT, oI (1 : Int32)] [(.ref aIMPACT)])) rfl (by rw [hml]; rfl) (Steps.refl _) (argsL := []) (rest := []) (lenOf pd_0_1 rfl) rfl (by show 2 * 0 + _ ≤ _; exact Nat.le_of_eq rfl) (hb hby at_24) (fun _ _ => ⟨rfl, e20, (by decide : 0 + 0 ≤ _), (by decide : 0 + 0 ≤ _)⟩)
          dsimp only [Pt.U, Pt.locs, Pt.cells, Pt.slots] at X22 l22 y22 z22 st22 hQ22
          subst l22 y22 z22
          obtain ⟨rfl, Nq22, e22⟩ := hQ22
          have N23 := Fr.app N21 Nq22
          refine own_tr st22 ?_
          show own_Go p e below _ (T22.setTop (mkF m 27 #[oI p0, oI ((p0 &&& (2147483647 : Int32)) % (5 : Int32)), oR aIMPACT, oI (1 : Int32)] [(.int (1 : Int32))]))
          refine own_via (fun t kz => XS.iloadN X22.here hx rfl (hb hby at_27) rfl kz) ?_
          show own_Go p e below _ (T22.setTop (mkF m 28 #[oI p0, oI ((p0 &&& (2147483647 : Int32)) % (5 : Int32)), oR aIMPACT, oI (1 : Int32)] [(.int (1 : Int32)), (.int (1 : Int32))]))
          refine own_via (fun t kz => XS.icmpNo X22.here hx rfl (hb hby at_28) rfl (teq (by decide : (1 : Int32) = (1 : Int32))).2 kz) ?_
          show own_Go p e below _ (T22.setTop (mkF m 31 #[oI p0, oI ((p0 &&& (2147483647 : Int32)) % (5 : Int32)), oR aIMPACT, oI (1 : Int32)] []))
          refine own_via (fun t kz => XS.iconst X22.here hx rfl (hb hby at_31) kz) ?_
          show own_Go p e below _ (T22.setTop (mkF m 32 #[oI p0, oI ((p0 &&& (2147483647 : Int32)) % (5 : Int32)), oR aIMPACT, oI (1 : Int32)] [(.int (1 : Int32))]))
          refine own_via (fun t kz => XS.goto X22.here hx rfl (pc0 := 32) (pc' := 36) rfl (hb hby at_32) (by decide) (by decide) kz) ?_
          show own_Go p e below _ (T22.setTop (mkF m 36 #[oI p0, oI ((p0 &&& (2147483647 : Int32)) % (5 : Int32)), oR aIMPACT, oI (1 : Int32)] [(.int (1 : Int32))]))
          obtain ⟨fs, hr, hrun, hended, hW, hsame⟩ := X22.leave (v := some (.int (1 : Int32))) (fun h => by rw [Bd.returns] at h; cases h)
          refine ⟨_, _, retN X22 hx (t := .boolean) Bd.returns (by simp) (hb hby at_36) hr, hrun, hended, _, _, rfl, ?_, ⟨_, rfl⟩, hW, hsame.mono (by decide) (by decide)⟩
          show Q0 Z p0 aBMC aIMPACT aKINDUCTION aCONGRUENCE aPREDICATE h0 n0 _ T22.heap _
          rw [e22]
          exact ⟨rfl, N23⟩
        · obtain ⟨_, _, ⟨T25, L25, k25, n25⟩, -, X25, ⟨Lc25, hQ25, l25, y25, z25⟩, st25⟩ := Jvm.LawKit.callS X0 hx (y := (⟨"com/example/ashlar/ashlar/AlgorithmCoversByForcePinLaw", "pick", "(I)Lcom/example/ashlar/ashlar/Algorithm;"⟩ : MethodName)) hown (mvT hZ (own_w hw 1)) (mvT hZ (own_w hw 2)) (mvT hZ (own_w hw 3)) (mvT hZ (own_w hw 4)) (by decide) (backOf (W := 0) (rm1 l Z a0 hw [] ((p0 &&& (2147483647 : Int32)) % (5 : Int32)) aBMC aKINDUCTION aPREDICATE aIMPACT aCONGRUENCE aCONGRUENCE h0 n0 Z0 S_BMC S_KINDUCTION S_PREDICATE S_IMPACT S_CONGRUENCE (by unfold f1; rw [if_neg hc8_1, if_neg hc8_7, if_neg hc8_13, if_neg hc8_19])) hZ (own_w hw 4) (own_w hw 3) (by decide) (by decide)) (g := (mkF m 8 #[oI p0, oI ((p0 &&& (2147483647 : Int32)) % (5 : Int32)), .unset, .unset] [(.int ((p0 &&& (2147483647 : Int32)) % (5 : Int32)))])) rfl (by rw [hml]; rfl) (argsL := [(.int ((p0 &&& (2147483647 : Int32)) % (5 : Int32)))]) (rest := []) (lenOf pd_0_0 rfl) rfl (by show 2 * 0 + _ ≤ _; exact Nat.le_of_eq rfl) (hb hby at_8) (fun _ _ => ⟨rfl, e0, (by decide : 0 + 0 ≤ _), (by decide : 0 + 0 ≤ _)⟩)
          dsimp only [Pt.U, Pt.locs, Pt.cells, Pt.slots] at X25 l25 y25 z25 st25 hQ25
          subst l25 y25 z25
          obtain ⟨rfl, Nq25, e25⟩ := hQ25
          have N26 := Fr.app N0 Nq25
          refine own_via st25 ?_
          show own_Go p e below _ (T25.setTop (mkF m 11 #[oI p0, oI ((p0 &&& (2147483647 : Int32)) % (5 : Int32)), .unset, .unset] [(.ref aCONGRUENCE)]))
          refine own_via (fun t kz => XS.astoreN X25.here hx rfl (hb hby at_11) rfl rfl (l' := #[oI p0, oI ((p0 &&& (2147483647 : Int32)) % (5 : Int32)), oR aCONGRUENCE, .unset]) rfl kz) ?_
          show own_Go p e below _ (T25.setTop (mkF m 12 #[oI p0, oI ((p0 &&& (2147483647 : Int32)) % (5 : Int32)), oR aCONGRUENCE, .unset] []))
          refine own_via (fun t kz => XS.iloadN X25.here hx rfl (hb hby at_12) rfl kz) ?_
          show own_Go p e below _ (T25.setTop (mkF m 13 #[oI p0, oI ((p0 &&& (2147483647 : Int32)) % (5 : Int32)), oR aCONGRUENCE, .unset] [(.int ((p0 &&& (2147483647 : Int32)) % (5 : Int32)))]))
          refine own_via (fun t kz => XS.iconst X25.here hx rfl (hb hby at_13) kz) ?_
          show own_Go p e below _ (T25.setTop (mkF m 14 #[oI p0, oI ((p0 &&& (2147483647 : Int32)) % (5 : Int32)), oR aCONGRUENCE, .unset] [(.int (3 : Int32)), (.int ((p0 &&& (2147483647 : Int32)) % (5 : Int32)))]))
          refine own_via (fun t kz => XS.icmpYes X25.here hx rfl (pc0 := 14) (pc' := 21) rfl (hb hby at_14) rfl (feq hc8_19).2 (by decide) (by decide) kz) ?_
          show own_Go p e below _ (T25.setTop (mkF m 21 #[oI p0, oI ((p0 &&& (2147483647 : Int32)) % (5 : Int32)), oR aCONGRUENCE, .unset] []))
          refine own_via (fun t kz => XS.iconst X25.here hx rfl (hb hby at_21) kz) ?_
          show own_Go p e below _ (T25.setTop (mkF m 22 #[oI p0, oI ((p0 &&& (2147483647 : Int32)) % (5 : Int32)), oR aCONGRUENCE, .unset] [(.int (0 : Int32))]))
          refine own_via (fun t kz => XS.istoreN X25.here hx rfl (hb hby at_22) rfl (l' := #[oI p0, oI ((p0 &&& (2147483647 : Int32)) % (5 : Int32)), oR aCONGRUENCE, oI (0 : Int32)]) rfl kz) ?_
          show own_Go p e below _ (T25.setTop (mkF m 23 #[oI p0, oI ((p0 &&& (2147483647 : Int32)) % (5 : Int32)), oR aCONGRUENCE, oI (0 : Int32)] []))
          refine own_via (fun t kz => XS.aloadN X25.here hx rfl (hb hby at_23) rfl rfl kz) ?_
          show own_Go p e below _ (T25.setTop (mkF m 24 #[oI p0, oI ((p0 &&& (2147483647 : Int32)) % (5 : Int32)), oR aCONGRUENCE, oI (0 : Int32)] [(.ref aCONGRUENCE)]))
          obtain ⟨cq27, kq27, qa27, qb27, qc27⟩ := isOf hZ e25 E_CONGRUENCE
          obtain ⟨_, _, ⟨T27, L27, k27, n27⟩, -, X27, ⟨Lc27, hQ27, l27, y27, z27⟩, st27⟩ := X25.virtualBack hx (y := (⟨"com/example/ashlar/ashlar/Algorithm", "coversByForce", "()Z"⟩ : MethodName)) (z := (⟨"com/example/ashlar/ashlar/Algorithm", "coversByForce", "()Z"⟩ : MethodName)) hown (mvT hZ (own_w hw 8)) (mvT hZ (own_w hw 9)) (notFace_of_selects (args := #[]) (mvT hZ (own_w hw 11))) (mvT hZ (own_w hw 11)) (mvT hZ (own_w hw 10)) (by decide) (backOf (W := 0) (rm2 l Z a0 hw [] aCONGRUENCE aIMPACT (0 : Int32) h0 n0 Z0 S_IMPACT (by unfold f2; rw [if_neg (Ne.symm ne_IMPACT_CONGRUENCE)])) hZ (own_w hw 12) (own_w hw 6) (by decide) (by decide)) qa27 qc27 (g := (mkF m 24 #[oI p0, oI ((p0 &&& (2147483647 : Int32)) % (5 : Int32)), oR aCONGRUENCE, oI (0 : Int32)] [(.ref aCONGRUENCE)])) rfl (by rw [hml]; rfl) (Steps.refl _) (argsL := []) (rest := []) (lenOf pd_0_1 rfl) rfl (by show 2 * 0 + _ ≤ _; exact Nat.le_of_eq rfl) (hb hby at_24) (fun _ _ => ⟨rfl, e25, (by decide : 0 + 0 ≤ _), (by decide : 0 + 0 ≤ _)⟩)
          dsimp only [Pt.U, Pt.locs, Pt.cells, Pt.slots] at X27 l27 y27 z27 st27 hQ27
          subst l27 y27 z27
          obtain ⟨rfl, Nq27, e27⟩ := hQ27
          have N28 := Fr.app N26 Nq27
          refine own_tr st27 ?_
          show own_Go p e below _ (T27.setTop (mkF m 27 #[oI p0, oI ((p0 &&& (2147483647 : Int32)) % (5 : Int32)), oR aCONGRUENCE, oI (0 : Int32)] [(.int (0 : Int32))]))
          refine own_via (fun t kz => XS.iloadN X27.here hx rfl (hb hby at_27) rfl kz) ?_
          show own_Go p e below _ (T27.setTop (mkF m 28 #[oI p0, oI ((p0 &&& (2147483647 : Int32)) % (5 : Int32)), oR aCONGRUENCE, oI (0 : Int32)] [(.int (0 : Int32)), (.int (0 : Int32))]))
          refine own_via (fun t kz => XS.icmpNo X27.here hx rfl (hb hby at_28) rfl (teq (by decide : (0 : Int32) = (0 : Int32))).2 kz) ?_
          show own_Go p e below _ (T27.setTop (mkF m 31 #[oI p0, oI ((p0 &&& (2147483647 : Int32)) % (5 : Int32)), oR aCONGRUENCE, oI (0 : Int32)] []))
          refine own_via (fun t kz => XS.iconst X27.here hx rfl (hb hby at_31) kz) ?_
          show own_Go p e below _ (T27.setTop (mkF m 32 #[oI p0, oI ((p0 &&& (2147483647 : Int32)) % (5 : Int32)), oR aCONGRUENCE, oI (0 : Int32)] [(.int (1 : Int32))]))
          refine own_via (fun t kz => XS.goto X27.here hx rfl (pc0 := 32) (pc' := 36) rfl (hb hby at_32) (by decide) (by decide) kz) ?_
          show own_Go p e below _ (T27.setTop (mkF m 36 #[oI p0, oI ((p0 &&& (2147483647 : Int32)) % (5 : Int32)), oR aCONGRUENCE, oI (0 : Int32)] [(.int (1 : Int32))]))
          obtain ⟨fs, hr, hrun, hended, hW, hsame⟩ := X27.leave (v := some (.int (1 : Int32))) (fun h => by rw [Bd.returns] at h; cases h)
          refine ⟨_, _, retN X27 hx (t := .boolean) Bd.returns (by simp) (hb hby at_36) hr, hrun, hended, _, _, rfl, ?_, ⟨_, rfl⟩, hW, hsame.mono (by decide) (by decide)⟩
          show Q0 Z p0 aBMC aIMPACT aKINDUCTION aCONGRUENCE aPREDICATE h0 n0 _ T27.heap _
          rw [e27]
          exact ⟨rfl, N28⟩
set_option maxRecDepth 65536 in
set_option maxHeartbeats 40000000 in
theorem comes_1 {Post : Tables → Env → Array Value → State → Outcome → State → Prop} (hpost : ∀ tb e args s v u, (limb_1_1.after args s (.returned v) u = true ∧ limb_1_2.after args s (.returned v) u = true ∧ True) → FrameEnd s (.returned v) u (Jvm.fieldLocs frame_1_writes args s ++ Jvm.arrayLocs frame_1_arrays args s ++ Jvm.staticLocs frame_1_statics s) 0 0 → Post tb e args s (.returned v) u) :
    ArmFor flags0 classFile x code maxLocals ret World_1 tables_1 room_1 Calls_1 rest_1 Pre_1 Post := by
  intro l hfl _ _ p e ha hc hk s m args below hf hA hF happ hP
  obtain ⟨hcalls, hrest, hpre⟩ := hP
  obtain ⟨-, -, -, hnamed, -, -, -, hat⟩ := (Spec.applies_iff hf).mp happ
  obtain ⟨hg, hn⟩ := and_e (Cond.before_iff.mp (show (Jvm.Cond.and given_1 narrow_1).before args s = true from hpre))
  obtain ⟨g1, g2⟩ := and_e hg
  obtain ⟨w0, rfl⟩ : ∃ w0 : Value, args = #[w0] := by
    have hs : args.size = 1 := by simpa [Cond.value, given_1] using g1
    obtain ⟨L⟩ := args
    match L, hs with
    | [w0], _ => exact ⟨w0, rfl⟩
  have hw := fun d (hd : d ∈ tables_1) => atoms_spec (ws := Jvm.Cond.code x code maxLocals ret :: tables_1) hat d (List.mem_cons_of_mem _ hd)
  obtain ⟨i0, ei0⟩ := is_v g2
  obtain rfl : w0 = (.int i0) := Option.some.inj ei0
  obtain ⟨nr1, nr2⟩ := and_e hn
  obtain ⟨nr3, nr4⟩ := and_e nr2
  obtain ⟨nr5, nr6⟩ := and_e nr4
  obtain ⟨nr7, nr8⟩ := and_e nr6
  obtain ⟨nr9, nr10⟩ := and_e nr8
  obtain ⟨nr11, nr12⟩ := and_e nr10
  obtain ⟨nr13, nr14⟩ := and_e nr12
  obtain ⟨nr15, nr16⟩ := and_e nr14
  obtain ⟨nr17, nr18⟩ := and_e nr16
  obtain ⟨aBMC, evBMC⟩ := exa_v nr1
  have E_BMC := Exa.start evBMC nr1
  have S_BMC := Sta.start evBMC (Or.inr ⟨(own_w hw 6), (own_w hw 7)⟩)
  obtain ⟨aIMPACT, evIMPACT⟩ := exa_v nr3
  have E_IMPACT := Exa.start evIMPACT nr3
  have S_IMPACT := Sta.start evIMPACT (Or.inr ⟨(own_w hw 6), (own_w hw 14)⟩)
  obtain ⟨aKINDUCTION, evKINDUCTION⟩ := exa_v nr9
  have E_KINDUCTION := Exa.start evKINDUCTION nr9
  have S_KINDUCTION := Sta.start evKINDUCTION (Or.inr ⟨(own_w hw 6), (own_w hw 17)⟩)
  obtain ⟨aCONGRUENCE, evCONGRUENCE⟩ := exa_v nr13
  have E_CONGRUENCE := Exa.start evCONGRUENCE nr13
  have S_CONGRUENCE := Sta.start evCONGRUENCE (Or.inr ⟨(own_w hw 6), (own_w hw 19)⟩)
  obtain ⟨aPREDICATE, evPREDICATE⟩ := exa_v nr17
  have E_PREDICATE := Exa.start evPREDICATE nr17
  have S_PREDICATE := Sta.start evPREDICATE (Or.inr ⟨(own_w hw 6), (own_w hw 21)⟩)
  have F_BMC_ordinal := own_fld evBMC nr5
  have F_IMPACT_ordinal := own_fld evIMPACT nr7
  have F_KINDUCTION_ordinal := own_fld evKINDUCTION nr11
  have F_CONGRUENCE_ordinal := own_fld evCONGRUENCE nr15
  have F_PREDICATE_ordinal := own_fld evPREDICATE nr18
  obtain ⟨n, o, h1, h2, h3, _, L, rfl, ⟨rfl, N⟩, hq⟩ := rm0 l s _ hw tables_1 i0 aBMC aIMPACT aKINDUCTION aCONGRUENCE aPREDICATE s.heap s.heap.size (Nat.le_refl _) E_BMC S_BMC E_IMPACT S_IMPACT E_KINDUCTION S_KINDUCTION E_CONGRUENCE S_CONGRUENCE E_PREDICATE S_PREDICATE F_BMC_ordinal F_IMPACT_ordinal F_KINDUCTION_ordinal F_CONGRUENCE_ordinal F_PREDICATE_ordinal (Fld.ne F_BMC_ordinal F_IMPACT_ordinal (own_int_ne (by decide))) (Fld.ne F_BMC_ordinal F_KINDUCTION_ordinal (own_int_ne (by decide))) (Fld.ne F_BMC_ordinal F_CONGRUENCE_ordinal (own_int_ne (by decide))) (Fld.ne F_BMC_ordinal F_PREDICATE_ordinal (own_int_ne (by decide))) (Fld.ne F_IMPACT_ordinal F_KINDUCTION_ordinal (own_int_ne (by decide))) (Fld.ne F_IMPACT_ordinal F_CONGRUENCE_ordinal (own_int_ne (by decide))) (Fld.ne F_IMPACT_ordinal F_PREDICATE_ordinal (own_int_ne (by decide))) (Fld.ne F_KINDUCTION_ordinal F_CONGRUENCE_ordinal (own_int_ne (by decide))) (Fld.ne F_KINDUCTION_ordinal F_PREDICATE_ordinal (own_int_ne (by decide))) (Fld.ne F_CONGRUENCE_ordinal F_PREDICATE_ordinal (own_int_ne (by decide))) p e ha hc hk s m _ below hf ((Spec.applies_iff_loose hf).mp happ).1 ⟨rfl, State.Warmed39.refl s, rfl⟩ trivial
  refine ⟨n, _, h1, h2, h3, hpost _ _ _ _ _ _ ⟨Cond.after_iff.mpr rfl, Cond.after_iff.mpr (eq_i res_at (Term.int_eval (1)) rfl), trivial⟩ ⟨hq.1, hq.2.1, (hq.2.2.sift fun y hy => Or.inr (N y hy)).mono (by decide) (by decide)⟩⟩
theorem main_1_1 : Claimed_1_1 := comes_1 fun _ _ _ _ _ _ h hF => ⟨h.1, hF⟩
theorem main_1_2 : Claimed_1_2 := comes_1 fun _ _ _ _ _ _ h hF => ⟨h.2.1, hF⟩
end Jvm.Pilot.@@N@@
namespace Jvm.Pilot.@@N@@
open Jvm Jvm.ClassFile Sem Op Lib Jvm.Free Jvm.Stand Jvm.Pilot.@@N@@.Jvm.D
/-! MADE BY PROGRAM (witnessworld.py) out of the Statement's table words and the real class files: 12 classes; the members and pool entries that the words name. The judged class is class 1, her method 2. -/
namespace start1
open Jvm.ClassFile
def u (s : String) : CpInfo := .utf8 (stringToUtf16 s)
/-- a pool by its gaps: so many unusable entries, then the entry; so many at the end -/
def gap : Nat → List CpInfo → List CpInfo
  | 0, r => r
  | n + 1, r => .unusable :: gap n r
def poolList (es : List (Nat × CpInfo)) (last : Nat) : List CpInfo := es.foldr (fun e r => gap e.1 (e.2 :: r)) (gap last [])
def pool (es : List (Nat × CpInfo)) (last : Nat) : Array CpInfo := ⟨poolList es last⟩
def fileOf (pool : Array CpInfo) (this : Nat) (attrs : Array Attribute := #[]) (ms : Array MethodInfo := #[]) (fl : Nat := 33) (sup : Nat := 0) (ifs : Array Nat := #[]) (fds : Array FieldInfo := #[]) : ClassFile where
  minorVersion := 0
  majorVersion := 65
  constantPool := pool
  accessFlags := fl
  thisClass := this
  superClass := sup
  interfaces := ifs
  fields := fds
  methods := ms
  attributes := attrs
def plain (name : String) (sup : Option ClassId) : Class where
  name := name
  kind := .ordinary
  loader := none
  accessFlags := 33
  super := sup
  interfaces := #[]
  cf := none
  fields := #[]
  methods := #[]
  instanceTypes := #[]
  staticTypes := #[]
  resolved := #[]
  callSites := []
  init := .initialized
  statics := none
  mirror := none

def pool0 : Array CpInfo := pool [(5, u "<init>"), (0, u "()V"), (1, .class_ 10), (1, u "java/lang/Object")] 113

def k0m0 : Method := { name := "<init>", desc := "()V", sig := { parameters := [], returnType := none }, accessFlags := 1, code := none }
/-- java/lang/Object -/
def k0 : Class := { plain "java/lang/Object" none with
  accessFlags := 33
  interfaces := #[]
  cf := some (fileOf pool0 8 #[] #[{ accessFlags := 1, nameIndex := 5, descriptorIndex := 6, attributes := #[] }] 33 0 #[] #[])
  fields := #[]
  methods := #[k0m0]
  instanceTypes := #[]
  staticTypes := #[]
  resolved := Array.replicate 124 none
  statics := none }

def pool1 : Array CpInfo := pool [(2, .class_ 4), (1, u "java/lang/Object"), (0, u "<init>"), (0, u "()V"), (0, .fieldref 8 9), (0, .class_ 10), (0, .nameAndType 11 12), (0, u "com/example/ashlar/ashlar/Algorithm"), (0, u "BMC"), (0, u "Lcom/example/ashlar/ashlar/Algorithm;"), (0, .fieldref 8 14), (0, .nameAndType 15 12), (0, u "KINDUCTION"), (0, .fieldref 8 17), (0, .nameAndType 18 12), (0, u "PREDICATE"), (0, .fieldref 8 20), (0, .nameAndType 21 12), (0, u "IMPACT"), (0, .fieldref 8 23), (0, .nameAndType 24 12), (0, u "CONGRUENCE"), (0, .integer 2147483647), (0, .methodref 27 28), (0, .class_ 29), (0, .nameAndType 30 31), (0, u "com/example/ashlar/ashlar/AlgorithmCoversByForcePinLaw"), (0, u "pick"), (0, u "(I)Lcom/example/ashlar/ashlar/Algorithm;"), (0, .methodref 8 33), (0, .nameAndType 34 35), (0, u "coversByForce"), (0, u "()Z"), (3, u "law"), (0, u "(I)Z")] 2

def k1m0 : Method := { name := "<init>", desc := "()V", sig := { parameters := [], returnType := none }, accessFlags := 1, code := none }
def k1c1 : Code := { maxStack := 2, maxLocals := 1, code := method_2_code, exceptionTable := #[], attributes := #[] }
def k1m1 : Method := { name := "pick", desc := "(I)Lcom/example/ashlar/ashlar/Algorithm;", sig := { parameters := [.int], returnType := some (.object "com/example/ashlar/ashlar/Algorithm") }, accessFlags := 10, code := some k1c1 }
def k1c2 : Code := { maxStack := 2, maxLocals := 4, code := code, exceptionTable := #[], attributes := #[] }
def k1m2 : Method := { name := "law", desc := "(I)Z", sig := { parameters := [.int], returnType := some .boolean }, accessFlags := 9, code := some k1c2 }
/-- com/example/ashlar/ashlar/AlgorithmCoversByForcePinLaw -/
def k1 : Class := { plain "com/example/ashlar/ashlar/AlgorithmCoversByForcePinLaw" (some 0) with
  accessFlags := 49
  interfaces := #[]
  cf := some (fileOf pool1 27 #[] #[{ accessFlags := 1, nameIndex := 5, descriptorIndex := 6, attributes := #[] }, { accessFlags := 10, nameIndex := 30, descriptorIndex := 31, attributes := #[] }, { accessFlags := 9, nameIndex := 39, descriptorIndex := 40, attributes := #[] }] 49 2 #[] #[])
  fields := #[]
  methods := #[k1m0, k1m1, k1m2]
  instanceTypes := #[]
  staticTypes := #[]
  resolved := Array.replicate 43 none
  statics := none }

def pool2 : Array CpInfo := pool [(1, .class_ 2), (0, u "java/lang/constant/Constable"), (0, .class_ 4), (0, u "java/lang/Object")] 6

/-- java/lang/constant/Constable -/
def k2 : Class := { plain "java/lang/constant/Constable" (some 0) with
  accessFlags := 1537
  interfaces := #[]
  cf := some (fileOf pool2 1 #[] #[] 1537 3 #[] #[])
  fields := #[]
  methods := #[]
  instanceTypes := #[]
  staticTypes := #[]
  resolved := Array.replicate 11 none
  statics := none }

def pool3 : Array CpInfo := pool [(1, .class_ 2), (0, u "java/lang/Comparable"), (0, .class_ 4), (0, u "java/lang/Object")] 7

/-- java/lang/Comparable -/
def k3 : Class := { plain "java/lang/Comparable" (some 0) with
  accessFlags := 1537
  interfaces := #[]
  cf := some (fileOf pool3 1 #[] #[] 1537 3 #[] #[])
  fields := #[]
  methods := #[]
  instanceTypes := #[]
  staticTypes := #[]
  resolved := Array.replicate 12 none
  statics := none }

def pool4 : Array CpInfo := pool [(1, .class_ 2), (0, u "java/io/Serializable"), (0, .class_ 4), (0, u "java/lang/Object")] 2

/-- java/io/Serializable -/
def k4 : Class := { plain "java/io/Serializable" (some 0) with
  accessFlags := 1537
  interfaces := #[]
  cf := some (fileOf pool4 1 #[] #[] 1537 3 #[] #[])
  fields := #[]
  methods := #[]
  instanceTypes := #[]
  staticTypes := #[]
  resolved := Array.replicate 7 none
  statics := none }

def pool5 : Array CpInfo := pool [(2, .class_ 4), (1, u "java/lang/Enum"), (0, u "name"), (0, u "Ljava/lang/String;"), (2, u "ordinal"), (0, u "I"), (1, .class_ 14), (1, u "java/lang/Object"), (4, u "hash"), (86, .class_ 108), (1, u "java/lang/Enum$EnumDesc"), (2, .class_ 112), (0, u "java/lang/constant/Constable"), (0, .class_ 114), (0, u "java/lang/Comparable"), (0, .class_ 116), (0, u "java/io/Serializable")] 87

/-- java/lang/Enum -/
def k5 : Class := { plain "java/lang/Enum" (some 0) with
  accessFlags := 1057
  interfaces := #[2, 3, 4]
  cf := some (fileOf pool5 2 #[.nestMembers #[106]] #[] 1057 12 #[111, 113, 115] #[{ accessFlags := 18, nameIndex := 5, descriptorIndex := 6, attributes := #[] }, { accessFlags := 18, nameIndex := 9, descriptorIndex := 10, attributes := #[] }, { accessFlags := 2, nameIndex := 19, descriptorIndex := 10, attributes := #[] }])
  fields := #[{ name := "name", type := (.object "java/lang/String"), accessFlags := 18, slot := 0, constantValue := 0 }, { name := "ordinal", type := .int, accessFlags := 18, slot := 1, constantValue := 0 }, { name := "hash", type := .int, accessFlags := 2, slot := 2, constantValue := 0 }]
  methods := #[]
  instanceTypes := #[(.object "java/lang/String"), .int, .int]
  staticTypes := #[]
  resolved := Array.replicate 204 none
  statics := none }

def pool6 : Array CpInfo := pool [(1, .class_ 2), (0, u "com/example/ashlar/ashlar/Algorithm"), (2, u "BMC"), (0, u "Lcom/example/ashlar/ashlar/Algorithm;"), (2, u "KINDUCTION"), (2, u "PREDICATE"), (0, .fieldref 1 14), (0, .nameAndType 15 6), (0, u "IMPACT"), (2, u "CONGRUENCE"), (2, u "$VALUES"), (0, u "[Lcom/example/ashlar/ashlar/Algorithm;"), (6, .class_ 31), (1, u "java/lang/Enum"), (8, u "optionName"), (0, u "Ljava/lang/String;"), (2, u "bounded"), (0, u "Z"), (81, u "()Z"), (1, u "coversByForce")] 27

def k6c0 : Code := { maxStack := 2, maxLocals := 1, code := prog_1_method_8_code, exceptionTable := #[], attributes := #[] }
def k6m0 : Method := { name := "coversByForce", desc := "()Z", sig := { parameters := [], returnType := some .boolean }, accessFlags := 0, code := some k6c0 }
/-- com/example/ashlar/ashlar/Algorithm -/
def k6 : Class := { plain "com/example/ashlar/ashlar/Algorithm" (some 5) with
  accessFlags := 16432
  interfaces := #[]
  cf := some (fileOf pool6 1 #[] #[{ accessFlags := 0, nameIndex := 129, descriptorIndex := 127, attributes := #[] }] 16432 29 #[] #[{ accessFlags := 16409, nameIndex := 5, descriptorIndex := 6, attributes := #[] }, { accessFlags := 16409, nameIndex := 9, descriptorIndex := 6, attributes := #[] }, { accessFlags := 16409, nameIndex := 12, descriptorIndex := 6, attributes := #[] }, { accessFlags := 16409, nameIndex := 15, descriptorIndex := 6, attributes := #[] }, { accessFlags := 16409, nameIndex := 18, descriptorIndex := 6, attributes := #[] }, { accessFlags := 18, nameIndex := 40, descriptorIndex := 41, attributes := #[] }, { accessFlags := 18, nameIndex := 44, descriptorIndex := 45, attributes := #[] }, { accessFlags := 4122, nameIndex := 21, descriptorIndex := 22, attributes := #[] }])
  fields := #[{ name := "BMC", type := (.object "com/example/ashlar/ashlar/Algorithm"), accessFlags := 16409, slot := 0, constantValue := 0 }, { name := "KINDUCTION", type := (.object "com/example/ashlar/ashlar/Algorithm"), accessFlags := 16409, slot := 1, constantValue := 0 }, { name := "PREDICATE", type := (.object "com/example/ashlar/ashlar/Algorithm"), accessFlags := 16409, slot := 2, constantValue := 0 }, { name := "IMPACT", type := (.object "com/example/ashlar/ashlar/Algorithm"), accessFlags := 16409, slot := 3, constantValue := 0 }, { name := "CONGRUENCE", type := (.object "com/example/ashlar/ashlar/Algorithm"), accessFlags := 16409, slot := 4, constantValue := 0 }, { name := "optionName", type := (.object "java/lang/String"), accessFlags := 18, slot := 3, constantValue := 0 }, { name := "bounded", type := .boolean, accessFlags := 18, slot := 4, constantValue := 0 }, { name := "$VALUES", type := (.array (.object "com/example/ashlar/ashlar/Algorithm")), accessFlags := 4122, slot := 5, constantValue := 0 }]
  methods := #[k6m0]
  instanceTypes := #[(.object "java/lang/String"), .int, .int, (.object "java/lang/String"), .boolean]
  staticTypes := #[(.object "com/example/ashlar/ashlar/Algorithm"), (.object "com/example/ashlar/ashlar/Algorithm"), (.object "com/example/ashlar/ashlar/Algorithm"), (.object "com/example/ashlar/ashlar/Algorithm"), (.object "com/example/ashlar/ashlar/Algorithm"), (.array (.object "com/example/ashlar/ashlar/Algorithm"))]
  resolved := Array.replicate 157 none
  statics := some 0 }

def pool7 : Array CpInfo := pool [(1, u "java/lang/Cloneable"), (0, .class_ 1), (0, u "java/lang/Object"), (0, .class_ 3)] 3

/-- java/lang/Cloneable -/
def k7 : Class := { plain "java/lang/Cloneable" (some 0) with
  accessFlags := 1537
  interfaces := #[]
  cf := some (fileOf pool7 2 #[] #[] 1537 4 #[] #[])
  fields := #[]
  methods := #[]
  instanceTypes := #[]
  staticTypes := #[]
  resolved := Array.replicate 8 none
  statics := none }

/-- the primitive byte -/
def k8 : Class := { plain "byte" none with kind := .primitive 'B', accessFlags := 0x411 }
/-- [B -/
def k9 : Class := { plain "[B" (some 0) with kind := .array 8 .byte, interfaces := #[7, 4], accessFlags := 1041 }

/-- the primitive int -/
def k10 : Class := { plain "int" none with kind := .primitive 'I', accessFlags := 0x411 }
/-- [I -/
def k11 : Class := { plain "[I" (some 0) with kind := .array 10 .int, interfaces := #[7, 4], accessFlags := 1041 }

def heap : Heap := #[{ cls := 6, slots := #[.ref 1, .ref 3, .ref 5, .ref 2, .ref 4, .null], vm := .statics 6 },
  { cls := 6, slots := #[.null, .int 0, .int 0, .null, .int 0], vm := .none },
  { cls := 6, slots := #[.null, .int 3, .int 0, .null, .int 0], vm := .none },
  { cls := 6, slots := #[.null, .int 1, .int 0, .null, .int 0], vm := .none },
  { cls := 6, slots := #[.null, .int 4, .int 0, .null, .int 0], vm := .none },
  { cls := 6, slots := #[.null, .int 2, .int 0, .null, .int 0], vm := .none }]
def classes : Array Class := #[k0, k1, k2, k3, k4, k5, k6, k7, k8, k9, k10, k11]
def interned : List (Array UInt16 × Addr) := []
def slotsUsed : Nat := 31
def theMethod : MethodId := ⟨1, 2⟩
def args0 : Array Value := #[.int 5]
def aboutOver (below : List Frame) : State where
  vm := { classes := classes, interned := interned.toArray }
  heap := heap
  slotsUsed := slotsUsed
  threads := #[{ frames := .invoking theMethod args0 :: below }]
def below0 : List Frame := [.native { method := ⟨0, 0⟩, args := #[] }]
def about1 : State := aboutOver below0
def p0 : Program := .bare "" "" ""
def e0 : Env := launch0.env 0 0 0
theorem w_frames : about1.frames = Frame.invoking theMethod args0 :: below0 := rfl
set_option maxRecDepth 65536 in
theorem w_args : argsFit about1.vm theMethod args0 = true := by decide +kernel
set_option maxRecDepth 65536 in
theorem w_heap : heapFits about1 = true := by decide +kernel
set_option maxRecDepth 65536 in
theorem w_runnable : about1.curStatus? = some .runnable := by decide +kernel
set_option maxRecDepth 65536 in
theorem w_alone : about1.alone = true := by decide +kernel
set_option maxRecDepth 65536 in
theorem w_named : about1.methodNamed? x = some theMethod := by decide +kernel
set_option maxRecDepth 65536 in
theorem w_hears : about1.hears theMethod below0 = true := by decide +kernel
set_option maxRecDepth 65536 in
theorem w_ripe : about1.ripe theMethod args0 below0 = true := by decide +kernel
theorem w_running : about1.status = .running := rfl
set_option maxRecDepth 65536 in
theorem w_room : about1.hasRoom e0.platform room_1 = true :=
  launch0.hasRoom_least _ room_1 (by decide +kernel) (by decide +kernel) (by decide +kernel) (by decide +kernel) (by decide +kernel) (by decide +kernel)
theorem allAtoms_all (ts : List Jvm.Cond) (a : Array Jvm.Value) (st : Jvm.State) : (allAtoms ts).before a st = ts.all (fun c => c.before a st) := by
  induction ts with
  | nil => rfl
  | cons c t ih =>
    show (Jvm.Cond.and c (allAtoms t)).before a st = _
    rw [Jvm.Cond.before_and, ih, List.all_cons]
def words1 : List Jvm.Cond := Jvm.Cond.code x code maxLocals ret :: tables_1
/-- a 'code' word, met by the world's own term for the bytes: nothing is compared byte by byte -/
theorem code_word {y : MethodName} {bytes : ByteArray} {mx : Nat} {rt : Option FieldType} {a : Array Value} {s : State} {m : MethodId} {meth : Method} {c : Code} (h1 : s.methodNamed? y = some m) (h2 : s.vm.method? m = some meth) (h3 : meth.code = some c) (h4 : c.code = bytes)
    (h5 : (c.maxLocals == mx && c.exceptionTable.isEmpty && decide (c.maxStack ≤ mostOperands) && decide (meth.sig.returnType = rt) && !meth.locks && decide (parseMethodDescriptor y.desc = some meth.sig)) = true) : (Jvm.Cond.code y bytes mx rt).before a s = true := by
  simp only [Bool.and_eq_true, beq_iff_eq, Bool.not_eq_true', decide_eq_true_eq] at h5
  obtain ⟨⟨⟨⟨⟨g1, g2⟩, g3⟩, g4⟩, g5⟩, g6⟩ := h5
  simp [Cond.before, Cond.holds, Cond.value, h1, h2, h3, h4, g1, g2, g3, g4, g5, g6]
def isCode : Jvm.Cond → Bool
  | .code _ _ _ _ => true
  | _ => false
theorem all_split {L : List Jvm.Cond} {P : Jvm.Cond → Bool} (h1 : L.all (fun c => isCode c || P c) = true) (h2 : ∀ c ∈ L.filter isCode, P c = true) : L.all P = true := by
  refine List.all_eq_true.mpr fun c hc => ?_
  have h := List.all_eq_true.mp h1 c hc
  rcases Bool.eq_false_or_eq_true (isCode c) with hi | hi
  · exact h2 c (List.mem_filter.mpr ⟨hc, hi⟩)
  · simpa [hi] using h
set_option maxRecDepth 65536 in
theorem w_c0 : (Jvm.Cond.code x code maxLocals ret).before args0 about1 = true := code_word (m := ⟨1, 2⟩) (meth := k1m2) (c := k1c2) (by decide +kernel) rfl rfl rfl (by decide +kernel)
set_option maxRecDepth 65536 in
theorem w_c1 : (Jvm.Cond.code ({ cls := "com/example/ashlar/ashlar/AlgorithmCoversByForcePinLaw", name := "pick", desc := "(I)Lcom/example/ashlar/ashlar/Algorithm;" } : Jvm.MethodName) method_2_code (1 : Nat) (Option.some (Jvm.ClassFile.FieldType.object "com/example/ashlar/ashlar/Algorithm"))).before args0 about1 = true := code_word (m := ⟨1, 1⟩) (meth := k1m1) (c := k1c1) (by decide +kernel) rfl rfl rfl (by decide +kernel)
set_option maxRecDepth 65536 in
theorem w_c2 : (Jvm.Cond.code ({ cls := "com/example/ashlar/ashlar/Algorithm", name := "coversByForce", desc := "()Z" } : Jvm.MethodName) prog_1_method_8_code (1 : Nat) (Option.some Jvm.ClassFile.FieldType.boolean)).before args0 about1 = true := code_word (m := ⟨6, 0⟩) (meth := k6m0) (c := k6c0) (by decide +kernel) rfl rfl rfl (by decide +kernel)
def codes1 : List Jvm.Cond := [Jvm.Cond.code x code maxLocals ret, Jvm.Cond.code ({ cls := "com/example/ashlar/ashlar/AlgorithmCoversByForcePinLaw", name := "pick", desc := "(I)Lcom/example/ashlar/ashlar/Algorithm;" } : Jvm.MethodName) method_2_code (1 : Nat) (Option.some (Jvm.ClassFile.FieldType.object "com/example/ashlar/ashlar/Algorithm")), Jvm.Cond.code ({ cls := "com/example/ashlar/ashlar/Algorithm", name := "coversByForce", desc := "()Z" } : Jvm.MethodName) prog_1_method_8_code (1 : Nat) (Option.some Jvm.ClassFile.FieldType.boolean)]
set_option maxRecDepth 65536 in
theorem codes_eq : words1.filter isCode = codes1 := rfl
theorem w_codes : ∀ c ∈ words1.filter isCode, c.before args0 about1 = true := by
  rw [codes_eq]
  intro c hc
  simp only [codes1, List.mem_cons, List.not_mem_nil, or_false] at hc
  rcases hc with rfl | rfl | rfl
  · exact w_c0
  · exact w_c1
  · exact w_c2
set_option maxRecDepth 65536 in
theorem w_t1 : words1.all (fun c => isCode c || c.before args0 about1) = true := by decide +kernel
theorem w_tables : (allAtoms (Jvm.Cond.code x code maxLocals ret :: tables_1)).before args0 about1 = true := by
  rw [allAtoms_all]
  show words1.all (fun c => c.before args0 about1) = true
  refine all_split ?_ w_codes
  rw [w_t1]
set_option maxRecDepth 65536 in
theorem w_case : (Jvm.Cond.and given_1 narrow_1).before args0 about1 = true := by decide +kernel
theorem w_applies : (headSpec (Jvm.Cond.code x code maxLocals ret :: tables_1) room_1).applies x e0.platform about1 = true :=
  (Spec.applies_iff w_frames).mpr ⟨w_running, w_runnable, w_alone, w_named, w_hears, w_ripe, w_room, w_tables⟩
theorem atStart : AtStart classFile x code maxLocals ret World_1 tables_1 room_1 Calls_1 rest_1 Pre_1 launch0 p0 e0 about1 theMethod args0 below0 :=
  ⟨lists_1, trivial, launch0.admits_env _ _ _, launch0.least_env, fairChoices_fair.cas, fairChoices_fair.clock, w_frames, w_args, w_heap, w_applies, trivial, trivial, w_case⟩
end start1
theorem witness_1 : WitnessClaimed_1 := ⟨start1.p0, start1.e0, start1.about1, start1.theMethod, start1.args0, start1.below0, start1.atStart⟩
end Jvm.Pilot.@@N@@
