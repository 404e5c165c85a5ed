import JvmDerived
import JvmDerived.Pilot.@@N@@Statement
import JvmDerived.Pilot.@@N@@Code
set_option linter.unusedVariables false
set_option linter.unusedSimpArgs false
namespace Jvm.RoadKit
open Sem ClassFile Op Lib Jvm.Stand Jvm.Free Jvm.LawKit
section New
variable {p : Program} {l : Launch} {e : Env} {R : Room} {s : State} {m : MethodId} {args : Array Value} {below : List Frame} {meth : Method} {c : Code} {T : State} {locs : List Loc} {cells slots : Nat}
theorem retI (X : Stand p l e R s m args below meth c T locs cells slots) (hx : p.tables.exec = Jvm.exec) {pc : Nat} {Ls : Array Slot} {z : Int32} {rest : List Value} (hret : meth.sig.returnType = some .int) (hd : decode c.code pc = .ok (.ireturn, 1)) {fs : List Frame}
    (hl : ∀ (f : JFrame) (acts : List Action), f.method = m → f.locked = none → f.entered = [] → (doReturn e (T.setTop f) acts (some (.int z))).1 = T.setFrames fs) : Steps p.tables e below (T.setTop (mkF m pc Ls (.int z :: rest))) (T.setFrames fs) := by
  have hm' : T.vm.method? m = some meth := X.method'
  have hn : narrow .int (.int z) = .int z := rfl
  show Steps p.tables e below (T.setTop { method := m, pc := pc, locals := Ls, stack := _ :: rest, locked := none }) _
  jvm_step X.here [X.here.top, hx, hd, hm', hret, hn]
  first | (intro acts; rw [hl _ acts rfl rfl rfl]) | rw [hl _ _ rfl rfl rfl]
  exact Steps.refl _
end New
end Jvm.RoadKit
namespace Jvm.Pilot.@@N@@
open Jvm Jvm.ClassFile Sem Op Lib Jvm.Free Jvm.Stand Jvm.LawKit Jvm.RoadKit Bundle Jvm.Pilot.@@N@@.Jvm.D
theorem own_w {a0 : Array Value} {Z : State} (hw : ∀ d ∈ tables_1, d.before a0 Z = true) (k : Nat) {d : Jvm.Cond} (h : tables_1[k]? = some d := by rfl) : d.before a0 Z = true := hw _ (List.mem_of_getElem? h)
abbrev oI (x : Int32) : Slot := .val (.int x)
abbrev oR (a : Addr) : Slot := .val (.ref a)
abbrev oJ (x : Int64) : Slot := .val (.long x)
abbrev oD (x : UInt64) : Slot := .val (.double x)
/-- from the state A the run comes to an end of which Q holds -/
def own_Go (p : Program) (e : Env) (below : List Frame) (Q : Outcome → State → Prop) (A : State) : Prop := ∃ s₂ o, Steps p.tables e below A s₂ ∧ s₂.status = .running ∧ Ended s₂ below o ∧ Q o s₂
theorem own_via {p : Program} {e : Env} {below : List Frame} {Q : Outcome → State → Prop} {A B : State} (h : ∀ t, Steps p.tables e below B t → Steps p.tables e below A t) (g : own_Go p e below Q B) : own_Go p e below Q A := by
  obtain ⟨s₂, o, h1, h2⟩ := g
  exact ⟨s₂, o, h _ h1, h2⟩
theorem own_tr {p : Program} {e : Env} {below : List Frame} {Q : Outcome → State → Prop} {A B : State} (h : Steps p.tables e below A B) (g : own_Go p e below Q B) : own_Go p e below Q A := by
  obtain ⟨s₂, o, h1, h2⟩ := g
  exact ⟨s₂, o, h.trans h1, h2⟩
/-- from the state A the run comes to a state B of which Φ holds -/
def own_Pc (p : Program) (e : Env) (below : List Frame) (Φ : State → Prop) (A : State) : Prop := ∃ B, (∀ t, Steps p.tables e below B t → Steps p.tables e below A t) ∧ Φ B
theorem own_pvia {p : Program} {e : Env} {below : List Frame} {Φ : State → Prop} {A B : State} (h : ∀ t, Steps p.tables e below B t → Steps p.tables e below A t) (g : own_Pc p e below Φ B) : own_Pc p e below Φ A := by
  obtain ⟨B', h1, h2⟩ := g
  exact ⟨B', fun t k => h t (h1 t k), h2⟩
theorem own_ptr {p : Program} {e : Env} {below : List Frame} {Φ : State → Prop} {A B : State} (h : Steps p.tables e below A B) (g : own_Pc p e below Φ B) : own_Pc p e below Φ A := own_pvia (fun t k => h.trans k) g
theorem own_start {p : Program} {e : Env} {below : List Frame} {Q : Outcome → State → Prop} {A : State} (h : own_Go p e below Q A) : ∃ s₂ o, Steps p.tables e below A s₂ ∧ s₂.status = .running ∧ Ended s₂ below o ∧ Q o s₂ := h
def f1 (p0 : Int32) : Int32 := (if p0 = (32 : Int32) then (1 : Int32) else (if p0 = (9 : Int32) then (1 : Int32) else (if p0 = (10 : Int32) then (1 : Int32) else (if p0 = (13 : Int32) then (1 : Int32) else (if p0 = (12 : Int32) then (1 : Int32) else (if p0 = (11 : Int32) then (1 : Int32) else (0 : Int32)))))))
theorem d1_0 : decode prog_24_method_3_code 0 = .ok (.iload_n 0, 1) := by decide +kernel
theorem d1_1 : decode prog_24_method_3_code 1 = .ok (.bipush 32, 2) := by decide +kernel
theorem d1_3 : decode prog_24_method_3_code 3 = .ok (.if_icmp .eq 33, 3) := by decide +kernel
theorem d1_6 : decode prog_24_method_3_code 6 = .ok (.iload_n 0, 1) := by decide +kernel
theorem d1_7 : decode prog_24_method_3_code 7 = .ok (.bipush 9, 2) := by decide +kernel
theorem d1_9 : decode prog_24_method_3_code 9 = .ok (.if_icmp .eq 27, 3) := by decide +kernel
theorem d1_12 : decode prog_24_method_3_code 12 = .ok (.iload_n 0, 1) := by decide +kernel
theorem d1_13 : decode prog_24_method_3_code 13 = .ok (.bipush 10, 2) := by decide +kernel
theorem d1_15 : decode prog_24_method_3_code 15 = .ok (.if_icmp .eq 21, 3) := by decide +kernel
theorem d1_18 : decode prog_24_method_3_code 18 = .ok (.iload_n 0, 1) := by decide +kernel
theorem d1_19 : decode prog_24_method_3_code 19 = .ok (.bipush 13, 2) := by decide +kernel
theorem d1_21 : decode prog_24_method_3_code 21 = .ok (.if_icmp .eq 15, 3) := by decide +kernel
theorem d1_24 : decode prog_24_method_3_code 24 = .ok (.iload_n 0, 1) := by decide +kernel
theorem d1_25 : decode prog_24_method_3_code 25 = .ok (.bipush 12, 2) := by decide +kernel
theorem d1_27 : decode prog_24_method_3_code 27 = .ok (.if_icmp .eq 9, 3) := by decide +kernel
theorem d1_30 : decode prog_24_method_3_code 30 = .ok (.iload_n 0, 1) := by decide +kernel
theorem d1_31 : decode prog_24_method_3_code 31 = .ok (.bipush 11, 2) := by decide +kernel
theorem d1_33 : decode prog_24_method_3_code 33 = .ok (.if_icmp .ne 7, 3) := by decide +kernel
theorem d1_36 : decode prog_24_method_3_code 36 = .ok (.iconst 1, 1) := by decide +kernel
theorem d1_37 : decode prog_24_method_3_code 37 = .ok (.goto 4, 3) := by decide +kernel
theorem d1_40 : decode prog_24_method_3_code 40 = .ok (.iconst 0, 1) := by decide +kernel
theorem d1_41 : decode prog_24_method_3_code 41 = .ok (.ireturn, 1) := by decide +kernel
theorem pn_1 : plainName "com/example/eurycleia/eurycleia/text/TextNormalizer" = true := by first | (simp [plainName, overriddenIn]; done) | decide +kernel
theorem ef_rm1 (m : MethodId) (q0 : Int32) : entryFrame m #[(.int q0)] 1 = mkF m 0 #[oI q0] [] := by first | (simp [entryFrame, mkF, argsToLocals, Value.category]; done) | rfl
def Q1 (Z : State) (p0 : Int32) (r : Int32) (h0 : Heap) (n0 : Nat) (v : Option Value) (h : Heap) (L : List Loc) : Prop := v = some (.int r) ∧ Fr n0 L ∧ h = h0
set_option maxRecDepth 65536 in
set_option maxHeartbeats 40000000 in
theorem rm1 (l : Launch) (Z : State) (a0 : Array Value) (hw : ∀ d ∈ tables_1, d.before a0 Z = true) (ws : List Jvm.Cond) (p0 : Int32) (r : Int32) (h0 : Heap) (n0 : Nat) (Z0 : n0 ≤ h0.size) (hr0 : (f1 p0) = r) :
    MetFree l (⟨"com/example/eurycleia/eurycleia/text/TextNormalizer", "isWhitespace", "(C)Z"⟩ : MethodName) (head1 (Jvm.Cond.code (⟨"com/example/eurycleia/eurycleia/text/TextNormalizer", "isWhitespace", "(C)Z"⟩ : MethodName) prog_24_method_3_code 1 (some .boolean) :: ws) ({ frames := 0, cells := 0, slots := 0, locals := 0 } : Room)) (fun a U => a = #[(.int p0)] ∧ Z.Warmed39 U.vm ∧ U.heap = h0) (fun _ _ _ _ _ => True) (fun _ U o U' => ∃ v L, o = .returned v ∧ Q1 Z p0 r h0 n0 v U'.heap L ∧ FrameEnd U o U' L ({ frames := 0, cells := 0, slots := 0, locals := 0 } : Room).cells ({ frames := 0, cells := 0, slots := 0, locals := 0 } : Room).slots) := by
  refine MetFree.of_bodySF (plainFor_of_name pn_1) hisR ?_
  intro p e s m args below meth c s₁ Bd hml0 hP hK
  obtain ⟨rfl, hZ, hh⟩ := hP
  have hx := Bd.exec
  have hby := Bd.bytes
  have hml : c.maxLocals = 1 := hml0
  have hown : s.vm.findClass "com/example/eurycleia/eurycleia/text/TextNormalizer" = some m.cls := findClass_of_methodNamed Bd.named
  have hnm := (name_of_methodNamed Bd.named Bd.method).1
  have X0 : Stand p l e ({ frames := 0, cells := 0, slots := 0, locals := 0 } : Room) s m #[(.int p0)] below meth c s₁ [] 0 0 := Stand.of_body Bd
  have e0 : s₁.heap = h0 := by rw [← hh, Bd.state]; rfl
  have N0 := Fr.nil n0
  refine own_start ?_
  refine own_via (fun t k => castTop (ef_rm1 m p0) k) ?_
  show own_Go p e below _ (s₁.setTop (mkF m 0 #[oI p0] []))
  refine own_via (fun t k => XS.iloadN X0.here hx rfl (hb hby d1_0) rfl k) ?_
  show own_Go p e below _ (s₁.setTop (mkF m 1 #[oI p0] [(.int p0)]))
  refine own_via (fun t k => XS.bipush X0.here hx rfl (hb hby d1_1) k) ?_
  show own_Go p e below _ (s₁.setTop (mkF m 3 #[oI p0] [(.int (32 : Int32)), (.int p0)]))
  by_cases hc3_1 : p0 = (32 : Int32)
  · refine own_via (fun t k => XS.icmpYes X0.here hx rfl (pc0 := 3) (pc' := 36) rfl (hb hby d1_3) rfl (teq hc3_1).1 (by decide) (by decide) k) ?_
    show own_Go p e below _ (s₁.setTop (mkF m 36 #[oI p0] []))
    refine own_via (fun t k => XS.iconst X0.here hx rfl (hb hby d1_36) k) ?_
    show own_Go p e below _ (s₁.setTop (mkF m 37 #[oI p0] [(.int (1 : Int32))]))
    refine own_via (fun t k => XS.goto X0.here hx rfl (pc0 := 37) (pc' := 41) rfl (hb hby d1_37) (by decide) (by decide) k) ?_
    show own_Go p e below _ (s₁.setTop (mkF m 41 #[oI p0] [(.int (1 : Int32))]))
    have hv : (f1 p0) = (1 : Int32) := by unfold f1; rw [if_pos hc3_1]
    obtain ⟨fs, hr, hrun, hended, hW, hsame⟩ := X0.leave (v := some (.int (1 : Int32))) (fun h => by rw [Bd.returns] at h; cases h)
    refine ⟨_, _, retN X0 hx (t := .boolean) Bd.returns (by simp) (hb hby d1_41) hr, hrun, hended, _, _, rfl, ?_, ⟨_, rfl⟩, hW, hsame.mono (by decide) (by decide)⟩
    show Q1 Z p0 r h0 n0 _ s₁.heap _
    rw [e0]
    exact ⟨by rw [← hr0, hv], N0, rfl⟩
  · refine own_via (fun t k => XS.icmpNo X0.here hx rfl (hb hby d1_3) rfl (feq hc3_1).1 k) ?_
    show own_Go p e below _ (s₁.setTop (mkF m 6 #[oI p0] []))
    refine own_via (fun t k => XS.iloadN X0.here hx rfl (hb hby d1_6) rfl k) ?_
    show own_Go p e below _ (s₁.setTop (mkF m 7 #[oI p0] [(.int p0)]))
    refine own_via (fun t k => XS.bipush X0.here hx rfl (hb hby d1_7) k) ?_
    show own_Go p e below _ (s₁.setTop (mkF m 9 #[oI p0] [(.int (9 : Int32)), (.int p0)]))
    by_cases hc9_3 : p0 = (9 : Int32)
    · refine own_via (fun t k => XS.icmpYes X0.here hx rfl (pc0 := 9) (pc' := 36) rfl (hb hby d1_9) rfl (teq hc9_3).1 (by decide) (by decide) k) ?_
      show own_Go p e below _ (s₁.setTop (mkF m 36 #[oI p0] []))
      refine own_via (fun t k => XS.iconst X0.here hx rfl (hb hby d1_36) k) ?_
      show own_Go p e below _ (s₁.setTop (mkF m 37 #[oI p0] [(.int (1 : Int32))]))
      refine own_via (fun t k => XS.goto X0.here hx rfl (pc0 := 37) (pc' := 41) rfl (hb hby d1_37) (by decide) (by decide) k) ?_
      show own_Go p e below _ (s₁.setTop (mkF m 41 #[oI p0] [(.int (1 : Int32))]))
      have hv : (f1 p0) = (1 : Int32) := by unfold f1; rw [if_neg hc3_1, if_pos hc9_3]
      obtain ⟨fs, hr, hrun, hended, hW, hsame⟩ := X0.leave (v := some (.int (1 : Int32))) (fun h => by rw [Bd.returns] at h; cases h)
      refine ⟨_, _, retN X0 hx (t := .boolean) Bd.returns (by simp) (hb hby d1_41) hr, hrun, hended, _, _, rfl, ?_, ⟨_, rfl⟩, hW, hsame.mono (by decide) (by decide)⟩
      show Q1 Z p0 r h0 n0 _ s₁.heap _
      rw [e0]
      exact ⟨by rw [← hr0, hv], N0, rfl⟩
    · refine own_via (fun t k => XS.icmpNo X0.here hx rfl (hb hby d1_9) rfl (feq hc9_3).1 k) ?_
      show own_Go p e below _ (s₁.setTop (mkF m 12 #[oI p0] []))
      refine own_via (fun t k => XS.iloadN X0.here hx rfl (hb hby d1_12) rfl k) ?_
      show own_Go p e below _ (s₁.setTop (mkF m 13 #[oI p0] [(.int p0)]))
      refine own_via (fun t k => XS.bipush X0.here hx rfl (hb hby d1_13) k) ?_
      show own_Go p e below _ (s₁.setTop (mkF m 15 #[oI p0] [(.int (10 : Int32)), (.int p0)]))
      by_cases hc15_5 : p0 = (10 : Int32)
      · refine own_via (fun t k => XS.icmpYes X0.here hx rfl (pc0 := 15) (pc' := 36) rfl (hb hby d1_15) rfl (teq hc15_5).1 (by decide) (by decide) k) ?_
        show own_Go p e below _ (s₁.setTop (mkF m 36 #[oI p0] []))
        refine own_via (fun t k => XS.iconst X0.here hx rfl (hb hby d1_36) k) ?_
        show own_Go p e below _ (s₁.setTop (mkF m 37 #[oI p0] [(.int (1 : Int32))]))
        refine own_via (fun t k => XS.goto X0.here hx rfl (pc0 := 37) (pc' := 41) rfl (hb hby d1_37) (by decide) (by decide) k) ?_
        show own_Go p e below _ (s₁.setTop (mkF m 41 #[oI p0] [(.int (1 : Int32))]))
        have hv : (f1 p0) = (1 : Int32) := by unfold f1; rw [if_neg hc3_1, if_neg hc9_3, if_pos hc15_5]
        obtain ⟨fs, hr, hrun, hended, hW, hsame⟩ := X0.leave (v := some (.int (1 : Int32))) (fun h => by rw [Bd.returns] at h; cases h)
        refine ⟨_, _, retN X0 hx (t := .boolean) Bd.returns (by simp) (hb hby d1_41) hr, hrun, hended, _, _, rfl, ?_, ⟨_, rfl⟩, hW, hsame.mono (by decide) (by decide)⟩
        show Q1 Z p0 r h0 n0 _ s₁.heap _
        rw [e0]
        exact ⟨by rw [← hr0, hv], N0, rfl⟩
      · refine own_via (fun t k => XS.icmpNo X0.here hx rfl (hb hby d1_15) rfl (feq hc15_5).1 k) ?_
        show own_Go p e below _ (s₁.setTop (mkF m 18 #[oI p0] []))
        refine own_via (fun t k => XS.iloadN X0.here hx rfl (hb hby d1_18) rfl k) ?_
        show own_Go p e below _ (s₁.setTop (mkF m 19 #[oI p0] [(.int p0)]))
        refine own_via (fun t k => XS.bipush X0.here hx rfl (hb hby d1_19) k) ?_
        show own_Go p e below _ (s₁.setTop (mkF m 21 #[oI p0] [(.int (13 : Int32)), (.int p0)]))
        by_cases hc21_7 : p0 = (13 : Int32)
        · refine own_via (fun t k => XS.icmpYes X0.here hx rfl (pc0 := 21) (pc' := 36) rfl (hb hby d1_21) rfl (teq hc21_7).1 (by decide) (by decide) k) ?_
          show own_Go p e below _ (s₁.setTop (mkF m 36 #[oI p0] []))
          refine own_via (fun t k => XS.iconst X0.here hx rfl (hb hby d1_36) k) ?_
          show own_Go p e below _ (s₁.setTop (mkF m 37 #[oI p0] [(.int (1 : Int32))]))
          refine own_via (fun t k => XS.goto X0.here hx rfl (pc0 := 37) (pc' := 41) rfl (hb hby d1_37) (by decide) (by decide) k) ?_
          show own_Go p e below _ (s₁.setTop (mkF m 41 #[oI p0] [(.int (1 : Int32))]))
          have hv : (f1 p0) = (1 : Int32) := by unfold f1; rw [if_neg hc3_1, if_neg hc9_3, if_neg hc15_5, if_pos hc21_7]
          obtain ⟨fs, hr, hrun, hended, hW, hsame⟩ := X0.leave (v := some (.int (1 : Int32))) (fun h => by rw [Bd.returns] at h; cases h)
          refine ⟨_, _, retN X0 hx (t := .boolean) Bd.returns (by simp) (hb hby d1_41) hr, hrun, hended, _, _, rfl, ?_, ⟨_, rfl⟩, hW, hsame.mono (by decide) (by decide)⟩
          show Q1 Z p0 r h0 n0 _ s₁.heap _
          rw [e0]
          exact ⟨by rw [← hr0, hv], N0, rfl⟩
        · refine own_via (fun t k => XS.icmpNo X0.here hx rfl (hb hby d1_21) rfl (feq hc21_7).1 k) ?_
          show own_Go p e below _ (s₁.setTop (mkF m 24 #[oI p0] []))
          refine own_via (fun t k => XS.iloadN X0.here hx rfl (hb hby d1_24) rfl k) ?_
          show own_Go p e below _ (s₁.setTop (mkF m 25 #[oI p0] [(.int p0)]))
          refine own_via (fun t k => XS.bipush X0.here hx rfl (hb hby d1_25) k) ?_
          show own_Go p e below _ (s₁.setTop (mkF m 27 #[oI p0] [(.int (12 : Int32)), (.int p0)]))
          by_cases hc27_9 : p0 = (12 : Int32)
          · refine own_via (fun t k => XS.icmpYes X0.here hx rfl (pc0 := 27) (pc' := 36) rfl (hb hby d1_27) rfl (teq hc27_9).1 (by decide) (by decide) k) ?_
            show own_Go p e below _ (s₁.setTop (mkF m 36 #[oI p0] []))
            refine own_via (fun t k => XS.iconst X0.here hx rfl (hb hby d1_36) k) ?_
            show own_Go p e below _ (s₁.setTop (mkF m 37 #[oI p0] [(.int (1 : Int32))]))
            refine own_via (fun t k => XS.goto X0.here hx rfl (pc0 := 37) (pc' := 41) rfl (hb hby d1_37) (by decide) (by decide) k) ?_
            show own_Go p e below _ (s₁.setTop (mkF m 41 #[oI p0] [(.int (1 : Int32))]))
            have hv : (f1 p0) = (1 : Int32) := by unfold f1; rw [if_neg hc3_1, if_neg hc9_3, if_neg hc15_5, if_neg hc21_7, if_pos hc27_9]
            obtain ⟨fs, hr, hrun, hended, hW, hsame⟩ := X0.leave (v := some (.int (1 : Int32))) (fun h => by rw [Bd.returns] at h; cases h)
            refine ⟨_, _, retN X0 hx (t := .boolean) Bd.returns (by simp) (hb hby d1_41) hr, hrun, hended, _, _, rfl, ?_, ⟨_, rfl⟩, hW, hsame.mono (by decide) (by decide)⟩
            show Q1 Z p0 r h0 n0 _ s₁.heap _
            rw [e0]
            exact ⟨by rw [← hr0, hv], N0, rfl⟩
          · refine own_via (fun t k => XS.icmpNo X0.here hx rfl (hb hby d1_27) rfl (feq hc27_9).1 k) ?_
            show own_Go p e below _ (s₁.setTop (mkF m 30 #[oI p0] []))
            refine own_via (fun t k => XS.iloadN X0.here hx rfl (hb hby d1_30) rfl k) ?_
            show own_Go p e below _ (s₁.setTop (mkF m 31 #[oI p0] [(.int p0)]))
            refine own_via (fun t k => XS.bipush X0.here hx rfl (hb hby d1_31) k) ?_
            show own_Go p e below _ (s₁.setTop (mkF m 33 #[oI p0] [(.int (11 : Int32)), (.int p0)]))
            by_cases hc33_11 : p0 = (11 : Int32)
            · refine own_via (fun t k => XS.icmpNo X0.here hx rfl (hb hby d1_33) rfl (teq hc33_11).2 k) ?_
              show own_Go p e below _ (s₁.setTop (mkF m 36 #[oI p0] []))
              refine own_via (fun t k => XS.iconst X0.here hx rfl (hb hby d1_36) k) ?_
              show own_Go p e below _ (s₁.setTop (mkF m 37 #[oI p0] [(.int (1 : Int32))]))
              refine own_via (fun t k => XS.goto X0.here hx rfl (pc0 := 37) (pc' := 41) rfl (hb hby d1_37) (by decide) (by decide) k) ?_
              show own_Go p e below _ (s₁.setTop (mkF m 41 #[oI p0] [(.int (1 : Int32))]))
              have hv : (f1 p0) = (1 : Int32) := by unfold f1; rw [if_neg hc3_1, if_neg hc9_3, if_neg hc15_5, if_neg hc21_7, if_neg hc27_9, if_pos hc33_11]
              obtain ⟨fs, hr, hrun, hended, hW, hsame⟩ := X0.leave (v := some (.int (1 : Int32))) (fun h => by rw [Bd.returns] at h; cases h)
              refine ⟨_, _, retN X0 hx (t := .boolean) Bd.returns (by simp) (hb hby d1_41) hr, hrun, hended, _, _, rfl, ?_, ⟨_, rfl⟩, hW, hsame.mono (by decide) (by decide)⟩
              show Q1 Z p0 r h0 n0 _ s₁.heap _
              rw [e0]
              exact ⟨by rw [← hr0, hv], N0, rfl⟩
            · refine own_via (fun t k => XS.icmpYes X0.here hx rfl (pc0 := 33) (pc' := 40) rfl (hb hby d1_33) rfl (feq hc33_11).2 (by decide) (by decide) k) ?_
              show own_Go p e below _ (s₁.setTop (mkF m 40 #[oI p0] []))
              refine own_via (fun t k => XS.iconst X0.here hx rfl (hb hby d1_40) k) ?_
              show own_Go p e below _ (s₁.setTop (mkF m 41 #[oI p0] [(.int (0 : Int32))]))
              have hv : (f1 p0) = (0 : Int32) := by unfold f1; rw [if_neg hc3_1, if_neg hc9_3, if_neg hc15_5, if_neg hc21_7, if_neg hc27_9, if_neg hc33_11]
              obtain ⟨fs, hr, hrun, hended, hW, hsame⟩ := X0.leave (v := some (.int (0 : Int32))) (fun h => by rw [Bd.returns] at h; cases h)
              refine ⟨_, _, retN X0 hx (t := .boolean) Bd.returns (by simp) (hb hby d1_41) hr, hrun, hended, _, _, rfl, ?_, ⟨_, rfl⟩, hW, hsame.mono (by decide) (by decide)⟩
              show Q1 Z p0 r h0 n0 _ s₁.heap _
              rw [e0]
              exact ⟨by rw [← hr0, hv], N0, rfl⟩
def f0 (p0 : Int32) : Int32 := (if ((p0 &&& (65535 : Int32)).toUInt32.toUInt16.toUInt32.toInt32) = (32 : Int32) then (1 : Int32) else (if ((p0 &&& (65535 : Int32)).toUInt32.toUInt16.toUInt32.toInt32) < (9 : Int32) then (if (f1 ((p0 &&& (65535 : Int32)).toUInt32.toUInt16.toUInt32.toInt32)) = (0 : Int32) then (1 : Int32) else (0 : Int32)) else (if (13 : Int32) < ((p0 &&& (65535 : Int32)).toUInt32.toUInt16.toUInt32.toInt32) then (if (f1 ((p0 &&& (65535 : Int32)).toUInt32.toUInt16.toUInt32.toInt32)) = (0 : Int32) then (1 : Int32) else (0 : Int32)) else (if (f1 ((p0 &&& (65535 : Int32)).toUInt32.toUInt16.toUInt32.toInt32)) = (1 : Int32) then (1 : Int32) else (0 : Int32)))))
theorem own_f1 (z : Int32) : f1 z = if z.toInt = 32 ∨ (9 ≤ z.toInt ∧ z.toInt ≤ 13) then 1 else 0 := by
  unfold f1
  repeat' split
  all_goals first
    | rfl
    | (exfalso; simp only [← Int32.toInt_inj, Int32.reduceToInt] at *; omega)
theorem own_plain (p0 : Int32) : f0 p0 = 1 := by
  unfold f0
  generalize (p0 &&& 65535).toUInt32.toUInt16.toUInt32.toInt32 = z
  rw [own_f1]
  by_cases hc : z.toInt = 32 ∨ (9 ≤ z.toInt ∧ z.toInt ≤ 13)
  · simp only [if_pos hc]
    repeat' split
    all_goals first
      | rfl
      | (exfalso; simp only [← Int32.toInt_inj, Int32.lt_iff_toInt_lt, Int32.reduceToInt, not_true_eq_false] at * <;> omega)
  · simp only [if_neg hc]
    repeat' split
    all_goals first
      | rfl
      | (exfalso; simp only [← Int32.toInt_inj, Int32.lt_iff_toInt_lt, Int32.reduceToInt, not_true_eq_false] at * <;> omega)
theorem pn_0 : plainName "com/example/eurycleia/eurycleia/text/TextNormalizerIsWhitespacePinLaw" = true := by first | (simp [plainName, overriddenIn]; done) | decide +kernel
theorem pd_0_0 : parseMethodDescriptor "(C)Z" = some ⟨[.char], some .boolean⟩ := by decide +kernel
theorem ef_rm0 (m : MethodId) (q0 : Int32) : entryFrame m #[(.int q0)] maxLocals = mkF m 0 #[oI q0, .unset, .unset, .unset] [] := by first | (simp [entryFrame, mkF, argsToLocals, Value.category, maxLocals]; done) | rfl
def Q0 (Z : State) (p0 : Int32) (h0 : Heap) (n0 : Nat) (v : Option Value) (h : Heap) (L : List Loc) : Prop := v = some (.int (1 : Int32)) ∧ Fr n0 L
set_option maxRecDepth 65536 in
set_option maxHeartbeats 40000000 in
theorem rm0 (l : Launch) (Z : State) (a0 : Array Value) (hw : ∀ d ∈ tables_1, d.before a0 Z = true) (ws : List Jvm.Cond) (p0 : Int32) (h0 : Heap) (n0 : Nat) (Z0 : n0 ≤ h0.size) :
    MetFree l x (head1 (Jvm.Cond.code x code maxLocals ret :: ws) room_1) (fun a U => a = #[(.int p0)] ∧ Z.Warmed39 U.vm ∧ U.heap = h0) (fun _ _ _ _ _ => True) (fun _ U o U' => ∃ v L, o = .returned v ∧ Q0 Z p0 h0 n0 v U'.heap L ∧ FrameEnd U o U' L room_1.cells room_1.slots) := by
  refine MetFree.of_bodySF (plainFor_of_name pn_0) hisR ?_
  intro p e s m args below meth c s₁ Bd hml0 hP hK
  obtain ⟨rfl, hZ, hh⟩ := hP
  have hx := Bd.exec
  have hby := Bd.bytes
  have hml : c.maxLocals = 4 := hml0
  have hown : s.vm.findClass "com/example/eurycleia/eurycleia/text/TextNormalizerIsWhitespacePinLaw" = some m.cls := findClass_of_methodNamed Bd.named
  have hnm := (name_of_methodNamed Bd.named Bd.method).1
  have X0 : Stand p l e room_1 s m #[(.int p0)] below meth c s₁ [] 0 0 := Stand.of_body Bd
  have e0 : s₁.heap = h0 := by rw [← hh, Bd.state]; rfl
  have N0 := Fr.nil n0
  refine own_start ?_
  refine own_via (fun t k => castTop (ef_rm0 m p0) k) ?_
  show own_Go p e below _ (s₁.setTop (mkF m 0 #[oI p0, .unset, .unset, .unset] []))
  refine own_via (fun t k => XS.iloadN X0.here hx rfl (hb hby at_0) rfl k) ?_
  show own_Go p e below _ (s₁.setTop (mkF m 1 #[oI p0, .unset, .unset, .unset] [(.int p0)]))
  refine own_via (fun t k => X0.ldcInt hx hown (mvT hZ (own_w hw 0)) (g := (mkF m 1 #[oI p0, .unset, .unset, .unset] [(.int p0)])) rfl (hb hby at_1) t k) ?_
  show own_Go p e below _ (s₁.setTop (mkF m 3 #[oI p0, .unset, .unset, .unset] [(.int (65535 : Int32)), (.int p0)]))
  refine own_via (fun t k => XS.iand X0.here hx rfl (hb hby at_3) rfl k) ?_
  show own_Go p e below _ (s₁.setTop (mkF m 4 #[oI p0, .unset, .unset, .unset] [(.int (p0 &&& (65535 : Int32)))]))
  refine own_via (fun t k => XS.i2c X0.here hx rfl (hb hby at_4) rfl k) ?_
  show own_Go p e below _ (s₁.setTop (mkF m 5 #[oI p0, .unset, .unset, .unset] [(.int ((p0 &&& (65535 : Int32)).toUInt32.toUInt16.toUInt32.toInt32))]))
  refine own_via (fun t k => XS.istoreN X0.here hx rfl (hb hby at_5) rfl (l' := #[oI p0, oI ((p0 &&& (65535 : Int32)).toUInt32.toUInt16.toUInt32.toInt32), .unset, .unset]) rfl k) ?_
  show own_Go p e below _ (s₁.setTop (mkF m 6 #[oI p0, oI ((p0 &&& (65535 : Int32)).toUInt32.toUInt16.toUInt32.toInt32), .unset, .unset] []))
  refine own_via (fun t k => XS.iloadN X0.here hx rfl (hb hby at_6) rfl k) ?_
  show own_Go p e below _ (s₁.setTop (mkF m 7 #[oI p0, oI ((p0 &&& (65535 : Int32)).toUInt32.toUInt16.toUInt32.toInt32), .unset, .unset] [(.int ((p0 &&& (65535 : Int32)).toUInt32.toUInt16.toUInt32.toInt32))]))
  refine own_via (fun t k => XS.istoreN X0.here hx rfl (hb hby at_7) rfl (l' := #[oI p0, oI ((p0 &&& (65535 : Int32)).toUInt32.toUInt16.toUInt32.toInt32), oI ((p0 &&& (65535 : Int32)).toUInt32.toUInt16.toUInt32.toInt32), .unset]) rfl k) ?_
  show own_Go p e below _ (s₁.setTop (mkF m 8 #[oI p0, oI ((p0 &&& (65535 : Int32)).toUInt32.toUInt16.toUInt32.toInt32), oI ((p0 &&& (65535 : Int32)).toUInt32.toUInt16.toUInt32.toInt32), .unset] []))
  refine own_via (fun t k => XS.iloadN X0.here hx rfl (hb hby at_8) rfl k) ?_
  show own_Go p e below _ (s₁.setTop (mkF m 9 #[oI p0, oI ((p0 &&& (65535 : Int32)).toUInt32.toUInt16.toUInt32.toInt32), oI ((p0 &&& (65535 : Int32)).toUInt32.toUInt16.toUInt32.toInt32), .unset] [(.int ((p0 &&& (65535 : Int32)).toUInt32.toUInt16.toUInt32.toInt32))]))
  refine own_via (fun t k => XS.bipush X0.here hx rfl (hb hby at_9) k) ?_
  show own_Go p e below _ (s₁.setTop (mkF m 11 #[oI p0, oI ((p0 &&& (65535 : Int32)).toUInt32.toUInt16.toUInt32.toInt32), oI ((p0 &&& (65535 : Int32)).toUInt32.toUInt16.toUInt32.toInt32), .unset] [(.int (32 : Int32)), (.int ((p0 &&& (65535 : Int32)).toUInt32.toUInt16.toUInt32.toInt32))]))
  by_cases hc11_1 : ((p0 &&& (65535 : Int32)).toUInt32.toUInt16.toUInt32.toInt32) = (32 : Int32)
  · refine own_via (fun t k => XS.icmpYes X0.here hx rfl (pc0 := 11) (pc' := 26) rfl (hb hby at_11) rfl (teq hc11_1).1 (by decide) (by decide) k) ?_
    show own_Go p e below _ (s₁.setTop (mkF m 26 #[oI p0, oI ((p0 &&& (65535 : Int32)).toUInt32.toUInt16.toUInt32.toInt32), oI ((p0 &&& (65535 : Int32)).toUInt32.toUInt16.toUInt32.toInt32), .unset] []))
    refine own_via (fun t k => XS.iconst X0.here hx rfl (hb hby at_26) k) ?_
    show own_Go p e below _ (s₁.setTop (mkF m 27 #[oI p0, oI ((p0 &&& (65535 : Int32)).toUInt32.toUInt16.toUInt32.toInt32), oI ((p0 &&& (65535 : Int32)).toUInt32.toUInt16.toUInt32.toInt32), .unset] [(.int (1 : Int32))]))
    refine own_via (fun t k => XS.goto X0.here hx rfl (pc0 := 27) (pc' := 31) rfl (hb hby at_27) (by decide) (by decide) k) ?_
    show own_Go p e below _ (s₁.setTop (mkF m 31 #[oI p0, oI ((p0 &&& (65535 : Int32)).toUInt32.toUInt16.toUInt32.toInt32), oI ((p0 &&& (65535 : Int32)).toUInt32.toUInt16.toUInt32.toInt32), .unset] [(.int (1 : Int32))]))
    refine own_via (fun t k => XS.istoreN X0.here hx rfl (hb hby at_31) rfl (l' := #[oI p0, oI ((p0 &&& (65535 : Int32)).toUInt32.toUInt16.toUInt32.toInt32), oI ((p0 &&& (65535 : Int32)).toUInt32.toUInt16.toUInt32.toInt32), oI (1 : Int32)]) rfl k) ?_
    show own_Go p e below _ (s₁.setTop (mkF m 32 #[oI p0, oI ((p0 &&& (65535 : Int32)).toUInt32.toUInt16.toUInt32.toInt32), oI ((p0 &&& (65535 : Int32)).toUInt32.toUInt16.toUInt32.toInt32), oI (1 : Int32)] []))
    refine own_via (fun t k => XS.iloadN X0.here hx rfl (hb hby at_32) rfl k) ?_
    show own_Go p e below _ (s₁.setTop (mkF m 33 #[oI p0, oI ((p0 &&& (65535 : Int32)).toUInt32.toUInt16.toUInt32.toInt32), oI ((p0 &&& (65535 : Int32)).toUInt32.toUInt16.toUInt32.toInt32), oI (1 : Int32)] [(.int ((p0 &&& (65535 : Int32)).toUInt32.toUInt16.toUInt32.toInt32))]))
    obtain ⟨_, _, ⟨T2, L2, k2, n2⟩, -, X2, ⟨Lc2, hQ2, l2, y2, z2⟩, st2⟩ := Jvm.LawKit.callS X0 hx (y := (⟨"com/example/eurycleia/eurycleia/text/TextNormalizer", "isWhitespace", "(C)Z"⟩ : MethodName)) hown (mvT hZ (own_w hw 1)) (mvT hZ (own_w hw 2)) (mvT hZ (own_w hw 3)) (mvT hZ (own_w hw 4)) (by decide) (backOf (W := 0) (rm1 l Z a0 hw [] ((p0 &&& (65535 : Int32)).toUInt32.toUInt16.toUInt32.toInt32) (1 : Int32) h0 n0 Z0 (by unfold f1; rw [if_pos hc11_1])) hZ (own_w hw 4) (own_w hw 3) (by decide) (by decide)) (g := (mkF m 33 #[oI p0, oI ((p0 &&& (65535 : Int32)).toUInt32.toUInt16.toUInt32.toInt32), oI ((p0 &&& (65535 : Int32)).toUInt32.toUInt16.toUInt32.toInt32), oI (1 : Int32)] [(.int ((p0 &&& (65535 : Int32)).toUInt32.toUInt16.toUInt32.toInt32))])) rfl (by rw [hml]; rfl) (argsL := [(.int ((p0 &&& (65535 : Int32)).toUInt32.toUInt16.toUInt32.toInt32))]) (rest := []) (lenOf pd_0_0 rfl) rfl (by show 2 * 0 + _ ≤ _; exact Nat.le_of_eq rfl) (hb hby at_33) (fun _ _ => ⟨rfl, e0, (by decide : 0 + 0 ≤ _), (by decide : 0 + 0 ≤ _)⟩)
    dsimp only [Pt.U, Pt.locs, Pt.cells, Pt.slots] at X2 l2 y2 z2 st2 hQ2
    subst l2 y2 z2
    obtain ⟨rfl, Nq2, e2⟩ := hQ2
    have N3 := Fr.app N0 Nq2
    refine own_via st2 ?_
    show own_Go p e below _ (T2.setTop (mkF m 36 #[oI p0, oI ((p0 &&& (65535 : Int32)).toUInt32.toUInt16.toUInt32.toInt32), oI ((p0 &&& (65535 : Int32)).toUInt32.toUInt16.toUInt32.toInt32), oI (1 : Int32)] [(.int (1 : Int32))]))
    refine own_via (fun t k => XS.iloadN X2.here hx rfl (hb hby at_36) rfl k) ?_
    show own_Go p e below _ (T2.setTop (mkF m 37 #[oI p0, oI ((p0 &&& (65535 : Int32)).toUInt32.toUInt16.toUInt32.toInt32), oI ((p0 &&& (65535 : Int32)).toUInt32.toUInt16.toUInt32.toInt32), oI (1 : Int32)] [(.int (1 : Int32)), (.int (1 : Int32))]))
    refine own_via (fun t k => XS.icmpNo X2.here hx rfl (hb hby at_37) rfl (teq (by decide : (1 : Int32) = (1 : Int32))).2 k) ?_
    show own_Go p e below _ (T2.setTop (mkF m 40 #[oI p0, oI ((p0 &&& (65535 : Int32)).toUInt32.toUInt16.toUInt32.toInt32), oI ((p0 &&& (65535 : Int32)).toUInt32.toUInt16.toUInt32.toInt32), oI (1 : Int32)] []))
    refine own_via (fun t k => XS.iconst X2.here hx rfl (hb hby at_40) k) ?_
    show own_Go p e below _ (T2.setTop (mkF m 41 #[oI p0, oI ((p0 &&& (65535 : Int32)).toUInt32.toUInt16.toUInt32.toInt32), oI ((p0 &&& (65535 : Int32)).toUInt32.toUInt16.toUInt32.toInt32), oI (1 : Int32)] [(.int (1 : Int32))]))
    refine own_via (fun t k => XS.goto X2.here hx rfl (pc0 := 41) (pc' := 45) rfl (hb hby at_41) (by decide) (by decide) k) ?_
    show own_Go p e below _ (T2.setTop (mkF m 45 #[oI p0, oI ((p0 &&& (65535 : Int32)).toUInt32.toUInt16.toUInt32.toInt32), oI ((p0 &&& (65535 : Int32)).toUInt32.toUInt16.toUInt32.toInt32), oI (1 : Int32)] [(.int (1 : Int32))]))
    have hv : (f0 p0) = (1 : Int32) := by unfold f0; rw [if_pos hc11_1]
    obtain ⟨fs, hr, hrun, hended, hW, hsame⟩ := X2.leave (v := some (.int (1 : Int32))) (fun h => by rw [Bd.returns] at h; cases h)
    refine ⟨_, _, retN X2 hx (t := .boolean) Bd.returns (by simp) (hb hby at_45) hr, hrun, hended, _, _, rfl, ?_, ⟨_, rfl⟩, hW, hsame.mono (by decide) (by decide)⟩
    show Q0 Z p0 h0 n0 _ T2.heap _
    rw [e2]
    exact ⟨rfl, N3⟩
  · refine own_via (fun t k => XS.icmpNo X0.here hx rfl (hb hby at_11) rfl (feq hc11_1).1 k) ?_
    show own_Go p e below _ (s₁.setTop (mkF m 14 #[oI p0, oI ((p0 &&& (65535 : Int32)).toUInt32.toUInt16.toUInt32.toInt32), oI ((p0 &&& (65535 : Int32)).toUInt32.toUInt16.toUInt32.toInt32), .unset] []))
    refine own_via (fun t k => XS.iloadN X0.here hx rfl (hb hby at_14) rfl k) ?_
    show own_Go p e below _ (s₁.setTop (mkF m 15 #[oI p0, oI ((p0 &&& (65535 : Int32)).toUInt32.toUInt16.toUInt32.toInt32), oI ((p0 &&& (65535 : Int32)).toUInt32.toUInt16.toUInt32.toInt32), .unset] [(.int ((p0 &&& (65535 : Int32)).toUInt32.toUInt16.toUInt32.toInt32))]))
    refine own_via (fun t k => XS.bipush X0.here hx rfl (hb hby at_15) k) ?_
    show own_Go p e below _ (s₁.setTop (mkF m 17 #[oI p0, oI ((p0 &&& (65535 : Int32)).toUInt32.toUInt16.toUInt32.toInt32), oI ((p0 &&& (65535 : Int32)).toUInt32.toUInt16.toUInt32.toInt32), .unset] [(.int (9 : Int32)), (.int ((p0 &&& (65535 : Int32)).toUInt32.toUInt16.toUInt32.toInt32))]))
    by_cases hc17_5 : ((p0 &&& (65535 : Int32)).toUInt32.toUInt16.toUInt32.toInt32) < (9 : Int32)
    · refine own_via (fun t k => XS.icmpYes X0.here hx rfl (pc0 := 17) (pc' := 30) rfl (hb hby at_17) rfl (tlt hc17_5).1 (by decide) (by decide) k) ?_
      show own_Go p e below _ (s₁.setTop (mkF m 30 #[oI p0, oI ((p0 &&& (65535 : Int32)).toUInt32.toUInt16.toUInt32.toInt32), oI ((p0 &&& (65535 : Int32)).toUInt32.toUInt16.toUInt32.toInt32), .unset] []))
      refine own_via (fun t k => XS.iconst X0.here hx rfl (hb hby at_30) k) ?_
      show own_Go p e below _ (s₁.setTop (mkF m 31 #[oI p0, oI ((p0 &&& (65535 : Int32)).toUInt32.toUInt16.toUInt32.toInt32), oI ((p0 &&& (65535 : Int32)).toUInt32.toUInt16.toUInt32.toInt32), .unset] [(.int (0 : Int32))]))
      refine own_via (fun t k => XS.istoreN X0.here hx rfl (hb hby at_31) rfl (l' := #[oI p0, oI ((p0 &&& (65535 : Int32)).toUInt32.toUInt16.toUInt32.toInt32), oI ((p0 &&& (65535 : Int32)).toUInt32.toUInt16.toUInt32.toInt32), oI (0 : Int32)]) rfl k) ?_
      show own_Go p e below _ (s₁.setTop (mkF m 32 #[oI p0, oI ((p0 &&& (65535 : Int32)).toUInt32.toUInt16.toUInt32.toInt32), oI ((p0 &&& (65535 : Int32)).toUInt32.toUInt16.toUInt32.toInt32), oI (0 : Int32)] []))
      refine own_via (fun t k => XS.iloadN X0.here hx rfl (hb hby at_32) rfl k) ?_
      show own_Go p e below _ (s₁.setTop (mkF m 33 #[oI p0, oI ((p0 &&& (65535 : Int32)).toUInt32.toUInt16.toUInt32.toInt32), oI ((p0 &&& (65535 : Int32)).toUInt32.toUInt16.toUInt32.toInt32), oI (0 : Int32)] [(.int ((p0 &&& (65535 : Int32)).toUInt32.toUInt16.toUInt32.toInt32))]))
      obtain ⟨_, _, ⟨T6, L6, k6, n6⟩, -, X6, ⟨Lc6, hQ6, l6, y6, z6⟩, st6⟩ := Jvm.LawKit.callS X0 hx (y := (⟨"com/example/eurycleia/eurycleia/text/TextNormalizer", "isWhitespace", "(C)Z"⟩ : MethodName)) hown (mvT hZ (own_w hw 1)) (mvT hZ (own_w hw 2)) (mvT hZ (own_w hw 3)) (mvT hZ (own_w hw 4)) (by decide) (backOf (W := 0) (rm1 l Z a0 hw [] ((p0 &&& (65535 : Int32)).toUInt32.toUInt16.toUInt32.toInt32) (f1 ((p0 &&& (65535 : Int32)).toUInt32.toUInt16.toUInt32.toInt32)) h0 n0 Z0 rfl) hZ (own_w hw 4) (own_w hw 3) (by decide) (by decide)) (g := (mkF m 33 #[oI p0, oI ((p0 &&& (65535 : Int32)).toUInt32.toUInt16.toUInt32.toInt32), oI ((p0 &&& (65535 : Int32)).toUInt32.toUInt16.toUInt32.toInt32), oI (0 : Int32)] [(.int ((p0 &&& (65535 : Int32)).toUInt32.toUInt16.toUInt32.toInt32))])) rfl (by rw [hml]; rfl) (argsL := [(.int ((p0 &&& (65535 : Int32)).toUInt32.toUInt16.toUInt32.toInt32))]) (rest := []) (lenOf pd_0_0 rfl) rfl (by show 2 * 0 + _ ≤ _; exact Nat.le_of_eq rfl) (hb hby at_33) (fun _ _ => ⟨rfl, e0, (by decide : 0 + 0 ≤ _), (by decide : 0 + 0 ≤ _)⟩)
      dsimp only [Pt.U, Pt.locs, Pt.cells, Pt.slots] at X6 l6 y6 z6 st6 hQ6
      subst l6 y6 z6
      obtain ⟨rfl, Nq6, e6⟩ := hQ6
      have N7 := Fr.app N0 Nq6
      refine own_via st6 ?_
      show own_Go p e below _ (T6.setTop (mkF m 36 #[oI p0, oI ((p0 &&& (65535 : Int32)).toUInt32.toUInt16.toUInt32.toInt32), oI ((p0 &&& (65535 : Int32)).toUInt32.toUInt16.toUInt32.toInt32), oI (0 : Int32)] [(.int (f1 ((p0 &&& (65535 : Int32)).toUInt32.toUInt16.toUInt32.toInt32)))]))
      refine own_via (fun t k => XS.iloadN X6.here hx rfl (hb hby at_36) rfl k) ?_
      show own_Go p e below _ (T6.setTop (mkF m 37 #[oI p0, oI ((p0 &&& (65535 : Int32)).toUInt32.toUInt16.toUInt32.toInt32), oI ((p0 &&& (65535 : Int32)).toUInt32.toUInt16.toUInt32.toInt32), oI (0 : Int32)] [(.int (0 : Int32)), (.int (f1 ((p0 &&& (65535 : Int32)).toUInt32.toUInt16.toUInt32.toInt32)))]))
      by_cases hc37_8 : (f1 ((p0 &&& (65535 : Int32)).toUInt32.toUInt16.toUInt32.toInt32)) = (0 : Int32)
      · refine own_via (fun t k => XS.icmpNo X6.here hx rfl (hb hby at_37) rfl (teq hc37_8).2 k) ?_
        show own_Go p e below _ (T6.setTop (mkF m 40 #[oI p0, oI ((p0 &&& (65535 : Int32)).toUInt32.toUInt16.toUInt32.toInt32), oI ((p0 &&& (65535 : Int32)).toUInt32.toUInt16.toUInt32.toInt32), oI (0 : Int32)] []))
        refine own_via (fun t k => XS.iconst X6.here hx rfl (hb hby at_40) k) ?_
        show own_Go p e below _ (T6.setTop (mkF m 41 #[oI p0, oI ((p0 &&& (65535 : Int32)).toUInt32.toUInt16.toUInt32.toInt32), oI ((p0 &&& (65535 : Int32)).toUInt32.toUInt16.toUInt32.toInt32), oI (0 : Int32)] [(.int (1 : Int32))]))
        refine own_via (fun t k => XS.goto X6.here hx rfl (pc0 := 41) (pc' := 45) rfl (hb hby at_41) (by decide) (by decide) k) ?_
        show own_Go p e below _ (T6.setTop (mkF m 45 #[oI p0, oI ((p0 &&& (65535 : Int32)).toUInt32.toUInt16.toUInt32.toInt32), oI ((p0 &&& (65535 : Int32)).toUInt32.toUInt16.toUInt32.toInt32), oI (0 : Int32)] [(.int (1 : Int32))]))
        have hv : (f0 p0) = (1 : Int32) := by unfold f0; rw [if_neg hc11_1, if_pos hc17_5, if_pos hc37_8]
        obtain ⟨fs, hr, hrun, hended, hW, hsame⟩ := X6.leave (v := some (.int (1 : Int32))) (fun h => by rw [Bd.returns] at h; cases h)
        refine ⟨_, _, retN X6 hx (t := .boolean) Bd.returns (by simp) (hb hby at_45) hr, hrun, hended, _, _, rfl, ?_, ⟨_, rfl⟩, hW, hsame.mono (by decide) (by decide)⟩
        show Q0 Z p0 h0 n0 _ T6.heap _
        rw [e6]
        exact ⟨rfl, N7⟩
      · refine own_via (fun t k => XS.icmpYes X6.here hx rfl (pc0 := 37) (pc' := 44) rfl (hb hby at_37) rfl (feq hc37_8).2 (by decide) (by decide) k) ?_
        show own_Go p e below _ (T6.setTop (mkF m 44 #[oI p0, oI ((p0 &&& (65535 : Int32)).toUInt32.toUInt16.toUInt32.toInt32), oI ((p0 &&& (65535 : Int32)).toUInt32.toUInt16.toUInt32.toInt32), oI (0 : Int32)] []))
        refine own_via (fun t k => XS.iconst X6.here hx rfl (hb hby at_44) k) ?_
        show own_Go p e below _ (T6.setTop (mkF m 45 #[oI p0, oI ((p0 &&& (65535 : Int32)).toUInt32.toUInt16.toUInt32.toInt32), oI ((p0 &&& (65535 : Int32)).toUInt32.toUInt16.toUInt32.toInt32), oI (0 : Int32)] [(.int (0 : Int32))]))
        have hv : (f0 p0) = (0 : Int32) := by unfold f0; rw [if_neg hc11_1, if_pos hc17_5, if_neg hc37_8]
        exact absurd ((own_plain p0).symm.trans hv) (by decide)
    · refine own_via (fun t k => XS.icmpNo X0.here hx rfl (hb hby at_17) rfl (flt hc17_5).1 k) ?_
      show own_Go p e below _ (s₁.setTop (mkF m 20 #[oI p0, oI ((p0 &&& (65535 : Int32)).toUInt32.toUInt16.toUInt32.toInt32), oI ((p0 &&& (65535 : Int32)).toUInt32.toUInt16.toUInt32.toInt32), .unset] []))
      refine own_via (fun t k => XS.iloadN X0.here hx rfl (hb hby at_20) rfl k) ?_
      show own_Go p e below _ (s₁.setTop (mkF m 21 #[oI p0, oI ((p0 &&& (65535 : Int32)).toUInt32.toUInt16.toUInt32.toInt32), oI ((p0 &&& (65535 : Int32)).toUInt32.toUInt16.toUInt32.toInt32), .unset] [(.int ((p0 &&& (65535 : Int32)).toUInt32.toUInt16.toUInt32.toInt32))]))
      refine own_via (fun t k => XS.bipush X0.here hx rfl (hb hby at_21) k) ?_
      show own_Go p e below _ (s₁.setTop (mkF m 23 #[oI p0, oI ((p0 &&& (65535 : Int32)).toUInt32.toUInt16.toUInt32.toInt32), oI ((p0 &&& (65535 : Int32)).toUInt32.toUInt16.toUInt32.toInt32), .unset] [(.int (13 : Int32)), (.int ((p0 &&& (65535 : Int32)).toUInt32.toUInt16.toUInt32.toInt32))]))
      by_cases hc23_10 : (13 : Int32) < ((p0 &&& (65535 : Int32)).toUInt32.toUInt16.toUInt32.toInt32)
      · refine own_via (fun t k => XS.icmpYes X0.here hx rfl (pc0 := 23) (pc' := 30) rfl (hb hby at_23) rfl (tlt hc23_10).2.2.1 (by decide) (by decide) k) ?_
        show own_Go p e below _ (s₁.setTop (mkF m 30 #[oI p0, oI ((p0 &&& (65535 : Int32)).toUInt32.toUInt16.toUInt32.toInt32), oI ((p0 &&& (65535 : Int32)).toUInt32.toUInt16.toUInt32.toInt32), .unset] []))
        refine own_via (fun t k => XS.iconst X0.here hx rfl (hb hby at_30) k) ?_
        show own_Go p e below _ (s₁.setTop (mkF m 31 #[oI p0, oI ((p0 &&& (65535 : Int32)).toUInt32.toUInt16.toUInt32.toInt32), oI ((p0 &&& (65535 : Int32)).toUInt32.toUInt16.toUInt32.toInt32), .unset] [(.int (0 : Int32))]))
        refine own_via (fun t k => XS.istoreN X0.here hx rfl (hb hby at_31) rfl (l' := #[oI p0, oI ((p0 &&& (65535 : Int32)).toUInt32.toUInt16.toUInt32.toInt32), oI ((p0 &&& (65535 : Int32)).toUInt32.toUInt16.toUInt32.toInt32), oI (0 : Int32)]) rfl k) ?_
        show own_Go p e below _ (s₁.setTop (mkF m 32 #[oI p0, oI ((p0 &&& (65535 : Int32)).toUInt32.toUInt16.toUInt32.toInt32), oI ((p0 &&& (65535 : Int32)).toUInt32.toUInt16.toUInt32.toInt32), oI (0 : Int32)] []))
        refine own_via (fun t k => XS.iloadN X0.here hx rfl (hb hby at_32) rfl k) ?_
        show own_Go p e below _ (s₁.setTop (mkF m 33 #[oI p0, oI ((p0 &&& (65535 : Int32)).toUInt32.toUInt16.toUInt32.toInt32), oI ((p0 &&& (65535 : Int32)).toUInt32.toUInt16.toUInt32.toInt32), oI (0 : Int32)] [(.int ((p0 &&& (65535 : Int32)).toUInt32.toUInt16.toUInt32.toInt32))]))
        obtain ⟨_, _, ⟨T11, L11, k11, n11⟩, -, X11, ⟨Lc11, hQ11, l11, y11, z11⟩, st11⟩ := Jvm.LawKit.callS X0 hx (y := (⟨"com/example/eurycleia/eurycleia/text/TextNormalizer", "isWhitespace", "(C)Z"⟩ : MethodName)) hown (mvT hZ (own_w hw 1)) (mvT hZ (own_w hw 2)) (mvT hZ (own_w hw 3)) (mvT hZ (own_w hw 4)) (by decide) (backOf (W := 0) (rm1 l Z a0 hw [] ((p0 &&& (65535 : Int32)).toUInt32.toUInt16.toUInt32.toInt32) (f1 ((p0 &&& (65535 : Int32)).toUInt32.toUInt16.toUInt32.toInt32)) h0 n0 Z0 rfl) hZ (own_w hw 4) (own_w hw 3) (by decide) (by decide)) (g := (mkF m 33 #[oI p0, oI ((p0 &&& (65535 : Int32)).toUInt32.toUInt16.toUInt32.toInt32), oI ((p0 &&& (65535 : Int32)).toUInt32.toUInt16.toUInt32.toInt32), oI (0 : Int32)] [(.int ((p0 &&& (65535 : Int32)).toUInt32.toUInt16.toUInt32.toInt32))])) rfl (by rw [hml]; rfl) (argsL := [(.int ((p0 &&& (65535 : Int32)).toUInt32.toUInt16.toUInt32.toInt32))]) (rest := []) (lenOf pd_0_0 rfl) rfl (by show 2 * 0 + _ ≤ _; exact Nat.le_of_eq rfl) (hb hby at_33) (fun _ _ => ⟨rfl, e0, (by decide : 0 + 0 ≤ _), (by decide : 0 + 0 ≤ _)⟩)
        dsimp only [Pt.U, Pt.locs, Pt.cells, Pt.slots] at X11 l11 y11 z11 st11 hQ11
        subst l11 y11 z11
        obtain ⟨rfl, Nq11, e11⟩ := hQ11
        have N12 := Fr.app N0 Nq11
        refine own_via st11 ?_
        show own_Go p e below _ (T11.setTop (mkF m 36 #[oI p0, oI ((p0 &&& (65535 : Int32)).toUInt32.toUInt16.toUInt32.toInt32), oI ((p0 &&& (65535 : Int32)).toUInt32.toUInt16.toUInt32.toInt32), oI (0 : Int32)] [(.int (f1 ((p0 &&& (65535 : Int32)).toUInt32.toUInt16.toUInt32.toInt32)))]))
        refine own_via (fun t k => XS.iloadN X11.here hx rfl (hb hby at_36) rfl k) ?_
        show own_Go p e below _ (T11.setTop (mkF m 37 #[oI p0, oI ((p0 &&& (65535 : Int32)).toUInt32.toUInt16.toUInt32.toInt32), oI ((p0 &&& (65535 : Int32)).toUInt32.toUInt16.toUInt32.toInt32), oI (0 : Int32)] [(.int (0 : Int32)), (.int (f1 ((p0 &&& (65535 : Int32)).toUInt32.toUInt16.toUInt32.toInt32)))]))
        by_cases hc37_13 : (f1 ((p0 &&& (65535 : Int32)).toUInt32.toUInt16.toUInt32.toInt32)) = (0 : Int32)
        · refine own_via (fun t k => XS.icmpNo X11.here hx rfl (hb hby at_37) rfl (teq hc37_13).2 k) ?_
          show own_Go p e below _ (T11.setTop (mkF m 40 #[oI p0, oI ((p0 &&& (65535 : Int32)).toUInt32.toUInt16.toUInt32.toInt32), oI ((p0 &&& (65535 : Int32)).toUInt32.toUInt16.toUInt32.toInt32), oI (0 : Int32)] []))
          refine own_via (fun t k => XS.iconst X11.here hx rfl (hb hby at_40) k) ?_
          show own_Go p e below _ (T11.setTop (mkF m 41 #[oI p0, oI ((p0 &&& (65535 : Int32)).toUInt32.toUInt16.toUInt32.toInt32), oI ((p0 &&& (65535 : Int32)).toUInt32.toUInt16.toUInt32.toInt32), oI (0 : Int32)] [(.int (1 : Int32))]))
          refine own_via (fun t k => XS.goto X11.here hx rfl (pc0 := 41) (pc' := 45) rfl (hb hby at_41) (by decide) (by decide) k) ?_
          show own_Go p e below _ (T11.setTop (mkF m 45 #[oI p0, oI ((p0 &&& (65535 : Int32)).toUInt32.toUInt16.toUInt32.toInt32), oI ((p0 &&& (65535 : Int32)).toUInt32.toUInt16.toUInt32.toInt32), oI (0 : Int32)] [(.int (1 : Int32))]))
          have hv : (f0 p0) = (1 : Int32) := by unfold f0; rw [if_neg hc11_1, if_neg hc17_5, if_pos hc23_10, if_pos hc37_13]
          obtain ⟨fs, hr, hrun, hended, hW, hsame⟩ := X11.leave (v := some (.int (1 : Int32))) (fun h => by rw [Bd.returns] at h; cases h)
          refine ⟨_, _, retN X11 hx (t := .boolean) Bd.returns (by simp) (hb hby at_45) hr, hrun, hended, _, _, rfl, ?_, ⟨_, rfl⟩, hW, hsame.mono (by decide) (by decide)⟩
          show Q0 Z p0 h0 n0 _ T11.heap _
          rw [e11]
          exact ⟨rfl, N12⟩
        · refine own_via (fun t k => XS.icmpYes X11.here hx rfl (pc0 := 37) (pc' := 44) rfl (hb hby at_37) rfl (feq hc37_13).2 (by decide) (by decide) k) ?_
          show own_Go p e below _ (T11.setTop (mkF m 44 #[oI p0, oI ((p0 &&& (65535 : Int32)).toUInt32.toUInt16.toUInt32.toInt32), oI ((p0 &&& (65535 : Int32)).toUInt32.toUInt16.toUInt32.toInt32), oI (0 : Int32)] []))
          refine own_via (fun t k => XS.iconst X11.here hx rfl (hb hby at_44) k) ?_
          show own_Go p e below _ (T11.setTop (mkF m 45 #[oI p0, oI ((p0 &&& (65535 : Int32)).toUInt32.toUInt16.toUInt32.toInt32), oI ((p0 &&& (65535 : Int32)).toUInt32.toUInt16.toUInt32.toInt32), oI (0 : Int32)] [(.int (0 : Int32))]))
          have hv : (f0 p0) = (0 : Int32) := by unfold f0; rw [if_neg hc11_1, if_neg hc17_5, if_pos hc23_10, if_neg hc37_13]
          exact absurd ((own_plain p0).symm.trans hv) (by decide)
      · refine own_via (fun t k => XS.icmpNo X0.here hx rfl (hb hby at_23) rfl (flt hc23_10).2.2.1 k) ?_
        show own_Go p e below _ (s₁.setTop (mkF m 26 #[oI p0, oI ((p0 &&& (65535 : Int32)).toUInt32.toUInt16.toUInt32.toInt32), oI ((p0 &&& (65535 : Int32)).toUInt32.toUInt16.toUInt32.toInt32), .unset] []))
        refine own_via (fun t k => XS.iconst X0.here hx rfl (hb hby at_26) k) ?_
        show own_Go p e below _ (s₁.setTop (mkF m 27 #[oI p0, oI ((p0 &&& (65535 : Int32)).toUInt32.toUInt16.toUInt32.toInt32), oI ((p0 &&& (65535 : Int32)).toUInt32.toUInt16.toUInt32.toInt32), .unset] [(.int (1 : Int32))]))
        refine own_via (fun t k => XS.goto X0.here hx rfl (pc0 := 27) (pc' := 31) rfl (hb hby at_27) (by decide) (by decide) k) ?_
        show own_Go p e below _ (s₁.setTop (mkF m 31 #[oI p0, oI ((p0 &&& (65535 : Int32)).toUInt32.toUInt16.toUInt32.toInt32), oI ((p0 &&& (65535 : Int32)).toUInt32.toUInt16.toUInt32.toInt32), .unset] [(.int (1 : Int32))]))
        refine own_via (fun t k => XS.istoreN X0.here hx rfl (hb hby at_31) rfl (l' := #[oI p0, oI ((p0 &&& (65535 : Int32)).toUInt32.toUInt16.toUInt32.toInt32), oI ((p0 &&& (65535 : Int32)).toUInt32.toUInt16.toUInt32.toInt32), oI (1 : Int32)]) rfl k) ?_
        show own_Go p e below _ (s₁.setTop (mkF m 32 #[oI p0, oI ((p0 &&& (65535 : Int32)).toUInt32.toUInt16.toUInt32.toInt32), oI ((p0 &&& (65535 : Int32)).toUInt32.toUInt16.toUInt32.toInt32), oI (1 : Int32)] []))
        refine own_via (fun t k => XS.iloadN X0.here hx rfl (hb hby at_32) rfl k) ?_
        show own_Go p e below _ (s₁.setTop (mkF m 33 #[oI p0, oI ((p0 &&& (65535 : Int32)).toUInt32.toUInt16.toUInt32.toInt32), oI ((p0 &&& (65535 : Int32)).toUInt32.toUInt16.toUInt32.toInt32), oI (1 : Int32)] [(.int ((p0 &&& (65535 : Int32)).toUInt32.toUInt16.toUInt32.toInt32))]))
        obtain ⟨_, _, ⟨T15, L15, k15, n15⟩, -, X15, ⟨Lc15, hQ15, l15, y15, z15⟩, st15⟩ := Jvm.LawKit.callS X0 hx (y := (⟨"com/example/eurycleia/eurycleia/text/TextNormalizer", "isWhitespace", "(C)Z"⟩ : MethodName)) hown (mvT hZ (own_w hw 1)) (mvT hZ (own_w hw 2)) (mvT hZ (own_w hw 3)) (mvT hZ (own_w hw 4)) (by decide) (backOf (W := 0) (rm1 l Z a0 hw [] ((p0 &&& (65535 : Int32)).toUInt32.toUInt16.toUInt32.toInt32) (f1 ((p0 &&& (65535 : Int32)).toUInt32.toUInt16.toUInt32.toInt32)) h0 n0 Z0 rfl) hZ (own_w hw 4) (own_w hw 3) (by decide) (by decide)) (g := (mkF m 33 #[oI p0, oI ((p0 &&& (65535 : Int32)).toUInt32.toUInt16.toUInt32.toInt32), oI ((p0 &&& (65535 : Int32)).toUInt32.toUInt16.toUInt32.toInt32), oI (1 : Int32)] [(.int ((p0 &&& (65535 : Int32)).toUInt32.toUInt16.toUInt32.toInt32))])) rfl (by rw [hml]; rfl) (argsL := [(.int ((p0 &&& (65535 : Int32)).toUInt32.toUInt16.toUInt32.toInt32))]) (rest := []) (lenOf pd_0_0 rfl) rfl (by show 2 * 0 + _ ≤ _; exact Nat.le_of_eq rfl) (hb hby at_33) (fun _ _ => ⟨rfl, e0, (by decide : 0 + 0 ≤ _), (by decide : 0 + 0 ≤ _)⟩)
        dsimp only [Pt.U, Pt.locs, Pt.cells, Pt.slots] at X15 l15 y15 z15 st15 hQ15
        subst l15 y15 z15
        obtain ⟨rfl, Nq15, e15⟩ := hQ15
        have N16 := Fr.app N0 Nq15
        refine own_via st15 ?_
        show own_Go p e below _ (T15.setTop (mkF m 36 #[oI p0, oI ((p0 &&& (65535 : Int32)).toUInt32.toUInt16.toUInt32.toInt32), oI ((p0 &&& (65535 : Int32)).toUInt32.toUInt16.toUInt32.toInt32), oI (1 : Int32)] [(.int (f1 ((p0 &&& (65535 : Int32)).toUInt32.toUInt16.toUInt32.toInt32)))]))
        refine own_via (fun t k => XS.iloadN X15.here hx rfl (hb hby at_36) rfl k) ?_
        show own_Go p e below _ (T15.setTop (mkF m 37 #[oI p0, oI ((p0 &&& (65535 : Int32)).toUInt32.toUInt16.toUInt32.toInt32), oI ((p0 &&& (65535 : Int32)).toUInt32.toUInt16.toUInt32.toInt32), oI (1 : Int32)] [(.int (1 : Int32)), (.int (f1 ((p0 &&& (65535 : Int32)).toUInt32.toUInt16.toUInt32.toInt32)))]))
        by_cases hc37_17 : (f1 ((p0 &&& (65535 : Int32)).toUInt32.toUInt16.toUInt32.toInt32)) = (1 : Int32)
        · refine own_via (fun t k => XS.icmpNo X15.here hx rfl (hb hby at_37) rfl (teq hc37_17).2 k) ?_
          show own_Go p e below _ (T15.setTop (mkF m 40 #[oI p0, oI ((p0 &&& (65535 : Int32)).toUInt32.toUInt16.toUInt32.toInt32), oI ((p0 &&& (65535 : Int32)).toUInt32.toUInt16.toUInt32.toInt32), oI (1 : Int32)] []))
          refine own_via (fun t k => XS.iconst X15.here hx rfl (hb hby at_40) k) ?_
          show own_Go p e below _ (T15.setTop (mkF m 41 #[oI p0, oI ((p0 &&& (65535 : Int32)).toUInt32.toUInt16.toUInt32.toInt32), oI ((p0 &&& (65535 : Int32)).toUInt32.toUInt16.toUInt32.toInt32), oI (1 : Int32)] [(.int (1 : Int32))]))
          refine own_via (fun t k => XS.goto X15.here hx rfl (pc0 := 41) (pc' := 45) rfl (hb hby at_41) (by decide) (by decide) k) ?_
          show own_Go p e below _ (T15.setTop (mkF m 45 #[oI p0, oI ((p0 &&& (65535 : Int32)).toUInt32.toUInt16.toUInt32.toInt32), oI ((p0 &&& (65535 : Int32)).toUInt32.toUInt16.toUInt32.toInt32), oI (1 : Int32)] [(.int (1 : Int32))]))
          have hv : (f0 p0) = (1 : Int32) := by unfold f0; rw [if_neg hc11_1, if_neg hc17_5, if_neg hc23_10, if_pos hc37_17]
          obtain ⟨fs, hr, hrun, hended, hW, hsame⟩ := X15.leave (v := some (.int (1 : Int32))) (fun h => by rw [Bd.returns] at h; cases h)
          refine ⟨_, _, retN X15 hx (t := .boolean) Bd.returns (by simp) (hb hby at_45) hr, hrun, hended, _, _, rfl, ?_, ⟨_, rfl⟩, hW, hsame.mono (by decide) (by decide)⟩
          show Q0 Z p0 h0 n0 _ T15.heap _
          rw [e15]
          exact ⟨rfl, N16⟩
        · refine own_via (fun t k => XS.icmpYes X15.here hx rfl (pc0 := 37) (pc' := 44) rfl (hb hby at_37) rfl (feq hc37_17).2 (by decide) (by decide) k) ?_
          show own_Go p e below _ (T15.setTop (mkF m 44 #[oI p0, oI ((p0 &&& (65535 : Int32)).toUInt32.toUInt16.toUInt32.toInt32), oI ((p0 &&& (65535 : Int32)).toUInt32.toUInt16.toUInt32.toInt32), oI (1 : Int32)] []))
          refine own_via (fun t k => XS.iconst X15.here hx rfl (hb hby at_44) k) ?_
          show own_Go p e below _ (T15.setTop (mkF m 45 #[oI p0, oI ((p0 &&& (65535 : Int32)).toUInt32.toUInt16.toUInt32.toInt32), oI ((p0 &&& (65535 : Int32)).toUInt32.toUInt16.toUInt32.toInt32), oI (1 : Int32)] [(.int (0 : Int32))]))
          have hv : (f0 p0) = (0 : Int32) := by unfold f0; rw [if_neg hc11_1, if_neg hc17_5, if_neg hc23_10, if_neg hc37_17]
          exact absurd ((own_plain p0).symm.trans hv) (by decide)
set_option maxRecDepth 65536 in
set_option maxHeartbeats 40000000 in
theorem comes_1 {Post : Tables → Env → Array Value → State → Outcome → State → Prop} (hpost : ∀ tb e args s v u, (limb_1_1.after args s (.returned v) u = true ∧ limb_1_2.after args s (.returned v) u = true ∧ True) → FrameEnd s (.returned v) u (Jvm.fieldLocs frame_1_writes args s ++ Jvm.arrayLocs frame_1_arrays args s ++ Jvm.staticLocs frame_1_statics s) 0 0 → Post tb e args s (.returned v) u) :
    ArmFor flags0 classFile x code maxLocals ret World_1 tables_1 room_1 Calls_1 rest_1 Pre_1 Post := by
  intro l hfl _ _ p e ha hc hk s m args below hf hA hF happ hP
  obtain ⟨hcalls, hrest, hpre⟩ := hP
  obtain ⟨-, -, -, hnamed, -, -, -, hat⟩ := (Spec.applies_iff hf).mp happ
  obtain ⟨hg, hn⟩ := and_e (Cond.before_iff.mp (show (Jvm.Cond.and given_1 narrow_1).before args s = true from hpre))
  obtain ⟨g1, g2⟩ := and_e hg
  obtain ⟨w0, rfl⟩ : ∃ w0 : Value, args = #[w0] := by
    have hs : args.size = 1 := by simpa [Cond.value, given_1] using g1
    obtain ⟨L⟩ := args
    match L, hs with
    | [w0], _ => exact ⟨w0, rfl⟩
  have hw := fun d (hd : d ∈ tables_1) => atoms_spec (ws := Jvm.Cond.code x code maxLocals ret :: tables_1) hat d (List.mem_cons_of_mem _ hd)
  obtain ⟨i0, ei0⟩ := is_v g2
  obtain rfl : w0 = (.int i0) := Option.some.inj ei0
  obtain ⟨n, o, h1, h2, h3, _, L, rfl, ⟨rfl, N⟩, hq⟩ := rm0 l s _ hw tables_1 i0 s.heap s.heap.size (Nat.le_refl _)  p e ha hc hk s m _ below hf ((Spec.applies_iff_loose hf).mp happ).1 ⟨rfl, State.Warmed39.refl s, rfl⟩ trivial
  refine ⟨n, _, h1, h2, h3, hpost _ _ _ _ _ _ ⟨Cond.after_iff.mpr rfl, Cond.after_iff.mpr (eq_i res_at (Term.int_eval (1)) rfl), trivial⟩ ⟨hq.1, hq.2.1, (hq.2.2.sift fun y hy => Or.inr (N y hy)).mono (by decide) (by decide)⟩⟩
theorem main_1_1 : Claimed_1_1 := comes_1 fun _ _ _ _ _ _ h hF => ⟨h.1, hF⟩
theorem main_1_2 : Claimed_1_2 := comes_1 fun _ _ _ _ _ _ h hF => ⟨h.2.1, hF⟩
end Jvm.Pilot.@@N@@
namespace Jvm.Pilot.@@N@@
open Jvm Jvm.ClassFile Sem Op Lib Jvm.Free Jvm.Stand Jvm.Pilot.@@N@@.Jvm.D
/-! MADE BY PROGRAM (witnessworld.py) out of the Statement's table words and the real class files: 7 classes; the members and pool entries that the words name. The judged class is class 1, her method 1. -/
namespace start1
open Jvm.ClassFile
def u (s : String) : CpInfo := .utf8 (stringToUtf16 s)
/-- a pool by its gaps: so many unusable entries, then the entry; so many at the end -/
def gap : Nat → List CpInfo → List CpInfo
  | 0, r => r
  | n + 1, r => .unusable :: gap n r
def poolList (es : List (Nat × CpInfo)) (last : Nat) : List CpInfo := es.foldr (fun e r => gap e.1 (e.2 :: r)) (gap last [])
def pool (es : List (Nat × CpInfo)) (last : Nat) : Array CpInfo := ⟨poolList es last⟩
def fileOf (pool : Array CpInfo) (this : Nat) (attrs : Array Attribute := #[]) (ms : Array MethodInfo := #[]) (fl : Nat := 33) (sup : Nat := 0) (ifs : Array Nat := #[]) (fds : Array FieldInfo := #[]) : ClassFile where
  minorVersion := 0
  majorVersion := 65
  constantPool := pool
  accessFlags := fl
  thisClass := this
  superClass := sup
  interfaces := ifs
  fields := fds
  methods := ms
  attributes := attrs
def plain (name : String) (sup : Option ClassId) : Class where
  name := name
  kind := .ordinary
  loader := none
  accessFlags := 33
  super := sup
  interfaces := #[]
  cf := none
  fields := #[]
  methods := #[]
  instanceTypes := #[]
  staticTypes := #[]
  resolved := #[]
  callSites := []
  init := .initialized
  statics := none
  mirror := none

def pool0 : Array CpInfo := pool [(5, u "<init>"), (0, u "()V"), (1, .class_ 10), (1, u "java/lang/Object")] 113

def k0m0 : Method := { name := "<init>", desc := "()V", sig := { parameters := [], returnType := none }, accessFlags := 1, code := none }
/-- java/lang/Object -/
def k0 : Class := { plain "java/lang/Object" none with
  accessFlags := 33
  interfaces := #[]
  cf := some (fileOf pool0 8 #[] #[{ accessFlags := 1, nameIndex := 5, descriptorIndex := 6, attributes := #[] }] 33 0 #[] #[])
  fields := #[]
  methods := #[k0m0]
  instanceTypes := #[]
  staticTypes := #[]
  resolved := Array.replicate 124 none
  statics := none }

def pool1 : Array CpInfo := pool [(2, .class_ 4), (1, u "java/lang/Object"), (0, u "<init>"), (0, u "()V"), (0, .integer 65535), (0, .methodref 9 10), (0, .class_ 11), (0, .nameAndType 12 13), (0, u "com/example/eurycleia/eurycleia/text/TextNormalizer"), (0, u "isWhitespace"), (0, u "(C)Z"), (0, .class_ 15), (0, u "com/example/eurycleia/eurycleia/text/TextNormalizerIsWhitespacePinLaw"), (2, u "law"), (0, u "(I)Z")] 3

def k1m0 : Method := { name := "<init>", desc := "()V", sig := { parameters := [], returnType := none }, accessFlags := 2, code := none }
def k1c1 : Code := { maxStack := 2, maxLocals := 4, code := code, exceptionTable := #[], attributes := #[] }
def k1m1 : Method := { name := "law", desc := "(I)Z", sig := { parameters := [.int], returnType := some .boolean }, accessFlags := 9, code := some k1c1 }
/-- com/example/eurycleia/eurycleia/text/TextNormalizerIsWhitespacePinLaw -/
def k1 : Class := { plain "com/example/eurycleia/eurycleia/text/TextNormalizerIsWhitespacePinLaw" (some 0) with
  accessFlags := 49
  interfaces := #[]
  cf := some (fileOf pool1 14 #[] #[{ accessFlags := 2, nameIndex := 5, descriptorIndex := 6, attributes := #[] }, { accessFlags := 9, nameIndex := 18, descriptorIndex := 19, attributes := #[] }] 49 2 #[] #[])
  fields := #[]
  methods := #[k1m0, k1m1]
  instanceTypes := #[]
  staticTypes := #[]
  resolved := Array.replicate 23 none
  statics := none }

def pool2 : Array CpInfo := pool [(2, .class_ 4), (1, u "java/lang/Object"), (0, u "<init>"), (0, u "()V"), (26, .class_ 35), (1, u "com/example/eurycleia/eurycleia/text/TextNormalizer"), (0, u "isWhitespace"), (0, u "(C)Z")] 16

def k2m0 : Method := { name := "<init>", desc := "()V", sig := { parameters := [], returnType := none }, accessFlags := 2, code := none }
def k2c1 : Code := { maxStack := 2, maxLocals := 1, code := prog_24_method_3_code, exceptionTable := #[], attributes := #[] }
def k2m1 : Method := { name := "isWhitespace", desc := "(C)Z", sig := { parameters := [.char], returnType := some .boolean }, accessFlags := 8, code := some k2c1 }
/-- com/example/eurycleia/eurycleia/text/TextNormalizer -/
def k2 : Class := { plain "com/example/eurycleia/eurycleia/text/TextNormalizer" (some 0) with
  accessFlags := 49
  interfaces := #[]
  cf := some (fileOf pool2 33 #[] #[{ accessFlags := 2, nameIndex := 5, descriptorIndex := 6, attributes := #[] }, { accessFlags := 8, nameIndex := 36, descriptorIndex := 37, attributes := #[] }] 49 2 #[] #[])
  fields := #[]
  methods := #[k2m0, k2m1]
  instanceTypes := #[]
  staticTypes := #[]
  resolved := Array.replicate 54 none
  statics := none }

def pool3 : Array CpInfo := pool [(1, u "java/lang/Cloneable"), (0, .class_ 1), (0, u "java/lang/Object"), (0, .class_ 3)] 3

/-- java/lang/Cloneable -/
def k3 : Class := { plain "java/lang/Cloneable" (some 0) with
  accessFlags := 1537
  interfaces := #[]
  cf := some (fileOf pool3 2 #[] #[] 1537 4 #[] #[])
  fields := #[]
  methods := #[]
  instanceTypes := #[]
  staticTypes := #[]
  resolved := Array.replicate 8 none
  statics := none }

def pool4 : Array CpInfo := pool [(1, u "java/io/Serializable"), (0, .class_ 1), (0, u "java/lang/Object"), (0, .class_ 3)] 3

/-- java/io/Serializable -/
def k4 : Class := { plain "java/io/Serializable" (some 0) with
  accessFlags := 1537
  interfaces := #[]
  cf := some (fileOf pool4 2 #[] #[] 1537 4 #[] #[])
  fields := #[]
  methods := #[]
  instanceTypes := #[]
  staticTypes := #[]
  resolved := Array.replicate 8 none
  statics := none }

/-- the primitive byte -/
def k5 : Class := { plain "byte" none with kind := .primitive 'B', accessFlags := 0x411 }
/-- [B -/
def k6 : Class := { plain "[B" (some 0) with kind := .array 5 .byte, interfaces := #[3, 4], accessFlags := 1041 }

def heap : Heap := #[]
def classes : Array Class := #[k0, k1, k2, k3, k4, k5, k6]
def interned : List (Array UInt16 × Addr) := []
def slotsUsed : Nat := 0
def theMethod : MethodId := ⟨1, 1⟩
def args0 : Array Value := #[.int 5]
def aboutOver (below : List Frame) : State where
  vm := { classes := classes, interned := interned.toArray }
  heap := heap
  slotsUsed := slotsUsed
  threads := #[{ frames := .invoking theMethod args0 :: below }]
def below0 : List Frame := [.native { method := ⟨0, 0⟩, args := #[] }]
def about1 : State := aboutOver below0
def p0 : Program := .bare "" "" ""
def e0 : Env := launch0.env 0 0 0
theorem w_frames : about1.frames = Frame.invoking theMethod args0 :: below0 := rfl
set_option maxRecDepth 65536 in
theorem w_args : argsFit about1.vm theMethod args0 = true := by decide +kernel
set_option maxRecDepth 65536 in
theorem w_heap : heapFits about1 = true := by decide +kernel
set_option maxRecDepth 65536 in
theorem w_runnable : about1.curStatus? = some .runnable := by decide +kernel
set_option maxRecDepth 65536 in
theorem w_alone : about1.alone = true := by decide +kernel
set_option maxRecDepth 65536 in
theorem w_named : about1.methodNamed? x = some theMethod := by decide +kernel
set_option maxRecDepth 65536 in
theorem w_hears : about1.hears theMethod below0 = true := by decide +kernel
set_option maxRecDepth 65536 in
theorem w_ripe : about1.ripe theMethod args0 below0 = true := by decide +kernel
theorem w_running : about1.status = .running := rfl
set_option maxRecDepth 65536 in
theorem w_room : about1.hasRoom e0.platform room_1 = true :=
  launch0.hasRoom_least _ room_1 (by decide +kernel) (by decide +kernel) (by decide +kernel) (by decide +kernel) (by decide +kernel) (by decide +kernel)
theorem allAtoms_all (ts : List Jvm.Cond) (a : Array Jvm.Value) (st : Jvm.State) : (allAtoms ts).before a st = ts.all (fun c => c.before a st) := by
  induction ts with
  | nil => rfl
  | cons c t ih =>
    show (Jvm.Cond.and c (allAtoms t)).before a st = _
    rw [Jvm.Cond.before_and, ih, List.all_cons]
def words1 : List Jvm.Cond := Jvm.Cond.code x code maxLocals ret :: tables_1
/-- a 'code' word, met by the world's own term for the bytes: nothing is compared byte by byte -/
theorem code_word {y : MethodName} {bytes : ByteArray} {mx : Nat} {rt : Option FieldType} {a : Array Value} {s : State} {m : MethodId} {meth : Method} {c : Code} (h1 : s.methodNamed? y = some m) (h2 : s.vm.method? m = some meth) (h3 : meth.code = some c) (h4 : c.code = bytes)
    (h5 : (c.maxLocals == mx && c.exceptionTable.isEmpty && decide (c.maxStack ≤ mostOperands) && decide (meth.sig.returnType = rt) && !meth.locks && decide (parseMethodDescriptor y.desc = some meth.sig)) = true) : (Jvm.Cond.code y bytes mx rt).before a s = true := by
  simp only [Bool.and_eq_true, beq_iff_eq, Bool.not_eq_true', decide_eq_true_eq] at h5
  obtain ⟨⟨⟨⟨⟨g1, g2⟩, g3⟩, g4⟩, g5⟩, g6⟩ := h5
  simp [Cond.before, Cond.holds, Cond.value, h1, h2, h3, h4, g1, g2, g3, g4, g5, g6]
def isCode : Jvm.Cond → Bool
  | .code _ _ _ _ => true
  | _ => false
theorem all_split {L : List Jvm.Cond} {P : Jvm.Cond → Bool} (h1 : L.all (fun c => isCode c || P c) = true) (h2 : ∀ c ∈ L.filter isCode, P c = true) : L.all P = true := by
  refine List.all_eq_true.mpr fun c hc => ?_
  have h := List.all_eq_true.mp h1 c hc
  rcases Bool.eq_false_or_eq_true (isCode c) with hi | hi
  · exact h2 c (List.mem_filter.mpr ⟨hc, hi⟩)
  · simpa [hi] using h
set_option maxRecDepth 65536 in
theorem w_c0 : (Jvm.Cond.code x code maxLocals ret).before args0 about1 = true := code_word (m := ⟨1, 1⟩) (meth := k1m1) (c := k1c1) (by decide +kernel) rfl rfl rfl (by decide +kernel)
set_option maxRecDepth 65536 in
theorem w_c1 : (Jvm.Cond.code ({ cls := "com/example/eurycleia/eurycleia/text/TextNormalizer", name := "isWhitespace", desc := "(C)Z" } : Jvm.MethodName) prog_24_method_3_code (1 : Nat) (Option.some Jvm.ClassFile.FieldType.boolean)).before args0 about1 = true := code_word (m := ⟨2, 1⟩) (meth := k2m1) (c := k2c1) (by decide +kernel) rfl rfl rfl (by decide +kernel)
def codes1 : List Jvm.Cond := [Jvm.Cond.code x code maxLocals ret, Jvm.Cond.code ({ cls := "com/example/eurycleia/eurycleia/text/TextNormalizer", name := "isWhitespace", desc := "(C)Z" } : Jvm.MethodName) prog_24_method_3_code (1 : Nat) (Option.some Jvm.ClassFile.FieldType.boolean)]
set_option maxRecDepth 65536 in
theorem codes_eq : words1.filter isCode = codes1 := rfl
theorem w_codes : ∀ c ∈ words1.filter isCode, c.before args0 about1 = true := by
  rw [codes_eq]
  intro c hc
  simp only [codes1, List.mem_cons, List.not_mem_nil, or_false] at hc
  rcases hc with rfl | rfl
  · exact w_c0
  · exact w_c1
set_option maxRecDepth 65536 in
theorem w_t1 : words1.all (fun c => isCode c || c.before args0 about1) = true := by decide +kernel
theorem w_tables : (allAtoms (Jvm.Cond.code x code maxLocals ret :: tables_1)).before args0 about1 = true := by
  rw [allAtoms_all]
  show words1.all (fun c => c.before args0 about1) = true
  refine all_split ?_ w_codes
  rw [w_t1]
set_option maxRecDepth 65536 in
theorem w_case : (Jvm.Cond.and given_1 narrow_1).before args0 about1 = true := by decide +kernel
theorem w_applies : (headSpec (Jvm.Cond.code x code maxLocals ret :: tables_1) room_1).applies x e0.platform about1 = true :=
  (Spec.applies_iff w_frames).mpr ⟨w_running, w_runnable, w_alone, w_named, w_hears, w_ripe, w_room, w_tables⟩
theorem atStart : AtStart classFile x code maxLocals ret World_1 tables_1 room_1 Calls_1 rest_1 Pre_1 launch0 p0 e0 about1 theMethod args0 below0 :=
  ⟨lists_1, trivial, launch0.admits_env _ _ _, launch0.least_env, fairChoices_fair.cas, fairChoices_fair.clock, w_frames, w_args, w_heap, w_applies, trivial, trivial, w_case⟩
end start1
theorem witness_1 : WitnessClaimed_1 := ⟨start1.p0, start1.e0, start1.about1, start1.theMethod, start1.args0, start1.below0, start1.atStart⟩
end Jvm.Pilot.@@N@@
