import JvmDerived
import JvmDerived.Pilot.@@N@@Statement
import JvmDerived.Pilot.@@N@@Code
set_option linter.unusedVariables false
set_option linter.unusedSimpArgs false
namespace Jvm.RoadKit
open Sem ClassFile Op Lib Jvm.Stand Jvm.Free Jvm.LawKit
section New
variable {p : Program} {l : Launch} {e : Env} {R : Room} {s : State} {m : MethodId} {args : Array Value} {below : List Frame} {meth : Method} {c : Code} {T : State} {locs : List Loc} {cells slots : Nat}
theorem retI (X : Stand p l e R s m args below meth c T locs cells slots) (hx : p.tables.exec = Jvm.exec) {pc : Nat} {Ls : Array Slot} {z : Int32} {rest : List Value} (hret : meth.sig.returnType = some .int) (hd : decode c.code pc = .ok (.ireturn, 1)) {fs : List Frame}
    (hl : ∀ (f : JFrame) (acts : List Action), f.method = m → f.locked = none → f.entered = [] → (doReturn e (T.setTop f) acts (some (.int z))).1 = T.setFrames fs) : Steps p.tables e below (T.setTop (mkF m pc Ls (.int z :: rest))) (T.setFrames fs) := by
  have hm' : T.vm.method? m = some meth := X.method'
  have hn : narrow .int (.int z) = .int z := rfl
  show Steps p.tables e below (T.setTop { method := m, pc := pc, locals := Ls, stack := _ :: rest, locked := none }) _
  jvm_step X.here [X.here.top, hx, hd, hm', hret, hn]
  first | (intro acts; rw [hl _ acts rfl rfl rfl]) | rw [hl _ _ rfl rfl rfl]
  exact Steps.refl _
end New
end Jvm.RoadKit
namespace Jvm.Pilot.@@N@@
open Jvm Jvm.ClassFile Sem Op Lib Jvm.Free Jvm.Stand Jvm.LawKit Jvm.RoadKit Bundle Jvm.Pilot.@@N@@.Jvm.D
theorem own_w {a0 : Array Value} {Z : State} (hw : ∀ d ∈ tables_1, d.before a0 Z = true) (k : Nat) {d : Jvm.Cond} (h : tables_1[k]? = some d := by rfl) : d.before a0 Z = true := hw _ (List.mem_of_getElem? h)
abbrev oI (x : Int32) : Slot := .val (.int x)
abbrev oR (a : Addr) : Slot := .val (.ref a)
abbrev oJ (x : Int64) : Slot := .val (.long x)
abbrev oD (x : UInt64) : Slot := .val (.double x)
/-- from the state A the run comes to an end of which Q holds -/
def own_Go (p : Program) (e : Env) (below : List Frame) (Q : Outcome → State → Prop) (A : State) : Prop := ∃ s₂ o, Steps p.tables e below A s₂ ∧ s₂.status = .running ∧ Ended s₂ below o ∧ Q o s₂
theorem own_via {p : Program} {e : Env} {below : List Frame} {Q : Outcome → State → Prop} {A B : State} (h : ∀ t, Steps p.tables e below B t → Steps p.tables e below A t) (g : own_Go p e below Q B) : own_Go p e below Q A := by
  obtain ⟨s₂, o, h1, h2⟩ := g
  exact ⟨s₂, o, h _ h1, h2⟩
theorem own_tr {p : Program} {e : Env} {below : List Frame} {Q : Outcome → State → Prop} {A B : State} (h : Steps p.tables e below A B) (g : own_Go p e below Q B) : own_Go p e below Q A := by
  obtain ⟨s₂, o, h1, h2⟩ := g
  exact ⟨s₂, o, h.trans h1, h2⟩
/-- from the state A the run comes to a state B of which Φ holds -/
def own_Pc (p : Program) (e : Env) (below : List Frame) (Φ : State → Prop) (A : State) : Prop := ∃ B, (∀ t, Steps p.tables e below B t → Steps p.tables e below A t) ∧ Φ B
theorem own_pvia {p : Program} {e : Env} {below : List Frame} {Φ : State → Prop} {A B : State} (h : ∀ t, Steps p.tables e below B t → Steps p.tables e below A t) (g : own_Pc p e below Φ B) : own_Pc p e below Φ A := by
  obtain ⟨B', h1, h2⟩ := g
  exact ⟨B', fun t k => h t (h1 t k), h2⟩
theorem own_ptr {p : Program} {e : Env} {below : List Frame} {Φ : State → Prop} {A B : State} (h : Steps p.tables e below A B) (g : own_Pc p e below Φ B) : own_Pc p e below Φ A := own_pvia (fun t k => h.trans k) g
theorem own_start {p : Program} {e : Env} {below : List Frame} {Q : Outcome → State → Prop} {A : State} (h : own_Go p e below Q A) : ∃ s₂ o, Steps p.tables e below A s₂ ∧ s₂.status = .running ∧ Ended s₂ below o ∧ Q o s₂ := h
def f1 (p0 : Int32) : Int32 := (if p0 = (0 : Int32) then (-2147483648 : Int32) else (if p0 = (1 : Int32) then (0 : Int32) else (if p0 = (2 : Int32) then (9 : Int32) else (if p0 = (3 : Int32) then (13 : Int32) else (if p0 = (4 : Int32) then (32 : Int32) else (if p0 = (5 : Int32) then (55295 : Int32) else (if p0 = (6 : Int32) then (55296 : Int32) else (if p0 = (7 : Int32) then (57343 : Int32) else (if p0 = (8 : Int32) then (57344 : Int32) else (if p0 = (9 : Int32) then (65533 : Int32) else (if p0 = (10 : Int32) then (65535 : Int32) else (if p0 = (11 : Int32) then (65536 : Int32) else (if p0 = (12 : Int32) then (1114111 : Int32) else (if p0 = (13 : Int32) then (1114112 : Int32) else (if p0 = (14 : Int32) then (2147483647 : Int32) else (31 : Int32))))))))))))))))
theorem d1_0 : decode method_3_code 0 = .ok (.iload_n 0, 1) := by decide +kernel
theorem d1_1 : decode method_3_code 1 = .ok (.ifCond .ne 6, 3) := by decide +kernel
theorem d1_4 : decode method_3_code 4 = .ok (.ldc 24, 2) := by decide +kernel
theorem d1_6 : decode method_3_code 6 = .ok (.ireturn, 1) := by decide +kernel
theorem d1_7 : decode method_3_code 7 = .ok (.iload_n 0, 1) := by decide +kernel
theorem d1_8 : decode method_3_code 8 = .ok (.iconst 1, 1) := by decide +kernel
theorem d1_9 : decode method_3_code 9 = .ok (.if_icmp .ne 5, 3) := by decide +kernel
theorem d1_12 : decode method_3_code 12 = .ok (.iconst 0, 1) := by decide +kernel
theorem d1_13 : decode method_3_code 13 = .ok (.ireturn, 1) := by decide +kernel
theorem d1_14 : decode method_3_code 14 = .ok (.iload_n 0, 1) := by decide +kernel
theorem d1_15 : decode method_3_code 15 = .ok (.iconst 2, 1) := by decide +kernel
theorem d1_16 : decode method_3_code 16 = .ok (.if_icmp .ne 6, 3) := by decide +kernel
theorem d1_19 : decode method_3_code 19 = .ok (.bipush 9, 2) := by decide +kernel
theorem d1_21 : decode method_3_code 21 = .ok (.ireturn, 1) := by decide +kernel
theorem d1_22 : decode method_3_code 22 = .ok (.iload_n 0, 1) := by decide +kernel
theorem d1_23 : decode method_3_code 23 = .ok (.iconst 3, 1) := by decide +kernel
theorem d1_24 : decode method_3_code 24 = .ok (.if_icmp .ne 6, 3) := by decide +kernel
theorem d1_27 : decode method_3_code 27 = .ok (.bipush 13, 2) := by decide +kernel
theorem d1_29 : decode method_3_code 29 = .ok (.ireturn, 1) := by decide +kernel
theorem d1_30 : decode method_3_code 30 = .ok (.iload_n 0, 1) := by decide +kernel
theorem d1_31 : decode method_3_code 31 = .ok (.iconst 4, 1) := by decide +kernel
theorem d1_32 : decode method_3_code 32 = .ok (.if_icmp .ne 6, 3) := by decide +kernel
theorem d1_35 : decode method_3_code 35 = .ok (.bipush 32, 2) := by decide +kernel
theorem d1_37 : decode method_3_code 37 = .ok (.ireturn, 1) := by decide +kernel
theorem d1_38 : decode method_3_code 38 = .ok (.iload_n 0, 1) := by decide +kernel
theorem d1_39 : decode method_3_code 39 = .ok (.iconst 5, 1) := by decide +kernel
theorem d1_40 : decode method_3_code 40 = .ok (.if_icmp .ne 6, 3) := by decide +kernel
theorem d1_43 : decode method_3_code 43 = .ok (.ldc 25, 2) := by decide +kernel
theorem d1_45 : decode method_3_code 45 = .ok (.ireturn, 1) := by decide +kernel
theorem d1_46 : decode method_3_code 46 = .ok (.iload_n 0, 1) := by decide +kernel
theorem d1_47 : decode method_3_code 47 = .ok (.bipush 6, 2) := by decide +kernel
theorem d1_49 : decode method_3_code 49 = .ok (.if_icmp .ne 6, 3) := by decide +kernel
theorem d1_52 : decode method_3_code 52 = .ok (.ldc 26, 2) := by decide +kernel
theorem d1_54 : decode method_3_code 54 = .ok (.ireturn, 1) := by decide +kernel
theorem d1_55 : decode method_3_code 55 = .ok (.iload_n 0, 1) := by decide +kernel
theorem d1_56 : decode method_3_code 56 = .ok (.bipush 7, 2) := by decide +kernel
theorem d1_58 : decode method_3_code 58 = .ok (.if_icmp .ne 6, 3) := by decide +kernel
theorem d1_61 : decode method_3_code 61 = .ok (.ldc 27, 2) := by decide +kernel
theorem d1_63 : decode method_3_code 63 = .ok (.ireturn, 1) := by decide +kernel
theorem d1_64 : decode method_3_code 64 = .ok (.iload_n 0, 1) := by decide +kernel
theorem d1_65 : decode method_3_code 65 = .ok (.bipush 8, 2) := by decide +kernel
theorem d1_67 : decode method_3_code 67 = .ok (.if_icmp .ne 6, 3) := by decide +kernel
theorem d1_70 : decode method_3_code 70 = .ok (.ldc 28, 2) := by decide +kernel
theorem d1_72 : decode method_3_code 72 = .ok (.ireturn, 1) := by decide +kernel
theorem d1_73 : decode method_3_code 73 = .ok (.iload_n 0, 1) := by decide +kernel
theorem d1_74 : decode method_3_code 74 = .ok (.bipush 9, 2) := by decide +kernel
theorem d1_76 : decode method_3_code 76 = .ok (.if_icmp .ne 6, 3) := by decide +kernel
theorem d1_79 : decode method_3_code 79 = .ok (.ldc 29, 2) := by decide +kernel
theorem d1_81 : decode method_3_code 81 = .ok (.ireturn, 1) := by decide +kernel
theorem d1_82 : decode method_3_code 82 = .ok (.iload_n 0, 1) := by decide +kernel
theorem d1_83 : decode method_3_code 83 = .ok (.bipush 10, 2) := by decide +kernel
theorem d1_85 : decode method_3_code 85 = .ok (.if_icmp .ne 6, 3) := by decide +kernel
theorem d1_88 : decode method_3_code 88 = .ok (.ldc 30, 2) := by decide +kernel
theorem d1_90 : decode method_3_code 90 = .ok (.ireturn, 1) := by decide +kernel
theorem d1_91 : decode method_3_code 91 = .ok (.iload_n 0, 1) := by decide +kernel
theorem d1_92 : decode method_3_code 92 = .ok (.bipush 11, 2) := by decide +kernel
theorem d1_94 : decode method_3_code 94 = .ok (.if_icmp .ne 6, 3) := by decide +kernel
theorem d1_97 : decode method_3_code 97 = .ok (.ldc 31, 2) := by decide +kernel
theorem d1_99 : decode method_3_code 99 = .ok (.ireturn, 1) := by decide +kernel
theorem d1_100 : decode method_3_code 100 = .ok (.iload_n 0, 1) := by decide +kernel
theorem d1_101 : decode method_3_code 101 = .ok (.bipush 12, 2) := by decide +kernel
theorem d1_103 : decode method_3_code 103 = .ok (.if_icmp .ne 6, 3) := by decide +kernel
theorem d1_106 : decode method_3_code 106 = .ok (.ldc 32, 2) := by decide +kernel
theorem d1_108 : decode method_3_code 108 = .ok (.ireturn, 1) := by decide +kernel
theorem d1_109 : decode method_3_code 109 = .ok (.iload_n 0, 1) := by decide +kernel
theorem d1_110 : decode method_3_code 110 = .ok (.bipush 13, 2) := by decide +kernel
theorem d1_112 : decode method_3_code 112 = .ok (.if_icmp .ne 6, 3) := by decide +kernel
theorem d1_115 : decode method_3_code 115 = .ok (.ldc 33, 2) := by decide +kernel
theorem d1_117 : decode method_3_code 117 = .ok (.ireturn, 1) := by decide +kernel
theorem d1_118 : decode method_3_code 118 = .ok (.iload_n 0, 1) := by decide +kernel
theorem d1_119 : decode method_3_code 119 = .ok (.bipush 14, 2) := by decide +kernel
theorem d1_121 : decode method_3_code 121 = .ok (.if_icmp .ne 6, 3) := by decide +kernel
theorem d1_124 : decode method_3_code 124 = .ok (.ldc 34, 2) := by decide +kernel
theorem d1_126 : decode method_3_code 126 = .ok (.ireturn, 1) := by decide +kernel
theorem d1_127 : decode method_3_code 127 = .ok (.bipush 31, 2) := by decide +kernel
theorem d1_129 : decode method_3_code 129 = .ok (.ireturn, 1) := by decide +kernel
theorem pn_1 : plainName "com/example/push_to_tree/pushtotree/XmlCharsIsCharPinLaw" = true := by first | (simp [plainName, overriddenIn]; done) | decide +kernel
theorem ef_rm1 (m : MethodId) (q0 : Int32) : entryFrame m #[(.int q0)] 1 = mkF m 0 #[oI q0] [] := by first | (simp [entryFrame, mkF, argsToLocals, Value.category]; done) | rfl
def Q1 (Z : State) (p0 : Int32) (r : Int32) (h0 : Heap) (n0 : Nat) (v : Option Value) (h : Heap) (L : List Loc) : Prop := v = some (.int r) ∧ Fr n0 L ∧ h = h0
set_option maxRecDepth 65536 in
set_option maxHeartbeats 40000000 in
theorem rm1 (l : Launch) (Z : State) (a0 : Array Value) (hw : ∀ d ∈ tables_1, d.before a0 Z = true) (ws : List Jvm.Cond) (p0 : Int32) (r : Int32) (h0 : Heap) (n0 : Nat) (Z0 : n0 ≤ h0.size) (hr0 : (f1 p0) = r) :
    MetFree l (⟨"com/example/push_to_tree/pushtotree/XmlCharsIsCharPinLaw", "base", "(I)I"⟩ : MethodName) (head1 (Jvm.Cond.code (⟨"com/example/push_to_tree/pushtotree/XmlCharsIsCharPinLaw", "base", "(I)I"⟩ : MethodName) method_3_code 1 (some .int) :: ws) ({ frames := 0, cells := 0, slots := 0, locals := 0 } : Room)) (fun a U => a = #[(.int p0)] ∧ Z.Warmed39 U.vm ∧ U.heap = h0) (fun _ _ _ _ _ => True) (fun _ U o U' => ∃ v L, o = .returned v ∧ Q1 Z p0 r h0 n0 v U'.heap L ∧ FrameEnd U o U' L ({ frames := 0, cells := 0, slots := 0, locals := 0 } : Room).cells ({ frames := 0, cells := 0, slots := 0, locals := 0 } : Room).slots) := by
  refine MetFree.of_bodySF (plainFor_of_name pn_1) hisR ?_
  intro p e s m args below meth c s₁ Bd hml0 hP hK
  obtain ⟨rfl, hZ, hh⟩ := hP
  have hx := Bd.exec
  have hby := Bd.bytes
  have hml : c.maxLocals = 1 := hml0
  have hown : s.vm.findClass "com/example/push_to_tree/pushtotree/XmlCharsIsCharPinLaw" = some m.cls := findClass_of_methodNamed Bd.named
  have hnm := (name_of_methodNamed Bd.named Bd.method).1
  have X0 : Stand p l e ({ frames := 0, cells := 0, slots := 0, locals := 0 } : Room) s m #[(.int p0)] below meth c s₁ [] 0 0 := Stand.of_body Bd
  have e0 : s₁.heap = h0 := by rw [← hh, Bd.state]; rfl
  have N0 := Fr.nil n0
  refine own_start ?_
  refine own_via (fun t k => castTop (ef_rm1 m p0) k) ?_
  show own_Go p e below _ (s₁.setTop (mkF m 0 #[oI p0] []))
  refine own_via (fun t k => XS.iloadN X0.here hx rfl (hb hby d1_0) rfl k) ?_
  show own_Go p e below _ (s₁.setTop (mkF m 1 #[oI p0] [(.int p0)]))
  by_cases hc1_1 : p0 = (0 : Int32)
  · refine own_via (fun t k => XS.ifNo X0.here hx rfl (hb hby d1_1) rfl ((if0 _ _).trans (teq hc1_1).2) k) ?_
    show own_Go p e below _ (s₁.setTop (mkF m 4 #[oI p0] []))
    refine own_via (fun t k => X0.ldcInt hx hown (mvT hZ (own_w hw 21)) (g := (mkF m 4 #[oI p0] [])) rfl (hb hby d1_4) t k) ?_
    show own_Go p e below _ (s₁.setTop (mkF m 6 #[oI p0] [(.int (-2147483648 : Int32))]))
    have hv : (f1 p0) = (-2147483648 : Int32) := by unfold f1; rw [if_pos hc1_1]
    obtain ⟨fs, hr, hrun, hended, hW, hsame⟩ := X0.leave (v := some (.int (-2147483648 : Int32))) (fun h => by rw [Bd.returns] at h; cases h)
    refine ⟨_, _, retI X0 hx Bd.returns (hb hby d1_6) hr, hrun, hended, _, _, rfl, ?_, ⟨_, rfl⟩, hW, hsame.mono (by decide) (by decide)⟩
    show Q1 Z p0 r h0 n0 _ s₁.heap _
    rw [e0]
    exact ⟨by rw [← hr0, hv], N0, rfl⟩
  · refine own_via (fun t k => XS.ifYes X0.here hx rfl (pc0 := 1) (pc' := 7) rfl (hb hby d1_1) rfl ((if0 _ _).trans (feq hc1_1).2) (by decide) (by decide) k) ?_
    show own_Go p e below _ (s₁.setTop (mkF m 7 #[oI p0] []))
    refine own_via (fun t k => XS.iloadN X0.here hx rfl (hb hby d1_7) rfl k) ?_
    show own_Go p e below _ (s₁.setTop (mkF m 8 #[oI p0] [(.int p0)]))
    refine own_via (fun t k => XS.iconst X0.here hx rfl (hb hby d1_8) k) ?_
    show own_Go p e below _ (s₁.setTop (mkF m 9 #[oI p0] [(.int (1 : Int32)), (.int p0)]))
    by_cases hc9_3 : p0 = (1 : Int32)
    · refine own_via (fun t k => XS.icmpNo X0.here hx rfl (hb hby d1_9) rfl (teq hc9_3).2 k) ?_
      show own_Go p e below _ (s₁.setTop (mkF m 12 #[oI p0] []))
      refine own_via (fun t k => XS.iconst X0.here hx rfl (hb hby d1_12) k) ?_
      show own_Go p e below _ (s₁.setTop (mkF m 13 #[oI p0] [(.int (0 : Int32))]))
      have hv : (f1 p0) = (0 : Int32) := by unfold f1; rw [if_neg hc1_1, if_pos hc9_3]
      obtain ⟨fs, hr, hrun, hended, hW, hsame⟩ := X0.leave (v := some (.int (0 : Int32))) (fun h => by rw [Bd.returns] at h; cases h)
      refine ⟨_, _, retI X0 hx Bd.returns (hb hby d1_13) hr, hrun, hended, _, _, rfl, ?_, ⟨_, rfl⟩, hW, hsame.mono (by decide) (by decide)⟩
      show Q1 Z p0 r h0 n0 _ s₁.heap _
      rw [e0]
      exact ⟨by rw [← hr0, hv], N0, rfl⟩
    · refine own_via (fun t k => XS.icmpYes X0.here hx rfl (pc0 := 9) (pc' := 14) rfl (hb hby d1_9) rfl (feq hc9_3).2 (by decide) (by decide) k) ?_
      show own_Go p e below _ (s₁.setTop (mkF m 14 #[oI p0] []))
      refine own_via (fun t k => XS.iloadN X0.here hx rfl (hb hby d1_14) rfl k) ?_
      show own_Go p e below _ (s₁.setTop (mkF m 15 #[oI p0] [(.int p0)]))
      refine own_via (fun t k => XS.iconst X0.here hx rfl (hb hby d1_15) k) ?_
      show own_Go p e below _ (s₁.setTop (mkF m 16 #[oI p0] [(.int (2 : Int32)), (.int p0)]))
      by_cases hc16_5 : p0 = (2 : Int32)
      · refine own_via (fun t k => XS.icmpNo X0.here hx rfl (hb hby d1_16) rfl (teq hc16_5).2 k) ?_
        show own_Go p e below _ (s₁.setTop (mkF m 19 #[oI p0] []))
        refine own_via (fun t k => XS.bipush X0.here hx rfl (hb hby d1_19) k) ?_
        show own_Go p e below _ (s₁.setTop (mkF m 21 #[oI p0] [(.int (9 : Int32))]))
        have hv : (f1 p0) = (9 : Int32) := by unfold f1; rw [if_neg hc1_1, if_neg hc9_3, if_pos hc16_5]
        obtain ⟨fs, hr, hrun, hended, hW, hsame⟩ := X0.leave (v := some (.int (9 : Int32))) (fun h => by rw [Bd.returns] at h; cases h)
        refine ⟨_, _, retI X0 hx Bd.returns (hb hby d1_21) hr, hrun, hended, _, _, rfl, ?_, ⟨_, rfl⟩, hW, hsame.mono (by decide) (by decide)⟩
        show Q1 Z p0 r h0 n0 _ s₁.heap _
        rw [e0]
        exact ⟨by rw [← hr0, hv], N0, rfl⟩
      · refine own_via (fun t k => XS.icmpYes X0.here hx rfl (pc0 := 16) (pc' := 22) rfl (hb hby d1_16) rfl (feq hc16_5).2 (by decide) (by decide) k) ?_
        show own_Go p e below _ (s₁.setTop (mkF m 22 #[oI p0] []))
        refine own_via (fun t k => XS.iloadN X0.here hx rfl (hb hby d1_22) rfl k) ?_
        show own_Go p e below _ (s₁.setTop (mkF m 23 #[oI p0] [(.int p0)]))
        refine own_via (fun t k => XS.iconst X0.here hx rfl (hb hby d1_23) k) ?_
        show own_Go p e below _ (s₁.setTop (mkF m 24 #[oI p0] [(.int (3 : Int32)), (.int p0)]))
        by_cases hc24_7 : p0 = (3 : Int32)
        · refine own_via (fun t k => XS.icmpNo X0.here hx rfl (hb hby d1_24) rfl (teq hc24_7).2 k) ?_
          show own_Go p e below _ (s₁.setTop (mkF m 27 #[oI p0] []))
          refine own_via (fun t k => XS.bipush X0.here hx rfl (hb hby d1_27) k) ?_
          show own_Go p e below _ (s₁.setTop (mkF m 29 #[oI p0] [(.int (13 : Int32))]))
          have hv : (f1 p0) = (13 : Int32) := by unfold f1; rw [if_neg hc1_1, if_neg hc9_3, if_neg hc16_5, if_pos hc24_7]
          obtain ⟨fs, hr, hrun, hended, hW, hsame⟩ := X0.leave (v := some (.int (13 : Int32))) (fun h => by rw [Bd.returns] at h; cases h)
          refine ⟨_, _, retI X0 hx Bd.returns (hb hby d1_29) hr, hrun, hended, _, _, rfl, ?_, ⟨_, rfl⟩, hW, hsame.mono (by decide) (by decide)⟩
          show Q1 Z p0 r h0 n0 _ s₁.heap _
          rw [e0]
          exact ⟨by rw [← hr0, hv], N0, rfl⟩
        · refine own_via (fun t k => XS.icmpYes X0.here hx rfl (pc0 := 24) (pc' := 30) rfl (hb hby d1_24) rfl (feq hc24_7).2 (by decide) (by decide) k) ?_
          show own_Go p e below _ (s₁.setTop (mkF m 30 #[oI p0] []))
          refine own_via (fun t k => XS.iloadN X0.here hx rfl (hb hby d1_30) rfl k) ?_
          show own_Go p e below _ (s₁.setTop (mkF m 31 #[oI p0] [(.int p0)]))
          refine own_via (fun t k => XS.iconst X0.here hx rfl (hb hby d1_31) k) ?_
          show own_Go p e below _ (s₁.setTop (mkF m 32 #[oI p0] [(.int (4 : Int32)), (.int p0)]))
          by_cases hc32_9 : p0 = (4 : Int32)
          · refine own_via (fun t k => XS.icmpNo X0.here hx rfl (hb hby d1_32) rfl (teq hc32_9).2 k) ?_
            show own_Go p e below _ (s₁.setTop (mkF m 35 #[oI p0] []))
            refine own_via (fun t k => XS.bipush X0.here hx rfl (hb hby d1_35) k) ?_
            show own_Go p e below _ (s₁.setTop (mkF m 37 #[oI p0] [(.int (32 : Int32))]))
            have hv : (f1 p0) = (32 : Int32) := by unfold f1; rw [if_neg hc1_1, if_neg hc9_3, if_neg hc16_5, if_neg hc24_7, if_pos hc32_9]
            obtain ⟨fs, hr, hrun, hended, hW, hsame⟩ := X0.leave (v := some (.int (32 : Int32))) (fun h => by rw [Bd.returns] at h; cases h)
            refine ⟨_, _, retI X0 hx Bd.returns (hb hby d1_37) hr, hrun, hended, _, _, rfl, ?_, ⟨_, rfl⟩, hW, hsame.mono (by decide) (by decide)⟩
            show Q1 Z p0 r h0 n0 _ s₁.heap _
            rw [e0]
            exact ⟨by rw [← hr0, hv], N0, rfl⟩
          · refine own_via (fun t k => XS.icmpYes X0.here hx rfl (pc0 := 32) (pc' := 38) rfl (hb hby d1_32) rfl (feq hc32_9).2 (by decide) (by decide) k) ?_
            show own_Go p e below _ (s₁.setTop (mkF m 38 #[oI p0] []))
            refine own_via (fun t k => XS.iloadN X0.here hx rfl (hb hby d1_38) rfl k) ?_
            show own_Go p e below _ (s₁.setTop (mkF m 39 #[oI p0] [(.int p0)]))
            refine own_via (fun t k => XS.iconst X0.here hx rfl (hb hby d1_39) k) ?_
            show own_Go p e below _ (s₁.setTop (mkF m 40 #[oI p0] [(.int (5 : Int32)), (.int p0)]))
            by_cases hc40_11 : p0 = (5 : Int32)
            · refine own_via (fun t k => XS.icmpNo X0.here hx rfl (hb hby d1_40) rfl (teq hc40_11).2 k) ?_
              show own_Go p e below _ (s₁.setTop (mkF m 43 #[oI p0] []))
              refine own_via (fun t k => X0.ldcInt hx hown (mvT hZ (own_w hw 23)) (g := (mkF m 43 #[oI p0] [])) rfl (hb hby d1_43) t k) ?_
              show own_Go p e below _ (s₁.setTop (mkF m 45 #[oI p0] [(.int (55295 : Int32))]))
              have hv : (f1 p0) = (55295 : Int32) := by unfold f1; rw [if_neg hc1_1, if_neg hc9_3, if_neg hc16_5, if_neg hc24_7, if_neg hc32_9, if_pos hc40_11]
              obtain ⟨fs, hr, hrun, hended, hW, hsame⟩ := X0.leave (v := some (.int (55295 : Int32))) (fun h => by rw [Bd.returns] at h; cases h)
              refine ⟨_, _, retI X0 hx Bd.returns (hb hby d1_45) hr, hrun, hended, _, _, rfl, ?_, ⟨_, rfl⟩, hW, hsame.mono (by decide) (by decide)⟩
              show Q1 Z p0 r h0 n0 _ s₁.heap _
              rw [e0]
              exact ⟨by rw [← hr0, hv], N0, rfl⟩
            · refine own_via (fun t k => XS.icmpYes X0.here hx rfl (pc0 := 40) (pc' := 46) rfl (hb hby d1_40) rfl (feq hc40_11).2 (by decide) (by decide) k) ?_
              show own_Go p e below _ (s₁.setTop (mkF m 46 #[oI p0] []))
              refine own_via (fun t k => XS.iloadN X0.here hx rfl (hb hby d1_46) rfl k) ?_
              show own_Go p e below _ (s₁.setTop (mkF m 47 #[oI p0] [(.int p0)]))
              refine own_via (fun t k => XS.bipush X0.here hx rfl (hb hby d1_47) k) ?_
              show own_Go p e below _ (s₁.setTop (mkF m 49 #[oI p0] [(.int (6 : Int32)), (.int p0)]))
              by_cases hc49_13 : p0 = (6 : Int32)
              · refine own_via (fun t k => XS.icmpNo X0.here hx rfl (hb hby d1_49) rfl (teq hc49_13).2 k) ?_
                show own_Go p e below _ (s₁.setTop (mkF m 52 #[oI p0] []))
                refine own_via (fun t k => X0.ldcInt hx hown (mvT hZ (own_w hw 17)) (g := (mkF m 52 #[oI p0] [])) rfl (hb hby d1_52) t k) ?_
                show own_Go p e below _ (s₁.setTop (mkF m 54 #[oI p0] [(.int (55296 : Int32))]))
                have hv : (f1 p0) = (55296 : Int32) := by unfold f1; rw [if_neg hc1_1, if_neg hc9_3, if_neg hc16_5, if_neg hc24_7, if_neg hc32_9, if_neg hc40_11, if_pos hc49_13]
                obtain ⟨fs, hr, hrun, hended, hW, hsame⟩ := X0.leave (v := some (.int (55296 : Int32))) (fun h => by rw [Bd.returns] at h; cases h)
                refine ⟨_, _, retI X0 hx Bd.returns (hb hby d1_54) hr, hrun, hended, _, _, rfl, ?_, ⟨_, rfl⟩, hW, hsame.mono (by decide) (by decide)⟩
                show Q1 Z p0 r h0 n0 _ s₁.heap _
                rw [e0]
                exact ⟨by rw [← hr0, hv], N0, rfl⟩
              · refine own_via (fun t k => XS.icmpYes X0.here hx rfl (pc0 := 49) (pc' := 55) rfl (hb hby d1_49) rfl (feq hc49_13).2 (by decide) (by decide) k) ?_
                show own_Go p e below _ (s₁.setTop (mkF m 55 #[oI p0] []))
                refine own_via (fun t k => XS.iloadN X0.here hx rfl (hb hby d1_55) rfl k) ?_
                show own_Go p e below _ (s₁.setTop (mkF m 56 #[oI p0] [(.int p0)]))
                refine own_via (fun t k => XS.bipush X0.here hx rfl (hb hby d1_56) k) ?_
                show own_Go p e below _ (s₁.setTop (mkF m 58 #[oI p0] [(.int (7 : Int32)), (.int p0)]))
                by_cases hc58_15 : p0 = (7 : Int32)
                · refine own_via (fun t k => XS.icmpNo X0.here hx rfl (hb hby d1_58) rfl (teq hc58_15).2 k) ?_
                  show own_Go p e below _ (s₁.setTop (mkF m 61 #[oI p0] []))
                  refine own_via (fun t k => X0.ldcInt hx hown (mvT hZ (own_w hw 18)) (g := (mkF m 61 #[oI p0] [])) rfl (hb hby d1_61) t k) ?_
                  show own_Go p e below _ (s₁.setTop (mkF m 63 #[oI p0] [(.int (57343 : Int32))]))
                  have hv : (f1 p0) = (57343 : Int32) := by unfold f1; rw [if_neg hc1_1, if_neg hc9_3, if_neg hc16_5, if_neg hc24_7, if_neg hc32_9, if_neg hc40_11, if_neg hc49_13, if_pos hc58_15]
                  obtain ⟨fs, hr, hrun, hended, hW, hsame⟩ := X0.leave (v := some (.int (57343 : Int32))) (fun h => by rw [Bd.returns] at h; cases h)
                  refine ⟨_, _, retI X0 hx Bd.returns (hb hby d1_63) hr, hrun, hended, _, _, rfl, ?_, ⟨_, rfl⟩, hW, hsame.mono (by decide) (by decide)⟩
                  show Q1 Z p0 r h0 n0 _ s₁.heap _
                  rw [e0]
                  exact ⟨by rw [← hr0, hv], N0, rfl⟩
                · refine own_via (fun t k => XS.icmpYes X0.here hx rfl (pc0 := 58) (pc' := 64) rfl (hb hby d1_58) rfl (feq hc58_15).2 (by decide) (by decide) k) ?_
                  show own_Go p e below _ (s₁.setTop (mkF m 64 #[oI p0] []))
                  refine own_via (fun t k => XS.iloadN X0.here hx rfl (hb hby d1_64) rfl k) ?_
                  show own_Go p e below _ (s₁.setTop (mkF m 65 #[oI p0] [(.int p0)]))
                  refine own_via (fun t k => XS.bipush X0.here hx rfl (hb hby d1_65) k) ?_
                  show own_Go p e below _ (s₁.setTop (mkF m 67 #[oI p0] [(.int (8 : Int32)), (.int p0)]))
                  by_cases hc67_17 : p0 = (8 : Int32)
                  · refine own_via (fun t k => XS.icmpNo X0.here hx rfl (hb hby d1_67) rfl (teq hc67_17).2 k) ?_
                    show own_Go p e below _ (s₁.setTop (mkF m 70 #[oI p0] []))
                    refine own_via (fun t k => X0.ldcInt hx hown (mvT hZ (own_w hw 26)) (g := (mkF m 70 #[oI p0] [])) rfl (hb hby d1_70) t k) ?_
                    show own_Go p e below _ (s₁.setTop (mkF m 72 #[oI p0] [(.int (57344 : Int32))]))
                    have hv : (f1 p0) = (57344 : Int32) := by unfold f1; rw [if_neg hc1_1, if_neg hc9_3, if_neg hc16_5, if_neg hc24_7, if_neg hc32_9, if_neg hc40_11, if_neg hc49_13, if_neg hc58_15, if_pos hc67_17]
                    obtain ⟨fs, hr, hrun, hended, hW, hsame⟩ := X0.leave (v := some (.int (57344 : Int32))) (fun h => by rw [Bd.returns] at h; cases h)
                    refine ⟨_, _, retI X0 hx Bd.returns (hb hby d1_72) hr, hrun, hended, _, _, rfl, ?_, ⟨_, rfl⟩, hW, hsame.mono (by decide) (by decide)⟩
                    show Q1 Z p0 r h0 n0 _ s₁.heap _
                    rw [e0]
                    exact ⟨by rw [← hr0, hv], N0, rfl⟩
                  · refine own_via (fun t k => XS.icmpYes X0.here hx rfl (pc0 := 67) (pc' := 73) rfl (hb hby d1_67) rfl (feq hc67_17).2 (by decide) (by decide) k) ?_
                    show own_Go p e below _ (s₁.setTop (mkF m 73 #[oI p0] []))
                    refine own_via (fun t k => XS.iloadN X0.here hx rfl (hb hby d1_73) rfl k) ?_
                    show own_Go p e below _ (s₁.setTop (mkF m 74 #[oI p0] [(.int p0)]))
                    refine own_via (fun t k => XS.bipush X0.here hx rfl (hb hby d1_74) k) ?_
                    show own_Go p e below _ (s₁.setTop (mkF m 76 #[oI p0] [(.int (9 : Int32)), (.int p0)]))
                    by_cases hc76_19 : p0 = (9 : Int32)
                    · refine own_via (fun t k => XS.icmpNo X0.here hx rfl (hb hby d1_76) rfl (teq hc76_19).2 k) ?_
                      show own_Go p e below _ (s₁.setTop (mkF m 79 #[oI p0] []))
                      refine own_via (fun t k => X0.ldcInt hx hown (mvT hZ (own_w hw 27)) (g := (mkF m 79 #[oI p0] [])) rfl (hb hby d1_79) t k) ?_
                      show own_Go p e below _ (s₁.setTop (mkF m 81 #[oI p0] [(.int (65533 : Int32))]))
                      have hv : (f1 p0) = (65533 : Int32) := by unfold f1; rw [if_neg hc1_1, if_neg hc9_3, if_neg hc16_5, if_neg hc24_7, if_neg hc32_9, if_neg hc40_11, if_neg hc49_13, if_neg hc58_15, if_neg hc67_17, if_pos hc76_19]
                      obtain ⟨fs, hr, hrun, hended, hW, hsame⟩ := X0.leave (v := some (.int (65533 : Int32))) (fun h => by rw [Bd.returns] at h; cases h)
                      refine ⟨_, _, retI X0 hx Bd.returns (hb hby d1_81) hr, hrun, hended, _, _, rfl, ?_, ⟨_, rfl⟩, hW, hsame.mono (by decide) (by decide)⟩
                      show Q1 Z p0 r h0 n0 _ s₁.heap _
                      rw [e0]
                      exact ⟨by rw [← hr0, hv], N0, rfl⟩
                    · refine own_via (fun t k => XS.icmpYes X0.here hx rfl (pc0 := 76) (pc' := 82) rfl (hb hby d1_76) rfl (feq hc76_19).2 (by decide) (by decide) k) ?_
                      show own_Go p e below _ (s₁.setTop (mkF m 82 #[oI p0] []))
                      refine own_via (fun t k => XS.iloadN X0.here hx rfl (hb hby d1_82) rfl k) ?_
                      show own_Go p e below _ (s₁.setTop (mkF m 83 #[oI p0] [(.int p0)]))
                      refine own_via (fun t k => XS.bipush X0.here hx rfl (hb hby d1_83) k) ?_
                      show own_Go p e below _ (s₁.setTop (mkF m 85 #[oI p0] [(.int (10 : Int32)), (.int p0)]))
                      by_cases hc85_21 : p0 = (10 : Int32)
                      · refine own_via (fun t k => XS.icmpNo X0.here hx rfl (hb hby d1_85) rfl (teq hc85_21).2 k) ?_
                        show own_Go p e below _ (s₁.setTop (mkF m 88 #[oI p0] []))
                        refine own_via (fun t k => X0.ldcInt hx hown (mvT hZ (own_w hw 20)) (g := (mkF m 88 #[oI p0] [])) rfl (hb hby d1_88) t k) ?_
                        show own_Go p e below _ (s₁.setTop (mkF m 90 #[oI p0] [(.int (65535 : Int32))]))
                        have hv : (f1 p0) = (65535 : Int32) := by unfold f1; rw [if_neg hc1_1, if_neg hc9_3, if_neg hc16_5, if_neg hc24_7, if_neg hc32_9, if_neg hc40_11, if_neg hc49_13, if_neg hc58_15, if_neg hc67_17, if_neg hc76_19, if_pos hc85_21]
                        obtain ⟨fs, hr, hrun, hended, hW, hsame⟩ := X0.leave (v := some (.int (65535 : Int32))) (fun h => by rw [Bd.returns] at h; cases h)
                        refine ⟨_, _, retI X0 hx Bd.returns (hb hby d1_90) hr, hrun, hended, _, _, rfl, ?_, ⟨_, rfl⟩, hW, hsame.mono (by decide) (by decide)⟩
                        show Q1 Z p0 r h0 n0 _ s₁.heap _
                        rw [e0]
                        exact ⟨by rw [← hr0, hv], N0, rfl⟩
                      · refine own_via (fun t k => XS.icmpYes X0.here hx rfl (pc0 := 85) (pc' := 91) rfl (hb hby d1_85) rfl (feq hc85_21).2 (by decide) (by decide) k) ?_
                        show own_Go p e below _ (s₁.setTop (mkF m 91 #[oI p0] []))
                        refine own_via (fun t k => XS.iloadN X0.here hx rfl (hb hby d1_91) rfl k) ?_
                        show own_Go p e below _ (s₁.setTop (mkF m 92 #[oI p0] [(.int p0)]))
                        refine own_via (fun t k => XS.bipush X0.here hx rfl (hb hby d1_92) k) ?_
                        show own_Go p e below _ (s₁.setTop (mkF m 94 #[oI p0] [(.int (11 : Int32)), (.int p0)]))
                        by_cases hc94_23 : p0 = (11 : Int32)
                        · refine own_via (fun t k => XS.icmpNo X0.here hx rfl (hb hby d1_94) rfl (teq hc94_23).2 k) ?_
                          show own_Go p e below _ (s₁.setTop (mkF m 97 #[oI p0] []))
                          refine own_via (fun t k => X0.ldcInt hx hown (mvT hZ (own_w hw 22)) (g := (mkF m 97 #[oI p0] [])) rfl (hb hby d1_97) t k) ?_
                          show own_Go p e below _ (s₁.setTop (mkF m 99 #[oI p0] [(.int (65536 : Int32))]))
                          have hv : (f1 p0) = (65536 : Int32) := by unfold f1; rw [if_neg hc1_1, if_neg hc9_3, if_neg hc16_5, if_neg hc24_7, if_neg hc32_9, if_neg hc40_11, if_neg hc49_13, if_neg hc58_15, if_neg hc67_17, if_neg hc76_19, if_neg hc85_21, if_pos hc94_23]
                          obtain ⟨fs, hr, hrun, hended, hW, hsame⟩ := X0.leave (v := some (.int (65536 : Int32))) (fun h => by rw [Bd.returns] at h; cases h)
                          refine ⟨_, _, retI X0 hx Bd.returns (hb hby d1_99) hr, hrun, hended, _, _, rfl, ?_, ⟨_, rfl⟩, hW, hsame.mono (by decide) (by decide)⟩
                          show Q1 Z p0 r h0 n0 _ s₁.heap _
                          rw [e0]
                          exact ⟨by rw [← hr0, hv], N0, rfl⟩
                        · refine own_via (fun t k => XS.icmpYes X0.here hx rfl (pc0 := 94) (pc' := 100) rfl (hb hby d1_94) rfl (feq hc94_23).2 (by decide) (by decide) k) ?_
                          show own_Go p e below _ (s₁.setTop (mkF m 100 #[oI p0] []))
                          refine own_via (fun t k => XS.iloadN X0.here hx rfl (hb hby d1_100) rfl k) ?_
                          show own_Go p e below _ (s₁.setTop (mkF m 101 #[oI p0] [(.int p0)]))
                          refine own_via (fun t k => XS.bipush X0.here hx rfl (hb hby d1_101) k) ?_
                          show own_Go p e below _ (s₁.setTop (mkF m 103 #[oI p0] [(.int (12 : Int32)), (.int p0)]))
                          by_cases hc103_25 : p0 = (12 : Int32)
                          · refine own_via (fun t k => XS.icmpNo X0.here hx rfl (hb hby d1_103) rfl (teq hc103_25).2 k) ?_
                            show own_Go p e below _ (s₁.setTop (mkF m 106 #[oI p0] []))
                            refine own_via (fun t k => X0.ldcInt hx hown (mvT hZ (own_w hw 11)) (g := (mkF m 106 #[oI p0] [])) rfl (hb hby d1_106) t k) ?_
                            show own_Go p e below _ (s₁.setTop (mkF m 108 #[oI p0] [(.int (1114111 : Int32))]))
                            have hv : (f1 p0) = (1114111 : Int32) := by unfold f1; rw [if_neg hc1_1, if_neg hc9_3, if_neg hc16_5, if_neg hc24_7, if_neg hc32_9, if_neg hc40_11, if_neg hc49_13, if_neg hc58_15, if_neg hc67_17, if_neg hc76_19, if_neg hc85_21, if_neg hc94_23, if_pos hc103_25]
                            obtain ⟨fs, hr, hrun, hended, hW, hsame⟩ := X0.leave (v := some (.int (1114111 : Int32))) (fun h => by rw [Bd.returns] at h; cases h)
                            refine ⟨_, _, retI X0 hx Bd.returns (hb hby d1_108) hr, hrun, hended, _, _, rfl, ?_, ⟨_, rfl⟩, hW, hsame.mono (by decide) (by decide)⟩
                            show Q1 Z p0 r h0 n0 _ s₁.heap _
                            rw [e0]
                            exact ⟨by rw [← hr0, hv], N0, rfl⟩
                          · refine own_via (fun t k => XS.icmpYes X0.here hx rfl (pc0 := 103) (pc' := 109) rfl (hb hby d1_103) rfl (feq hc103_25).2 (by decide) (by decide) k) ?_
                            show own_Go p e below _ (s₁.setTop (mkF m 109 #[oI p0] []))
                            refine own_via (fun t k => XS.iloadN X0.here hx rfl (hb hby d1_109) rfl k) ?_
                            show own_Go p e below _ (s₁.setTop (mkF m 110 #[oI p0] [(.int p0)]))
                            refine own_via (fun t k => XS.bipush X0.here hx rfl (hb hby d1_110) k) ?_
                            show own_Go p e below _ (s₁.setTop (mkF m 112 #[oI p0] [(.int (13 : Int32)), (.int p0)]))
                            by_cases hc112_27 : p0 = (13 : Int32)
                            · refine own_via (fun t k => XS.icmpNo X0.here hx rfl (hb hby d1_112) rfl (teq hc112_27).2 k) ?_
                              show own_Go p e below _ (s₁.setTop (mkF m 115 #[oI p0] []))
                              refine own_via (fun t k => X0.ldcInt hx hown (mvT hZ (own_w hw 24)) (g := (mkF m 115 #[oI p0] [])) rfl (hb hby d1_115) t k) ?_
                              show own_Go p e below _ (s₁.setTop (mkF m 117 #[oI p0] [(.int (1114112 : Int32))]))
                              have hv : (f1 p0) = (1114112 : Int32) := by unfold f1; rw [if_neg hc1_1, if_neg hc9_3, if_neg hc16_5, if_neg hc24_7, if_neg hc32_9, if_neg hc40_11, if_neg hc49_13, if_neg hc58_15, if_neg hc67_17, if_neg hc76_19, if_neg hc85_21, if_neg hc94_23, if_neg hc103_25, if_pos hc112_27]
                              obtain ⟨fs, hr, hrun, hended, hW, hsame⟩ := X0.leave (v := some (.int (1114112 : Int32))) (fun h => by rw [Bd.returns] at h; cases h)
                              refine ⟨_, _, retI X0 hx Bd.returns (hb hby d1_117) hr, hrun, hended, _, _, rfl, ?_, ⟨_, rfl⟩, hW, hsame.mono (by decide) (by decide)⟩
                              show Q1 Z p0 r h0 n0 _ s₁.heap _
                              rw [e0]
                              exact ⟨by rw [← hr0, hv], N0, rfl⟩
                            · refine own_via (fun t k => XS.icmpYes X0.here hx rfl (pc0 := 112) (pc' := 118) rfl (hb hby d1_112) rfl (feq hc112_27).2 (by decide) (by decide) k) ?_
                              show own_Go p e below _ (s₁.setTop (mkF m 118 #[oI p0] []))
                              refine own_via (fun t k => XS.iloadN X0.here hx rfl (hb hby d1_118) rfl k) ?_
                              show own_Go p e below _ (s₁.setTop (mkF m 119 #[oI p0] [(.int p0)]))
                              refine own_via (fun t k => XS.bipush X0.here hx rfl (hb hby d1_119) k) ?_
                              show own_Go p e below _ (s₁.setTop (mkF m 121 #[oI p0] [(.int (14 : Int32)), (.int p0)]))
                              by_cases hc121_29 : p0 = (14 : Int32)
                              · refine own_via (fun t k => XS.icmpNo X0.here hx rfl (hb hby d1_121) rfl (teq hc121_29).2 k) ?_
                                show own_Go p e below _ (s₁.setTop (mkF m 124 #[oI p0] []))
                                refine own_via (fun t k => X0.ldcInt hx hown (mvT hZ (own_w hw 25)) (g := (mkF m 124 #[oI p0] [])) rfl (hb hby d1_124) t k) ?_
                                show own_Go p e below _ (s₁.setTop (mkF m 126 #[oI p0] [(.int (2147483647 : Int32))]))
                                have hv : (f1 p0) = (2147483647 : Int32) := by unfold f1; rw [if_neg hc1_1, if_neg hc9_3, if_neg hc16_5, if_neg hc24_7, if_neg hc32_9, if_neg hc40_11, if_neg hc49_13, if_neg hc58_15, if_neg hc67_17, if_neg hc76_19, if_neg hc85_21, if_neg hc94_23, if_neg hc103_25, if_neg hc112_27, if_pos hc121_29]
                                obtain ⟨fs, hr, hrun, hended, hW, hsame⟩ := X0.leave (v := some (.int (2147483647 : Int32))) (fun h => by rw [Bd.returns] at h; cases h)
                                refine ⟨_, _, retI X0 hx Bd.returns (hb hby d1_126) hr, hrun, hended, _, _, rfl, ?_, ⟨_, rfl⟩, hW, hsame.mono (by decide) (by decide)⟩
                                show Q1 Z p0 r h0 n0 _ s₁.heap _
                                rw [e0]
                                exact ⟨by rw [← hr0, hv], N0, rfl⟩
                              · refine own_via (fun t k => XS.icmpYes X0.here hx rfl (pc0 := 121) (pc' := 127) rfl (hb hby d1_121) rfl (feq hc121_29).2 (by decide) (by decide) k) ?_
                                show own_Go p e below _ (s₁.setTop (mkF m 127 #[oI p0] []))
                                refine own_via (fun t k => XS.bipush X0.here hx rfl (hb hby d1_127) k) ?_
                                show own_Go p e below _ (s₁.setTop (mkF m 129 #[oI p0] [(.int (31 : Int32))]))
                                have hv : (f1 p0) = (31 : Int32) := by unfold f1; rw [if_neg hc1_1, if_neg hc9_3, if_neg hc16_5, if_neg hc24_7, if_neg hc32_9, if_neg hc40_11, if_neg hc49_13, if_neg hc58_15, if_neg hc67_17, if_neg hc76_19, if_neg hc85_21, if_neg hc94_23, if_neg hc103_25, if_neg hc112_27, if_neg hc121_29]
                                obtain ⟨fs, hr, hrun, hended, hW, hsame⟩ := X0.leave (v := some (.int (31 : Int32))) (fun h => by rw [Bd.returns] at h; cases h)
                                refine ⟨_, _, retI X0 hx Bd.returns (hb hby d1_129) hr, hrun, hended, _, _, rfl, ?_, ⟨_, rfl⟩, hW, hsame.mono (by decide) (by decide)⟩
                                show Q1 Z p0 r h0 n0 _ s₁.heap _
                                rw [e0]
                                exact ⟨by rw [← hr0, hv], N0, rfl⟩
def f2 (p0 : Int32) : Int32 := (if p0 < (32 : Int32) then (if p0 = (9 : Int32) then (1 : Int32) else (if p0 = (10 : Int32) then (1 : Int32) else (if p0 = (13 : Int32) then (1 : Int32) else (0 : Int32)))) else (if (55295 : Int32) < p0 then (if p0 < (57344 : Int32) then (if p0 < (65536 : Int32) then (0 : Int32) else (if (1114111 : Int32) < p0 then (0 : Int32) else (1 : Int32))) else (if (65533 : Int32) < p0 then (if p0 < (65536 : Int32) then (0 : Int32) else (if (1114111 : Int32) < p0 then (0 : Int32) else (1 : Int32))) else (1 : Int32))) else (1 : Int32)))
theorem d2_0 : decode prog_89_method_2_code 0 = .ok (.iload_n 0, 1) := by decide +kernel
theorem d2_1 : decode prog_89_method_2_code 1 = .ok (.bipush 32, 2) := by decide +kernel
theorem d2_3 : decode prog_89_method_2_code 3 = .ok (.if_icmp .lt 41, 3) := by decide +kernel
theorem d2_6 : decode prog_89_method_2_code 6 = .ok (.iload_n 0, 1) := by decide +kernel
theorem d2_7 : decode prog_89_method_2_code 7 = .ok (.ldc 7, 2) := by decide +kernel
theorem d2_9 : decode prog_89_method_2_code 9 = .ok (.if_icmp .le 27, 3) := by decide +kernel
theorem d2_12 : decode prog_89_method_2_code 12 = .ok (.iload_n 0, 1) := by decide +kernel
theorem d2_13 : decode prog_89_method_2_code 13 = .ok (.ldc 8, 2) := by decide +kernel
theorem d2_15 : decode prog_89_method_2_code 15 = .ok (.if_icmp .lt 9, 3) := by decide +kernel
theorem d2_18 : decode prog_89_method_2_code 18 = .ok (.iload_n 0, 1) := by decide +kernel
theorem d2_19 : decode prog_89_method_2_code 19 = .ok (.ldc 9, 2) := by decide +kernel
theorem d2_21 : decode prog_89_method_2_code 21 = .ok (.if_icmp .le 15, 3) := by decide +kernel
theorem d2_24 : decode prog_89_method_2_code 24 = .ok (.iload_n 0, 1) := by decide +kernel
theorem d2_25 : decode prog_89_method_2_code 25 = .ok (.ldc 10, 2) := by decide +kernel
theorem d2_27 : decode prog_89_method_2_code 27 = .ok (.if_icmp .lt 13, 3) := by decide +kernel
theorem d2_30 : decode prog_89_method_2_code 30 = .ok (.iload_n 0, 1) := by decide +kernel
theorem d2_31 : decode prog_89_method_2_code 31 = .ok (.ldc 11, 2) := by decide +kernel
theorem d2_33 : decode prog_89_method_2_code 33 = .ok (.if_icmp .gt 7, 3) := by decide +kernel
theorem d2_36 : decode prog_89_method_2_code 36 = .ok (.iconst 1, 1) := by decide +kernel
theorem d2_37 : decode prog_89_method_2_code 37 = .ok (.goto 30, 3) := by decide +kernel
theorem d2_40 : decode prog_89_method_2_code 40 = .ok (.iconst 0, 1) := by decide +kernel
theorem d2_41 : decode prog_89_method_2_code 41 = .ok (.goto 26, 3) := by decide +kernel
theorem d2_44 : decode prog_89_method_2_code 44 = .ok (.iload_n 0, 1) := by decide +kernel
theorem d2_45 : decode prog_89_method_2_code 45 = .ok (.bipush 9, 2) := by decide +kernel
theorem d2_47 : decode prog_89_method_2_code 47 = .ok (.if_icmp .eq 15, 3) := by decide +kernel
theorem d2_50 : decode prog_89_method_2_code 50 = .ok (.iload_n 0, 1) := by decide +kernel
theorem d2_51 : decode prog_89_method_2_code 51 = .ok (.bipush 10, 2) := by decide +kernel
theorem d2_53 : decode prog_89_method_2_code 53 = .ok (.if_icmp .eq 9, 3) := by decide +kernel
theorem d2_56 : decode prog_89_method_2_code 56 = .ok (.iload_n 0, 1) := by decide +kernel
theorem d2_57 : decode prog_89_method_2_code 57 = .ok (.bipush 13, 2) := by decide +kernel
theorem d2_59 : decode prog_89_method_2_code 59 = .ok (.if_icmp .ne 7, 3) := by decide +kernel
theorem d2_62 : decode prog_89_method_2_code 62 = .ok (.iconst 1, 1) := by decide +kernel
theorem d2_63 : decode prog_89_method_2_code 63 = .ok (.goto 4, 3) := by decide +kernel
theorem d2_66 : decode prog_89_method_2_code 66 = .ok (.iconst 0, 1) := by decide +kernel
theorem d2_67 : decode prog_89_method_2_code 67 = .ok (.ireturn, 1) := by decide +kernel
theorem pn_2 : plainName "com/example/push_to_tree/pushtotree/XmlChars" = true := by first | (simp [plainName, overriddenIn]; done) | decide +kernel
theorem ef_rm2 (m : MethodId) (q0 : Int32) : entryFrame m #[(.int q0)] 1 = mkF m 0 #[oI q0] [] := by first | (simp [entryFrame, mkF, argsToLocals, Value.category]; done) | rfl
def Q2 (Z : State) (p0 : Int32) (r : Int32) (h0 : Heap) (n0 : Nat) (v : Option Value) (h : Heap) (L : List Loc) : Prop := v = some (.int r) ∧ Fr n0 L ∧ h = h0
set_option maxRecDepth 65536 in
set_option maxHeartbeats 40000000 in
theorem rm2 (l : Launch) (Z : State) (a0 : Array Value) (hw : ∀ d ∈ tables_1, d.before a0 Z = true) (ws : List Jvm.Cond) (p0 : Int32) (r : Int32) (h0 : Heap) (n0 : Nat) (Z0 : n0 ≤ h0.size) (hr0 : (f2 p0) = r) :
    MetFree l (⟨"com/example/push_to_tree/pushtotree/XmlChars", "isChar", "(I)Z"⟩ : MethodName) (head1 (Jvm.Cond.code (⟨"com/example/push_to_tree/pushtotree/XmlChars", "isChar", "(I)Z"⟩ : MethodName) prog_89_method_2_code 1 (some .boolean) :: ws) ({ frames := 0, cells := 0, slots := 0, locals := 0 } : Room)) (fun a U => a = #[(.int p0)] ∧ Z.Warmed39 U.vm ∧ U.heap = h0) (fun _ _ _ _ _ => True) (fun _ U o U' => ∃ v L, o = .returned v ∧ Q2 Z p0 r h0 n0 v U'.heap L ∧ FrameEnd U o U' L ({ frames := 0, cells := 0, slots := 0, locals := 0 } : Room).cells ({ frames := 0, cells := 0, slots := 0, locals := 0 } : Room).slots) := by
  refine MetFree.of_bodySF (plainFor_of_name pn_2) hisR ?_
  intro p e s m args below meth c s₁ Bd hml0 hP hK
  obtain ⟨rfl, hZ, hh⟩ := hP
  have hx := Bd.exec
  have hby := Bd.bytes
  have hml : c.maxLocals = 1 := hml0
  have hown : s.vm.findClass "com/example/push_to_tree/pushtotree/XmlChars" = some m.cls := findClass_of_methodNamed Bd.named
  have hnm := (name_of_methodNamed Bd.named Bd.method).1
  have X0 : Stand p l e ({ frames := 0, cells := 0, slots := 0, locals := 0 } : Room) s m #[(.int p0)] below meth c s₁ [] 0 0 := Stand.of_body Bd
  have e0 : s₁.heap = h0 := by rw [← hh, Bd.state]; rfl
  have N0 := Fr.nil n0
  refine own_start ?_
  refine own_via (fun t k => castTop (ef_rm2 m p0) k) ?_
  show own_Go p e below _ (s₁.setTop (mkF m 0 #[oI p0] []))
  refine own_via (fun t k => XS.iloadN X0.here hx rfl (hb hby d2_0) rfl k) ?_
  show own_Go p e below _ (s₁.setTop (mkF m 1 #[oI p0] [(.int p0)]))
  refine own_via (fun t k => XS.bipush X0.here hx rfl (hb hby d2_1) k) ?_
  show own_Go p e below _ (s₁.setTop (mkF m 3 #[oI p0] [(.int (32 : Int32)), (.int p0)]))
  by_cases hc3_1 : p0 < (32 : Int32)
  · refine own_via (fun t k => XS.icmpYes X0.here hx rfl (pc0 := 3) (pc' := 44) rfl (hb hby d2_3) rfl (tlt hc3_1).1 (by decide) (by decide) k) ?_
    show own_Go p e below _ (s₁.setTop (mkF m 44 #[oI p0] []))
    refine own_via (fun t k => XS.iloadN X0.here hx rfl (hb hby d2_44) rfl k) ?_
    show own_Go p e below _ (s₁.setTop (mkF m 45 #[oI p0] [(.int p0)]))
    refine own_via (fun t k => XS.bipush X0.here hx rfl (hb hby d2_45) k) ?_
    show own_Go p e below _ (s₁.setTop (mkF m 47 #[oI p0] [(.int (9 : Int32)), (.int p0)]))
    by_cases hc47_2 : p0 = (9 : Int32)
    · refine own_via (fun t k => XS.icmpYes X0.here hx rfl (pc0 := 47) (pc' := 62) rfl (hb hby d2_47) rfl (teq hc47_2).1 (by decide) (by decide) k) ?_
      show own_Go p e below _ (s₁.setTop (mkF m 62 #[oI p0] []))
      refine own_via (fun t k => XS.iconst X0.here hx rfl (hb hby d2_62) k) ?_
      show own_Go p e below _ (s₁.setTop (mkF m 63 #[oI p0] [(.int (1 : Int32))]))
      refine own_via (fun t k => XS.goto X0.here hx rfl (pc0 := 63) (pc' := 67) rfl (hb hby d2_63) (by decide) (by decide) k) ?_
      show own_Go p e below _ (s₁.setTop (mkF m 67 #[oI p0] [(.int (1 : Int32))]))
      have hv : (f2 p0) = (1 : Int32) := by unfold f2; rw [if_pos hc3_1, if_pos hc47_2]
      obtain ⟨fs, hr, hrun, hended, hW, hsame⟩ := X0.leave (v := some (.int (1 : Int32))) (fun h => by rw [Bd.returns] at h; cases h)
      refine ⟨_, _, retN X0 hx (t := .boolean) Bd.returns (by simp) (hb hby d2_67) hr, hrun, hended, _, _, rfl, ?_, ⟨_, rfl⟩, hW, hsame.mono (by decide) (by decide)⟩
      show Q2 Z p0 r h0 n0 _ s₁.heap _
      rw [e0]
      exact ⟨by rw [← hr0, hv], N0, rfl⟩
    · refine own_via (fun t k => XS.icmpNo X0.here hx rfl (hb hby d2_47) rfl (feq hc47_2).1 k) ?_
      show own_Go p e below _ (s₁.setTop (mkF m 50 #[oI p0] []))
      refine own_via (fun t k => XS.iloadN X0.here hx rfl (hb hby d2_50) rfl k) ?_
      show own_Go p e below _ (s₁.setTop (mkF m 51 #[oI p0] [(.int p0)]))
      refine own_via (fun t k => XS.bipush X0.here hx rfl (hb hby d2_51) k) ?_
      show own_Go p e below _ (s₁.setTop (mkF m 53 #[oI p0] [(.int (10 : Int32)), (.int p0)]))
      by_cases hc53_4 : p0 = (10 : Int32)
      · refine own_via (fun t k => XS.icmpYes X0.here hx rfl (pc0 := 53) (pc' := 62) rfl (hb hby d2_53) rfl (teq hc53_4).1 (by decide) (by decide) k) ?_
        show own_Go p e below _ (s₁.setTop (mkF m 62 #[oI p0] []))
        refine own_via (fun t k => XS.iconst X0.here hx rfl (hb hby d2_62) k) ?_
        show own_Go p e below _ (s₁.setTop (mkF m 63 #[oI p0] [(.int (1 : Int32))]))
        refine own_via (fun t k => XS.goto X0.here hx rfl (pc0 := 63) (pc' := 67) rfl (hb hby d2_63) (by decide) (by decide) k) ?_
        show own_Go p e below _ (s₁.setTop (mkF m 67 #[oI p0] [(.int (1 : Int32))]))
        have hv : (f2 p0) = (1 : Int32) := by unfold f2; rw [if_pos hc3_1, if_neg hc47_2, if_pos hc53_4]
        obtain ⟨fs, hr, hrun, hended, hW, hsame⟩ := X0.leave (v := some (.int (1 : Int32))) (fun h => by rw [Bd.returns] at h; cases h)
        refine ⟨_, _, retN X0 hx (t := .boolean) Bd.returns (by simp) (hb hby d2_67) hr, hrun, hended, _, _, rfl, ?_, ⟨_, rfl⟩, hW, hsame.mono (by decide) (by decide)⟩
        show Q2 Z p0 r h0 n0 _ s₁.heap _
        rw [e0]
        exact ⟨by rw [← hr0, hv], N0, rfl⟩
      · refine own_via (fun t k => XS.icmpNo X0.here hx rfl (hb hby d2_53) rfl (feq hc53_4).1 k) ?_
        show own_Go p e below _ (s₁.setTop (mkF m 56 #[oI p0] []))
        refine own_via (fun t k => XS.iloadN X0.here hx rfl (hb hby d2_56) rfl k) ?_
        show own_Go p e below _ (s₁.setTop (mkF m 57 #[oI p0] [(.int p0)]))
        refine own_via (fun t k => XS.bipush X0.here hx rfl (hb hby d2_57) k) ?_
        show own_Go p e below _ (s₁.setTop (mkF m 59 #[oI p0] [(.int (13 : Int32)), (.int p0)]))
        by_cases hc59_6 : p0 = (13 : Int32)
        · refine own_via (fun t k => XS.icmpNo X0.here hx rfl (hb hby d2_59) rfl (teq hc59_6).2 k) ?_
          show own_Go p e below _ (s₁.setTop (mkF m 62 #[oI p0] []))
          refine own_via (fun t k => XS.iconst X0.here hx rfl (hb hby d2_62) k) ?_
          show own_Go p e below _ (s₁.setTop (mkF m 63 #[oI p0] [(.int (1 : Int32))]))
          refine own_via (fun t k => XS.goto X0.here hx rfl (pc0 := 63) (pc' := 67) rfl (hb hby d2_63) (by decide) (by decide) k) ?_
          show own_Go p e below _ (s₁.setTop (mkF m 67 #[oI p0] [(.int (1 : Int32))]))
          have hv : (f2 p0) = (1 : Int32) := by unfold f2; rw [if_pos hc3_1, if_neg hc47_2, if_neg hc53_4, if_pos hc59_6]
          obtain ⟨fs, hr, hrun, hended, hW, hsame⟩ := X0.leave (v := some (.int (1 : Int32))) (fun h => by rw [Bd.returns] at h; cases h)
          refine ⟨_, _, retN X0 hx (t := .boolean) Bd.returns (by simp) (hb hby d2_67) hr, hrun, hended, _, _, rfl, ?_, ⟨_, rfl⟩, hW, hsame.mono (by decide) (by decide)⟩
          show Q2 Z p0 r h0 n0 _ s₁.heap _
          rw [e0]
          exact ⟨by rw [← hr0, hv], N0, rfl⟩
        · refine own_via (fun t k => XS.icmpYes X0.here hx rfl (pc0 := 59) (pc' := 66) rfl (hb hby d2_59) rfl (feq hc59_6).2 (by decide) (by decide) k) ?_
          show own_Go p e below _ (s₁.setTop (mkF m 66 #[oI p0] []))
          refine own_via (fun t k => XS.iconst X0.here hx rfl (hb hby d2_66) k) ?_
          show own_Go p e below _ (s₁.setTop (mkF m 67 #[oI p0] [(.int (0 : Int32))]))
          have hv : (f2 p0) = (0 : Int32) := by unfold f2; rw [if_pos hc3_1, if_neg hc47_2, if_neg hc53_4, if_neg hc59_6]
          obtain ⟨fs, hr, hrun, hended, hW, hsame⟩ := X0.leave (v := some (.int (0 : Int32))) (fun h => by rw [Bd.returns] at h; cases h)
          refine ⟨_, _, retN X0 hx (t := .boolean) Bd.returns (by simp) (hb hby d2_67) hr, hrun, hended, _, _, rfl, ?_, ⟨_, rfl⟩, hW, hsame.mono (by decide) (by decide)⟩
          show Q2 Z p0 r h0 n0 _ s₁.heap _
          rw [e0]
          exact ⟨by rw [← hr0, hv], N0, rfl⟩
  · refine own_via (fun t k => XS.icmpNo X0.here hx rfl (hb hby d2_3) rfl (flt hc3_1).1 k) ?_
    show own_Go p e below _ (s₁.setTop (mkF m 6 #[oI p0] []))
    refine own_via (fun t k => XS.iloadN X0.here hx rfl (hb hby d2_6) rfl k) ?_
    show own_Go p e below _ (s₁.setTop (mkF m 7 #[oI p0] [(.int p0)]))
    refine own_via (fun t k => X0.ldcInt hx hown (mvT hZ (own_w hw 12)) (g := (mkF m 7 #[oI p0] [(.int p0)])) rfl (hb hby d2_7) t k) ?_
    show own_Go p e below _ (s₁.setTop (mkF m 9 #[oI p0] [(.int (55295 : Int32)), (.int p0)]))
    by_cases hc9_9 : (55295 : Int32) < p0
    · refine own_via (fun t k => XS.icmpNo X0.here hx rfl (hb hby d2_9) rfl (tlt hc9_9).2.2.2 k) ?_
      show own_Go p e below _ (s₁.setTop (mkF m 12 #[oI p0] []))
      refine own_via (fun t k => XS.iloadN X0.here hx rfl (hb hby d2_12) rfl k) ?_
      show own_Go p e below _ (s₁.setTop (mkF m 13 #[oI p0] [(.int p0)]))
      refine own_via (fun t k => X0.ldcInt hx hown (mvT hZ (own_w hw 13)) (g := (mkF m 13 #[oI p0] [(.int p0)])) rfl (hb hby d2_13) t k) ?_
      show own_Go p e below _ (s₁.setTop (mkF m 15 #[oI p0] [(.int (57344 : Int32)), (.int p0)]))
      by_cases hc15_10 : p0 < (57344 : Int32)
      · refine own_via (fun t k => XS.icmpYes X0.here hx rfl (pc0 := 15) (pc' := 24) rfl (hb hby d2_15) rfl (tlt hc15_10).1 (by decide) (by decide) k) ?_
        show own_Go p e below _ (s₁.setTop (mkF m 24 #[oI p0] []))
        refine own_via (fun t k => XS.iloadN X0.here hx rfl (hb hby d2_24) rfl k) ?_
        show own_Go p e below _ (s₁.setTop (mkF m 25 #[oI p0] [(.int p0)]))
        refine own_via (fun t k => X0.ldcInt hx hown (mvT hZ (own_w hw 15)) (g := (mkF m 25 #[oI p0] [(.int p0)])) rfl (hb hby d2_25) t k) ?_
        show own_Go p e below _ (s₁.setTop (mkF m 27 #[oI p0] [(.int (65536 : Int32)), (.int p0)]))
        by_cases hc27_11 : p0 < (65536 : Int32)
        · refine own_via (fun t k => XS.icmpYes X0.here hx rfl (pc0 := 27) (pc' := 40) rfl (hb hby d2_27) rfl (tlt hc27_11).1 (by decide) (by decide) k) ?_
          show own_Go p e below _ (s₁.setTop (mkF m 40 #[oI p0] []))
          refine own_via (fun t k => XS.iconst X0.here hx rfl (hb hby d2_40) k) ?_
          show own_Go p e below _ (s₁.setTop (mkF m 41 #[oI p0] [(.int (0 : Int32))]))
          refine own_via (fun t k => XS.goto X0.here hx rfl (pc0 := 41) (pc' := 67) rfl (hb hby d2_41) (by decide) (by decide) k) ?_
          show own_Go p e below _ (s₁.setTop (mkF m 67 #[oI p0] [(.int (0 : Int32))]))
          have hv : (f2 p0) = (0 : Int32) := by unfold f2; rw [if_neg hc3_1, if_pos hc9_9, if_pos hc15_10, if_pos hc27_11]
          obtain ⟨fs, hr, hrun, hended, hW, hsame⟩ := X0.leave (v := some (.int (0 : Int32))) (fun h => by rw [Bd.returns] at h; cases h)
          refine ⟨_, _, retN X0 hx (t := .boolean) Bd.returns (by simp) (hb hby d2_67) hr, hrun, hended, _, _, rfl, ?_, ⟨_, rfl⟩, hW, hsame.mono (by decide) (by decide)⟩
          show Q2 Z p0 r h0 n0 _ s₁.heap _
          rw [e0]
          exact ⟨by rw [← hr0, hv], N0, rfl⟩
        · refine own_via (fun t k => XS.icmpNo X0.here hx rfl (hb hby d2_27) rfl (flt hc27_11).1 k) ?_
          show own_Go p e below _ (s₁.setTop (mkF m 30 #[oI p0] []))
          refine own_via (fun t k => XS.iloadN X0.here hx rfl (hb hby d2_30) rfl k) ?_
          show own_Go p e below _ (s₁.setTop (mkF m 31 #[oI p0] [(.int p0)]))
          refine own_via (fun t k => X0.ldcInt hx hown (mvT hZ (own_w hw 16)) (g := (mkF m 31 #[oI p0] [(.int p0)])) rfl (hb hby d2_31) t k) ?_
          show own_Go p e below _ (s₁.setTop (mkF m 33 #[oI p0] [(.int (1114111 : Int32)), (.int p0)]))
          by_cases hc33_13 : (1114111 : Int32) < p0
          · refine own_via (fun t k => XS.icmpYes X0.here hx rfl (pc0 := 33) (pc' := 40) rfl (hb hby d2_33) rfl (tlt hc33_13).2.2.1 (by decide) (by decide) k) ?_
            show own_Go p e below _ (s₁.setTop (mkF m 40 #[oI p0] []))
            refine own_via (fun t k => XS.iconst X0.here hx rfl (hb hby d2_40) k) ?_
            show own_Go p e below _ (s₁.setTop (mkF m 41 #[oI p0] [(.int (0 : Int32))]))
            refine own_via (fun t k => XS.goto X0.here hx rfl (pc0 := 41) (pc' := 67) rfl (hb hby d2_41) (by decide) (by decide) k) ?_
            show own_Go p e below _ (s₁.setTop (mkF m 67 #[oI p0] [(.int (0 : Int32))]))
            have hv : (f2 p0) = (0 : Int32) := by unfold f2; rw [if_neg hc3_1, if_pos hc9_9, if_pos hc15_10, if_neg hc27_11, if_pos hc33_13]
            obtain ⟨fs, hr, hrun, hended, hW, hsame⟩ := X0.leave (v := some (.int (0 : Int32))) (fun h => by rw [Bd.returns] at h; cases h)
            refine ⟨_, _, retN X0 hx (t := .boolean) Bd.returns (by simp) (hb hby d2_67) hr, hrun, hended, _, _, rfl, ?_, ⟨_, rfl⟩, hW, hsame.mono (by decide) (by decide)⟩
            show Q2 Z p0 r h0 n0 _ s₁.heap _
            rw [e0]
            exact ⟨by rw [← hr0, hv], N0, rfl⟩
          · refine own_via (fun t k => XS.icmpNo X0.here hx rfl (hb hby d2_33) rfl (flt hc33_13).2.2.1 k) ?_
            show own_Go p e below _ (s₁.setTop (mkF m 36 #[oI p0] []))
            refine own_via (fun t k => XS.iconst X0.here hx rfl (hb hby d2_36) k) ?_
            show own_Go p e below _ (s₁.setTop (mkF m 37 #[oI p0] [(.int (1 : Int32))]))
            refine own_via (fun t k => XS.goto X0.here hx rfl (pc0 := 37) (pc' := 67) rfl (hb hby d2_37) (by decide) (by decide) k) ?_
            show own_Go p e below _ (s₁.setTop (mkF m 67 #[oI p0] [(.int (1 : Int32))]))
            have hv : (f2 p0) = (1 : Int32) := by unfold f2; rw [if_neg hc3_1, if_pos hc9_9, if_pos hc15_10, if_neg hc27_11, if_neg hc33_13]
            obtain ⟨fs, hr, hrun, hended, hW, hsame⟩ := X0.leave (v := some (.int (1 : Int32))) (fun h => by rw [Bd.returns] at h; cases h)
            refine ⟨_, _, retN X0 hx (t := .boolean) Bd.returns (by simp) (hb hby d2_67) hr, hrun, hended, _, _, rfl, ?_, ⟨_, rfl⟩, hW, hsame.mono (by decide) (by decide)⟩
            show Q2 Z p0 r h0 n0 _ s₁.heap _
            rw [e0]
            exact ⟨by rw [← hr0, hv], N0, rfl⟩
      · refine own_via (fun t k => XS.icmpNo X0.here hx rfl (hb hby d2_15) rfl (flt hc15_10).1 k) ?_
        show own_Go p e below _ (s₁.setTop (mkF m 18 #[oI p0] []))
        refine own_via (fun t k => XS.iloadN X0.here hx rfl (hb hby d2_18) rfl k) ?_
        show own_Go p e below _ (s₁.setTop (mkF m 19 #[oI p0] [(.int p0)]))
        refine own_via (fun t k => X0.ldcInt hx hown (mvT hZ (own_w hw 14)) (g := (mkF m 19 #[oI p0] [(.int p0)])) rfl (hb hby d2_19) t k) ?_
        show own_Go p e below _ (s₁.setTop (mkF m 21 #[oI p0] [(.int (65533 : Int32)), (.int p0)]))
        by_cases hc21_16 : (65533 : Int32) < p0
        · refine own_via (fun t k => XS.icmpNo X0.here hx rfl (hb hby d2_21) rfl (tlt hc21_16).2.2.2 k) ?_
          show own_Go p e below _ (s₁.setTop (mkF m 24 #[oI p0] []))
          refine own_via (fun t k => XS.iloadN X0.here hx rfl (hb hby d2_24) rfl k) ?_
          show own_Go p e below _ (s₁.setTop (mkF m 25 #[oI p0] [(.int p0)]))
          refine own_via (fun t k => X0.ldcInt hx hown (mvT hZ (own_w hw 15)) (g := (mkF m 25 #[oI p0] [(.int p0)])) rfl (hb hby d2_25) t k) ?_
          show own_Go p e below _ (s₁.setTop (mkF m 27 #[oI p0] [(.int (65536 : Int32)), (.int p0)]))
          by_cases hc27_17 : p0 < (65536 : Int32)
          · refine own_via (fun t k => XS.icmpYes X0.here hx rfl (pc0 := 27) (pc' := 40) rfl (hb hby d2_27) rfl (tlt hc27_17).1 (by decide) (by decide) k) ?_
            show own_Go p e below _ (s₁.setTop (mkF m 40 #[oI p0] []))
            refine own_via (fun t k => XS.iconst X0.here hx rfl (hb hby d2_40) k) ?_
            show own_Go p e below _ (s₁.setTop (mkF m 41 #[oI p0] [(.int (0 : Int32))]))
            refine own_via (fun t k => XS.goto X0.here hx rfl (pc0 := 41) (pc' := 67) rfl (hb hby d2_41) (by decide) (by decide) k) ?_
            show own_Go p e below _ (s₁.setTop (mkF m 67 #[oI p0] [(.int (0 : Int32))]))
            have hv : (f2 p0) = (0 : Int32) := by unfold f2; rw [if_neg hc3_1, if_pos hc9_9, if_neg hc15_10, if_pos hc21_16, if_pos hc27_17]
            obtain ⟨fs, hr, hrun, hended, hW, hsame⟩ := X0.leave (v := some (.int (0 : Int32))) (fun h => by rw [Bd.returns] at h; cases h)
            refine ⟨_, _, retN X0 hx (t := .boolean) Bd.returns (by simp) (hb hby d2_67) hr, hrun, hended, _, _, rfl, ?_, ⟨_, rfl⟩, hW, hsame.mono (by decide) (by decide)⟩
            show Q2 Z p0 r h0 n0 _ s₁.heap _
            rw [e0]
            exact ⟨by rw [← hr0, hv], N0, rfl⟩
          · refine own_via (fun t k => XS.icmpNo X0.here hx rfl (hb hby d2_27) rfl (flt hc27_17).1 k) ?_
            show own_Go p e below _ (s₁.setTop (mkF m 30 #[oI p0] []))
            refine own_via (fun t k => XS.iloadN X0.here hx rfl (hb hby d2_30) rfl k) ?_
            show own_Go p e below _ (s₁.setTop (mkF m 31 #[oI p0] [(.int p0)]))
            refine own_via (fun t k => X0.ldcInt hx hown (mvT hZ (own_w hw 16)) (g := (mkF m 31 #[oI p0] [(.int p0)])) rfl (hb hby d2_31) t k) ?_
            show own_Go p e below _ (s₁.setTop (mkF m 33 #[oI p0] [(.int (1114111 : Int32)), (.int p0)]))
            by_cases hc33_19 : (1114111 : Int32) < p0
            · refine own_via (fun t k => XS.icmpYes X0.here hx rfl (pc0 := 33) (pc' := 40) rfl (hb hby d2_33) rfl (tlt hc33_19).2.2.1 (by decide) (by decide) k) ?_
              show own_Go p e below _ (s₁.setTop (mkF m 40 #[oI p0] []))
              refine own_via (fun t k => XS.iconst X0.here hx rfl (hb hby d2_40) k) ?_
              show own_Go p e below _ (s₁.setTop (mkF m 41 #[oI p0] [(.int (0 : Int32))]))
              refine own_via (fun t k => XS.goto X0.here hx rfl (pc0 := 41) (pc' := 67) rfl (hb hby d2_41) (by decide) (by decide) k) ?_
              show own_Go p e below _ (s₁.setTop (mkF m 67 #[oI p0] [(.int (0 : Int32))]))
              have hv : (f2 p0) = (0 : Int32) := by unfold f2; rw [if_neg hc3_1, if_pos hc9_9, if_neg hc15_10, if_pos hc21_16, if_neg hc27_17, if_pos hc33_19]
              obtain ⟨fs, hr, hrun, hended, hW, hsame⟩ := X0.leave (v := some (.int (0 : Int32))) (fun h => by rw [Bd.returns] at h; cases h)
              refine ⟨_, _, retN X0 hx (t := .boolean) Bd.returns (by simp) (hb hby d2_67) hr, hrun, hended, _, _, rfl, ?_, ⟨_, rfl⟩, hW, hsame.mono (by decide) (by decide)⟩
              show Q2 Z p0 r h0 n0 _ s₁.heap _
              rw [e0]
              exact ⟨by rw [← hr0, hv], N0, rfl⟩
            · refine own_via (fun t k => XS.icmpNo X0.here hx rfl (hb hby d2_33) rfl (flt hc33_19).2.2.1 k) ?_
              show own_Go p e below _ (s₁.setTop (mkF m 36 #[oI p0] []))
              refine own_via (fun t k => XS.iconst X0.here hx rfl (hb hby d2_36) k) ?_
              show own_Go p e below _ (s₁.setTop (mkF m 37 #[oI p0] [(.int (1 : Int32))]))
              refine own_via (fun t k => XS.goto X0.here hx rfl (pc0 := 37) (pc' := 67) rfl (hb hby d2_37) (by decide) (by decide) k) ?_
              show own_Go p e below _ (s₁.setTop (mkF m 67 #[oI p0] [(.int (1 : Int32))]))
              have hv : (f2 p0) = (1 : Int32) := by unfold f2; rw [if_neg hc3_1, if_pos hc9_9, if_neg hc15_10, if_pos hc21_16, if_neg hc27_17, if_neg hc33_19]
              obtain ⟨fs, hr, hrun, hended, hW, hsame⟩ := X0.leave (v := some (.int (1 : Int32))) (fun h => by rw [Bd.returns] at h; cases h)
              refine ⟨_, _, retN X0 hx (t := .boolean) Bd.returns (by simp) (hb hby d2_67) hr, hrun, hended, _, _, rfl, ?_, ⟨_, rfl⟩, hW, hsame.mono (by decide) (by decide)⟩
              show Q2 Z p0 r h0 n0 _ s₁.heap _
              rw [e0]
              exact ⟨by rw [← hr0, hv], N0, rfl⟩
        · refine own_via (fun t k => XS.icmpYes X0.here hx rfl (pc0 := 21) (pc' := 36) rfl (hb hby d2_21) rfl (flt hc21_16).2.2.2 (by decide) (by decide) k) ?_
          show own_Go p e below _ (s₁.setTop (mkF m 36 #[oI p0] []))
          refine own_via (fun t k => XS.iconst X0.here hx rfl (hb hby d2_36) k) ?_
          show own_Go p e below _ (s₁.setTop (mkF m 37 #[oI p0] [(.int (1 : Int32))]))
          refine own_via (fun t k => XS.goto X0.here hx rfl (pc0 := 37) (pc' := 67) rfl (hb hby d2_37) (by decide) (by decide) k) ?_
          show own_Go p e below _ (s₁.setTop (mkF m 67 #[oI p0] [(.int (1 : Int32))]))
          have hv : (f2 p0) = (1 : Int32) := by unfold f2; rw [if_neg hc3_1, if_pos hc9_9, if_neg hc15_10, if_neg hc21_16]
          obtain ⟨fs, hr, hrun, hended, hW, hsame⟩ := X0.leave (v := some (.int (1 : Int32))) (fun h => by rw [Bd.returns] at h; cases h)
          refine ⟨_, _, retN X0 hx (t := .boolean) Bd.returns (by simp) (hb hby d2_67) hr, hrun, hended, _, _, rfl, ?_, ⟨_, rfl⟩, hW, hsame.mono (by decide) (by decide)⟩
          show Q2 Z p0 r h0 n0 _ s₁.heap _
          rw [e0]
          exact ⟨by rw [← hr0, hv], N0, rfl⟩
    · refine own_via (fun t k => XS.icmpYes X0.here hx rfl (pc0 := 9) (pc' := 36) rfl (hb hby d2_9) rfl (flt hc9_9).2.2.2 (by decide) (by decide) k) ?_
      show own_Go p e below _ (s₁.setTop (mkF m 36 #[oI p0] []))
      refine own_via (fun t k => XS.iconst X0.here hx rfl (hb hby d2_36) k) ?_
      show own_Go p e below _ (s₁.setTop (mkF m 37 #[oI p0] [(.int (1 : Int32))]))
      refine own_via (fun t k => XS.goto X0.here hx rfl (pc0 := 37) (pc' := 67) rfl (hb hby d2_37) (by decide) (by decide) k) ?_
      show own_Go p e below _ (s₁.setTop (mkF m 67 #[oI p0] [(.int (1 : Int32))]))
      have hv : (f2 p0) = (1 : Int32) := by unfold f2; rw [if_neg hc3_1, if_neg hc9_9]
      obtain ⟨fs, hr, hrun, hended, hW, hsame⟩ := X0.leave (v := some (.int (1 : Int32))) (fun h => by rw [Bd.returns] at h; cases h)
      refine ⟨_, _, retN X0 hx (t := .boolean) Bd.returns (by simp) (hb hby d2_67) hr, hrun, hended, _, _, rfl, ?_, ⟨_, rfl⟩, hW, hsame.mono (by decide) (by decide)⟩
      show Q2 Z p0 r h0 n0 _ s₁.heap _
      rw [e0]
      exact ⟨by rw [← hr0, hv], N0, rfl⟩
def f3 (p0 : Int32) : Int32 := (if p0 < (0 : Int32) then (0 : Int32) else (if (1114111 : Int32) < p0 then (0 : Int32) else (if p0 < (32 : Int32) then (if p0 = (9 : Int32) then (1 : Int32) else (if p0 = (10 : Int32) then (1 : Int32) else (if p0 = (13 : Int32) then (1 : Int32) else (0 : Int32)))) else (if p0 < (55296 : Int32) then (if p0 = (65534 : Int32) then (0 : Int32) else (if p0 = (65535 : Int32) then (0 : Int32) else (1 : Int32))) else (if (57343 : Int32) < p0 then (if p0 = (65534 : Int32) then (0 : Int32) else (if p0 = (65535 : Int32) then (0 : Int32) else (1 : Int32))) else (0 : Int32))))))
theorem d3_0 : decode method_4_code 0 = .ok (.iload_n 0, 1) := by decide +kernel
theorem d3_1 : decode method_4_code 1 = .ok (.ifCond .ge 5, 3) := by decide +kernel
theorem d3_4 : decode method_4_code 4 = .ok (.iconst 0, 1) := by decide +kernel
theorem d3_5 : decode method_4_code 5 = .ok (.ireturn, 1) := by decide +kernel
theorem d3_6 : decode method_4_code 6 = .ok (.iload_n 0, 1) := by decide +kernel
theorem d3_7 : decode method_4_code 7 = .ok (.ldc 32, 2) := by decide +kernel
theorem d3_9 : decode method_4_code 9 = .ok (.if_icmp .le 5, 3) := by decide +kernel
theorem d3_12 : decode method_4_code 12 = .ok (.iconst 0, 1) := by decide +kernel
theorem d3_13 : decode method_4_code 13 = .ok (.ireturn, 1) := by decide +kernel
theorem d3_14 : decode method_4_code 14 = .ok (.iload_n 0, 1) := by decide +kernel
theorem d3_15 : decode method_4_code 15 = .ok (.bipush 32, 2) := by decide +kernel
theorem d3_17 : decode method_4_code 17 = .ok (.if_icmp .ge 27, 3) := by decide +kernel
theorem d3_20 : decode method_4_code 20 = .ok (.iload_n 0, 1) := by decide +kernel
theorem d3_21 : decode method_4_code 21 = .ok (.bipush 9, 2) := by decide +kernel
theorem d3_23 : decode method_4_code 23 = .ok (.if_icmp .eq 15, 3) := by decide +kernel
theorem d3_26 : decode method_4_code 26 = .ok (.iload_n 0, 1) := by decide +kernel
theorem d3_27 : decode method_4_code 27 = .ok (.bipush 10, 2) := by decide +kernel
theorem d3_29 : decode method_4_code 29 = .ok (.if_icmp .eq 9, 3) := by decide +kernel
theorem d3_32 : decode method_4_code 32 = .ok (.iload_n 0, 1) := by decide +kernel
theorem d3_33 : decode method_4_code 33 = .ok (.bipush 13, 2) := by decide +kernel
theorem d3_35 : decode method_4_code 35 = .ok (.if_icmp .ne 7, 3) := by decide +kernel
theorem d3_38 : decode method_4_code 38 = .ok (.iconst 1, 1) := by decide +kernel
theorem d3_39 : decode method_4_code 39 = .ok (.goto 4, 3) := by decide +kernel
theorem d3_42 : decode method_4_code 42 = .ok (.iconst 0, 1) := by decide +kernel
theorem d3_43 : decode method_4_code 43 = .ok (.ireturn, 1) := by decide +kernel
theorem d3_44 : decode method_4_code 44 = .ok (.iload_n 0, 1) := by decide +kernel
theorem d3_45 : decode method_4_code 45 = .ok (.ldc 26, 2) := by decide +kernel
theorem d3_47 : decode method_4_code 47 = .ok (.if_icmp .lt 11, 3) := by decide +kernel
theorem d3_50 : decode method_4_code 50 = .ok (.iload_n 0, 1) := by decide +kernel
theorem d3_51 : decode method_4_code 51 = .ok (.ldc 27, 2) := by decide +kernel
theorem d3_53 : decode method_4_code 53 = .ok (.if_icmp .gt 5, 3) := by decide +kernel
theorem d3_56 : decode method_4_code 56 = .ok (.iconst 0, 1) := by decide +kernel
theorem d3_57 : decode method_4_code 57 = .ok (.ireturn, 1) := by decide +kernel
theorem d3_58 : decode method_4_code 58 = .ok (.iload_n 0, 1) := by decide +kernel
theorem d3_59 : decode method_4_code 59 = .ok (.ldc 35, 2) := by decide +kernel
theorem d3_61 : decode method_4_code 61 = .ok (.if_icmp .eq 9, 3) := by decide +kernel
theorem d3_64 : decode method_4_code 64 = .ok (.iload_n 0, 1) := by decide +kernel
theorem d3_65 : decode method_4_code 65 = .ok (.ldc 30, 2) := by decide +kernel
theorem d3_67 : decode method_4_code 67 = .ok (.if_icmp .ne 5, 3) := by decide +kernel
theorem d3_70 : decode method_4_code 70 = .ok (.iconst 0, 1) := by decide +kernel
theorem d3_71 : decode method_4_code 71 = .ok (.ireturn, 1) := by decide +kernel
theorem d3_72 : decode method_4_code 72 = .ok (.iconst 1, 1) := by decide +kernel
theorem d3_73 : decode method_4_code 73 = .ok (.ireturn, 1) := by decide +kernel
theorem ef_rm3 (m : MethodId) (q0 : Int32) : entryFrame m #[(.int q0)] 1 = mkF m 0 #[oI q0] [] := by first | (simp [entryFrame, mkF, argsToLocals, Value.category]; done) | rfl
def Q3 (Z : State) (p0 : Int32) (r : Int32) (h0 : Heap) (n0 : Nat) (v : Option Value) (h : Heap) (L : List Loc) : Prop := v = some (.int r) ∧ Fr n0 L ∧ h = h0
set_option maxRecDepth 65536 in
set_option maxHeartbeats 40000000 in
theorem rm3 (l : Launch) (Z : State) (a0 : Array Value) (hw : ∀ d ∈ tables_1, d.before a0 Z = true) (ws : List Jvm.Cond) (p0 : Int32) (r : Int32) (h0 : Heap) (n0 : Nat) (Z0 : n0 ≤ h0.size) (hr0 : (f3 p0) = r) :
    MetFree l (⟨"com/example/push_to_tree/pushtotree/XmlCharsIsCharPinLaw", "ref", "(I)Z"⟩ : MethodName) (head1 (Jvm.Cond.code (⟨"com/example/push_to_tree/pushtotree/XmlCharsIsCharPinLaw", "ref", "(I)Z"⟩ : MethodName) method_4_code 1 (some .boolean) :: ws) ({ frames := 0, cells := 0, slots := 0, locals := 0 } : Room)) (fun a U => a = #[(.int p0)] ∧ Z.Warmed39 U.vm ∧ U.heap = h0) (fun _ _ _ _ _ => True) (fun _ U o U' => ∃ v L, o = .returned v ∧ Q3 Z p0 r h0 n0 v U'.heap L ∧ FrameEnd U o U' L ({ frames := 0, cells := 0, slots := 0, locals := 0 } : Room).cells ({ frames := 0, cells := 0, slots := 0, locals := 0 } : Room).slots) := by
  refine MetFree.of_bodySF (plainFor_of_name pn_1) hisR ?_
  intro p e s m args below meth c s₁ Bd hml0 hP hK
  obtain ⟨rfl, hZ, hh⟩ := hP
  have hx := Bd.exec
  have hby := Bd.bytes
  have hml : c.maxLocals = 1 := hml0
  have hown : s.vm.findClass "com/example/push_to_tree/pushtotree/XmlCharsIsCharPinLaw" = some m.cls := findClass_of_methodNamed Bd.named
  have hnm := (name_of_methodNamed Bd.named Bd.method).1
  have X0 : Stand p l e ({ frames := 0, cells := 0, slots := 0, locals := 0 } : Room) s m #[(.int p0)] below meth c s₁ [] 0 0 := Stand.of_body Bd
  have e0 : s₁.heap = h0 := by rw [← hh, Bd.state]; rfl
  have N0 := Fr.nil n0
  refine own_start ?_
  refine own_via (fun t k => castTop (ef_rm3 m p0) k) ?_
  show own_Go p e below _ (s₁.setTop (mkF m 0 #[oI p0] []))
  refine own_via (fun t k => XS.iloadN X0.here hx rfl (hb hby d3_0) rfl k) ?_
  show own_Go p e below _ (s₁.setTop (mkF m 1 #[oI p0] [(.int p0)]))
  by_cases hc1_1 : p0 < (0 : Int32)
  · refine own_via (fun t k => XS.ifNo X0.here hx rfl (hb hby d3_1) rfl ((if0 _ _).trans (tlt hc1_1).2.1) k) ?_
    show own_Go p e below _ (s₁.setTop (mkF m 4 #[oI p0] []))
    refine own_via (fun t k => XS.iconst X0.here hx rfl (hb hby d3_4) k) ?_
    show own_Go p e below _ (s₁.setTop (mkF m 5 #[oI p0] [(.int (0 : Int32))]))
    have hv : (f3 p0) = (0 : Int32) := by unfold f3; rw [if_pos hc1_1]
    obtain ⟨fs, hr, hrun, hended, hW, hsame⟩ := X0.leave (v := some (.int (0 : Int32))) (fun h => by rw [Bd.returns] at h; cases h)
    refine ⟨_, _, retN X0 hx (t := .boolean) Bd.returns (by simp) (hb hby d3_5) hr, hrun, hended, _, _, rfl, ?_, ⟨_, rfl⟩, hW, hsame.mono (by decide) (by decide)⟩
    show Q3 Z p0 r h0 n0 _ s₁.heap _
    rw [e0]
    exact ⟨by rw [← hr0, hv], N0, rfl⟩
  · refine own_via (fun t k => XS.ifYes X0.here hx rfl (pc0 := 1) (pc' := 6) rfl (hb hby d3_1) rfl ((if0 _ _).trans (flt hc1_1).2.1) (by decide) (by decide) k) ?_
    show own_Go p e below _ (s₁.setTop (mkF m 6 #[oI p0] []))
    refine own_via (fun t k => XS.iloadN X0.here hx rfl (hb hby d3_6) rfl k) ?_
    show own_Go p e below _ (s₁.setTop (mkF m 7 #[oI p0] [(.int p0)]))
    refine own_via (fun t k => X0.ldcInt hx hown (mvT hZ (own_w hw 11)) (g := (mkF m 7 #[oI p0] [(.int p0)])) rfl (hb hby d3_7) t k) ?_
    show own_Go p e below _ (s₁.setTop (mkF m 9 #[oI p0] [(.int (1114111 : Int32)), (.int p0)]))
    by_cases hc9_3 : (1114111 : Int32) < p0
    · refine own_via (fun t k => XS.icmpNo X0.here hx rfl (hb hby d3_9) rfl (tlt hc9_3).2.2.2 k) ?_
      show own_Go p e below _ (s₁.setTop (mkF m 12 #[oI p0] []))
      refine own_via (fun t k => XS.iconst X0.here hx rfl (hb hby d3_12) k) ?_
      show own_Go p e below _ (s₁.setTop (mkF m 13 #[oI p0] [(.int (0 : Int32))]))
      have hv : (f3 p0) = (0 : Int32) := by unfold f3; rw [if_neg hc1_1, if_pos hc9_3]
      obtain ⟨fs, hr, hrun, hended, hW, hsame⟩ := X0.leave (v := some (.int (0 : Int32))) (fun h => by rw [Bd.returns] at h; cases h)
      refine ⟨_, _, retN X0 hx (t := .boolean) Bd.returns (by simp) (hb hby d3_13) hr, hrun, hended, _, _, rfl, ?_, ⟨_, rfl⟩, hW, hsame.mono (by decide) (by decide)⟩
      show Q3 Z p0 r h0 n0 _ s₁.heap _
      rw [e0]
      exact ⟨by rw [← hr0, hv], N0, rfl⟩
    · refine own_via (fun t k => XS.icmpYes X0.here hx rfl (pc0 := 9) (pc' := 14) rfl (hb hby d3_9) rfl (flt hc9_3).2.2.2 (by decide) (by decide) k) ?_
      show own_Go p e below _ (s₁.setTop (mkF m 14 #[oI p0] []))
      refine own_via (fun t k => XS.iloadN X0.here hx rfl (hb hby d3_14) rfl k) ?_
      show own_Go p e below _ (s₁.setTop (mkF m 15 #[oI p0] [(.int p0)]))
      refine own_via (fun t k => XS.bipush X0.here hx rfl (hb hby d3_15) k) ?_
      show own_Go p e below _ (s₁.setTop (mkF m 17 #[oI p0] [(.int (32 : Int32)), (.int p0)]))
      by_cases hc17_5 : p0 < (32 : Int32)
      · refine own_via (fun t k => XS.icmpNo X0.here hx rfl (hb hby d3_17) rfl (tlt hc17_5).2.1 k) ?_
        show own_Go p e below _ (s₁.setTop (mkF m 20 #[oI p0] []))
        refine own_via (fun t k => XS.iloadN X0.here hx rfl (hb hby d3_20) rfl k) ?_
        show own_Go p e below _ (s₁.setTop (mkF m 21 #[oI p0] [(.int p0)]))
        refine own_via (fun t k => XS.bipush X0.here hx rfl (hb hby d3_21) k) ?_
        show own_Go p e below _ (s₁.setTop (mkF m 23 #[oI p0] [(.int (9 : Int32)), (.int p0)]))
        by_cases hc23_6 : p0 = (9 : Int32)
        · refine own_via (fun t k => XS.icmpYes X0.here hx rfl (pc0 := 23) (pc' := 38) rfl (hb hby d3_23) rfl (teq hc23_6).1 (by decide) (by decide) k) ?_
          show own_Go p e below _ (s₁.setTop (mkF m 38 #[oI p0] []))
          refine own_via (fun t k => XS.iconst X0.here hx rfl (hb hby d3_38) k) ?_
          show own_Go p e below _ (s₁.setTop (mkF m 39 #[oI p0] [(.int (1 : Int32))]))
          refine own_via (fun t k => XS.goto X0.here hx rfl (pc0 := 39) (pc' := 43) rfl (hb hby d3_39) (by decide) (by decide) k) ?_
          show own_Go p e below _ (s₁.setTop (mkF m 43 #[oI p0] [(.int (1 : Int32))]))
          have hv : (f3 p0) = (1 : Int32) := by unfold f3; rw [if_neg hc1_1, if_neg hc9_3, if_pos hc17_5, if_pos hc23_6]
          obtain ⟨fs, hr, hrun, hended, hW, hsame⟩ := X0.leave (v := some (.int (1 : Int32))) (fun h => by rw [Bd.returns] at h; cases h)
          refine ⟨_, _, retN X0 hx (t := .boolean) Bd.returns (by simp) (hb hby d3_43) hr, hrun, hended, _, _, rfl, ?_, ⟨_, rfl⟩, hW, hsame.mono (by decide) (by decide)⟩
          show Q3 Z p0 r h0 n0 _ s₁.heap _
          rw [e0]
          exact ⟨by rw [← hr0, hv], N0, rfl⟩
        · refine own_via (fun t k => XS.icmpNo X0.here hx rfl (hb hby d3_23) rfl (feq hc23_6).1 k) ?_
          show own_Go p e below _ (s₁.setTop (mkF m 26 #[oI p0] []))
          refine own_via (fun t k => XS.iloadN X0.here hx rfl (hb hby d3_26) rfl k) ?_
          show own_Go p e below _ (s₁.setTop (mkF m 27 #[oI p0] [(.int p0)]))
          refine own_via (fun t k => XS.bipush X0.here hx rfl (hb hby d3_27) k) ?_
          show own_Go p e below _ (s₁.setTop (mkF m 29 #[oI p0] [(.int (10 : Int32)), (.int p0)]))
          by_cases hc29_8 : p0 = (10 : Int32)
          · refine own_via (fun t k => XS.icmpYes X0.here hx rfl (pc0 := 29) (pc' := 38) rfl (hb hby d3_29) rfl (teq hc29_8).1 (by decide) (by decide) k) ?_
            show own_Go p e below _ (s₁.setTop (mkF m 38 #[oI p0] []))
            refine own_via (fun t k => XS.iconst X0.here hx rfl (hb hby d3_38) k) ?_
            show own_Go p e below _ (s₁.setTop (mkF m 39 #[oI p0] [(.int (1 : Int32))]))
            refine own_via (fun t k => XS.goto X0.here hx rfl (pc0 := 39) (pc' := 43) rfl (hb hby d3_39) (by decide) (by decide) k) ?_
            show own_Go p e below _ (s₁.setTop (mkF m 43 #[oI p0] [(.int (1 : Int32))]))
            have hv : (f3 p0) = (1 : Int32) := by unfold f3; rw [if_neg hc1_1, if_neg hc9_3, if_pos hc17_5, if_neg hc23_6, if_pos hc29_8]
            obtain ⟨fs, hr, hrun, hended, hW, hsame⟩ := X0.leave (v := some (.int (1 : Int32))) (fun h => by rw [Bd.returns] at h; cases h)
            refine ⟨_, _, retN X0 hx (t := .boolean) Bd.returns (by simp) (hb hby d3_43) hr, hrun, hended, _, _, rfl, ?_, ⟨_, rfl⟩, hW, hsame.mono (by decide) (by decide)⟩
            show Q3 Z p0 r h0 n0 _ s₁.heap _
            rw [e0]
            exact ⟨by rw [← hr0, hv], N0, rfl⟩
          · refine own_via (fun t k => XS.icmpNo X0.here hx rfl (hb hby d3_29) rfl (feq hc29_8).1 k) ?_
            show own_Go p e below _ (s₁.setTop (mkF m 32 #[oI p0] []))
            refine own_via (fun t k => XS.iloadN X0.here hx rfl (hb hby d3_32) rfl k) ?_
            show own_Go p e below _ (s₁.setTop (mkF m 33 #[oI p0] [(.int p0)]))
            refine own_via (fun t k => XS.bipush X0.here hx rfl (hb hby d3_33) k) ?_
            show own_Go p e below _ (s₁.setTop (mkF m 35 #[oI p0] [(.int (13 : Int32)), (.int p0)]))
            by_cases hc35_10 : p0 = (13 : Int32)
            · refine own_via (fun t k => XS.icmpNo X0.here hx rfl (hb hby d3_35) rfl (teq hc35_10).2 k) ?_
              show own_Go p e below _ (s₁.setTop (mkF m 38 #[oI p0] []))
              refine own_via (fun t k => XS.iconst X0.here hx rfl (hb hby d3_38) k) ?_
              show own_Go p e below _ (s₁.setTop (mkF m 39 #[oI p0] [(.int (1 : Int32))]))
              refine own_via (fun t k => XS.goto X0.here hx rfl (pc0 := 39) (pc' := 43) rfl (hb hby d3_39) (by decide) (by decide) k) ?_
              show own_Go p e below _ (s₁.setTop (mkF m 43 #[oI p0] [(.int (1 : Int32))]))
              have hv : (f3 p0) = (1 : Int32) := by unfold f3; rw [if_neg hc1_1, if_neg hc9_3, if_pos hc17_5, if_neg hc23_6, if_neg hc29_8, if_pos hc35_10]
              obtain ⟨fs, hr, hrun, hended, hW, hsame⟩ := X0.leave (v := some (.int (1 : Int32))) (fun h => by rw [Bd.returns] at h; cases h)
              refine ⟨_, _, retN X0 hx (t := .boolean) Bd.returns (by simp) (hb hby d3_43) hr, hrun, hended, _, _, rfl, ?_, ⟨_, rfl⟩, hW, hsame.mono (by decide) (by decide)⟩
              show Q3 Z p0 r h0 n0 _ s₁.heap _
              rw [e0]
              exact ⟨by rw [← hr0, hv], N0, rfl⟩
            · refine own_via (fun t k => XS.icmpYes X0.here hx rfl (pc0 := 35) (pc' := 42) rfl (hb hby d3_35) rfl (feq hc35_10).2 (by decide) (by decide) k) ?_
              show own_Go p e below _ (s₁.setTop (mkF m 42 #[oI p0] []))
              refine own_via (fun t k => XS.iconst X0.here hx rfl (hb hby d3_42) k) ?_
              show own_Go p e below _ (s₁.setTop (mkF m 43 #[oI p0] [(.int (0 : Int32))]))
              have hv : (f3 p0) = (0 : Int32) := by unfold f3; rw [if_neg hc1_1, if_neg hc9_3, if_pos hc17_5, if_neg hc23_6, if_neg hc29_8, if_neg hc35_10]
              obtain ⟨fs, hr, hrun, hended, hW, hsame⟩ := X0.leave (v := some (.int (0 : Int32))) (fun h => by rw [Bd.returns] at h; cases h)
              refine ⟨_, _, retN X0 hx (t := .boolean) Bd.returns (by simp) (hb hby d3_43) hr, hrun, hended, _, _, rfl, ?_, ⟨_, rfl⟩, hW, hsame.mono (by decide) (by decide)⟩
              show Q3 Z p0 r h0 n0 _ s₁.heap _
              rw [e0]
              exact ⟨by rw [← hr0, hv], N0, rfl⟩
      · refine own_via (fun t k => XS.icmpYes X0.here hx rfl (pc0 := 17) (pc' := 44) rfl (hb hby d3_17) rfl (flt hc17_5).2.1 (by decide) (by decide) k) ?_
        show own_Go p e below _ (s₁.setTop (mkF m 44 #[oI p0] []))
        refine own_via (fun t k => XS.iloadN X0.here hx rfl (hb hby d3_44) rfl k) ?_
        show own_Go p e below _ (s₁.setTop (mkF m 45 #[oI p0] [(.int p0)]))
        refine own_via (fun t k => X0.ldcInt hx hown (mvT hZ (own_w hw 17)) (g := (mkF m 45 #[oI p0] [(.int p0)])) rfl (hb hby d3_45) t k) ?_
        show own_Go p e below _ (s₁.setTop (mkF m 47 #[oI p0] [(.int (55296 : Int32)), (.int p0)]))
        by_cases hc47_13 : p0 < (55296 : Int32)
        · refine own_via (fun t k => XS.icmpYes X0.here hx rfl (pc0 := 47) (pc' := 58) rfl (hb hby d3_47) rfl (tlt hc47_13).1 (by decide) (by decide) k) ?_
          show own_Go p e below _ (s₁.setTop (mkF m 58 #[oI p0] []))
          refine own_via (fun t k => XS.iloadN X0.here hx rfl (hb hby d3_58) rfl k) ?_
          show own_Go p e below _ (s₁.setTop (mkF m 59 #[oI p0] [(.int p0)]))
          refine own_via (fun t k => X0.ldcInt hx hown (mvT hZ (own_w hw 19)) (g := (mkF m 59 #[oI p0] [(.int p0)])) rfl (hb hby d3_59) t k) ?_
          show own_Go p e below _ (s₁.setTop (mkF m 61 #[oI p0] [(.int (65534 : Int32)), (.int p0)]))
          by_cases hc61_14 : p0 = (65534 : Int32)
          · refine own_via (fun t k => XS.icmpYes X0.here hx rfl (pc0 := 61) (pc' := 70) rfl (hb hby d3_61) rfl (teq hc61_14).1 (by decide) (by decide) k) ?_
            show own_Go p e below _ (s₁.setTop (mkF m 70 #[oI p0] []))
            refine own_via (fun t k => XS.iconst X0.here hx rfl (hb hby d3_70) k) ?_
            show own_Go p e below _ (s₁.setTop (mkF m 71 #[oI p0] [(.int (0 : Int32))]))
            have hv : (f3 p0) = (0 : Int32) := by unfold f3; rw [if_neg hc1_1, if_neg hc9_3, if_neg hc17_5, if_pos hc47_13, if_pos hc61_14]
            obtain ⟨fs, hr, hrun, hended, hW, hsame⟩ := X0.leave (v := some (.int (0 : Int32))) (fun h => by rw [Bd.returns] at h; cases h)
            refine ⟨_, _, retN X0 hx (t := .boolean) Bd.returns (by simp) (hb hby d3_71) hr, hrun, hended, _, _, rfl, ?_, ⟨_, rfl⟩, hW, hsame.mono (by decide) (by decide)⟩
            show Q3 Z p0 r h0 n0 _ s₁.heap _
            rw [e0]
            exact ⟨by rw [← hr0, hv], N0, rfl⟩
          · refine own_via (fun t k => XS.icmpNo X0.here hx rfl (hb hby d3_61) rfl (feq hc61_14).1 k) ?_
            show own_Go p e below _ (s₁.setTop (mkF m 64 #[oI p0] []))
            refine own_via (fun t k => XS.iloadN X0.here hx rfl (hb hby d3_64) rfl k) ?_
            show own_Go p e below _ (s₁.setTop (mkF m 65 #[oI p0] [(.int p0)]))
            refine own_via (fun t k => X0.ldcInt hx hown (mvT hZ (own_w hw 20)) (g := (mkF m 65 #[oI p0] [(.int p0)])) rfl (hb hby d3_65) t k) ?_
            show own_Go p e below _ (s₁.setTop (mkF m 67 #[oI p0] [(.int (65535 : Int32)), (.int p0)]))
            by_cases hc67_16 : p0 = (65535 : Int32)
            · refine own_via (fun t k => XS.icmpNo X0.here hx rfl (hb hby d3_67) rfl (teq hc67_16).2 k) ?_
              show own_Go p e below _ (s₁.setTop (mkF m 70 #[oI p0] []))
              refine own_via (fun t k => XS.iconst X0.here hx rfl (hb hby d3_70) k) ?_
              show own_Go p e below _ (s₁.setTop (mkF m 71 #[oI p0] [(.int (0 : Int32))]))
              have hv : (f3 p0) = (0 : Int32) := by unfold f3; rw [if_neg hc1_1, if_neg hc9_3, if_neg hc17_5, if_pos hc47_13, if_neg hc61_14, if_pos hc67_16]
              obtain ⟨fs, hr, hrun, hended, hW, hsame⟩ := X0.leave (v := some (.int (0 : Int32))) (fun h => by rw [Bd.returns] at h; cases h)
              refine ⟨_, _, retN X0 hx (t := .boolean) Bd.returns (by simp) (hb hby d3_71) hr, hrun, hended, _, _, rfl, ?_, ⟨_, rfl⟩, hW, hsame.mono (by decide) (by decide)⟩
              show Q3 Z p0 r h0 n0 _ s₁.heap _
              rw [e0]
              exact ⟨by rw [← hr0, hv], N0, rfl⟩
            · refine own_via (fun t k => XS.icmpYes X0.here hx rfl (pc0 := 67) (pc' := 72) rfl (hb hby d3_67) rfl (feq hc67_16).2 (by decide) (by decide) k) ?_
              show own_Go p e below _ (s₁.setTop (mkF m 72 #[oI p0] []))
              refine own_via (fun t k => XS.iconst X0.here hx rfl (hb hby d3_72) k) ?_
              show own_Go p e below _ (s₁.setTop (mkF m 73 #[oI p0] [(.int (1 : Int32))]))
              have hv : (f3 p0) = (1 : Int32) := by unfold f3; rw [if_neg hc1_1, if_neg hc9_3, if_neg hc17_5, if_pos hc47_13, if_neg hc61_14, if_neg hc67_16]
              obtain ⟨fs, hr, hrun, hended, hW, hsame⟩ := X0.leave (v := some (.int (1 : Int32))) (fun h => by rw [Bd.returns] at h; cases h)
              refine ⟨_, _, retN X0 hx (t := .boolean) Bd.returns (by simp) (hb hby d3_73) hr, hrun, hended, _, _, rfl, ?_, ⟨_, rfl⟩, hW, hsame.mono (by decide) (by decide)⟩
              show Q3 Z p0 r h0 n0 _ s₁.heap _
              rw [e0]
              exact ⟨by rw [← hr0, hv], N0, rfl⟩
        · refine own_via (fun t k => XS.icmpNo X0.here hx rfl (hb hby d3_47) rfl (flt hc47_13).1 k) ?_
          show own_Go p e below _ (s₁.setTop (mkF m 50 #[oI p0] []))
          refine own_via (fun t k => XS.iloadN X0.here hx rfl (hb hby d3_50) rfl k) ?_
          show own_Go p e below _ (s₁.setTop (mkF m 51 #[oI p0] [(.int p0)]))
          refine own_via (fun t k => X0.ldcInt hx hown (mvT hZ (own_w hw 18)) (g := (mkF m 51 #[oI p0] [(.int p0)])) rfl (hb hby d3_51) t k) ?_
          show own_Go p e below _ (s₁.setTop (mkF m 53 #[oI p0] [(.int (57343 : Int32)), (.int p0)]))
          by_cases hc53_19 : (57343 : Int32) < p0
          · refine own_via (fun t k => XS.icmpYes X0.here hx rfl (pc0 := 53) (pc' := 58) rfl (hb hby d3_53) rfl (tlt hc53_19).2.2.1 (by decide) (by decide) k) ?_
            show own_Go p e below _ (s₁.setTop (mkF m 58 #[oI p0] []))
            refine own_via (fun t k => XS.iloadN X0.here hx rfl (hb hby d3_58) rfl k) ?_
            show own_Go p e below _ (s₁.setTop (mkF m 59 #[oI p0] [(.int p0)]))
            refine own_via (fun t k => X0.ldcInt hx hown (mvT hZ (own_w hw 19)) (g := (mkF m 59 #[oI p0] [(.int p0)])) rfl (hb hby d3_59) t k) ?_
            show own_Go p e below _ (s₁.setTop (mkF m 61 #[oI p0] [(.int (65534 : Int32)), (.int p0)]))
            by_cases hc61_20 : p0 = (65534 : Int32)
            · refine own_via (fun t k => XS.icmpYes X0.here hx rfl (pc0 := 61) (pc' := 70) rfl (hb hby d3_61) rfl (teq hc61_20).1 (by decide) (by decide) k) ?_
              show own_Go p e below _ (s₁.setTop (mkF m 70 #[oI p0] []))
              refine own_via (fun t k => XS.iconst X0.here hx rfl (hb hby d3_70) k) ?_
              show own_Go p e below _ (s₁.setTop (mkF m 71 #[oI p0] [(.int (0 : Int32))]))
              have hv : (f3 p0) = (0 : Int32) := by unfold f3; rw [if_neg hc1_1, if_neg hc9_3, if_neg hc17_5, if_neg hc47_13, if_pos hc53_19, if_pos hc61_20]
              obtain ⟨fs, hr, hrun, hended, hW, hsame⟩ := X0.leave (v := some (.int (0 : Int32))) (fun h => by rw [Bd.returns] at h; cases h)
              refine ⟨_, _, retN X0 hx (t := .boolean) Bd.returns (by simp) (hb hby d3_71) hr, hrun, hended, _, _, rfl, ?_, ⟨_, rfl⟩, hW, hsame.mono (by decide) (by decide)⟩
              show Q3 Z p0 r h0 n0 _ s₁.heap _
              rw [e0]
              exact ⟨by rw [← hr0, hv], N0, rfl⟩
            · refine own_via (fun t k => XS.icmpNo X0.here hx rfl (hb hby d3_61) rfl (feq hc61_20).1 k) ?_
              show own_Go p e below _ (s₁.setTop (mkF m 64 #[oI p0] []))
              refine own_via (fun t k => XS.iloadN X0.here hx rfl (hb hby d3_64) rfl k) ?_
              show own_Go p e below _ (s₁.setTop (mkF m 65 #[oI p0] [(.int p0)]))
              refine own_via (fun t k => X0.ldcInt hx hown (mvT hZ (own_w hw 20)) (g := (mkF m 65 #[oI p0] [(.int p0)])) rfl (hb hby d3_65) t k) ?_
              show own_Go p e below _ (s₁.setTop (mkF m 67 #[oI p0] [(.int (65535 : Int32)), (.int p0)]))
              by_cases hc67_22 : p0 = (65535 : Int32)
              · refine own_via (fun t k => XS.icmpNo X0.here hx rfl (hb hby d3_67) rfl (teq hc67_22).2 k) ?_
                show own_Go p e below _ (s₁.setTop (mkF m 70 #[oI p0] []))
                refine own_via (fun t k => XS.iconst X0.here hx rfl (hb hby d3_70) k) ?_
                show own_Go p e below _ (s₁.setTop (mkF m 71 #[oI p0] [(.int (0 : Int32))]))
                have hv : (f3 p0) = (0 : Int32) := by unfold f3; rw [if_neg hc1_1, if_neg hc9_3, if_neg hc17_5, if_neg hc47_13, if_pos hc53_19, if_neg hc61_20, if_pos hc67_22]
                obtain ⟨fs, hr, hrun, hended, hW, hsame⟩ := X0.leave (v := some (.int (0 : Int32))) (fun h => by rw [Bd.returns] at h; cases h)
                refine ⟨_, _, retN X0 hx (t := .boolean) Bd.returns (by simp) (hb hby d3_71) hr, hrun, hended, _, _, rfl, ?_, ⟨_, rfl⟩, hW, hsame.mono (by decide) (by decide)⟩
                show Q3 Z p0 r h0 n0 _ s₁.heap _
                rw [e0]
                exact ⟨by rw [← hr0, hv], N0, rfl⟩
              · refine own_via (fun t k => XS.icmpYes X0.here hx rfl (pc0 := 67) (pc' := 72) rfl (hb hby d3_67) rfl (feq hc67_22).2 (by decide) (by decide) k) ?_
                show own_Go p e below _ (s₁.setTop (mkF m 72 #[oI p0] []))
                refine own_via (fun t k => XS.iconst X0.here hx rfl (hb hby d3_72) k) ?_
                show own_Go p e below _ (s₁.setTop (mkF m 73 #[oI p0] [(.int (1 : Int32))]))
                have hv : (f3 p0) = (1 : Int32) := by unfold f3; rw [if_neg hc1_1, if_neg hc9_3, if_neg hc17_5, if_neg hc47_13, if_pos hc53_19, if_neg hc61_20, if_neg hc67_22]
                obtain ⟨fs, hr, hrun, hended, hW, hsame⟩ := X0.leave (v := some (.int (1 : Int32))) (fun h => by rw [Bd.returns] at h; cases h)
                refine ⟨_, _, retN X0 hx (t := .boolean) Bd.returns (by simp) (hb hby d3_73) hr, hrun, hended, _, _, rfl, ?_, ⟨_, rfl⟩, hW, hsame.mono (by decide) (by decide)⟩
                show Q3 Z p0 r h0 n0 _ s₁.heap _
                rw [e0]
                exact ⟨by rw [← hr0, hv], N0, rfl⟩
          · refine own_via (fun t k => XS.icmpNo X0.here hx rfl (hb hby d3_53) rfl (flt hc53_19).2.2.1 k) ?_
            show own_Go p e below _ (s₁.setTop (mkF m 56 #[oI p0] []))
            refine own_via (fun t k => XS.iconst X0.here hx rfl (hb hby d3_56) k) ?_
            show own_Go p e below _ (s₁.setTop (mkF m 57 #[oI p0] [(.int (0 : Int32))]))
            have hv : (f3 p0) = (0 : Int32) := by unfold f3; rw [if_neg hc1_1, if_neg hc9_3, if_neg hc17_5, if_neg hc47_13, if_neg hc53_19]
            obtain ⟨fs, hr, hrun, hended, hW, hsame⟩ := X0.leave (v := some (.int (0 : Int32))) (fun h => by rw [Bd.returns] at h; cases h)
            refine ⟨_, _, retN X0 hx (t := .boolean) Bd.returns (by simp) (hb hby d3_57) hr, hrun, hended, _, _, rfl, ?_, ⟨_, rfl⟩, hW, hsame.mono (by decide) (by decide)⟩
            show Q3 Z p0 r h0 n0 _ s₁.heap _
            rw [e0]
            exact ⟨by rw [← hr0, hv], N0, rfl⟩
def f0 (p0 : Int32) (p1 : Int32) (p2 : Int32) : Int32 := (if (f2 p0) = (f3 p0) then (if (f2 ((f1 (p1 &&& (15 : Int32))) + ((p2 &&& (7 : Int32)) - (3 : Int32)))) = (f3 ((f1 (p1 &&& (15 : Int32))) + ((p2 &&& (7 : Int32)) - (3 : Int32)))) then (1 : Int32) else (0 : Int32)) else (0 : Int32))
theorem own_same (c : Int32) : f2 c = f3 c := by
  unfold f2 f3
  simp only [Int32.lt_iff_toInt_lt]
  repeat' split
  all_goals first
    | rfl
    | (exfalso; simp only [← Int32.toInt_inj, Int32.reduceToInt] at *; omega)
theorem own_plain (p0 p1 p2 : Int32) : f0 p0 p1 p2 = 1 := by
  unfold f0
  rw [if_pos (own_same _), if_pos (own_same _)]
theorem pd_0_0 : parseMethodDescriptor "(I)I" = some ⟨[.int], some .int⟩ := by decide +kernel
theorem pd_0_1 : parseMethodDescriptor "(I)Z" = some ⟨[.int], some .boolean⟩ := by decide +kernel
theorem ef_rm0 (m : MethodId) (q0 : Int32) (q1 : Int32) (q2 : Int32) : entryFrame m #[(.int q0), (.int q1), (.int q2)] maxLocals = mkF m 0 #[oI q0, oI q1, oI q2, .unset] [] := by first | (simp [entryFrame, mkF, argsToLocals, Value.category, maxLocals]; done) | rfl
def Q0 (Z : State) (p0 : Int32) (p1 : Int32) (p2 : Int32) (h0 : Heap) (n0 : Nat) (v : Option Value) (h : Heap) (L : List Loc) : Prop := v = some (.int (1 : Int32)) ∧ Fr n0 L
set_option maxRecDepth 65536 in
set_option maxHeartbeats 40000000 in
theorem rm0 (l : Launch) (Z : State) (a0 : Array Value) (hw : ∀ d ∈ tables_1, d.before a0 Z = true) (ws : List Jvm.Cond) (p0 : Int32) (p1 : Int32) (p2 : Int32) (h0 : Heap) (n0 : Nat) (Z0 : n0 ≤ h0.size) :
    MetFree l x (head1 (Jvm.Cond.code x code maxLocals ret :: ws) room_1) (fun a U => a = #[(.int p0), (.int p1), (.int p2)] ∧ Z.Warmed39 U.vm ∧ U.heap = h0) (fun _ _ _ _ _ => True) (fun _ U o U' => ∃ v L, o = .returned v ∧ Q0 Z p0 p1 p2 h0 n0 v U'.heap L ∧ FrameEnd U o U' L room_1.cells room_1.slots) := by
  refine MetFree.of_bodySF (plainFor_of_name pn_1) hisR ?_
  intro p e s m args below meth c s₁ Bd hml0 hP hK
  obtain ⟨rfl, hZ, hh⟩ := hP
  have hx := Bd.exec
  have hby := Bd.bytes
  have hml : c.maxLocals = 4 := hml0
  have hown : s.vm.findClass "com/example/push_to_tree/pushtotree/XmlCharsIsCharPinLaw" = some m.cls := findClass_of_methodNamed Bd.named
  have hnm := (name_of_methodNamed Bd.named Bd.method).1
  have X0 : Stand p l e room_1 s m #[(.int p0), (.int p1), (.int p2)] below meth c s₁ [] 0 0 := Stand.of_body Bd
  have e0 : s₁.heap = h0 := by rw [← hh, Bd.state]; rfl
  have N0 := Fr.nil n0
  refine own_start ?_
  refine own_via (fun t k => castTop (ef_rm0 m p0 p1 p2) k) ?_
  show own_Go p e below _ (s₁.setTop (mkF m 0 #[oI p0, oI p1, oI p2, .unset] []))
  refine own_via (fun t k => XS.iloadN X0.here hx rfl (hb hby at_0) rfl k) ?_
  show own_Go p e below _ (s₁.setTop (mkF m 1 #[oI p0, oI p1, oI p2, .unset] [(.int p1)]))
  refine own_via (fun t k => XS.bipush X0.here hx rfl (hb hby at_1) k) ?_
  show own_Go p e below _ (s₁.setTop (mkF m 3 #[oI p0, oI p1, oI p2, .unset] [(.int (15 : Int32)), (.int p1)]))
  refine own_via (fun t k => XS.iand X0.here hx rfl (hb hby at_3) rfl k) ?_
  show own_Go p e below _ (s₁.setTop (mkF m 4 #[oI p0, oI p1, oI p2, .unset] [(.int (p1 &&& (15 : Int32)))]))
  obtain ⟨_, _, ⟨T1, L1, k1, n1⟩, -, X1, ⟨Lc1, hQ1, l1, y1, z1⟩, st1⟩ := Jvm.LawKit.callS X0 hx (y := (⟨"com/example/push_to_tree/pushtotree/XmlCharsIsCharPinLaw", "base", "(I)I"⟩ : MethodName)) hown (mvT hZ (own_w hw 0)) (mvT hZ (own_w hw 1)) (mvT hZ (own_w hw 2)) (mvT hZ (own_w hw 3)) (by decide) (backOf (W := 0) (rm1 l Z a0 hw [] (p1 &&& (15 : Int32)) (f1 (p1 &&& (15 : Int32))) h0 n0 Z0 rfl) hZ (own_w hw 3) (own_w hw 2) (by decide) (by decide)) (g := (mkF m 4 #[oI p0, oI p1, oI p2, .unset] [(.int (p1 &&& (15 : Int32)))])) rfl (by rw [hml]; rfl) (argsL := [(.int (p1 &&& (15 : Int32)))]) (rest := []) (lenOf pd_0_0 rfl) rfl (by show 2 * 0 + _ ≤ _; exact Nat.le_of_eq rfl) (hb hby at_4) (fun _ _ => ⟨rfl, e0, (by decide : 0 + 0 ≤ _), (by decide : 0 + 0 ≤ _)⟩)
  dsimp only [Pt.U, Pt.locs, Pt.cells, Pt.slots] at X1 l1 y1 z1 st1 hQ1
  subst l1 y1 z1
  obtain ⟨rfl, Nq1, e1⟩ := hQ1
  have N2 := Fr.app N0 Nq1
  refine own_via st1 ?_
  show own_Go p e below _ (T1.setTop (mkF m 7 #[oI p0, oI p1, oI p2, .unset] [(.int (f1 (p1 &&& (15 : Int32))))]))
  refine own_via (fun t k => XS.iloadN X1.here hx rfl (hb hby at_7) rfl k) ?_
  show own_Go p e below _ (T1.setTop (mkF m 8 #[oI p0, oI p1, oI p2, .unset] [(.int p2), (.int (f1 (p1 &&& (15 : Int32))))]))
  refine own_via (fun t k => XS.bipush X1.here hx rfl (hb hby at_8) k) ?_
  show own_Go p e below _ (T1.setTop (mkF m 10 #[oI p0, oI p1, oI p2, .unset] [(.int (7 : Int32)), (.int p2), (.int (f1 (p1 &&& (15 : Int32))))]))
  refine own_via (fun t k => XS.iand X1.here hx rfl (hb hby at_10) rfl k) ?_
  show own_Go p e below _ (T1.setTop (mkF m 11 #[oI p0, oI p1, oI p2, .unset] [(.int (p2 &&& (7 : Int32))), (.int (f1 (p1 &&& (15 : Int32))))]))
  refine own_via (fun t k => XS.iconst X1.here hx rfl (hb hby at_11) k) ?_
  show own_Go p e below _ (T1.setTop (mkF m 12 #[oI p0, oI p1, oI p2, .unset] [(.int (3 : Int32)), (.int (p2 &&& (7 : Int32))), (.int (f1 (p1 &&& (15 : Int32))))]))
  refine own_via (fun t k => XS.isub X1.here hx rfl (hb hby at_12) rfl k) ?_
  show own_Go p e below _ (T1.setTop (mkF m 13 #[oI p0, oI p1, oI p2, .unset] [(.int ((p2 &&& (7 : Int32)) - (3 : Int32))), (.int (f1 (p1 &&& (15 : Int32))))]))
  refine own_via (fun t k => XS.iadd X1.here hx rfl (hb hby at_13) rfl k) ?_
  show own_Go p e below _ (T1.setTop (mkF m 14 #[oI p0, oI p1, oI p2, .unset] [(.int ((f1 (p1 &&& (15 : Int32))) + ((p2 &&& (7 : Int32)) - (3 : Int32))))]))
  refine own_via (fun t k => XS.istoreN X1.here hx rfl (hb hby at_14) rfl (l' := #[oI p0, oI p1, oI p2, oI ((f1 (p1 &&& (15 : Int32))) + ((p2 &&& (7 : Int32)) - (3 : Int32)))]) rfl k) ?_
  show own_Go p e below _ (T1.setTop (mkF m 15 #[oI p0, oI p1, oI p2, oI ((f1 (p1 &&& (15 : Int32))) + ((p2 &&& (7 : Int32)) - (3 : Int32)))] []))
  refine own_via (fun t k => XS.iloadN X1.here hx rfl (hb hby at_15) rfl k) ?_
  show own_Go p e below _ (T1.setTop (mkF m 16 #[oI p0, oI p1, oI p2, oI ((f1 (p1 &&& (15 : Int32))) + ((p2 &&& (7 : Int32)) - (3 : Int32)))] [(.int p0)]))
  obtain ⟨_, _, ⟨T3, L3, k3, n3⟩, -, X3, ⟨Lc3, hQ3, l3, y3, z3⟩, st3⟩ := Jvm.LawKit.callS X1 hx (y := (⟨"com/example/push_to_tree/pushtotree/XmlChars", "isChar", "(I)Z"⟩ : MethodName)) hown (mvT hZ (own_w hw 4)) (mvT hZ (own_w hw 5)) (mvT hZ (own_w hw 6)) (mvT hZ (own_w hw 7)) (by decide) (backOf (W := 0) (rm2 l Z a0 hw [] p0 (f2 p0) h0 n0 Z0 rfl) hZ (own_w hw 7) (own_w hw 6) (by decide) (by decide)) (g := (mkF m 16 #[oI p0, oI p1, oI p2, oI ((f1 (p1 &&& (15 : Int32))) + ((p2 &&& (7 : Int32)) - (3 : Int32)))] [(.int p0)])) rfl (by rw [hml]; rfl) (argsL := [(.int p0)]) (rest := []) (lenOf pd_0_1 rfl) rfl (by show 2 * 0 + _ ≤ _; exact Nat.le_of_eq rfl) (hb hby at_16) (fun _ _ => ⟨rfl, e1, (by decide : 0 + 0 ≤ _), (by decide : 0 + 0 ≤ _)⟩)
  dsimp only [Pt.U, Pt.locs, Pt.cells, Pt.slots] at X3 l3 y3 z3 st3 hQ3
  subst l3 y3 z3
  obtain ⟨rfl, Nq3, e3⟩ := hQ3
  have N4 := Fr.app N2 Nq3
  refine own_via st3 ?_
  show own_Go p e below _ (T3.setTop (mkF m 19 #[oI p0, oI p1, oI p2, oI ((f1 (p1 &&& (15 : Int32))) + ((p2 &&& (7 : Int32)) - (3 : Int32)))] [(.int (f2 p0))]))
  refine own_via (fun t k => XS.iloadN X3.here hx rfl (hb hby at_19) rfl k) ?_
  show own_Go p e below _ (T3.setTop (mkF m 20 #[oI p0, oI p1, oI p2, oI ((f1 (p1 &&& (15 : Int32))) + ((p2 &&& (7 : Int32)) - (3 : Int32)))] [(.int p0), (.int (f2 p0))]))
  obtain ⟨_, _, ⟨T5, L5, k5, n5⟩, -, X5, ⟨Lc5, hQ5, l5, y5, z5⟩, st5⟩ := Jvm.LawKit.callS X3 hx (y := (⟨"com/example/push_to_tree/pushtotree/XmlCharsIsCharPinLaw", "ref", "(I)Z"⟩ : MethodName)) hown (mvT hZ (own_w hw 8)) (mvT hZ (own_w hw 9)) (mvT hZ (own_w hw 2)) (mvT hZ (own_w hw 10)) (by decide) (backOf (W := 1) (rm3 l Z a0 hw [] p0 (f3 p0) h0 n0 Z0 rfl) hZ (own_w hw 10) (own_w hw 2) (by decide) (by decide)) (g := (mkF m 20 #[oI p0, oI p1, oI p2, oI ((f1 (p1 &&& (15 : Int32))) + ((p2 &&& (7 : Int32)) - (3 : Int32)))] [(.int p0), (.int (f2 p0))])) rfl (by rw [hml]; rfl) (argsL := [(.int p0)]) (rest := [(.int (f2 p0))]) (lenOf pd_0_1 rfl) rfl (by show 2 * 0 + _ ≤ _; exact Nat.le_of_eq rfl) (hb hby at_20) (fun _ _ => ⟨rfl, e3, (by decide : 0 + 0 ≤ _), (by decide : 0 + 0 ≤ _)⟩)
  dsimp only [Pt.U, Pt.locs, Pt.cells, Pt.slots] at X5 l5 y5 z5 st5 hQ5
  subst l5 y5 z5
  obtain ⟨rfl, Nq5, e5⟩ := hQ5
  have N6 := Fr.app N4 Nq5
  refine own_via st5 ?_
  show own_Go p e below _ (T5.setTop (mkF m 23 #[oI p0, oI p1, oI p2, oI ((f1 (p1 &&& (15 : Int32))) + ((p2 &&& (7 : Int32)) - (3 : Int32)))] [(.int (f3 p0)), (.int (f2 p0))]))
  by_cases hc23_7 : (f2 p0) = (f3 p0)
  · refine own_via (fun t k => XS.icmpNo X5.here hx rfl (hb hby at_23) rfl (teq hc23_7).2 k) ?_
    show own_Go p e below _ (T5.setTop (mkF m 26 #[oI p0, oI p1, oI p2, oI ((f1 (p1 &&& (15 : Int32))) + ((p2 &&& (7 : Int32)) - (3 : Int32)))] []))
    refine own_via (fun t k => XS.iloadN X5.here hx rfl (hb hby at_26) rfl k) ?_
    show own_Go p e below _ (T5.setTop (mkF m 27 #[oI p0, oI p1, oI p2, oI ((f1 (p1 &&& (15 : Int32))) + ((p2 &&& (7 : Int32)) - (3 : Int32)))] [(.int ((f1 (p1 &&& (15 : Int32))) + ((p2 &&& (7 : Int32)) - (3 : Int32))))]))
    obtain ⟨_, _, ⟨T8, L8, k8, n8⟩, -, X8, ⟨Lc8, hQ8, l8, y8, z8⟩, st8⟩ := Jvm.LawKit.callS X5 hx (y := (⟨"com/example/push_to_tree/pushtotree/XmlChars", "isChar", "(I)Z"⟩ : MethodName)) hown (mvT hZ (own_w hw 4)) (mvT hZ (own_w hw 5)) (mvT hZ (own_w hw 6)) (mvT hZ (own_w hw 7)) (by decide) (backOf (W := 0) (rm2 l Z a0 hw [] ((f1 (p1 &&& (15 : Int32))) + ((p2 &&& (7 : Int32)) - (3 : Int32))) (f2 ((f1 (p1 &&& (15 : Int32))) + ((p2 &&& (7 : Int32)) - (3 : Int32)))) h0 n0 Z0 rfl) hZ (own_w hw 7) (own_w hw 6) (by decide) (by decide)) (g := (mkF m 27 #[oI p0, oI p1, oI p2, oI ((f1 (p1 &&& (15 : Int32))) + ((p2 &&& (7 : Int32)) - (3 : Int32)))] [(.int ((f1 (p1 &&& (15 : Int32))) + ((p2 &&& (7 : Int32)) - (3 : Int32))))])) rfl (by rw [hml]; rfl) (argsL := [(.int ((f1 (p1 &&& (15 : Int32))) + ((p2 &&& (7 : Int32)) - (3 : Int32))))]) (rest := []) (lenOf pd_0_1 rfl) rfl (by show 2 * 0 + _ ≤ _; exact Nat.le_of_eq rfl) (hb hby at_27) (fun _ _ => ⟨rfl, e5, (by decide : 0 + 0 ≤ _), (by decide : 0 + 0 ≤ _)⟩)
    dsimp only [Pt.U, Pt.locs, Pt.cells, Pt.slots] at X8 l8 y8 z8 st8 hQ8
    subst l8 y8 z8
    obtain ⟨rfl, Nq8, e8⟩ := hQ8
    have N9 := Fr.app N6 Nq8
    refine own_via st8 ?_
    show own_Go p e below _ (T8.setTop (mkF m 30 #[oI p0, oI p1, oI p2, oI ((f1 (p1 &&& (15 : Int32))) + ((p2 &&& (7 : Int32)) - (3 : Int32)))] [(.int (f2 ((f1 (p1 &&& (15 : Int32))) + ((p2 &&& (7 : Int32)) - (3 : Int32)))))]))
    refine own_via (fun t k => XS.iloadN X8.here hx rfl (hb hby at_30) rfl k) ?_
    show own_Go p e below _ (T8.setTop (mkF m 31 #[oI p0, oI p1, oI p2, oI ((f1 (p1 &&& (15 : Int32))) + ((p2 &&& (7 : Int32)) - (3 : Int32)))] [(.int ((f1 (p1 &&& (15 : Int32))) + ((p2 &&& (7 : Int32)) - (3 : Int32)))), (.int (f2 ((f1 (p1 &&& (15 : Int32))) + ((p2 &&& (7 : Int32)) - (3 : Int32)))))]))
    obtain ⟨_, _, ⟨T10, L10, k10, n10⟩, -, X10, ⟨Lc10, hQ10, l10, y10, z10⟩, st10⟩ := Jvm.LawKit.callS X8 hx (y := (⟨"com/example/push_to_tree/pushtotree/XmlCharsIsCharPinLaw", "ref", "(I)Z"⟩ : MethodName)) hown (mvT hZ (own_w hw 8)) (mvT hZ (own_w hw 9)) (mvT hZ (own_w hw 2)) (mvT hZ (own_w hw 10)) (by decide) (backOf (W := 1) (rm3 l Z a0 hw [] ((f1 (p1 &&& (15 : Int32))) + ((p2 &&& (7 : Int32)) - (3 : Int32))) (f3 ((f1 (p1 &&& (15 : Int32))) + ((p2 &&& (7 : Int32)) - (3 : Int32)))) h0 n0 Z0 rfl) hZ (own_w hw 10) (own_w hw 2) (by decide) (by decide)) (g := (mkF m 31 #[oI p0, oI p1, oI p2, oI ((f1 (p1 &&& (15 : Int32))) + ((p2 &&& (7 : Int32)) - (3 : Int32)))] [(.int ((f1 (p1 &&& (15 : Int32))) + ((p2 &&& (7 : Int32)) - (3 : Int32)))), (.int (f2 ((f1 (p1 &&& (15 : Int32))) + ((p2 &&& (7 : Int32)) - (3 : Int32)))))])) rfl (by rw [hml]; rfl) (argsL := [(.int ((f1 (p1 &&& (15 : Int32))) + ((p2 &&& (7 : Int32)) - (3 : Int32))))]) (rest := [(.int (f2 ((f1 (p1 &&& (15 : Int32))) + ((p2 &&& (7 : Int32)) - (3 : Int32)))))]) (lenOf pd_0_1 rfl) rfl (by show 2 * 0 + _ ≤ _; exact Nat.le_of_eq rfl) (hb hby at_31) (fun _ _ => ⟨rfl, e8, (by decide : 0 + 0 ≤ _), (by decide : 0 + 0 ≤ _)⟩)
    dsimp only [Pt.U, Pt.locs, Pt.cells, Pt.slots] at X10 l10 y10 z10 st10 hQ10
    subst l10 y10 z10
    obtain ⟨rfl, Nq10, e10⟩ := hQ10
    have N11 := Fr.app N9 Nq10
    refine own_via st10 ?_
    show own_Go p e below _ (T10.setTop (mkF m 34 #[oI p0, oI p1, oI p2, oI ((f1 (p1 &&& (15 : Int32))) + ((p2 &&& (7 : Int32)) - (3 : Int32)))] [(.int (f3 ((f1 (p1 &&& (15 : Int32))) + ((p2 &&& (7 : Int32)) - (3 : Int32))))), (.int (f2 ((f1 (p1 &&& (15 : Int32))) + ((p2 &&& (7 : Int32)) - (3 : Int32)))))]))
    by_cases hc34_12 : (f2 ((f1 (p1 &&& (15 : Int32))) + ((p2 &&& (7 : Int32)) - (3 : Int32)))) = (f3 ((f1 (p1 &&& (15 : Int32))) + ((p2 &&& (7 : Int32)) - (3 : Int32))))
    · refine own_via (fun t k => XS.icmpNo X10.here hx rfl (hb hby at_34) rfl (teq hc34_12).2 k) ?_
      show own_Go p e below _ (T10.setTop (mkF m 37 #[oI p0, oI p1, oI p2, oI ((f1 (p1 &&& (15 : Int32))) + ((p2 &&& (7 : Int32)) - (3 : Int32)))] []))
      refine own_via (fun t k => XS.iconst X10.here hx rfl (hb hby at_37) k) ?_
      show own_Go p e below _ (T10.setTop (mkF m 38 #[oI p0, oI p1, oI p2, oI ((f1 (p1 &&& (15 : Int32))) + ((p2 &&& (7 : Int32)) - (3 : Int32)))] [(.int (1 : Int32))]))
      refine own_via (fun t k => XS.goto X10.here hx rfl (pc0 := 38) (pc' := 42) rfl (hb hby at_38) (by decide) (by decide) k) ?_
      show own_Go p e below _ (T10.setTop (mkF m 42 #[oI p0, oI p1, oI p2, oI ((f1 (p1 &&& (15 : Int32))) + ((p2 &&& (7 : Int32)) - (3 : Int32)))] [(.int (1 : Int32))]))
      have hv : (f0 p0 p1 p2) = (1 : Int32) := by unfold f0; rw [if_pos hc23_7, if_pos hc34_12]
      obtain ⟨fs, hr, hrun, hended, hW, hsame⟩ := X10.leave (v := some (.int (1 : Int32))) (fun h => by rw [Bd.returns] at h; cases h)
      refine ⟨_, _, retN X10 hx (t := .boolean) Bd.returns (by simp) (hb hby at_42) hr, hrun, hended, _, _, rfl, ?_, ⟨_, rfl⟩, hW, hsame.mono (by decide) (by decide)⟩
      show Q0 Z p0 p1 p2 h0 n0 _ T10.heap _
      rw [e10]
      exact ⟨rfl, N11⟩
    · refine own_via (fun t k => XS.icmpYes X10.here hx rfl (pc0 := 34) (pc' := 41) rfl (hb hby at_34) rfl (feq hc34_12).2 (by decide) (by decide) k) ?_
      show own_Go p e below _ (T10.setTop (mkF m 41 #[oI p0, oI p1, oI p2, oI ((f1 (p1 &&& (15 : Int32))) + ((p2 &&& (7 : Int32)) - (3 : Int32)))] []))
      refine own_via (fun t k => XS.iconst X10.here hx rfl (hb hby at_41) k) ?_
      show own_Go p e below _ (T10.setTop (mkF m 42 #[oI p0, oI p1, oI p2, oI ((f1 (p1 &&& (15 : Int32))) + ((p2 &&& (7 : Int32)) - (3 : Int32)))] [(.int (0 : Int32))]))
      have hv : (f0 p0 p1 p2) = (0 : Int32) := by unfold f0; rw [if_pos hc23_7, if_neg hc34_12]
      exact absurd ((own_plain p0 p1 p2).symm.trans hv) (by decide)
  · refine own_via (fun t k => XS.icmpYes X5.here hx rfl (pc0 := 23) (pc' := 41) rfl (hb hby at_23) rfl (feq hc23_7).2 (by decide) (by decide) k) ?_
    show own_Go p e below _ (T5.setTop (mkF m 41 #[oI p0, oI p1, oI p2, oI ((f1 (p1 &&& (15 : Int32))) + ((p2 &&& (7 : Int32)) - (3 : Int32)))] []))
    refine own_via (fun t k => XS.iconst X5.here hx rfl (hb hby at_41) k) ?_
    show own_Go p e below _ (T5.setTop (mkF m 42 #[oI p0, oI p1, oI p2, oI ((f1 (p1 &&& (15 : Int32))) + ((p2 &&& (7 : Int32)) - (3 : Int32)))] [(.int (0 : Int32))]))
    have hv : (f0 p0 p1 p2) = (0 : Int32) := by unfold f0; rw [if_neg hc23_7]
    exact absurd ((own_plain p0 p1 p2).symm.trans hv) (by decide)
set_option maxRecDepth 65536 in
set_option maxHeartbeats 40000000 in
theorem comes_1 {Post : Tables → Env → Array Value → State → Outcome → State → Prop} (hpost : ∀ tb e args s v u, (limb_1_1.after args s (.returned v) u = true ∧ limb_1_2.after args s (.returned v) u = true ∧ True) → FrameEnd s (.returned v) u (Jvm.fieldLocs frame_1_writes args s ++ Jvm.arrayLocs frame_1_arrays args s ++ Jvm.staticLocs frame_1_statics s) 0 0 → Post tb e args s (.returned v) u) :
    ArmFor flags0 classFile x code maxLocals ret World_1 tables_1 room_1 Calls_1 rest_1 Pre_1 Post := by
  intro l hfl _ _ p e ha hc hk s m args below hf hA hF happ hP
  obtain ⟨hcalls, hrest, hpre⟩ := hP
  obtain ⟨-, -, -, hnamed, -, -, -, hat⟩ := (Spec.applies_iff hf).mp happ
  obtain ⟨hg, hn⟩ := and_e (Cond.before_iff.mp (show (Jvm.Cond.and given_1 narrow_1).before args s = true from hpre))
  obtain ⟨g1, g2⟩ := and_e hg
  obtain ⟨g3, g4⟩ := and_e g2
  obtain ⟨g5, g6⟩ := and_e g4
  obtain ⟨w0, w1, w2, rfl⟩ : ∃ w0 w1 w2 : Value, args = #[w0, w1, w2] := by
    have hs : args.size = 3 := by simpa [Cond.value, given_1] using g1
    obtain ⟨L⟩ := args
    match L, hs with
    | [w0, w1, w2], _ => exact ⟨w0, w1, w2, rfl⟩
  have hw := fun d (hd : d ∈ tables_1) => atoms_spec (ws := Jvm.Cond.code x code maxLocals ret :: tables_1) hat d (List.mem_cons_of_mem _ hd)
  obtain ⟨i0, ei0⟩ := is_v g3
  obtain rfl : w0 = (.int i0) := Option.some.inj ei0
  obtain ⟨i1, ei1⟩ := is_v g5
  obtain rfl : w1 = (.int i1) := Option.some.inj ei1
  obtain ⟨i2, ei2⟩ := is_v g6
  obtain rfl : w2 = (.int i2) := Option.some.inj ei2
  obtain ⟨n, o, h1, h2, h3, _, L, rfl, ⟨rfl, N⟩, hq⟩ := rm0 l s _ hw tables_1 i0 i1 i2 s.heap s.heap.size (Nat.le_refl _)  p e ha hc hk s m _ below hf ((Spec.applies_iff_loose hf).mp happ).1 ⟨rfl, State.Warmed39.refl s, rfl⟩ trivial
  refine ⟨n, _, h1, h2, h3, hpost _ _ _ _ _ _ ⟨Cond.after_iff.mpr rfl, Cond.after_iff.mpr (eq_i res_at (Term.int_eval (1)) rfl), trivial⟩ ⟨hq.1, hq.2.1, (hq.2.2.sift fun y hy => Or.inr (N y hy)).mono (by decide) (by decide)⟩⟩
theorem main_1_1 : Claimed_1_1 := comes_1 fun _ _ _ _ _ _ h hF => ⟨h.1, hF⟩
theorem main_1_2 : Claimed_1_2 := comes_1 fun _ _ _ _ _ _ h hF => ⟨h.2.1, hF⟩
end Jvm.Pilot.@@N@@
namespace Jvm.Pilot.@@N@@
open Jvm Jvm.ClassFile Sem Op Lib Jvm.Free Jvm.Stand Jvm.Pilot.@@N@@.Jvm.D
/-! MADE BY PROGRAM (witnessworld.py) out of the Statement's table words and the real class files: 7 classes; the members and pool entries that the words name. The judged class is class 1, her method 1. -/
namespace start1
open Jvm.ClassFile
def u (s : String) : CpInfo := .utf8 (stringToUtf16 s)
/-- a pool by its gaps: so many unusable entries, then the entry; so many at the end -/
def gap : Nat → List CpInfo → List CpInfo
  | 0, r => r
  | n + 1, r => .unusable :: gap n r
def poolList (es : List (Nat × CpInfo)) (last : Nat) : List CpInfo := es.foldr (fun e r => gap e.1 (e.2 :: r)) (gap last [])
def pool (es : List (Nat × CpInfo)) (last : Nat) : Array CpInfo := ⟨poolList es last⟩
def fileOf (pool : Array CpInfo) (this : Nat) (attrs : Array Attribute := #[]) (ms : Array MethodInfo := #[]) (fl : Nat := 33) (sup : Nat := 0) (ifs : Array Nat := #[]) (fds : Array FieldInfo := #[]) : ClassFile where
  minorVersion := 0
  majorVersion := 65
  constantPool := pool
  accessFlags := fl
  thisClass := this
  superClass := sup
  interfaces := ifs
  fields := fds
  methods := ms
  attributes := attrs
def plain (name : String) (sup : Option ClassId) : Class where
  name := name
  kind := .ordinary
  loader := none
  accessFlags := 33
  super := sup
  interfaces := #[]
  cf := none
  fields := #[]
  methods := #[]
  instanceTypes := #[]
  staticTypes := #[]
  resolved := #[]
  callSites := []
  init := .initialized
  statics := none
  mirror := none

def pool0 : Array CpInfo := pool [(5, u "<init>"), (0, u "()V"), (1, .class_ 10), (1, u "java/lang/Object")] 113

def k0m0 : Method := { name := "<init>", desc := "()V", sig := { parameters := [], returnType := none }, accessFlags := 1, code := none }
/-- java/lang/Object -/
def k0 : Class := { plain "java/lang/Object" none with
  accessFlags := 33
  interfaces := #[]
  cf := some (fileOf pool0 8 #[] #[{ accessFlags := 1, nameIndex := 5, descriptorIndex := 6, attributes := #[] }] 33 0 #[] #[])
  fields := #[]
  methods := #[k0m0]
  instanceTypes := #[]
  staticTypes := #[]
  resolved := Array.replicate 124 none
  statics := none }

def pool1 : Array CpInfo := pool [(2, .class_ 4), (1, u "java/lang/Object"), (0, u "<init>"), (0, u "()V"), (0, .methodref 8 9), (0, .class_ 10), (0, .nameAndType 11 12), (0, u "com/example/push_to_tree/pushtotree/XmlCharsIsCharPinLaw"), (0, u "base"), (0, u "(I)I"), (0, .methodref 14 15), (0, .class_ 16), (0, .nameAndType 17 18), (0, u "com/example/push_to_tree/pushtotree/XmlChars"), (0, u "isChar"), (0, u "(I)Z"), (0, .methodref 8 20), (0, .nameAndType 21 18), (0, u "ref"), (2, .integer 2147483648), (0, .integer 55295), (0, .integer 55296), (0, .integer 57343), (0, .integer 57344), (0, .integer 65533), (0, .integer 65535), (0, .integer 65536), (0, .integer 1114111), (0, .integer 1114112), (0, .integer 2147483647), (0, .integer 65534), (2, u "law"), (0, u "(III)Z")] 3

def k1m0 : Method := { name := "<init>", desc := "()V", sig := { parameters := [], returnType := none }, accessFlags := 2, code := none }
def k1c1 : Code := { maxStack := 3, maxLocals := 4, code := code, exceptionTable := #[], attributes := #[] }
def k1m1 : Method := { name := "law", desc := "(III)Z", sig := { parameters := [.int, .int, .int], returnType := some .boolean }, accessFlags := 9, code := some k1c1 }
def k1c2 : Code := { maxStack := 2, maxLocals := 1, code := method_3_code, exceptionTable := #[], attributes := #[] }
def k1m2 : Method := { name := "base", desc := "(I)I", sig := { parameters := [.int], returnType := some .int }, accessFlags := 10, code := some k1c2 }
def k1c3 : Code := { maxStack := 2, maxLocals := 1, code := method_4_code, exceptionTable := #[], attributes := #[] }
def k1m3 : Method := { name := "ref", desc := "(I)Z", sig := { parameters := [.int], returnType := some .boolean }, accessFlags := 10, code := some k1c3 }
/-- com/example/push_to_tree/pushtotree/XmlCharsIsCharPinLaw -/
def k1 : Class := { plain "com/example/push_to_tree/pushtotree/XmlCharsIsCharPinLaw" (some 0) with
  accessFlags := 49
  interfaces := #[]
  cf := some (fileOf pool1 8 #[] #[{ accessFlags := 2, nameIndex := 5, descriptorIndex := 6, attributes := #[] }, { accessFlags := 9, nameIndex := 38, descriptorIndex := 39, attributes := #[] }, { accessFlags := 10, nameIndex := 11, descriptorIndex := 12, attributes := #[] }, { accessFlags := 10, nameIndex := 21, descriptorIndex := 18, attributes := #[] }] 49 2 #[] #[])
  fields := #[]
  methods := #[k1m0, k1m1, k1m2, k1m3]
  instanceTypes := #[]
  staticTypes := #[]
  resolved := Array.replicate 43 none
  statics := none }

def pool2 : Array CpInfo := pool [(2, .class_ 4), (1, u "java/lang/Object"), (0, u "<init>"), (0, u "()V"), (0, .integer 55295), (0, .integer 57344), (0, .integer 65533), (0, .integer 65536), (0, .integer 1114111), (1, .class_ 15), (1, u "com/example/push_to_tree/pushtotree/XmlChars"), (0, u "PREDEFINED_ENTITIES"), (0, u "Ljava/util/Map;"), (10, u "CHARACTER_REFERENCE"), (0, u "Ljava/util/regex/Pattern;"), (34, u "isChar"), (0, u "(I)Z"), (24, u "NAME_START_CHARS"), (0, u "[I"), (12, u "OTHER_NAME_CHARS"), (43, u "PUBLIC_ID_MARKS"), (0, u "Ljava/lang/String;")] 12

def k2m0 : Method := { name := "<init>", desc := "()V", sig := { parameters := [], returnType := none }, accessFlags := 2, code := none }
def k2c1 : Code := { maxStack := 2, maxLocals := 1, code := prog_89_method_2_code, exceptionTable := #[], attributes := #[] }
def k2m1 : Method := { name := "isChar", desc := "(I)Z", sig := { parameters := [.int], returnType := some .boolean }, accessFlags := 8, code := some k2c1 }
/-- com/example/push_to_tree/pushtotree/XmlChars -/
def k2 : Class := { plain "com/example/push_to_tree/pushtotree/XmlChars" (some 0) with
  accessFlags := 48
  interfaces := #[]
  cf := some (fileOf pool2 13 #[] #[{ accessFlags := 2, nameIndex := 5, descriptorIndex := 6, attributes := #[] }, { accessFlags := 8, nameIndex := 64, descriptorIndex := 65, attributes := #[] }] 48 2 #[] #[{ accessFlags := 26, nameIndex := 90, descriptorIndex := 91, attributes := #[] }, { accessFlags := 26, nameIndex := 104, descriptorIndex := 91, attributes := #[] }, { accessFlags := 26, nameIndex := 16, descriptorIndex := 17, attributes := #[] }, { accessFlags := 26, nameIndex := 28, descriptorIndex := 29, attributes := #[] }, { accessFlags := 26, nameIndex := 148, descriptorIndex := 149, attributes := #[] }])
  fields := #[{ name := "NAME_START_CHARS", type := (.array .int), accessFlags := 26, slot := 0, constantValue := 0 }, { name := "OTHER_NAME_CHARS", type := (.array .int), accessFlags := 26, slot := 1, constantValue := 0 }, { name := "PREDEFINED_ENTITIES", type := (.object "java/util/Map"), accessFlags := 26, slot := 2, constantValue := 0 }, { name := "CHARACTER_REFERENCE", type := (.object "java/util/regex/Pattern"), accessFlags := 26, slot := 3, constantValue := 0 }, { name := "PUBLIC_ID_MARKS", type := (.object "java/lang/String"), accessFlags := 26, slot := 4, constantValue := 0 }]
  methods := #[k2m0, k2m1]
  instanceTypes := #[]
  staticTypes := #[(.array .int), (.array .int), (.object "java/util/Map"), (.object "java/util/regex/Pattern"), (.object "java/lang/String")]
  resolved := Array.replicate 162 none
  statics := none }

def pool3 : Array CpInfo := pool [(1, u "java/lang/Cloneable"), (0, .class_ 1), (0, u "java/lang/Object"), (0, .class_ 3)] 3

/-- java/lang/Cloneable -/
def k3 : Class := { plain "java/lang/Cloneable" (some 0) with
  accessFlags := 1537
  interfaces := #[]
  cf := some (fileOf pool3 2 #[] #[] 1537 4 #[] #[])
  fields := #[]
  methods := #[]
  instanceTypes := #[]
  staticTypes := #[]
  resolved := Array.replicate 8 none
  statics := none }

def pool4 : Array CpInfo := pool [(1, u "java/io/Serializable"), (0, .class_ 1), (0, u "java/lang/Object"), (0, .class_ 3)] 3

/-- java/io/Serializable -/
def k4 : Class := { plain "java/io/Serializable" (some 0) with
  accessFlags := 1537
  interfaces := #[]
  cf := some (fileOf pool4 2 #[] #[] 1537 4 #[] #[])
  fields := #[]
  methods := #[]
  instanceTypes := #[]
  staticTypes := #[]
  resolved := Array.replicate 8 none
  statics := none }

/-- the primitive byte -/
def k5 : Class := { plain "byte" none with kind := .primitive 'B', accessFlags := 0x411 }
/-- [B -/
def k6 : Class := { plain "[B" (some 0) with kind := .array 5 .byte, interfaces := #[3, 4], accessFlags := 1041 }

def heap : Heap := #[]
def classes : Array Class := #[k0, k1, k2, k3, k4, k5, k6]
def interned : List (Array UInt16 × Addr) := []
def slotsUsed : Nat := 0
def theMethod : MethodId := ⟨1, 1⟩
def args0 : Array Value := #[.int 5, .int 3, .int 4]
def aboutOver (below : List Frame) : State where
  vm := { classes := classes, interned := interned.toArray }
  heap := heap
  slotsUsed := slotsUsed
  threads := #[{ frames := .invoking theMethod args0 :: below }]
def below0 : List Frame := [.native { method := ⟨0, 0⟩, args := #[] }]
def about1 : State := aboutOver below0
def p0 : Program := .bare "" "" ""
def e0 : Env := launch0.env 0 0 0
theorem w_frames : about1.frames = Frame.invoking theMethod args0 :: below0 := rfl
set_option maxRecDepth 65536 in
theorem w_args : argsFit about1.vm theMethod args0 = true := by decide +kernel
set_option maxRecDepth 65536 in
theorem w_heap : heapFits about1 = true := by decide +kernel
set_option maxRecDepth 65536 in
theorem w_runnable : about1.curStatus? = some .runnable := by decide +kernel
set_option maxRecDepth 65536 in
theorem w_alone : about1.alone = true := by decide +kernel
set_option maxRecDepth 65536 in
theorem w_named : about1.methodNamed? x = some theMethod := by decide +kernel
set_option maxRecDepth 65536 in
theorem w_hears : about1.hears theMethod below0 = true := by decide +kernel
set_option maxRecDepth 65536 in
theorem w_ripe : about1.ripe theMethod args0 below0 = true := by decide +kernel
theorem w_running : about1.status = .running := rfl
set_option maxRecDepth 65536 in
theorem w_room : about1.hasRoom e0.platform room_1 = true :=
  launch0.hasRoom_least _ room_1 (by decide +kernel) (by decide +kernel) (by decide +kernel) (by decide +kernel) (by decide +kernel) (by decide +kernel)
theorem allAtoms_all (ts : List Jvm.Cond) (a : Array Jvm.Value) (st : Jvm.State) : (allAtoms ts).before a st = ts.all (fun c => c.before a st) := by
  induction ts with
  | nil => rfl
  | cons c t ih =>
    show (Jvm.Cond.and c (allAtoms t)).before a st = _
    rw [Jvm.Cond.before_and, ih, List.all_cons]
def words1 : List Jvm.Cond := Jvm.Cond.code x code maxLocals ret :: tables_1
/-- a 'code' word, met by the world's own term for the bytes: nothing is compared byte by byte -/
theorem code_word {y : MethodName} {bytes : ByteArray} {mx : Nat} {rt : Option FieldType} {a : Array Value} {s : State} {m : MethodId} {meth : Method} {c : Code} (h1 : s.methodNamed? y = some m) (h2 : s.vm.method? m = some meth) (h3 : meth.code = some c) (h4 : c.code = bytes)
    (h5 : (c.maxLocals == mx && c.exceptionTable.isEmpty && decide (c.maxStack ≤ mostOperands) && decide (meth.sig.returnType = rt) && !meth.locks && decide (parseMethodDescriptor y.desc = some meth.sig)) = true) : (Jvm.Cond.code y bytes mx rt).before a s = true := by
  simp only [Bool.and_eq_true, beq_iff_eq, Bool.not_eq_true', decide_eq_true_eq] at h5
  obtain ⟨⟨⟨⟨⟨g1, g2⟩, g3⟩, g4⟩, g5⟩, g6⟩ := h5
  simp [Cond.before, Cond.holds, Cond.value, h1, h2, h3, h4, g1, g2, g3, g4, g5, g6]
def isCode : Jvm.Cond → Bool
  | .code _ _ _ _ => true
  | _ => false
theorem all_split {L : List Jvm.Cond} {P : Jvm.Cond → Bool} (h1 : L.all (fun c => isCode c || P c) = true) (h2 : ∀ c ∈ L.filter isCode, P c = true) : L.all P = true := by
  refine List.all_eq_true.mpr fun c hc => ?_
  have h := List.all_eq_true.mp h1 c hc
  rcases Bool.eq_false_or_eq_true (isCode c) with hi | hi
  · exact h2 c (List.mem_filter.mpr ⟨hc, hi⟩)
  · simpa [hi] using h
set_option maxRecDepth 65536 in
theorem w_c0 : (Jvm.Cond.code x code maxLocals ret).before args0 about1 = true := code_word (m := ⟨1, 1⟩) (meth := k1m1) (c := k1c1) (by decide +kernel) rfl rfl rfl (by decide +kernel)
set_option maxRecDepth 65536 in
theorem w_c1 : (Jvm.Cond.code ({ cls := "com/example/push_to_tree/pushtotree/XmlCharsIsCharPinLaw", name := "base", desc := "(I)I" } : Jvm.MethodName) method_3_code (1 : Nat) (Option.some Jvm.ClassFile.FieldType.int)).before args0 about1 = true := code_word (m := ⟨1, 2⟩) (meth := k1m2) (c := k1c2) (by decide +kernel) rfl rfl rfl (by decide +kernel)
set_option maxRecDepth 65536 in
theorem w_c2 : (Jvm.Cond.code ({ cls := "com/example/push_to_tree/pushtotree/XmlChars", name := "isChar", desc := "(I)Z" } : Jvm.MethodName) prog_89_method_2_code (1 : Nat) (Option.some Jvm.ClassFile.FieldType.boolean)).before args0 about1 = true := code_word (m := ⟨2, 1⟩) (meth := k2m1) (c := k2c1) (by decide +kernel) rfl rfl rfl (by decide +kernel)
set_option maxRecDepth 65536 in
theorem w_c3 : (Jvm.Cond.code ({ cls := "com/example/push_to_tree/pushtotree/XmlCharsIsCharPinLaw", name := "ref", desc := "(I)Z" } : Jvm.MethodName) method_4_code (1 : Nat) (Option.some Jvm.ClassFile.FieldType.boolean)).before args0 about1 = true := code_word (m := ⟨1, 3⟩) (meth := k1m3) (c := k1c3) (by decide +kernel) rfl rfl rfl (by decide +kernel)
def codes1 : List Jvm.Cond := [Jvm.Cond.code x code maxLocals ret, Jvm.Cond.code ({ cls := "com/example/push_to_tree/pushtotree/XmlCharsIsCharPinLaw", name := "base", desc := "(I)I" } : Jvm.MethodName) method_3_code (1 : Nat) (Option.some Jvm.ClassFile.FieldType.int), Jvm.Cond.code ({ cls := "com/example/push_to_tree/pushtotree/XmlChars", name := "isChar", desc := "(I)Z" } : Jvm.MethodName) prog_89_method_2_code (1 : Nat) (Option.some Jvm.ClassFile.FieldType.boolean), Jvm.Cond.code ({ cls := "com/example/push_to_tree/pushtotree/XmlCharsIsCharPinLaw", name := "ref", desc := "(I)Z" } : Jvm.MethodName) method_4_code (1 : Nat) (Option.some Jvm.ClassFile.FieldType.boolean)]
set_option maxRecDepth 65536 in
theorem codes_eq : words1.filter isCode = codes1 := rfl
theorem w_codes : ∀ c ∈ words1.filter isCode, c.before args0 about1 = true := by
  rw [codes_eq]
  intro c hc
  simp only [codes1, List.mem_cons, List.not_mem_nil, or_false] at hc
  rcases hc with rfl | rfl | rfl | rfl
  · exact w_c0
  · exact w_c1
  · exact w_c2
  · exact w_c3
set_option maxRecDepth 65536 in
theorem w_t1 : (words1.take 24).all (fun c => isCode c || c.before args0 about1) = true := by decide +kernel
set_option maxRecDepth 65536 in
theorem w_t2 : (words1.drop 24).all (fun c => isCode c || c.before args0 about1) = true := by decide +kernel
theorem w_tables : (allAtoms (Jvm.Cond.code x code maxLocals ret :: tables_1)).before args0 about1 = true := by
  rw [allAtoms_all]
  show words1.all (fun c => c.before args0 about1) = true
  refine all_split ?_ w_codes
  rw [← List.take_append_drop 24 words1, List.all_append, w_t1, w_t2]
  rfl
set_option maxRecDepth 65536 in
theorem w_case : (Jvm.Cond.and given_1 narrow_1).before args0 about1 = true := by decide +kernel
theorem w_applies : (headSpec (Jvm.Cond.code x code maxLocals ret :: tables_1) room_1).applies x e0.platform about1 = true :=
  (Spec.applies_iff w_frames).mpr ⟨w_running, w_runnable, w_alone, w_named, w_hears, w_ripe, w_room, w_tables⟩
theorem atStart : AtStart classFile x code maxLocals ret World_1 tables_1 room_1 Calls_1 rest_1 Pre_1 launch0 p0 e0 about1 theMethod args0 below0 :=
  ⟨lists_1, trivial, launch0.admits_env _ _ _, launch0.least_env, fairChoices_fair.cas, fairChoices_fair.clock, w_frames, w_args, w_heap, w_applies, trivial, trivial, w_case⟩
end start1
theorem witness_1 : WitnessClaimed_1 := ⟨start1.p0, start1.e0, start1.about1, start1.theMethod, start1.args0, start1.below0, start1.atStart⟩
end Jvm.Pilot.@@N@@
