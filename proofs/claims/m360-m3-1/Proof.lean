import JvmDerived
import JvmDerived.Pilot.@@N@@Statement
import JvmDerived.Pilot.@@N@@Code
set_option linter.unusedVariables false
set_option linter.unusedSimpArgs false
namespace Jvm.RoadKit
open Sem ClassFile Op Lib Jvm.Stand Jvm.Free Jvm.LawKit
section New
variable {p : Program} {l : Launch} {e : Env} {R : Room} {s : State} {m : MethodId} {args : Array Value} {below : List Frame} {meth : Method} {c : Code} {T : State} {locs : List Loc} {cells slots : Nat}
theorem retI (X : Stand p l e R s m args below meth c T locs cells slots) (hx : p.tables.exec = Jvm.exec) {pc : Nat} {Ls : Array Slot} {z : Int32} {rest : List Value} (hret : meth.sig.returnType = some .int) (hd : decode c.code pc = .ok (.ireturn, 1)) {fs : List Frame}
    (hl : ∀ (f : JFrame) (acts : List Action), f.method = m → f.locked = none → f.entered = [] → (doReturn e (T.setTop f) acts (some (.int z))).1 = T.setFrames fs) : Steps p.tables e below (T.setTop (mkF m pc Ls (.int z :: rest))) (T.setFrames fs) := by
  have hm' : T.vm.method? m = some meth := X.method'
  have hn : narrow .int (.int z) = .int z := rfl
  show Steps p.tables e below (T.setTop { method := m, pc := pc, locals := Ls, stack := _ :: rest, locked := none }) _
  jvm_step X.here [X.here.top, hx, hd, hm', hret, hn]
  first | (intro acts; rw [hl _ acts rfl rfl rfl]) | rw [hl _ _ rfl rfl rfl]
  exact Steps.refl _
end New
end Jvm.RoadKit
namespace Jvm.Pilot.@@N@@
open Jvm Jvm.ClassFile Sem Op Lib Jvm.Free Jvm.Stand Jvm.LawKit Jvm.RoadKit Bundle Jvm.Pilot.@@N@@.Jvm.D
theorem own_w {a0 : Array Value} {Z : State} (hw : ∀ d ∈ tables_1, d.before a0 Z = true) (k : Nat) {d : Jvm.Cond} (h : tables_1[k]? = some d := by rfl) : d.before a0 Z = true := hw _ (List.mem_of_getElem? h)
abbrev oI (x : Int32) : Slot := .val (.int x)
abbrev oR (a : Addr) : Slot := .val (.ref a)
abbrev oJ (x : Int64) : Slot := .val (.long x)
abbrev oD (x : UInt64) : Slot := .val (.double x)
/-- from the state A the run comes to an end of which Q holds -/
def own_Go (p : Program) (e : Env) (below : List Frame) (Q : Outcome → State → Prop) (A : State) : Prop := ∃ s₂ o, Steps p.tables e below A s₂ ∧ s₂.status = .running ∧ Ended s₂ below o ∧ Q o s₂
theorem own_via {p : Program} {e : Env} {below : List Frame} {Q : Outcome → State → Prop} {A B : State} (h : ∀ t, Steps p.tables e below B t → Steps p.tables e below A t) (g : own_Go p e below Q B) : own_Go p e below Q A := by
  obtain ⟨s₂, o, h1, h2⟩ := g
  exact ⟨s₂, o, h _ h1, h2⟩
theorem own_tr {p : Program} {e : Env} {below : List Frame} {Q : Outcome → State → Prop} {A B : State} (h : Steps p.tables e below A B) (g : own_Go p e below Q B) : own_Go p e below Q A := by
  obtain ⟨s₂, o, h1, h2⟩ := g
  exact ⟨s₂, o, h.trans h1, h2⟩
/-- from the state A the run comes to a state B of which Φ holds -/
def own_Pc (p : Program) (e : Env) (below : List Frame) (Φ : State → Prop) (A : State) : Prop := ∃ B, (∀ t, Steps p.tables e below B t → Steps p.tables e below A t) ∧ Φ B
theorem own_pvia {p : Program} {e : Env} {below : List Frame} {Φ : State → Prop} {A B : State} (h : ∀ t, Steps p.tables e below B t → Steps p.tables e below A t) (g : own_Pc p e below Φ B) : own_Pc p e below Φ A := by
  obtain ⟨B', h1, h2⟩ := g
  exact ⟨B', fun t k => h t (h1 t k), h2⟩
theorem own_ptr {p : Program} {e : Env} {below : List Frame} {Φ : State → Prop} {A B : State} (h : Steps p.tables e below A B) (g : own_Pc p e below Φ B) : own_Pc p e below Φ A := own_pvia (fun t k => h.trans k) g
theorem own_start {p : Program} {e : Env} {below : List Frame} {Q : Outcome → State → Prop} {A : State} (h : own_Go p e below Q A) : ∃ s₂ o, Steps p.tables e below A s₂ ∧ s₂.status = .running ∧ Ended s₂ below o ∧ Q o s₂ := h
def f1 (p0 : Int32) (p1 : Int32) : Int32 := (if (p0.toInt64) = (((2 : Int64) * (p1.toInt64)) + (1 : Int64)) then (1 : Int32) else (0 : Int32))
theorem d1_0 : decode prog_2_method_3_code 0 = .ok (.iload_n 0, 1) := by decide +kernel
theorem d1_1 : decode prog_2_method_3_code 1 = .ok (.i2l, 1) := by decide +kernel
theorem d1_2 : decode prog_2_method_3_code 2 = .ok (.ldc2_w 31, 3) := by decide +kernel
theorem d1_5 : decode prog_2_method_3_code 5 = .ok (.iload_n 1, 1) := by decide +kernel
theorem d1_6 : decode prog_2_method_3_code 6 = .ok (.i2l, 1) := by decide +kernel
theorem d1_7 : decode prog_2_method_3_code 7 = .ok (.lmul, 1) := by decide +kernel
theorem d1_8 : decode prog_2_method_3_code 8 = .ok (.lconst 1, 1) := by decide +kernel
theorem d1_9 : decode prog_2_method_3_code 9 = .ok (.ladd, 1) := by decide +kernel
theorem d1_10 : decode prog_2_method_3_code 10 = .ok (.lcmp, 1) := by decide +kernel
theorem d1_11 : decode prog_2_method_3_code 11 = .ok (.ifCond .ne 7, 3) := by decide +kernel
theorem d1_14 : decode prog_2_method_3_code 14 = .ok (.iconst 1, 1) := by decide +kernel
theorem d1_15 : decode prog_2_method_3_code 15 = .ok (.goto 4, 3) := by decide +kernel
theorem d1_18 : decode prog_2_method_3_code 18 = .ok (.iconst 0, 1) := by decide +kernel
theorem d1_19 : decode prog_2_method_3_code 19 = .ok (.ireturn, 1) := by decide +kernel
theorem pn_1 : plainName "com/example/coupewise/coupewise/Conflicts" = true := by first | (simp [plainName, overriddenIn]; done) | decide +kernel
theorem ef_rm1 (m : MethodId) (q0 : Int32) (q1 : Int32) : entryFrame m #[(.int q0), (.int q1)] 2 = mkF m 0 #[oI q0, oI q1] [] := by first | (simp [entryFrame, mkF, argsToLocals, Value.category]; done) | rfl
def Q1 (Z : State) (p0 : Int32) (p1 : Int32) (r : Int32) (h0 : Heap) (n0 : Nat) (v : Option Value) (h : Heap) (L : List Loc) : Prop := v = some (.int r) ∧ Fr n0 L ∧ h = h0
set_option maxRecDepth 65536 in
set_option maxHeartbeats 40000000 in
theorem rm1 (l : Launch) (Z : State) (a0 : Array Value) (hw : ∀ d ∈ tables_1, d.before a0 Z = true) (ws : List Jvm.Cond) (p0 : Int32) (p1 : Int32) (r : Int32) (h0 : Heap) (n0 : Nat) (Z0 : n0 ≤ h0.size) (hr0 : (f1 p0 p1) = r) :
    MetFree l (⟨"com/example/coupewise/coupewise/Conflicts", "rigid", "(II)Z"⟩ : MethodName) (head1 (Jvm.Cond.code (⟨"com/example/coupewise/coupewise/Conflicts", "rigid", "(II)Z"⟩ : MethodName) prog_2_method_3_code 2 (some .boolean) :: ws) ({ frames := 0, cells := 0, slots := 0, locals := 0 } : Room)) (fun a U => a = #[(.int p0), (.int p1)] ∧ Z.Warmed39 U.vm ∧ U.heap = h0) (fun _ _ _ _ _ => True) (fun _ U o U' => ∃ v L, o = .returned v ∧ Q1 Z p0 p1 r h0 n0 v U'.heap L ∧ FrameEnd U o U' L ({ frames := 0, cells := 0, slots := 0, locals := 0 } : Room).cells ({ frames := 0, cells := 0, slots := 0, locals := 0 } : Room).slots) := by
  refine MetFree.of_bodySF (plainFor_of_name pn_1) hisR ?_
  intro p e s m args below meth c s₁ Bd hml0 hP hK
  obtain ⟨rfl, hZ, hh⟩ := hP
  have hx := Bd.exec
  have hby := Bd.bytes
  have hml : c.maxLocals = 2 := hml0
  have hown : s.vm.findClass "com/example/coupewise/coupewise/Conflicts" = some m.cls := findClass_of_methodNamed Bd.named
  have hnm := (name_of_methodNamed Bd.named Bd.method).1
  have X0 : Stand p l e ({ frames := 0, cells := 0, slots := 0, locals := 0 } : Room) s m #[(.int p0), (.int p1)] below meth c s₁ [] 0 0 := Stand.of_body Bd
  have e0 : s₁.heap = h0 := by rw [← hh, Bd.state]; rfl
  have N0 := Fr.nil n0
  refine own_start ?_
  refine own_via (fun t k => castTop (ef_rm1 m p0 p1) k) ?_
  show own_Go p e below _ (s₁.setTop (mkF m 0 #[oI p0, oI p1] []))
  refine own_via (fun t k => XS.iloadN X0.here hx rfl (hb hby d1_0) rfl k) ?_
  show own_Go p e below _ (s₁.setTop (mkF m 1 #[oI p0, oI p1] [(.int p0)]))
  refine own_via (fun t k => XS.i2l X0.here hx rfl (hb hby d1_1) rfl k) ?_
  show own_Go p e below _ (s₁.setTop (mkF m 2 #[oI p0, oI p1] [(.long (p0.toInt64))]))
  refine own_via (fun t k => X0.ldc2Long hx hown (mvT hZ (own_w hw 4)) (g := (mkF m 2 #[oI p0, oI p1] [(.long (p0.toInt64))])) rfl (hb hby d1_2) t k) ?_
  show own_Go p e below _ (s₁.setTop (mkF m 5 #[oI p0, oI p1] [(.long (2 : Int64)), (.long (p0.toInt64))]))
  refine own_via (fun t k => XS.iloadN X0.here hx rfl (hb hby d1_5) rfl k) ?_
  show own_Go p e below _ (s₁.setTop (mkF m 6 #[oI p0, oI p1] [(.int p1), (.long (2 : Int64)), (.long (p0.toInt64))]))
  refine own_via (fun t k => XS.i2l X0.here hx rfl (hb hby d1_6) rfl k) ?_
  show own_Go p e below _ (s₁.setTop (mkF m 7 #[oI p0, oI p1] [(.long (p1.toInt64)), (.long (2 : Int64)), (.long (p0.toInt64))]))
  refine own_via (fun t k => XS.lmul X0.here hx rfl (hb hby d1_7) rfl k) ?_
  show own_Go p e below _ (s₁.setTop (mkF m 8 #[oI p0, oI p1] [(.long ((2 : Int64) * (p1.toInt64))), (.long (p0.toInt64))]))
  refine own_via (fun t k => XS.lconst X0.here hx rfl (hb hby d1_8) k) ?_
  show own_Go p e below _ (s₁.setTop (mkF m 9 #[oI p0, oI p1] [(.long (1 : Int64)), (.long ((2 : Int64) * (p1.toInt64))), (.long (p0.toInt64))]))
  refine own_via (fun t k => XS.ladd X0.here hx rfl (hb hby d1_9) rfl k) ?_
  show own_Go p e below _ (s₁.setTop (mkF m 10 #[oI p0, oI p1] [(.long (((2 : Int64) * (p1.toInt64)) + (1 : Int64))), (.long (p0.toInt64))]))
  refine own_via (fun t k => XS.lcmp X0.here hx rfl (hb hby d1_10) rfl k) ?_
  show own_Go p e below _ (s₁.setTop (mkF m 11 #[oI p0, oI p1] [(.int (lcmpW (p0.toInt64) (((2 : Int64) * (p1.toInt64)) + (1 : Int64))))]))
  by_cases hc11_1 : (p0.toInt64) = (((2 : Int64) * (p1.toInt64)) + (1 : Int64))
  · refine own_via (fun t k => XS.ifNo X0.here hx rfl (hb hby d1_11) rfl ((if0 _ _).trans (teq ((lw_eq _ _).mpr hc11_1)).2) k) ?_
    show own_Go p e below _ (s₁.setTop (mkF m 14 #[oI p0, oI p1] []))
    refine own_via (fun t k => XS.iconst X0.here hx rfl (hb hby d1_14) k) ?_
    show own_Go p e below _ (s₁.setTop (mkF m 15 #[oI p0, oI p1] [(.int (1 : Int32))]))
    refine own_via (fun t k => XS.goto X0.here hx rfl (pc0 := 15) (pc' := 19) rfl (hb hby d1_15) (by decide) (by decide) k) ?_
    show own_Go p e below _ (s₁.setTop (mkF m 19 #[oI p0, oI p1] [(.int (1 : Int32))]))
    have hv : (f1 p0 p1) = (1 : Int32) := by unfold f1; rw [if_pos hc11_1]
    obtain ⟨fs, hr, hrun, hended, hW, hsame⟩ := X0.leave (v := some (.int (1 : Int32))) (fun h => by rw [Bd.returns] at h; cases h)
    refine ⟨_, _, retN X0 hx (t := .boolean) Bd.returns (by simp) (hb hby d1_19) hr, hrun, hended, _, _, rfl, ?_, ⟨_, rfl⟩, hW, hsame.mono (by decide) (by decide)⟩
    show Q1 Z p0 p1 r h0 n0 _ s₁.heap _
    rw [e0]
    exact ⟨by rw [← hr0, hv], N0, rfl⟩
  · refine own_via (fun t k => XS.ifYes X0.here hx rfl (pc0 := 11) (pc' := 18) rfl (hb hby d1_11) rfl ((if0 _ _).trans (feq (fun q => hc11_1 ((lw_eq _ _).mp q))).2) (by decide) (by decide) k) ?_
    show own_Go p e below _ (s₁.setTop (mkF m 18 #[oI p0, oI p1] []))
    refine own_via (fun t k => XS.iconst X0.here hx rfl (hb hby d1_18) k) ?_
    show own_Go p e below _ (s₁.setTop (mkF m 19 #[oI p0, oI p1] [(.int (0 : Int32))]))
    have hv : (f1 p0 p1) = (0 : Int32) := by unfold f1; rw [if_neg hc11_1]
    obtain ⟨fs, hr, hrun, hended, hW, hsame⟩ := X0.leave (v := some (.int (0 : Int32))) (fun h => by rw [Bd.returns] at h; cases h)
    refine ⟨_, _, retN X0 hx (t := .boolean) Bd.returns (by simp) (hb hby d1_19) hr, hrun, hended, _, _, rfl, ?_, ⟨_, rfl⟩, hW, hsame.mono (by decide) (by decide)⟩
    show Q1 Z p0 p1 r h0 n0 _ s₁.heap _
    rw [e0]
    exact ⟨by rw [← hr0, hv], N0, rfl⟩
def f0 (p0 : Int32) (p1 : Int32) (p2 : Int32) : Int32 := (if (p2 &&& (1 : Int32)) = (0 : Int32) then (if (p0 &&& (1 : Int32)) = (0 : Int32) then (if (f1 p0 p1) = (0 : Int32) then (1 : Int32) else (0 : Int32)) else (if (p0 >>> ((1 : Int32) &&& 31)) = p1 then (if (f1 p0 p1) = (1 : Int32) then (1 : Int32) else (0 : Int32)) else (if (f1 p0 p1) = (0 : Int32) then (1 : Int32) else (0 : Int32)))) else (if ((((p1 <<< ((1 : Int32) &&& 31)) + ((p2 >>> ((1 : Int32) &&& 31)) &&& (3 : Int32))) - (1 : Int32)) &&& (1 : Int32)) = (0 : Int32) then (if (f1 (((p1 <<< ((1 : Int32) &&& 31)) + ((p2 >>> ((1 : Int32) &&& 31)) &&& (3 : Int32))) - (1 : Int32)) p1) = (0 : Int32) then (1 : Int32) else (0 : Int32)) else (if ((((p1 <<< ((1 : Int32) &&& 31)) + ((p2 >>> ((1 : Int32) &&& 31)) &&& (3 : Int32))) - (1 : Int32)) >>> ((1 : Int32) &&& 31)) = p1 then (if (f1 (((p1 <<< ((1 : Int32) &&& 31)) + ((p2 >>> ((1 : Int32) &&& 31)) &&& (3 : Int32))) - (1 : Int32)) p1) = (1 : Int32) then (1 : Int32) else (0 : Int32)) else (if (f1 (((p1 <<< ((1 : Int32) &&& 31)) + ((p2 >>> ((1 : Int32) &&& 31)) &&& (3 : Int32))) - (1 : Int32)) p1) = (0 : Int32) then (1 : Int32) else (0 : Int32)))))
theorem own_key (p g : Int32) : f1 p g = if (p &&& (1 : Int32)) = (0 : Int32) then 0 else if (p >>> ((1 : Int32) &&& 31)) = g then 1 else 0 := by
  unfold f1
  have h1 := c_ishr p 1 1 (by decide)
  have h2 := c_mask p 1 1 (by decide) (by decide)
  have h3 := c_i2l p
  have h4 := c_i2l g
  have h5 := c_lmul 2 g.toInt64
  have h6 := c_ladd (2 * g.toInt64) 1
  have h7 := rng32 p
  have h8 := rng32 g
  have h9 := rng64 (2 * g.toInt64)
  have h10 := rng64 (2 * g.toInt64 + 1)
  simp only [← Int32.toInt_inj, ← Int64.toInt_inj, Int32.reduceToInt, Int64.reduceToInt] at *
  repeat' split
  all_goals first
    | rfl
    | (exfalso; omega)
theorem own_plain (p0 p1 p2 : Int32) : f0 p0 p1 p2 = 1 := by
  unfold f0
  simp only [own_key]
  repeat' split
  all_goals first
    | rfl
    | (exfalso; simp_all)
theorem pn_0 : plainName "com/example/coupewise/coupewise/ConflictsRigidPinLaw" = true := by first | (simp [plainName, overriddenIn]; done) | decide +kernel
theorem pd_0_0 : parseMethodDescriptor "(II)Z" = some ⟨[.int, .int], some .boolean⟩ := by decide +kernel
theorem ef_rm0 (m : MethodId) (q0 : Int32) (q1 : Int32) (q2 : Int32) : entryFrame m #[(.int q0), (.int q1), (.int q2)] maxLocals = mkF m 0 #[oI q0, oI q1, oI q2, .unset, .unset] [] := by first | (simp [entryFrame, mkF, argsToLocals, Value.category, maxLocals]; done) | rfl
def Q0 (Z : State) (p0 : Int32) (p1 : Int32) (p2 : Int32) (h0 : Heap) (n0 : Nat) (v : Option Value) (h : Heap) (L : List Loc) : Prop := v = some (.int (1 : Int32)) ∧ Fr n0 L
set_option maxRecDepth 65536 in
set_option maxHeartbeats 40000000 in
theorem rm0 (l : Launch) (Z : State) (a0 : Array Value) (hw : ∀ d ∈ tables_1, d.before a0 Z = true) (ws : List Jvm.Cond) (p0 : Int32) (p1 : Int32) (p2 : Int32) (h0 : Heap) (n0 : Nat) (Z0 : n0 ≤ h0.size) :
    MetFree l x (head1 (Jvm.Cond.code x code maxLocals ret :: ws) room_1) (fun a U => a = #[(.int p0), (.int p1), (.int p2)] ∧ Z.Warmed39 U.vm ∧ U.heap = h0) (fun _ _ _ _ _ => True) (fun _ U o U' => ∃ v L, o = .returned v ∧ Q0 Z p0 p1 p2 h0 n0 v U'.heap L ∧ FrameEnd U o U' L room_1.cells room_1.slots) := by
  refine MetFree.of_bodySF (plainFor_of_name pn_0) hisR ?_
  intro p e s m args below meth c s₁ Bd hml0 hP hK
  obtain ⟨rfl, hZ, hh⟩ := hP
  have hx := Bd.exec
  have hby := Bd.bytes
  have hml : c.maxLocals = 5 := hml0
  have hown : s.vm.findClass "com/example/coupewise/coupewise/ConflictsRigidPinLaw" = some m.cls := findClass_of_methodNamed Bd.named
  have hnm := (name_of_methodNamed Bd.named Bd.method).1
  have X0 : Stand p l e room_1 s m #[(.int p0), (.int p1), (.int p2)] below meth c s₁ [] 0 0 := Stand.of_body Bd
  have e0 : s₁.heap = h0 := by rw [← hh, Bd.state]; rfl
  have N0 := Fr.nil n0
  refine own_start ?_
  refine own_via (fun t k => castTop (ef_rm0 m p0 p1 p2) k) ?_
  show own_Go p e below _ (s₁.setTop (mkF m 0 #[oI p0, oI p1, oI p2, .unset, .unset] []))
  refine own_via (fun t k => XS.iloadN X0.here hx rfl (hb hby at_0) rfl k) ?_
  show own_Go p e below _ (s₁.setTop (mkF m 1 #[oI p0, oI p1, oI p2, .unset, .unset] [(.int p2)]))
  refine own_via (fun t k => XS.iconst X0.here hx rfl (hb hby at_1) k) ?_
  show own_Go p e below _ (s₁.setTop (mkF m 2 #[oI p0, oI p1, oI p2, .unset, .unset] [(.int (1 : Int32)), (.int p2)]))
  refine own_via (fun t k => XS.iand X0.here hx rfl (hb hby at_2) rfl k) ?_
  show own_Go p e below _ (s₁.setTop (mkF m 3 #[oI p0, oI p1, oI p2, .unset, .unset] [(.int (p2 &&& (1 : Int32)))]))
  by_cases hc3_1 : (p2 &&& (1 : Int32)) = (0 : Int32)
  · refine own_via (fun t k => XS.ifYes X0.here hx rfl (pc0 := 3) (pc' := 20) rfl (hb hby at_3) rfl ((if0 _ _).trans (teq hc3_1).1) (by decide) (by decide) k) ?_
    show own_Go p e below _ (s₁.setTop (mkF m 20 #[oI p0, oI p1, oI p2, .unset, .unset] []))
    refine own_via (fun t k => XS.iloadN X0.here hx rfl (hb hby at_20) rfl k) ?_
    show own_Go p e below _ (s₁.setTop (mkF m 21 #[oI p0, oI p1, oI p2, .unset, .unset] [(.int p0)]))
    refine own_via (fun t k => XS.istoreN X0.here hx rfl (hb hby at_21) rfl (l' := #[oI p0, oI p1, oI p2, oI p0, .unset]) rfl k) ?_
    show own_Go p e below _ (s₁.setTop (mkF m 22 #[oI p0, oI p1, oI p2, oI p0, .unset] []))
    refine own_via (fun t k => XS.iloadN X0.here hx rfl (hb hby at_22) rfl k) ?_
    show own_Go p e below _ (s₁.setTop (mkF m 23 #[oI p0, oI p1, oI p2, oI p0, .unset] [(.int p0)]))
    refine own_via (fun t k => XS.iconst X0.here hx rfl (hb hby at_23) k) ?_
    show own_Go p e below _ (s₁.setTop (mkF m 24 #[oI p0, oI p1, oI p2, oI p0, .unset] [(.int (1 : Int32)), (.int p0)]))
    refine own_via (fun t k => XS.iand X0.here hx rfl (hb hby at_24) rfl k) ?_
    show own_Go p e below _ (s₁.setTop (mkF m 25 #[oI p0, oI p1, oI p2, oI p0, .unset] [(.int (p0 &&& (1 : Int32)))]))
    by_cases hc25_2 : (p0 &&& (1 : Int32)) = (0 : Int32)
    · refine own_via (fun t k => XS.ifYes X0.here hx rfl (pc0 := 25) (pc' := 39) rfl (hb hby at_25) rfl ((if0 _ _).trans (teq hc25_2).1) (by decide) (by decide) k) ?_
      show own_Go p e below _ (s₁.setTop (mkF m 39 #[oI p0, oI p1, oI p2, oI p0, .unset] []))
      refine own_via (fun t k => XS.iconst X0.here hx rfl (hb hby at_39) k) ?_
      show own_Go p e below _ (s₁.setTop (mkF m 40 #[oI p0, oI p1, oI p2, oI p0, .unset] [(.int (0 : Int32))]))
      refine own_via (fun t k => XS.istore X0.here hx rfl (hb hby at_40) rfl (l' := #[oI p0, oI p1, oI p2, oI p0, oI (0 : Int32)]) rfl k) ?_
      show own_Go p e below _ (s₁.setTop (mkF m 42 #[oI p0, oI p1, oI p2, oI p0, oI (0 : Int32)] []))
      refine own_via (fun t k => XS.iloadN X0.here hx rfl (hb hby at_42) rfl k) ?_
      show own_Go p e below _ (s₁.setTop (mkF m 43 #[oI p0, oI p1, oI p2, oI p0, oI (0 : Int32)] [(.int p0)]))
      refine own_via (fun t k => XS.iloadN X0.here hx rfl (hb hby at_43) rfl k) ?_
      show own_Go p e below _ (s₁.setTop (mkF m 44 #[oI p0, oI p1, oI p2, oI p0, oI (0 : Int32)] [(.int p1), (.int p0)]))
      obtain ⟨_, _, ⟨T3, L3, k3, n3⟩, -, X3, ⟨Lc3, hQ3, l3, y3, z3⟩, st3⟩ := Jvm.LawKit.callS X0 hx (y := (⟨"com/example/coupewise/coupewise/Conflicts", "rigid", "(II)Z"⟩ : MethodName)) hown (mvT hZ (own_w hw 0)) (mvT hZ (own_w hw 1)) (mvT hZ (own_w hw 2)) (mvT hZ (own_w hw 3)) (by decide) (backOf (W := 0) (rm1 l Z a0 hw [] p0 p1 (f1 p0 p1) h0 n0 Z0 rfl) hZ (own_w hw 3) (own_w hw 2) (by decide) (by decide)) (g := (mkF m 44 #[oI p0, oI p1, oI p2, oI p0, oI (0 : Int32)] [(.int p1), (.int p0)])) rfl (by rw [hml]; rfl) (argsL := [(.int p0), (.int p1)]) (rest := []) (lenOf pd_0_0 rfl) rfl (by show 2 * 0 + _ ≤ _; exact Nat.le_of_eq rfl) (hb hby at_44) (fun _ _ => ⟨rfl, e0, (by decide : 0 + 0 ≤ _), (by decide : 0 + 0 ≤ _)⟩)
      dsimp only [Pt.U, Pt.locs, Pt.cells, Pt.slots] at X3 l3 y3 z3 st3 hQ3
      subst l3 y3 z3
      obtain ⟨rfl, Nq3, e3⟩ := hQ3
      have N4 := Fr.app N0 Nq3
      refine own_via st3 ?_
      show own_Go p e below _ (T3.setTop (mkF m 47 #[oI p0, oI p1, oI p2, oI p0, oI (0 : Int32)] [(.int (f1 p0 p1))]))
      refine own_via (fun t k => XS.iload X3.here hx rfl (hb hby at_47) rfl k) ?_
      show own_Go p e below _ (T3.setTop (mkF m 49 #[oI p0, oI p1, oI p2, oI p0, oI (0 : Int32)] [(.int (0 : Int32)), (.int (f1 p0 p1))]))
      by_cases hc49_5 : (f1 p0 p1) = (0 : Int32)
      · refine own_via (fun t k => XS.icmpNo X3.here hx rfl (hb hby at_49) rfl (teq hc49_5).2 k) ?_
        show own_Go p e below _ (T3.setTop (mkF m 52 #[oI p0, oI p1, oI p2, oI p0, oI (0 : Int32)] []))
        refine own_via (fun t k => XS.iconst X3.here hx rfl (hb hby at_52) k) ?_
        show own_Go p e below _ (T3.setTop (mkF m 53 #[oI p0, oI p1, oI p2, oI p0, oI (0 : Int32)] [(.int (1 : Int32))]))
        refine own_via (fun t k => XS.goto X3.here hx rfl (pc0 := 53) (pc' := 57) rfl (hb hby at_53) (by decide) (by decide) k) ?_
        show own_Go p e below _ (T3.setTop (mkF m 57 #[oI p0, oI p1, oI p2, oI p0, oI (0 : Int32)] [(.int (1 : Int32))]))
        have hv : (f0 p0 p1 p2) = (1 : Int32) := by unfold f0; rw [if_pos hc3_1, if_pos hc25_2, if_pos hc49_5]
        obtain ⟨fs, hr, hrun, hended, hW, hsame⟩ := X3.leave (v := some (.int (1 : Int32))) (fun h => by rw [Bd.returns] at h; cases h)
        refine ⟨_, _, retN X3 hx (t := .boolean) Bd.returns (by simp) (hb hby at_57) hr, hrun, hended, _, _, rfl, ?_, ⟨_, rfl⟩, hW, hsame.mono (by decide) (by decide)⟩
        show Q0 Z p0 p1 p2 h0 n0 _ T3.heap _
        rw [e3]
        exact ⟨rfl, N4⟩
      · refine own_via (fun t k => XS.icmpYes X3.here hx rfl (pc0 := 49) (pc' := 56) rfl (hb hby at_49) rfl (feq hc49_5).2 (by decide) (by decide) k) ?_
        show own_Go p e below _ (T3.setTop (mkF m 56 #[oI p0, oI p1, oI p2, oI p0, oI (0 : Int32)] []))
        refine own_via (fun t k => XS.iconst X3.here hx rfl (hb hby at_56) k) ?_
        show own_Go p e below _ (T3.setTop (mkF m 57 #[oI p0, oI p1, oI p2, oI p0, oI (0 : Int32)] [(.int (0 : Int32))]))
        have hv : (f0 p0 p1 p2) = (0 : Int32) := by unfold f0; rw [if_pos hc3_1, if_pos hc25_2, if_neg hc49_5]
        exact absurd ((own_plain p0 p1 p2).symm.trans hv) (by decide)
    · refine own_via (fun t k => XS.ifNo X0.here hx rfl (hb hby at_25) rfl ((if0 _ _).trans (feq hc25_2).1) k) ?_
      show own_Go p e below _ (s₁.setTop (mkF m 28 #[oI p0, oI p1, oI p2, oI p0, .unset] []))
      refine own_via (fun t k => XS.iloadN X0.here hx rfl (hb hby at_28) rfl k) ?_
      show own_Go p e below _ (s₁.setTop (mkF m 29 #[oI p0, oI p1, oI p2, oI p0, .unset] [(.int p0)]))
      refine own_via (fun t k => XS.iconst X0.here hx rfl (hb hby at_29) k) ?_
      show own_Go p e below _ (s₁.setTop (mkF m 30 #[oI p0, oI p1, oI p2, oI p0, .unset] [(.int (1 : Int32)), (.int p0)]))
      refine own_via (fun t k => XS.ishr X0.here hx rfl (hb hby at_30) rfl k) ?_
      show own_Go p e below _ (s₁.setTop (mkF m 31 #[oI p0, oI p1, oI p2, oI p0, .unset] [(.int (p0 >>> ((1 : Int32) &&& 31)))]))
      refine own_via (fun t k => XS.iloadN X0.here hx rfl (hb hby at_31) rfl k) ?_
      show own_Go p e below _ (s₁.setTop (mkF m 32 #[oI p0, oI p1, oI p2, oI p0, .unset] [(.int p1), (.int (p0 >>> ((1 : Int32) &&& 31)))]))
      by_cases hc32_7 : (p0 >>> ((1 : Int32) &&& 31)) = p1
      · refine own_via (fun t k => XS.icmpNo X0.here hx rfl (hb hby at_32) rfl (teq hc32_7).2 k) ?_
        show own_Go p e below _ (s₁.setTop (mkF m 35 #[oI p0, oI p1, oI p2, oI p0, .unset] []))
        refine own_via (fun t k => XS.iconst X0.here hx rfl (hb hby at_35) k) ?_
        show own_Go p e below _ (s₁.setTop (mkF m 36 #[oI p0, oI p1, oI p2, oI p0, .unset] [(.int (1 : Int32))]))
        refine own_via (fun t k => XS.goto X0.here hx rfl (pc0 := 36) (pc' := 40) rfl (hb hby at_36) (by decide) (by decide) k) ?_
        show own_Go p e below _ (s₁.setTop (mkF m 40 #[oI p0, oI p1, oI p2, oI p0, .unset] [(.int (1 : Int32))]))
        refine own_via (fun t k => XS.istore X0.here hx rfl (hb hby at_40) rfl (l' := #[oI p0, oI p1, oI p2, oI p0, oI (1 : Int32)]) rfl k) ?_
        show own_Go p e below _ (s₁.setTop (mkF m 42 #[oI p0, oI p1, oI p2, oI p0, oI (1 : Int32)] []))
        refine own_via (fun t k => XS.iloadN X0.here hx rfl (hb hby at_42) rfl k) ?_
        show own_Go p e below _ (s₁.setTop (mkF m 43 #[oI p0, oI p1, oI p2, oI p0, oI (1 : Int32)] [(.int p0)]))
        refine own_via (fun t k => XS.iloadN X0.here hx rfl (hb hby at_43) rfl k) ?_
        show own_Go p e below _ (s₁.setTop (mkF m 44 #[oI p0, oI p1, oI p2, oI p0, oI (1 : Int32)] [(.int p1), (.int p0)]))
        obtain ⟨_, _, ⟨T8, L8, k8, n8⟩, -, X8, ⟨Lc8, hQ8, l8, y8, z8⟩, st8⟩ := Jvm.LawKit.callS X0 hx (y := (⟨"com/example/coupewise/coupewise/Conflicts", "rigid", "(II)Z"⟩ : MethodName)) hown (mvT hZ (own_w hw 0)) (mvT hZ (own_w hw 1)) (mvT hZ (own_w hw 2)) (mvT hZ (own_w hw 3)) (by decide) (backOf (W := 0) (rm1 l Z a0 hw [] p0 p1 (f1 p0 p1) h0 n0 Z0 rfl) hZ (own_w hw 3) (own_w hw 2) (by decide) (by decide)) (g := (mkF m 44 #[oI p0, oI p1, oI p2, oI p0, oI (1 : Int32)] [(.int p1), (.int p0)])) rfl (by rw [hml]; rfl) (argsL := [(.int p0), (.int p1)]) (rest := []) (lenOf pd_0_0 rfl) rfl (by show 2 * 0 + _ ≤ _; exact Nat.le_of_eq rfl) (hb hby at_44) (fun _ _ => ⟨rfl, e0, (by decide : 0 + 0 ≤ _), (by decide : 0 + 0 ≤ _)⟩)
        dsimp only [Pt.U, Pt.locs, Pt.cells, Pt.slots] at X8 l8 y8 z8 st8 hQ8
        subst l8 y8 z8
        obtain ⟨rfl, Nq8, e8⟩ := hQ8
        have N9 := Fr.app N0 Nq8
        refine own_via st8 ?_
        show own_Go p e below _ (T8.setTop (mkF m 47 #[oI p0, oI p1, oI p2, oI p0, oI (1 : Int32)] [(.int (f1 p0 p1))]))
        refine own_via (fun t k => XS.iload X8.here hx rfl (hb hby at_47) rfl k) ?_
        show own_Go p e below _ (T8.setTop (mkF m 49 #[oI p0, oI p1, oI p2, oI p0, oI (1 : Int32)] [(.int (1 : Int32)), (.int (f1 p0 p1))]))
        by_cases hc49_10 : (f1 p0 p1) = (1 : Int32)
        · refine own_via (fun t k => XS.icmpNo X8.here hx rfl (hb hby at_49) rfl (teq hc49_10).2 k) ?_
          show own_Go p e below _ (T8.setTop (mkF m 52 #[oI p0, oI p1, oI p2, oI p0, oI (1 : Int32)] []))
          refine own_via (fun t k => XS.iconst X8.here hx rfl (hb hby at_52) k) ?_
          show own_Go p e below _ (T8.setTop (mkF m 53 #[oI p0, oI p1, oI p2, oI p0, oI (1 : Int32)] [(.int (1 : Int32))]))
          refine own_via (fun t k => XS.goto X8.here hx rfl (pc0 := 53) (pc' := 57) rfl (hb hby at_53) (by decide) (by decide) k) ?_
          show own_Go p e below _ (T8.setTop (mkF m 57 #[oI p0, oI p1, oI p2, oI p0, oI (1 : Int32)] [(.int (1 : Int32))]))
          have hv : (f0 p0 p1 p2) = (1 : Int32) := by unfold f0; rw [if_pos hc3_1, if_neg hc25_2, if_pos hc32_7, if_pos hc49_10]
          obtain ⟨fs, hr, hrun, hended, hW, hsame⟩ := X8.leave (v := some (.int (1 : Int32))) (fun h => by rw [Bd.returns] at h; cases h)
          refine ⟨_, _, retN X8 hx (t := .boolean) Bd.returns (by simp) (hb hby at_57) hr, hrun, hended, _, _, rfl, ?_, ⟨_, rfl⟩, hW, hsame.mono (by decide) (by decide)⟩
          show Q0 Z p0 p1 p2 h0 n0 _ T8.heap _
          rw [e8]
          exact ⟨rfl, N9⟩
        · refine own_via (fun t k => XS.icmpYes X8.here hx rfl (pc0 := 49) (pc' := 56) rfl (hb hby at_49) rfl (feq hc49_10).2 (by decide) (by decide) k) ?_
          show own_Go p e below _ (T8.setTop (mkF m 56 #[oI p0, oI p1, oI p2, oI p0, oI (1 : Int32)] []))
          refine own_via (fun t k => XS.iconst X8.here hx rfl (hb hby at_56) k) ?_
          show own_Go p e below _ (T8.setTop (mkF m 57 #[oI p0, oI p1, oI p2, oI p0, oI (1 : Int32)] [(.int (0 : Int32))]))
          have hv : (f0 p0 p1 p2) = (0 : Int32) := by unfold f0; rw [if_pos hc3_1, if_neg hc25_2, if_pos hc32_7, if_neg hc49_10]
          exact absurd ((own_plain p0 p1 p2).symm.trans hv) (by decide)
      · refine own_via (fun t k => XS.icmpYes X0.here hx rfl (pc0 := 32) (pc' := 39) rfl (hb hby at_32) rfl (feq hc32_7).2 (by decide) (by decide) k) ?_
        show own_Go p e below _ (s₁.setTop (mkF m 39 #[oI p0, oI p1, oI p2, oI p0, .unset] []))
        refine own_via (fun t k => XS.iconst X0.here hx rfl (hb hby at_39) k) ?_
        show own_Go p e below _ (s₁.setTop (mkF m 40 #[oI p0, oI p1, oI p2, oI p0, .unset] [(.int (0 : Int32))]))
        refine own_via (fun t k => XS.istore X0.here hx rfl (hb hby at_40) rfl (l' := #[oI p0, oI p1, oI p2, oI p0, oI (0 : Int32)]) rfl k) ?_
        show own_Go p e below _ (s₁.setTop (mkF m 42 #[oI p0, oI p1, oI p2, oI p0, oI (0 : Int32)] []))
        refine own_via (fun t k => XS.iloadN X0.here hx rfl (hb hby at_42) rfl k) ?_
        show own_Go p e below _ (s₁.setTop (mkF m 43 #[oI p0, oI p1, oI p2, oI p0, oI (0 : Int32)] [(.int p0)]))
        refine own_via (fun t k => XS.iloadN X0.here hx rfl (hb hby at_43) rfl k) ?_
        show own_Go p e below _ (s₁.setTop (mkF m 44 #[oI p0, oI p1, oI p2, oI p0, oI (0 : Int32)] [(.int p1), (.int p0)]))
        obtain ⟨_, _, ⟨T12, L12, k12, n12⟩, -, X12, ⟨Lc12, hQ12, l12, y12, z12⟩, st12⟩ := Jvm.LawKit.callS X0 hx (y := (⟨"com/example/coupewise/coupewise/Conflicts", "rigid", "(II)Z"⟩ : MethodName)) hown (mvT hZ (own_w hw 0)) (mvT hZ (own_w hw 1)) (mvT hZ (own_w hw 2)) (mvT hZ (own_w hw 3)) (by decide) (backOf (W := 0) (rm1 l Z a0 hw [] p0 p1 (f1 p0 p1) h0 n0 Z0 rfl) hZ (own_w hw 3) (own_w hw 2) (by decide) (by decide)) (g := (mkF m 44 #[oI p0, oI p1, oI p2, oI p0, oI (0 : Int32)] [(.int p1), (.int p0)])) rfl (by rw [hml]; rfl) (argsL := [(.int p0), (.int p1)]) (rest := []) (lenOf pd_0_0 rfl) rfl (by show 2 * 0 + _ ≤ _; exact Nat.le_of_eq rfl) (hb hby at_44) (fun _ _ => ⟨rfl, e0, (by decide : 0 + 0 ≤ _), (by decide : 0 + 0 ≤ _)⟩)
        dsimp only [Pt.U, Pt.locs, Pt.cells, Pt.slots] at X12 l12 y12 z12 st12 hQ12
        subst l12 y12 z12
        obtain ⟨rfl, Nq12, e12⟩ := hQ12
        have N13 := Fr.app N0 Nq12
        refine own_via st12 ?_
        show own_Go p e below _ (T12.setTop (mkF m 47 #[oI p0, oI p1, oI p2, oI p0, oI (0 : Int32)] [(.int (f1 p0 p1))]))
        refine own_via (fun t k => XS.iload X12.here hx rfl (hb hby at_47) rfl k) ?_
        show own_Go p e below _ (T12.setTop (mkF m 49 #[oI p0, oI p1, oI p2, oI p0, oI (0 : Int32)] [(.int (0 : Int32)), (.int (f1 p0 p1))]))
        by_cases hc49_14 : (f1 p0 p1) = (0 : Int32)
        · refine own_via (fun t k => XS.icmpNo X12.here hx rfl (hb hby at_49) rfl (teq hc49_14).2 k) ?_
          show own_Go p e below _ (T12.setTop (mkF m 52 #[oI p0, oI p1, oI p2, oI p0, oI (0 : Int32)] []))
          refine own_via (fun t k => XS.iconst X12.here hx rfl (hb hby at_52) k) ?_
          show own_Go p e below _ (T12.setTop (mkF m 53 #[oI p0, oI p1, oI p2, oI p0, oI (0 : Int32)] [(.int (1 : Int32))]))
          refine own_via (fun t k => XS.goto X12.here hx rfl (pc0 := 53) (pc' := 57) rfl (hb hby at_53) (by decide) (by decide) k) ?_
          show own_Go p e below _ (T12.setTop (mkF m 57 #[oI p0, oI p1, oI p2, oI p0, oI (0 : Int32)] [(.int (1 : Int32))]))
          have hv : (f0 p0 p1 p2) = (1 : Int32) := by unfold f0; rw [if_pos hc3_1, if_neg hc25_2, if_neg hc32_7, if_pos hc49_14]
          obtain ⟨fs, hr, hrun, hended, hW, hsame⟩ := X12.leave (v := some (.int (1 : Int32))) (fun h => by rw [Bd.returns] at h; cases h)
          refine ⟨_, _, retN X12 hx (t := .boolean) Bd.returns (by simp) (hb hby at_57) hr, hrun, hended, _, _, rfl, ?_, ⟨_, rfl⟩, hW, hsame.mono (by decide) (by decide)⟩
          show Q0 Z p0 p1 p2 h0 n0 _ T12.heap _
          rw [e12]
          exact ⟨rfl, N13⟩
        · refine own_via (fun t k => XS.icmpYes X12.here hx rfl (pc0 := 49) (pc' := 56) rfl (hb hby at_49) rfl (feq hc49_14).2 (by decide) (by decide) k) ?_
          show own_Go p e below _ (T12.setTop (mkF m 56 #[oI p0, oI p1, oI p2, oI p0, oI (0 : Int32)] []))
          refine own_via (fun t k => XS.iconst X12.here hx rfl (hb hby at_56) k) ?_
          show own_Go p e below _ (T12.setTop (mkF m 57 #[oI p0, oI p1, oI p2, oI p0, oI (0 : Int32)] [(.int (0 : Int32))]))
          have hv : (f0 p0 p1 p2) = (0 : Int32) := by unfold f0; rw [if_pos hc3_1, if_neg hc25_2, if_neg hc32_7, if_neg hc49_14]
          exact absurd ((own_plain p0 p1 p2).symm.trans hv) (by decide)
  · refine own_via (fun t k => XS.ifNo X0.here hx rfl (hb hby at_3) rfl ((if0 _ _).trans (feq hc3_1).1) k) ?_
    show own_Go p e below _ (s₁.setTop (mkF m 6 #[oI p0, oI p1, oI p2, .unset, .unset] []))
    refine own_via (fun t k => XS.iloadN X0.here hx rfl (hb hby at_6) rfl k) ?_
    show own_Go p e below _ (s₁.setTop (mkF m 7 #[oI p0, oI p1, oI p2, .unset, .unset] [(.int p1)]))
    refine own_via (fun t k => XS.iconst X0.here hx rfl (hb hby at_7) k) ?_
    show own_Go p e below _ (s₁.setTop (mkF m 8 #[oI p0, oI p1, oI p2, .unset, .unset] [(.int (1 : Int32)), (.int p1)]))
    refine own_via (fun t k => XS.ishl X0.here hx rfl (hb hby at_8) rfl k) ?_
    show own_Go p e below _ (s₁.setTop (mkF m 9 #[oI p0, oI p1, oI p2, .unset, .unset] [(.int (p1 <<< ((1 : Int32) &&& 31)))]))
    refine own_via (fun t k => XS.iloadN X0.here hx rfl (hb hby at_9) rfl k) ?_
    show own_Go p e below _ (s₁.setTop (mkF m 10 #[oI p0, oI p1, oI p2, .unset, .unset] [(.int p2), (.int (p1 <<< ((1 : Int32) &&& 31)))]))
    refine own_via (fun t k => XS.iconst X0.here hx rfl (hb hby at_10) k) ?_
    show own_Go p e below _ (s₁.setTop (mkF m 11 #[oI p0, oI p1, oI p2, .unset, .unset] [(.int (1 : Int32)), (.int p2), (.int (p1 <<< ((1 : Int32) &&& 31)))]))
    refine own_via (fun t k => XS.ishr X0.here hx rfl (hb hby at_11) rfl k) ?_
    show own_Go p e below _ (s₁.setTop (mkF m 12 #[oI p0, oI p1, oI p2, .unset, .unset] [(.int (p2 >>> ((1 : Int32) &&& 31))), (.int (p1 <<< ((1 : Int32) &&& 31)))]))
    refine own_via (fun t k => XS.iconst X0.here hx rfl (hb hby at_12) k) ?_
    show own_Go p e below _ (s₁.setTop (mkF m 13 #[oI p0, oI p1, oI p2, .unset, .unset] [(.int (3 : Int32)), (.int (p2 >>> ((1 : Int32) &&& 31))), (.int (p1 <<< ((1 : Int32) &&& 31)))]))
    refine own_via (fun t k => XS.iand X0.here hx rfl (hb hby at_13) rfl k) ?_
    show own_Go p e below _ (s₁.setTop (mkF m 14 #[oI p0, oI p1, oI p2, .unset, .unset] [(.int ((p2 >>> ((1 : Int32) &&& 31)) &&& (3 : Int32))), (.int (p1 <<< ((1 : Int32) &&& 31)))]))
    refine own_via (fun t k => XS.iadd X0.here hx rfl (hb hby at_14) rfl k) ?_
    show own_Go p e below _ (s₁.setTop (mkF m 15 #[oI p0, oI p1, oI p2, .unset, .unset] [(.int ((p1 <<< ((1 : Int32) &&& 31)) + ((p2 >>> ((1 : Int32) &&& 31)) &&& (3 : Int32))))]))
    refine own_via (fun t k => XS.iconst X0.here hx rfl (hb hby at_15) k) ?_
    show own_Go p e below _ (s₁.setTop (mkF m 16 #[oI p0, oI p1, oI p2, .unset, .unset] [(.int (1 : Int32)), (.int ((p1 <<< ((1 : Int32) &&& 31)) + ((p2 >>> ((1 : Int32) &&& 31)) &&& (3 : Int32))))]))
    refine own_via (fun t k => XS.isub X0.here hx rfl (hb hby at_16) rfl k) ?_
    show own_Go p e below _ (s₁.setTop (mkF m 17 #[oI p0, oI p1, oI p2, .unset, .unset] [(.int (((p1 <<< ((1 : Int32) &&& 31)) + ((p2 >>> ((1 : Int32) &&& 31)) &&& (3 : Int32))) - (1 : Int32)))]))
    refine own_via (fun t k => XS.goto X0.here hx rfl (pc0 := 17) (pc' := 21) rfl (hb hby at_17) (by decide) (by decide) k) ?_
    show own_Go p e below _ (s₁.setTop (mkF m 21 #[oI p0, oI p1, oI p2, .unset, .unset] [(.int (((p1 <<< ((1 : Int32) &&& 31)) + ((p2 >>> ((1 : Int32) &&& 31)) &&& (3 : Int32))) - (1 : Int32)))]))
    refine own_via (fun t k => XS.istoreN X0.here hx rfl (hb hby at_21) rfl (l' := #[oI p0, oI p1, oI p2, oI (((p1 <<< ((1 : Int32) &&& 31)) + ((p2 >>> ((1 : Int32) &&& 31)) &&& (3 : Int32))) - (1 : Int32)), .unset]) rfl k) ?_
    show own_Go p e below _ (s₁.setTop (mkF m 22 #[oI p0, oI p1, oI p2, oI (((p1 <<< ((1 : Int32) &&& 31)) + ((p2 >>> ((1 : Int32) &&& 31)) &&& (3 : Int32))) - (1 : Int32)), .unset] []))
    refine own_via (fun t k => XS.iloadN X0.here hx rfl (hb hby at_22) rfl k) ?_
    show own_Go p e below _ (s₁.setTop (mkF m 23 #[oI p0, oI p1, oI p2, oI (((p1 <<< ((1 : Int32) &&& 31)) + ((p2 >>> ((1 : Int32) &&& 31)) &&& (3 : Int32))) - (1 : Int32)), .unset] [(.int (((p1 <<< ((1 : Int32) &&& 31)) + ((p2 >>> ((1 : Int32) &&& 31)) &&& (3 : Int32))) - (1 : Int32)))]))
    refine own_via (fun t k => XS.iconst X0.here hx rfl (hb hby at_23) k) ?_
    show own_Go p e below _ (s₁.setTop (mkF m 24 #[oI p0, oI p1, oI p2, oI (((p1 <<< ((1 : Int32) &&& 31)) + ((p2 >>> ((1 : Int32) &&& 31)) &&& (3 : Int32))) - (1 : Int32)), .unset] [(.int (1 : Int32)), (.int (((p1 <<< ((1 : Int32) &&& 31)) + ((p2 >>> ((1 : Int32) &&& 31)) &&& (3 : Int32))) - (1 : Int32)))]))
    refine own_via (fun t k => XS.iand X0.here hx rfl (hb hby at_24) rfl k) ?_
    show own_Go p e below _ (s₁.setTop (mkF m 25 #[oI p0, oI p1, oI p2, oI (((p1 <<< ((1 : Int32) &&& 31)) + ((p2 >>> ((1 : Int32) &&& 31)) &&& (3 : Int32))) - (1 : Int32)), .unset] [(.int ((((p1 <<< ((1 : Int32) &&& 31)) + ((p2 >>> ((1 : Int32) &&& 31)) &&& (3 : Int32))) - (1 : Int32)) &&& (1 : Int32)))]))
    by_cases hc25_16 : ((((p1 <<< ((1 : Int32) &&& 31)) + ((p2 >>> ((1 : Int32) &&& 31)) &&& (3 : Int32))) - (1 : Int32)) &&& (1 : Int32)) = (0 : Int32)
    · refine own_via (fun t k => XS.ifYes X0.here hx rfl (pc0 := 25) (pc' := 39) rfl (hb hby at_25) rfl ((if0 _ _).trans (teq hc25_16).1) (by decide) (by decide) k) ?_
      show own_Go p e below _ (s₁.setTop (mkF m 39 #[oI p0, oI p1, oI p2, oI (((p1 <<< ((1 : Int32) &&& 31)) + ((p2 >>> ((1 : Int32) &&& 31)) &&& (3 : Int32))) - (1 : Int32)), .unset] []))
      refine own_via (fun t k => XS.iconst X0.here hx rfl (hb hby at_39) k) ?_
      show own_Go p e below _ (s₁.setTop (mkF m 40 #[oI p0, oI p1, oI p2, oI (((p1 <<< ((1 : Int32) &&& 31)) + ((p2 >>> ((1 : Int32) &&& 31)) &&& (3 : Int32))) - (1 : Int32)), .unset] [(.int (0 : Int32))]))
      refine own_via (fun t k => XS.istore X0.here hx rfl (hb hby at_40) rfl (l' := #[oI p0, oI p1, oI p2, oI (((p1 <<< ((1 : Int32) &&& 31)) + ((p2 >>> ((1 : Int32) &&& 31)) &&& (3 : Int32))) - (1 : Int32)), oI (0 : Int32)]) rfl k) ?_
      show own_Go p e below _ (s₁.setTop (mkF m 42 #[oI p0, oI p1, oI p2, oI (((p1 <<< ((1 : Int32) &&& 31)) + ((p2 >>> ((1 : Int32) &&& 31)) &&& (3 : Int32))) - (1 : Int32)), oI (0 : Int32)] []))
      refine own_via (fun t k => XS.iloadN X0.here hx rfl (hb hby at_42) rfl k) ?_
      show own_Go p e below _ (s₁.setTop (mkF m 43 #[oI p0, oI p1, oI p2, oI (((p1 <<< ((1 : Int32) &&& 31)) + ((p2 >>> ((1 : Int32) &&& 31)) &&& (3 : Int32))) - (1 : Int32)), oI (0 : Int32)] [(.int (((p1 <<< ((1 : Int32) &&& 31)) + ((p2 >>> ((1 : Int32) &&& 31)) &&& (3 : Int32))) - (1 : Int32)))]))
      refine own_via (fun t k => XS.iloadN X0.here hx rfl (hb hby at_43) rfl k) ?_
      show own_Go p e below _ (s₁.setTop (mkF m 44 #[oI p0, oI p1, oI p2, oI (((p1 <<< ((1 : Int32) &&& 31)) + ((p2 >>> ((1 : Int32) &&& 31)) &&& (3 : Int32))) - (1 : Int32)), oI (0 : Int32)] [(.int p1), (.int (((p1 <<< ((1 : Int32) &&& 31)) + ((p2 >>> ((1 : Int32) &&& 31)) &&& (3 : Int32))) - (1 : Int32)))]))
      obtain ⟨_, _, ⟨T17, L17, k17, n17⟩, -, X17, ⟨Lc17, hQ17, l17, y17, z17⟩, st17⟩ := Jvm.LawKit.callS X0 hx (y := (⟨"com/example/coupewise/coupewise/Conflicts", "rigid", "(II)Z"⟩ : MethodName)) hown (mvT hZ (own_w hw 0)) (mvT hZ (own_w hw 1)) (mvT hZ (own_w hw 2)) (mvT hZ (own_w hw 3)) (by decide) (backOf (W := 0) (rm1 l Z a0 hw [] (((p1 <<< ((1 : Int32) &&& 31)) + ((p2 >>> ((1 : Int32) &&& 31)) &&& (3 : Int32))) - (1 : Int32)) p1 (f1 (((p1 <<< ((1 : Int32) &&& 31)) + ((p2 >>> ((1 : Int32) &&& 31)) &&& (3 : Int32))) - (1 : Int32)) p1) h0 n0 Z0 rfl) hZ (own_w hw 3) (own_w hw 2) (by decide) (by decide)) (g := (mkF m 44 #[oI p0, oI p1, oI p2, oI (((p1 <<< ((1 : Int32) &&& 31)) + ((p2 >>> ((1 : Int32) &&& 31)) &&& (3 : Int32))) - (1 : Int32)), oI (0 : Int32)] [(.int p1), (.int (((p1 <<< ((1 : Int32) &&& 31)) + ((p2 >>> ((1 : Int32) &&& 31)) &&& (3 : Int32))) - (1 : Int32)))])) rfl (by rw [hml]; rfl) (argsL := [(.int (((p1 <<< ((1 : Int32) &&& 31)) + ((p2 >>> ((1 : Int32) &&& 31)) &&& (3 : Int32))) - (1 : Int32))), (.int p1)]) (rest := []) (lenOf pd_0_0 rfl) rfl (by show 2 * 0 + _ ≤ _; exact Nat.le_of_eq rfl) (hb hby at_44) (fun _ _ => ⟨rfl, e0, (by decide : 0 + 0 ≤ _), (by decide : 0 + 0 ≤ _)⟩)
      dsimp only [Pt.U, Pt.locs, Pt.cells, Pt.slots] at X17 l17 y17 z17 st17 hQ17
      subst l17 y17 z17
      obtain ⟨rfl, Nq17, e17⟩ := hQ17
      have N18 := Fr.app N0 Nq17
      refine own_via st17 ?_
      show own_Go p e below _ (T17.setTop (mkF m 47 #[oI p0, oI p1, oI p2, oI (((p1 <<< ((1 : Int32) &&& 31)) + ((p2 >>> ((1 : Int32) &&& 31)) &&& (3 : Int32))) - (1 : Int32)), oI (0 : Int32)] [(.int (f1 (((p1 <<< ((1 : Int32) &&& 31)) + ((p2 >>> ((1 : Int32) &&& 31)) &&& (3 : Int32))) - (1 : Int32)) p1))]))
      refine own_via (fun t k => XS.iload X17.here hx rfl (hb hby at_47) rfl k) ?_
      show own_Go p e below _ (T17.setTop (mkF m 49 #[oI p0, oI p1, oI p2, oI (((p1 <<< ((1 : Int32) &&& 31)) + ((p2 >>> ((1 : Int32) &&& 31)) &&& (3 : Int32))) - (1 : Int32)), oI (0 : Int32)] [(.int (0 : Int32)), (.int (f1 (((p1 <<< ((1 : Int32) &&& 31)) + ((p2 >>> ((1 : Int32) &&& 31)) &&& (3 : Int32))) - (1 : Int32)) p1))]))
      by_cases hc49_19 : (f1 (((p1 <<< ((1 : Int32) &&& 31)) + ((p2 >>> ((1 : Int32) &&& 31)) &&& (3 : Int32))) - (1 : Int32)) p1) = (0 : Int32)
      · refine own_via (fun t k => XS.icmpNo X17.here hx rfl (hb hby at_49) rfl (teq hc49_19).2 k) ?_
        show own_Go p e below _ (T17.setTop (mkF m 52 #[oI p0, oI p1, oI p2, oI (((p1 <<< ((1 : Int32) &&& 31)) + ((p2 >>> ((1 : Int32) &&& 31)) &&& (3 : Int32))) - (1 : Int32)), oI (0 : Int32)] []))
        refine own_via (fun t k => XS.iconst X17.here hx rfl (hb hby at_52) k) ?_
        show own_Go p e below _ (T17.setTop (mkF m 53 #[oI p0, oI p1, oI p2, oI (((p1 <<< ((1 : Int32) &&& 31)) + ((p2 >>> ((1 : Int32) &&& 31)) &&& (3 : Int32))) - (1 : Int32)), oI (0 : Int32)] [(.int (1 : Int32))]))
        refine own_via (fun t k => XS.goto X17.here hx rfl (pc0 := 53) (pc' := 57) rfl (hb hby at_53) (by decide) (by decide) k) ?_
        show own_Go p e below _ (T17.setTop (mkF m 57 #[oI p0, oI p1, oI p2, oI (((p1 <<< ((1 : Int32) &&& 31)) + ((p2 >>> ((1 : Int32) &&& 31)) &&& (3 : Int32))) - (1 : Int32)), oI (0 : Int32)] [(.int (1 : Int32))]))
        have hv : (f0 p0 p1 p2) = (1 : Int32) := by unfold f0; rw [if_neg hc3_1, if_pos hc25_16, if_pos hc49_19]
        obtain ⟨fs, hr, hrun, hended, hW, hsame⟩ := X17.leave (v := some (.int (1 : Int32))) (fun h => by rw [Bd.returns] at h; cases h)
        refine ⟨_, _, retN X17 hx (t := .boolean) Bd.returns (by simp) (hb hby at_57) hr, hrun, hended, _, _, rfl, ?_, ⟨_, rfl⟩, hW, hsame.mono (by decide) (by decide)⟩
        show Q0 Z p0 p1 p2 h0 n0 _ T17.heap _
        rw [e17]
        exact ⟨rfl, N18⟩
      · refine own_via (fun t k => XS.icmpYes X17.here hx rfl (pc0 := 49) (pc' := 56) rfl (hb hby at_49) rfl (feq hc49_19).2 (by decide) (by decide) k) ?_
        show own_Go p e below _ (T17.setTop (mkF m 56 #[oI p0, oI p1, oI p2, oI (((p1 <<< ((1 : Int32) &&& 31)) + ((p2 >>> ((1 : Int32) &&& 31)) &&& (3 : Int32))) - (1 : Int32)), oI (0 : Int32)] []))
        refine own_via (fun t k => XS.iconst X17.here hx rfl (hb hby at_56) k) ?_
        show own_Go p e below _ (T17.setTop (mkF m 57 #[oI p0, oI p1, oI p2, oI (((p1 <<< ((1 : Int32) &&& 31)) + ((p2 >>> ((1 : Int32) &&& 31)) &&& (3 : Int32))) - (1 : Int32)), oI (0 : Int32)] [(.int (0 : Int32))]))
        have hv : (f0 p0 p1 p2) = (0 : Int32) := by unfold f0; rw [if_neg hc3_1, if_pos hc25_16, if_neg hc49_19]
        exact absurd ((own_plain p0 p1 p2).symm.trans hv) (by decide)
    · refine own_via (fun t k => XS.ifNo X0.here hx rfl (hb hby at_25) rfl ((if0 _ _).trans (feq hc25_16).1) k) ?_
      show own_Go p e below _ (s₁.setTop (mkF m 28 #[oI p0, oI p1, oI p2, oI (((p1 <<< ((1 : Int32) &&& 31)) + ((p2 >>> ((1 : Int32) &&& 31)) &&& (3 : Int32))) - (1 : Int32)), .unset] []))
      refine own_via (fun t k => XS.iloadN X0.here hx rfl (hb hby at_28) rfl k) ?_
      show own_Go p e below _ (s₁.setTop (mkF m 29 #[oI p0, oI p1, oI p2, oI (((p1 <<< ((1 : Int32) &&& 31)) + ((p2 >>> ((1 : Int32) &&& 31)) &&& (3 : Int32))) - (1 : Int32)), .unset] [(.int (((p1 <<< ((1 : Int32) &&& 31)) + ((p2 >>> ((1 : Int32) &&& 31)) &&& (3 : Int32))) - (1 : Int32)))]))
      refine own_via (fun t k => XS.iconst X0.here hx rfl (hb hby at_29) k) ?_
      show own_Go p e below _ (s₁.setTop (mkF m 30 #[oI p0, oI p1, oI p2, oI (((p1 <<< ((1 : Int32) &&& 31)) + ((p2 >>> ((1 : Int32) &&& 31)) &&& (3 : Int32))) - (1 : Int32)), .unset] [(.int (1 : Int32)), (.int (((p1 <<< ((1 : Int32) &&& 31)) + ((p2 >>> ((1 : Int32) &&& 31)) &&& (3 : Int32))) - (1 : Int32)))]))
      refine own_via (fun t k => XS.ishr X0.here hx rfl (hb hby at_30) rfl k) ?_
      show own_Go p e below _ (s₁.setTop (mkF m 31 #[oI p0, oI p1, oI p2, oI (((p1 <<< ((1 : Int32) &&& 31)) + ((p2 >>> ((1 : Int32) &&& 31)) &&& (3 : Int32))) - (1 : Int32)), .unset] [(.int ((((p1 <<< ((1 : Int32) &&& 31)) + ((p2 >>> ((1 : Int32) &&& 31)) &&& (3 : Int32))) - (1 : Int32)) >>> ((1 : Int32) &&& 31)))]))
      refine own_via (fun t k => XS.iloadN X0.here hx rfl (hb hby at_31) rfl k) ?_
      show own_Go p e below _ (s₁.setTop (mkF m 32 #[oI p0, oI p1, oI p2, oI (((p1 <<< ((1 : Int32) &&& 31)) + ((p2 >>> ((1 : Int32) &&& 31)) &&& (3 : Int32))) - (1 : Int32)), .unset] [(.int p1), (.int ((((p1 <<< ((1 : Int32) &&& 31)) + ((p2 >>> ((1 : Int32) &&& 31)) &&& (3 : Int32))) - (1 : Int32)) >>> ((1 : Int32) &&& 31)))]))
      by_cases hc32_21 : ((((p1 <<< ((1 : Int32) &&& 31)) + ((p2 >>> ((1 : Int32) &&& 31)) &&& (3 : Int32))) - (1 : Int32)) >>> ((1 : Int32) &&& 31)) = p1
      · refine own_via (fun t k => XS.icmpNo X0.here hx rfl (hb hby at_32) rfl (teq hc32_21).2 k) ?_
        show own_Go p e below _ (s₁.setTop (mkF m 35 #[oI p0, oI p1, oI p2, oI (((p1 <<< ((1 : Int32) &&& 31)) + ((p2 >>> ((1 : Int32) &&& 31)) &&& (3 : Int32))) - (1 : Int32)), .unset] []))
        refine own_via (fun t k => XS.iconst X0.here hx rfl (hb hby at_35) k) ?_
        show own_Go p e below _ (s₁.setTop (mkF m 36 #[oI p0, oI p1, oI p2, oI (((p1 <<< ((1 : Int32) &&& 31)) + ((p2 >>> ((1 : Int32) &&& 31)) &&& (3 : Int32))) - (1 : Int32)), .unset] [(.int (1 : Int32))]))
        refine own_via (fun t k => XS.goto X0.here hx rfl (pc0 := 36) (pc' := 40) rfl (hb hby at_36) (by decide) (by decide) k) ?_
        show own_Go p e below _ (s₁.setTop (mkF m 40 #[oI p0, oI p1, oI p2, oI (((p1 <<< ((1 : Int32) &&& 31)) + ((p2 >>> ((1 : Int32) &&& 31)) &&& (3 : Int32))) - (1 : Int32)), .unset] [(.int (1 : Int32))]))
        refine own_via (fun t k => XS.istore X0.here hx rfl (hb hby at_40) rfl (l' := #[oI p0, oI p1, oI p2, oI (((p1 <<< ((1 : Int32) &&& 31)) + ((p2 >>> ((1 : Int32) &&& 31)) &&& (3 : Int32))) - (1 : Int32)), oI (1 : Int32)]) rfl k) ?_
        show own_Go p e below _ (s₁.setTop (mkF m 42 #[oI p0, oI p1, oI p2, oI (((p1 <<< ((1 : Int32) &&& 31)) + ((p2 >>> ((1 : Int32) &&& 31)) &&& (3 : Int32))) - (1 : Int32)), oI (1 : Int32)] []))
        refine own_via (fun t k => XS.iloadN X0.here hx rfl (hb hby at_42) rfl k) ?_
        show own_Go p e below _ (s₁.setTop (mkF m 43 #[oI p0, oI p1, oI p2, oI (((p1 <<< ((1 : Int32) &&& 31)) + ((p2 >>> ((1 : Int32) &&& 31)) &&& (3 : Int32))) - (1 : Int32)), oI (1 : Int32)] [(.int (((p1 <<< ((1 : Int32) &&& 31)) + ((p2 >>> ((1 : Int32) &&& 31)) &&& (3 : Int32))) - (1 : Int32)))]))
        refine own_via (fun t k => XS.iloadN X0.here hx rfl (hb hby at_43) rfl k) ?_
        show own_Go p e below _ (s₁.setTop (mkF m 44 #[oI p0, oI p1, oI p2, oI (((p1 <<< ((1 : Int32) &&& 31)) + ((p2 >>> ((1 : Int32) &&& 31)) &&& (3 : Int32))) - (1 : Int32)), oI (1 : Int32)] [(.int p1), (.int (((p1 <<< ((1 : Int32) &&& 31)) + ((p2 >>> ((1 : Int32) &&& 31)) &&& (3 : Int32))) - (1 : Int32)))]))
        obtain ⟨_, _, ⟨T22, L22, k22, n22⟩, -, X22, ⟨Lc22, hQ22, l22, y22, z22⟩, st22⟩ := Jvm.LawKit.callS X0 hx (y := (⟨"com/example/coupewise/coupewise/Conflicts", "rigid", "(II)Z"⟩ : MethodName)) hown (mvT hZ (own_w hw 0)) (mvT hZ (own_w hw 1)) (mvT hZ (own_w hw 2)) (mvT hZ (own_w hw 3)) (by decide) (backOf (W := 0) (rm1 l Z a0 hw [] (((p1 <<< ((1 : Int32) &&& 31)) + ((p2 >>> ((1 : Int32) &&& 31)) &&& (3 : Int32))) - (1 : Int32)) p1 (f1 (((p1 <<< ((1 : Int32) &&& 31)) + ((p2 >>> ((1 : Int32) &&& 31)) &&& (3 : Int32))) - (1 : Int32)) p1) h0 n0 Z0 rfl) hZ (own_w hw 3) (own_w hw 2) (by decide) (by decide)) (g := (mkF m 44 #[oI p0, oI p1, oI p2, oI (((p1 <<< ((1 : Int32) &&& 31)) + ((p2 >>> ((1 : Int32) &&& 31)) &&& (3 : Int32))) - (1 : Int32)), oI (1 : Int32)] [(.int p1), (.int (((p1 <<< ((1 : Int32) &&& 31)) + ((p2 >>> ((1 : Int32) &&& 31)) &&& (3 : Int32))) - (1 : Int32)))])) rfl (by rw [hml]; rfl) (argsL := [(.int (((p1 <<< ((1 : Int32) &&& 31)) + ((p2 >>> ((1 : Int32) &&& 31)) &&& (3 : Int32))) - (1 : Int32))), (.int p1)]) (rest := []) (lenOf pd_0_0 rfl) rfl (by show 2 * 0 + _ ≤ _; exact Nat.le_of_eq rfl) (hb hby at_44) (fun _ _ => ⟨rfl, e0, (by decide : 0 + 0 ≤ _), (by decide : 0 + 0 ≤ _)⟩)
        dsimp only [Pt.U, Pt.locs, Pt.cells, Pt.slots] at X22 l22 y22 z22 st22 hQ22
        subst l22 y22 z22
        obtain ⟨rfl, Nq22, e22⟩ := hQ22
        have N23 := Fr.app N0 Nq22
        refine own_via st22 ?_
        show own_Go p e below _ (T22.setTop (mkF m 47 #[oI p0, oI p1, oI p2, oI (((p1 <<< ((1 : Int32) &&& 31)) + ((p2 >>> ((1 : Int32) &&& 31)) &&& (3 : Int32))) - (1 : Int32)), oI (1 : Int32)] [(.int (f1 (((p1 <<< ((1 : Int32) &&& 31)) + ((p2 >>> ((1 : Int32) &&& 31)) &&& (3 : Int32))) - (1 : Int32)) p1))]))
        refine own_via (fun t k => XS.iload X22.here hx rfl (hb hby at_47) rfl k) ?_
        show own_Go p e below _ (T22.setTop (mkF m 49 #[oI p0, oI p1, oI p2, oI (((p1 <<< ((1 : Int32) &&& 31)) + ((p2 >>> ((1 : Int32) &&& 31)) &&& (3 : Int32))) - (1 : Int32)), oI (1 : Int32)] [(.int (1 : Int32)), (.int (f1 (((p1 <<< ((1 : Int32) &&& 31)) + ((p2 >>> ((1 : Int32) &&& 31)) &&& (3 : Int32))) - (1 : Int32)) p1))]))
        by_cases hc49_24 : (f1 (((p1 <<< ((1 : Int32) &&& 31)) + ((p2 >>> ((1 : Int32) &&& 31)) &&& (3 : Int32))) - (1 : Int32)) p1) = (1 : Int32)
        · refine own_via (fun t k => XS.icmpNo X22.here hx rfl (hb hby at_49) rfl (teq hc49_24).2 k) ?_
          show own_Go p e below _ (T22.setTop (mkF m 52 #[oI p0, oI p1, oI p2, oI (((p1 <<< ((1 : Int32) &&& 31)) + ((p2 >>> ((1 : Int32) &&& 31)) &&& (3 : Int32))) - (1 : Int32)), oI (1 : Int32)] []))
          refine own_via (fun t k => XS.iconst X22.here hx rfl (hb hby at_52) k) ?_
          show own_Go p e below _ (T22.setTop (mkF m 53 #[oI p0, oI p1, oI p2, oI (((p1 <<< ((1 : Int32) &&& 31)) + ((p2 >>> ((1 : Int32) &&& 31)) &&& (3 : Int32))) - (1 : Int32)), oI (1 : Int32)] [(.int (1 : Int32))]))
          refine own_via (fun t k => XS.goto X22.here hx rfl (pc0 := 53) (pc' := 57) rfl (hb hby at_53) (by decide) (by decide) k) ?_
          show own_Go p e below _ (T22.setTop (mkF m 57 #[oI p0, oI p1, oI p2, oI (((p1 <<< ((1 : Int32) &&& 31)) + ((p2 >>> ((1 : Int32) &&& 31)) &&& (3 : Int32))) - (1 : Int32)), oI (1 : Int32)] [(.int (1 : Int32))]))
          have hv : (f0 p0 p1 p2) = (1 : Int32) := by unfold f0; rw [if_neg hc3_1, if_neg hc25_16, if_pos hc32_21, if_pos hc49_24]
          obtain ⟨fs, hr, hrun, hended, hW, hsame⟩ := X22.leave (v := some (.int (1 : Int32))) (fun h => by rw [Bd.returns] at h; cases h)
          refine ⟨_, _, retN X22 hx (t := .boolean) Bd.returns (by simp) (hb hby at_57) hr, hrun, hended, _, _, rfl, ?_, ⟨_, rfl⟩, hW, hsame.mono (by decide) (by decide)⟩
          show Q0 Z p0 p1 p2 h0 n0 _ T22.heap _
          rw [e22]
          exact ⟨rfl, N23⟩
        · refine own_via (fun t k => XS.icmpYes X22.here hx rfl (pc0 := 49) (pc' := 56) rfl (hb hby at_49) rfl (feq hc49_24).2 (by decide) (by decide) k) ?_
          show own_Go p e below _ (T22.setTop (mkF m 56 #[oI p0, oI p1, oI p2, oI (((p1 <<< ((1 : Int32) &&& 31)) + ((p2 >>> ((1 : Int32) &&& 31)) &&& (3 : Int32))) - (1 : Int32)), oI (1 : Int32)] []))
          refine own_via (fun t k => XS.iconst X22.here hx rfl (hb hby at_56) k) ?_
          show own_Go p e below _ (T22.setTop (mkF m 57 #[oI p0, oI p1, oI p2, oI (((p1 <<< ((1 : Int32) &&& 31)) + ((p2 >>> ((1 : Int32) &&& 31)) &&& (3 : Int32))) - (1 : Int32)), oI (1 : Int32)] [(.int (0 : Int32))]))
          have hv : (f0 p0 p1 p2) = (0 : Int32) := by unfold f0; rw [if_neg hc3_1, if_neg hc25_16, if_pos hc32_21, if_neg hc49_24]
          exact absurd ((own_plain p0 p1 p2).symm.trans hv) (by decide)
      · refine own_via (fun t k => XS.icmpYes X0.here hx rfl (pc0 := 32) (pc' := 39) rfl (hb hby at_32) rfl (feq hc32_21).2 (by decide) (by decide) k) ?_
        show own_Go p e below _ (s₁.setTop (mkF m 39 #[oI p0, oI p1, oI p2, oI (((p1 <<< ((1 : Int32) &&& 31)) + ((p2 >>> ((1 : Int32) &&& 31)) &&& (3 : Int32))) - (1 : Int32)), .unset] []))
        refine own_via (fun t k => XS.iconst X0.here hx rfl (hb hby at_39) k) ?_
        show own_Go p e below _ (s₁.setTop (mkF m 40 #[oI p0, oI p1, oI p2, oI (((p1 <<< ((1 : Int32) &&& 31)) + ((p2 >>> ((1 : Int32) &&& 31)) &&& (3 : Int32))) - (1 : Int32)), .unset] [(.int (0 : Int32))]))
        refine own_via (fun t k => XS.istore X0.here hx rfl (hb hby at_40) rfl (l' := #[oI p0, oI p1, oI p2, oI (((p1 <<< ((1 : Int32) &&& 31)) + ((p2 >>> ((1 : Int32) &&& 31)) &&& (3 : Int32))) - (1 : Int32)), oI (0 : Int32)]) rfl k) ?_
        show own_Go p e below _ (s₁.setTop (mkF m 42 #[oI p0, oI p1, oI p2, oI (((p1 <<< ((1 : Int32) &&& 31)) + ((p2 >>> ((1 : Int32) &&& 31)) &&& (3 : Int32))) - (1 : Int32)), oI (0 : Int32)] []))
        refine own_via (fun t k => XS.iloadN X0.here hx rfl (hb hby at_42) rfl k) ?_
        show own_Go p e below _ (s₁.setTop (mkF m 43 #[oI p0, oI p1, oI p2, oI (((p1 <<< ((1 : Int32) &&& 31)) + ((p2 >>> ((1 : Int32) &&& 31)) &&& (3 : Int32))) - (1 : Int32)), oI (0 : Int32)] [(.int (((p1 <<< ((1 : Int32) &&& 31)) + ((p2 >>> ((1 : Int32) &&& 31)) &&& (3 : Int32))) - (1 : Int32)))]))
        refine own_via (fun t k => XS.iloadN X0.here hx rfl (hb hby at_43) rfl k) ?_
        show own_Go p e below _ (s₁.setTop (mkF m 44 #[oI p0, oI p1, oI p2, oI (((p1 <<< ((1 : Int32) &&& 31)) + ((p2 >>> ((1 : Int32) &&& 31)) &&& (3 : Int32))) - (1 : Int32)), oI (0 : Int32)] [(.int p1), (.int (((p1 <<< ((1 : Int32) &&& 31)) + ((p2 >>> ((1 : Int32) &&& 31)) &&& (3 : Int32))) - (1 : Int32)))]))
        obtain ⟨_, _, ⟨T26, L26, k26, n26⟩, -, X26, ⟨Lc26, hQ26, l26, y26, z26⟩, st26⟩ := Jvm.LawKit.callS X0 hx (y := (⟨"com/example/coupewise/coupewise/Conflicts", "rigid", "(II)Z"⟩ : MethodName)) hown (mvT hZ (own_w hw 0)) (mvT hZ (own_w hw 1)) (mvT hZ (own_w hw 2)) (mvT hZ (own_w hw 3)) (by decide) (backOf (W := 0) (rm1 l Z a0 hw [] (((p1 <<< ((1 : Int32) &&& 31)) + ((p2 >>> ((1 : Int32) &&& 31)) &&& (3 : Int32))) - (1 : Int32)) p1 (f1 (((p1 <<< ((1 : Int32) &&& 31)) + ((p2 >>> ((1 : Int32) &&& 31)) &&& (3 : Int32))) - (1 : Int32)) p1) h0 n0 Z0 rfl) hZ (own_w hw 3) (own_w hw 2) (by decide) (by decide)) (g := (mkF m 44 #[oI p0, oI p1, oI p2, oI (((p1 <<< ((1 : Int32) &&& 31)) + ((p2 >>> ((1 : Int32) &&& 31)) &&& (3 : Int32))) - (1 : Int32)), oI (0 : Int32)] [(.int p1), (.int (((p1 <<< ((1 : Int32) &&& 31)) + ((p2 >>> ((1 : Int32) &&& 31)) &&& (3 : Int32))) - (1 : Int32)))])) rfl (by rw [hml]; rfl) (argsL := [(.int (((p1 <<< ((1 : Int32) &&& 31)) + ((p2 >>> ((1 : Int32) &&& 31)) &&& (3 : Int32))) - (1 : Int32))), (.int p1)]) (rest := []) (lenOf pd_0_0 rfl) rfl (by show 2 * 0 + _ ≤ _; exact Nat.le_of_eq rfl) (hb hby at_44) (fun _ _ => ⟨rfl, e0, (by decide : 0 + 0 ≤ _), (by decide : 0 + 0 ≤ _)⟩)
        dsimp only [Pt.U, Pt.locs, Pt.cells, Pt.slots] at X26 l26 y26 z26 st26 hQ26
        subst l26 y26 z26
        obtain ⟨rfl, Nq26, e26⟩ := hQ26
        have N27 := Fr.app N0 Nq26
        refine own_via st26 ?_
        show own_Go p e below _ (T26.setTop (mkF m 47 #[oI p0, oI p1, oI p2, oI (((p1 <<< ((1 : Int32) &&& 31)) + ((p2 >>> ((1 : Int32) &&& 31)) &&& (3 : Int32))) - (1 : Int32)), oI (0 : Int32)] [(.int (f1 (((p1 <<< ((1 : Int32) &&& 31)) + ((p2 >>> ((1 : Int32) &&& 31)) &&& (3 : Int32))) - (1 : Int32)) p1))]))
        refine own_via (fun t k => XS.iload X26.here hx rfl (hb hby at_47) rfl k) ?_
        show own_Go p e below _ (T26.setTop (mkF m 49 #[oI p0, oI p1, oI p2, oI (((p1 <<< ((1 : Int32) &&& 31)) + ((p2 >>> ((1 : Int32) &&& 31)) &&& (3 : Int32))) - (1 : Int32)), oI (0 : Int32)] [(.int (0 : Int32)), (.int (f1 (((p1 <<< ((1 : Int32) &&& 31)) + ((p2 >>> ((1 : Int32) &&& 31)) &&& (3 : Int32))) - (1 : Int32)) p1))]))
        by_cases hc49_28 : (f1 (((p1 <<< ((1 : Int32) &&& 31)) + ((p2 >>> ((1 : Int32) &&& 31)) &&& (3 : Int32))) - (1 : Int32)) p1) = (0 : Int32)
        · refine own_via (fun t k => XS.icmpNo X26.here hx rfl (hb hby at_49) rfl (teq hc49_28).2 k) ?_
          show own_Go p e below _ (T26.setTop (mkF m 52 #[oI p0, oI p1, oI p2, oI (((p1 <<< ((1 : Int32) &&& 31)) + ((p2 >>> ((1 : Int32) &&& 31)) &&& (3 : Int32))) - (1 : Int32)), oI (0 : Int32)] []))
          refine own_via (fun t k => XS.iconst X26.here hx rfl (hb hby at_52) k) ?_
          show own_Go p e below _ (T26.setTop (mkF m 53 #[oI p0, oI p1, oI p2, oI (((p1 <<< ((1 : Int32) &&& 31)) + ((p2 >>> ((1 : Int32) &&& 31)) &&& (3 : Int32))) - (1 : Int32)), oI (0 : Int32)] [(.int (1 : Int32))]))
          refine own_via (fun t k => XS.goto X26.here hx rfl (pc0 := 53) (pc' := 57) rfl (hb hby at_53) (by decide) (by decide) k) ?_
          show own_Go p e below _ (T26.setTop (mkF m 57 #[oI p0, oI p1, oI p2, oI (((p1 <<< ((1 : Int32) &&& 31)) + ((p2 >>> ((1 : Int32) &&& 31)) &&& (3 : Int32))) - (1 : Int32)), oI (0 : Int32)] [(.int (1 : Int32))]))
          have hv : (f0 p0 p1 p2) = (1 : Int32) := by unfold f0; rw [if_neg hc3_1, if_neg hc25_16, if_neg hc32_21, if_pos hc49_28]
          obtain ⟨fs, hr, hrun, hended, hW, hsame⟩ := X26.leave (v := some (.int (1 : Int32))) (fun h => by rw [Bd.returns] at h; cases h)
          refine ⟨_, _, retN X26 hx (t := .boolean) Bd.returns (by simp) (hb hby at_57) hr, hrun, hended, _, _, rfl, ?_, ⟨_, rfl⟩, hW, hsame.mono (by decide) (by decide)⟩
          show Q0 Z p0 p1 p2 h0 n0 _ T26.heap _
          rw [e26]
          exact ⟨rfl, N27⟩
        · refine own_via (fun t k => XS.icmpYes X26.here hx rfl (pc0 := 49) (pc' := 56) rfl (hb hby at_49) rfl (feq hc49_28).2 (by decide) (by decide) k) ?_
          show own_Go p e below _ (T26.setTop (mkF m 56 #[oI p0, oI p1, oI p2, oI (((p1 <<< ((1 : Int32) &&& 31)) + ((p2 >>> ((1 : Int32) &&& 31)) &&& (3 : Int32))) - (1 : Int32)), oI (0 : Int32)] []))
          refine own_via (fun t k => XS.iconst X26.here hx rfl (hb hby at_56) k) ?_
          show own_Go p e below _ (T26.setTop (mkF m 57 #[oI p0, oI p1, oI p2, oI (((p1 <<< ((1 : Int32) &&& 31)) + ((p2 >>> ((1 : Int32) &&& 31)) &&& (3 : Int32))) - (1 : Int32)), oI (0 : Int32)] [(.int (0 : Int32))]))
          have hv : (f0 p0 p1 p2) = (0 : Int32) := by unfold f0; rw [if_neg hc3_1, if_neg hc25_16, if_neg hc32_21, if_neg hc49_28]
          exact absurd ((own_plain p0 p1 p2).symm.trans hv) (by decide)
set_option maxRecDepth 65536 in
set_option maxHeartbeats 40000000 in
theorem comes_1 {Post : Tables → Env → Array Value → State → Outcome → State → Prop} (hpost : ∀ tb e args s v u, (limb_1_1.after args s (.returned v) u = true ∧ limb_1_2.after args s (.returned v) u = true ∧ True) → FrameEnd s (.returned v) u (Jvm.fieldLocs frame_1_writes args s ++ Jvm.arrayLocs frame_1_arrays args s ++ Jvm.staticLocs frame_1_statics s) 0 0 → Post tb e args s (.returned v) u) :
    ArmFor flags0 classFile x code maxLocals ret World_1 tables_1 room_1 Calls_1 rest_1 Pre_1 Post := by
  intro l hfl _ _ p e ha hc hk s m args below hf hA hF happ hP
  obtain ⟨hcalls, hrest, hpre⟩ := hP
  obtain ⟨-, -, -, hnamed, -, -, -, hat⟩ := (Spec.applies_iff hf).mp happ
  obtain ⟨hg, hn⟩ := and_e (Cond.before_iff.mp (show (Jvm.Cond.and given_1 narrow_1).before args s = true from hpre))
  obtain ⟨g1, g2⟩ := and_e hg
  obtain ⟨g3, g4⟩ := and_e g2
  obtain ⟨g5, g6⟩ := and_e g4
  obtain ⟨w0, w1, w2, rfl⟩ : ∃ w0 w1 w2 : Value, args = #[w0, w1, w2] := by
    have hs : args.size = 3 := by simpa [Cond.value, given_1] using g1
    obtain ⟨L⟩ := args
    match L, hs with
    | [w0, w1, w2], _ => exact ⟨w0, w1, w2, rfl⟩
  have hw := fun d (hd : d ∈ tables_1) => atoms_spec (ws := Jvm.Cond.code x code maxLocals ret :: tables_1) hat d (List.mem_cons_of_mem _ hd)
  obtain ⟨i0, ei0⟩ := is_v g3
  obtain rfl : w0 = (.int i0) := Option.some.inj ei0
  obtain ⟨i1, ei1⟩ := is_v g5
  obtain rfl : w1 = (.int i1) := Option.some.inj ei1
  obtain ⟨i2, ei2⟩ := is_v g6
  obtain rfl : w2 = (.int i2) := Option.some.inj ei2
  obtain ⟨n, o, h1, h2, h3, _, L, rfl, ⟨rfl, N⟩, hq⟩ := rm0 l s _ hw tables_1 i0 i1 i2 s.heap s.heap.size (Nat.le_refl _)  p e ha hc hk s m _ below hf ((Spec.applies_iff_loose hf).mp happ).1 ⟨rfl, State.Warmed39.refl s, rfl⟩ trivial
  refine ⟨n, _, h1, h2, h3, hpost _ _ _ _ _ _ ⟨Cond.after_iff.mpr rfl, Cond.after_iff.mpr (eq_i res_at (Term.int_eval (1)) rfl), trivial⟩ ⟨hq.1, hq.2.1, (hq.2.2.sift fun y hy => Or.inr (N y hy)).mono (by decide) (by decide)⟩⟩
theorem main_1_1 : Claimed_1_1 := comes_1 fun _ _ _ _ _ _ h hF => ⟨h.1, hF⟩
theorem main_1_2 : Claimed_1_2 := comes_1 fun _ _ _ _ _ _ h hF => ⟨h.2.1, hF⟩
end Jvm.Pilot.@@N@@
namespace Jvm.Pilot.@@N@@
open Jvm Jvm.ClassFile Sem Op Lib Jvm.Free Jvm.Stand Jvm.Pilot.@@N@@.Jvm.D
/-! MADE BY PROGRAM (witnessworld.py) out of the Statement's table words and the real class files: 7 classes; the members and pool entries that the words name. The judged class is class 1, her method 1. -/
namespace start1
open Jvm.ClassFile
def u (s : String) : CpInfo := .utf8 (stringToUtf16 s)
/-- a pool by its gaps: so many unusable entries, then the entry; so many at the end -/
def gap : Nat → List CpInfo → List CpInfo
  | 0, r => r
  | n + 1, r => .unusable :: gap n r
def poolList (es : List (Nat × CpInfo)) (last : Nat) : List CpInfo := es.foldr (fun e r => gap e.1 (e.2 :: r)) (gap last [])
def pool (es : List (Nat × CpInfo)) (last : Nat) : Array CpInfo := ⟨poolList es last⟩
def fileOf (pool : Array CpInfo) (this : Nat) (attrs : Array Attribute := #[]) (ms : Array MethodInfo := #[]) (fl : Nat := 33) (sup : Nat := 0) (ifs : Array Nat := #[]) (fds : Array FieldInfo := #[]) : ClassFile where
  minorVersion := 0
  majorVersion := 65
  constantPool := pool
  accessFlags := fl
  thisClass := this
  superClass := sup
  interfaces := ifs
  fields := fds
  methods := ms
  attributes := attrs
def plain (name : String) (sup : Option ClassId) : Class where
  name := name
  kind := .ordinary
  loader := none
  accessFlags := 33
  super := sup
  interfaces := #[]
  cf := none
  fields := #[]
  methods := #[]
  instanceTypes := #[]
  staticTypes := #[]
  resolved := #[]
  callSites := []
  init := .initialized
  statics := none
  mirror := none

def pool0 : Array CpInfo := pool [(5, u "<init>"), (0, u "()V"), (1, .class_ 10), (1, u "java/lang/Object")] 113

def k0m0 : Method := { name := "<init>", desc := "()V", sig := { parameters := [], returnType := none }, accessFlags := 1, code := none }
/-- java/lang/Object -/
def k0 : Class := { plain "java/lang/Object" none with
  accessFlags := 33
  interfaces := #[]
  cf := some (fileOf pool0 8 #[] #[{ accessFlags := 1, nameIndex := 5, descriptorIndex := 6, attributes := #[] }] 33 0 #[] #[])
  fields := #[]
  methods := #[k0m0]
  instanceTypes := #[]
  staticTypes := #[]
  resolved := Array.replicate 124 none
  statics := none }

def pool1 : Array CpInfo := pool [(2, .class_ 4), (1, u "java/lang/Object"), (0, u "<init>"), (0, u "()V"), (0, .methodref 8 9), (0, .class_ 10), (0, .nameAndType 11 12), (0, u "com/example/coupewise/coupewise/Conflicts"), (0, u "rigid"), (0, u "(II)Z"), (0, .class_ 14), (0, u "com/example/coupewise/coupewise/ConflictsRigidPinLaw"), (2, u "law"), (0, u "(III)Z")] 3

def k1m0 : Method := { name := "<init>", desc := "()V", sig := { parameters := [], returnType := none }, accessFlags := 1, code := none }
def k1c1 : Code := { maxStack := 3, maxLocals := 5, code := code, exceptionTable := #[], attributes := #[] }
def k1m1 : Method := { name := "law", desc := "(III)Z", sig := { parameters := [.int, .int, .int], returnType := some .boolean }, accessFlags := 9, code := some k1c1 }
/-- com/example/coupewise/coupewise/ConflictsRigidPinLaw -/
def k1 : Class := { plain "com/example/coupewise/coupewise/ConflictsRigidPinLaw" (some 0) with
  accessFlags := 49
  interfaces := #[]
  cf := some (fileOf pool1 13 #[] #[{ accessFlags := 1, nameIndex := 5, descriptorIndex := 6, attributes := #[] }, { accessFlags := 9, nameIndex := 17, descriptorIndex := 18, attributes := #[] }] 49 2 #[] #[])
  fields := #[]
  methods := #[k1m0, k1m1]
  instanceTypes := #[]
  staticTypes := #[]
  resolved := Array.replicate 22 none
  statics := none }

def pool2 : Array CpInfo := pool [(2, .class_ 4), (1, u "java/lang/Object"), (6, .class_ 13), (1, u "com/example/coupewise/coupewise/Conflicts"), (0, u "cliques"), (0, u "Ljava/util/List;"), (2, u "covers"), (6, u "adjacent"), (0, u "[[I"), (4, .long 2), (3, u "cliqueWork"), (0, u "J"), (4, u "coverWork"), (5, u "rigid"), (0, u "(II)Z"), (219, u "MAX_COVER"), (0, u "I"), (2, u "CLIQUE_WORK_PER_PAIR"), (1, u "CLIQUE_WORK_BASE"), (1, u "ROUND_WORK"), (0, u "COVER_WORK_PER_UNIT")] 50

def k2c0 : Code := { maxStack := 6, maxLocals := 2, code := prog_2_method_3_code, exceptionTable := #[], attributes := #[] }
def k2m0 : Method := { name := "rigid", desc := "(II)Z", sig := { parameters := [.int, .int], returnType := some .boolean }, accessFlags := 8, code := some k2c0 }
/-- com/example/coupewise/coupewise/Conflicts -/
def k2 : Class := { plain "com/example/coupewise/coupewise/Conflicts" (some 0) with
  accessFlags := 48
  interfaces := #[]
  cf := some (fileOf pool2 11 #[] #[{ accessFlags := 8, nameIndex := 47, descriptorIndex := 48, attributes := #[] }] 48 2 #[] #[{ accessFlags := 24, nameIndex := 268, descriptorIndex := 269, attributes := #[] }, { accessFlags := 26, nameIndex := 272, descriptorIndex := 269, attributes := #[] }, { accessFlags := 26, nameIndex := 274, descriptorIndex := 269, attributes := #[] }, { accessFlags := 26, nameIndex := 276, descriptorIndex := 269, attributes := #[] }, { accessFlags := 26, nameIndex := 277, descriptorIndex := 269, attributes := #[] }, { accessFlags := 18, nameIndex := 25, descriptorIndex := 26, attributes := #[] }, { accessFlags := 18, nameIndex := 14, descriptorIndex := 15, attributes := #[] }, { accessFlags := 18, nameIndex := 18, descriptorIndex := 15, attributes := #[] }, { accessFlags := 2, nameIndex := 35, descriptorIndex := 36, attributes := #[] }, { accessFlags := 2, nameIndex := 41, descriptorIndex := 36, attributes := #[] }])
  fields := #[{ name := "MAX_COVER", type := .int, accessFlags := 24, slot := 0, constantValue := 0 }, { name := "CLIQUE_WORK_PER_PAIR", type := .int, accessFlags := 26, slot := 1, constantValue := 0 }, { name := "CLIQUE_WORK_BASE", type := .int, accessFlags := 26, slot := 2, constantValue := 0 }, { name := "ROUND_WORK", type := .int, accessFlags := 26, slot := 3, constantValue := 0 }, { name := "COVER_WORK_PER_UNIT", type := .int, accessFlags := 26, slot := 4, constantValue := 0 }, { name := "adjacent", type := (.array (.array .int)), accessFlags := 18, slot := 0, constantValue := 0 }, { name := "cliques", type := (.object "java/util/List"), accessFlags := 18, slot := 1, constantValue := 0 }, { name := "covers", type := (.object "java/util/List"), accessFlags := 18, slot := 2, constantValue := 0 }, { name := "cliqueWork", type := .long, accessFlags := 2, slot := 3, constantValue := 0 }, { name := "coverWork", type := .long, accessFlags := 2, slot := 4, constantValue := 0 }]
  methods := #[k2m0]
  instanceTypes := #[(.array (.array .int)), (.object "java/util/List"), (.object "java/util/List"), .long, .long]
  staticTypes := #[.int, .int, .int, .int, .int]
  resolved := Array.replicate 328 none
  statics := none }

def pool3 : Array CpInfo := pool [(1, u "java/lang/Cloneable"), (0, .class_ 1), (0, u "java/lang/Object"), (0, .class_ 3)] 3

/-- java/lang/Cloneable -/
def k3 : Class := { plain "java/lang/Cloneable" (some 0) with
  accessFlags := 1537
  interfaces := #[]
  cf := some (fileOf pool3 2 #[] #[] 1537 4 #[] #[])
  fields := #[]
  methods := #[]
  instanceTypes := #[]
  staticTypes := #[]
  resolved := Array.replicate 8 none
  statics := none }

def pool4 : Array CpInfo := pool [(1, u "java/io/Serializable"), (0, .class_ 1), (0, u "java/lang/Object"), (0, .class_ 3)] 3

/-- java/io/Serializable -/
def k4 : Class := { plain "java/io/Serializable" (some 0) with
  accessFlags := 1537
  interfaces := #[]
  cf := some (fileOf pool4 2 #[] #[] 1537 4 #[] #[])
  fields := #[]
  methods := #[]
  instanceTypes := #[]
  staticTypes := #[]
  resolved := Array.replicate 8 none
  statics := none }

/-- the primitive byte -/
def k5 : Class := { plain "byte" none with kind := .primitive 'B', accessFlags := 0x411 }
/-- [B -/
def k6 : Class := { plain "[B" (some 0) with kind := .array 5 .byte, interfaces := #[3, 4], accessFlags := 1041 }

def heap : Heap := #[]
def classes : Array Class := #[k0, k1, k2, k3, k4, k5, k6]
def interned : List (Array UInt16 × Addr) := []
def slotsUsed : Nat := 0
def theMethod : MethodId := ⟨1, 1⟩
def args0 : Array Value := #[.int 5, .int 3, .int 4]
def aboutOver (below : List Frame) : State where
  vm := { classes := classes, interned := interned.toArray }
  heap := heap
  slotsUsed := slotsUsed
  threads := #[{ frames := .invoking theMethod args0 :: below }]
def below0 : List Frame := [.native { method := ⟨0, 0⟩, args := #[] }]
def about1 : State := aboutOver below0
def p0 : Program := .bare "" "" ""
def e0 : Env := launch0.env 0 0 0
theorem w_frames : about1.frames = Frame.invoking theMethod args0 :: below0 := rfl
set_option maxRecDepth 65536 in
theorem w_args : argsFit about1.vm theMethod args0 = true := by decide +kernel
set_option maxRecDepth 65536 in
theorem w_heap : heapFits about1 = true := by decide +kernel
set_option maxRecDepth 65536 in
theorem w_runnable : about1.curStatus? = some .runnable := by decide +kernel
set_option maxRecDepth 65536 in
theorem w_alone : about1.alone = true := by decide +kernel
set_option maxRecDepth 65536 in
theorem w_named : about1.methodNamed? x = some theMethod := by decide +kernel
set_option maxRecDepth 65536 in
theorem w_hears : about1.hears theMethod below0 = true := by decide +kernel
set_option maxRecDepth 65536 in
theorem w_ripe : about1.ripe theMethod args0 below0 = true := by decide +kernel
theorem w_running : about1.status = .running := rfl
set_option maxRecDepth 65536 in
theorem w_room : about1.hasRoom e0.platform room_1 = true :=
  launch0.hasRoom_least _ room_1 (by decide +kernel) (by decide +kernel) (by decide +kernel) (by decide +kernel) (by decide +kernel) (by decide +kernel)
theorem allAtoms_all (ts : List Jvm.Cond) (a : Array Jvm.Value) (st : Jvm.State) : (allAtoms ts).before a st = ts.all (fun c => c.before a st) := by
  induction ts with
  | nil => rfl
  | cons c t ih =>
    show (Jvm.Cond.and c (allAtoms t)).before a st = _
    rw [Jvm.Cond.before_and, ih, List.all_cons]
def words1 : List Jvm.Cond := Jvm.Cond.code x code maxLocals ret :: tables_1
/-- a 'code' word, met by the world's own term for the bytes: nothing is compared byte by byte -/
theorem code_word {y : MethodName} {bytes : ByteArray} {mx : Nat} {rt : Option FieldType} {a : Array Value} {s : State} {m : MethodId} {meth : Method} {c : Code} (h1 : s.methodNamed? y = some m) (h2 : s.vm.method? m = some meth) (h3 : meth.code = some c) (h4 : c.code = bytes)
    (h5 : (c.maxLocals == mx && c.exceptionTable.isEmpty && decide (c.maxStack ≤ mostOperands) && decide (meth.sig.returnType = rt) && !meth.locks && decide (parseMethodDescriptor y.desc = some meth.sig)) = true) : (Jvm.Cond.code y bytes mx rt).before a s = true := by
  simp only [Bool.and_eq_true, beq_iff_eq, Bool.not_eq_true', decide_eq_true_eq] at h5
  obtain ⟨⟨⟨⟨⟨g1, g2⟩, g3⟩, g4⟩, g5⟩, g6⟩ := h5
  simp [Cond.before, Cond.holds, Cond.value, h1, h2, h3, h4, g1, g2, g3, g4, g5, g6]
def isCode : Jvm.Cond → Bool
  | .code _ _ _ _ => true
  | _ => false
theorem all_split {L : List Jvm.Cond} {P : Jvm.Cond → Bool} (h1 : L.all (fun c => isCode c || P c) = true) (h2 : ∀ c ∈ L.filter isCode, P c = true) : L.all P = true := by
  refine List.all_eq_true.mpr fun c hc => ?_
  have h := List.all_eq_true.mp h1 c hc
  rcases Bool.eq_false_or_eq_true (isCode c) with hi | hi
  · exact h2 c (List.mem_filter.mpr ⟨hc, hi⟩)
  · simpa [hi] using h
set_option maxRecDepth 65536 in
theorem w_c0 : (Jvm.Cond.code x code maxLocals ret).before args0 about1 = true := code_word (m := ⟨1, 1⟩) (meth := k1m1) (c := k1c1) (by decide +kernel) rfl rfl rfl (by decide +kernel)
set_option maxRecDepth 65536 in
theorem w_c1 : (Jvm.Cond.code ({ cls := "com/example/coupewise/coupewise/Conflicts", name := "rigid", desc := "(II)Z" } : Jvm.MethodName) prog_2_method_3_code (2 : Nat) (Option.some Jvm.ClassFile.FieldType.boolean)).before args0 about1 = true := code_word (m := ⟨2, 0⟩) (meth := k2m0) (c := k2c0) (by decide +kernel) rfl rfl rfl (by decide +kernel)
def codes1 : List Jvm.Cond := [Jvm.Cond.code x code maxLocals ret, Jvm.Cond.code ({ cls := "com/example/coupewise/coupewise/Conflicts", name := "rigid", desc := "(II)Z" } : Jvm.MethodName) prog_2_method_3_code (2 : Nat) (Option.some Jvm.ClassFile.FieldType.boolean)]
set_option maxRecDepth 65536 in
theorem codes_eq : words1.filter isCode = codes1 := rfl
theorem w_codes : ∀ c ∈ words1.filter isCode, c.before args0 about1 = true := by
  rw [codes_eq]
  intro c hc
  simp only [codes1, List.mem_cons, List.not_mem_nil, or_false] at hc
  rcases hc with rfl | rfl
  · exact w_c0
  · exact w_c1
set_option maxRecDepth 65536 in
theorem w_t1 : words1.all (fun c => isCode c || c.before args0 about1) = true := by decide +kernel
theorem w_tables : (allAtoms (Jvm.Cond.code x code maxLocals ret :: tables_1)).before args0 about1 = true := by
  rw [allAtoms_all]
  show words1.all (fun c => c.before args0 about1) = true
  refine all_split ?_ w_codes
  rw [w_t1]
set_option maxRecDepth 65536 in
theorem w_case : (Jvm.Cond.and given_1 narrow_1).before args0 about1 = true := by decide +kernel
theorem w_applies : (headSpec (Jvm.Cond.code x code maxLocals ret :: tables_1) room_1).applies x e0.platform about1 = true :=
  (Spec.applies_iff w_frames).mpr ⟨w_running, w_runnable, w_alone, w_named, w_hears, w_ripe, w_room, w_tables⟩
theorem atStart : AtStart classFile x code maxLocals ret World_1 tables_1 room_1 Calls_1 rest_1 Pre_1 launch0 p0 e0 about1 theMethod args0 below0 :=
  ⟨lists_1, trivial, launch0.admits_env _ _ _, launch0.least_env, fairChoices_fair.cas, fairChoices_fair.clock, w_frames, w_args, w_heap, w_applies, trivial, trivial, w_case⟩
end start1
theorem witness_1 : WitnessClaimed_1 := ⟨start1.p0, start1.e0, start1.about1, start1.theMethod, start1.args0, start1.below0, start1.atStart⟩
end Jvm.Pilot.@@N@@
