import JvmDerived
import JvmDerived.Pilot.@@N@@Statement
import JvmDerived.Pilot.@@N@@Code
set_option linter.unusedVariables false
set_option linter.unusedSimpArgs false
namespace Jvm.RoadKit
open Sem ClassFile Op Lib Jvm.Stand Jvm.Free Jvm.LawKit
section New
variable {p : Program} {l : Launch} {e : Env} {R : Room} {s : State} {m : MethodId} {args : Array Value} {below : List Frame} {meth : Method} {c : Code} {T : State} {locs : List Loc} {cells slots : Nat}
theorem retI (X : Stand p l e R s m args below meth c T locs cells slots) (hx : p.tables.exec = Jvm.exec) {pc : Nat} {Ls : Array Slot} {z : Int32} {rest : List Value} (hret : meth.sig.returnType = some .int) (hd : decode c.code pc = .ok (.ireturn, 1)) {fs : List Frame}
    (hl : ∀ (f : JFrame) (acts : List Action), f.method = m → f.locked = none → f.entered = [] → (doReturn e (T.setTop f) acts (some (.int z))).1 = T.setFrames fs) : Steps p.tables e below (T.setTop (mkF m pc Ls (.int z :: rest))) (T.setFrames fs) := by
  have hm' : T.vm.method? m = some meth := X.method'
  have hn : narrow .int (.int z) = .int z := rfl
  show Steps p.tables e below (T.setTop { method := m, pc := pc, locals := Ls, stack := _ :: rest, locked := none }) _
  jvm_step X.here [X.here.top, hx, hd, hm', hret, hn]
  first | (intro acts; rw [hl _ acts rfl rfl rfl]) | rw [hl _ _ rfl rfl rfl]
  exact Steps.refl _
end New
end Jvm.RoadKit
namespace Jvm.Pilot.@@N@@
open Jvm Jvm.ClassFile Sem Op Lib Jvm.Free Jvm.Stand Jvm.LawKit Jvm.RoadKit Bundle Jvm.Pilot.@@N@@.Jvm.D
theorem own_w {a0 : Array Value} {Z : State} (hw : ∀ d ∈ tables_1, d.before a0 Z = true) (k : Nat) {d : Jvm.Cond} (h : tables_1[k]? = some d := by rfl) : d.before a0 Z = true := hw _ (List.mem_of_getElem? h)
abbrev oI (x : Int32) : Slot := .val (.int x)
abbrev oR (a : Addr) : Slot := .val (.ref a)
abbrev oJ (x : Int64) : Slot := .val (.long x)
abbrev oD (x : UInt64) : Slot := .val (.double x)
/-- from the state A the run comes to an end of which Q holds -/
def own_Go (p : Program) (e : Env) (below : List Frame) (Q : Outcome → State → Prop) (A : State) : Prop := ∃ s₂ o, Steps p.tables e below A s₂ ∧ s₂.status = .running ∧ Ended s₂ below o ∧ Q o s₂
theorem own_via {p : Program} {e : Env} {below : List Frame} {Q : Outcome → State → Prop} {A B : State} (h : ∀ t, Steps p.tables e below B t → Steps p.tables e below A t) (g : own_Go p e below Q B) : own_Go p e below Q A := by
  obtain ⟨s₂, o, h1, h2⟩ := g
  exact ⟨s₂, o, h _ h1, h2⟩
theorem own_tr {p : Program} {e : Env} {below : List Frame} {Q : Outcome → State → Prop} {A B : State} (h : Steps p.tables e below A B) (g : own_Go p e below Q B) : own_Go p e below Q A := by
  obtain ⟨s₂, o, h1, h2⟩ := g
  exact ⟨s₂, o, h.trans h1, h2⟩
/-- from the state A the run comes to a state B of which Φ holds -/
def own_Pc (p : Program) (e : Env) (below : List Frame) (Φ : State → Prop) (A : State) : Prop := ∃ B, (∀ t, Steps p.tables e below B t → Steps p.tables e below A t) ∧ Φ B
theorem own_pvia {p : Program} {e : Env} {below : List Frame} {Φ : State → Prop} {A B : State} (h : ∀ t, Steps p.tables e below B t → Steps p.tables e below A t) (g : own_Pc p e below Φ B) : own_Pc p e below Φ A := by
  obtain ⟨B', h1, h2⟩ := g
  exact ⟨B', fun t k => h t (h1 t k), h2⟩
theorem own_ptr {p : Program} {e : Env} {below : List Frame} {Φ : State → Prop} {A B : State} (h : Steps p.tables e below A B) (g : own_Pc p e below Φ B) : own_Pc p e below Φ A := own_pvia (fun t k => h.trans k) g
theorem own_start {p : Program} {e : Env} {below : List Frame} {Q : Outcome → State → Prop} {A : State} (h : own_Go p e below Q A) : ∃ s₂ o, Steps p.tables e below A s₂ ∧ s₂.status = .running ∧ Ended s₂ below o ∧ Q o s₂ := h
theorem d1_0 : decode prog_52_method_1_code 0 = .ok (.aload_n 0, 1) := by decide +kernel
theorem d1_1 : decode prog_52_method_1_code 1 = .ok (.invokespecial 1, 3) := by decide +kernel
theorem d1_4 : decode prog_52_method_1_code 4 = .ok (.aload_n 0, 1) := by decide +kernel
theorem d1_5 : decode prog_52_method_1_code 5 = .ok (.lconst 1, 1) := by decide +kernel
theorem d1_6 : decode prog_52_method_1_code 6 = .ok (.putfield 7, 3) := by decide +kernel
theorem d1_9 : decode prog_52_method_1_code 9 = .ok (.aload_n 0, 1) := by decide +kernel
theorem d1_10 : decode prog_52_method_1_code 10 = .ok (.lconst 1, 1) := by decide +kernel
theorem d1_11 : decode prog_52_method_1_code 11 = .ok (.putfield 13, 3) := by decide +kernel
theorem d1_14 : decode prog_52_method_1_code 14 = .ok (.return_, 1) := by decide +kernel
theorem pn_1 : plainName "com/example/quiescence/quiescence/ioco/Walks" = true := by first | (simp [plainName, overriddenIn]; done) | decide +kernel
theorem ef_rm1 (m : MethodId) (q0 : Addr) : entryFrame m #[(.ref q0)] 1 = mkF m 0 #[oR q0] [] := by first | (simp [entryFrame, mkF, argsToLocals, Value.category]; done) | rfl
def Q1 (Z : State) (this : Addr) (h0 : Heap) (n0 : Nat) (v : Option Value) (h : Heap) (L : List Loc) : Prop := v = none ∧ Fr n0 L ∧ Keep h0 h [this] ∧ Fld Z h this "com/example/quiescence/quiescence/ioco/Walks" "started" "Z" (.int (0 : Int32)) ∧ Fld Z h this "com/example/quiescence/quiescence/ioco/Walks" "labels" "J" (.long (0 : Int64)) ∧ Fld Z h this "com/example/quiescence/quiescence/ioco/Walks" "astray" "J" (.long (0 : Int64)) ∧ Fld Z h this "com/example/quiescence/quiescence/ioco/Walks" "u" "J" (.long (1 : Int64)) ∧ Fld Z h this "com/example/quiescence/quiescence/ioco/Walks" "v" "J" (.long (1 : Int64))
set_option maxRecDepth 65536 in
set_option maxHeartbeats 40000000 in
theorem rm1 (l : Launch) (Z : State) (a0 : Array Value) (hw : ∀ d ∈ tables_1, d.before a0 Z = true) (ws : List Jvm.Cond) (this : Addr) (h0 : Heap) (n0 : Nat) (Z0 : n0 ≤ h0.size) (g_this : n0 ≤ this) (E_this : Exa Z h0 this "com/example/quiescence/quiescence/ioco/Walks") (F_started : Fld Z h0 this "com/example/quiescence/quiescence/ioco/Walks" "started" "Z" (.int (0 : Int32))) (F_labels : Fld Z h0 this "com/example/quiescence/quiescence/ioco/Walks" "labels" "J" (.long (0 : Int64))) (F_astray : Fld Z h0 this "com/example/quiescence/quiescence/ioco/Walks" "astray" "J" (.long (0 : Int64))) (F_u : Fld Z h0 this "com/example/quiescence/quiescence/ioco/Walks" "u" "J" (.long (0 : Int64))) (F_v : Fld Z h0 this "com/example/quiescence/quiescence/ioco/Walks" "v" "J" (.long (0 : Int64))) :
    MetFree l (⟨"com/example/quiescence/quiescence/ioco/Walks", "<init>", "()V"⟩ : MethodName) (head1 (Jvm.Cond.code (⟨"com/example/quiescence/quiescence/ioco/Walks", "<init>", "()V"⟩ : MethodName) prog_52_method_1_code 1 none :: ws) ({ frames := 1, cells := 0, slots := 0, locals := 12 } : Room)) (fun a U => a = #[(.ref this)] ∧ Z.Warmed39 U.vm ∧ U.heap = h0) (fun _ _ _ _ _ => True) (fun _ U o U' => ∃ v L, o = .returned v ∧ Q1 Z this h0 n0 v U'.heap L ∧ FrameEnd U o U' L ({ frames := 1, cells := 0, slots := 0, locals := 12 } : Room).cells ({ frames := 1, cells := 0, slots := 0, locals := 12 } : Room).slots) := by
  refine MetFree.of_bodySF (plainFor_of_name pn_1) hisR ?_
  intro p e s m args below meth c s₁ Bd hml0 hP hK
  obtain ⟨rfl, hZ, hh⟩ := hP
  have hx := Bd.exec
  have hby := Bd.bytes
  have hml : c.maxLocals = 1 := hml0
  have hown : s.vm.findClass "com/example/quiescence/quiescence/ioco/Walks" = some m.cls := findClass_of_methodNamed Bd.named
  have hnm := (name_of_methodNamed Bd.named Bd.method).1
  have X0 : Stand p l e ({ frames := 1, cells := 0, slots := 0, locals := 12 } : Room) s m #[(.ref this)] below meth c s₁ [] 0 0 := Stand.of_body Bd
  have e0 : s₁.heap = h0 := by rw [← hh, Bd.state]; rfl
  have N0 := Fr.nil n0
  refine own_start ?_
  refine own_via (fun t k => castTop (ef_rm1 m this) k) ?_
  show own_Go p e below _ (s₁.setTop (mkF m 0 #[oR this] []))
  refine own_via (fun t kz => XS.aloadN X0.here hx rfl (hb hby d1_0) rfl rfl kz) ?_
  show own_Go p e below _ (s₁.setTop (mkF m 1 #[oR this] [(.ref this)]))
  obtain ⟨T1, X1, e1, st1⟩ := initO X0 hx hZ hown (own_w hw 6) (own_w hw 7) (own_w hw 8) e0 (g := (mkF m 1 #[oR this] [(.ref this)])) rfl (by rw [hml]; rfl) rfl (hb hby d1_1) (by decide) (W := 0) (by show 2 * 0 + _ ≤ _; exact Nat.le_of_eq rfl) (by decide)
  refine own_via st1 ?_
  show own_Go p e below _ (T1.setTop (mkF m 4 #[oR this] []))
  refine own_via (fun t kz => XS.aloadN X1.here hx rfl (hb hby d1_4) rfl rfl kz) ?_
  show own_Go p e below _ (T1.setTop (mkF m 5 #[oR this] [(.ref this)]))
  refine own_via (fun t kz => XS.lconst X1.here hx rfl (hb hby d1_5) kz) ?_
  show own_Go p e below _ (T1.setTop (mkF m 6 #[oR this] [(.long (1 : Int64)), (.ref this)]))
  obtain ⟨T2, h2, X2, e2, W2, st2⟩ := putF X1 hx hZ hown (host := "") (Or.inl (own_w hw 9)) Via.refl e1 F_u E_this (Or.inl (own_w hw 10)) (own_w hw 1) (ty := .long) (by decide) rfl rfl (g := (mkF m 6 #[oR this] [(.long (1 : Int64)), (.ref this)])) rfl rfl (hb hby d1_6)
  refine own_via st2 ?_
  have E3 := E_this.wr W2
  have F4 := F_started.other W2 (Or.inr (slot_ne (Or.inl (own_w hw 23)) (Or.inl (own_w hw 10)) (by decide) (t := .boolean) (t' := .long) (by decide) (by decide)))
  have F5 := F_labels.other W2 (Or.inr (slot_ne (Or.inl (own_w hw 25)) (Or.inl (own_w hw 10)) (by decide) (t := .long) (t' := .long) (by decide) (by decide)))
  have F6 := F_astray.other W2 (Or.inr (slot_ne (Or.inl (own_w hw 27)) (Or.inl (own_w hw 10)) (by decide) (t := .long) (t' := .long) (by decide) (by decide)))
  have F7 := F_u.same W2
  have F8 := F_v.other W2 (Or.inr (slot_ne (Or.inl (own_w hw 12)) (Or.inl (own_w hw 10)) (by decide) (t := .long) (t' := .long) (by decide) (by decide)))
  have Zs9 : n0 ≤ h2.size := Nat.le_trans Z0 (Keep.of_wr W2).1
  have N10 := Fr.snoc X2 N0 g_this
  have K11 : Keep h0 h2 [this] := (Keep.refl h0 [this]).wr W2 (Or.inl (List.mem_of_getElem? (i := 0) rfl))
  show own_Go p e below _ (T2.setTop (mkF m 9 #[oR this] []))
  refine own_via (fun t kz => XS.aloadN X2.here hx rfl (hb hby d1_9) rfl rfl kz) ?_
  show own_Go p e below _ (T2.setTop (mkF m 10 #[oR this] [(.ref this)]))
  refine own_via (fun t kz => XS.lconst X2.here hx rfl (hb hby d1_10) kz) ?_
  show own_Go p e below _ (T2.setTop (mkF m 11 #[oR this] [(.long (1 : Int64)), (.ref this)]))
  obtain ⟨T12, h12, X12, e12, W12, st12⟩ := putF X2 hx hZ hown (host := "") (Or.inl (own_w hw 11)) Via.refl e2 F8 E3 (Or.inl (own_w hw 12)) (own_w hw 1) (ty := .long) (by decide) rfl rfl (g := (mkF m 11 #[oR this] [(.long (1 : Int64)), (.ref this)])) rfl rfl (hb hby d1_11)
  refine own_via st12 ?_
  have E13 := E3.wr W12
  have F14 := F4.other W12 (Or.inr (slot_ne (Or.inl (own_w hw 23)) (Or.inl (own_w hw 12)) (by decide) (t := .boolean) (t' := .long) (by decide) (by decide)))
  have F15 := F5.other W12 (Or.inr (slot_ne (Or.inl (own_w hw 25)) (Or.inl (own_w hw 12)) (by decide) (t := .long) (t' := .long) (by decide) (by decide)))
  have F16 := F6.other W12 (Or.inr (slot_ne (Or.inl (own_w hw 27)) (Or.inl (own_w hw 12)) (by decide) (t := .long) (t' := .long) (by decide) (by decide)))
  have F17 := F7.other W12 (Or.inr (slot_ne (Or.inl (own_w hw 10)) (Or.inl (own_w hw 12)) (by decide) (t := .long) (t' := .long) (by decide) (by decide)))
  have F18 := F8.same W12
  have Zs19 : n0 ≤ h12.size := Nat.le_trans Zs9 (Keep.of_wr W12).1
  have N20 := Fr.snoc X12 N10 g_this
  have K21 : Keep h0 h12 [this] := K11.wr W12 (Or.inl (List.mem_of_getElem? (i := 0) rfl))
  show own_Go p e below _ (T12.setTop (mkF m 14 #[oR this] []))
  obtain ⟨fs, hr, hrun, hended, hW, hsame⟩ := X12.leave (v := none) (fun _ => rfl)
  refine ⟨_, _, X12.returnOut hx Bd.returns (hb hby d1_14) hr, hrun, hended, _, _, rfl, ?_, ⟨_, rfl⟩, hW, hsame.mono (by decide) (by decide)⟩
  show Q1 Z this h0 n0 _ T12.heap _
  rw [e12]
  exact ⟨rfl, N20, K21, F14, F15, F16, F17, F18⟩
def f3 (p0 : Int32) (p1 : Int32) : Int32 := (if (((p0.toUInt32 >>> (p1 &&& 31).toUInt32).toInt32) &&& (1 : Int32)) = (0 : Int32) then (0 : Int32) else (1 : Int32))
theorem d3_0 : decode method_2_code 0 = .ok (.iload_n 0, 1) := by decide +kernel
theorem d3_1 : decode method_2_code 1 = .ok (.iload_n 1, 1) := by decide +kernel
theorem d3_2 : decode method_2_code 2 = .ok (.iushr, 1) := by decide +kernel
theorem d3_3 : decode method_2_code 3 = .ok (.iconst 1, 1) := by decide +kernel
theorem d3_4 : decode method_2_code 4 = .ok (.iand, 1) := by decide +kernel
theorem d3_5 : decode method_2_code 5 = .ok (.ifCond .eq 7, 3) := by decide +kernel
theorem d3_8 : decode method_2_code 8 = .ok (.iconst 1, 1) := by decide +kernel
theorem d3_9 : decode method_2_code 9 = .ok (.goto 4, 3) := by decide +kernel
theorem d3_12 : decode method_2_code 12 = .ok (.iconst 0, 1) := by decide +kernel
theorem d3_13 : decode method_2_code 13 = .ok (.ireturn, 1) := by decide +kernel
theorem pn_3 : plainName "com/example/quiescence/quiescence/ioco/WalksEndsBeforePinLaw" = true := by first | (simp [plainName, overriddenIn]; done) | decide +kernel
theorem ef_rm3 (m : MethodId) (q0 : Int32) (q1 : Int32) : entryFrame m #[(.int q0), (.int q1)] 2 = mkF m 0 #[oI q0, oI q1] [] := by first | (simp [entryFrame, mkF, argsToLocals, Value.category]; done) | rfl
def Q3 (Z : State) (p0 : Int32) (p1 : Int32) (r : Int32) (h0 : Heap) (n0 : Nat) (v : Option Value) (h : Heap) (L : List Loc) : Prop := v = some (.int r) ∧ Fr n0 L ∧ h = h0
set_option maxRecDepth 65536 in
set_option maxHeartbeats 40000000 in
theorem rm3 (l : Launch) (Z : State) (a0 : Array Value) (hw : ∀ d ∈ tables_1, d.before a0 Z = true) (ws : List Jvm.Cond) (p0 : Int32) (p1 : Int32) (r : Int32) (h0 : Heap) (n0 : Nat) (Z0 : n0 ≤ h0.size) (hr0 : (f3 p0 p1) = r) :
    MetFree l (⟨"com/example/quiescence/quiescence/ioco/WalksEndsBeforePinLaw", "bit", "(II)Z"⟩ : MethodName) (head1 (Jvm.Cond.code (⟨"com/example/quiescence/quiescence/ioco/WalksEndsBeforePinLaw", "bit", "(II)Z"⟩ : MethodName) method_2_code 2 (some .boolean) :: ws) ({ frames := 0, cells := 0, slots := 0, locals := 0 } : Room)) (fun a U => a = #[(.int p0), (.int p1)] ∧ Z.Warmed39 U.vm ∧ U.heap = h0) (fun _ _ _ _ _ => True) (fun _ U o U' => ∃ v L, o = .returned v ∧ Q3 Z p0 p1 r h0 n0 v U'.heap L ∧ FrameEnd U o U' L ({ frames := 0, cells := 0, slots := 0, locals := 0 } : Room).cells ({ frames := 0, cells := 0, slots := 0, locals := 0 } : Room).slots) := by
  refine MetFree.of_bodySF (plainFor_of_name pn_3) hisR ?_
  intro p e s m args below meth c s₁ Bd hml0 hP hK
  obtain ⟨rfl, hZ, hh⟩ := hP
  have hx := Bd.exec
  have hby := Bd.bytes
  have hml : c.maxLocals = 2 := hml0
  have hown : s.vm.findClass "com/example/quiescence/quiescence/ioco/WalksEndsBeforePinLaw" = some m.cls := findClass_of_methodNamed Bd.named
  have hnm := (name_of_methodNamed Bd.named Bd.method).1
  have X0 : Stand p l e ({ frames := 0, cells := 0, slots := 0, locals := 0 } : Room) s m #[(.int p0), (.int p1)] below meth c s₁ [] 0 0 := Stand.of_body Bd
  have e0 : s₁.heap = h0 := by rw [← hh, Bd.state]; rfl
  have N0 := Fr.nil n0
  refine own_start ?_
  refine own_via (fun t k => castTop (ef_rm3 m p0 p1) k) ?_
  show own_Go p e below _ (s₁.setTop (mkF m 0 #[oI p0, oI p1] []))
  refine own_via (fun t kz => XS.iloadN X0.here hx rfl (hb hby d3_0) rfl kz) ?_
  show own_Go p e below _ (s₁.setTop (mkF m 1 #[oI p0, oI p1] [(.int p0)]))
  refine own_via (fun t kz => XS.iloadN X0.here hx rfl (hb hby d3_1) rfl kz) ?_
  show own_Go p e below _ (s₁.setTop (mkF m 2 #[oI p0, oI p1] [(.int p1), (.int p0)]))
  refine own_via (fun t kz => XS.iushr X0.here hx rfl (hb hby d3_2) rfl kz) ?_
  show own_Go p e below _ (s₁.setTop (mkF m 3 #[oI p0, oI p1] [(.int ((p0.toUInt32 >>> (p1 &&& 31).toUInt32).toInt32))]))
  refine own_via (fun t kz => XS.iconst X0.here hx rfl (hb hby d3_3) kz) ?_
  show own_Go p e below _ (s₁.setTop (mkF m 4 #[oI p0, oI p1] [(.int (1 : Int32)), (.int ((p0.toUInt32 >>> (p1 &&& 31).toUInt32).toInt32))]))
  refine own_via (fun t kz => XS.iand X0.here hx rfl (hb hby d3_4) rfl kz) ?_
  show own_Go p e below _ (s₁.setTop (mkF m 5 #[oI p0, oI p1] [(.int (((p0.toUInt32 >>> (p1 &&& 31).toUInt32).toInt32) &&& (1 : Int32)))]))
  by_cases hc5_1 : (((p0.toUInt32 >>> (p1 &&& 31).toUInt32).toInt32) &&& (1 : Int32)) = (0 : Int32)
  · refine own_via (fun t kz => XS.ifYes X0.here hx rfl (pc0 := 5) (pc' := 12) rfl (hb hby d3_5) rfl ((if0 _ _).trans (teq hc5_1).1) (by decide) (by decide) kz) ?_
    show own_Go p e below _ (s₁.setTop (mkF m 12 #[oI p0, oI p1] []))
    refine own_via (fun t kz => XS.iconst X0.here hx rfl (hb hby d3_12) kz) ?_
    show own_Go p e below _ (s₁.setTop (mkF m 13 #[oI p0, oI p1] [(.int (0 : Int32))]))
    have hv : (f3 p0 p1) = (0 : Int32) := by unfold f3; rw [if_pos hc5_1]
    obtain ⟨fs, hr, hrun, hended, hW, hsame⟩ := X0.leave (v := some (.int (0 : Int32))) (fun h => by rw [Bd.returns] at h; cases h)
    refine ⟨_, _, retN X0 hx (t := .boolean) Bd.returns (by simp) (hb hby d3_13) hr, hrun, hended, _, _, rfl, ?_, ⟨_, rfl⟩, hW, hsame.mono (by decide) (by decide)⟩
    show Q3 Z p0 p1 r h0 n0 _ s₁.heap _
    rw [e0]
    exact ⟨by rw [← hr0, hv], N0, rfl⟩
  · refine own_via (fun t kz => XS.ifNo X0.here hx rfl (hb hby d3_5) rfl ((if0 _ _).trans (feq hc5_1).1) kz) ?_
    show own_Go p e below _ (s₁.setTop (mkF m 8 #[oI p0, oI p1] []))
    refine own_via (fun t kz => XS.iconst X0.here hx rfl (hb hby d3_8) kz) ?_
    show own_Go p e below _ (s₁.setTop (mkF m 9 #[oI p0, oI p1] [(.int (1 : Int32))]))
    refine own_via (fun t kz => XS.goto X0.here hx rfl (pc0 := 9) (pc' := 13) rfl (hb hby d3_9) (by decide) (by decide) kz) ?_
    show own_Go p e below _ (s₁.setTop (mkF m 13 #[oI p0, oI p1] [(.int (1 : Int32))]))
    have hv : (f3 p0 p1) = (1 : Int32) := by unfold f3; rw [if_neg hc5_1]
    obtain ⟨fs, hr, hrun, hended, hW, hsame⟩ := X0.leave (v := some (.int (1 : Int32))) (fun h => by rw [Bd.returns] at h; cases h)
    refine ⟨_, _, retN X0 hx (t := .boolean) Bd.returns (by simp) (hb hby d3_13) hr, hrun, hended, _, _, rfl, ?_, ⟨_, rfl⟩, hW, hsame.mono (by decide) (by decide)⟩
    show Q3 Z p0 p1 r h0 n0 _ s₁.heap _
    rw [e0]
    exact ⟨by rw [← hr0, hv], N0, rfl⟩
theorem d4_0 : decode prog_52_method_2_code 0 = .ok (.aload_n 0, 1) := by decide +kernel
theorem d4_1 : decode prog_52_method_2_code 1 = .ok (.getfield 16, 3) := by decide +kernel
theorem d4_4 : decode prog_52_method_2_code 4 = .ok (.ifCond .ne 10, 3) := by decide +kernel
theorem d4_7 : decode prog_52_method_2_code 7 = .ok (.aload_n 0, 1) := by decide +kernel
theorem d4_8 : decode prog_52_method_2_code 8 = .ok (.iconst 1, 1) := by decide +kernel
theorem d4_9 : decode prog_52_method_2_code 9 = .ok (.putfield 16, 3) := by decide +kernel
theorem d4_12 : decode prog_52_method_2_code 12 = .ok (.iconst 0, 1) := by decide +kernel
theorem d4_13 : decode prog_52_method_2_code 13 = .ok (.ireturn, 1) := by decide +kernel
theorem ef_rm4a (m : MethodId) (q0 : Addr) (q1 : Int32) : entryFrame m #[(.ref q0), (.int q1)] 5 = mkF m 0 #[oR q0, oI q1, .unset, .unset, .unset] [] := by first | (simp [entryFrame, mkF, argsToLocals, Value.category]; done) | rfl
def Q4a (Z : State) (this : Addr) (p1 : Int32) (h0 : Heap) (n0 : Nat) (v : Option Value) (h : Heap) (L : List Loc) : Prop := v = some (.int (0 : Int32)) ∧ Fr n0 L ∧ Keep h0 h [this] ∧ Fld Z h this "com/example/quiescence/quiescence/ioco/Walks" "started" "Z" (.int (1 : Int32)) ∧ Fld Z h this "com/example/quiescence/quiescence/ioco/Walks" "labels" "J" (.long (0 : Int64)) ∧ Fld Z h this "com/example/quiescence/quiescence/ioco/Walks" "astray" "J" (.long (0 : Int64)) ∧ Fld Z h this "com/example/quiescence/quiescence/ioco/Walks" "v" "J" (.long (1 : Int64))
set_option maxRecDepth 65536 in
set_option maxHeartbeats 40000000 in
theorem rm4a (l : Launch) (Z : State) (a0 : Array Value) (hw : ∀ d ∈ tables_1, d.before a0 Z = true) (ws : List Jvm.Cond) (this : Addr) (p1 : Int32) (h0 : Heap) (n0 : Nat) (Z0 : n0 ≤ h0.size) (g_this : n0 ≤ this) (E_this : Exa Z h0 this "com/example/quiescence/quiescence/ioco/Walks") (F_started : Fld Z h0 this "com/example/quiescence/quiescence/ioco/Walks" "started" "Z" (.int (0 : Int32))) (F_labels : Fld Z h0 this "com/example/quiescence/quiescence/ioco/Walks" "labels" "J" (.long (0 : Int64))) (F_astray : Fld Z h0 this "com/example/quiescence/quiescence/ioco/Walks" "astray" "J" (.long (0 : Int64))) (F_v : Fld Z h0 this "com/example/quiescence/quiescence/ioco/Walks" "v" "J" (.long (1 : Int64))) :
    MetFree l (⟨"com/example/quiescence/quiescence/ioco/Walks", "endsBefore", "(Z)Z"⟩ : MethodName) (head1 (Jvm.Cond.code (⟨"com/example/quiescence/quiescence/ioco/Walks", "endsBefore", "(Z)Z"⟩ : MethodName) prog_52_method_2_code 5 (some .boolean) :: ws) ({ frames := 0, cells := 0, slots := 0, locals := 0 } : Room)) (fun a U => a = #[(.ref this), (.int p1)] ∧ Z.Warmed39 U.vm ∧ U.heap = h0) (fun _ _ _ _ _ => True) (fun _ U o U' => ∃ v L, o = .returned v ∧ Q4a Z this p1 h0 n0 v U'.heap L ∧ FrameEnd U o U' L ({ frames := 0, cells := 0, slots := 0, locals := 0 } : Room).cells ({ frames := 0, cells := 0, slots := 0, locals := 0 } : Room).slots) := by
  refine MetFree.of_bodySF (plainFor_of_name pn_1) hisR ?_
  intro p e s m args below meth c s₁ Bd hml0 hP hK
  obtain ⟨rfl, hZ, hh⟩ := hP
  have hx := Bd.exec
  have hby := Bd.bytes
  have hml : c.maxLocals = 5 := hml0
  have hown : s.vm.findClass "com/example/quiescence/quiescence/ioco/Walks" = some m.cls := findClass_of_methodNamed Bd.named
  have hnm := (name_of_methodNamed Bd.named Bd.method).1
  have X0 : Stand p l e ({ frames := 0, cells := 0, slots := 0, locals := 0 } : Room) s m #[(.ref this), (.int p1)] below meth c s₁ [] 0 0 := Stand.of_body Bd
  have e0 : s₁.heap = h0 := by rw [← hh, Bd.state]; rfl
  have N0 := Fr.nil n0
  refine own_start ?_
  refine own_via (fun t k => castTop (ef_rm4a m this p1) k) ?_
  show own_Go p e below _ (s₁.setTop (mkF m 0 #[oR this, oI p1, .unset, .unset, .unset] []))
  refine own_via (fun t kz => XS.aloadN X0.here hx rfl (hb hby d4_0) rfl rfl kz) ?_
  show own_Go p e below _ (s₁.setTop (mkF m 1 #[oR this, oI p1, .unset, .unset, .unset] [(.ref this)]))
  obtain ⟨T1, X1, e1, st1⟩ := getF X0 hx hZ hown (host := "") (Or.inl (own_w hw 22)) Via.refl e0 F_started (g := (mkF m 1 #[oR this, oI p1, .unset, .unset, .unset] [(.ref this)])) rfl rfl (hb hby d4_1)
  refine own_via st1 ?_
  show own_Go p e below _ (T1.setTop (mkF m 4 #[oR this, oI p1, .unset, .unset, .unset] [(.int (0 : Int32))]))
  refine own_via (fun t kz => XS.ifNo X1.here hx rfl (hb hby d4_4) rfl ((if0 _ _).trans (teq (by decide : (0 : Int32) = (0 : Int32))).2) kz) ?_
  show own_Go p e below _ (T1.setTop (mkF m 7 #[oR this, oI p1, .unset, .unset, .unset] []))
  refine own_via (fun t kz => XS.aloadN X1.here hx rfl (hb hby d4_7) rfl rfl kz) ?_
  show own_Go p e below _ (T1.setTop (mkF m 8 #[oR this, oI p1, .unset, .unset, .unset] [(.ref this)]))
  refine own_via (fun t kz => XS.iconst X1.here hx rfl (hb hby d4_8) kz) ?_
  show own_Go p e below _ (T1.setTop (mkF m 9 #[oR this, oI p1, .unset, .unset, .unset] [(.int (1 : Int32)), (.ref this)]))
  obtain ⟨T2, h2, X2, e2, W2, st2⟩ := putF X1 hx hZ hown (host := "") (Or.inl (own_w hw 22)) Via.refl e1 F_started E_this (Or.inl (own_w hw 23)) (own_w hw 1) (ty := .boolean) (by decide) rfl rfl (g := (mkF m 9 #[oR this, oI p1, .unset, .unset, .unset] [(.int (1 : Int32)), (.ref this)])) rfl rfl (hb hby d4_9)
  refine own_via st2 ?_
  have E3 := E_this.wr W2
  have F4 := F_started.same W2
  have F5 := F_labels.other W2 (Or.inr (slot_ne (Or.inl (own_w hw 25)) (Or.inl (own_w hw 23)) (by decide) (t := .long) (t' := .boolean) (by decide) (by decide)))
  have F6 := F_astray.other W2 (Or.inr (slot_ne (Or.inl (own_w hw 27)) (Or.inl (own_w hw 23)) (by decide) (t := .long) (t' := .boolean) (by decide) (by decide)))
  have F7 := F_v.other W2 (Or.inr (slot_ne (Or.inl (own_w hw 12)) (Or.inl (own_w hw 23)) (by decide) (t := .long) (t' := .boolean) (by decide) (by decide)))
  have Zs8 : n0 ≤ h2.size := Nat.le_trans Z0 (Keep.of_wr W2).1
  have N9 := Fr.snoc X2 N0 g_this
  have K10 : Keep h0 h2 [this] := (Keep.refl h0 [this]).wr W2 (Or.inl (List.mem_of_getElem? (i := 0) rfl))
  show own_Go p e below _ (T2.setTop (mkF m 12 #[oR this, oI p1, .unset, .unset, .unset] []))
  refine own_via (fun t kz => XS.iconst X2.here hx rfl (hb hby d4_12) kz) ?_
  show own_Go p e below _ (T2.setTop (mkF m 13 #[oR this, oI p1, .unset, .unset, .unset] [(.int (0 : Int32))]))
  obtain ⟨fs, hr, hrun, hended, hW, hsame⟩ := X2.leave (v := some (.int (0 : Int32))) (fun h => by rw [Bd.returns] at h; cases h)
  refine ⟨_, _, retN X2 hx (t := .boolean) Bd.returns (by simp) (hb hby d4_13) hr, hrun, hended, _, _, rfl, ?_, ⟨_, rfl⟩, hW, hsame.mono (by decide) (by decide)⟩
  show Q4a Z this p1 h0 n0 _ T2.heap _
  rw [e2]
  exact ⟨rfl, N9, K10, F4, F5, F6, F7⟩
def own_ast (Z : State) (h : Heap) (a : Addr) (n : Nat) : Prop := ∃ j : Nat, j ≤ n ∧ Fld Z h a "com/example/quiescence/quiescence/ioco/Walks" "astray" "J" (.long (Int64.ofNat j))
theorem own_up (k : Nat) : Int64.ofNat k + 1 = Int64.ofNat (k + 1) := by rw [Int64.ofNat_add]; rfl
theorem own_nat (k : Nat) (h : k ≤ 100) : (Int64.ofNat k).toInt = k := Int64.toInt_ofNat_of_lt (by omega)
theorem own_lt (k : Nat) (h : k ≤ 10) : Int64.ofNat k < 64 * 1 := by
  rw [Int64.lt_iff_toInt_lt, own_nat k (by omega)]
  show (k : Int) < 64
  omega
theorem own_lt2 (k : Nat) (h : k ≤ 10) : Int64.ofNat k < 32 * (64 * 1) := by
  rw [Int64.lt_iff_toInt_lt, own_nat k (by omega)]
  show (k : Int) < 2048
  omega
theorem d4_14 : decode prog_52_method_2_code 14 = .ok (.aload_n 0, 1) := by decide +kernel
theorem d4_15 : decode prog_52_method_2_code 15 = .ok (.dup, 1) := by decide +kernel
theorem d4_16 : decode prog_52_method_2_code 16 = .ok (.getfield 20, 3) := by decide +kernel
theorem d4_19 : decode prog_52_method_2_code 19 = .ok (.lconst 1, 1) := by decide +kernel
theorem d4_20 : decode prog_52_method_2_code 20 = .ok (.ladd, 1) := by decide +kernel
theorem d4_21 : decode prog_52_method_2_code 21 = .ok (.putfield 20, 3) := by decide +kernel
theorem d4_24 : decode prog_52_method_2_code 24 = .ok (.iload_n 1, 1) := by decide +kernel
theorem d4_25 : decode prog_52_method_2_code 25 = .ok (.ifCond .ne 13, 3) := by decide +kernel
theorem d4_28 : decode prog_52_method_2_code 28 = .ok (.aload_n 0, 1) := by decide +kernel
theorem d4_29 : decode prog_52_method_2_code 29 = .ok (.dup, 1) := by decide +kernel
theorem d4_30 : decode prog_52_method_2_code 30 = .ok (.getfield 23, 3) := by decide +kernel
theorem d4_33 : decode prog_52_method_2_code 33 = .ok (.lconst 1, 1) := by decide +kernel
theorem d4_34 : decode prog_52_method_2_code 34 = .ok (.ladd, 1) := by decide +kernel
theorem d4_35 : decode prog_52_method_2_code 35 = .ok (.putfield 23, 3) := by decide +kernel
theorem d4_38 : decode prog_52_method_2_code 38 = .ok (.ldc2_w 26, 3) := by decide +kernel
theorem d4_41 : decode prog_52_method_2_code 41 = .ok (.aload_n 0, 1) := by decide +kernel
theorem d4_42 : decode prog_52_method_2_code 42 = .ok (.getfield 13, 3) := by decide +kernel
theorem d4_45 : decode prog_52_method_2_code 45 = .ok (.lmul, 1) := by decide +kernel
theorem d4_46 : decode prog_52_method_2_code 46 = .ok (.lstore_n 2, 1) := by decide +kernel
theorem d4_47 : decode prog_52_method_2_code 47 = .ok (.aload_n 0, 1) := by decide +kernel
theorem d4_48 : decode prog_52_method_2_code 48 = .ok (.getfield 23, 3) := by decide +kernel
theorem d4_51 : decode prog_52_method_2_code 51 = .ok (.lload_n 2, 1) := by decide +kernel
theorem d4_52 : decode prog_52_method_2_code 52 = .ok (.lcmp, 1) := by decide +kernel
theorem d4_53 : decode prog_52_method_2_code 53 = .ok (.ifCond .ge 16, 3) := by decide +kernel
theorem d4_56 : decode prog_52_method_2_code 56 = .ok (.aload_n 0, 1) := by decide +kernel
theorem d4_57 : decode prog_52_method_2_code 57 = .ok (.getfield 20, 3) := by decide +kernel
theorem d4_60 : decode prog_52_method_2_code 60 = .ok (.ldc2_w 28, 3) := by decide +kernel
theorem d4_63 : decode prog_52_method_2_code 63 = .ok (.lload_n 2, 1) := by decide +kernel
theorem d4_64 : decode prog_52_method_2_code 64 = .ok (.lmul, 1) := by decide +kernel
theorem d4_65 : decode prog_52_method_2_code 65 = .ok (.lcmp, 1) := by decide +kernel
theorem d4_66 : decode prog_52_method_2_code 66 = .ok (.ifCond .lt 7, 3) := by decide +kernel
theorem d4_73 : decode prog_52_method_2_code 73 = .ok (.iconst 0, 1) := by decide +kernel
theorem d4_74 : decode prog_52_method_2_code 74 = .ok (.istore 4, 2) := by decide +kernel
theorem d4_76 : decode prog_52_method_2_code 76 = .ok (.iload 4, 2) := by decide +kernel
theorem d4_78 : decode prog_52_method_2_code 78 = .ok (.ifCond .eq 61, 3) := by decide +kernel
theorem d4_139 : decode prog_52_method_2_code 139 = .ok (.iload 4, 2) := by decide +kernel
theorem d4_141 : decode prog_52_method_2_code 141 = .ok (.ireturn, 1) := by decide +kernel
theorem ef_rm4b (m : MethodId) (q0 : Addr) (q1 : Int32) : entryFrame m #[(.ref q0), (.int q1)] 5 = mkF m 0 #[oR q0, oI q1, .unset, .unset, .unset] [] := by first | (simp [entryFrame, mkF, argsToLocals, Value.category]; done) | rfl
def Q4b (Z : State) (this : Addr) (p1 : Int32) (k : Nat) (j : Nat) (h0 : Heap) (n0 : Nat) (v : Option Value) (h : Heap) (L : List Loc) : Prop := v = some (.int (0 : Int32)) ∧ Fr n0 L ∧ Keep h0 h [this] ∧ Fld Z h this "com/example/quiescence/quiescence/ioco/Walks" "started" "Z" (.int (1 : Int32)) ∧ Fld Z h this "com/example/quiescence/quiescence/ioco/Walks" "labels" "J" (.long (Int64.ofNat (k + 1))) ∧ own_ast Z h this (k + 1) ∧ Fld Z h this "com/example/quiescence/quiescence/ioco/Walks" "v" "J" (.long (1 : Int64))
set_option maxRecDepth 65536 in
set_option maxHeartbeats 40000000 in
theorem rm4b (l : Launch) (Z : State) (a0 : Array Value) (hw : ∀ d ∈ tables_1, d.before a0 Z = true) (ws : List Jvm.Cond) (this : Addr) (p1 : Int32) (k : Nat) (j : Nat) (h0 : Heap) (n0 : Nat) (Z0 : n0 ≤ h0.size) (g_this : n0 ≤ this) (E_this : Exa Z h0 this "com/example/quiescence/quiescence/ioco/Walks") (F_started : Fld Z h0 this "com/example/quiescence/quiescence/ioco/Walks" "started" "Z" (.int (1 : Int32))) (F_labels : Fld Z h0 this "com/example/quiescence/quiescence/ioco/Walks" "labels" "J" (.long (Int64.ofNat k))) (F_astray : Fld Z h0 this "com/example/quiescence/quiescence/ioco/Walks" "astray" "J" (.long (Int64.ofNat j))) (F_v : Fld Z h0 this "com/example/quiescence/quiescence/ioco/Walks" "v" "J" (.long (1 : Int64))) (hk : k ≤ 9) (hj : j ≤ k) :
    MetFree l (⟨"com/example/quiescence/quiescence/ioco/Walks", "endsBefore", "(Z)Z"⟩ : MethodName) (head1 (Jvm.Cond.code (⟨"com/example/quiescence/quiescence/ioco/Walks", "endsBefore", "(Z)Z"⟩ : MethodName) prog_52_method_2_code 5 (some .boolean) :: ws) ({ frames := 0, cells := 0, slots := 0, locals := 0 } : Room)) (fun a U => a = #[(.ref this), (.int p1)] ∧ Z.Warmed39 U.vm ∧ U.heap = h0) (fun _ _ _ _ _ => True) (fun _ U o U' => ∃ v L, o = .returned v ∧ Q4b Z this p1 k j h0 n0 v U'.heap L ∧ FrameEnd U o U' L ({ frames := 0, cells := 0, slots := 0, locals := 0 } : Room).cells ({ frames := 0, cells := 0, slots := 0, locals := 0 } : Room).slots) := by
  refine MetFree.of_bodySF (plainFor_of_name pn_1) hisR ?_
  intro p e s m args below meth c s₁ Bd hml0 hP hK
  obtain ⟨rfl, hZ, hh⟩ := hP
  have hx := Bd.exec
  have hby := Bd.bytes
  have hml : c.maxLocals = 5 := hml0
  have hown : s.vm.findClass "com/example/quiescence/quiescence/ioco/Walks" = some m.cls := findClass_of_methodNamed Bd.named
  have hnm := (name_of_methodNamed Bd.named Bd.method).1
  have X0 : Stand p l e ({ frames := 0, cells := 0, slots := 0, locals := 0 } : Room) s m #[(.ref this), (.int p1)] below meth c s₁ [] 0 0 := Stand.of_body Bd
  have e0 : s₁.heap = h0 := by rw [← hh, Bd.state]; rfl
  have N0 := Fr.nil n0
  refine own_start ?_
  refine own_via (fun t k => castTop (ef_rm4b m this p1) k) ?_
  show own_Go p e below _ (s₁.setTop (mkF m 0 #[oR this, oI p1, .unset, .unset, .unset] []))
  refine own_via (fun t kz => XS.aloadN X0.here hx rfl (hb hby d4_0) rfl rfl kz) ?_
  show own_Go p e below _ (s₁.setTop (mkF m 1 #[oR this, oI p1, .unset, .unset, .unset] [(.ref this)]))
  obtain ⟨T1, X1, e1, st1⟩ := getF X0 hx hZ hown (host := "") (Or.inl (own_w hw 22)) Via.refl e0 F_started (g := (mkF m 1 #[oR this, oI p1, .unset, .unset, .unset] [(.ref this)])) rfl rfl (hb hby d4_1)
  refine own_via st1 ?_
  show own_Go p e below _ (T1.setTop (mkF m 4 #[oR this, oI p1, .unset, .unset, .unset] [(.int (1 : Int32))]))
  refine own_via (fun t kz => XS.ifYes X1.here hx rfl (pc0 := 4) (pc' := 14) rfl (hb hby d4_4) rfl ((if0 _ _).trans (feq (by decide : ¬ ((1 : Int32) = (0 : Int32)))).2) (by decide) (by decide) kz) ?_
  show own_Go p e below _ (T1.setTop (mkF m 14 #[oR this, oI p1, .unset, .unset, .unset] []))
  refine own_via (fun t kz => XS.aloadN X1.here hx rfl (hb hby d4_14) rfl rfl kz) ?_
  show own_Go p e below _ (T1.setTop (mkF m 15 #[oR this, oI p1, .unset, .unset, .unset] [(.ref this)]))
  refine own_via (fun t kz => XS.dup X1.here hx rfl (hb hby d4_15) rfl rfl kz) ?_
  show own_Go p e below _ (T1.setTop (mkF m 16 #[oR this, oI p1, .unset, .unset, .unset] [(.ref this), (.ref this)]))
  obtain ⟨T2, X2, e2, st2⟩ := getF X1 hx hZ hown (host := "") (Or.inl (own_w hw 24)) Via.refl e1 F_labels (g := (mkF m 16 #[oR this, oI p1, .unset, .unset, .unset] [(.ref this), (.ref this)])) rfl rfl (hb hby d4_16)
  refine own_via st2 ?_
  show own_Go p e below _ (T2.setTop (mkF m 19 #[oR this, oI p1, .unset, .unset, .unset] [(.long (Int64.ofNat k)), (.ref this)]))
  refine own_via (fun t kz => XS.lconst X2.here hx rfl (hb hby d4_19) kz) ?_
  show own_Go p e below _ (T2.setTop (mkF m 20 #[oR this, oI p1, .unset, .unset, .unset] [(.long (1 : Int64)), (.long (Int64.ofNat k)), (.ref this)]))
  refine own_via (fun t kz => XS.ladd X2.here hx rfl (hb hby d4_20) rfl kz) ?_
  show own_Go p e below _ (T2.setTop (mkF m 21 #[oR this, oI p1, .unset, .unset, .unset] [(.long ((Int64.ofNat k) + (1 : Int64))), (.ref this)]))
  obtain ⟨T3, h3, X3, e3, W3, st3⟩ := putF X2 hx hZ hown (host := "") (Or.inl (own_w hw 24)) Via.refl e2 F_labels E_this (Or.inl (own_w hw 25)) (own_w hw 1) (ty := .long) (by decide) rfl rfl (g := (mkF m 21 #[oR this, oI p1, .unset, .unset, .unset] [(.long ((Int64.ofNat k) + (1 : Int64))), (.ref this)])) rfl rfl (hb hby d4_21)
  refine own_via st3 ?_
  have E4 := E_this.wr W3
  have F5 := F_started.other W3 (Or.inr (slot_ne (Or.inl (own_w hw 23)) (Or.inl (own_w hw 25)) (by decide) (t := .boolean) (t' := .long) (by decide) (by decide)))
  have F6 := F_labels.same W3
  have F7 := F_astray.other W3 (Or.inr (slot_ne (Or.inl (own_w hw 27)) (Or.inl (own_w hw 25)) (by decide) (t := .long) (t' := .long) (by decide) (by decide)))
  have F8 := F_v.other W3 (Or.inr (slot_ne (Or.inl (own_w hw 12)) (Or.inl (own_w hw 25)) (by decide) (t := .long) (t' := .long) (by decide) (by decide)))
  have Zs9 : n0 ≤ h3.size := Nat.le_trans Z0 (Keep.of_wr W3).1
  have N10 := Fr.snoc X3 N0 g_this
  have K11 : Keep h0 h3 [this] := (Keep.refl h0 [this]).wr W3 (Or.inl (List.mem_of_getElem? (i := 0) rfl))
  show own_Go p e below _ (T3.setTop (mkF m 24 #[oR this, oI p1, .unset, .unset, .unset] []))
  refine own_via (fun t kz => XS.iloadN X3.here hx rfl (hb hby d4_24) rfl kz) ?_
  show own_Go p e below _ (T3.setTop (mkF m 25 #[oR this, oI p1, .unset, .unset, .unset] [(.int p1)]))
  by_cases hc25_12 : p1 = (0 : Int32)
  · refine own_via (fun t kz => XS.ifNo X3.here hx rfl (hb hby d4_25) rfl ((if0 _ _).trans (teq hc25_12).2) kz) ?_
    show own_Go p e below _ (T3.setTop (mkF m 28 #[oR this, oI p1, .unset, .unset, .unset] []))
    refine own_via (fun t kz => XS.aloadN X3.here hx rfl (hb hby d4_28) rfl rfl kz) ?_
    show own_Go p e below _ (T3.setTop (mkF m 29 #[oR this, oI p1, .unset, .unset, .unset] [(.ref this)]))
    refine own_via (fun t kz => XS.dup X3.here hx rfl (hb hby d4_29) rfl rfl kz) ?_
    show own_Go p e below _ (T3.setTop (mkF m 30 #[oR this, oI p1, .unset, .unset, .unset] [(.ref this), (.ref this)]))
    obtain ⟨T13, X13, e13, st13⟩ := getF X3 hx hZ hown (host := "") (Or.inl (own_w hw 26)) Via.refl e3 F7 (g := (mkF m 30 #[oR this, oI p1, .unset, .unset, .unset] [(.ref this), (.ref this)])) rfl rfl (hb hby d4_30)
    refine own_via st13 ?_
    show own_Go p e below _ (T13.setTop (mkF m 33 #[oR this, oI p1, .unset, .unset, .unset] [(.long (Int64.ofNat j)), (.ref this)]))
    refine own_via (fun t kz => XS.lconst X13.here hx rfl (hb hby d4_33) kz) ?_
    show own_Go p e below _ (T13.setTop (mkF m 34 #[oR this, oI p1, .unset, .unset, .unset] [(.long (1 : Int64)), (.long (Int64.ofNat j)), (.ref this)]))
    refine own_via (fun t kz => XS.ladd X13.here hx rfl (hb hby d4_34) rfl kz) ?_
    show own_Go p e below _ (T13.setTop (mkF m 35 #[oR this, oI p1, .unset, .unset, .unset] [(.long ((Int64.ofNat j) + (1 : Int64))), (.ref this)]))
    obtain ⟨T14, h14, X14, e14, W14, st14⟩ := putF X13 hx hZ hown (host := "") (Or.inl (own_w hw 26)) Via.refl e13 F7 E4 (Or.inl (own_w hw 27)) (own_w hw 1) (ty := .long) (by decide) rfl rfl (g := (mkF m 35 #[oR this, oI p1, .unset, .unset, .unset] [(.long ((Int64.ofNat j) + (1 : Int64))), (.ref this)])) rfl rfl (hb hby d4_35)
    refine own_via st14 ?_
    have E15 := E4.wr W14
    have F16 := F5.other W14 (Or.inr (slot_ne (Or.inl (own_w hw 23)) (Or.inl (own_w hw 27)) (by decide) (t := .boolean) (t' := .long) (by decide) (by decide)))
    have F17 := F6.other W14 (Or.inr (slot_ne (Or.inl (own_w hw 25)) (Or.inl (own_w hw 27)) (by decide) (t := .long) (t' := .long) (by decide) (by decide)))
    have F18 := F7.same W14
    have F19 := F8.other W14 (Or.inr (slot_ne (Or.inl (own_w hw 12)) (Or.inl (own_w hw 27)) (by decide) (t := .long) (t' := .long) (by decide) (by decide)))
    have Zs20 : n0 ≤ h14.size := Nat.le_trans Zs9 (Keep.of_wr W14).1
    have N21 := Fr.snoc X14 N10 g_this
    have K22 : Keep h0 h14 [this] := K11.wr W14 (Or.inl (List.mem_of_getElem? (i := 0) rfl))
    show own_Go p e below _ (T14.setTop (mkF m 38 #[oR this, oI p1, .unset, .unset, .unset] []))
    refine own_via (fun t kz => X14.ldc2Long hx hown (mvT hZ (own_w hw 28)) (g := (mkF m 38 #[oR this, oI p1, .unset, .unset, .unset] [])) rfl (hb hby d4_38) t kz) ?_
    show own_Go p e below _ (T14.setTop (mkF m 41 #[oR this, oI p1, .unset, .unset, .unset] [(.long (64 : Int64))]))
    refine own_via (fun t kz => XS.aloadN X14.here hx rfl (hb hby d4_41) rfl rfl kz) ?_
    show own_Go p e below _ (T14.setTop (mkF m 42 #[oR this, oI p1, .unset, .unset, .unset] [(.ref this), (.long (64 : Int64))]))
    obtain ⟨T23, X23, e23, st23⟩ := getF X14 hx hZ hown (host := "") (Or.inl (own_w hw 11)) Via.refl e14 F19 (g := (mkF m 42 #[oR this, oI p1, .unset, .unset, .unset] [(.ref this), (.long (64 : Int64))])) rfl rfl (hb hby d4_42)
    refine own_via st23 ?_
    show own_Go p e below _ (T23.setTop (mkF m 45 #[oR this, oI p1, .unset, .unset, .unset] [(.long (1 : Int64)), (.long (64 : Int64))]))
    refine own_via (fun t kz => XS.lmul X23.here hx rfl (hb hby d4_45) rfl kz) ?_
    show own_Go p e below _ (T23.setTop (mkF m 46 #[oR this, oI p1, .unset, .unset, .unset] [(.long ((64 : Int64) * (1 : Int64)))]))
    refine own_via (fun t kz => XS.lstoreN X23.here hx rfl (hb hby d4_46) rfl (l' := #[oR this, oI p1, oJ ((64 : Int64) * (1 : Int64)), .second, .unset]) rfl kz) ?_
    show own_Go p e below _ (T23.setTop (mkF m 47 #[oR this, oI p1, oJ ((64 : Int64) * (1 : Int64)), .second, .unset] []))
    refine own_via (fun t kz => XS.aloadN X23.here hx rfl (hb hby d4_47) rfl rfl kz) ?_
    show own_Go p e below _ (T23.setTop (mkF m 48 #[oR this, oI p1, oJ ((64 : Int64) * (1 : Int64)), .second, .unset] [(.ref this)]))
    obtain ⟨T24, X24, e24, st24⟩ := getF X23 hx hZ hown (host := "") (Or.inl (own_w hw 26)) Via.refl e23 F18 (g := (mkF m 48 #[oR this, oI p1, oJ ((64 : Int64) * (1 : Int64)), .second, .unset] [(.ref this)])) rfl rfl (hb hby d4_48)
    refine own_via st24 ?_
    show own_Go p e below _ (T24.setTop (mkF m 51 #[oR this, oI p1, oJ ((64 : Int64) * (1 : Int64)), .second, .unset] [(.long ((Int64.ofNat j) + (1 : Int64)))]))
    refine own_via (fun t kz => XS.lloadN X24.here hx rfl (hb hby d4_51) rfl kz) ?_
    show own_Go p e below _ (T24.setTop (mkF m 52 #[oR this, oI p1, oJ ((64 : Int64) * (1 : Int64)), .second, .unset] [(.long ((64 : Int64) * (1 : Int64))), (.long ((Int64.ofNat j) + (1 : Int64)))]))
    refine own_via (fun t kz => XS.lcmp X24.here hx rfl (hb hby d4_52) rfl kz) ?_
    show own_Go p e below _ (T24.setTop (mkF m 53 #[oR this, oI p1, oJ ((64 : Int64) * (1 : Int64)), .second, .unset] [(.int (lcmpW ((Int64.ofNat j) + (1 : Int64)) ((64 : Int64) * (1 : Int64))))]))
    refine own_via (fun t kz => XS.ifNo X24.here hx rfl (hb hby d4_53) rfl ((if0 _ _).trans (tlt ((lw_lt _ _).mpr (by rw [own_up]; exact own_lt (j + 1) (by omega) : ((Int64.ofNat j) + (1 : Int64)) < ((64 : Int64) * (1 : Int64))))).2.1) kz) ?_
    show own_Go p e below _ (T24.setTop (mkF m 56 #[oR this, oI p1, oJ ((64 : Int64) * (1 : Int64)), .second, .unset] []))
    refine own_via (fun t kz => XS.aloadN X24.here hx rfl (hb hby d4_56) rfl rfl kz) ?_
    show own_Go p e below _ (T24.setTop (mkF m 57 #[oR this, oI p1, oJ ((64 : Int64) * (1 : Int64)), .second, .unset] [(.ref this)]))
    obtain ⟨T25, X25, e25, st25⟩ := getF X24 hx hZ hown (host := "") (Or.inl (own_w hw 24)) Via.refl e24 F17 (g := (mkF m 57 #[oR this, oI p1, oJ ((64 : Int64) * (1 : Int64)), .second, .unset] [(.ref this)])) rfl rfl (hb hby d4_57)
    refine own_via st25 ?_
    show own_Go p e below _ (T25.setTop (mkF m 60 #[oR this, oI p1, oJ ((64 : Int64) * (1 : Int64)), .second, .unset] [(.long ((Int64.ofNat k) + (1 : Int64)))]))
    refine own_via (fun t kz => X25.ldc2Long hx hown (mvT hZ (own_w hw 29)) (g := (mkF m 60 #[oR this, oI p1, oJ ((64 : Int64) * (1 : Int64)), .second, .unset] [(.long ((Int64.ofNat k) + (1 : Int64)))])) rfl (hb hby d4_60) t kz) ?_
    show own_Go p e below _ (T25.setTop (mkF m 63 #[oR this, oI p1, oJ ((64 : Int64) * (1 : Int64)), .second, .unset] [(.long (32 : Int64)), (.long ((Int64.ofNat k) + (1 : Int64)))]))
    refine own_via (fun t kz => XS.lloadN X25.here hx rfl (hb hby d4_63) rfl kz) ?_
    show own_Go p e below _ (T25.setTop (mkF m 64 #[oR this, oI p1, oJ ((64 : Int64) * (1 : Int64)), .second, .unset] [(.long ((64 : Int64) * (1 : Int64))), (.long (32 : Int64)), (.long ((Int64.ofNat k) + (1 : Int64)))]))
    refine own_via (fun t kz => XS.lmul X25.here hx rfl (hb hby d4_64) rfl kz) ?_
    show own_Go p e below _ (T25.setTop (mkF m 65 #[oR this, oI p1, oJ ((64 : Int64) * (1 : Int64)), .second, .unset] [(.long ((32 : Int64) * ((64 : Int64) * (1 : Int64)))), (.long ((Int64.ofNat k) + (1 : Int64)))]))
    refine own_via (fun t kz => XS.lcmp X25.here hx rfl (hb hby d4_65) rfl kz) ?_
    show own_Go p e below _ (T25.setTop (mkF m 66 #[oR this, oI p1, oJ ((64 : Int64) * (1 : Int64)), .second, .unset] [(.int (lcmpW ((Int64.ofNat k) + (1 : Int64)) ((32 : Int64) * ((64 : Int64) * (1 : Int64)))))]))
    refine own_via (fun t kz => XS.ifYes X25.here hx rfl (pc0 := 66) (pc' := 73) rfl (hb hby d4_66) rfl ((if0 _ _).trans (tlt ((lw_lt _ _).mpr (by rw [own_up]; exact own_lt2 (k + 1) (by omega) : ((Int64.ofNat k) + (1 : Int64)) < ((32 : Int64) * ((64 : Int64) * (1 : Int64)))))).1) (by decide) (by decide) kz) ?_
    show own_Go p e below _ (T25.setTop (mkF m 73 #[oR this, oI p1, oJ ((64 : Int64) * (1 : Int64)), .second, .unset] []))
    refine own_via (fun t kz => XS.iconst X25.here hx rfl (hb hby d4_73) kz) ?_
    show own_Go p e below _ (T25.setTop (mkF m 74 #[oR this, oI p1, oJ ((64 : Int64) * (1 : Int64)), .second, .unset] [(.int (0 : Int32))]))
    refine own_via (fun t kz => XS.istore X25.here hx rfl (hb hby d4_74) rfl (l' := #[oR this, oI p1, oJ ((64 : Int64) * (1 : Int64)), .second, oI (0 : Int32)]) rfl kz) ?_
    show own_Go p e below _ (T25.setTop (mkF m 76 #[oR this, oI p1, oJ ((64 : Int64) * (1 : Int64)), .second, oI (0 : Int32)] []))
    refine own_via (fun t kz => XS.iload X25.here hx rfl (hb hby d4_76) rfl kz) ?_
    show own_Go p e below _ (T25.setTop (mkF m 78 #[oR this, oI p1, oJ ((64 : Int64) * (1 : Int64)), .second, oI (0 : Int32)] [(.int (0 : Int32))]))
    refine own_via (fun t kz => XS.ifYes X25.here hx rfl (pc0 := 78) (pc' := 139) rfl (hb hby d4_78) rfl ((if0 _ _).trans (teq (by decide : (0 : Int32) = (0 : Int32))).1) (by decide) (by decide) kz) ?_
    show own_Go p e below _ (T25.setTop (mkF m 139 #[oR this, oI p1, oJ ((64 : Int64) * (1 : Int64)), .second, oI (0 : Int32)] []))
    refine own_via (fun t kz => XS.iload X25.here hx rfl (hb hby d4_139) rfl kz) ?_
    show own_Go p e below _ (T25.setTop (mkF m 141 #[oR this, oI p1, oJ ((64 : Int64) * (1 : Int64)), .second, oI (0 : Int32)] [(.int (0 : Int32))]))
    obtain ⟨fs, hr, hrun, hended, hW, hsame⟩ := X25.leave (v := some (.int (0 : Int32))) (fun h => by rw [Bd.returns] at h; cases h)
    refine ⟨_, _, retN X25 hx (t := .boolean) Bd.returns (by simp) (hb hby d4_141) hr, hrun, hended, _, _, rfl, ?_, ⟨_, rfl⟩, hW, hsame.mono (by decide) (by decide)⟩
    show Q4b Z this p1 k j h0 n0 _ T25.heap _
    rw [e25]
    exact ⟨rfl, N21, K22, F16, by rw [← own_up]; exact F17, ⟨j + 1, by omega, by rw [← own_up]; exact F18⟩, F19⟩
  · refine own_via (fun t kz => XS.ifYes X3.here hx rfl (pc0 := 25) (pc' := 38) rfl (hb hby d4_25) rfl ((if0 _ _).trans (feq hc25_12).2) (by decide) (by decide) kz) ?_
    show own_Go p e below _ (T3.setTop (mkF m 38 #[oR this, oI p1, .unset, .unset, .unset] []))
    refine own_via (fun t kz => X3.ldc2Long hx hown (mvT hZ (own_w hw 28)) (g := (mkF m 38 #[oR this, oI p1, .unset, .unset, .unset] [])) rfl (hb hby d4_38) t kz) ?_
    show own_Go p e below _ (T3.setTop (mkF m 41 #[oR this, oI p1, .unset, .unset, .unset] [(.long (64 : Int64))]))
    refine own_via (fun t kz => XS.aloadN X3.here hx rfl (hb hby d4_41) rfl rfl kz) ?_
    show own_Go p e below _ (T3.setTop (mkF m 42 #[oR this, oI p1, .unset, .unset, .unset] [(.ref this), (.long (64 : Int64))]))
    obtain ⟨T27, X27, e27, st27⟩ := getF X3 hx hZ hown (host := "") (Or.inl (own_w hw 11)) Via.refl e3 F8 (g := (mkF m 42 #[oR this, oI p1, .unset, .unset, .unset] [(.ref this), (.long (64 : Int64))])) rfl rfl (hb hby d4_42)
    refine own_via st27 ?_
    show own_Go p e below _ (T27.setTop (mkF m 45 #[oR this, oI p1, .unset, .unset, .unset] [(.long (1 : Int64)), (.long (64 : Int64))]))
    refine own_via (fun t kz => XS.lmul X27.here hx rfl (hb hby d4_45) rfl kz) ?_
    show own_Go p e below _ (T27.setTop (mkF m 46 #[oR this, oI p1, .unset, .unset, .unset] [(.long ((64 : Int64) * (1 : Int64)))]))
    refine own_via (fun t kz => XS.lstoreN X27.here hx rfl (hb hby d4_46) rfl (l' := #[oR this, oI p1, oJ ((64 : Int64) * (1 : Int64)), .second, .unset]) rfl kz) ?_
    show own_Go p e below _ (T27.setTop (mkF m 47 #[oR this, oI p1, oJ ((64 : Int64) * (1 : Int64)), .second, .unset] []))
    refine own_via (fun t kz => XS.aloadN X27.here hx rfl (hb hby d4_47) rfl rfl kz) ?_
    show own_Go p e below _ (T27.setTop (mkF m 48 #[oR this, oI p1, oJ ((64 : Int64) * (1 : Int64)), .second, .unset] [(.ref this)]))
    obtain ⟨T28, X28, e28, st28⟩ := getF X27 hx hZ hown (host := "") (Or.inl (own_w hw 26)) Via.refl e27 F7 (g := (mkF m 48 #[oR this, oI p1, oJ ((64 : Int64) * (1 : Int64)), .second, .unset] [(.ref this)])) rfl rfl (hb hby d4_48)
    refine own_via st28 ?_
    show own_Go p e below _ (T28.setTop (mkF m 51 #[oR this, oI p1, oJ ((64 : Int64) * (1 : Int64)), .second, .unset] [(.long (Int64.ofNat j))]))
    refine own_via (fun t kz => XS.lloadN X28.here hx rfl (hb hby d4_51) rfl kz) ?_
    show own_Go p e below _ (T28.setTop (mkF m 52 #[oR this, oI p1, oJ ((64 : Int64) * (1 : Int64)), .second, .unset] [(.long ((64 : Int64) * (1 : Int64))), (.long (Int64.ofNat j))]))
    refine own_via (fun t kz => XS.lcmp X28.here hx rfl (hb hby d4_52) rfl kz) ?_
    show own_Go p e below _ (T28.setTop (mkF m 53 #[oR this, oI p1, oJ ((64 : Int64) * (1 : Int64)), .second, .unset] [(.int (lcmpW (Int64.ofNat j) ((64 : Int64) * (1 : Int64))))]))
    refine own_via (fun t kz => XS.ifNo X28.here hx rfl (hb hby d4_53) rfl ((if0 _ _).trans (tlt ((lw_lt _ _).mpr (own_lt j (by omega) : (Int64.ofNat j) < ((64 : Int64) * (1 : Int64))))).2.1) kz) ?_
    show own_Go p e below _ (T28.setTop (mkF m 56 #[oR this, oI p1, oJ ((64 : Int64) * (1 : Int64)), .second, .unset] []))
    refine own_via (fun t kz => XS.aloadN X28.here hx rfl (hb hby d4_56) rfl rfl kz) ?_
    show own_Go p e below _ (T28.setTop (mkF m 57 #[oR this, oI p1, oJ ((64 : Int64) * (1 : Int64)), .second, .unset] [(.ref this)]))
    obtain ⟨T29, X29, e29, st29⟩ := getF X28 hx hZ hown (host := "") (Or.inl (own_w hw 24)) Via.refl e28 F6 (g := (mkF m 57 #[oR this, oI p1, oJ ((64 : Int64) * (1 : Int64)), .second, .unset] [(.ref this)])) rfl rfl (hb hby d4_57)
    refine own_via st29 ?_
    show own_Go p e below _ (T29.setTop (mkF m 60 #[oR this, oI p1, oJ ((64 : Int64) * (1 : Int64)), .second, .unset] [(.long ((Int64.ofNat k) + (1 : Int64)))]))
    refine own_via (fun t kz => X29.ldc2Long hx hown (mvT hZ (own_w hw 29)) (g := (mkF m 60 #[oR this, oI p1, oJ ((64 : Int64) * (1 : Int64)), .second, .unset] [(.long ((Int64.ofNat k) + (1 : Int64)))])) rfl (hb hby d4_60) t kz) ?_
    show own_Go p e below _ (T29.setTop (mkF m 63 #[oR this, oI p1, oJ ((64 : Int64) * (1 : Int64)), .second, .unset] [(.long (32 : Int64)), (.long ((Int64.ofNat k) + (1 : Int64)))]))
    refine own_via (fun t kz => XS.lloadN X29.here hx rfl (hb hby d4_63) rfl kz) ?_
    show own_Go p e below _ (T29.setTop (mkF m 64 #[oR this, oI p1, oJ ((64 : Int64) * (1 : Int64)), .second, .unset] [(.long ((64 : Int64) * (1 : Int64))), (.long (32 : Int64)), (.long ((Int64.ofNat k) + (1 : Int64)))]))
    refine own_via (fun t kz => XS.lmul X29.here hx rfl (hb hby d4_64) rfl kz) ?_
    show own_Go p e below _ (T29.setTop (mkF m 65 #[oR this, oI p1, oJ ((64 : Int64) * (1 : Int64)), .second, .unset] [(.long ((32 : Int64) * ((64 : Int64) * (1 : Int64)))), (.long ((Int64.ofNat k) + (1 : Int64)))]))
    refine own_via (fun t kz => XS.lcmp X29.here hx rfl (hb hby d4_65) rfl kz) ?_
    show own_Go p e below _ (T29.setTop (mkF m 66 #[oR this, oI p1, oJ ((64 : Int64) * (1 : Int64)), .second, .unset] [(.int (lcmpW ((Int64.ofNat k) + (1 : Int64)) ((32 : Int64) * ((64 : Int64) * (1 : Int64)))))]))
    refine own_via (fun t kz => XS.ifYes X29.here hx rfl (pc0 := 66) (pc' := 73) rfl (hb hby d4_66) rfl ((if0 _ _).trans (tlt ((lw_lt _ _).mpr (by rw [own_up]; exact own_lt2 (k + 1) (by omega) : ((Int64.ofNat k) + (1 : Int64)) < ((32 : Int64) * ((64 : Int64) * (1 : Int64)))))).1) (by decide) (by decide) kz) ?_
    show own_Go p e below _ (T29.setTop (mkF m 73 #[oR this, oI p1, oJ ((64 : Int64) * (1 : Int64)), .second, .unset] []))
    refine own_via (fun t kz => XS.iconst X29.here hx rfl (hb hby d4_73) kz) ?_
    show own_Go p e below _ (T29.setTop (mkF m 74 #[oR this, oI p1, oJ ((64 : Int64) * (1 : Int64)), .second, .unset] [(.int (0 : Int32))]))
    refine own_via (fun t kz => XS.istore X29.here hx rfl (hb hby d4_74) rfl (l' := #[oR this, oI p1, oJ ((64 : Int64) * (1 : Int64)), .second, oI (0 : Int32)]) rfl kz) ?_
    show own_Go p e below _ (T29.setTop (mkF m 76 #[oR this, oI p1, oJ ((64 : Int64) * (1 : Int64)), .second, oI (0 : Int32)] []))
    refine own_via (fun t kz => XS.iload X29.here hx rfl (hb hby d4_76) rfl kz) ?_
    show own_Go p e below _ (T29.setTop (mkF m 78 #[oR this, oI p1, oJ ((64 : Int64) * (1 : Int64)), .second, oI (0 : Int32)] [(.int (0 : Int32))]))
    refine own_via (fun t kz => XS.ifYes X29.here hx rfl (pc0 := 78) (pc' := 139) rfl (hb hby d4_78) rfl ((if0 _ _).trans (teq (by decide : (0 : Int32) = (0 : Int32))).1) (by decide) (by decide) kz) ?_
    show own_Go p e below _ (T29.setTop (mkF m 139 #[oR this, oI p1, oJ ((64 : Int64) * (1 : Int64)), .second, oI (0 : Int32)] []))
    refine own_via (fun t kz => XS.iload X29.here hx rfl (hb hby d4_139) rfl kz) ?_
    show own_Go p e below _ (T29.setTop (mkF m 141 #[oR this, oI p1, oJ ((64 : Int64) * (1 : Int64)), .second, oI (0 : Int32)] [(.int (0 : Int32))]))
    obtain ⟨fs, hr, hrun, hended, hW, hsame⟩ := X29.leave (v := some (.int (0 : Int32))) (fun h => by rw [Bd.returns] at h; cases h)
    refine ⟨_, _, retN X29 hx (t := .boolean) Bd.returns (by simp) (hb hby d4_141) hr, hrun, hended, _, _, rfl, ?_, ⟨_, rfl⟩, hW, hsame.mono (by decide) (by decide)⟩
    show Q4b Z this p1 k j h0 n0 _ T29.heap _
    rw [e29]
    exact ⟨rfl, N10, K11, F5, by rw [← own_up]; exact F6, ⟨j, by omega, F7⟩, F8⟩
theorem pd_0_0 : parseMethodDescriptor "()V" = some ⟨[], none⟩ := by decide +kernel
theorem pd_0_1 : parseMethodDescriptor "(II)Z" = some ⟨[.int, .int], some .boolean⟩ := by decide +kernel
theorem pd_0_2 : parseMethodDescriptor "(Z)Z" = some ⟨[.boolean], some .boolean⟩ := by decide +kernel
theorem ef_rm0 (m : MethodId) (q0 : Int32) : entryFrame m #[(.int q0)] maxLocals = mkF m 0 #[oI q0, .unset, .unset, .unset, .unset, .unset, .unset, .unset, .unset, .unset, .unset, .unset] [] := by first | (simp [entryFrame, mkF, argsToLocals, Value.category, maxLocals]; done) | rfl
def Q0 (Z : State) (p0 : Int32) (h0 : Heap) (n0 : Nat) (v : Option Value) (h : Heap) (L : List Loc) : Prop := v = some (.int (1 : Int32)) ∧ Fr n0 L
set_option maxRecDepth 65536 in
set_option maxHeartbeats 40000000 in
theorem rm0 (l : Launch) (Z : State) (a0 : Array Value) (hw : ∀ d ∈ tables_1, d.before a0 Z = true) (ws : List Jvm.Cond) (p0 : Int32) (h0 : Heap) (n0 : Nat) (Z0 : n0 ≤ h0.size) :
    MetFree l x (head1 (Jvm.Cond.code x code maxLocals ret :: ws) room_1) (fun a U => a = #[(.int p0)] ∧ Z.Warmed39 U.vm ∧ U.heap = h0) (fun _ _ _ _ _ => True) (fun _ U o U' => ∃ v L, o = .returned v ∧ Q0 Z p0 h0 n0 v U'.heap L ∧ FrameEnd U o U' L room_1.cells room_1.slots) := by
  refine MetFree.of_bodySF (plainFor_of_name pn_3) hisR ?_
  intro p e s m args below meth c s₁ Bd hml0 hP hK
  obtain ⟨rfl, hZ, hh⟩ := hP
  have hx := Bd.exec
  have hby := Bd.bytes
  have hml : c.maxLocals = 12 := hml0
  have hown : s.vm.findClass "com/example/quiescence/quiescence/ioco/WalksEndsBeforePinLaw" = some m.cls := findClass_of_methodNamed Bd.named
  have hnm := (name_of_methodNamed Bd.named Bd.method).1
  have X0 : Stand p l e room_1 s m #[(.int p0)] below meth c s₁ [] 0 0 := Stand.of_body Bd
  have e0 : s₁.heap = h0 := by rw [← hh, Bd.state]; rfl
  have N0 := Fr.nil n0
  refine own_start ?_
  refine own_via (fun t k => castTop (ef_rm0 m p0) k) ?_
  show own_Go p e below _ (s₁.setTop (mkF m 0 #[oI p0, .unset, .unset, .unset, .unset, .unset, .unset, .unset, .unset, .unset, .unset, .unset] []))
  obtain ⟨T1, h1, X1, e1, E1, A1, D1, -, st1⟩ := newO X0 hx hZ hown (own_w hw 0) (own_w hw 1) (own_w hw 2) e0 (g := (mkF m 0 #[oI p0, .unset, .unset, .unset, .unset, .unset, .unset, .unset, .unset, .unset, .unset, .unset] [])) rfl (hb hby at_0) (by decide) (by decide)
  obtain ⟨a1, g1⟩ : ∃ z, z = h0.size := ⟨_, rfl⟩
  rw [← g1] at A1 D1 st1
  refine own_via st1 ?_
  have fr2 : n0 ≤ a1 := Nat.le_trans Z0 (Nat.le_of_eq g1.symm)
  have Zs3 : n0 ≤ h1.size := Nat.le_trans Z0 E1.1
  have F4 : Fld Z h1 a1 "com/example/quiescence/quiescence/ioco/Walks" "u" "J" (.long (0 : Int64)) := D1 (Or.inl (own_w hw 10)) (ty := .long) (by decide)
  have F5 : Fld Z h1 a1 "com/example/quiescence/quiescence/ioco/Walks" "v" "J" (.long (0 : Int64)) := D1 (Or.inl (own_w hw 12)) (ty := .long) (by decide)
  have F6 : Fld Z h1 a1 "com/example/quiescence/quiescence/ioco/Walks" "started" "Z" (.int (0 : Int32)) := D1 (Or.inl (own_w hw 23)) (ty := .boolean) (by decide)
  have F7 : Fld Z h1 a1 "com/example/quiescence/quiescence/ioco/Walks" "labels" "J" (.long (0 : Int64)) := D1 (Or.inl (own_w hw 25)) (ty := .long) (by decide)
  have F8 : Fld Z h1 a1 "com/example/quiescence/quiescence/ioco/Walks" "astray" "J" (.long (0 : Int64)) := D1 (Or.inl (own_w hw 27)) (ty := .long) (by decide)
  show own_Go p e below _ (T1.setTop (mkF m 3 #[oI p0, .unset, .unset, .unset, .unset, .unset, .unset, .unset, .unset, .unset, .unset, .unset] [(.ref a1)]))
  refine own_via (fun t kz => XS.dup X1.here hx rfl (hb hby at_3) rfl rfl kz) ?_
  show own_Go p e below _ (T1.setTop (mkF m 4 #[oI p0, .unset, .unset, .unset, .unset, .unset, .unset, .unset, .unset, .unset, .unset, .unset] [(.ref a1), (.ref a1)]))
  obtain ⟨_, _, ⟨T9, L9, k9, n9⟩, -, X9, ⟨Lc9, hQ9, l9, y9, z9⟩, st9⟩ := X1.specialBack hx (y := (⟨"com/example/quiescence/quiescence/ioco/Walks", "<init>", "()V"⟩ : MethodName)) rfl hown (mvT hZ (own_w hw 3)) (mvT hZ (own_w hw 4)) (mvT hZ (own_w hw 5)) (by decide) (backOf (W := 1) (rm1 l Z a0 hw [] a1 h1 n0 Zs3 fr2 A1 F6 F7 F8 F4 F5) hZ (own_w hw 5) (own_w hw 2) (by decide) (by decide)) (g := (mkF m 4 #[oI p0, .unset, .unset, .unset, .unset, .unset, .unset, .unset, .unset, .unset, .unset, .unset] [(.ref a1), (.ref a1)])) rfl (by rw [hml]; rfl) (Steps.refl _) (a := a1) (argsL := []) (rest := [(.ref a1)]) (lenOf pd_0_0 rfl) rfl (by show 2 * 0 + _ ≤ _; exact Nat.le_of_eq rfl) (hb hby at_4) (fun _ _ => ⟨rfl, e1, (by decide : 1 + 0 ≤ _), (by decide : 5 + 0 ≤ _)⟩)
  dsimp only [Pt.U, Pt.locs, Pt.cells, Pt.slots] at X9 l9 y9 z9 st9 hQ9
  subst l9 y9 z9
  obtain ⟨rfl, Nq9, Kc9, Fc0_9, Fc1_9, Fc2_9, Fc3_9, Fc4_9⟩ := hQ9
  have N10 := Fr.app N0 Nq9
  refine own_tr st9 ?_
  have E11 := A1.keep Kc9
  have Zs12 : n0 ≤ T9.heap.size := Nat.le_trans Zs3 Kc9.1
  show own_Go p e below _ (T9.setTop (mkF m 7 #[oI p0, .unset, .unset, .unset, .unset, .unset, .unset, .unset, .unset, .unset, .unset, .unset] [(.ref a1)]))
  refine own_via (fun t kz => XS.astoreN X9.here hx rfl (hb hby at_7) rfl rfl (l' := #[oI p0, oR a1, .unset, .unset, .unset, .unset, .unset, .unset, .unset, .unset, .unset, .unset]) rfl kz) ?_
  show own_Go p e below _ (T9.setTop (mkF m 8 #[oI p0, oR a1, .unset, .unset, .unset, .unset, .unset, .unset, .unset, .unset, .unset, .unset] []))
  refine own_via (fun t kz => XS.aloadN X9.here hx rfl (hb hby at_8) rfl rfl kz) ?_
  show own_Go p e below _ (T9.setTop (mkF m 9 #[oI p0, oR a1, .unset, .unset, .unset, .unset, .unset, .unset, .unset, .unset, .unset, .unset] [(.ref a1)]))
  refine own_via (fun t kz => XS.iloadN X9.here hx rfl (hb hby at_9) rfl kz) ?_
  show own_Go p e below _ (T9.setTop (mkF m 10 #[oI p0, oR a1, .unset, .unset, .unset, .unset, .unset, .unset, .unset, .unset, .unset, .unset] [(.int p0), (.ref a1)]))
  refine own_via (fun t kz => XS.iconst X9.here hx rfl (hb hby at_10) kz) ?_
  show own_Go p e below _ (T9.setTop (mkF m 11 #[oI p0, oR a1, .unset, .unset, .unset, .unset, .unset, .unset, .unset, .unset, .unset, .unset] [(.int (0 : Int32)), (.int p0), (.ref a1)]))
  obtain ⟨_, _, ⟨T13, L13, k13, n13⟩, -, X13, ⟨Lc13, hQ13, l13, y13, z13⟩, st13⟩ := Jvm.LawKit.callS X9 hx (y := (⟨"com/example/quiescence/quiescence/ioco/WalksEndsBeforePinLaw", "bit", "(II)Z"⟩ : MethodName)) hown (mvT hZ (own_w hw 13)) (mvT hZ (own_w hw 14)) (mvT hZ (own_w hw 15)) (mvT hZ (own_w hw 16)) (by decide) (backOf (W := 1) (rm3 l Z a0 hw [] p0 (0 : Int32) (f3 p0 (0 : Int32)) T9.heap n0 Zs12 rfl) hZ (own_w hw 16) (own_w hw 15) (by decide) (by decide)) (g := (mkF m 11 #[oI p0, oR a1, .unset, .unset, .unset, .unset, .unset, .unset, .unset, .unset, .unset, .unset] [(.int (0 : Int32)), (.int p0), (.ref a1)])) rfl (by rw [hml]; rfl) (argsL := [(.int p0), (.int (0 : Int32))]) (rest := [(.ref a1)]) (lenOf pd_0_1 rfl) rfl (by show 2 * 0 + _ ≤ _; exact Nat.le_of_eq rfl) (hb hby at_11) (fun _ _ => ⟨rfl, rfl, (by decide : 1 + 0 ≤ _), (by decide : 5 + 0 ≤ _)⟩)
  dsimp only [Pt.U, Pt.locs, Pt.cells, Pt.slots] at X13 l13 y13 z13 st13 hQ13
  subst l13 y13 z13
  obtain ⟨rfl, Nq13, e13⟩ := hQ13
  have N14 := Fr.app N10 Nq13
  refine own_via st13 ?_
  show own_Go p e below _ (T13.setTop (mkF m 14 #[oI p0, oR a1, .unset, .unset, .unset, .unset, .unset, .unset, .unset, .unset, .unset, .unset] [(.int (f3 p0 (0 : Int32))), (.ref a1)]))
  obtain ⟨cq15, kq15, qa15, qb15, qc15⟩ := isOf hZ e13 E11
  obtain ⟨_, _, ⟨T15, L15, k15, n15⟩, -, X15, ⟨Lc15, hQ15, l15, y15, z15⟩, st15⟩ := X13.virtualBack hx (y := (⟨"com/example/quiescence/quiescence/ioco/Walks", "endsBefore", "(Z)Z"⟩ : MethodName)) (z := (⟨"com/example/quiescence/quiescence/ioco/Walks", "endsBefore", "(Z)Z"⟩ : MethodName)) hown (mvT hZ (own_w hw 17)) (mvT hZ (own_w hw 18)) (notFace_of_selects (args := #[]) (mvT hZ (own_w hw 20))) (mvT hZ (own_w hw 20)) (mvT hZ (own_w hw 19)) (by decide) (backOf (W := 0) (rm4a l Z a0 hw [] a1 (f3 p0 (0 : Int32)) T9.heap n0 Zs12 fr2 E11 Fc0_9 Fc1_9 Fc2_9 Fc4_9) hZ (own_w hw 21) (own_w hw 2) (by decide) (by decide)) qa15 qc15 (g := (mkF m 14 #[oI p0, oR a1, .unset, .unset, .unset, .unset, .unset, .unset, .unset, .unset, .unset, .unset] [(.int (f3 p0 (0 : Int32))), (.ref a1)])) rfl (by rw [hml]; rfl) (Steps.refl _) (argsL := [(.int (f3 p0 (0 : Int32)))]) (rest := []) (lenOf pd_0_2 rfl) rfl (by show 2 * 0 + _ ≤ _; exact Nat.le_of_eq rfl) (hb hby at_14) (fun _ _ => ⟨rfl, e13, (by decide : 1 + 0 ≤ _), (by decide : 5 + 0 ≤ _)⟩)
  dsimp only [Pt.U, Pt.locs, Pt.cells, Pt.slots] at X15 l15 y15 z15 st15 hQ15
  subst l15 y15 z15
  obtain ⟨rfl, Nq15, Kc15, Fc0_15, Fc1_15, Fc2_15, Fc3_15⟩ := hQ15
  have N16 := Fr.app N14 Nq15
  refine own_tr st15 ?_
  have E17 := E11.keep Kc15
  have Zs18 : n0 ≤ T15.heap.size := Nat.le_trans Zs12 Kc15.1
  show own_Go p e below _ (T15.setTop (mkF m 17 #[oI p0, oR a1, .unset, .unset, .unset, .unset, .unset, .unset, .unset, .unset, .unset, .unset] [(.int (0 : Int32))]))
  refine own_via (fun t kz => XS.istoreN X15.here hx rfl (hb hby at_17) rfl (l' := #[oI p0, oR a1, oI (0 : Int32), .unset, .unset, .unset, .unset, .unset, .unset, .unset, .unset, .unset]) rfl kz) ?_
  show own_Go p e below _ (T15.setTop (mkF m 18 #[oI p0, oR a1, oI (0 : Int32), .unset, .unset, .unset, .unset, .unset, .unset, .unset, .unset, .unset] []))
  refine own_via (fun t kz => XS.aloadN X15.here hx rfl (hb hby at_18) rfl rfl kz) ?_
  show own_Go p e below _ (T15.setTop (mkF m 19 #[oI p0, oR a1, oI (0 : Int32), .unset, .unset, .unset, .unset, .unset, .unset, .unset, .unset, .unset] [(.ref a1)]))
  refine own_via (fun t kz => XS.iloadN X15.here hx rfl (hb hby at_19) rfl kz) ?_
  show own_Go p e below _ (T15.setTop (mkF m 20 #[oI p0, oR a1, oI (0 : Int32), .unset, .unset, .unset, .unset, .unset, .unset, .unset, .unset, .unset] [(.int p0), (.ref a1)]))
  refine own_via (fun t kz => XS.iconst X15.here hx rfl (hb hby at_20) kz) ?_
  show own_Go p e below _ (T15.setTop (mkF m 21 #[oI p0, oR a1, oI (0 : Int32), .unset, .unset, .unset, .unset, .unset, .unset, .unset, .unset, .unset] [(.int (1 : Int32)), (.int p0), (.ref a1)]))
  obtain ⟨_, _, ⟨T19, L19, k19, n19⟩, -, X19, ⟨Lc19, hQ19, l19, y19, z19⟩, st19⟩ := Jvm.LawKit.callS X15 hx (y := (⟨"com/example/quiescence/quiescence/ioco/WalksEndsBeforePinLaw", "bit", "(II)Z"⟩ : MethodName)) hown (mvT hZ (own_w hw 13)) (mvT hZ (own_w hw 14)) (mvT hZ (own_w hw 15)) (mvT hZ (own_w hw 16)) (by decide) (backOf (W := 1) (rm3 l Z a0 hw [] p0 (1 : Int32) (f3 p0 (1 : Int32)) T15.heap n0 Zs18 rfl) hZ (own_w hw 16) (own_w hw 15) (by decide) (by decide)) (g := (mkF m 21 #[oI p0, oR a1, oI (0 : Int32), .unset, .unset, .unset, .unset, .unset, .unset, .unset, .unset, .unset] [(.int (1 : Int32)), (.int p0), (.ref a1)])) rfl (by rw [hml]; rfl) (argsL := [(.int p0), (.int (1 : Int32))]) (rest := [(.ref a1)]) (lenOf pd_0_1 rfl) rfl (by show 2 * 0 + _ ≤ _; exact Nat.le_of_eq rfl) (hb hby at_21) (fun _ _ => ⟨rfl, rfl, (by decide : 1 + 0 ≤ _), (by decide : 5 + 0 ≤ _)⟩)
  dsimp only [Pt.U, Pt.locs, Pt.cells, Pt.slots] at X19 l19 y19 z19 st19 hQ19
  subst l19 y19 z19
  obtain ⟨rfl, Nq19, e19⟩ := hQ19
  have N20 := Fr.app N16 Nq19
  refine own_via st19 ?_
  show own_Go p e below _ (T19.setTop (mkF m 24 #[oI p0, oR a1, oI (0 : Int32), .unset, .unset, .unset, .unset, .unset, .unset, .unset, .unset, .unset] [(.int (f3 p0 (1 : Int32))), (.ref a1)]))
  have La : Fld Z T15.heap a1 "com/example/quiescence/quiescence/ioco/Walks" "labels" "J" (.long (Int64.ofNat 0)) := Fc1_15
  have As : Fld Z T15.heap a1 "com/example/quiescence/quiescence/ioco/Walks" "astray" "J" (.long (Int64.ofNat 0)) := Fc2_15
  obtain ⟨cq21, kq21, qa21, qb21, qc21⟩ := isOf hZ e19 E17
  obtain ⟨_, _, ⟨T21, L21, k21, n21⟩, -, X21, ⟨Lc21, hQ21, l21, y21, z21⟩, st21⟩ := X19.virtualBack hx (y := (⟨"com/example/quiescence/quiescence/ioco/Walks", "endsBefore", "(Z)Z"⟩ : MethodName)) (z := (⟨"com/example/quiescence/quiescence/ioco/Walks", "endsBefore", "(Z)Z"⟩ : MethodName)) hown (mvT hZ (own_w hw 17)) (mvT hZ (own_w hw 18)) (notFace_of_selects (args := #[]) (mvT hZ (own_w hw 20))) (mvT hZ (own_w hw 20)) (mvT hZ (own_w hw 19)) (by decide) (backOf (W := 0) (rm4b l Z a0 hw [] a1 (f3 p0 (1 : Int32)) 0 0 T15.heap n0 Zs18 fr2 E17 Fc0_15 La As Fc3_15 (by decide) (Nat.le_refl 0)) hZ (own_w hw 21) (own_w hw 2) (by decide) (by decide)) qa21 qc21 (g := (mkF m 24 #[oI p0, oR a1, oI (0 : Int32), .unset, .unset, .unset, .unset, .unset, .unset, .unset, .unset, .unset] [(.int (f3 p0 (1 : Int32))), (.ref a1)])) rfl (by rw [hml]; rfl) (Steps.refl _) (argsL := [(.int (f3 p0 (1 : Int32)))]) (rest := []) (lenOf pd_0_2 rfl) rfl (by show 2 * 0 + _ ≤ _; exact Nat.le_of_eq rfl) (hb hby at_24) (fun _ _ => ⟨rfl, e19, (by decide : 1 + 0 ≤ _), (by decide : 5 + 0 ≤ _)⟩)
  dsimp only [Pt.U, Pt.locs, Pt.cells, Pt.slots] at X21 l21 y21 z21 st21 hQ21
  subst l21 y21 z21
  obtain ⟨rfl, Nq21, Kc21, Fs21, Fl21, ⟨j1, hj1, Fa21⟩, Fv21⟩ := hQ21
  have N22 := Fr.app N20 Nq21
  refine own_tr st21 ?_
  have E23 := E17.keep Kc21
  have Zs24 : n0 ≤ T21.heap.size := Nat.le_trans Zs18 Kc21.1
  show own_Go p e below _ (T21.setTop (mkF m 27 #[oI p0, oR a1, oI (0 : Int32), .unset, .unset, .unset, .unset, .unset, .unset, .unset, .unset, .unset] [(.int (0 : Int32))]))
  refine own_via (fun t kz => XS.istoreN X21.here hx rfl (hb hby at_27) rfl (l' := #[oI p0, oR a1, oI (0 : Int32), oI (0 : Int32), .unset, .unset, .unset, .unset, .unset, .unset, .unset, .unset]) rfl kz) ?_
  show own_Go p e below _ (T21.setTop (mkF m 28 #[oI p0, oR a1, oI (0 : Int32), oI (0 : Int32), .unset, .unset, .unset, .unset, .unset, .unset, .unset, .unset] []))
  refine own_via (fun t kz => XS.aloadN X21.here hx rfl (hb hby at_28) rfl rfl kz) ?_
  show own_Go p e below _ (T21.setTop (mkF m 29 #[oI p0, oR a1, oI (0 : Int32), oI (0 : Int32), .unset, .unset, .unset, .unset, .unset, .unset, .unset, .unset] [(.ref a1)]))
  refine own_via (fun t kz => XS.iloadN X21.here hx rfl (hb hby at_29) rfl kz) ?_
  show own_Go p e below _ (T21.setTop (mkF m 30 #[oI p0, oR a1, oI (0 : Int32), oI (0 : Int32), .unset, .unset, .unset, .unset, .unset, .unset, .unset, .unset] [(.int p0), (.ref a1)]))
  refine own_via (fun t kz => XS.iconst X21.here hx rfl (hb hby at_30) kz) ?_
  show own_Go p e below _ (T21.setTop (mkF m 31 #[oI p0, oR a1, oI (0 : Int32), oI (0 : Int32), .unset, .unset, .unset, .unset, .unset, .unset, .unset, .unset] [(.int (2 : Int32)), (.int p0), (.ref a1)]))
  obtain ⟨_, _, ⟨T25, L25, k25, n25⟩, -, X25, ⟨Lc25, hQ25, l25, y25, z25⟩, st25⟩ := Jvm.LawKit.callS X21 hx (y := (⟨"com/example/quiescence/quiescence/ioco/WalksEndsBeforePinLaw", "bit", "(II)Z"⟩ : MethodName)) hown (mvT hZ (own_w hw 13)) (mvT hZ (own_w hw 14)) (mvT hZ (own_w hw 15)) (mvT hZ (own_w hw 16)) (by decide) (backOf (W := 1) (rm3 l Z a0 hw [] p0 (2 : Int32) (f3 p0 (2 : Int32)) T21.heap n0 Zs24 rfl) hZ (own_w hw 16) (own_w hw 15) (by decide) (by decide)) (g := (mkF m 31 #[oI p0, oR a1, oI (0 : Int32), oI (0 : Int32), .unset, .unset, .unset, .unset, .unset, .unset, .unset, .unset] [(.int (2 : Int32)), (.int p0), (.ref a1)])) rfl (by rw [hml]; rfl) (argsL := [(.int p0), (.int (2 : Int32))]) (rest := [(.ref a1)]) (lenOf pd_0_1 rfl) rfl (by show 2 * 0 + _ ≤ _; exact Nat.le_of_eq rfl) (hb hby at_31) (fun _ _ => ⟨rfl, rfl, (by decide : 1 + 0 ≤ _), (by decide : 5 + 0 ≤ _)⟩)
  dsimp only [Pt.U, Pt.locs, Pt.cells, Pt.slots] at X25 l25 y25 z25 st25 hQ25
  subst l25 y25 z25
  obtain ⟨rfl, Nq25, e25⟩ := hQ25
  have N26 := Fr.app N22 Nq25
  refine own_via st25 ?_
  show own_Go p e below _ (T25.setTop (mkF m 34 #[oI p0, oR a1, oI (0 : Int32), oI (0 : Int32), .unset, .unset, .unset, .unset, .unset, .unset, .unset, .unset] [(.int (f3 p0 (2 : Int32))), (.ref a1)]))
  obtain ⟨cq27, kq27, qa27, qb27, qc27⟩ := isOf hZ e25 E23
  obtain ⟨_, _, ⟨T27, L27, k27, n27⟩, -, X27, ⟨Lc27, hQ27, l27, y27, z27⟩, st27⟩ := X25.virtualBack hx (y := (⟨"com/example/quiescence/quiescence/ioco/Walks", "endsBefore", "(Z)Z"⟩ : MethodName)) (z := (⟨"com/example/quiescence/quiescence/ioco/Walks", "endsBefore", "(Z)Z"⟩ : MethodName)) hown (mvT hZ (own_w hw 17)) (mvT hZ (own_w hw 18)) (notFace_of_selects (args := #[]) (mvT hZ (own_w hw 20))) (mvT hZ (own_w hw 20)) (mvT hZ (own_w hw 19)) (by decide) (backOf (W := 0) (rm4b l Z a0 hw [] a1 (f3 p0 (2 : Int32)) 1 j1 T21.heap n0 Zs24 fr2 E23 Fs21 Fl21 Fa21 Fv21 (by decide) hj1) hZ (own_w hw 21) (own_w hw 2) (by decide) (by decide)) qa27 qc27 (g := (mkF m 34 #[oI p0, oR a1, oI (0 : Int32), oI (0 : Int32), .unset, .unset, .unset, .unset, .unset, .unset, .unset, .unset] [(.int (f3 p0 (2 : Int32))), (.ref a1)])) rfl (by rw [hml]; rfl) (Steps.refl _) (argsL := [(.int (f3 p0 (2 : Int32)))]) (rest := []) (lenOf pd_0_2 rfl) rfl (by show 2 * 0 + _ ≤ _; exact Nat.le_of_eq rfl) (hb hby at_34) (fun _ _ => ⟨rfl, e25, (by decide : 1 + 0 ≤ _), (by decide : 5 + 0 ≤ _)⟩)
  dsimp only [Pt.U, Pt.locs, Pt.cells, Pt.slots] at X27 l27 y27 z27 st27 hQ27
  subst l27 y27 z27
  obtain ⟨rfl, Nq27, Kc27, Fs27, Fl27, ⟨j2, hj2, Fa27⟩, Fv27⟩ := hQ27
  have N28 := Fr.app N26 Nq27
  refine own_tr st27 ?_
  have E29 := E23.keep Kc27
  have Zs30 : n0 ≤ T27.heap.size := Nat.le_trans Zs24 Kc27.1
  show own_Go p e below _ (T27.setTop (mkF m 37 #[oI p0, oR a1, oI (0 : Int32), oI (0 : Int32), .unset, .unset, .unset, .unset, .unset, .unset, .unset, .unset] [(.int (0 : Int32))]))
  refine own_via (fun t kz => XS.istore X27.here hx rfl (hb hby at_37) rfl (l' := #[oI p0, oR a1, oI (0 : Int32), oI (0 : Int32), oI (0 : Int32), .unset, .unset, .unset, .unset, .unset, .unset, .unset]) rfl kz) ?_
  show own_Go p e below _ (T27.setTop (mkF m 39 #[oI p0, oR a1, oI (0 : Int32), oI (0 : Int32), oI (0 : Int32), .unset, .unset, .unset, .unset, .unset, .unset, .unset] []))
  refine own_via (fun t kz => XS.aloadN X27.here hx rfl (hb hby at_39) rfl rfl kz) ?_
  show own_Go p e below _ (T27.setTop (mkF m 40 #[oI p0, oR a1, oI (0 : Int32), oI (0 : Int32), oI (0 : Int32), .unset, .unset, .unset, .unset, .unset, .unset, .unset] [(.ref a1)]))
  refine own_via (fun t kz => XS.iloadN X27.here hx rfl (hb hby at_40) rfl kz) ?_
  show own_Go p e below _ (T27.setTop (mkF m 41 #[oI p0, oR a1, oI (0 : Int32), oI (0 : Int32), oI (0 : Int32), .unset, .unset, .unset, .unset, .unset, .unset, .unset] [(.int p0), (.ref a1)]))
  refine own_via (fun t kz => XS.iconst X27.here hx rfl (hb hby at_41) kz) ?_
  show own_Go p e below _ (T27.setTop (mkF m 42 #[oI p0, oR a1, oI (0 : Int32), oI (0 : Int32), oI (0 : Int32), .unset, .unset, .unset, .unset, .unset, .unset, .unset] [(.int (3 : Int32)), (.int p0), (.ref a1)]))
  obtain ⟨_, _, ⟨T31, L31, k31, n31⟩, -, X31, ⟨Lc31, hQ31, l31, y31, z31⟩, st31⟩ := Jvm.LawKit.callS X27 hx (y := (⟨"com/example/quiescence/quiescence/ioco/WalksEndsBeforePinLaw", "bit", "(II)Z"⟩ : MethodName)) hown (mvT hZ (own_w hw 13)) (mvT hZ (own_w hw 14)) (mvT hZ (own_w hw 15)) (mvT hZ (own_w hw 16)) (by decide) (backOf (W := 1) (rm3 l Z a0 hw [] p0 (3 : Int32) (f3 p0 (3 : Int32)) T27.heap n0 Zs30 rfl) hZ (own_w hw 16) (own_w hw 15) (by decide) (by decide)) (g := (mkF m 42 #[oI p0, oR a1, oI (0 : Int32), oI (0 : Int32), oI (0 : Int32), .unset, .unset, .unset, .unset, .unset, .unset, .unset] [(.int (3 : Int32)), (.int p0), (.ref a1)])) rfl (by rw [hml]; rfl) (argsL := [(.int p0), (.int (3 : Int32))]) (rest := [(.ref a1)]) (lenOf pd_0_1 rfl) rfl (by show 2 * 0 + _ ≤ _; exact Nat.le_of_eq rfl) (hb hby at_42) (fun _ _ => ⟨rfl, rfl, (by decide : 1 + 0 ≤ _), (by decide : 5 + 0 ≤ _)⟩)
  dsimp only [Pt.U, Pt.locs, Pt.cells, Pt.slots] at X31 l31 y31 z31 st31 hQ31
  subst l31 y31 z31
  obtain ⟨rfl, Nq31, e31⟩ := hQ31
  have N32 := Fr.app N28 Nq31
  refine own_via st31 ?_
  show own_Go p e below _ (T31.setTop (mkF m 45 #[oI p0, oR a1, oI (0 : Int32), oI (0 : Int32), oI (0 : Int32), .unset, .unset, .unset, .unset, .unset, .unset, .unset] [(.int (f3 p0 (3 : Int32))), (.ref a1)]))
  obtain ⟨cq33, kq33, qa33, qb33, qc33⟩ := isOf hZ e31 E29
  obtain ⟨_, _, ⟨T33, L33, k33, n33⟩, -, X33, ⟨Lc33, hQ33, l33, y33, z33⟩, st33⟩ := X31.virtualBack hx (y := (⟨"com/example/quiescence/quiescence/ioco/Walks", "endsBefore", "(Z)Z"⟩ : MethodName)) (z := (⟨"com/example/quiescence/quiescence/ioco/Walks", "endsBefore", "(Z)Z"⟩ : MethodName)) hown (mvT hZ (own_w hw 17)) (mvT hZ (own_w hw 18)) (notFace_of_selects (args := #[]) (mvT hZ (own_w hw 20))) (mvT hZ (own_w hw 20)) (mvT hZ (own_w hw 19)) (by decide) (backOf (W := 0) (rm4b l Z a0 hw [] a1 (f3 p0 (3 : Int32)) 2 j2 T27.heap n0 Zs30 fr2 E29 Fs27 Fl27 Fa27 Fv27 (by decide) hj2) hZ (own_w hw 21) (own_w hw 2) (by decide) (by decide)) qa33 qc33 (g := (mkF m 45 #[oI p0, oR a1, oI (0 : Int32), oI (0 : Int32), oI (0 : Int32), .unset, .unset, .unset, .unset, .unset, .unset, .unset] [(.int (f3 p0 (3 : Int32))), (.ref a1)])) rfl (by rw [hml]; rfl) (Steps.refl _) (argsL := [(.int (f3 p0 (3 : Int32)))]) (rest := []) (lenOf pd_0_2 rfl) rfl (by show 2 * 0 + _ ≤ _; exact Nat.le_of_eq rfl) (hb hby at_45) (fun _ _ => ⟨rfl, e31, (by decide : 1 + 0 ≤ _), (by decide : 5 + 0 ≤ _)⟩)
  dsimp only [Pt.U, Pt.locs, Pt.cells, Pt.slots] at X33 l33 y33 z33 st33 hQ33
  subst l33 y33 z33
  obtain ⟨rfl, Nq33, Kc33, Fs33, Fl33, ⟨j3, hj3, Fa33⟩, Fv33⟩ := hQ33
  have N34 := Fr.app N32 Nq33
  refine own_tr st33 ?_
  have E35 := E29.keep Kc33
  have Zs36 : n0 ≤ T33.heap.size := Nat.le_trans Zs30 Kc33.1
  show own_Go p e below _ (T33.setTop (mkF m 48 #[oI p0, oR a1, oI (0 : Int32), oI (0 : Int32), oI (0 : Int32), .unset, .unset, .unset, .unset, .unset, .unset, .unset] [(.int (0 : Int32))]))
  refine own_via (fun t kz => XS.istore X33.here hx rfl (hb hby at_48) rfl (l' := #[oI p0, oR a1, oI (0 : Int32), oI (0 : Int32), oI (0 : Int32), oI (0 : Int32), .unset, .unset, .unset, .unset, .unset, .unset]) rfl kz) ?_
  show own_Go p e below _ (T33.setTop (mkF m 50 #[oI p0, oR a1, oI (0 : Int32), oI (0 : Int32), oI (0 : Int32), oI (0 : Int32), .unset, .unset, .unset, .unset, .unset, .unset] []))
  refine own_via (fun t kz => XS.aloadN X33.here hx rfl (hb hby at_50) rfl rfl kz) ?_
  show own_Go p e below _ (T33.setTop (mkF m 51 #[oI p0, oR a1, oI (0 : Int32), oI (0 : Int32), oI (0 : Int32), oI (0 : Int32), .unset, .unset, .unset, .unset, .unset, .unset] [(.ref a1)]))
  refine own_via (fun t kz => XS.iloadN X33.here hx rfl (hb hby at_51) rfl kz) ?_
  show own_Go p e below _ (T33.setTop (mkF m 52 #[oI p0, oR a1, oI (0 : Int32), oI (0 : Int32), oI (0 : Int32), oI (0 : Int32), .unset, .unset, .unset, .unset, .unset, .unset] [(.int p0), (.ref a1)]))
  refine own_via (fun t kz => XS.iconst X33.here hx rfl (hb hby at_52) kz) ?_
  show own_Go p e below _ (T33.setTop (mkF m 53 #[oI p0, oR a1, oI (0 : Int32), oI (0 : Int32), oI (0 : Int32), oI (0 : Int32), .unset, .unset, .unset, .unset, .unset, .unset] [(.int (4 : Int32)), (.int p0), (.ref a1)]))
  obtain ⟨_, _, ⟨T37, L37, k37, n37⟩, -, X37, ⟨Lc37, hQ37, l37, y37, z37⟩, st37⟩ := Jvm.LawKit.callS X33 hx (y := (⟨"com/example/quiescence/quiescence/ioco/WalksEndsBeforePinLaw", "bit", "(II)Z"⟩ : MethodName)) hown (mvT hZ (own_w hw 13)) (mvT hZ (own_w hw 14)) (mvT hZ (own_w hw 15)) (mvT hZ (own_w hw 16)) (by decide) (backOf (W := 1) (rm3 l Z a0 hw [] p0 (4 : Int32) (f3 p0 (4 : Int32)) T33.heap n0 Zs36 rfl) hZ (own_w hw 16) (own_w hw 15) (by decide) (by decide)) (g := (mkF m 53 #[oI p0, oR a1, oI (0 : Int32), oI (0 : Int32), oI (0 : Int32), oI (0 : Int32), .unset, .unset, .unset, .unset, .unset, .unset] [(.int (4 : Int32)), (.int p0), (.ref a1)])) rfl (by rw [hml]; rfl) (argsL := [(.int p0), (.int (4 : Int32))]) (rest := [(.ref a1)]) (lenOf pd_0_1 rfl) rfl (by show 2 * 0 + _ ≤ _; exact Nat.le_of_eq rfl) (hb hby at_53) (fun _ _ => ⟨rfl, rfl, (by decide : 1 + 0 ≤ _), (by decide : 5 + 0 ≤ _)⟩)
  dsimp only [Pt.U, Pt.locs, Pt.cells, Pt.slots] at X37 l37 y37 z37 st37 hQ37
  subst l37 y37 z37
  obtain ⟨rfl, Nq37, e37⟩ := hQ37
  have N38 := Fr.app N34 Nq37
  refine own_via st37 ?_
  show own_Go p e below _ (T37.setTop (mkF m 56 #[oI p0, oR a1, oI (0 : Int32), oI (0 : Int32), oI (0 : Int32), oI (0 : Int32), .unset, .unset, .unset, .unset, .unset, .unset] [(.int (f3 p0 (4 : Int32))), (.ref a1)]))
  obtain ⟨cq39, kq39, qa39, qb39, qc39⟩ := isOf hZ e37 E35
  obtain ⟨_, _, ⟨T39, L39, k39, n39⟩, -, X39, ⟨Lc39, hQ39, l39, y39, z39⟩, st39⟩ := X37.virtualBack hx (y := (⟨"com/example/quiescence/quiescence/ioco/Walks", "endsBefore", "(Z)Z"⟩ : MethodName)) (z := (⟨"com/example/quiescence/quiescence/ioco/Walks", "endsBefore", "(Z)Z"⟩ : MethodName)) hown (mvT hZ (own_w hw 17)) (mvT hZ (own_w hw 18)) (notFace_of_selects (args := #[]) (mvT hZ (own_w hw 20))) (mvT hZ (own_w hw 20)) (mvT hZ (own_w hw 19)) (by decide) (backOf (W := 0) (rm4b l Z a0 hw [] a1 (f3 p0 (4 : Int32)) 3 j3 T33.heap n0 Zs36 fr2 E35 Fs33 Fl33 Fa33 Fv33 (by decide) hj3) hZ (own_w hw 21) (own_w hw 2) (by decide) (by decide)) qa39 qc39 (g := (mkF m 56 #[oI p0, oR a1, oI (0 : Int32), oI (0 : Int32), oI (0 : Int32), oI (0 : Int32), .unset, .unset, .unset, .unset, .unset, .unset] [(.int (f3 p0 (4 : Int32))), (.ref a1)])) rfl (by rw [hml]; rfl) (Steps.refl _) (argsL := [(.int (f3 p0 (4 : Int32)))]) (rest := []) (lenOf pd_0_2 rfl) rfl (by show 2 * 0 + _ ≤ _; exact Nat.le_of_eq rfl) (hb hby at_56) (fun _ _ => ⟨rfl, e37, (by decide : 1 + 0 ≤ _), (by decide : 5 + 0 ≤ _)⟩)
  dsimp only [Pt.U, Pt.locs, Pt.cells, Pt.slots] at X39 l39 y39 z39 st39 hQ39
  subst l39 y39 z39
  obtain ⟨rfl, Nq39, Kc39, Fs39, Fl39, ⟨j4, hj4, Fa39⟩, Fv39⟩ := hQ39
  have N40 := Fr.app N38 Nq39
  refine own_tr st39 ?_
  have E41 := E35.keep Kc39
  have Zs42 : n0 ≤ T39.heap.size := Nat.le_trans Zs36 Kc39.1
  show own_Go p e below _ (T39.setTop (mkF m 59 #[oI p0, oR a1, oI (0 : Int32), oI (0 : Int32), oI (0 : Int32), oI (0 : Int32), .unset, .unset, .unset, .unset, .unset, .unset] [(.int (0 : Int32))]))
  refine own_via (fun t kz => XS.istore X39.here hx rfl (hb hby at_59) rfl (l' := #[oI p0, oR a1, oI (0 : Int32), oI (0 : Int32), oI (0 : Int32), oI (0 : Int32), oI (0 : Int32), .unset, .unset, .unset, .unset, .unset]) rfl kz) ?_
  show own_Go p e below _ (T39.setTop (mkF m 61 #[oI p0, oR a1, oI (0 : Int32), oI (0 : Int32), oI (0 : Int32), oI (0 : Int32), oI (0 : Int32), .unset, .unset, .unset, .unset, .unset] []))
  refine own_via (fun t kz => XS.aloadN X39.here hx rfl (hb hby at_61) rfl rfl kz) ?_
  show own_Go p e below _ (T39.setTop (mkF m 62 #[oI p0, oR a1, oI (0 : Int32), oI (0 : Int32), oI (0 : Int32), oI (0 : Int32), oI (0 : Int32), .unset, .unset, .unset, .unset, .unset] [(.ref a1)]))
  refine own_via (fun t kz => XS.iloadN X39.here hx rfl (hb hby at_62) rfl kz) ?_
  show own_Go p e below _ (T39.setTop (mkF m 63 #[oI p0, oR a1, oI (0 : Int32), oI (0 : Int32), oI (0 : Int32), oI (0 : Int32), oI (0 : Int32), .unset, .unset, .unset, .unset, .unset] [(.int p0), (.ref a1)]))
  refine own_via (fun t kz => XS.iconst X39.here hx rfl (hb hby at_63) kz) ?_
  show own_Go p e below _ (T39.setTop (mkF m 64 #[oI p0, oR a1, oI (0 : Int32), oI (0 : Int32), oI (0 : Int32), oI (0 : Int32), oI (0 : Int32), .unset, .unset, .unset, .unset, .unset] [(.int (5 : Int32)), (.int p0), (.ref a1)]))
  obtain ⟨_, _, ⟨T43, L43, k43, n43⟩, -, X43, ⟨Lc43, hQ43, l43, y43, z43⟩, st43⟩ := Jvm.LawKit.callS X39 hx (y := (⟨"com/example/quiescence/quiescence/ioco/WalksEndsBeforePinLaw", "bit", "(II)Z"⟩ : MethodName)) hown (mvT hZ (own_w hw 13)) (mvT hZ (own_w hw 14)) (mvT hZ (own_w hw 15)) (mvT hZ (own_w hw 16)) (by decide) (backOf (W := 1) (rm3 l Z a0 hw [] p0 (5 : Int32) (f3 p0 (5 : Int32)) T39.heap n0 Zs42 rfl) hZ (own_w hw 16) (own_w hw 15) (by decide) (by decide)) (g := (mkF m 64 #[oI p0, oR a1, oI (0 : Int32), oI (0 : Int32), oI (0 : Int32), oI (0 : Int32), oI (0 : Int32), .unset, .unset, .unset, .unset, .unset] [(.int (5 : Int32)), (.int p0), (.ref a1)])) rfl (by rw [hml]; rfl) (argsL := [(.int p0), (.int (5 : Int32))]) (rest := [(.ref a1)]) (lenOf pd_0_1 rfl) rfl (by show 2 * 0 + _ ≤ _; exact Nat.le_of_eq rfl) (hb hby at_64) (fun _ _ => ⟨rfl, rfl, (by decide : 1 + 0 ≤ _), (by decide : 5 + 0 ≤ _)⟩)
  dsimp only [Pt.U, Pt.locs, Pt.cells, Pt.slots] at X43 l43 y43 z43 st43 hQ43
  subst l43 y43 z43
  obtain ⟨rfl, Nq43, e43⟩ := hQ43
  have N44 := Fr.app N40 Nq43
  refine own_via st43 ?_
  show own_Go p e below _ (T43.setTop (mkF m 67 #[oI p0, oR a1, oI (0 : Int32), oI (0 : Int32), oI (0 : Int32), oI (0 : Int32), oI (0 : Int32), .unset, .unset, .unset, .unset, .unset] [(.int (f3 p0 (5 : Int32))), (.ref a1)]))
  obtain ⟨cq45, kq45, qa45, qb45, qc45⟩ := isOf hZ e43 E41
  obtain ⟨_, _, ⟨T45, L45, k45, n45⟩, -, X45, ⟨Lc45, hQ45, l45, y45, z45⟩, st45⟩ := X43.virtualBack hx (y := (⟨"com/example/quiescence/quiescence/ioco/Walks", "endsBefore", "(Z)Z"⟩ : MethodName)) (z := (⟨"com/example/quiescence/quiescence/ioco/Walks", "endsBefore", "(Z)Z"⟩ : MethodName)) hown (mvT hZ (own_w hw 17)) (mvT hZ (own_w hw 18)) (notFace_of_selects (args := #[]) (mvT hZ (own_w hw 20))) (mvT hZ (own_w hw 20)) (mvT hZ (own_w hw 19)) (by decide) (backOf (W := 0) (rm4b l Z a0 hw [] a1 (f3 p0 (5 : Int32)) 4 j4 T39.heap n0 Zs42 fr2 E41 Fs39 Fl39 Fa39 Fv39 (by decide) hj4) hZ (own_w hw 21) (own_w hw 2) (by decide) (by decide)) qa45 qc45 (g := (mkF m 67 #[oI p0, oR a1, oI (0 : Int32), oI (0 : Int32), oI (0 : Int32), oI (0 : Int32), oI (0 : Int32), .unset, .unset, .unset, .unset, .unset] [(.int (f3 p0 (5 : Int32))), (.ref a1)])) rfl (by rw [hml]; rfl) (Steps.refl _) (argsL := [(.int (f3 p0 (5 : Int32)))]) (rest := []) (lenOf pd_0_2 rfl) rfl (by show 2 * 0 + _ ≤ _; exact Nat.le_of_eq rfl) (hb hby at_67) (fun _ _ => ⟨rfl, e43, (by decide : 1 + 0 ≤ _), (by decide : 5 + 0 ≤ _)⟩)
  dsimp only [Pt.U, Pt.locs, Pt.cells, Pt.slots] at X45 l45 y45 z45 st45 hQ45
  subst l45 y45 z45
  obtain ⟨rfl, Nq45, Kc45, Fs45, Fl45, ⟨j5, hj5, Fa45⟩, Fv45⟩ := hQ45
  have N46 := Fr.app N44 Nq45
  refine own_tr st45 ?_
  have E47 := E41.keep Kc45
  have Zs48 : n0 ≤ T45.heap.size := Nat.le_trans Zs42 Kc45.1
  show own_Go p e below _ (T45.setTop (mkF m 70 #[oI p0, oR a1, oI (0 : Int32), oI (0 : Int32), oI (0 : Int32), oI (0 : Int32), oI (0 : Int32), .unset, .unset, .unset, .unset, .unset] [(.int (0 : Int32))]))
  refine own_via (fun t kz => XS.istore X45.here hx rfl (hb hby at_70) rfl (l' := #[oI p0, oR a1, oI (0 : Int32), oI (0 : Int32), oI (0 : Int32), oI (0 : Int32), oI (0 : Int32), oI (0 : Int32), .unset, .unset, .unset, .unset]) rfl kz) ?_
  show own_Go p e below _ (T45.setTop (mkF m 72 #[oI p0, oR a1, oI (0 : Int32), oI (0 : Int32), oI (0 : Int32), oI (0 : Int32), oI (0 : Int32), oI (0 : Int32), .unset, .unset, .unset, .unset] []))
  refine own_via (fun t kz => XS.aloadN X45.here hx rfl (hb hby at_72) rfl rfl kz) ?_
  show own_Go p e below _ (T45.setTop (mkF m 73 #[oI p0, oR a1, oI (0 : Int32), oI (0 : Int32), oI (0 : Int32), oI (0 : Int32), oI (0 : Int32), oI (0 : Int32), .unset, .unset, .unset, .unset] [(.ref a1)]))
  refine own_via (fun t kz => XS.iloadN X45.here hx rfl (hb hby at_73) rfl kz) ?_
  show own_Go p e below _ (T45.setTop (mkF m 74 #[oI p0, oR a1, oI (0 : Int32), oI (0 : Int32), oI (0 : Int32), oI (0 : Int32), oI (0 : Int32), oI (0 : Int32), .unset, .unset, .unset, .unset] [(.int p0), (.ref a1)]))
  refine own_via (fun t kz => XS.bipush X45.here hx rfl (hb hby at_74) kz) ?_
  show own_Go p e below _ (T45.setTop (mkF m 76 #[oI p0, oR a1, oI (0 : Int32), oI (0 : Int32), oI (0 : Int32), oI (0 : Int32), oI (0 : Int32), oI (0 : Int32), .unset, .unset, .unset, .unset] [(.int (6 : Int32)), (.int p0), (.ref a1)]))
  obtain ⟨_, _, ⟨T49, L49, k49, n49⟩, -, X49, ⟨Lc49, hQ49, l49, y49, z49⟩, st49⟩ := Jvm.LawKit.callS X45 hx (y := (⟨"com/example/quiescence/quiescence/ioco/WalksEndsBeforePinLaw", "bit", "(II)Z"⟩ : MethodName)) hown (mvT hZ (own_w hw 13)) (mvT hZ (own_w hw 14)) (mvT hZ (own_w hw 15)) (mvT hZ (own_w hw 16)) (by decide) (backOf (W := 1) (rm3 l Z a0 hw [] p0 (6 : Int32) (f3 p0 (6 : Int32)) T45.heap n0 Zs48 rfl) hZ (own_w hw 16) (own_w hw 15) (by decide) (by decide)) (g := (mkF m 76 #[oI p0, oR a1, oI (0 : Int32), oI (0 : Int32), oI (0 : Int32), oI (0 : Int32), oI (0 : Int32), oI (0 : Int32), .unset, .unset, .unset, .unset] [(.int (6 : Int32)), (.int p0), (.ref a1)])) rfl (by rw [hml]; rfl) (argsL := [(.int p0), (.int (6 : Int32))]) (rest := [(.ref a1)]) (lenOf pd_0_1 rfl) rfl (by show 2 * 0 + _ ≤ _; exact Nat.le_of_eq rfl) (hb hby at_76) (fun _ _ => ⟨rfl, rfl, (by decide : 1 + 0 ≤ _), (by decide : 5 + 0 ≤ _)⟩)
  dsimp only [Pt.U, Pt.locs, Pt.cells, Pt.slots] at X49 l49 y49 z49 st49 hQ49
  subst l49 y49 z49
  obtain ⟨rfl, Nq49, e49⟩ := hQ49
  have N50 := Fr.app N46 Nq49
  refine own_via st49 ?_
  show own_Go p e below _ (T49.setTop (mkF m 79 #[oI p0, oR a1, oI (0 : Int32), oI (0 : Int32), oI (0 : Int32), oI (0 : Int32), oI (0 : Int32), oI (0 : Int32), .unset, .unset, .unset, .unset] [(.int (f3 p0 (6 : Int32))), (.ref a1)]))
  obtain ⟨cq51, kq51, qa51, qb51, qc51⟩ := isOf hZ e49 E47
  obtain ⟨_, _, ⟨T51, L51, k51, n51⟩, -, X51, ⟨Lc51, hQ51, l51, y51, z51⟩, st51⟩ := X49.virtualBack hx (y := (⟨"com/example/quiescence/quiescence/ioco/Walks", "endsBefore", "(Z)Z"⟩ : MethodName)) (z := (⟨"com/example/quiescence/quiescence/ioco/Walks", "endsBefore", "(Z)Z"⟩ : MethodName)) hown (mvT hZ (own_w hw 17)) (mvT hZ (own_w hw 18)) (notFace_of_selects (args := #[]) (mvT hZ (own_w hw 20))) (mvT hZ (own_w hw 20)) (mvT hZ (own_w hw 19)) (by decide) (backOf (W := 0) (rm4b l Z a0 hw [] a1 (f3 p0 (6 : Int32)) 5 j5 T45.heap n0 Zs48 fr2 E47 Fs45 Fl45 Fa45 Fv45 (by decide) hj5) hZ (own_w hw 21) (own_w hw 2) (by decide) (by decide)) qa51 qc51 (g := (mkF m 79 #[oI p0, oR a1, oI (0 : Int32), oI (0 : Int32), oI (0 : Int32), oI (0 : Int32), oI (0 : Int32), oI (0 : Int32), .unset, .unset, .unset, .unset] [(.int (f3 p0 (6 : Int32))), (.ref a1)])) rfl (by rw [hml]; rfl) (Steps.refl _) (argsL := [(.int (f3 p0 (6 : Int32)))]) (rest := []) (lenOf pd_0_2 rfl) rfl (by show 2 * 0 + _ ≤ _; exact Nat.le_of_eq rfl) (hb hby at_79) (fun _ _ => ⟨rfl, e49, (by decide : 1 + 0 ≤ _), (by decide : 5 + 0 ≤ _)⟩)
  dsimp only [Pt.U, Pt.locs, Pt.cells, Pt.slots] at X51 l51 y51 z51 st51 hQ51
  subst l51 y51 z51
  obtain ⟨rfl, Nq51, Kc51, Fs51, Fl51, ⟨j6, hj6, Fa51⟩, Fv51⟩ := hQ51
  have N52 := Fr.app N50 Nq51
  refine own_tr st51 ?_
  have E53 := E47.keep Kc51
  have Zs54 : n0 ≤ T51.heap.size := Nat.le_trans Zs48 Kc51.1
  show own_Go p e below _ (T51.setTop (mkF m 82 #[oI p0, oR a1, oI (0 : Int32), oI (0 : Int32), oI (0 : Int32), oI (0 : Int32), oI (0 : Int32), oI (0 : Int32), .unset, .unset, .unset, .unset] [(.int (0 : Int32))]))
  refine own_via (fun t kz => XS.istore X51.here hx rfl (hb hby at_82) rfl (l' := #[oI p0, oR a1, oI (0 : Int32), oI (0 : Int32), oI (0 : Int32), oI (0 : Int32), oI (0 : Int32), oI (0 : Int32), oI (0 : Int32), .unset, .unset, .unset]) rfl kz) ?_
  show own_Go p e below _ (T51.setTop (mkF m 84 #[oI p0, oR a1, oI (0 : Int32), oI (0 : Int32), oI (0 : Int32), oI (0 : Int32), oI (0 : Int32), oI (0 : Int32), oI (0 : Int32), .unset, .unset, .unset] []))
  refine own_via (fun t kz => XS.aloadN X51.here hx rfl (hb hby at_84) rfl rfl kz) ?_
  show own_Go p e below _ (T51.setTop (mkF m 85 #[oI p0, oR a1, oI (0 : Int32), oI (0 : Int32), oI (0 : Int32), oI (0 : Int32), oI (0 : Int32), oI (0 : Int32), oI (0 : Int32), .unset, .unset, .unset] [(.ref a1)]))
  refine own_via (fun t kz => XS.iloadN X51.here hx rfl (hb hby at_85) rfl kz) ?_
  show own_Go p e below _ (T51.setTop (mkF m 86 #[oI p0, oR a1, oI (0 : Int32), oI (0 : Int32), oI (0 : Int32), oI (0 : Int32), oI (0 : Int32), oI (0 : Int32), oI (0 : Int32), .unset, .unset, .unset] [(.int p0), (.ref a1)]))
  refine own_via (fun t kz => XS.bipush X51.here hx rfl (hb hby at_86) kz) ?_
  show own_Go p e below _ (T51.setTop (mkF m 88 #[oI p0, oR a1, oI (0 : Int32), oI (0 : Int32), oI (0 : Int32), oI (0 : Int32), oI (0 : Int32), oI (0 : Int32), oI (0 : Int32), .unset, .unset, .unset] [(.int (7 : Int32)), (.int p0), (.ref a1)]))
  obtain ⟨_, _, ⟨T55, L55, k55, n55⟩, -, X55, ⟨Lc55, hQ55, l55, y55, z55⟩, st55⟩ := Jvm.LawKit.callS X51 hx (y := (⟨"com/example/quiescence/quiescence/ioco/WalksEndsBeforePinLaw", "bit", "(II)Z"⟩ : MethodName)) hown (mvT hZ (own_w hw 13)) (mvT hZ (own_w hw 14)) (mvT hZ (own_w hw 15)) (mvT hZ (own_w hw 16)) (by decide) (backOf (W := 1) (rm3 l Z a0 hw [] p0 (7 : Int32) (f3 p0 (7 : Int32)) T51.heap n0 Zs54 rfl) hZ (own_w hw 16) (own_w hw 15) (by decide) (by decide)) (g := (mkF m 88 #[oI p0, oR a1, oI (0 : Int32), oI (0 : Int32), oI (0 : Int32), oI (0 : Int32), oI (0 : Int32), oI (0 : Int32), oI (0 : Int32), .unset, .unset, .unset] [(.int (7 : Int32)), (.int p0), (.ref a1)])) rfl (by rw [hml]; rfl) (argsL := [(.int p0), (.int (7 : Int32))]) (rest := [(.ref a1)]) (lenOf pd_0_1 rfl) rfl (by show 2 * 0 + _ ≤ _; exact Nat.le_of_eq rfl) (hb hby at_88) (fun _ _ => ⟨rfl, rfl, (by decide : 1 + 0 ≤ _), (by decide : 5 + 0 ≤ _)⟩)
  dsimp only [Pt.U, Pt.locs, Pt.cells, Pt.slots] at X55 l55 y55 z55 st55 hQ55
  subst l55 y55 z55
  obtain ⟨rfl, Nq55, e55⟩ := hQ55
  have N56 := Fr.app N52 Nq55
  refine own_via st55 ?_
  show own_Go p e below _ (T55.setTop (mkF m 91 #[oI p0, oR a1, oI (0 : Int32), oI (0 : Int32), oI (0 : Int32), oI (0 : Int32), oI (0 : Int32), oI (0 : Int32), oI (0 : Int32), .unset, .unset, .unset] [(.int (f3 p0 (7 : Int32))), (.ref a1)]))
  obtain ⟨cq57, kq57, qa57, qb57, qc57⟩ := isOf hZ e55 E53
  obtain ⟨_, _, ⟨T57, L57, k57, n57⟩, -, X57, ⟨Lc57, hQ57, l57, y57, z57⟩, st57⟩ := X55.virtualBack hx (y := (⟨"com/example/quiescence/quiescence/ioco/Walks", "endsBefore", "(Z)Z"⟩ : MethodName)) (z := (⟨"com/example/quiescence/quiescence/ioco/Walks", "endsBefore", "(Z)Z"⟩ : MethodName)) hown (mvT hZ (own_w hw 17)) (mvT hZ (own_w hw 18)) (notFace_of_selects (args := #[]) (mvT hZ (own_w hw 20))) (mvT hZ (own_w hw 20)) (mvT hZ (own_w hw 19)) (by decide) (backOf (W := 0) (rm4b l Z a0 hw [] a1 (f3 p0 (7 : Int32)) 6 j6 T51.heap n0 Zs54 fr2 E53 Fs51 Fl51 Fa51 Fv51 (by decide) hj6) hZ (own_w hw 21) (own_w hw 2) (by decide) (by decide)) qa57 qc57 (g := (mkF m 91 #[oI p0, oR a1, oI (0 : Int32), oI (0 : Int32), oI (0 : Int32), oI (0 : Int32), oI (0 : Int32), oI (0 : Int32), oI (0 : Int32), .unset, .unset, .unset] [(.int (f3 p0 (7 : Int32))), (.ref a1)])) rfl (by rw [hml]; rfl) (Steps.refl _) (argsL := [(.int (f3 p0 (7 : Int32)))]) (rest := []) (lenOf pd_0_2 rfl) rfl (by show 2 * 0 + _ ≤ _; exact Nat.le_of_eq rfl) (hb hby at_91) (fun _ _ => ⟨rfl, e55, (by decide : 1 + 0 ≤ _), (by decide : 5 + 0 ≤ _)⟩)
  dsimp only [Pt.U, Pt.locs, Pt.cells, Pt.slots] at X57 l57 y57 z57 st57 hQ57
  subst l57 y57 z57
  obtain ⟨rfl, Nq57, Kc57, Fs57, Fl57, ⟨j7, hj7, Fa57⟩, Fv57⟩ := hQ57
  have N58 := Fr.app N56 Nq57
  refine own_tr st57 ?_
  have E59 := E53.keep Kc57
  have Zs60 : n0 ≤ T57.heap.size := Nat.le_trans Zs54 Kc57.1
  show own_Go p e below _ (T57.setTop (mkF m 94 #[oI p0, oR a1, oI (0 : Int32), oI (0 : Int32), oI (0 : Int32), oI (0 : Int32), oI (0 : Int32), oI (0 : Int32), oI (0 : Int32), .unset, .unset, .unset] [(.int (0 : Int32))]))
  refine own_via (fun t kz => XS.istore X57.here hx rfl (hb hby at_94) rfl (l' := #[oI p0, oR a1, oI (0 : Int32), oI (0 : Int32), oI (0 : Int32), oI (0 : Int32), oI (0 : Int32), oI (0 : Int32), oI (0 : Int32), oI (0 : Int32), .unset, .unset]) rfl kz) ?_
  show own_Go p e below _ (T57.setTop (mkF m 96 #[oI p0, oR a1, oI (0 : Int32), oI (0 : Int32), oI (0 : Int32), oI (0 : Int32), oI (0 : Int32), oI (0 : Int32), oI (0 : Int32), oI (0 : Int32), .unset, .unset] []))
  refine own_via (fun t kz => XS.aloadN X57.here hx rfl (hb hby at_96) rfl rfl kz) ?_
  show own_Go p e below _ (T57.setTop (mkF m 97 #[oI p0, oR a1, oI (0 : Int32), oI (0 : Int32), oI (0 : Int32), oI (0 : Int32), oI (0 : Int32), oI (0 : Int32), oI (0 : Int32), oI (0 : Int32), .unset, .unset] [(.ref a1)]))
  refine own_via (fun t kz => XS.iloadN X57.here hx rfl (hb hby at_97) rfl kz) ?_
  show own_Go p e below _ (T57.setTop (mkF m 98 #[oI p0, oR a1, oI (0 : Int32), oI (0 : Int32), oI (0 : Int32), oI (0 : Int32), oI (0 : Int32), oI (0 : Int32), oI (0 : Int32), oI (0 : Int32), .unset, .unset] [(.int p0), (.ref a1)]))
  refine own_via (fun t kz => XS.bipush X57.here hx rfl (hb hby at_98) kz) ?_
  show own_Go p e below _ (T57.setTop (mkF m 100 #[oI p0, oR a1, oI (0 : Int32), oI (0 : Int32), oI (0 : Int32), oI (0 : Int32), oI (0 : Int32), oI (0 : Int32), oI (0 : Int32), oI (0 : Int32), .unset, .unset] [(.int (8 : Int32)), (.int p0), (.ref a1)]))
  obtain ⟨_, _, ⟨T61, L61, k61, n61⟩, -, X61, ⟨Lc61, hQ61, l61, y61, z61⟩, st61⟩ := Jvm.LawKit.callS X57 hx (y := (⟨"com/example/quiescence/quiescence/ioco/WalksEndsBeforePinLaw", "bit", "(II)Z"⟩ : MethodName)) hown (mvT hZ (own_w hw 13)) (mvT hZ (own_w hw 14)) (mvT hZ (own_w hw 15)) (mvT hZ (own_w hw 16)) (by decide) (backOf (W := 1) (rm3 l Z a0 hw [] p0 (8 : Int32) (f3 p0 (8 : Int32)) T57.heap n0 Zs60 rfl) hZ (own_w hw 16) (own_w hw 15) (by decide) (by decide)) (g := (mkF m 100 #[oI p0, oR a1, oI (0 : Int32), oI (0 : Int32), oI (0 : Int32), oI (0 : Int32), oI (0 : Int32), oI (0 : Int32), oI (0 : Int32), oI (0 : Int32), .unset, .unset] [(.int (8 : Int32)), (.int p0), (.ref a1)])) rfl (by rw [hml]; rfl) (argsL := [(.int p0), (.int (8 : Int32))]) (rest := [(.ref a1)]) (lenOf pd_0_1 rfl) rfl (by show 2 * 0 + _ ≤ _; exact Nat.le_of_eq rfl) (hb hby at_100) (fun _ _ => ⟨rfl, rfl, (by decide : 1 + 0 ≤ _), (by decide : 5 + 0 ≤ _)⟩)
  dsimp only [Pt.U, Pt.locs, Pt.cells, Pt.slots] at X61 l61 y61 z61 st61 hQ61
  subst l61 y61 z61
  obtain ⟨rfl, Nq61, e61⟩ := hQ61
  have N62 := Fr.app N58 Nq61
  refine own_via st61 ?_
  show own_Go p e below _ (T61.setTop (mkF m 103 #[oI p0, oR a1, oI (0 : Int32), oI (0 : Int32), oI (0 : Int32), oI (0 : Int32), oI (0 : Int32), oI (0 : Int32), oI (0 : Int32), oI (0 : Int32), .unset, .unset] [(.int (f3 p0 (8 : Int32))), (.ref a1)]))
  obtain ⟨cq63, kq63, qa63, qb63, qc63⟩ := isOf hZ e61 E59
  obtain ⟨_, _, ⟨T63, L63, k63, n63⟩, -, X63, ⟨Lc63, hQ63, l63, y63, z63⟩, st63⟩ := X61.virtualBack hx (y := (⟨"com/example/quiescence/quiescence/ioco/Walks", "endsBefore", "(Z)Z"⟩ : MethodName)) (z := (⟨"com/example/quiescence/quiescence/ioco/Walks", "endsBefore", "(Z)Z"⟩ : MethodName)) hown (mvT hZ (own_w hw 17)) (mvT hZ (own_w hw 18)) (notFace_of_selects (args := #[]) (mvT hZ (own_w hw 20))) (mvT hZ (own_w hw 20)) (mvT hZ (own_w hw 19)) (by decide) (backOf (W := 0) (rm4b l Z a0 hw [] a1 (f3 p0 (8 : Int32)) 7 j7 T57.heap n0 Zs60 fr2 E59 Fs57 Fl57 Fa57 Fv57 (by decide) hj7) hZ (own_w hw 21) (own_w hw 2) (by decide) (by decide)) qa63 qc63 (g := (mkF m 103 #[oI p0, oR a1, oI (0 : Int32), oI (0 : Int32), oI (0 : Int32), oI (0 : Int32), oI (0 : Int32), oI (0 : Int32), oI (0 : Int32), oI (0 : Int32), .unset, .unset] [(.int (f3 p0 (8 : Int32))), (.ref a1)])) rfl (by rw [hml]; rfl) (Steps.refl _) (argsL := [(.int (f3 p0 (8 : Int32)))]) (rest := []) (lenOf pd_0_2 rfl) rfl (by show 2 * 0 + _ ≤ _; exact Nat.le_of_eq rfl) (hb hby at_103) (fun _ _ => ⟨rfl, e61, (by decide : 1 + 0 ≤ _), (by decide : 5 + 0 ≤ _)⟩)
  dsimp only [Pt.U, Pt.locs, Pt.cells, Pt.slots] at X63 l63 y63 z63 st63 hQ63
  subst l63 y63 z63
  obtain ⟨rfl, Nq63, Kc63, Fs63, Fl63, ⟨j8, hj8, Fa63⟩, Fv63⟩ := hQ63
  have N64 := Fr.app N62 Nq63
  refine own_tr st63 ?_
  have E65 := E59.keep Kc63
  have Zs66 : n0 ≤ T63.heap.size := Nat.le_trans Zs60 Kc63.1
  show own_Go p e below _ (T63.setTop (mkF m 106 #[oI p0, oR a1, oI (0 : Int32), oI (0 : Int32), oI (0 : Int32), oI (0 : Int32), oI (0 : Int32), oI (0 : Int32), oI (0 : Int32), oI (0 : Int32), .unset, .unset] [(.int (0 : Int32))]))
  refine own_via (fun t kz => XS.istore X63.here hx rfl (hb hby at_106) rfl (l' := #[oI p0, oR a1, oI (0 : Int32), oI (0 : Int32), oI (0 : Int32), oI (0 : Int32), oI (0 : Int32), oI (0 : Int32), oI (0 : Int32), oI (0 : Int32), oI (0 : Int32), .unset]) rfl kz) ?_
  show own_Go p e below _ (T63.setTop (mkF m 108 #[oI p0, oR a1, oI (0 : Int32), oI (0 : Int32), oI (0 : Int32), oI (0 : Int32), oI (0 : Int32), oI (0 : Int32), oI (0 : Int32), oI (0 : Int32), oI (0 : Int32), .unset] []))
  refine own_via (fun t kz => XS.aloadN X63.here hx rfl (hb hby at_108) rfl rfl kz) ?_
  show own_Go p e below _ (T63.setTop (mkF m 109 #[oI p0, oR a1, oI (0 : Int32), oI (0 : Int32), oI (0 : Int32), oI (0 : Int32), oI (0 : Int32), oI (0 : Int32), oI (0 : Int32), oI (0 : Int32), oI (0 : Int32), .unset] [(.ref a1)]))
  refine own_via (fun t kz => XS.iloadN X63.here hx rfl (hb hby at_109) rfl kz) ?_
  show own_Go p e below _ (T63.setTop (mkF m 110 #[oI p0, oR a1, oI (0 : Int32), oI (0 : Int32), oI (0 : Int32), oI (0 : Int32), oI (0 : Int32), oI (0 : Int32), oI (0 : Int32), oI (0 : Int32), oI (0 : Int32), .unset] [(.int p0), (.ref a1)]))
  refine own_via (fun t kz => XS.bipush X63.here hx rfl (hb hby at_110) kz) ?_
  show own_Go p e below _ (T63.setTop (mkF m 112 #[oI p0, oR a1, oI (0 : Int32), oI (0 : Int32), oI (0 : Int32), oI (0 : Int32), oI (0 : Int32), oI (0 : Int32), oI (0 : Int32), oI (0 : Int32), oI (0 : Int32), .unset] [(.int (9 : Int32)), (.int p0), (.ref a1)]))
  obtain ⟨_, _, ⟨T67, L67, k67, n67⟩, -, X67, ⟨Lc67, hQ67, l67, y67, z67⟩, st67⟩ := Jvm.LawKit.callS X63 hx (y := (⟨"com/example/quiescence/quiescence/ioco/WalksEndsBeforePinLaw", "bit", "(II)Z"⟩ : MethodName)) hown (mvT hZ (own_w hw 13)) (mvT hZ (own_w hw 14)) (mvT hZ (own_w hw 15)) (mvT hZ (own_w hw 16)) (by decide) (backOf (W := 1) (rm3 l Z a0 hw [] p0 (9 : Int32) (f3 p0 (9 : Int32)) T63.heap n0 Zs66 rfl) hZ (own_w hw 16) (own_w hw 15) (by decide) (by decide)) (g := (mkF m 112 #[oI p0, oR a1, oI (0 : Int32), oI (0 : Int32), oI (0 : Int32), oI (0 : Int32), oI (0 : Int32), oI (0 : Int32), oI (0 : Int32), oI (0 : Int32), oI (0 : Int32), .unset] [(.int (9 : Int32)), (.int p0), (.ref a1)])) rfl (by rw [hml]; rfl) (argsL := [(.int p0), (.int (9 : Int32))]) (rest := [(.ref a1)]) (lenOf pd_0_1 rfl) rfl (by show 2 * 0 + _ ≤ _; exact Nat.le_of_eq rfl) (hb hby at_112) (fun _ _ => ⟨rfl, rfl, (by decide : 1 + 0 ≤ _), (by decide : 5 + 0 ≤ _)⟩)
  dsimp only [Pt.U, Pt.locs, Pt.cells, Pt.slots] at X67 l67 y67 z67 st67 hQ67
  subst l67 y67 z67
  obtain ⟨rfl, Nq67, e67⟩ := hQ67
  have N68 := Fr.app N64 Nq67
  refine own_via st67 ?_
  show own_Go p e below _ (T67.setTop (mkF m 115 #[oI p0, oR a1, oI (0 : Int32), oI (0 : Int32), oI (0 : Int32), oI (0 : Int32), oI (0 : Int32), oI (0 : Int32), oI (0 : Int32), oI (0 : Int32), oI (0 : Int32), .unset] [(.int (f3 p0 (9 : Int32))), (.ref a1)]))
  obtain ⟨cq69, kq69, qa69, qb69, qc69⟩ := isOf hZ e67 E65
  obtain ⟨_, _, ⟨T69, L69, k69, n69⟩, -, X69, ⟨Lc69, hQ69, l69, y69, z69⟩, st69⟩ := X67.virtualBack hx (y := (⟨"com/example/quiescence/quiescence/ioco/Walks", "endsBefore", "(Z)Z"⟩ : MethodName)) (z := (⟨"com/example/quiescence/quiescence/ioco/Walks", "endsBefore", "(Z)Z"⟩ : MethodName)) hown (mvT hZ (own_w hw 17)) (mvT hZ (own_w hw 18)) (notFace_of_selects (args := #[]) (mvT hZ (own_w hw 20))) (mvT hZ (own_w hw 20)) (mvT hZ (own_w hw 19)) (by decide) (backOf (W := 0) (rm4b l Z a0 hw [] a1 (f3 p0 (9 : Int32)) 8 j8 T63.heap n0 Zs66 fr2 E65 Fs63 Fl63 Fa63 Fv63 (by decide) hj8) hZ (own_w hw 21) (own_w hw 2) (by decide) (by decide)) qa69 qc69 (g := (mkF m 115 #[oI p0, oR a1, oI (0 : Int32), oI (0 : Int32), oI (0 : Int32), oI (0 : Int32), oI (0 : Int32), oI (0 : Int32), oI (0 : Int32), oI (0 : Int32), oI (0 : Int32), .unset] [(.int (f3 p0 (9 : Int32))), (.ref a1)])) rfl (by rw [hml]; rfl) (Steps.refl _) (argsL := [(.int (f3 p0 (9 : Int32)))]) (rest := []) (lenOf pd_0_2 rfl) rfl (by show 2 * 0 + _ ≤ _; exact Nat.le_of_eq rfl) (hb hby at_115) (fun _ _ => ⟨rfl, e67, (by decide : 1 + 0 ≤ _), (by decide : 5 + 0 ≤ _)⟩)
  dsimp only [Pt.U, Pt.locs, Pt.cells, Pt.slots] at X69 l69 y69 z69 st69 hQ69
  subst l69 y69 z69
  obtain ⟨rfl, Nq69, Kc69, Fs69, Fl69, ⟨j9, hj9, Fa69⟩, Fv69⟩ := hQ69
  have N70 := Fr.app N68 Nq69
  refine own_tr st69 ?_
  have E71 := E65.keep Kc69
  have Zs72 : n0 ≤ T69.heap.size := Nat.le_trans Zs66 Kc69.1
  show own_Go p e below _ (T69.setTop (mkF m 118 #[oI p0, oR a1, oI (0 : Int32), oI (0 : Int32), oI (0 : Int32), oI (0 : Int32), oI (0 : Int32), oI (0 : Int32), oI (0 : Int32), oI (0 : Int32), oI (0 : Int32), .unset] [(.int (0 : Int32))]))
  refine own_via (fun t kz => XS.istore X69.here hx rfl (hb hby at_118) rfl (l' := #[oI p0, oR a1, oI (0 : Int32), oI (0 : Int32), oI (0 : Int32), oI (0 : Int32), oI (0 : Int32), oI (0 : Int32), oI (0 : Int32), oI (0 : Int32), oI (0 : Int32), oI (0 : Int32)]) rfl kz) ?_
  show own_Go p e below _ (T69.setTop (mkF m 120 #[oI p0, oR a1, oI (0 : Int32), oI (0 : Int32), oI (0 : Int32), oI (0 : Int32), oI (0 : Int32), oI (0 : Int32), oI (0 : Int32), oI (0 : Int32), oI (0 : Int32), oI (0 : Int32)] []))
  refine own_via (fun t kz => XS.iloadN X69.here hx rfl (hb hby at_120) rfl kz) ?_
  show own_Go p e below _ (T69.setTop (mkF m 121 #[oI p0, oR a1, oI (0 : Int32), oI (0 : Int32), oI (0 : Int32), oI (0 : Int32), oI (0 : Int32), oI (0 : Int32), oI (0 : Int32), oI (0 : Int32), oI (0 : Int32), oI (0 : Int32)] [(.int (0 : Int32))]))
  refine own_via (fun t kz => XS.ifNo X69.here hx rfl (hb hby at_121) rfl ((if0 _ _).trans (teq (by decide : (0 : Int32) = (0 : Int32))).2) kz) ?_
  show own_Go p e below _ (T69.setTop (mkF m 124 #[oI p0, oR a1, oI (0 : Int32), oI (0 : Int32), oI (0 : Int32), oI (0 : Int32), oI (0 : Int32), oI (0 : Int32), oI (0 : Int32), oI (0 : Int32), oI (0 : Int32), oI (0 : Int32)] []))
  refine own_via (fun t kz => XS.iloadN X69.here hx rfl (hb hby at_124) rfl kz) ?_
  show own_Go p e below _ (T69.setTop (mkF m 125 #[oI p0, oR a1, oI (0 : Int32), oI (0 : Int32), oI (0 : Int32), oI (0 : Int32), oI (0 : Int32), oI (0 : Int32), oI (0 : Int32), oI (0 : Int32), oI (0 : Int32), oI (0 : Int32)] [(.int (0 : Int32))]))
  refine own_via (fun t kz => XS.ifNo X69.here hx rfl (hb hby at_125) rfl ((if0 _ _).trans (teq (by decide : (0 : Int32) = (0 : Int32))).2) kz) ?_
  show own_Go p e below _ (T69.setTop (mkF m 128 #[oI p0, oR a1, oI (0 : Int32), oI (0 : Int32), oI (0 : Int32), oI (0 : Int32), oI (0 : Int32), oI (0 : Int32), oI (0 : Int32), oI (0 : Int32), oI (0 : Int32), oI (0 : Int32)] []))
  refine own_via (fun t kz => XS.iload X69.here hx rfl (hb hby at_128) rfl kz) ?_
  show own_Go p e below _ (T69.setTop (mkF m 130 #[oI p0, oR a1, oI (0 : Int32), oI (0 : Int32), oI (0 : Int32), oI (0 : Int32), oI (0 : Int32), oI (0 : Int32), oI (0 : Int32), oI (0 : Int32), oI (0 : Int32), oI (0 : Int32)] [(.int (0 : Int32))]))
  refine own_via (fun t kz => XS.ifNo X69.here hx rfl (hb hby at_130) rfl ((if0 _ _).trans (teq (by decide : (0 : Int32) = (0 : Int32))).2) kz) ?_
  show own_Go p e below _ (T69.setTop (mkF m 133 #[oI p0, oR a1, oI (0 : Int32), oI (0 : Int32), oI (0 : Int32), oI (0 : Int32), oI (0 : Int32), oI (0 : Int32), oI (0 : Int32), oI (0 : Int32), oI (0 : Int32), oI (0 : Int32)] []))
  refine own_via (fun t kz => XS.iload X69.here hx rfl (hb hby at_133) rfl kz) ?_
  show own_Go p e below _ (T69.setTop (mkF m 135 #[oI p0, oR a1, oI (0 : Int32), oI (0 : Int32), oI (0 : Int32), oI (0 : Int32), oI (0 : Int32), oI (0 : Int32), oI (0 : Int32), oI (0 : Int32), oI (0 : Int32), oI (0 : Int32)] [(.int (0 : Int32))]))
  refine own_via (fun t kz => XS.ifNo X69.here hx rfl (hb hby at_135) rfl ((if0 _ _).trans (teq (by decide : (0 : Int32) = (0 : Int32))).2) kz) ?_
  show own_Go p e below _ (T69.setTop (mkF m 138 #[oI p0, oR a1, oI (0 : Int32), oI (0 : Int32), oI (0 : Int32), oI (0 : Int32), oI (0 : Int32), oI (0 : Int32), oI (0 : Int32), oI (0 : Int32), oI (0 : Int32), oI (0 : Int32)] []))
  refine own_via (fun t kz => XS.iload X69.here hx rfl (hb hby at_138) rfl kz) ?_
  show own_Go p e below _ (T69.setTop (mkF m 140 #[oI p0, oR a1, oI (0 : Int32), oI (0 : Int32), oI (0 : Int32), oI (0 : Int32), oI (0 : Int32), oI (0 : Int32), oI (0 : Int32), oI (0 : Int32), oI (0 : Int32), oI (0 : Int32)] [(.int (0 : Int32))]))
  refine own_via (fun t kz => XS.ifNo X69.here hx rfl (hb hby at_140) rfl ((if0 _ _).trans (teq (by decide : (0 : Int32) = (0 : Int32))).2) kz) ?_
  show own_Go p e below _ (T69.setTop (mkF m 143 #[oI p0, oR a1, oI (0 : Int32), oI (0 : Int32), oI (0 : Int32), oI (0 : Int32), oI (0 : Int32), oI (0 : Int32), oI (0 : Int32), oI (0 : Int32), oI (0 : Int32), oI (0 : Int32)] []))
  refine own_via (fun t kz => XS.iload X69.here hx rfl (hb hby at_143) rfl kz) ?_
  show own_Go p e below _ (T69.setTop (mkF m 145 #[oI p0, oR a1, oI (0 : Int32), oI (0 : Int32), oI (0 : Int32), oI (0 : Int32), oI (0 : Int32), oI (0 : Int32), oI (0 : Int32), oI (0 : Int32), oI (0 : Int32), oI (0 : Int32)] [(.int (0 : Int32))]))
  refine own_via (fun t kz => XS.ifNo X69.here hx rfl (hb hby at_145) rfl ((if0 _ _).trans (teq (by decide : (0 : Int32) = (0 : Int32))).2) kz) ?_
  show own_Go p e below _ (T69.setTop (mkF m 148 #[oI p0, oR a1, oI (0 : Int32), oI (0 : Int32), oI (0 : Int32), oI (0 : Int32), oI (0 : Int32), oI (0 : Int32), oI (0 : Int32), oI (0 : Int32), oI (0 : Int32), oI (0 : Int32)] []))
  refine own_via (fun t kz => XS.iload X69.here hx rfl (hb hby at_148) rfl kz) ?_
  show own_Go p e below _ (T69.setTop (mkF m 150 #[oI p0, oR a1, oI (0 : Int32), oI (0 : Int32), oI (0 : Int32), oI (0 : Int32), oI (0 : Int32), oI (0 : Int32), oI (0 : Int32), oI (0 : Int32), oI (0 : Int32), oI (0 : Int32)] [(.int (0 : Int32))]))
  refine own_via (fun t kz => XS.ifNo X69.here hx rfl (hb hby at_150) rfl ((if0 _ _).trans (teq (by decide : (0 : Int32) = (0 : Int32))).2) kz) ?_
  show own_Go p e below _ (T69.setTop (mkF m 153 #[oI p0, oR a1, oI (0 : Int32), oI (0 : Int32), oI (0 : Int32), oI (0 : Int32), oI (0 : Int32), oI (0 : Int32), oI (0 : Int32), oI (0 : Int32), oI (0 : Int32), oI (0 : Int32)] []))
  refine own_via (fun t kz => XS.iload X69.here hx rfl (hb hby at_153) rfl kz) ?_
  show own_Go p e below _ (T69.setTop (mkF m 155 #[oI p0, oR a1, oI (0 : Int32), oI (0 : Int32), oI (0 : Int32), oI (0 : Int32), oI (0 : Int32), oI (0 : Int32), oI (0 : Int32), oI (0 : Int32), oI (0 : Int32), oI (0 : Int32)] [(.int (0 : Int32))]))
  refine own_via (fun t kz => XS.ifNo X69.here hx rfl (hb hby at_155) rfl ((if0 _ _).trans (teq (by decide : (0 : Int32) = (0 : Int32))).2) kz) ?_
  show own_Go p e below _ (T69.setTop (mkF m 158 #[oI p0, oR a1, oI (0 : Int32), oI (0 : Int32), oI (0 : Int32), oI (0 : Int32), oI (0 : Int32), oI (0 : Int32), oI (0 : Int32), oI (0 : Int32), oI (0 : Int32), oI (0 : Int32)] []))
  refine own_via (fun t kz => XS.iload X69.here hx rfl (hb hby at_158) rfl kz) ?_
  show own_Go p e below _ (T69.setTop (mkF m 160 #[oI p0, oR a1, oI (0 : Int32), oI (0 : Int32), oI (0 : Int32), oI (0 : Int32), oI (0 : Int32), oI (0 : Int32), oI (0 : Int32), oI (0 : Int32), oI (0 : Int32), oI (0 : Int32)] [(.int (0 : Int32))]))
  refine own_via (fun t kz => XS.ifNo X69.here hx rfl (hb hby at_160) rfl ((if0 _ _).trans (teq (by decide : (0 : Int32) = (0 : Int32))).2) kz) ?_
  show own_Go p e below _ (T69.setTop (mkF m 163 #[oI p0, oR a1, oI (0 : Int32), oI (0 : Int32), oI (0 : Int32), oI (0 : Int32), oI (0 : Int32), oI (0 : Int32), oI (0 : Int32), oI (0 : Int32), oI (0 : Int32), oI (0 : Int32)] []))
  refine own_via (fun t kz => XS.iload X69.here hx rfl (hb hby at_163) rfl kz) ?_
  show own_Go p e below _ (T69.setTop (mkF m 165 #[oI p0, oR a1, oI (0 : Int32), oI (0 : Int32), oI (0 : Int32), oI (0 : Int32), oI (0 : Int32), oI (0 : Int32), oI (0 : Int32), oI (0 : Int32), oI (0 : Int32), oI (0 : Int32)] [(.int (0 : Int32))]))
  refine own_via (fun t kz => XS.ifNo X69.here hx rfl (hb hby at_165) rfl ((if0 _ _).trans (teq (by decide : (0 : Int32) = (0 : Int32))).2) kz) ?_
  show own_Go p e below _ (T69.setTop (mkF m 168 #[oI p0, oR a1, oI (0 : Int32), oI (0 : Int32), oI (0 : Int32), oI (0 : Int32), oI (0 : Int32), oI (0 : Int32), oI (0 : Int32), oI (0 : Int32), oI (0 : Int32), oI (0 : Int32)] []))
  refine own_via (fun t kz => XS.iconst X69.here hx rfl (hb hby at_168) kz) ?_
  show own_Go p e below _ (T69.setTop (mkF m 169 #[oI p0, oR a1, oI (0 : Int32), oI (0 : Int32), oI (0 : Int32), oI (0 : Int32), oI (0 : Int32), oI (0 : Int32), oI (0 : Int32), oI (0 : Int32), oI (0 : Int32), oI (0 : Int32)] [(.int (1 : Int32))]))
  refine own_via (fun t kz => XS.goto X69.here hx rfl (pc0 := 169) (pc' := 173) rfl (hb hby at_169) (by decide) (by decide) kz) ?_
  show own_Go p e below _ (T69.setTop (mkF m 173 #[oI p0, oR a1, oI (0 : Int32), oI (0 : Int32), oI (0 : Int32), oI (0 : Int32), oI (0 : Int32), oI (0 : Int32), oI (0 : Int32), oI (0 : Int32), oI (0 : Int32), oI (0 : Int32)] [(.int (1 : Int32))]))
  obtain ⟨fs, hr, hrun, hended, hW, hsame⟩ := X69.leave (v := some (.int (1 : Int32))) (fun h => by rw [Bd.returns] at h; cases h)
  refine ⟨_, _, retN X69 hx (t := .boolean) Bd.returns (by simp) (hb hby at_173) hr, hrun, hended, _, _, rfl, ?_, ⟨_, rfl⟩, hW, hsame.mono (by decide) (by decide)⟩
  show Q0 Z p0 h0 n0 _ T69.heap _
  exact ⟨rfl, N70⟩
set_option maxRecDepth 65536 in
set_option maxHeartbeats 40000000 in
theorem comes_1 {Post : Tables → Env → Array Value → State → Outcome → State → Prop} (hpost : ∀ tb e args s v u, (limb_1_1.after args s (.returned v) u = true ∧ limb_1_2.after args s (.returned v) u = true ∧ True) → FrameEnd s (.returned v) u (Jvm.fieldLocs frame_1_writes args s ++ Jvm.arrayLocs frame_1_arrays args s ++ Jvm.staticLocs frame_1_statics s) 16 128 → Post tb e args s (.returned v) u) :
    ArmFor flags0 classFile x code maxLocals ret World_1 tables_1 room_1 Calls_1 rest_1 Pre_1 Post := by
  intro l hfl _ _ p e ha hc hk s m args below hf hA hF happ hP
  obtain ⟨hcalls, hrest, hpre⟩ := hP
  obtain ⟨-, -, -, hnamed, -, -, -, hat⟩ := (Spec.applies_iff hf).mp happ
  obtain ⟨hg, hn⟩ := and_e (Cond.before_iff.mp (show (Jvm.Cond.and given_1 narrow_1).before args s = true from hpre))
  obtain ⟨g1, g2⟩ := and_e hg
  obtain ⟨w0, rfl⟩ : ∃ w0 : Value, args = #[w0] := by
    have hs : args.size = 1 := by simpa [Cond.value, given_1] using g1
    obtain ⟨L⟩ := args
    match L, hs with
    | [w0], _ => exact ⟨w0, rfl⟩
  have hw := fun d (hd : d ∈ tables_1) => atoms_spec (ws := Jvm.Cond.code x code maxLocals ret :: tables_1) hat d (List.mem_cons_of_mem _ hd)
  obtain ⟨i0, ei0⟩ := is_v g2
  obtain rfl : w0 = (.int i0) := Option.some.inj ei0
  obtain ⟨n, o, h1, h2, h3, _, L, rfl, ⟨rfl, N⟩, hq⟩ := rm0 l s _ hw tables_1 i0 s.heap s.heap.size (Nat.le_refl _)  p e ha hc hk s m _ below hf ((Spec.applies_iff_loose hf).mp happ).1 ⟨rfl, State.Warmed39.refl s, rfl⟩ trivial
  refine ⟨n, _, h1, h2, h3, hpost _ _ _ _ _ _ ⟨Cond.after_iff.mpr rfl, Cond.after_iff.mpr (eq_i res_at (Term.int_eval (1)) rfl), trivial⟩ ⟨hq.1, hq.2.1, (hq.2.2.sift fun y hy => Or.inr (N y hy)).mono (by decide) (by decide)⟩⟩
theorem main_1_1 : Claimed_1_1 := comes_1 fun _ _ _ _ _ _ h hF => ⟨h.1, hF⟩
theorem main_1_2 : Claimed_1_2 := comes_1 fun _ _ _ _ _ _ h hF => ⟨h.2.1, hF⟩
end Jvm.Pilot.@@N@@
namespace Jvm.Pilot.@@N@@
open Jvm Jvm.ClassFile Sem Op Lib Jvm.Free Jvm.Stand Jvm.Pilot.@@N@@.Jvm.D
/-! MADE BY PROGRAM (witnessworld.py) out of the Statement's table words and the real class files: 9 classes; the members and pool entries that the words name. The judged class is class 1, her method 2. -/
namespace start1
open Jvm.ClassFile
def u (s : String) : CpInfo := .utf8 (stringToUtf16 s)
/-- a pool by its gaps: so many unusable entries, then the entry; so many at the end -/
def gap : Nat → List CpInfo → List CpInfo
  | 0, r => r
  | n + 1, r => .unusable :: gap n r
def poolList (es : List (Nat × CpInfo)) (last : Nat) : List CpInfo := es.foldr (fun e r => gap e.1 (e.2 :: r)) (gap last [])
def pool (es : List (Nat × CpInfo)) (last : Nat) : Array CpInfo := ⟨poolList es last⟩
def fileOf (pool : Array CpInfo) (this : Nat) (attrs : Array Attribute := #[]) (ms : Array MethodInfo := #[]) (fl : Nat := 33) (sup : Nat := 0) (ifs : Array Nat := #[]) (fds : Array FieldInfo := #[]) : ClassFile where
  minorVersion := 0
  majorVersion := 65
  constantPool := pool
  accessFlags := fl
  thisClass := this
  superClass := sup
  interfaces := ifs
  fields := fds
  methods := ms
  attributes := attrs
def plain (name : String) (sup : Option ClassId) : Class where
  name := name
  kind := .ordinary
  loader := none
  accessFlags := 33
  super := sup
  interfaces := #[]
  cf := none
  fields := #[]
  methods := #[]
  instanceTypes := #[]
  staticTypes := #[]
  resolved := #[]
  callSites := []
  init := .initialized
  statics := none
  mirror := none

def pool0 : Array CpInfo := pool [(5, u "<init>"), (0, u "()V"), (1, .class_ 10), (1, u "java/lang/Object")] 113

def k0c0 : Code := { maxStack := 0, maxLocals := 1, code := object_method_1_code, exceptionTable := #[], attributes := #[] }
def k0m0 : Method := { name := "<init>", desc := "()V", sig := { parameters := [], returnType := none }, accessFlags := 1, code := some k0c0 }
/-- java/lang/Object -/
def k0 : Class := { plain "java/lang/Object" none with
  accessFlags := 33
  interfaces := #[]
  cf := some (fileOf pool0 8 #[] #[{ accessFlags := 1, nameIndex := 5, descriptorIndex := 6, attributes := #[] }] 33 0 #[] #[])
  fields := #[]
  methods := #[k0m0]
  instanceTypes := #[]
  staticTypes := #[]
  resolved := Array.replicate 124 none
  statics := none }

def pool1 : Array CpInfo := pool [(2, .class_ 4), (0, .nameAndType 5 6), (0, u "java/lang/Object"), (0, u "<init>"), (0, u "()V"), (0, .class_ 8), (0, u "com/example/quiescence/quiescence/ioco/Walks"), (0, .methodref 7 3), (0, .methodref 11 12), (0, .class_ 13), (0, .nameAndType 14 15), (0, u "com/example/quiescence/quiescence/ioco/WalksEndsBeforePinLaw"), (0, u "bit"), (0, u "(II)Z"), (0, .methodref 7 17), (0, .nameAndType 18 19), (0, u "endsBefore"), (0, u "(Z)Z"), (3, u "law"), (0, u "(I)Z")] 2

def k1m0 : Method := { name := "<init>", desc := "()V", sig := { parameters := [], returnType := none }, accessFlags := 2, code := none }
def k1c1 : Code := { maxStack := 2, maxLocals := 2, code := method_2_code, exceptionTable := #[], attributes := #[] }
def k1m1 : Method := { name := "bit", desc := "(II)Z", sig := { parameters := [.int, .int], returnType := some .boolean }, accessFlags := 10, code := some k1c1 }
def k1c2 : Code := { maxStack := 3, maxLocals := 12, code := code, exceptionTable := #[], attributes := #[] }
def k1m2 : Method := { name := "law", desc := "(I)Z", sig := { parameters := [.int], returnType := some .boolean }, accessFlags := 9, code := some k1c2 }
/-- com/example/quiescence/quiescence/ioco/WalksEndsBeforePinLaw -/
def k1 : Class := { plain "com/example/quiescence/quiescence/ioco/WalksEndsBeforePinLaw" (some 0) with
  accessFlags := 49
  interfaces := #[]
  cf := some (fileOf pool1 11 #[] #[{ accessFlags := 2, nameIndex := 5, descriptorIndex := 6, attributes := #[] }, { accessFlags := 10, nameIndex := 14, descriptorIndex := 15, attributes := #[] }, { accessFlags := 9, nameIndex := 23, descriptorIndex := 24, attributes := #[] }] 49 2 #[] #[])
  fields := #[]
  methods := #[k1m0, k1m1, k1m2]
  instanceTypes := #[]
  staticTypes := #[]
  resolved := Array.replicate 27 none
  statics := none }

def pool2 : Array CpInfo := pool [(1, .methodref 2 3), (0, .class_ 4), (0, .nameAndType 5 6), (0, u "java/lang/Object"), (0, u "<init>"), (0, u "()V"), (0, .fieldref 8 9), (0, .class_ 10), (0, .nameAndType 11 12), (0, u "com/example/quiescence/quiescence/ioco/Walks"), (0, u "u"), (0, u "J"), (0, .fieldref 8 14), (0, .nameAndType 15 12), (0, u "v"), (0, .fieldref 8 17), (0, .nameAndType 18 19), (0, u "started"), (0, u "Z"), (0, .fieldref 8 21), (0, .nameAndType 22 12), (0, u "labels"), (0, .fieldref 8 24), (0, .nameAndType 25 12), (0, u "astray"), (0, .long 64), (1, .long 32), (1, .long 2), (1, u "UNIT"), (0, u "I"), (2, u "ANYWHERE"), (3, u "endsBefore"), (0, u "(Z)Z")] 3

def k2c0 : Code := { maxStack := 3, maxLocals := 1, code := prog_52_method_1_code, exceptionTable := #[], attributes := #[] }
def k2m0 : Method := { name := "<init>", desc := "()V", sig := { parameters := [], returnType := none }, accessFlags := 0, code := some k2c0 }
def k2c1 : Code := { maxStack := 6, maxLocals := 5, code := prog_52_method_2_code, exceptionTable := #[], attributes := #[] }
def k2m1 : Method := { name := "endsBefore", desc := "(Z)Z", sig := { parameters := [.boolean], returnType := some .boolean }, accessFlags := 0, code := some k2c1 }
/-- com/example/quiescence/quiescence/ioco/Walks -/
def k2 : Class := { plain "com/example/quiescence/quiescence/ioco/Walks" (some 0) with
  accessFlags := 48
  interfaces := #[]
  cf := some (fileOf pool2 8 #[] #[{ accessFlags := 0, nameIndex := 5, descriptorIndex := 6, attributes := #[] }, { accessFlags := 0, nameIndex := 40, descriptorIndex := 41, attributes := #[] }] 48 2 #[] #[{ accessFlags := 24, nameIndex := 32, descriptorIndex := 33, attributes := #[] }, { accessFlags := 24, nameIndex := 36, descriptorIndex := 33, attributes := #[] }, { accessFlags := 2, nameIndex := 11, descriptorIndex := 12, attributes := #[] }, { accessFlags := 2, nameIndex := 15, descriptorIndex := 12, attributes := #[] }, { accessFlags := 2, nameIndex := 18, descriptorIndex := 19, attributes := #[] }, { accessFlags := 2, nameIndex := 22, descriptorIndex := 12, attributes := #[] }, { accessFlags := 2, nameIndex := 25, descriptorIndex := 12, attributes := #[] }])
  fields := #[{ name := "UNIT", type := .int, accessFlags := 24, slot := 0, constantValue := 0 }, { name := "ANYWHERE", type := .int, accessFlags := 24, slot := 1, constantValue := 0 }, { name := "u", type := .long, accessFlags := 2, slot := 0, constantValue := 0 }, { name := "v", type := .long, accessFlags := 2, slot := 1, constantValue := 0 }, { name := "started", type := .boolean, accessFlags := 2, slot := 2, constantValue := 0 }, { name := "labels", type := .long, accessFlags := 2, slot := 3, constantValue := 0 }, { name := "astray", type := .long, accessFlags := 2, slot := 4, constantValue := 0 }]
  methods := #[k2m0, k2m1]
  instanceTypes := #[.long, .long, .boolean, .long, .long]
  staticTypes := #[.int, .int]
  resolved := Array.replicate 45 none
  statics := none }

def pool3 : Array CpInfo := pool [(1, u "java/lang/Cloneable"), (0, .class_ 1), (0, u "java/lang/Object"), (0, .class_ 3)] 3

/-- java/lang/Cloneable -/
def k3 : Class := { plain "java/lang/Cloneable" (some 0) with
  accessFlags := 1537
  interfaces := #[]
  cf := some (fileOf pool3 2 #[] #[] 1537 4 #[] #[])
  fields := #[]
  methods := #[]
  instanceTypes := #[]
  staticTypes := #[]
  resolved := Array.replicate 8 none
  statics := none }

def pool4 : Array CpInfo := pool [(1, u "java/io/Serializable"), (0, .class_ 1), (0, u "java/lang/Object"), (0, .class_ 3)] 3

/-- java/io/Serializable -/
def k4 : Class := { plain "java/io/Serializable" (some 0) with
  accessFlags := 1537
  interfaces := #[]
  cf := some (fileOf pool4 2 #[] #[] 1537 4 #[] #[])
  fields := #[]
  methods := #[]
  instanceTypes := #[]
  staticTypes := #[]
  resolved := Array.replicate 8 none
  statics := none }

/-- the primitive byte -/
def k5 : Class := { plain "byte" none with kind := .primitive 'B', accessFlags := 0x411 }
/-- [B -/
def k6 : Class := { plain "[B" (some 0) with kind := .array 5 .byte, interfaces := #[3, 4], accessFlags := 1041 }

/-- the primitive int -/
def k7 : Class := { plain "int" none with kind := .primitive 'I', accessFlags := 0x411 }
/-- [I -/
def k8 : Class := { plain "[I" (some 0) with kind := .array 7 .int, interfaces := #[3, 4], accessFlags := 1041 }

def heap : Heap := #[]
def classes : Array Class := #[k0, k1, k2, k3, k4, k5, k6, k7, k8]
def interned : List (Array UInt16 × Addr) := []
def slotsUsed : Nat := 0
def theMethod : MethodId := ⟨1, 2⟩
def args0 : Array Value := #[.int 5]
def aboutOver (below : List Frame) : State where
  vm := { classes := classes, interned := interned.toArray }
  heap := heap
  slotsUsed := slotsUsed
  threads := #[{ frames := .invoking theMethod args0 :: below }]
def below0 : List Frame := [.native { method := ⟨0, 0⟩, args := #[] }]
def about1 : State := aboutOver below0
def p0 : Program := .bare "" "" ""
def e0 : Env := launch0.env 0 0 0
theorem w_frames : about1.frames = Frame.invoking theMethod args0 :: below0 := rfl
set_option maxRecDepth 65536 in
theorem w_args : argsFit about1.vm theMethod args0 = true := by decide +kernel
set_option maxRecDepth 65536 in
theorem w_heap : heapFits about1 = true := by decide +kernel
set_option maxRecDepth 65536 in
theorem w_runnable : about1.curStatus? = some .runnable := by decide +kernel
set_option maxRecDepth 65536 in
theorem w_alone : about1.alone = true := by decide +kernel
set_option maxRecDepth 65536 in
theorem w_named : about1.methodNamed? x = some theMethod := by decide +kernel
set_option maxRecDepth 65536 in
theorem w_hears : about1.hears theMethod below0 = true := by decide +kernel
set_option maxRecDepth 65536 in
theorem w_ripe : about1.ripe theMethod args0 below0 = true := by decide +kernel
theorem w_running : about1.status = .running := rfl
set_option maxRecDepth 65536 in
theorem w_room : about1.hasRoom e0.platform room_1 = true :=
  launch0.hasRoom_least _ room_1 (by decide +kernel) (by decide +kernel) (by decide +kernel) (by decide +kernel) (by decide +kernel) (by decide +kernel)
theorem allAtoms_all (ts : List Jvm.Cond) (a : Array Jvm.Value) (st : Jvm.State) : (allAtoms ts).before a st = ts.all (fun c => c.before a st) := by
  induction ts with
  | nil => rfl
  | cons c t ih =>
    show (Jvm.Cond.and c (allAtoms t)).before a st = _
    rw [Jvm.Cond.before_and, ih, List.all_cons]
def words1 : List Jvm.Cond := Jvm.Cond.code x code maxLocals ret :: tables_1
/-- a 'code' word, met by the world's own term for the bytes: nothing is compared byte by byte -/
theorem code_word {y : MethodName} {bytes : ByteArray} {mx : Nat} {rt : Option FieldType} {a : Array Value} {s : State} {m : MethodId} {meth : Method} {c : Code} (h1 : s.methodNamed? y = some m) (h2 : s.vm.method? m = some meth) (h3 : meth.code = some c) (h4 : c.code = bytes)
    (h5 : (c.maxLocals == mx && c.exceptionTable.isEmpty && decide (c.maxStack ≤ mostOperands) && decide (meth.sig.returnType = rt) && !meth.locks && decide (parseMethodDescriptor y.desc = some meth.sig)) = true) : (Jvm.Cond.code y bytes mx rt).before a s = true := by
  simp only [Bool.and_eq_true, beq_iff_eq, Bool.not_eq_true', decide_eq_true_eq] at h5
  obtain ⟨⟨⟨⟨⟨g1, g2⟩, g3⟩, g4⟩, g5⟩, g6⟩ := h5
  simp [Cond.before, Cond.holds, Cond.value, h1, h2, h3, h4, g1, g2, g3, g4, g5, g6]
def isCode : Jvm.Cond → Bool
  | .code _ _ _ _ => true
  | _ => false
theorem all_split {L : List Jvm.Cond} {P : Jvm.Cond → Bool} (h1 : L.all (fun c => isCode c || P c) = true) (h2 : ∀ c ∈ L.filter isCode, P c = true) : L.all P = true := by
  refine List.all_eq_true.mpr fun c hc => ?_
  have h := List.all_eq_true.mp h1 c hc
  rcases Bool.eq_false_or_eq_true (isCode c) with hi | hi
  · exact h2 c (List.mem_filter.mpr ⟨hc, hi⟩)
  · simpa [hi] using h
set_option maxRecDepth 65536 in
theorem w_c0 : (Jvm.Cond.code x code maxLocals ret).before args0 about1 = true := code_word (m := ⟨1, 2⟩) (meth := k1m2) (c := k1c2) (by decide +kernel) rfl rfl rfl (by decide +kernel)
set_option maxRecDepth 65536 in
theorem w_c1 : (Jvm.Cond.code ({ cls := "com/example/quiescence/quiescence/ioco/Walks", name := "<init>", desc := "()V" } : Jvm.MethodName) prog_52_method_1_code (1 : Nat) (Option.none : Option Jvm.ClassFile.FieldType)).before args0 about1 = true := code_word (m := ⟨2, 0⟩) (meth := k2m0) (c := k2c0) (by decide +kernel) rfl rfl rfl (by decide +kernel)
set_option maxRecDepth 65536 in
theorem w_c2 : (Jvm.Cond.code ({ cls := "java/lang/Object", name := "<init>", desc := "()V" } : Jvm.MethodName) object_method_1_code (1 : Nat) (Option.none : Option Jvm.ClassFile.FieldType)).before args0 about1 = true := code_word (m := ⟨0, 0⟩) (meth := k0m0) (c := k0c0) (by decide +kernel) rfl rfl rfl (by decide +kernel)
set_option maxRecDepth 65536 in
theorem w_c3 : (Jvm.Cond.code ({ cls := "com/example/quiescence/quiescence/ioco/WalksEndsBeforePinLaw", name := "bit", desc := "(II)Z" } : Jvm.MethodName) method_2_code (2 : Nat) (Option.some Jvm.ClassFile.FieldType.boolean)).before args0 about1 = true := code_word (m := ⟨1, 1⟩) (meth := k1m1) (c := k1c1) (by decide +kernel) rfl rfl rfl (by decide +kernel)
set_option maxRecDepth 65536 in
theorem w_c4 : (Jvm.Cond.code ({ cls := "com/example/quiescence/quiescence/ioco/Walks", name := "endsBefore", desc := "(Z)Z" } : Jvm.MethodName) prog_52_method_2_code (5 : Nat) (Option.some Jvm.ClassFile.FieldType.boolean)).before args0 about1 = true := code_word (m := ⟨2, 1⟩) (meth := k2m1) (c := k2c1) (by decide +kernel) rfl rfl rfl (by decide +kernel)
def codes1 : List Jvm.Cond := [Jvm.Cond.code x code maxLocals ret, Jvm.Cond.code ({ cls := "com/example/quiescence/quiescence/ioco/Walks", name := "<init>", desc := "()V" } : Jvm.MethodName) prog_52_method_1_code (1 : Nat) (Option.none : Option Jvm.ClassFile.FieldType), Jvm.Cond.code ({ cls := "java/lang/Object", name := "<init>", desc := "()V" } : Jvm.MethodName) object_method_1_code (1 : Nat) (Option.none : Option Jvm.ClassFile.FieldType), Jvm.Cond.code ({ cls := "com/example/quiescence/quiescence/ioco/WalksEndsBeforePinLaw", name := "bit", desc := "(II)Z" } : Jvm.MethodName) method_2_code (2 : Nat) (Option.some Jvm.ClassFile.FieldType.boolean), Jvm.Cond.code ({ cls := "com/example/quiescence/quiescence/ioco/Walks", name := "endsBefore", desc := "(Z)Z" } : Jvm.MethodName) prog_52_method_2_code (5 : Nat) (Option.some Jvm.ClassFile.FieldType.boolean)]
set_option maxRecDepth 65536 in
theorem codes_eq : words1.filter isCode = codes1 := rfl
theorem w_codes : ∀ c ∈ words1.filter isCode, c.before args0 about1 = true := by
  rw [codes_eq]
  intro c hc
  simp only [codes1, List.mem_cons, List.not_mem_nil, or_false] at hc
  rcases hc with rfl | rfl | rfl | rfl | rfl
  · exact w_c0
  · exact w_c1
  · exact w_c2
  · exact w_c3
  · exact w_c4
set_option maxRecDepth 65536 in
theorem w_t1 : (words1.take 24).all (fun c => isCode c || c.before args0 about1) = true := by decide +kernel
set_option maxRecDepth 65536 in
theorem w_t2 : (words1.drop 24).all (fun c => isCode c || c.before args0 about1) = true := by decide +kernel
theorem w_tables : (allAtoms (Jvm.Cond.code x code maxLocals ret :: tables_1)).before args0 about1 = true := by
  rw [allAtoms_all]
  show words1.all (fun c => c.before args0 about1) = true
  refine all_split ?_ w_codes
  rw [← List.take_append_drop 24 words1, List.all_append, w_t1, w_t2]
  rfl
set_option maxRecDepth 65536 in
theorem w_case : (Jvm.Cond.and given_1 narrow_1).before args0 about1 = true := by decide +kernel
theorem w_applies : (headSpec (Jvm.Cond.code x code maxLocals ret :: tables_1) room_1).applies x e0.platform about1 = true :=
  (Spec.applies_iff w_frames).mpr ⟨w_running, w_runnable, w_alone, w_named, w_hears, w_ripe, w_room, w_tables⟩
theorem atStart : AtStart classFile x code maxLocals ret World_1 tables_1 room_1 Calls_1 rest_1 Pre_1 launch0 p0 e0 about1 theMethod args0 below0 :=
  ⟨lists_1, trivial, launch0.admits_env _ _ _, launch0.least_env, fairChoices_fair.cas, fairChoices_fair.clock, w_frames, w_args, w_heap, w_applies, trivial, trivial, w_case⟩
end start1
theorem witness_1 : WitnessClaimed_1 := ⟨start1.p0, start1.e0, start1.about1, start1.theMethod, start1.args0, start1.below0, start1.atStart⟩
end Jvm.Pilot.@@N@@
