import JvmDerived
import JvmDerived.Pilot.@@N@@Statement
import JvmDerived.Pilot.@@N@@Code
set_option linter.unusedVariables false
set_option linter.unusedSimpArgs false
namespace Jvm.RoadKit
open Sem ClassFile Op Lib Jvm.Stand Jvm.Free Jvm.LawKit
section New
variable {p : Program} {l : Launch} {e : Env} {R : Room} {s : State} {m : MethodId} {args : Array Value} {below : List Frame} {meth : Method} {c : Code} {T : State} {locs : List Loc} {cells slots : Nat}
theorem retI (X : Stand p l e R s m args below meth c T locs cells slots) (hx : p.tables.exec = Jvm.exec) {pc : Nat} {Ls : Array Slot} {z : Int32} {rest : List Value} (hret : meth.sig.returnType = some .int) (hd : decode c.code pc = .ok (.ireturn, 1)) {fs : List Frame}
    (hl : ∀ (f : JFrame) (acts : List Action), f.method = m → f.locked = none → f.entered = [] → (doReturn e (T.setTop f) acts (some (.int z))).1 = T.setFrames fs) : Steps p.tables e below (T.setTop (mkF m pc Ls (.int z :: rest))) (T.setFrames fs) := by
  have hm' : T.vm.method? m = some meth := X.method'
  have hn : narrow .int (.int z) = .int z := rfl
  show Steps p.tables e below (T.setTop { method := m, pc := pc, locals := Ls, stack := _ :: rest, locked := none }) _
  jvm_step X.here [X.here.top, hx, hd, hm', hret, hn]
  first | (intro acts; rw [hl _ acts rfl rfl rfl]) | rw [hl _ _ rfl rfl rfl]
  exact Steps.refl _
end New
end Jvm.RoadKit
namespace Jvm.Pilot.@@N@@
open Jvm Jvm.ClassFile Sem Op Lib Jvm.Free Jvm.Stand Jvm.LawKit Jvm.RoadKit Bundle Jvm.Pilot.@@N@@.Jvm.D
theorem own_w {a0 : Array Value} {Z : State} (hw : ∀ d ∈ tables_1, d.before a0 Z = true) (k : Nat) {d : Jvm.Cond} (h : tables_1[k]? = some d := by rfl) : d.before a0 Z = true := hw _ (List.mem_of_getElem? h)
abbrev oI (x : Int32) : Slot := .val (.int x)
abbrev oR (a : Addr) : Slot := .val (.ref a)
abbrev oJ (x : Int64) : Slot := .val (.long x)
abbrev oD (x : UInt64) : Slot := .val (.double x)
/-- from the state A the run comes to an end of which Q holds -/
def own_Go (p : Program) (e : Env) (below : List Frame) (Q : Outcome → State → Prop) (A : State) : Prop := ∃ s₂ o, Steps p.tables e below A s₂ ∧ s₂.status = .running ∧ Ended s₂ below o ∧ Q o s₂
theorem own_via {p : Program} {e : Env} {below : List Frame} {Q : Outcome → State → Prop} {A B : State} (h : ∀ t, Steps p.tables e below B t → Steps p.tables e below A t) (g : own_Go p e below Q B) : own_Go p e below Q A := by
  obtain ⟨s₂, o, h1, h2⟩ := g
  exact ⟨s₂, o, h _ h1, h2⟩
theorem own_tr {p : Program} {e : Env} {below : List Frame} {Q : Outcome → State → Prop} {A B : State} (h : Steps p.tables e below A B) (g : own_Go p e below Q B) : own_Go p e below Q A := by
  obtain ⟨s₂, o, h1, h2⟩ := g
  exact ⟨s₂, o, h.trans h1, h2⟩
/-- from the state A the run comes to a state B of which Φ holds -/
def own_Pc (p : Program) (e : Env) (below : List Frame) (Φ : State → Prop) (A : State) : Prop := ∃ B, (∀ t, Steps p.tables e below B t → Steps p.tables e below A t) ∧ Φ B
theorem own_pvia {p : Program} {e : Env} {below : List Frame} {Φ : State → Prop} {A B : State} (h : ∀ t, Steps p.tables e below B t → Steps p.tables e below A t) (g : own_Pc p e below Φ B) : own_Pc p e below Φ A := by
  obtain ⟨B', h1, h2⟩ := g
  exact ⟨B', fun t k => h t (h1 t k), h2⟩
theorem own_ptr {p : Program} {e : Env} {below : List Frame} {Φ : State → Prop} {A B : State} (h : Steps p.tables e below A B) (g : own_Pc p e below Φ B) : own_Pc p e below Φ A := own_pvia (fun t k => h.trans k) g
theorem own_start {p : Program} {e : Env} {below : List Frame} {Q : Outcome → State → Prop} {A : State} (h : own_Go p e below Q A) : ∃ s₂ o, Steps p.tables e below A s₂ ∧ s₂.status = .running ∧ Ended s₂ below o ∧ Q o s₂ := h
theorem d1_0 : decode prog_9_method_1_code 0 = .ok (.aload_n 0, 1) := by decide +kernel
theorem d1_1 : decode prog_9_method_1_code 1 = .ok (.invokespecial 3, 3) := by decide +kernel
theorem d1_4 : decode prog_9_method_1_code 4 = .ok (.aload_n 0, 1) := by decide +kernel
theorem d1_5 : decode prog_9_method_1_code 5 = .ok (.ldc 11, 2) := by decide +kernel
theorem d1_7 : decode prog_9_method_1_code 7 = .ok (.putfield 12, 3) := by decide +kernel
theorem d1_10 : decode prog_9_method_1_code 10 = .ok (.aload_n 0, 1) := by decide +kernel
theorem d1_11 : decode prog_9_method_1_code 11 = .ok (.aconst_null, 1) := by decide +kernel
theorem d1_12 : decode prog_9_method_1_code 12 = .ok (.putfield 16, 3) := by decide +kernel
theorem d1_15 : decode prog_9_method_1_code 15 = .ok (.aload_n 0, 1) := by decide +kernel
theorem d1_16 : decode prog_9_method_1_code 16 = .ok (.aconst_null, 1) := by decide +kernel
theorem d1_17 : decode prog_9_method_1_code 17 = .ok (.putfield 20, 3) := by decide +kernel
theorem d1_20 : decode prog_9_method_1_code 20 = .ok (.aload_n 0, 1) := by decide +kernel
theorem d1_21 : decode prog_9_method_1_code 21 = .ok (.iload_n 1, 1) := by decide +kernel
theorem d1_22 : decode prog_9_method_1_code 22 = .ok (.putfield 23, 3) := by decide +kernel
theorem d1_25 : decode prog_9_method_1_code 25 = .ok (.return_, 1) := by decide +kernel
theorem pn_1 : plainName "com/example/ashlar/ashlar/analysis/Bdd" = true := by first | (simp [plainName, overriddenIn]; done) | decide +kernel
theorem ef_rm1 (m : MethodId) (q0 : Addr) (q1 : Int32) : entryFrame m #[(.ref q0), (.int q1)] 2 = mkF m 0 #[oR q0, oI q1] [] := by first | (simp [entryFrame, mkF, argsToLocals, Value.category]; done) | rfl
def Q1 (Z : State) (this : Addr) (p1 : Int32) (h0 : Heap) (n0 : Nat) (v : Option Value) (h : Heap) (L : List Loc) : Prop := v = none ∧ Fr n0 L ∧ Keep h0 h [this] ∧ Fld Z h this "com/example/ashlar/ashlar/analysis/Bdd" "variable" "I" (.int (2147483647 : Int32))
set_option maxRecDepth 65536 in
set_option maxHeartbeats 40000000 in
theorem rm1 (l : Launch) (Z : State) (a0 : Array Value) (hw : ∀ d ∈ tables_1, d.before a0 Z = true) (ws : List Jvm.Cond) (this : Addr) (p1 : Int32) (h0 : Heap) (n0 : Nat) (Z0 : n0 ≤ h0.size) (g_this : n0 ≤ this) (E_this : Exa Z h0 this "com/example/ashlar/ashlar/analysis/Bdd") (F_variable : Fld Z h0 this "com/example/ashlar/ashlar/analysis/Bdd" "variable" "I" (.int (0 : Int32))) (F_low : Fld Z h0 this "com/example/ashlar/ashlar/analysis/Bdd" "low" "Lcom/example/ashlar/ashlar/analysis/Bdd;" .null) (F_high : Fld Z h0 this "com/example/ashlar/ashlar/analysis/Bdd" "high" "Lcom/example/ashlar/ashlar/analysis/Bdd;" .null) (F_value : Fld Z h0 this "com/example/ashlar/ashlar/analysis/Bdd" "value" "Z" (.int (0 : Int32))) (hn1 : narrow .boolean (.int p1) = .int p1) (hf1 : fits .boolean (.int p1) = true) :
    MetFree l (⟨"com/example/ashlar/ashlar/analysis/Bdd", "<init>", "(Z)V"⟩ : MethodName) (head1 (Jvm.Cond.code (⟨"com/example/ashlar/ashlar/analysis/Bdd", "<init>", "(Z)V"⟩ : MethodName) prog_9_method_1_code 2 none :: ws) ({ frames := 1, cells := 0, slots := 0, locals := 12 } : Room)) (fun a U => a = #[(.ref this), (.int p1)] ∧ Z.Warmed39 U.vm ∧ U.heap = h0) (fun _ _ _ _ _ => True) (fun _ U o U' => ∃ v L, o = .returned v ∧ Q1 Z this p1 h0 n0 v U'.heap L ∧ FrameEnd U o U' L ({ frames := 1, cells := 0, slots := 0, locals := 12 } : Room).cells ({ frames := 1, cells := 0, slots := 0, locals := 12 } : Room).slots) := by
  refine MetFree.of_bodySF (plainFor_of_name pn_1) hisR ?_
  intro p e s m args below meth c s₁ Bd hml0 hP hK
  obtain ⟨rfl, hZ, hh⟩ := hP
  have hx := Bd.exec
  have hby := Bd.bytes
  have hml : c.maxLocals = 2 := hml0
  have hown : s.vm.findClass "com/example/ashlar/ashlar/analysis/Bdd" = some m.cls := findClass_of_methodNamed Bd.named
  have hnm := (name_of_methodNamed Bd.named Bd.method).1
  have X0 : Stand p l e ({ frames := 1, cells := 0, slots := 0, locals := 12 } : Room) s m #[(.ref this), (.int p1)] below meth c s₁ [] 0 0 := Stand.of_body Bd
  have e0 : s₁.heap = h0 := by rw [← hh, Bd.state]; rfl
  have N0 := Fr.nil n0
  refine own_start ?_
  refine own_via (fun t k => castTop (ef_rm1 m this p1) k) ?_
  show own_Go p e below _ (s₁.setTop (mkF m 0 #[oR this, oI p1] []))
  refine own_via (fun t k => XS.aloadN X0.here hx rfl (hb hby d1_0) rfl rfl k) ?_
  show own_Go p e below _ (s₁.setTop (mkF m 1 #[oR this, oI p1] [(.ref this)]))
  obtain ⟨T1, X1, e1, st1⟩ := initO X0 hx hZ hown (own_w hw 7) (own_w hw 8) (own_w hw 9) e0 (g := (mkF m 1 #[oR this, oI p1] [(.ref this)])) rfl (by rw [hml]; rfl) rfl (hb hby d1_1) (by decide) (W := 0) (by show 2 * 0 + _ ≤ _; exact Nat.le_of_eq rfl) (by decide)
  refine own_via st1 ?_
  show own_Go p e below _ (T1.setTop (mkF m 4 #[oR this, oI p1] []))
  refine own_via (fun t k => XS.aloadN X1.here hx rfl (hb hby d1_4) rfl rfl k) ?_
  show own_Go p e below _ (T1.setTop (mkF m 5 #[oR this, oI p1] [(.ref this)]))
  refine own_via (fun t k => X1.ldcInt hx hown (mvT hZ (own_w hw 10)) (g := (mkF m 5 #[oR this, oI p1] [(.ref this)])) rfl (hb hby d1_5) t k) ?_
  show own_Go p e below _ (T1.setTop (mkF m 7 #[oR this, oI p1] [(.int (2147483647 : Int32)), (.ref this)]))
  obtain ⟨T2, h2, X2, e2, W2, st2⟩ := putF X1 hx hZ hown (host := "") (Or.inl (own_w hw 11)) Via.refl e1 F_variable E_this (Or.inr ⟨(own_w hw 12), rfl, hnm⟩) (own_w hw 2) (ty := .int) (by decide) rfl rfl (g := (mkF m 7 #[oR this, oI p1] [(.int (2147483647 : Int32)), (.ref this)])) rfl rfl (hb hby d1_7)
  refine own_via st2 ?_
  have E3 := E_this.wr W2
  have F4 := F_variable.same W2
  have F5 := F_low.other W2 (Or.inr (slot_ne (Or.inr (own_w hw 14)) (Or.inr (own_w hw 12)) (by decide) (t := (.object "com/example/ashlar/ashlar/analysis/Bdd")) (t' := .int) (by decide) (by decide)))
  have F6 := F_high.other W2 (Or.inr (slot_ne (Or.inr (own_w hw 16)) (Or.inr (own_w hw 12)) (by decide) (t := (.object "com/example/ashlar/ashlar/analysis/Bdd")) (t' := .int) (by decide) (by decide)))
  have F7 := F_value.other W2 (Or.inr (slot_ne (Or.inr (own_w hw 18)) (Or.inr (own_w hw 12)) (by decide) (t := .boolean) (t' := .int) (by decide) (by decide)))
  have Zs8 : n0 ≤ h2.size := Nat.le_trans Z0 (Keep.of_wr W2).1
  have N9 := Fr.snoc X2 N0 g_this
  have K10 : Keep h0 h2 [this] := (Keep.refl h0 [this]).wr W2 (Or.inl (List.mem_of_getElem? (i := 0) rfl))
  show own_Go p e below _ (T2.setTop (mkF m 10 #[oR this, oI p1] []))
  refine own_via (fun t k => XS.aloadN X2.here hx rfl (hb hby d1_10) rfl rfl k) ?_
  show own_Go p e below _ (T2.setTop (mkF m 11 #[oR this, oI p1] [(.ref this)]))
  refine own_via (fun t k => XS.aconstNull X2.here hx rfl (hb hby d1_11) k) ?_
  show own_Go p e below _ (T2.setTop (mkF m 12 #[oR this, oI p1] [.null, (.ref this)]))
  obtain ⟨T11, h11, X11, e11, W11, st11⟩ := putF X2 hx hZ hown (host := "") (Or.inl (own_w hw 13)) Via.refl e2 F5 E3 (Or.inr ⟨(own_w hw 14), rfl, hnm⟩) (own_w hw 2) (ty := (.object "com/example/ashlar/ashlar/analysis/Bdd")) (by decide) rfl rfl (g := (mkF m 12 #[oR this, oI p1] [.null, (.ref this)])) rfl rfl (hb hby d1_12)
  refine own_via st11 ?_
  have E12 := E3.wr W11
  have F13 := F4.other W11 (Or.inr (slot_ne (Or.inr (own_w hw 12)) (Or.inr (own_w hw 14)) (by decide) (t := .int) (t' := (.object "com/example/ashlar/ashlar/analysis/Bdd")) (by decide) (by decide)))
  have F14 := F5.same W11
  have F15 := F6.other W11 (Or.inr (slot_ne (Or.inr (own_w hw 16)) (Or.inr (own_w hw 14)) (by decide) (t := (.object "com/example/ashlar/ashlar/analysis/Bdd")) (t' := (.object "com/example/ashlar/ashlar/analysis/Bdd")) (by decide) (by decide)))
  have F16 := F7.other W11 (Or.inr (slot_ne (Or.inr (own_w hw 18)) (Or.inr (own_w hw 14)) (by decide) (t := .boolean) (t' := (.object "com/example/ashlar/ashlar/analysis/Bdd")) (by decide) (by decide)))
  have Zs17 : n0 ≤ h11.size := Nat.le_trans Zs8 (Keep.of_wr W11).1
  have N18 := Fr.snoc X11 N9 g_this
  have K19 : Keep h0 h11 [this] := K10.wr W11 (Or.inl (List.mem_of_getElem? (i := 0) rfl))
  show own_Go p e below _ (T11.setTop (mkF m 15 #[oR this, oI p1] []))
  refine own_via (fun t k => XS.aloadN X11.here hx rfl (hb hby d1_15) rfl rfl k) ?_
  show own_Go p e below _ (T11.setTop (mkF m 16 #[oR this, oI p1] [(.ref this)]))
  refine own_via (fun t k => XS.aconstNull X11.here hx rfl (hb hby d1_16) k) ?_
  show own_Go p e below _ (T11.setTop (mkF m 17 #[oR this, oI p1] [.null, (.ref this)]))
  obtain ⟨T20, h20, X20, e20, W20, st20⟩ := putF X11 hx hZ hown (host := "") (Or.inl (own_w hw 15)) Via.refl e11 F15 E12 (Or.inr ⟨(own_w hw 16), rfl, hnm⟩) (own_w hw 2) (ty := (.object "com/example/ashlar/ashlar/analysis/Bdd")) (by decide) rfl rfl (g := (mkF m 17 #[oR this, oI p1] [.null, (.ref this)])) rfl rfl (hb hby d1_17)
  refine own_via st20 ?_
  have E21 := E12.wr W20
  have F22 := F13.other W20 (Or.inr (slot_ne (Or.inr (own_w hw 12)) (Or.inr (own_w hw 16)) (by decide) (t := .int) (t' := (.object "com/example/ashlar/ashlar/analysis/Bdd")) (by decide) (by decide)))
  have F23 := F14.other W20 (Or.inr (slot_ne (Or.inr (own_w hw 14)) (Or.inr (own_w hw 16)) (by decide) (t := (.object "com/example/ashlar/ashlar/analysis/Bdd")) (t' := (.object "com/example/ashlar/ashlar/analysis/Bdd")) (by decide) (by decide)))
  have F24 := F15.same W20
  have F25 := F16.other W20 (Or.inr (slot_ne (Or.inr (own_w hw 18)) (Or.inr (own_w hw 16)) (by decide) (t := .boolean) (t' := (.object "com/example/ashlar/ashlar/analysis/Bdd")) (by decide) (by decide)))
  have Zs26 : n0 ≤ h20.size := Nat.le_trans Zs17 (Keep.of_wr W20).1
  have N27 := Fr.snoc X20 N18 g_this
  have K28 : Keep h0 h20 [this] := K19.wr W20 (Or.inl (List.mem_of_getElem? (i := 0) rfl))
  show own_Go p e below _ (T20.setTop (mkF m 20 #[oR this, oI p1] []))
  refine own_via (fun t k => XS.aloadN X20.here hx rfl (hb hby d1_20) rfl rfl k) ?_
  show own_Go p e below _ (T20.setTop (mkF m 21 #[oR this, oI p1] [(.ref this)]))
  refine own_via (fun t k => XS.iloadN X20.here hx rfl (hb hby d1_21) rfl k) ?_
  show own_Go p e below _ (T20.setTop (mkF m 22 #[oR this, oI p1] [(.int p1), (.ref this)]))
  obtain ⟨T29, h29, X29, e29, W29, st29⟩ := putF X20 hx hZ hown (host := "") (Or.inl (own_w hw 17)) Via.refl e20 F25 E21 (Or.inr ⟨(own_w hw 18), rfl, hnm⟩) (own_w hw 2) (ty := .boolean) (by decide) hn1 hf1 (g := (mkF m 22 #[oR this, oI p1] [(.int p1), (.ref this)])) rfl rfl (hb hby d1_22)
  refine own_via st29 ?_
  have E30 := E21.wr W29
  have F31 := F22.other W29 (Or.inr (slot_ne (Or.inr (own_w hw 12)) (Or.inr (own_w hw 18)) (by decide) (t := .int) (t' := .boolean) (by decide) (by decide)))
  have F32 := F23.other W29 (Or.inr (slot_ne (Or.inr (own_w hw 14)) (Or.inr (own_w hw 18)) (by decide) (t := (.object "com/example/ashlar/ashlar/analysis/Bdd")) (t' := .boolean) (by decide) (by decide)))
  have F33 := F24.other W29 (Or.inr (slot_ne (Or.inr (own_w hw 16)) (Or.inr (own_w hw 18)) (by decide) (t := (.object "com/example/ashlar/ashlar/analysis/Bdd")) (t' := .boolean) (by decide) (by decide)))
  have F34 := F25.same W29
  have Zs35 : n0 ≤ h29.size := Nat.le_trans Zs26 (Keep.of_wr W29).1
  have N36 := Fr.snoc X29 N27 g_this
  have K37 : Keep h0 h29 [this] := K28.wr W29 (Or.inl (List.mem_of_getElem? (i := 0) rfl))
  show own_Go p e below _ (T29.setTop (mkF m 25 #[oR this, oI p1] []))
  obtain ⟨fs, hr, hrun, hended, hW, hsame⟩ := X29.leave (v := none) (fun _ => rfl)
  refine ⟨_, _, X29.returnOut hx Bd.returns (hb hby d1_25) hr, hrun, hended, _, _, rfl, ?_, ⟨_, rfl⟩, hW, hsame.mono (by decide) (by decide)⟩
  show Q1 Z this p1 h0 n0 _ T29.heap _
  rw [e29]
  exact ⟨rfl, N36, K37, F31⟩
theorem d3_0 : decode prog_9_method_2_code 0 = .ok (.aload_n 0, 1) := by decide +kernel
theorem d3_1 : decode prog_9_method_2_code 1 = .ok (.invokespecial 3, 3) := by decide +kernel
theorem d3_4 : decode prog_9_method_2_code 4 = .ok (.aload_n 0, 1) := by decide +kernel
theorem d3_5 : decode prog_9_method_2_code 5 = .ok (.iload_n 1, 1) := by decide +kernel
theorem d3_6 : decode prog_9_method_2_code 6 = .ok (.putfield 12, 3) := by decide +kernel
theorem d3_9 : decode prog_9_method_2_code 9 = .ok (.aload_n 0, 1) := by decide +kernel
theorem d3_10 : decode prog_9_method_2_code 10 = .ok (.aload_n 2, 1) := by decide +kernel
theorem d3_11 : decode prog_9_method_2_code 11 = .ok (.putfield 16, 3) := by decide +kernel
theorem d3_14 : decode prog_9_method_2_code 14 = .ok (.aload_n 0, 1) := by decide +kernel
theorem d3_15 : decode prog_9_method_2_code 15 = .ok (.aload_n 3, 1) := by decide +kernel
theorem d3_16 : decode prog_9_method_2_code 16 = .ok (.putfield 20, 3) := by decide +kernel
theorem d3_19 : decode prog_9_method_2_code 19 = .ok (.aload_n 0, 1) := by decide +kernel
theorem d3_20 : decode prog_9_method_2_code 20 = .ok (.iconst 0, 1) := by decide +kernel
theorem d3_21 : decode prog_9_method_2_code 21 = .ok (.putfield 23, 3) := by decide +kernel
theorem d3_24 : decode prog_9_method_2_code 24 = .ok (.return_, 1) := by decide +kernel
theorem ef_rm3 (m : MethodId) (q0 : Addr) (q1 : Int32) (q2 : Addr) (q3 : Addr) : entryFrame m #[(.ref q0), (.int q1), (.ref q2), (.ref q3)] 4 = mkF m 0 #[oR q0, oI q1, oR q2, oR q3] [] := by first | (simp [entryFrame, mkF, argsToLocals, Value.category]; done) | rfl
def Q3 (Z : State) (this : Addr) (p1 : Int32) (p2 : Addr) (p3 : Addr) (h0 : Heap) (n0 : Nat) (v : Option Value) (h : Heap) (L : List Loc) : Prop := v = none ∧ Fr n0 L ∧ Keep h0 h [this] ∧ Fld Z h this "com/example/ashlar/ashlar/analysis/Bdd" "variable" "I" (.int p1)
set_option maxRecDepth 65536 in
set_option maxHeartbeats 40000000 in
theorem rm3 (l : Launch) (Z : State) (a0 : Array Value) (hw : ∀ d ∈ tables_1, d.before a0 Z = true) (ws : List Jvm.Cond) (this : Addr) (p1 : Int32) (p2 : Addr) (p3 : Addr) (h0 : Heap) (n0 : Nat) (Z0 : n0 ≤ h0.size) (g_this : n0 ≤ this) (E_this : Exa Z h0 this "com/example/ashlar/ashlar/analysis/Bdd") (F_variable : Fld Z h0 this "com/example/ashlar/ashlar/analysis/Bdd" "variable" "I" (.int (0 : Int32))) (F_low : Fld Z h0 this "com/example/ashlar/ashlar/analysis/Bdd" "low" "Lcom/example/ashlar/ashlar/analysis/Bdd;" .null) (F_high : Fld Z h0 this "com/example/ashlar/ashlar/analysis/Bdd" "high" "Lcom/example/ashlar/ashlar/analysis/Bdd;" .null) (F_value : Fld Z h0 this "com/example/ashlar/ashlar/analysis/Bdd" "value" "Z" (.int (0 : Int32))) :
    MetFree l (⟨"com/example/ashlar/ashlar/analysis/Bdd", "<init>", "(ILcom/example/ashlar/ashlar/analysis/Bdd;Lcom/example/ashlar/ashlar/analysis/Bdd;)V"⟩ : MethodName) (head1 (Jvm.Cond.code (⟨"com/example/ashlar/ashlar/analysis/Bdd", "<init>", "(ILcom/example/ashlar/ashlar/analysis/Bdd;Lcom/example/ashlar/ashlar/analysis/Bdd;)V"⟩ : MethodName) prog_9_method_2_code 4 none :: ws) ({ frames := 1, cells := 0, slots := 0, locals := 12 } : Room)) (fun a U => a = #[(.ref this), (.int p1), (.ref p2), (.ref p3)] ∧ Z.Warmed39 U.vm ∧ U.heap = h0) (fun _ _ _ _ _ => True) (fun _ U o U' => ∃ v L, o = .returned v ∧ Q3 Z this p1 p2 p3 h0 n0 v U'.heap L ∧ FrameEnd U o U' L ({ frames := 1, cells := 0, slots := 0, locals := 12 } : Room).cells ({ frames := 1, cells := 0, slots := 0, locals := 12 } : Room).slots) := by
  refine MetFree.of_bodySF (plainFor_of_name pn_1) hisR ?_
  intro p e s m args below meth c s₁ Bd hml0 hP hK
  obtain ⟨rfl, hZ, hh⟩ := hP
  have hx := Bd.exec
  have hby := Bd.bytes
  have hml : c.maxLocals = 4 := hml0
  have hown : s.vm.findClass "com/example/ashlar/ashlar/analysis/Bdd" = some m.cls := findClass_of_methodNamed Bd.named
  have hnm := (name_of_methodNamed Bd.named Bd.method).1
  have X0 : Stand p l e ({ frames := 1, cells := 0, slots := 0, locals := 12 } : Room) s m #[(.ref this), (.int p1), (.ref p2), (.ref p3)] below meth c s₁ [] 0 0 := Stand.of_body Bd
  have e0 : s₁.heap = h0 := by rw [← hh, Bd.state]; rfl
  have N0 := Fr.nil n0
  refine own_start ?_
  refine own_via (fun t k => castTop (ef_rm3 m this p1 p2 p3) k) ?_
  show own_Go p e below _ (s₁.setTop (mkF m 0 #[oR this, oI p1, oR p2, oR p3] []))
  refine own_via (fun t k => XS.aloadN X0.here hx rfl (hb hby d3_0) rfl rfl k) ?_
  show own_Go p e below _ (s₁.setTop (mkF m 1 #[oR this, oI p1, oR p2, oR p3] [(.ref this)]))
  obtain ⟨T1, X1, e1, st1⟩ := initO X0 hx hZ hown (own_w hw 7) (own_w hw 8) (own_w hw 9) e0 (g := (mkF m 1 #[oR this, oI p1, oR p2, oR p3] [(.ref this)])) rfl (by rw [hml]; rfl) rfl (hb hby d3_1) (by decide) (W := 0) (by show 2 * 0 + _ ≤ _; exact Nat.le_of_eq rfl) (by decide)
  refine own_via st1 ?_
  show own_Go p e below _ (T1.setTop (mkF m 4 #[oR this, oI p1, oR p2, oR p3] []))
  refine own_via (fun t k => XS.aloadN X1.here hx rfl (hb hby d3_4) rfl rfl k) ?_
  show own_Go p e below _ (T1.setTop (mkF m 5 #[oR this, oI p1, oR p2, oR p3] [(.ref this)]))
  refine own_via (fun t k => XS.iloadN X1.here hx rfl (hb hby d3_5) rfl k) ?_
  show own_Go p e below _ (T1.setTop (mkF m 6 #[oR this, oI p1, oR p2, oR p3] [(.int p1), (.ref this)]))
  obtain ⟨T2, h2, X2, e2, W2, st2⟩ := putF X1 hx hZ hown (host := "") (Or.inl (own_w hw 11)) Via.refl e1 F_variable E_this (Or.inr ⟨(own_w hw 12), rfl, hnm⟩) (own_w hw 2) (ty := .int) (by decide) rfl rfl (g := (mkF m 6 #[oR this, oI p1, oR p2, oR p3] [(.int p1), (.ref this)])) rfl rfl (hb hby d3_6)
  refine own_via st2 ?_
  have E3 := E_this.wr W2
  have F4 := F_variable.same W2
  have F5 := F_low.other W2 (Or.inr (slot_ne (Or.inr (own_w hw 14)) (Or.inr (own_w hw 12)) (by decide) (t := (.object "com/example/ashlar/ashlar/analysis/Bdd")) (t' := .int) (by decide) (by decide)))
  have F6 := F_high.other W2 (Or.inr (slot_ne (Or.inr (own_w hw 16)) (Or.inr (own_w hw 12)) (by decide) (t := (.object "com/example/ashlar/ashlar/analysis/Bdd")) (t' := .int) (by decide) (by decide)))
  have F7 := F_value.other W2 (Or.inr (slot_ne (Or.inr (own_w hw 18)) (Or.inr (own_w hw 12)) (by decide) (t := .boolean) (t' := .int) (by decide) (by decide)))
  have Zs8 : n0 ≤ h2.size := Nat.le_trans Z0 (Keep.of_wr W2).1
  have N9 := Fr.snoc X2 N0 g_this
  have K10 : Keep h0 h2 [this] := (Keep.refl h0 [this]).wr W2 (Or.inl (List.mem_of_getElem? (i := 0) rfl))
  show own_Go p e below _ (T2.setTop (mkF m 9 #[oR this, oI p1, oR p2, oR p3] []))
  refine own_via (fun t k => XS.aloadN X2.here hx rfl (hb hby d3_9) rfl rfl k) ?_
  show own_Go p e below _ (T2.setTop (mkF m 10 #[oR this, oI p1, oR p2, oR p3] [(.ref this)]))
  refine own_via (fun t k => XS.aloadN X2.here hx rfl (hb hby d3_10) rfl rfl k) ?_
  show own_Go p e below _ (T2.setTop (mkF m 11 #[oR this, oI p1, oR p2, oR p3] [(.ref p2), (.ref this)]))
  obtain ⟨T11, h11, X11, e11, W11, st11⟩ := putF X2 hx hZ hown (host := "") (Or.inl (own_w hw 13)) Via.refl e2 F5 E3 (Or.inr ⟨(own_w hw 14), rfl, hnm⟩) (own_w hw 2) (ty := (.object "com/example/ashlar/ashlar/analysis/Bdd")) (by decide) rfl rfl (g := (mkF m 11 #[oR this, oI p1, oR p2, oR p3] [(.ref p2), (.ref this)])) rfl rfl (hb hby d3_11)
  refine own_via st11 ?_
  have E12 := E3.wr W11
  have F13 := F4.other W11 (Or.inr (slot_ne (Or.inr (own_w hw 12)) (Or.inr (own_w hw 14)) (by decide) (t := .int) (t' := (.object "com/example/ashlar/ashlar/analysis/Bdd")) (by decide) (by decide)))
  have F14 := F5.same W11
  have F15 := F6.other W11 (Or.inr (slot_ne (Or.inr (own_w hw 16)) (Or.inr (own_w hw 14)) (by decide) (t := (.object "com/example/ashlar/ashlar/analysis/Bdd")) (t' := (.object "com/example/ashlar/ashlar/analysis/Bdd")) (by decide) (by decide)))
  have F16 := F7.other W11 (Or.inr (slot_ne (Or.inr (own_w hw 18)) (Or.inr (own_w hw 14)) (by decide) (t := .boolean) (t' := (.object "com/example/ashlar/ashlar/analysis/Bdd")) (by decide) (by decide)))
  have Zs17 : n0 ≤ h11.size := Nat.le_trans Zs8 (Keep.of_wr W11).1
  have N18 := Fr.snoc X11 N9 g_this
  have K19 : Keep h0 h11 [this] := K10.wr W11 (Or.inl (List.mem_of_getElem? (i := 0) rfl))
  show own_Go p e below _ (T11.setTop (mkF m 14 #[oR this, oI p1, oR p2, oR p3] []))
  refine own_via (fun t k => XS.aloadN X11.here hx rfl (hb hby d3_14) rfl rfl k) ?_
  show own_Go p e below _ (T11.setTop (mkF m 15 #[oR this, oI p1, oR p2, oR p3] [(.ref this)]))
  refine own_via (fun t k => XS.aloadN X11.here hx rfl (hb hby d3_15) rfl rfl k) ?_
  show own_Go p e below _ (T11.setTop (mkF m 16 #[oR this, oI p1, oR p2, oR p3] [(.ref p3), (.ref this)]))
  obtain ⟨T20, h20, X20, e20, W20, st20⟩ := putF X11 hx hZ hown (host := "") (Or.inl (own_w hw 15)) Via.refl e11 F15 E12 (Or.inr ⟨(own_w hw 16), rfl, hnm⟩) (own_w hw 2) (ty := (.object "com/example/ashlar/ashlar/analysis/Bdd")) (by decide) rfl rfl (g := (mkF m 16 #[oR this, oI p1, oR p2, oR p3] [(.ref p3), (.ref this)])) rfl rfl (hb hby d3_16)
  refine own_via st20 ?_
  have E21 := E12.wr W20
  have F22 := F13.other W20 (Or.inr (slot_ne (Or.inr (own_w hw 12)) (Or.inr (own_w hw 16)) (by decide) (t := .int) (t' := (.object "com/example/ashlar/ashlar/analysis/Bdd")) (by decide) (by decide)))
  have F23 := F14.other W20 (Or.inr (slot_ne (Or.inr (own_w hw 14)) (Or.inr (own_w hw 16)) (by decide) (t := (.object "com/example/ashlar/ashlar/analysis/Bdd")) (t' := (.object "com/example/ashlar/ashlar/analysis/Bdd")) (by decide) (by decide)))
  have F24 := F15.same W20
  have F25 := F16.other W20 (Or.inr (slot_ne (Or.inr (own_w hw 18)) (Or.inr (own_w hw 16)) (by decide) (t := .boolean) (t' := (.object "com/example/ashlar/ashlar/analysis/Bdd")) (by decide) (by decide)))
  have Zs26 : n0 ≤ h20.size := Nat.le_trans Zs17 (Keep.of_wr W20).1
  have N27 := Fr.snoc X20 N18 g_this
  have K28 : Keep h0 h20 [this] := K19.wr W20 (Or.inl (List.mem_of_getElem? (i := 0) rfl))
  show own_Go p e below _ (T20.setTop (mkF m 19 #[oR this, oI p1, oR p2, oR p3] []))
  refine own_via (fun t k => XS.aloadN X20.here hx rfl (hb hby d3_19) rfl rfl k) ?_
  show own_Go p e below _ (T20.setTop (mkF m 20 #[oR this, oI p1, oR p2, oR p3] [(.ref this)]))
  refine own_via (fun t k => XS.iconst X20.here hx rfl (hb hby d3_20) k) ?_
  show own_Go p e below _ (T20.setTop (mkF m 21 #[oR this, oI p1, oR p2, oR p3] [(.int (0 : Int32)), (.ref this)]))
  obtain ⟨T29, h29, X29, e29, W29, st29⟩ := putF X20 hx hZ hown (host := "") (Or.inl (own_w hw 17)) Via.refl e20 F25 E21 (Or.inr ⟨(own_w hw 18), rfl, hnm⟩) (own_w hw 2) (ty := .boolean) (by decide) rfl rfl (g := (mkF m 21 #[oR this, oI p1, oR p2, oR p3] [(.int (0 : Int32)), (.ref this)])) rfl rfl (hb hby d3_21)
  refine own_via st29 ?_
  have E30 := E21.wr W29
  have F31 := F22.other W29 (Or.inr (slot_ne (Or.inr (own_w hw 12)) (Or.inr (own_w hw 18)) (by decide) (t := .int) (t' := .boolean) (by decide) (by decide)))
  have F32 := F23.other W29 (Or.inr (slot_ne (Or.inr (own_w hw 14)) (Or.inr (own_w hw 18)) (by decide) (t := (.object "com/example/ashlar/ashlar/analysis/Bdd")) (t' := .boolean) (by decide) (by decide)))
  have F33 := F24.other W29 (Or.inr (slot_ne (Or.inr (own_w hw 16)) (Or.inr (own_w hw 18)) (by decide) (t := (.object "com/example/ashlar/ashlar/analysis/Bdd")) (t' := .boolean) (by decide) (by decide)))
  have F34 := F25.same W29
  have Zs35 : n0 ≤ h29.size := Nat.le_trans Zs26 (Keep.of_wr W29).1
  have N36 := Fr.snoc X29 N27 g_this
  have K37 : Keep h0 h29 [this] := K28.wr W29 (Or.inl (List.mem_of_getElem? (i := 0) rfl))
  show own_Go p e below _ (T29.setTop (mkF m 24 #[oR this, oI p1, oR p2, oR p3] []))
  obtain ⟨fs, hr, hrun, hended, hW, hsame⟩ := X29.leave (v := none) (fun _ => rfl)
  refine ⟨_, _, X29.returnOut hx Bd.returns (hb hby d3_24) hr, hrun, hended, _, _, rfl, ?_, ⟨_, rfl⟩, hW, hsame.mono (by decide) (by decide)⟩
  show Q3 Z this p1 p2 p3 h0 n0 _ T29.heap _
  rw [e29]
  exact ⟨rfl, N36, K37, F31⟩
def f4 (w : Int32) : Int32 := (if w = (2147483647 : Int32) then (1 : Int32) else (0 : Int32))
theorem d4_0 : decode prog_9_method_3_code 0 = .ok (.aload_n 0, 1) := by decide +kernel
theorem d4_1 : decode prog_9_method_3_code 1 = .ok (.getfield 12, 3) := by decide +kernel
theorem d4_4 : decode prog_9_method_3_code 4 = .ok (.ldc 11, 2) := by decide +kernel
theorem d4_6 : decode prog_9_method_3_code 6 = .ok (.if_icmp .ne 7, 3) := by decide +kernel
theorem d4_9 : decode prog_9_method_3_code 9 = .ok (.iconst 1, 1) := by decide +kernel
theorem d4_10 : decode prog_9_method_3_code 10 = .ok (.goto 4, 3) := by decide +kernel
theorem d4_13 : decode prog_9_method_3_code 13 = .ok (.iconst 0, 1) := by decide +kernel
theorem d4_14 : decode prog_9_method_3_code 14 = .ok (.ireturn, 1) := by decide +kernel
theorem ef_rm4 (m : MethodId) (q0 : Addr) : entryFrame m #[(.ref q0)] 1 = mkF m 0 #[oR q0] [] := by first | (simp [entryFrame, mkF, argsToLocals, Value.category]; done) | rfl
def Q4 (Z : State) (this : Addr) (w : Int32) (r : Int32) (h0 : Heap) (n0 : Nat) (v : Option Value) (h : Heap) (L : List Loc) : Prop := v = some (.int r) ∧ Fr n0 L ∧ h = h0
set_option maxRecDepth 65536 in
set_option maxHeartbeats 40000000 in
theorem rm4 (l : Launch) (Z : State) (a0 : Array Value) (hw : ∀ d ∈ tables_1, d.before a0 Z = true) (ws : List Jvm.Cond) (this : Addr) (w : Int32) (r : Int32) (h0 : Heap) (n0 : Nat) (Z0 : n0 ≤ h0.size) (F_w : Fld Z h0 this "com/example/ashlar/ashlar/analysis/Bdd" "variable" "I" (.int w)) (hr0 : (f4 w) = r) :
    MetFree l (⟨"com/example/ashlar/ashlar/analysis/Bdd", "isTerminal", "()Z"⟩ : MethodName) (head1 (Jvm.Cond.code (⟨"com/example/ashlar/ashlar/analysis/Bdd", "isTerminal", "()Z"⟩ : MethodName) prog_9_method_3_code 1 (some .boolean) :: ws) ({ frames := 0, cells := 0, slots := 0, locals := 0 } : Room)) (fun a U => a = #[(.ref this)] ∧ Z.Warmed39 U.vm ∧ U.heap = h0) (fun _ _ _ _ _ => True) (fun _ U o U' => ∃ v L, o = .returned v ∧ Q4 Z this w r h0 n0 v U'.heap L ∧ FrameEnd U o U' L ({ frames := 0, cells := 0, slots := 0, locals := 0 } : Room).cells ({ frames := 0, cells := 0, slots := 0, locals := 0 } : Room).slots) := by
  refine MetFree.of_bodySF (plainFor_of_name pn_1) hisR ?_
  intro p e s m args below meth c s₁ Bd hml0 hP hK
  obtain ⟨rfl, hZ, hh⟩ := hP
  have hx := Bd.exec
  have hby := Bd.bytes
  have hml : c.maxLocals = 1 := hml0
  have hown : s.vm.findClass "com/example/ashlar/ashlar/analysis/Bdd" = some m.cls := findClass_of_methodNamed Bd.named
  have hnm := (name_of_methodNamed Bd.named Bd.method).1
  have X0 : Stand p l e ({ frames := 0, cells := 0, slots := 0, locals := 0 } : Room) s m #[(.ref this)] below meth c s₁ [] 0 0 := Stand.of_body Bd
  have e0 : s₁.heap = h0 := by rw [← hh, Bd.state]; rfl
  have N0 := Fr.nil n0
  refine own_start ?_
  refine own_via (fun t k => castTop (ef_rm4 m this) k) ?_
  show own_Go p e below _ (s₁.setTop (mkF m 0 #[oR this] []))
  refine own_via (fun t k => XS.aloadN X0.here hx rfl (hb hby d4_0) rfl rfl k) ?_
  show own_Go p e below _ (s₁.setTop (mkF m 1 #[oR this] [(.ref this)]))
  obtain ⟨T1, X1, e1, st1⟩ := getF X0 hx hZ hown (host := "") (Or.inl (own_w hw 11)) Via.refl e0 F_w (g := (mkF m 1 #[oR this] [(.ref this)])) rfl rfl (hb hby d4_1)
  refine own_via st1 ?_
  show own_Go p e below _ (T1.setTop (mkF m 4 #[oR this] [(.int w)]))
  refine own_via (fun t k => X1.ldcInt hx hown (mvT hZ (own_w hw 10)) (g := (mkF m 4 #[oR this] [(.int w)])) rfl (hb hby d4_4) t k) ?_
  show own_Go p e below _ (T1.setTop (mkF m 6 #[oR this] [(.int (2147483647 : Int32)), (.int w)]))
  by_cases hc6_2 : w = (2147483647 : Int32)
  · refine own_via (fun t k => XS.icmpNo X1.here hx rfl (hb hby d4_6) rfl (teq hc6_2).2 k) ?_
    show own_Go p e below _ (T1.setTop (mkF m 9 #[oR this] []))
    refine own_via (fun t k => XS.iconst X1.here hx rfl (hb hby d4_9) k) ?_
    show own_Go p e below _ (T1.setTop (mkF m 10 #[oR this] [(.int (1 : Int32))]))
    refine own_via (fun t k => XS.goto X1.here hx rfl (pc0 := 10) (pc' := 14) rfl (hb hby d4_10) (by decide) (by decide) k) ?_
    show own_Go p e below _ (T1.setTop (mkF m 14 #[oR this] [(.int (1 : Int32))]))
    have hv : (f4 w) = (1 : Int32) := by unfold f4; rw [if_pos hc6_2]
    obtain ⟨fs, hr, hrun, hended, hW, hsame⟩ := X1.leave (v := some (.int (1 : Int32))) (fun h => by rw [Bd.returns] at h; cases h)
    refine ⟨_, _, retN X1 hx (t := .boolean) Bd.returns (by simp) (hb hby d4_14) hr, hrun, hended, _, _, rfl, ?_, ⟨_, rfl⟩, hW, hsame.mono (by decide) (by decide)⟩
    show Q4 Z this w r h0 n0 _ T1.heap _
    rw [e1]
    exact ⟨by rw [← hr0, hv], N0, rfl⟩
  · refine own_via (fun t k => XS.icmpYes X1.here hx rfl (pc0 := 6) (pc' := 13) rfl (hb hby d4_6) rfl (feq hc6_2).2 (by decide) (by decide) k) ?_
    show own_Go p e below _ (T1.setTop (mkF m 13 #[oR this] []))
    refine own_via (fun t k => XS.iconst X1.here hx rfl (hb hby d4_13) k) ?_
    show own_Go p e below _ (T1.setTop (mkF m 14 #[oR this] [(.int (0 : Int32))]))
    have hv : (f4 w) = (0 : Int32) := by unfold f4; rw [if_neg hc6_2]
    obtain ⟨fs, hr, hrun, hended, hW, hsame⟩ := X1.leave (v := some (.int (0 : Int32))) (fun h => by rw [Bd.returns] at h; cases h)
    refine ⟨_, _, retN X1 hx (t := .boolean) Bd.returns (by simp) (hb hby d4_14) hr, hrun, hended, _, _, rfl, ?_, ⟨_, rfl⟩, hW, hsame.mono (by decide) (by decide)⟩
    show Q4 Z this w r h0 n0 _ T1.heap _
    rw [e1]
    exact ⟨by rw [← hr0, hv], N0, rfl⟩
def f5 (w : Int32) : Int32 := w
theorem d5_0 : decode prog_9_method_6_code 0 = .ok (.aload_n 0, 1) := by decide +kernel
theorem d5_1 : decode prog_9_method_6_code 1 = .ok (.getfield 12, 3) := by decide +kernel
theorem d5_4 : decode prog_9_method_6_code 4 = .ok (.ireturn, 1) := by decide +kernel
theorem ef_rm5 (m : MethodId) (q0 : Addr) : entryFrame m #[(.ref q0)] 1 = mkF m 0 #[oR q0] [] := by first | (simp [entryFrame, mkF, argsToLocals, Value.category]; done) | rfl
def Q5 (Z : State) (this : Addr) (w : Int32) (r : Int32) (h0 : Heap) (n0 : Nat) (v : Option Value) (h : Heap) (L : List Loc) : Prop := v = some (.int r) ∧ Fr n0 L ∧ h = h0
set_option maxRecDepth 65536 in
set_option maxHeartbeats 40000000 in
theorem rm5 (l : Launch) (Z : State) (a0 : Array Value) (hw : ∀ d ∈ tables_1, d.before a0 Z = true) (ws : List Jvm.Cond) (this : Addr) (w : Int32) (r : Int32) (h0 : Heap) (n0 : Nat) (Z0 : n0 ≤ h0.size) (F_w : Fld Z h0 this "com/example/ashlar/ashlar/analysis/Bdd" "variable" "I" (.int w)) (hr0 : (f5 w) = r) :
    MetFree l (⟨"com/example/ashlar/ashlar/analysis/Bdd", "variable", "()I"⟩ : MethodName) (head1 (Jvm.Cond.code (⟨"com/example/ashlar/ashlar/analysis/Bdd", "variable", "()I"⟩ : MethodName) prog_9_method_6_code 1 (some .int) :: ws) ({ frames := 0, cells := 0, slots := 0, locals := 0 } : Room)) (fun a U => a = #[(.ref this)] ∧ Z.Warmed39 U.vm ∧ U.heap = h0) (fun _ _ _ _ _ => True) (fun _ U o U' => ∃ v L, o = .returned v ∧ Q5 Z this w r h0 n0 v U'.heap L ∧ FrameEnd U o U' L ({ frames := 0, cells := 0, slots := 0, locals := 0 } : Room).cells ({ frames := 0, cells := 0, slots := 0, locals := 0 } : Room).slots) := by
  refine MetFree.of_bodySF (plainFor_of_name pn_1) hisR ?_
  intro p e s m args below meth c s₁ Bd hml0 hP hK
  obtain ⟨rfl, hZ, hh⟩ := hP
  have hx := Bd.exec
  have hby := Bd.bytes
  have hml : c.maxLocals = 1 := hml0
  have hown : s.vm.findClass "com/example/ashlar/ashlar/analysis/Bdd" = some m.cls := findClass_of_methodNamed Bd.named
  have hnm := (name_of_methodNamed Bd.named Bd.method).1
  have X0 : Stand p l e ({ frames := 0, cells := 0, slots := 0, locals := 0 } : Room) s m #[(.ref this)] below meth c s₁ [] 0 0 := Stand.of_body Bd
  have e0 : s₁.heap = h0 := by rw [← hh, Bd.state]; rfl
  have N0 := Fr.nil n0
  refine own_start ?_
  refine own_via (fun t k => castTop (ef_rm5 m this) k) ?_
  show own_Go p e below _ (s₁.setTop (mkF m 0 #[oR this] []))
  refine own_via (fun t k => XS.aloadN X0.here hx rfl (hb hby d5_0) rfl rfl k) ?_
  show own_Go p e below _ (s₁.setTop (mkF m 1 #[oR this] [(.ref this)]))
  obtain ⟨T1, X1, e1, st1⟩ := getF X0 hx hZ hown (host := "") (Or.inl (own_w hw 11)) Via.refl e0 F_w (g := (mkF m 1 #[oR this] [(.ref this)])) rfl rfl (hb hby d5_1)
  refine own_via st1 ?_
  show own_Go p e below _ (T1.setTop (mkF m 4 #[oR this] [(.int w)]))
  have hv : (f5 w) = w := by unfold f5; rfl
  obtain ⟨fs, hr, hrun, hended, hW, hsame⟩ := X1.leave (v := some (.int w)) (fun h => by rw [Bd.returns] at h; cases h)
  refine ⟨_, _, retI X1 hx Bd.returns (hb hby d5_4) hr, hrun, hended, _, _, rfl, ?_, ⟨_, rfl⟩, hW, hsame.mono (by decide) (by decide)⟩
  show Q5 Z this w r h0 n0 _ T1.heap _
  rw [e1]
  exact ⟨by rw [← hr0, hv], N0, rfl⟩
theorem pn_0 : plainName "com/example/ashlar/ashlar/analysis/BddIsTerminalPinLaw" = true := by first | (simp [plainName, overriddenIn]; done) | decide +kernel
theorem pd_0_0 : parseMethodDescriptor "(Z)V" = some ⟨[.boolean], none⟩ := by decide +kernel
theorem pd_0_1 : parseMethodDescriptor "(ILcom/example/ashlar/ashlar/analysis/Bdd;Lcom/example/ashlar/ashlar/analysis/Bdd;)V" = some ⟨[.int, (.object "com/example/ashlar/ashlar/analysis/Bdd"), (.object "com/example/ashlar/ashlar/analysis/Bdd")], none⟩ := by decide +kernel
theorem pd_0_2 : parseMethodDescriptor "()Z" = some ⟨[], some .boolean⟩ := by decide +kernel
theorem pd_0_3 : parseMethodDescriptor "()I" = some ⟨[], some .int⟩ := by decide +kernel
theorem ef_rm0 (m : MethodId) (q0 : Int32) (q1 : Int32) : entryFrame m #[(.int q0), (.int q1)] maxLocals = mkF m 0 #[oI q0, oI q1, .unset, .unset, .unset, .unset, .unset, .unset, .unset, .unset] [] := by first | (simp [entryFrame, mkF, argsToLocals, Value.category, maxLocals]; done) | rfl
def Q0 (Z : State) (p0 : Int32) (p1 : Int32) (h0 : Heap) (n0 : Nat) (v : Option Value) (h : Heap) (L : List Loc) : Prop := v = some (.int (1 : Int32)) ∧ Fr n0 L
set_option maxRecDepth 65536 in
set_option maxHeartbeats 40000000 in
theorem rm0 (l : Launch) (Z : State) (a0 : Array Value) (hw : ∀ d ∈ tables_1, d.before a0 Z = true) (ws : List Jvm.Cond) (p0 : Int32) (p1 : Int32) (h0 : Heap) (n0 : Nat) (Z0 : n0 ≤ h0.size) :
    MetFree l x (head1 (Jvm.Cond.code x code maxLocals ret :: ws) room_1) (fun a U => a = #[(.int p0), (.int p1)] ∧ Z.Warmed39 U.vm ∧ U.heap = h0) (fun _ _ _ _ _ => True) (fun _ U o U' => ∃ v L, o = .returned v ∧ Q0 Z p0 p1 h0 n0 v U'.heap L ∧ FrameEnd U o U' L room_1.cells room_1.slots) := by
  refine MetFree.of_bodySF (plainFor_of_name pn_0) hisR ?_
  intro p e s m args below meth c s₁ Bd hml0 hP hK
  obtain ⟨rfl, hZ, hh⟩ := hP
  have hx := Bd.exec
  have hby := Bd.bytes
  have hml : c.maxLocals = 10 := hml0
  have hown : s.vm.findClass "com/example/ashlar/ashlar/analysis/BddIsTerminalPinLaw" = some m.cls := findClass_of_methodNamed Bd.named
  have hnm := (name_of_methodNamed Bd.named Bd.method).1
  have X0 : Stand p l e room_1 s m #[(.int p0), (.int p1)] below meth c s₁ [] 0 0 := Stand.of_body Bd
  have e0 : s₁.heap = h0 := by rw [← hh, Bd.state]; rfl
  have N0 := Fr.nil n0
  refine own_start ?_
  refine own_via (fun t k => castTop (ef_rm0 m p0 p1) k) ?_
  show own_Go p e below _ (s₁.setTop (mkF m 0 #[oI p0, oI p1, .unset, .unset, .unset, .unset, .unset, .unset, .unset, .unset] []))
  refine own_via (fun t k => XS.iloadN X0.here hx rfl (hb hby at_0) rfl k) ?_
  show own_Go p e below _ (s₁.setTop (mkF m 1 #[oI p0, oI p1, .unset, .unset, .unset, .unset, .unset, .unset, .unset, .unset] [(.int p0)]))
  refine own_via (fun t k => XS.iconst X0.here hx rfl (hb hby at_1) k) ?_
  show own_Go p e below _ (s₁.setTop (mkF m 2 #[oI p0, oI p1, .unset, .unset, .unset, .unset, .unset, .unset, .unset, .unset] [(.int (1 : Int32)), (.int p0)]))
  refine own_via (fun t k => XS.iand X0.here hx rfl (hb hby at_2) rfl k) ?_
  show own_Go p e below _ (s₁.setTop (mkF m 3 #[oI p0, oI p1, .unset, .unset, .unset, .unset, .unset, .unset, .unset, .unset] [(.int (p0 &&& (1 : Int32)))]))
  by_cases hc3_1 : (p0 &&& (1 : Int32)) = (0 : Int32)
  · refine own_via (fun t k => XS.ifYes X0.here hx rfl (pc0 := 3) (pc' := 10) rfl (hb hby at_3) rfl ((if0 _ _).trans (teq hc3_1).1) (by decide) (by decide) k) ?_
    show own_Go p e below _ (s₁.setTop (mkF m 10 #[oI p0, oI p1, .unset, .unset, .unset, .unset, .unset, .unset, .unset, .unset] []))
    refine own_via (fun t k => XS.iconst X0.here hx rfl (hb hby at_10) k) ?_
    show own_Go p e below _ (s₁.setTop (mkF m 11 #[oI p0, oI p1, .unset, .unset, .unset, .unset, .unset, .unset, .unset, .unset] [(.int (0 : Int32))]))
    refine own_via (fun t k => XS.istoreN X0.here hx rfl (hb hby at_11) rfl (l' := #[oI p0, oI p1, oI (0 : Int32), .unset, .unset, .unset, .unset, .unset, .unset, .unset]) rfl k) ?_
    show own_Go p e below _ (s₁.setTop (mkF m 12 #[oI p0, oI p1, oI (0 : Int32), .unset, .unset, .unset, .unset, .unset, .unset, .unset] []))
    refine own_via (fun t k => XS.iloadN X0.here hx rfl (hb hby at_12) rfl k) ?_
    show own_Go p e below _ (s₁.setTop (mkF m 13 #[oI p0, oI p1, oI (0 : Int32), .unset, .unset, .unset, .unset, .unset, .unset, .unset] [(.int p1)]))
    refine own_via (fun t k => X0.ldcInt hx hown (mvT hZ (own_w hw 0)) (g := (mkF m 13 #[oI p0, oI p1, oI (0 : Int32), .unset, .unset, .unset, .unset, .unset, .unset, .unset] [(.int p1)])) rfl (hb hby at_13) t k) ?_
    show own_Go p e below _ (s₁.setTop (mkF m 15 #[oI p0, oI p1, oI (0 : Int32), .unset, .unset, .unset, .unset, .unset, .unset, .unset] [(.int (2147483647 : Int32)), (.int p1)]))
    refine own_via (fun t k => XS.iand X0.here hx rfl (hb hby at_15) rfl k) ?_
    show own_Go p e below _ (s₁.setTop (mkF m 16 #[oI p0, oI p1, oI (0 : Int32), .unset, .unset, .unset, .unset, .unset, .unset, .unset] [(.int (p1 &&& (2147483647 : Int32)))]))
    refine own_via (fun t k => XS.istoreN X0.here hx rfl (hb hby at_16) rfl (l' := #[oI p0, oI p1, oI (0 : Int32), oI (p1 &&& (2147483647 : Int32)), .unset, .unset, .unset, .unset, .unset, .unset]) rfl k) ?_
    show own_Go p e below _ (s₁.setTop (mkF m 17 #[oI p0, oI p1, oI (0 : Int32), oI (p1 &&& (2147483647 : Int32)), .unset, .unset, .unset, .unset, .unset, .unset] []))
    refine own_via (fun t k => XS.iloadN X0.here hx rfl (hb hby at_17) rfl k) ?_
    show own_Go p e below _ (s₁.setTop (mkF m 18 #[oI p0, oI p1, oI (0 : Int32), oI (p1 &&& (2147483647 : Int32)), .unset, .unset, .unset, .unset, .unset, .unset] [(.int (p1 &&& (2147483647 : Int32)))]))
    refine own_via (fun t k => X0.ldcInt hx hown (mvT hZ (own_w hw 0)) (g := (mkF m 18 #[oI p0, oI p1, oI (0 : Int32), oI (p1 &&& (2147483647 : Int32)), .unset, .unset, .unset, .unset, .unset, .unset] [(.int (p1 &&& (2147483647 : Int32)))])) rfl (hb hby at_18) t k) ?_
    show own_Go p e below _ (s₁.setTop (mkF m 20 #[oI p0, oI p1, oI (0 : Int32), oI (p1 &&& (2147483647 : Int32)), .unset, .unset, .unset, .unset, .unset, .unset] [(.int (2147483647 : Int32)), (.int (p1 &&& (2147483647 : Int32)))]))
    by_cases hc20_2 : (p1 &&& (2147483647 : Int32)) = (2147483647 : Int32)
    · refine own_via (fun t k => XS.icmpNo X0.here hx rfl (hb hby at_20) rfl (teq hc20_2).2 k) ?_
      show own_Go p e below _ (s₁.setTop (mkF m 23 #[oI p0, oI p1, oI (0 : Int32), oI (p1 &&& (2147483647 : Int32)), .unset, .unset, .unset, .unset, .unset, .unset] []))
      refine own_via (fun t k => X0.ldcInt hx hown (mvT hZ (own_w hw 32)) (g := (mkF m 23 #[oI p0, oI p1, oI (0 : Int32), oI (p1 &&& (2147483647 : Int32)), .unset, .unset, .unset, .unset, .unset, .unset] [])) rfl (hb hby at_23) t k) ?_
      show own_Go p e below _ (s₁.setTop (mkF m 25 #[oI p0, oI p1, oI (0 : Int32), oI (p1 &&& (2147483647 : Int32)), .unset, .unset, .unset, .unset, .unset, .unset] [(.int (2147483646 : Int32))]))
      refine own_via (fun t k => XS.istoreN X0.here hx rfl (hb hby at_25) rfl (l' := #[oI p0, oI p1, oI (0 : Int32), oI (2147483646 : Int32), .unset, .unset, .unset, .unset, .unset, .unset]) rfl k) ?_
      show own_Go p e below _ (s₁.setTop (mkF m 26 #[oI p0, oI p1, oI (0 : Int32), oI (2147483646 : Int32), .unset, .unset, .unset, .unset, .unset, .unset] []))
      obtain ⟨T3, h3, X3, e3, E3, A3, D3, -, st3⟩ := newO X0 hx hZ hown (own_w hw 1) (own_w hw 2) (own_w hw 3) e0 (g := (mkF m 26 #[oI p0, oI p1, oI (0 : Int32), oI (2147483646 : Int32), .unset, .unset, .unset, .unset, .unset, .unset] [])) rfl (hb hby at_26) (by decide) (by decide)
      obtain ⟨a3, g3⟩ : ∃ z, z = h0.size := ⟨_, rfl⟩
      rw [← g3] at A3 D3 st3
      refine own_via st3 ?_
      have fr4 : n0 ≤ a3 := Nat.le_trans Z0 (Nat.le_of_eq g3.symm)
      have Zs5 : n0 ≤ h3.size := Nat.le_trans Z0 E3.1
      have F6 : Fld Z h3 a3 "com/example/ashlar/ashlar/analysis/Bdd" "variable" "I" (.int (0 : Int32)) := D3 (Or.inr (own_w hw 12)) (ty := .int) (by decide)
      have F7 : Fld Z h3 a3 "com/example/ashlar/ashlar/analysis/Bdd" "low" "Lcom/example/ashlar/ashlar/analysis/Bdd;" .null := D3 (Or.inr (own_w hw 14)) (ty := (.object "com/example/ashlar/ashlar/analysis/Bdd")) (by decide)
      have F8 : Fld Z h3 a3 "com/example/ashlar/ashlar/analysis/Bdd" "high" "Lcom/example/ashlar/ashlar/analysis/Bdd;" .null := D3 (Or.inr (own_w hw 16)) (ty := (.object "com/example/ashlar/ashlar/analysis/Bdd")) (by decide)
      have F9 : Fld Z h3 a3 "com/example/ashlar/ashlar/analysis/Bdd" "value" "Z" (.int (0 : Int32)) := D3 (Or.inr (own_w hw 18)) (ty := .boolean) (by decide)
      show own_Go p e below _ (T3.setTop (mkF m 29 #[oI p0, oI p1, oI (0 : Int32), oI (2147483646 : Int32), .unset, .unset, .unset, .unset, .unset, .unset] [(.ref a3)]))
      refine own_via (fun t k => XS.dup X3.here hx rfl (hb hby at_29) rfl rfl k) ?_
      show own_Go p e below _ (T3.setTop (mkF m 30 #[oI p0, oI p1, oI (0 : Int32), oI (2147483646 : Int32), .unset, .unset, .unset, .unset, .unset, .unset] [(.ref a3), (.ref a3)]))
      refine own_via (fun t k => XS.iloadN X3.here hx rfl (hb hby at_30) rfl k) ?_
      show own_Go p e below _ (T3.setTop (mkF m 31 #[oI p0, oI p1, oI (0 : Int32), oI (2147483646 : Int32), .unset, .unset, .unset, .unset, .unset, .unset] [(.int (0 : Int32)), (.ref a3), (.ref a3)]))
      obtain ⟨_, _, ⟨T10, L10, k10, n10⟩, -, X10, ⟨Lc10, hQ10, l10, y10, z10⟩, st10⟩ := X3.specialBack hx (y := (⟨"com/example/ashlar/ashlar/analysis/Bdd", "<init>", "(Z)V"⟩ : MethodName)) rfl hown (mvT hZ (own_w hw 4)) (mvT hZ (own_w hw 5)) (mvT hZ (own_w hw 6)) (by decide) (backOf (W := 1) (rm1 l Z a0 hw [] a3 (0 : Int32) h3 n0 Zs5 fr4 A3 F6 F7 F8 F9 rfl rfl) hZ (own_w hw 6) (own_w hw 3) (by decide) (by decide)) (g := (mkF m 31 #[oI p0, oI p1, oI (0 : Int32), oI (2147483646 : Int32), .unset, .unset, .unset, .unset, .unset, .unset] [(.int (0 : Int32)), (.ref a3), (.ref a3)])) rfl (by rw [hml]; rfl) (Steps.refl _) (a := a3) (argsL := [(.int (0 : Int32))]) (rest := [(.ref a3)]) (lenOf pd_0_0 rfl) rfl (by show 2 * 0 + _ ≤ _; exact Nat.le_of_eq rfl) (hb hby at_31) (fun _ _ => ⟨rfl, e3, (by decide : 1 + 0 ≤ _), (by decide : 4 + 0 ≤ _)⟩)
      dsimp only [Pt.U, Pt.locs, Pt.cells, Pt.slots] at X10 l10 y10 z10 st10 hQ10
      subst l10 y10 z10
      obtain ⟨rfl, Nq10, Kc10, Fc0_10⟩ := hQ10
      have N11 := Fr.app N0 Nq10
      refine own_tr st10 ?_
      have E12 := A3.keep Kc10
      have Zs13 : n0 ≤ T10.heap.size := Nat.le_trans Zs5 Kc10.1
      show own_Go p e below _ (T10.setTop (mkF m 34 #[oI p0, oI p1, oI (0 : Int32), oI (2147483646 : Int32), .unset, .unset, .unset, .unset, .unset, .unset] [(.ref a3)]))
      refine own_via (fun t k => XS.astore X10.here hx rfl (hb hby at_34) rfl rfl (l' := #[oI p0, oI p1, oI (0 : Int32), oI (2147483646 : Int32), oR a3, .unset, .unset, .unset, .unset, .unset]) rfl k) ?_
      show own_Go p e below _ (T10.setTop (mkF m 36 #[oI p0, oI p1, oI (0 : Int32), oI (2147483646 : Int32), oR a3, .unset, .unset, .unset, .unset, .unset] []))
      obtain ⟨T14, h14, X14, e14, E14, A14, D14, -, st14⟩ := newO X10 hx hZ hown (own_w hw 1) (own_w hw 2) (own_w hw 3) rfl (g := (mkF m 36 #[oI p0, oI p1, oI (0 : Int32), oI (2147483646 : Int32), oR a3, .unset, .unset, .unset, .unset, .unset] [])) rfl (hb hby at_36) (by decide) (by decide)
      obtain ⟨a14, g14⟩ : ∃ z, z = T10.heap.size := ⟨_, rfl⟩
      rw [← g14] at A14 D14 st14
      refine own_via st14 ?_
      have lt15 : a3 < a14 := Nat.lt_of_lt_of_le E12.lt (Nat.le_of_eq g14.symm)
      have fr16 : n0 ≤ a14 := Nat.le_trans Zs13 (Nat.le_of_eq g14.symm)
      have E17 := E12.ext E14
      have F18 := Fc0_10.ext E14
      have Zs19 : n0 ≤ h14.size := Nat.le_trans Zs13 E14.1
      have F20 : Fld Z h14 a14 "com/example/ashlar/ashlar/analysis/Bdd" "variable" "I" (.int (0 : Int32)) := D14 (Or.inr (own_w hw 12)) (ty := .int) (by decide)
      have F21 : Fld Z h14 a14 "com/example/ashlar/ashlar/analysis/Bdd" "low" "Lcom/example/ashlar/ashlar/analysis/Bdd;" .null := D14 (Or.inr (own_w hw 14)) (ty := (.object "com/example/ashlar/ashlar/analysis/Bdd")) (by decide)
      have F22 : Fld Z h14 a14 "com/example/ashlar/ashlar/analysis/Bdd" "high" "Lcom/example/ashlar/ashlar/analysis/Bdd;" .null := D14 (Or.inr (own_w hw 16)) (ty := (.object "com/example/ashlar/ashlar/analysis/Bdd")) (by decide)
      have F23 : Fld Z h14 a14 "com/example/ashlar/ashlar/analysis/Bdd" "value" "Z" (.int (0 : Int32)) := D14 (Or.inr (own_w hw 18)) (ty := .boolean) (by decide)
      show own_Go p e below _ (T14.setTop (mkF m 39 #[oI p0, oI p1, oI (0 : Int32), oI (2147483646 : Int32), oR a3, .unset, .unset, .unset, .unset, .unset] [(.ref a14)]))
      refine own_via (fun t k => XS.dup X14.here hx rfl (hb hby at_39) rfl rfl k) ?_
      show own_Go p e below _ (T14.setTop (mkF m 40 #[oI p0, oI p1, oI (0 : Int32), oI (2147483646 : Int32), oR a3, .unset, .unset, .unset, .unset, .unset] [(.ref a14), (.ref a14)]))
      refine own_via (fun t k => XS.iloadN X14.here hx rfl (hb hby at_40) rfl k) ?_
      show own_Go p e below _ (T14.setTop (mkF m 41 #[oI p0, oI p1, oI (0 : Int32), oI (2147483646 : Int32), oR a3, .unset, .unset, .unset, .unset, .unset] [(.int (0 : Int32)), (.ref a14), (.ref a14)]))
      refine own_via (fun t k => XS.ifNo X14.here hx rfl (hb hby at_41) rfl ((if0 _ _).trans (teq (by decide : (0 : Int32) = (0 : Int32))).2) k) ?_
      show own_Go p e below _ (T14.setTop (mkF m 44 #[oI p0, oI p1, oI (0 : Int32), oI (2147483646 : Int32), oR a3, .unset, .unset, .unset, .unset, .unset] [(.ref a14), (.ref a14)]))
      refine own_via (fun t k => XS.iconst X14.here hx rfl (hb hby at_44) k) ?_
      show own_Go p e below _ (T14.setTop (mkF m 45 #[oI p0, oI p1, oI (0 : Int32), oI (2147483646 : Int32), oR a3, .unset, .unset, .unset, .unset, .unset] [(.int (1 : Int32)), (.ref a14), (.ref a14)]))
      refine own_via (fun t k => XS.goto X14.here hx rfl (pc0 := 45) (pc' := 49) rfl (hb hby at_45) (by decide) (by decide) k) ?_
      show own_Go p e below _ (T14.setTop (mkF m 49 #[oI p0, oI p1, oI (0 : Int32), oI (2147483646 : Int32), oR a3, .unset, .unset, .unset, .unset, .unset] [(.int (1 : Int32)), (.ref a14), (.ref a14)]))
      obtain ⟨_, _, ⟨T24, L24, k24, n24⟩, -, X24, ⟨Lc24, hQ24, l24, y24, z24⟩, st24⟩ := X14.specialBack hx (y := (⟨"com/example/ashlar/ashlar/analysis/Bdd", "<init>", "(Z)V"⟩ : MethodName)) rfl hown (mvT hZ (own_w hw 4)) (mvT hZ (own_w hw 5)) (mvT hZ (own_w hw 6)) (by decide) (backOf (W := 1) (rm1 l Z a0 hw [] a14 (1 : Int32) h14 n0 Zs19 fr16 A14 F20 F21 F22 F23 rfl rfl) hZ (own_w hw 6) (own_w hw 3) (by decide) (by decide)) (g := (mkF m 49 #[oI p0, oI p1, oI (0 : Int32), oI (2147483646 : Int32), oR a3, .unset, .unset, .unset, .unset, .unset] [(.int (1 : Int32)), (.ref a14), (.ref a14)])) rfl (by rw [hml]; rfl) (Steps.refl _) (a := a14) (argsL := [(.int (1 : Int32))]) (rest := [(.ref a14)]) (lenOf pd_0_0 rfl) rfl (by show 2 * 0 + _ ≤ _; exact Nat.le_of_eq rfl) (hb hby at_49) (fun _ _ => ⟨rfl, e14, (by decide : 2 + 0 ≤ _), (by decide : 8 + 0 ≤ _)⟩)
      dsimp only [Pt.U, Pt.locs, Pt.cells, Pt.slots] at X24 l24 y24 z24 st24 hQ24
      subst l24 y24 z24
      obtain ⟨rfl, Nq24, Kc24, Fc0_24⟩ := hQ24
      have N25 := Fr.app N11 Nq24
      refine own_tr st24 ?_
      have E26 := E17.keep Kc24
      have F27 := F18.keep Kc24 (ninS (Nat.ne_of_lt lt15) nin0)
      have E28 := A14.keep Kc24
      have Zs29 : n0 ≤ T24.heap.size := Nat.le_trans Zs19 Kc24.1
      show own_Go p e below _ (T24.setTop (mkF m 52 #[oI p0, oI p1, oI (0 : Int32), oI (2147483646 : Int32), oR a3, .unset, .unset, .unset, .unset, .unset] [(.ref a14)]))
      refine own_via (fun t k => XS.astore X24.here hx rfl (hb hby at_52) rfl rfl (l' := #[oI p0, oI p1, oI (0 : Int32), oI (2147483646 : Int32), oR a3, oR a14, .unset, .unset, .unset, .unset]) rfl k) ?_
      show own_Go p e below _ (T24.setTop (mkF m 54 #[oI p0, oI p1, oI (0 : Int32), oI (2147483646 : Int32), oR a3, oR a14, .unset, .unset, .unset, .unset] []))
      obtain ⟨T30, h30, X30, e30, E30, A30, D30, -, st30⟩ := newO X24 hx hZ hown (own_w hw 1) (own_w hw 2) (own_w hw 3) rfl (g := (mkF m 54 #[oI p0, oI p1, oI (0 : Int32), oI (2147483646 : Int32), oR a3, oR a14, .unset, .unset, .unset, .unset] [])) rfl (hb hby at_54) (by decide) (by decide)
      obtain ⟨a30, g30⟩ : ∃ z, z = T24.heap.size := ⟨_, rfl⟩
      rw [← g30] at A30 D30 st30
      refine own_via st30 ?_
      have lt31 : a3 < a30 := Nat.lt_of_lt_of_le E26.lt (Nat.le_of_eq g30.symm)
      have lt32 : a14 < a30 := Nat.lt_of_lt_of_le E28.lt (Nat.le_of_eq g30.symm)
      have fr33 : n0 ≤ a30 := Nat.le_trans Zs29 (Nat.le_of_eq g30.symm)
      have E34 := E26.ext E30
      have F35 := F27.ext E30
      have E36 := E28.ext E30
      have F37 := Fc0_24.ext E30
      have Zs38 : n0 ≤ h30.size := Nat.le_trans Zs29 E30.1
      have F39 : Fld Z h30 a30 "com/example/ashlar/ashlar/analysis/Bdd" "variable" "I" (.int (0 : Int32)) := D30 (Or.inr (own_w hw 12)) (ty := .int) (by decide)
      have F40 : Fld Z h30 a30 "com/example/ashlar/ashlar/analysis/Bdd" "low" "Lcom/example/ashlar/ashlar/analysis/Bdd;" .null := D30 (Or.inr (own_w hw 14)) (ty := (.object "com/example/ashlar/ashlar/analysis/Bdd")) (by decide)
      have F41 : Fld Z h30 a30 "com/example/ashlar/ashlar/analysis/Bdd" "high" "Lcom/example/ashlar/ashlar/analysis/Bdd;" .null := D30 (Or.inr (own_w hw 16)) (ty := (.object "com/example/ashlar/ashlar/analysis/Bdd")) (by decide)
      have F42 : Fld Z h30 a30 "com/example/ashlar/ashlar/analysis/Bdd" "value" "Z" (.int (0 : Int32)) := D30 (Or.inr (own_w hw 18)) (ty := .boolean) (by decide)
      show own_Go p e below _ (T30.setTop (mkF m 57 #[oI p0, oI p1, oI (0 : Int32), oI (2147483646 : Int32), oR a3, oR a14, .unset, .unset, .unset, .unset] [(.ref a30)]))
      refine own_via (fun t k => XS.dup X30.here hx rfl (hb hby at_57) rfl rfl k) ?_
      show own_Go p e below _ (T30.setTop (mkF m 58 #[oI p0, oI p1, oI (0 : Int32), oI (2147483646 : Int32), oR a3, oR a14, .unset, .unset, .unset, .unset] [(.ref a30), (.ref a30)]))
      refine own_via (fun t k => XS.iloadN X30.here hx rfl (hb hby at_58) rfl k) ?_
      show own_Go p e below _ (T30.setTop (mkF m 59 #[oI p0, oI p1, oI (0 : Int32), oI (2147483646 : Int32), oR a3, oR a14, .unset, .unset, .unset, .unset] [(.int (2147483646 : Int32)), (.ref a30), (.ref a30)]))
      refine own_via (fun t k => XS.aload X30.here hx rfl (hb hby at_59) rfl rfl k) ?_
      show own_Go p e below _ (T30.setTop (mkF m 61 #[oI p0, oI p1, oI (0 : Int32), oI (2147483646 : Int32), oR a3, oR a14, .unset, .unset, .unset, .unset] [(.ref a14), (.int (2147483646 : Int32)), (.ref a30), (.ref a30)]))
      refine own_via (fun t k => XS.aload X30.here hx rfl (hb hby at_61) rfl rfl k) ?_
      show own_Go p e below _ (T30.setTop (mkF m 63 #[oI p0, oI p1, oI (0 : Int32), oI (2147483646 : Int32), oR a3, oR a14, .unset, .unset, .unset, .unset] [(.ref a3), (.ref a14), (.int (2147483646 : Int32)), (.ref a30), (.ref a30)]))
      obtain ⟨_, _, ⟨T43, L43, k43, n43⟩, -, X43, ⟨Lc43, hQ43, l43, y43, z43⟩, st43⟩ := X30.specialBack hx (y := (⟨"com/example/ashlar/ashlar/analysis/Bdd", "<init>", "(ILcom/example/ashlar/ashlar/analysis/Bdd;Lcom/example/ashlar/ashlar/analysis/Bdd;)V"⟩ : MethodName)) rfl hown (mvT hZ (own_w hw 19)) (mvT hZ (own_w hw 20)) (mvT hZ (own_w hw 21)) (by decide) (backOf (W := 1) (rm3 l Z a0 hw [] a30 (2147483646 : Int32) a14 a3 h30 n0 Zs38 fr33 A30 F39 F40 F41 F42) hZ (own_w hw 21) (own_w hw 3) (by decide) (by decide)) (g := (mkF m 63 #[oI p0, oI p1, oI (0 : Int32), oI (2147483646 : Int32), oR a3, oR a14, .unset, .unset, .unset, .unset] [(.ref a3), (.ref a14), (.int (2147483646 : Int32)), (.ref a30), (.ref a30)])) rfl (by rw [hml]; rfl) (Steps.refl _) (a := a30) (argsL := [(.int (2147483646 : Int32)), (.ref a14), (.ref a3)]) (rest := [(.ref a30)]) (lenOf pd_0_1 rfl) rfl (by show 2 * 0 + _ ≤ _; exact Nat.le_of_eq rfl) (hb hby at_63) (fun _ _ => ⟨rfl, e30, (by decide : 3 + 0 ≤ _), (by decide : 12 + 0 ≤ _)⟩)
      dsimp only [Pt.U, Pt.locs, Pt.cells, Pt.slots] at X43 l43 y43 z43 st43 hQ43
      subst l43 y43 z43
      obtain ⟨rfl, Nq43, Kc43, Fc0_43⟩ := hQ43
      have N44 := Fr.app N25 Nq43
      refine own_tr st43 ?_
      have E45 := E34.keep Kc43
      have F46 := F35.keep Kc43 (ninS (Nat.ne_of_lt lt31) nin0)
      have E47 := E36.keep Kc43
      have F48 := F37.keep Kc43 (ninS (Nat.ne_of_lt lt32) nin0)
      have E49 := A30.keep Kc43
      have Zs50 : n0 ≤ T43.heap.size := Nat.le_trans Zs38 Kc43.1
      show own_Go p e below _ (T43.setTop (mkF m 66 #[oI p0, oI p1, oI (0 : Int32), oI (2147483646 : Int32), oR a3, oR a14, .unset, .unset, .unset, .unset] [(.ref a30)]))
      refine own_via (fun t k => XS.astore X43.here hx rfl (hb hby at_66) rfl rfl (l' := #[oI p0, oI p1, oI (0 : Int32), oI (2147483646 : Int32), oR a3, oR a14, oR a30, .unset, .unset, .unset]) rfl k) ?_
      show own_Go p e below _ (T43.setTop (mkF m 68 #[oI p0, oI p1, oI (0 : Int32), oI (2147483646 : Int32), oR a3, oR a14, oR a30, .unset, .unset, .unset] []))
      refine own_via (fun t k => XS.aload X43.here hx rfl (hb hby at_68) rfl rfl k) ?_
      show own_Go p e below _ (T43.setTop (mkF m 70 #[oI p0, oI p1, oI (0 : Int32), oI (2147483646 : Int32), oR a3, oR a14, oR a30, .unset, .unset, .unset] [(.ref a3)]))
      obtain ⟨cq51, kq51, qa51, qb51, qc51⟩ := isOf hZ rfl E45
      obtain ⟨_, _, ⟨T51, L51, k51, n51⟩, -, X51, ⟨Lc51, hQ51, l51, y51, z51⟩, st51⟩ := X43.virtualBack hx (y := (⟨"com/example/ashlar/ashlar/analysis/Bdd", "isTerminal", "()Z"⟩ : MethodName)) (z := (⟨"com/example/ashlar/ashlar/analysis/Bdd", "isTerminal", "()Z"⟩ : MethodName)) hown (mvT hZ (own_w hw 22)) (mvT hZ (own_w hw 23)) (notFace_of_selects (args := #[]) (mvT hZ (own_w hw 25))) (mvT hZ (own_w hw 25)) (mvT hZ (own_w hw 24)) (by decide) (backOf (W := 0) (rm4 l Z a0 hw [] a3 (2147483647 : Int32) (1 : Int32) T43.heap n0 Zs50 F46 (by unfold f4; rw [if_pos (by decide : (2147483647 : Int32) = (2147483647 : Int32))])) hZ (own_w hw 26) (own_w hw 3) (by decide) (by decide)) qa51 qc51 (g := (mkF m 70 #[oI p0, oI p1, oI (0 : Int32), oI (2147483646 : Int32), oR a3, oR a14, oR a30, .unset, .unset, .unset] [(.ref a3)])) rfl (by rw [hml]; rfl) (Steps.refl _) (argsL := []) (rest := []) (lenOf pd_0_2 rfl) rfl (by show 2 * 0 + _ ≤ _; exact Nat.le_of_eq rfl) (hb hby at_70) (fun _ _ => ⟨rfl, rfl, (by decide : 3 + 0 ≤ _), (by decide : 12 + 0 ≤ _)⟩)
      dsimp only [Pt.U, Pt.locs, Pt.cells, Pt.slots] at X51 l51 y51 z51 st51 hQ51
      subst l51 y51 z51
      obtain ⟨rfl, Nq51, e51⟩ := hQ51
      have N52 := Fr.app N44 Nq51
      refine own_tr st51 ?_
      show own_Go p e below _ (T51.setTop (mkF m 73 #[oI p0, oI p1, oI (0 : Int32), oI (2147483646 : Int32), oR a3, oR a14, oR a30, .unset, .unset, .unset] [(.int (1 : Int32))]))
      refine own_via (fun t k => XS.ifNo X51.here hx rfl (hb hby at_73) rfl ((if0 _ _).trans (feq (by decide : ¬ ((1 : Int32) = (0 : Int32)))).1) k) ?_
      show own_Go p e below _ (T51.setTop (mkF m 76 #[oI p0, oI p1, oI (0 : Int32), oI (2147483646 : Int32), oR a3, oR a14, oR a30, .unset, .unset, .unset] []))
      refine own_via (fun t k => XS.aload X51.here hx rfl (hb hby at_76) rfl rfl k) ?_
      show own_Go p e below _ (T51.setTop (mkF m 78 #[oI p0, oI p1, oI (0 : Int32), oI (2147483646 : Int32), oR a3, oR a14, oR a30, .unset, .unset, .unset] [(.ref a14)]))
      obtain ⟨cq53, kq53, qa53, qb53, qc53⟩ := isOf hZ e51 E47
      obtain ⟨_, _, ⟨T53, L53, k53, n53⟩, -, X53, ⟨Lc53, hQ53, l53, y53, z53⟩, st53⟩ := X51.virtualBack hx (y := (⟨"com/example/ashlar/ashlar/analysis/Bdd", "isTerminal", "()Z"⟩ : MethodName)) (z := (⟨"com/example/ashlar/ashlar/analysis/Bdd", "isTerminal", "()Z"⟩ : MethodName)) hown (mvT hZ (own_w hw 22)) (mvT hZ (own_w hw 23)) (notFace_of_selects (args := #[]) (mvT hZ (own_w hw 25))) (mvT hZ (own_w hw 25)) (mvT hZ (own_w hw 24)) (by decide) (backOf (W := 0) (rm4 l Z a0 hw [] a14 (2147483647 : Int32) (1 : Int32) T43.heap n0 Zs50 F48 (by unfold f4; rw [if_pos (by decide : (2147483647 : Int32) = (2147483647 : Int32))])) hZ (own_w hw 26) (own_w hw 3) (by decide) (by decide)) qa53 qc53 (g := (mkF m 78 #[oI p0, oI p1, oI (0 : Int32), oI (2147483646 : Int32), oR a3, oR a14, oR a30, .unset, .unset, .unset] [(.ref a14)])) rfl (by rw [hml]; rfl) (Steps.refl _) (argsL := []) (rest := []) (lenOf pd_0_2 rfl) rfl (by show 2 * 0 + _ ≤ _; exact Nat.le_of_eq rfl) (hb hby at_78) (fun _ _ => ⟨rfl, e51, (by decide : 3 + 0 ≤ _), (by decide : 12 + 0 ≤ _)⟩)
      dsimp only [Pt.U, Pt.locs, Pt.cells, Pt.slots] at X53 l53 y53 z53 st53 hQ53
      subst l53 y53 z53
      obtain ⟨rfl, Nq53, e53⟩ := hQ53
      have N54 := Fr.app N52 Nq53
      refine own_tr st53 ?_
      show own_Go p e below _ (T53.setTop (mkF m 81 #[oI p0, oI p1, oI (0 : Int32), oI (2147483646 : Int32), oR a3, oR a14, oR a30, .unset, .unset, .unset] [(.int (1 : Int32))]))
      refine own_via (fun t k => XS.ifNo X53.here hx rfl (hb hby at_81) rfl ((if0 _ _).trans (feq (by decide : ¬ ((1 : Int32) = (0 : Int32)))).1) k) ?_
      show own_Go p e below _ (T53.setTop (mkF m 84 #[oI p0, oI p1, oI (0 : Int32), oI (2147483646 : Int32), oR a3, oR a14, oR a30, .unset, .unset, .unset] []))
      refine own_via (fun t k => XS.iconst X53.here hx rfl (hb hby at_84) k) ?_
      show own_Go p e below _ (T53.setTop (mkF m 85 #[oI p0, oI p1, oI (0 : Int32), oI (2147483646 : Int32), oR a3, oR a14, oR a30, .unset, .unset, .unset] [(.int (1 : Int32))]))
      refine own_via (fun t k => XS.goto X53.here hx rfl (pc0 := 85) (pc' := 89) rfl (hb hby at_85) (by decide) (by decide) k) ?_
      show own_Go p e below _ (T53.setTop (mkF m 89 #[oI p0, oI p1, oI (0 : Int32), oI (2147483646 : Int32), oR a3, oR a14, oR a30, .unset, .unset, .unset] [(.int (1 : Int32))]))
      refine own_via (fun t k => XS.istore X53.here hx rfl (hb hby at_89) rfl (l' := #[oI p0, oI p1, oI (0 : Int32), oI (2147483646 : Int32), oR a3, oR a14, oR a30, oI (1 : Int32), .unset, .unset]) rfl k) ?_
      show own_Go p e below _ (T53.setTop (mkF m 91 #[oI p0, oI p1, oI (0 : Int32), oI (2147483646 : Int32), oR a3, oR a14, oR a30, oI (1 : Int32), .unset, .unset] []))
      refine own_via (fun t k => XS.aload X53.here hx rfl (hb hby at_91) rfl rfl k) ?_
      show own_Go p e below _ (T53.setTop (mkF m 93 #[oI p0, oI p1, oI (0 : Int32), oI (2147483646 : Int32), oR a3, oR a14, oR a30, oI (1 : Int32), .unset, .unset] [(.ref a30)]))
      obtain ⟨cq55, kq55, qa55, qb55, qc55⟩ := isOf hZ e53 E49
      obtain ⟨_, _, ⟨T55, L55, k55, n55⟩, -, X55, ⟨Lc55, hQ55, l55, y55, z55⟩, st55⟩ := X53.virtualBack hx (y := (⟨"com/example/ashlar/ashlar/analysis/Bdd", "isTerminal", "()Z"⟩ : MethodName)) (z := (⟨"com/example/ashlar/ashlar/analysis/Bdd", "isTerminal", "()Z"⟩ : MethodName)) hown (mvT hZ (own_w hw 22)) (mvT hZ (own_w hw 23)) (notFace_of_selects (args := #[]) (mvT hZ (own_w hw 25))) (mvT hZ (own_w hw 25)) (mvT hZ (own_w hw 24)) (by decide) (backOf (W := 0) (rm4 l Z a0 hw [] a30 (2147483646 : Int32) (0 : Int32) T43.heap n0 Zs50 Fc0_43 (by unfold f4; rw [if_neg (by decide : ¬ ((2147483646 : Int32) = (2147483647 : Int32)))])) hZ (own_w hw 26) (own_w hw 3) (by decide) (by decide)) qa55 qc55 (g := (mkF m 93 #[oI p0, oI p1, oI (0 : Int32), oI (2147483646 : Int32), oR a3, oR a14, oR a30, oI (1 : Int32), .unset, .unset] [(.ref a30)])) rfl (by rw [hml]; rfl) (Steps.refl _) (argsL := []) (rest := []) (lenOf pd_0_2 rfl) rfl (by show 2 * 0 + _ ≤ _; exact Nat.le_of_eq rfl) (hb hby at_93) (fun _ _ => ⟨rfl, e53, (by decide : 3 + 0 ≤ _), (by decide : 12 + 0 ≤ _)⟩)
      dsimp only [Pt.U, Pt.locs, Pt.cells, Pt.slots] at X55 l55 y55 z55 st55 hQ55
      subst l55 y55 z55
      obtain ⟨rfl, Nq55, e55⟩ := hQ55
      have N56 := Fr.app N54 Nq55
      refine own_tr st55 ?_
      show own_Go p e below _ (T55.setTop (mkF m 96 #[oI p0, oI p1, oI (0 : Int32), oI (2147483646 : Int32), oR a3, oR a14, oR a30, oI (1 : Int32), .unset, .unset] [(.int (0 : Int32))]))
      refine own_via (fun t k => XS.ifNo X55.here hx rfl (hb hby at_96) rfl ((if0 _ _).trans (teq (by decide : (0 : Int32) = (0 : Int32))).2) k) ?_
      show own_Go p e below _ (T55.setTop (mkF m 99 #[oI p0, oI p1, oI (0 : Int32), oI (2147483646 : Int32), oR a3, oR a14, oR a30, oI (1 : Int32), .unset, .unset] []))
      refine own_via (fun t k => XS.iconst X55.here hx rfl (hb hby at_99) k) ?_
      show own_Go p e below _ (T55.setTop (mkF m 100 #[oI p0, oI p1, oI (0 : Int32), oI (2147483646 : Int32), oR a3, oR a14, oR a30, oI (1 : Int32), .unset, .unset] [(.int (1 : Int32))]))
      refine own_via (fun t k => XS.goto X55.here hx rfl (pc0 := 100) (pc' := 104) rfl (hb hby at_100) (by decide) (by decide) k) ?_
      show own_Go p e below _ (T55.setTop (mkF m 104 #[oI p0, oI p1, oI (0 : Int32), oI (2147483646 : Int32), oR a3, oR a14, oR a30, oI (1 : Int32), .unset, .unset] [(.int (1 : Int32))]))
      refine own_via (fun t k => XS.istore X55.here hx rfl (hb hby at_104) rfl (l' := #[oI p0, oI p1, oI (0 : Int32), oI (2147483646 : Int32), oR a3, oR a14, oR a30, oI (1 : Int32), oI (1 : Int32), .unset]) rfl k) ?_
      show own_Go p e below _ (T55.setTop (mkF m 106 #[oI p0, oI p1, oI (0 : Int32), oI (2147483646 : Int32), oR a3, oR a14, oR a30, oI (1 : Int32), oI (1 : Int32), .unset] []))
      refine own_via (fun t k => XS.aload X55.here hx rfl (hb hby at_106) rfl rfl k) ?_
      show own_Go p e below _ (T55.setTop (mkF m 108 #[oI p0, oI p1, oI (0 : Int32), oI (2147483646 : Int32), oR a3, oR a14, oR a30, oI (1 : Int32), oI (1 : Int32), .unset] [(.ref a3)]))
      obtain ⟨cq57, kq57, qa57, qb57, qc57⟩ := isOf hZ e55 E45
      obtain ⟨_, _, ⟨T57, L57, k57, n57⟩, -, X57, ⟨Lc57, hQ57, l57, y57, z57⟩, st57⟩ := X55.virtualBack hx (y := (⟨"com/example/ashlar/ashlar/analysis/Bdd", "variable", "()I"⟩ : MethodName)) (z := (⟨"com/example/ashlar/ashlar/analysis/Bdd", "variable", "()I"⟩ : MethodName)) hown (mvT hZ (own_w hw 27)) (mvT hZ (own_w hw 28)) (notFace_of_selects (args := #[]) (mvT hZ (own_w hw 30))) (mvT hZ (own_w hw 30)) (mvT hZ (own_w hw 29)) (by decide) (backOf (W := 0) (rm5 l Z a0 hw [] a3 (2147483647 : Int32) (2147483647 : Int32) T43.heap n0 Zs50 F46 (by unfold f5; rfl)) hZ (own_w hw 31) (own_w hw 3) (by decide) (by decide)) qa57 qc57 (g := (mkF m 108 #[oI p0, oI p1, oI (0 : Int32), oI (2147483646 : Int32), oR a3, oR a14, oR a30, oI (1 : Int32), oI (1 : Int32), .unset] [(.ref a3)])) rfl (by rw [hml]; rfl) (Steps.refl _) (argsL := []) (rest := []) (lenOf pd_0_3 rfl) rfl (by show 2 * 0 + _ ≤ _; exact Nat.le_of_eq rfl) (hb hby at_108) (fun _ _ => ⟨rfl, e55, (by decide : 3 + 0 ≤ _), (by decide : 12 + 0 ≤ _)⟩)
      dsimp only [Pt.U, Pt.locs, Pt.cells, Pt.slots] at X57 l57 y57 z57 st57 hQ57
      subst l57 y57 z57
      obtain ⟨rfl, Nq57, e57⟩ := hQ57
      have N58 := Fr.app N56 Nq57
      refine own_tr st57 ?_
      show own_Go p e below _ (T57.setTop (mkF m 111 #[oI p0, oI p1, oI (0 : Int32), oI (2147483646 : Int32), oR a3, oR a14, oR a30, oI (1 : Int32), oI (1 : Int32), .unset] [(.int (2147483647 : Int32))]))
      refine own_via (fun t k => X57.ldcInt hx hown (mvT hZ (own_w hw 0)) (g := (mkF m 111 #[oI p0, oI p1, oI (0 : Int32), oI (2147483646 : Int32), oR a3, oR a14, oR a30, oI (1 : Int32), oI (1 : Int32), .unset] [(.int (2147483647 : Int32))])) rfl (hb hby at_111) t k) ?_
      show own_Go p e below _ (T57.setTop (mkF m 113 #[oI p0, oI p1, oI (0 : Int32), oI (2147483646 : Int32), oR a3, oR a14, oR a30, oI (1 : Int32), oI (1 : Int32), .unset] [(.int (2147483647 : Int32)), (.int (2147483647 : Int32))]))
      refine own_via (fun t k => XS.icmpNo X57.here hx rfl (hb hby at_113) rfl (teq (by decide : (2147483647 : Int32) = (2147483647 : Int32))).2 k) ?_
      show own_Go p e below _ (T57.setTop (mkF m 116 #[oI p0, oI p1, oI (0 : Int32), oI (2147483646 : Int32), oR a3, oR a14, oR a30, oI (1 : Int32), oI (1 : Int32), .unset] []))
      refine own_via (fun t k => XS.aload X57.here hx rfl (hb hby at_116) rfl rfl k) ?_
      show own_Go p e below _ (T57.setTop (mkF m 118 #[oI p0, oI p1, oI (0 : Int32), oI (2147483646 : Int32), oR a3, oR a14, oR a30, oI (1 : Int32), oI (1 : Int32), .unset] [(.ref a30)]))
      obtain ⟨cq59, kq59, qa59, qb59, qc59⟩ := isOf hZ e57 E49
      obtain ⟨_, _, ⟨T59, L59, k59, n59⟩, -, X59, ⟨Lc59, hQ59, l59, y59, z59⟩, st59⟩ := X57.virtualBack hx (y := (⟨"com/example/ashlar/ashlar/analysis/Bdd", "variable", "()I"⟩ : MethodName)) (z := (⟨"com/example/ashlar/ashlar/analysis/Bdd", "variable", "()I"⟩ : MethodName)) hown (mvT hZ (own_w hw 27)) (mvT hZ (own_w hw 28)) (notFace_of_selects (args := #[]) (mvT hZ (own_w hw 30))) (mvT hZ (own_w hw 30)) (mvT hZ (own_w hw 29)) (by decide) (backOf (W := 0) (rm5 l Z a0 hw [] a30 (2147483646 : Int32) (2147483646 : Int32) T43.heap n0 Zs50 Fc0_43 (by unfold f5; rfl)) hZ (own_w hw 31) (own_w hw 3) (by decide) (by decide)) qa59 qc59 (g := (mkF m 118 #[oI p0, oI p1, oI (0 : Int32), oI (2147483646 : Int32), oR a3, oR a14, oR a30, oI (1 : Int32), oI (1 : Int32), .unset] [(.ref a30)])) rfl (by rw [hml]; rfl) (Steps.refl _) (argsL := []) (rest := []) (lenOf pd_0_3 rfl) rfl (by show 2 * 0 + _ ≤ _; exact Nat.le_of_eq rfl) (hb hby at_118) (fun _ _ => ⟨rfl, e57, (by decide : 3 + 0 ≤ _), (by decide : 12 + 0 ≤ _)⟩)
      dsimp only [Pt.U, Pt.locs, Pt.cells, Pt.slots] at X59 l59 y59 z59 st59 hQ59
      subst l59 y59 z59
      obtain ⟨rfl, Nq59, e59⟩ := hQ59
      have N60 := Fr.app N58 Nq59
      refine own_tr st59 ?_
      show own_Go p e below _ (T59.setTop (mkF m 121 #[oI p0, oI p1, oI (0 : Int32), oI (2147483646 : Int32), oR a3, oR a14, oR a30, oI (1 : Int32), oI (1 : Int32), .unset] [(.int (2147483646 : Int32))]))
      refine own_via (fun t k => XS.iloadN X59.here hx rfl (hb hby at_121) rfl k) ?_
      show own_Go p e below _ (T59.setTop (mkF m 122 #[oI p0, oI p1, oI (0 : Int32), oI (2147483646 : Int32), oR a3, oR a14, oR a30, oI (1 : Int32), oI (1 : Int32), .unset] [(.int (2147483646 : Int32)), (.int (2147483646 : Int32))]))
      refine own_via (fun t k => XS.icmpNo X59.here hx rfl (hb hby at_122) rfl (teq (by decide : (2147483646 : Int32) = (2147483646 : Int32))).2 k) ?_
      show own_Go p e below _ (T59.setTop (mkF m 125 #[oI p0, oI p1, oI (0 : Int32), oI (2147483646 : Int32), oR a3, oR a14, oR a30, oI (1 : Int32), oI (1 : Int32), .unset] []))
      refine own_via (fun t k => XS.iconst X59.here hx rfl (hb hby at_125) k) ?_
      show own_Go p e below _ (T59.setTop (mkF m 126 #[oI p0, oI p1, oI (0 : Int32), oI (2147483646 : Int32), oR a3, oR a14, oR a30, oI (1 : Int32), oI (1 : Int32), .unset] [(.int (1 : Int32))]))
      refine own_via (fun t k => XS.goto X59.here hx rfl (pc0 := 126) (pc' := 130) rfl (hb hby at_126) (by decide) (by decide) k) ?_
      show own_Go p e below _ (T59.setTop (mkF m 130 #[oI p0, oI p1, oI (0 : Int32), oI (2147483646 : Int32), oR a3, oR a14, oR a30, oI (1 : Int32), oI (1 : Int32), .unset] [(.int (1 : Int32))]))
      refine own_via (fun t k => XS.istore X59.here hx rfl (hb hby at_130) rfl (l' := #[oI p0, oI p1, oI (0 : Int32), oI (2147483646 : Int32), oR a3, oR a14, oR a30, oI (1 : Int32), oI (1 : Int32), oI (1 : Int32)]) rfl k) ?_
      show own_Go p e below _ (T59.setTop (mkF m 132 #[oI p0, oI p1, oI (0 : Int32), oI (2147483646 : Int32), oR a3, oR a14, oR a30, oI (1 : Int32), oI (1 : Int32), oI (1 : Int32)] []))
      refine own_via (fun t k => XS.iload X59.here hx rfl (hb hby at_132) rfl k) ?_
      show own_Go p e below _ (T59.setTop (mkF m 134 #[oI p0, oI p1, oI (0 : Int32), oI (2147483646 : Int32), oR a3, oR a14, oR a30, oI (1 : Int32), oI (1 : Int32), oI (1 : Int32)] [(.int (1 : Int32))]))
      refine own_via (fun t k => XS.ifNo X59.here hx rfl (hb hby at_134) rfl ((if0 _ _).trans (feq (by decide : ¬ ((1 : Int32) = (0 : Int32)))).1) k) ?_
      show own_Go p e below _ (T59.setTop (mkF m 137 #[oI p0, oI p1, oI (0 : Int32), oI (2147483646 : Int32), oR a3, oR a14, oR a30, oI (1 : Int32), oI (1 : Int32), oI (1 : Int32)] []))
      refine own_via (fun t k => XS.iload X59.here hx rfl (hb hby at_137) rfl k) ?_
      show own_Go p e below _ (T59.setTop (mkF m 139 #[oI p0, oI p1, oI (0 : Int32), oI (2147483646 : Int32), oR a3, oR a14, oR a30, oI (1 : Int32), oI (1 : Int32), oI (1 : Int32)] [(.int (1 : Int32))]))
      refine own_via (fun t k => XS.ifNo X59.here hx rfl (hb hby at_139) rfl ((if0 _ _).trans (feq (by decide : ¬ ((1 : Int32) = (0 : Int32)))).1) k) ?_
      show own_Go p e below _ (T59.setTop (mkF m 142 #[oI p0, oI p1, oI (0 : Int32), oI (2147483646 : Int32), oR a3, oR a14, oR a30, oI (1 : Int32), oI (1 : Int32), oI (1 : Int32)] []))
      refine own_via (fun t k => XS.iload X59.here hx rfl (hb hby at_142) rfl k) ?_
      show own_Go p e below _ (T59.setTop (mkF m 144 #[oI p0, oI p1, oI (0 : Int32), oI (2147483646 : Int32), oR a3, oR a14, oR a30, oI (1 : Int32), oI (1 : Int32), oI (1 : Int32)] [(.int (1 : Int32))]))
      refine own_via (fun t k => XS.ifNo X59.here hx rfl (hb hby at_144) rfl ((if0 _ _).trans (feq (by decide : ¬ ((1 : Int32) = (0 : Int32)))).1) k) ?_
      show own_Go p e below _ (T59.setTop (mkF m 147 #[oI p0, oI p1, oI (0 : Int32), oI (2147483646 : Int32), oR a3, oR a14, oR a30, oI (1 : Int32), oI (1 : Int32), oI (1 : Int32)] []))
      refine own_via (fun t k => XS.iconst X59.here hx rfl (hb hby at_147) k) ?_
      show own_Go p e below _ (T59.setTop (mkF m 148 #[oI p0, oI p1, oI (0 : Int32), oI (2147483646 : Int32), oR a3, oR a14, oR a30, oI (1 : Int32), oI (1 : Int32), oI (1 : Int32)] [(.int (1 : Int32))]))
      refine own_via (fun t k => XS.goto X59.here hx rfl (pc0 := 148) (pc' := 152) rfl (hb hby at_148) (by decide) (by decide) k) ?_
      show own_Go p e below _ (T59.setTop (mkF m 152 #[oI p0, oI p1, oI (0 : Int32), oI (2147483646 : Int32), oR a3, oR a14, oR a30, oI (1 : Int32), oI (1 : Int32), oI (1 : Int32)] [(.int (1 : Int32))]))
      obtain ⟨fs, hr, hrun, hended, hW, hsame⟩ := X59.leave (v := some (.int (1 : Int32))) (fun h => by rw [Bd.returns] at h; cases h)
      refine ⟨_, _, retN X59 hx (t := .boolean) Bd.returns (by simp) (hb hby at_152) hr, hrun, hended, _, _, rfl, ?_, ⟨_, rfl⟩, hW, hsame.mono (by decide) (by decide)⟩
      show Q0 Z p0 p1 h0 n0 _ T59.heap _
      rw [e59]
      exact ⟨rfl, N60⟩
    · refine own_via (fun t k => XS.icmpYes X0.here hx rfl (pc0 := 20) (pc' := 26) rfl (hb hby at_20) rfl (feq hc20_2).2 (by decide) (by decide) k) ?_
      show own_Go p e below _ (s₁.setTop (mkF m 26 #[oI p0, oI p1, oI (0 : Int32), oI (p1 &&& (2147483647 : Int32)), .unset, .unset, .unset, .unset, .unset, .unset] []))
      obtain ⟨T62, h62, X62, e62, E62, A62, D62, -, st62⟩ := newO X0 hx hZ hown (own_w hw 1) (own_w hw 2) (own_w hw 3) e0 (g := (mkF m 26 #[oI p0, oI p1, oI (0 : Int32), oI (p1 &&& (2147483647 : Int32)), .unset, .unset, .unset, .unset, .unset, .unset] [])) rfl (hb hby at_26) (by decide) (by decide)
      obtain ⟨a62, g62⟩ : ∃ z, z = h0.size := ⟨_, rfl⟩
      rw [← g62] at A62 D62 st62
      refine own_via st62 ?_
      have fr63 : n0 ≤ a62 := Nat.le_trans Z0 (Nat.le_of_eq g62.symm)
      have Zs64 : n0 ≤ h62.size := Nat.le_trans Z0 E62.1
      have F65 : Fld Z h62 a62 "com/example/ashlar/ashlar/analysis/Bdd" "variable" "I" (.int (0 : Int32)) := D62 (Or.inr (own_w hw 12)) (ty := .int) (by decide)
      have F66 : Fld Z h62 a62 "com/example/ashlar/ashlar/analysis/Bdd" "low" "Lcom/example/ashlar/ashlar/analysis/Bdd;" .null := D62 (Or.inr (own_w hw 14)) (ty := (.object "com/example/ashlar/ashlar/analysis/Bdd")) (by decide)
      have F67 : Fld Z h62 a62 "com/example/ashlar/ashlar/analysis/Bdd" "high" "Lcom/example/ashlar/ashlar/analysis/Bdd;" .null := D62 (Or.inr (own_w hw 16)) (ty := (.object "com/example/ashlar/ashlar/analysis/Bdd")) (by decide)
      have F68 : Fld Z h62 a62 "com/example/ashlar/ashlar/analysis/Bdd" "value" "Z" (.int (0 : Int32)) := D62 (Or.inr (own_w hw 18)) (ty := .boolean) (by decide)
      show own_Go p e below _ (T62.setTop (mkF m 29 #[oI p0, oI p1, oI (0 : Int32), oI (p1 &&& (2147483647 : Int32)), .unset, .unset, .unset, .unset, .unset, .unset] [(.ref a62)]))
      refine own_via (fun t k => XS.dup X62.here hx rfl (hb hby at_29) rfl rfl k) ?_
      show own_Go p e below _ (T62.setTop (mkF m 30 #[oI p0, oI p1, oI (0 : Int32), oI (p1 &&& (2147483647 : Int32)), .unset, .unset, .unset, .unset, .unset, .unset] [(.ref a62), (.ref a62)]))
      refine own_via (fun t k => XS.iloadN X62.here hx rfl (hb hby at_30) rfl k) ?_
      show own_Go p e below _ (T62.setTop (mkF m 31 #[oI p0, oI p1, oI (0 : Int32), oI (p1 &&& (2147483647 : Int32)), .unset, .unset, .unset, .unset, .unset, .unset] [(.int (0 : Int32)), (.ref a62), (.ref a62)]))
      obtain ⟨_, _, ⟨T69, L69, k69, n69⟩, -, X69, ⟨Lc69, hQ69, l69, y69, z69⟩, st69⟩ := X62.specialBack hx (y := (⟨"com/example/ashlar/ashlar/analysis/Bdd", "<init>", "(Z)V"⟩ : MethodName)) rfl hown (mvT hZ (own_w hw 4)) (mvT hZ (own_w hw 5)) (mvT hZ (own_w hw 6)) (by decide) (backOf (W := 1) (rm1 l Z a0 hw [] a62 (0 : Int32) h62 n0 Zs64 fr63 A62 F65 F66 F67 F68 rfl rfl) hZ (own_w hw 6) (own_w hw 3) (by decide) (by decide)) (g := (mkF m 31 #[oI p0, oI p1, oI (0 : Int32), oI (p1 &&& (2147483647 : Int32)), .unset, .unset, .unset, .unset, .unset, .unset] [(.int (0 : Int32)), (.ref a62), (.ref a62)])) rfl (by rw [hml]; rfl) (Steps.refl _) (a := a62) (argsL := [(.int (0 : Int32))]) (rest := [(.ref a62)]) (lenOf pd_0_0 rfl) rfl (by show 2 * 0 + _ ≤ _; exact Nat.le_of_eq rfl) (hb hby at_31) (fun _ _ => ⟨rfl, e62, (by decide : 1 + 0 ≤ _), (by decide : 4 + 0 ≤ _)⟩)
      dsimp only [Pt.U, Pt.locs, Pt.cells, Pt.slots] at X69 l69 y69 z69 st69 hQ69
      subst l69 y69 z69
      obtain ⟨rfl, Nq69, Kc69, Fc0_69⟩ := hQ69
      have N70 := Fr.app N0 Nq69
      refine own_tr st69 ?_
      have E71 := A62.keep Kc69
      have Zs72 : n0 ≤ T69.heap.size := Nat.le_trans Zs64 Kc69.1
      show own_Go p e below _ (T69.setTop (mkF m 34 #[oI p0, oI p1, oI (0 : Int32), oI (p1 &&& (2147483647 : Int32)), .unset, .unset, .unset, .unset, .unset, .unset] [(.ref a62)]))
      refine own_via (fun t k => XS.astore X69.here hx rfl (hb hby at_34) rfl rfl (l' := #[oI p0, oI p1, oI (0 : Int32), oI (p1 &&& (2147483647 : Int32)), oR a62, .unset, .unset, .unset, .unset, .unset]) rfl k) ?_
      show own_Go p e below _ (T69.setTop (mkF m 36 #[oI p0, oI p1, oI (0 : Int32), oI (p1 &&& (2147483647 : Int32)), oR a62, .unset, .unset, .unset, .unset, .unset] []))
      obtain ⟨T73, h73, X73, e73, E73, A73, D73, -, st73⟩ := newO X69 hx hZ hown (own_w hw 1) (own_w hw 2) (own_w hw 3) rfl (g := (mkF m 36 #[oI p0, oI p1, oI (0 : Int32), oI (p1 &&& (2147483647 : Int32)), oR a62, .unset, .unset, .unset, .unset, .unset] [])) rfl (hb hby at_36) (by decide) (by decide)
      obtain ⟨a73, g73⟩ : ∃ z, z = T69.heap.size := ⟨_, rfl⟩
      rw [← g73] at A73 D73 st73
      refine own_via st73 ?_
      have lt74 : a62 < a73 := Nat.lt_of_lt_of_le E71.lt (Nat.le_of_eq g73.symm)
      have fr75 : n0 ≤ a73 := Nat.le_trans Zs72 (Nat.le_of_eq g73.symm)
      have E76 := E71.ext E73
      have F77 := Fc0_69.ext E73
      have Zs78 : n0 ≤ h73.size := Nat.le_trans Zs72 E73.1
      have F79 : Fld Z h73 a73 "com/example/ashlar/ashlar/analysis/Bdd" "variable" "I" (.int (0 : Int32)) := D73 (Or.inr (own_w hw 12)) (ty := .int) (by decide)
      have F80 : Fld Z h73 a73 "com/example/ashlar/ashlar/analysis/Bdd" "low" "Lcom/example/ashlar/ashlar/analysis/Bdd;" .null := D73 (Or.inr (own_w hw 14)) (ty := (.object "com/example/ashlar/ashlar/analysis/Bdd")) (by decide)
      have F81 : Fld Z h73 a73 "com/example/ashlar/ashlar/analysis/Bdd" "high" "Lcom/example/ashlar/ashlar/analysis/Bdd;" .null := D73 (Or.inr (own_w hw 16)) (ty := (.object "com/example/ashlar/ashlar/analysis/Bdd")) (by decide)
      have F82 : Fld Z h73 a73 "com/example/ashlar/ashlar/analysis/Bdd" "value" "Z" (.int (0 : Int32)) := D73 (Or.inr (own_w hw 18)) (ty := .boolean) (by decide)
      show own_Go p e below _ (T73.setTop (mkF m 39 #[oI p0, oI p1, oI (0 : Int32), oI (p1 &&& (2147483647 : Int32)), oR a62, .unset, .unset, .unset, .unset, .unset] [(.ref a73)]))
      refine own_via (fun t k => XS.dup X73.here hx rfl (hb hby at_39) rfl rfl k) ?_
      show own_Go p e below _ (T73.setTop (mkF m 40 #[oI p0, oI p1, oI (0 : Int32), oI (p1 &&& (2147483647 : Int32)), oR a62, .unset, .unset, .unset, .unset, .unset] [(.ref a73), (.ref a73)]))
      refine own_via (fun t k => XS.iloadN X73.here hx rfl (hb hby at_40) rfl k) ?_
      show own_Go p e below _ (T73.setTop (mkF m 41 #[oI p0, oI p1, oI (0 : Int32), oI (p1 &&& (2147483647 : Int32)), oR a62, .unset, .unset, .unset, .unset, .unset] [(.int (0 : Int32)), (.ref a73), (.ref a73)]))
      refine own_via (fun t k => XS.ifNo X73.here hx rfl (hb hby at_41) rfl ((if0 _ _).trans (teq (by decide : (0 : Int32) = (0 : Int32))).2) k) ?_
      show own_Go p e below _ (T73.setTop (mkF m 44 #[oI p0, oI p1, oI (0 : Int32), oI (p1 &&& (2147483647 : Int32)), oR a62, .unset, .unset, .unset, .unset, .unset] [(.ref a73), (.ref a73)]))
      refine own_via (fun t k => XS.iconst X73.here hx rfl (hb hby at_44) k) ?_
      show own_Go p e below _ (T73.setTop (mkF m 45 #[oI p0, oI p1, oI (0 : Int32), oI (p1 &&& (2147483647 : Int32)), oR a62, .unset, .unset, .unset, .unset, .unset] [(.int (1 : Int32)), (.ref a73), (.ref a73)]))
      refine own_via (fun t k => XS.goto X73.here hx rfl (pc0 := 45) (pc' := 49) rfl (hb hby at_45) (by decide) (by decide) k) ?_
      show own_Go p e below _ (T73.setTop (mkF m 49 #[oI p0, oI p1, oI (0 : Int32), oI (p1 &&& (2147483647 : Int32)), oR a62, .unset, .unset, .unset, .unset, .unset] [(.int (1 : Int32)), (.ref a73), (.ref a73)]))
      obtain ⟨_, _, ⟨T83, L83, k83, n83⟩, -, X83, ⟨Lc83, hQ83, l83, y83, z83⟩, st83⟩ := X73.specialBack hx (y := (⟨"com/example/ashlar/ashlar/analysis/Bdd", "<init>", "(Z)V"⟩ : MethodName)) rfl hown (mvT hZ (own_w hw 4)) (mvT hZ (own_w hw 5)) (mvT hZ (own_w hw 6)) (by decide) (backOf (W := 1) (rm1 l Z a0 hw [] a73 (1 : Int32) h73 n0 Zs78 fr75 A73 F79 F80 F81 F82 rfl rfl) hZ (own_w hw 6) (own_w hw 3) (by decide) (by decide)) (g := (mkF m 49 #[oI p0, oI p1, oI (0 : Int32), oI (p1 &&& (2147483647 : Int32)), oR a62, .unset, .unset, .unset, .unset, .unset] [(.int (1 : Int32)), (.ref a73), (.ref a73)])) rfl (by rw [hml]; rfl) (Steps.refl _) (a := a73) (argsL := [(.int (1 : Int32))]) (rest := [(.ref a73)]) (lenOf pd_0_0 rfl) rfl (by show 2 * 0 + _ ≤ _; exact Nat.le_of_eq rfl) (hb hby at_49) (fun _ _ => ⟨rfl, e73, (by decide : 2 + 0 ≤ _), (by decide : 8 + 0 ≤ _)⟩)
      dsimp only [Pt.U, Pt.locs, Pt.cells, Pt.slots] at X83 l83 y83 z83 st83 hQ83
      subst l83 y83 z83
      obtain ⟨rfl, Nq83, Kc83, Fc0_83⟩ := hQ83
      have N84 := Fr.app N70 Nq83
      refine own_tr st83 ?_
      have E85 := E76.keep Kc83
      have F86 := F77.keep Kc83 (ninS (Nat.ne_of_lt lt74) nin0)
      have E87 := A73.keep Kc83
      have Zs88 : n0 ≤ T83.heap.size := Nat.le_trans Zs78 Kc83.1
      show own_Go p e below _ (T83.setTop (mkF m 52 #[oI p0, oI p1, oI (0 : Int32), oI (p1 &&& (2147483647 : Int32)), oR a62, .unset, .unset, .unset, .unset, .unset] [(.ref a73)]))
      refine own_via (fun t k => XS.astore X83.here hx rfl (hb hby at_52) rfl rfl (l' := #[oI p0, oI p1, oI (0 : Int32), oI (p1 &&& (2147483647 : Int32)), oR a62, oR a73, .unset, .unset, .unset, .unset]) rfl k) ?_
      show own_Go p e below _ (T83.setTop (mkF m 54 #[oI p0, oI p1, oI (0 : Int32), oI (p1 &&& (2147483647 : Int32)), oR a62, oR a73, .unset, .unset, .unset, .unset] []))
      obtain ⟨T89, h89, X89, e89, E89, A89, D89, -, st89⟩ := newO X83 hx hZ hown (own_w hw 1) (own_w hw 2) (own_w hw 3) rfl (g := (mkF m 54 #[oI p0, oI p1, oI (0 : Int32), oI (p1 &&& (2147483647 : Int32)), oR a62, oR a73, .unset, .unset, .unset, .unset] [])) rfl (hb hby at_54) (by decide) (by decide)
      obtain ⟨a89, g89⟩ : ∃ z, z = T83.heap.size := ⟨_, rfl⟩
      rw [← g89] at A89 D89 st89
      refine own_via st89 ?_
      have lt90 : a62 < a89 := Nat.lt_of_lt_of_le E85.lt (Nat.le_of_eq g89.symm)
      have lt91 : a73 < a89 := Nat.lt_of_lt_of_le E87.lt (Nat.le_of_eq g89.symm)
      have fr92 : n0 ≤ a89 := Nat.le_trans Zs88 (Nat.le_of_eq g89.symm)
      have E93 := E85.ext E89
      have F94 := F86.ext E89
      have E95 := E87.ext E89
      have F96 := Fc0_83.ext E89
      have Zs97 : n0 ≤ h89.size := Nat.le_trans Zs88 E89.1
      have F98 : Fld Z h89 a89 "com/example/ashlar/ashlar/analysis/Bdd" "variable" "I" (.int (0 : Int32)) := D89 (Or.inr (own_w hw 12)) (ty := .int) (by decide)
      have F99 : Fld Z h89 a89 "com/example/ashlar/ashlar/analysis/Bdd" "low" "Lcom/example/ashlar/ashlar/analysis/Bdd;" .null := D89 (Or.inr (own_w hw 14)) (ty := (.object "com/example/ashlar/ashlar/analysis/Bdd")) (by decide)
      have F100 : Fld Z h89 a89 "com/example/ashlar/ashlar/analysis/Bdd" "high" "Lcom/example/ashlar/ashlar/analysis/Bdd;" .null := D89 (Or.inr (own_w hw 16)) (ty := (.object "com/example/ashlar/ashlar/analysis/Bdd")) (by decide)
      have F101 : Fld Z h89 a89 "com/example/ashlar/ashlar/analysis/Bdd" "value" "Z" (.int (0 : Int32)) := D89 (Or.inr (own_w hw 18)) (ty := .boolean) (by decide)
      show own_Go p e below _ (T89.setTop (mkF m 57 #[oI p0, oI p1, oI (0 : Int32), oI (p1 &&& (2147483647 : Int32)), oR a62, oR a73, .unset, .unset, .unset, .unset] [(.ref a89)]))
      refine own_via (fun t k => XS.dup X89.here hx rfl (hb hby at_57) rfl rfl k) ?_
      show own_Go p e below _ (T89.setTop (mkF m 58 #[oI p0, oI p1, oI (0 : Int32), oI (p1 &&& (2147483647 : Int32)), oR a62, oR a73, .unset, .unset, .unset, .unset] [(.ref a89), (.ref a89)]))
      refine own_via (fun t k => XS.iloadN X89.here hx rfl (hb hby at_58) rfl k) ?_
      show own_Go p e below _ (T89.setTop (mkF m 59 #[oI p0, oI p1, oI (0 : Int32), oI (p1 &&& (2147483647 : Int32)), oR a62, oR a73, .unset, .unset, .unset, .unset] [(.int (p1 &&& (2147483647 : Int32))), (.ref a89), (.ref a89)]))
      refine own_via (fun t k => XS.aload X89.here hx rfl (hb hby at_59) rfl rfl k) ?_
      show own_Go p e below _ (T89.setTop (mkF m 61 #[oI p0, oI p1, oI (0 : Int32), oI (p1 &&& (2147483647 : Int32)), oR a62, oR a73, .unset, .unset, .unset, .unset] [(.ref a73), (.int (p1 &&& (2147483647 : Int32))), (.ref a89), (.ref a89)]))
      refine own_via (fun t k => XS.aload X89.here hx rfl (hb hby at_61) rfl rfl k) ?_
      show own_Go p e below _ (T89.setTop (mkF m 63 #[oI p0, oI p1, oI (0 : Int32), oI (p1 &&& (2147483647 : Int32)), oR a62, oR a73, .unset, .unset, .unset, .unset] [(.ref a62), (.ref a73), (.int (p1 &&& (2147483647 : Int32))), (.ref a89), (.ref a89)]))
      obtain ⟨_, _, ⟨T102, L102, k102, n102⟩, -, X102, ⟨Lc102, hQ102, l102, y102, z102⟩, st102⟩ := X89.specialBack hx (y := (⟨"com/example/ashlar/ashlar/analysis/Bdd", "<init>", "(ILcom/example/ashlar/ashlar/analysis/Bdd;Lcom/example/ashlar/ashlar/analysis/Bdd;)V"⟩ : MethodName)) rfl hown (mvT hZ (own_w hw 19)) (mvT hZ (own_w hw 20)) (mvT hZ (own_w hw 21)) (by decide) (backOf (W := 1) (rm3 l Z a0 hw [] a89 (p1 &&& (2147483647 : Int32)) a73 a62 h89 n0 Zs97 fr92 A89 F98 F99 F100 F101) hZ (own_w hw 21) (own_w hw 3) (by decide) (by decide)) (g := (mkF m 63 #[oI p0, oI p1, oI (0 : Int32), oI (p1 &&& (2147483647 : Int32)), oR a62, oR a73, .unset, .unset, .unset, .unset] [(.ref a62), (.ref a73), (.int (p1 &&& (2147483647 : Int32))), (.ref a89), (.ref a89)])) rfl (by rw [hml]; rfl) (Steps.refl _) (a := a89) (argsL := [(.int (p1 &&& (2147483647 : Int32))), (.ref a73), (.ref a62)]) (rest := [(.ref a89)]) (lenOf pd_0_1 rfl) rfl (by show 2 * 0 + _ ≤ _; exact Nat.le_of_eq rfl) (hb hby at_63) (fun _ _ => ⟨rfl, e89, (by decide : 3 + 0 ≤ _), (by decide : 12 + 0 ≤ _)⟩)
      dsimp only [Pt.U, Pt.locs, Pt.cells, Pt.slots] at X102 l102 y102 z102 st102 hQ102
      subst l102 y102 z102
      obtain ⟨rfl, Nq102, Kc102, Fc0_102⟩ := hQ102
      have N103 := Fr.app N84 Nq102
      refine own_tr st102 ?_
      have E104 := E93.keep Kc102
      have F105 := F94.keep Kc102 (ninS (Nat.ne_of_lt lt90) nin0)
      have E106 := E95.keep Kc102
      have F107 := F96.keep Kc102 (ninS (Nat.ne_of_lt lt91) nin0)
      have E108 := A89.keep Kc102
      have Zs109 : n0 ≤ T102.heap.size := Nat.le_trans Zs97 Kc102.1
      show own_Go p e below _ (T102.setTop (mkF m 66 #[oI p0, oI p1, oI (0 : Int32), oI (p1 &&& (2147483647 : Int32)), oR a62, oR a73, .unset, .unset, .unset, .unset] [(.ref a89)]))
      refine own_via (fun t k => XS.astore X102.here hx rfl (hb hby at_66) rfl rfl (l' := #[oI p0, oI p1, oI (0 : Int32), oI (p1 &&& (2147483647 : Int32)), oR a62, oR a73, oR a89, .unset, .unset, .unset]) rfl k) ?_
      show own_Go p e below _ (T102.setTop (mkF m 68 #[oI p0, oI p1, oI (0 : Int32), oI (p1 &&& (2147483647 : Int32)), oR a62, oR a73, oR a89, .unset, .unset, .unset] []))
      refine own_via (fun t k => XS.aload X102.here hx rfl (hb hby at_68) rfl rfl k) ?_
      show own_Go p e below _ (T102.setTop (mkF m 70 #[oI p0, oI p1, oI (0 : Int32), oI (p1 &&& (2147483647 : Int32)), oR a62, oR a73, oR a89, .unset, .unset, .unset] [(.ref a62)]))
      obtain ⟨cq110, kq110, qa110, qb110, qc110⟩ := isOf hZ rfl E104
      obtain ⟨_, _, ⟨T110, L110, k110, n110⟩, -, X110, ⟨Lc110, hQ110, l110, y110, z110⟩, st110⟩ := X102.virtualBack hx (y := (⟨"com/example/ashlar/ashlar/analysis/Bdd", "isTerminal", "()Z"⟩ : MethodName)) (z := (⟨"com/example/ashlar/ashlar/analysis/Bdd", "isTerminal", "()Z"⟩ : MethodName)) hown (mvT hZ (own_w hw 22)) (mvT hZ (own_w hw 23)) (notFace_of_selects (args := #[]) (mvT hZ (own_w hw 25))) (mvT hZ (own_w hw 25)) (mvT hZ (own_w hw 24)) (by decide) (backOf (W := 0) (rm4 l Z a0 hw [] a62 (2147483647 : Int32) (1 : Int32) T102.heap n0 Zs109 F105 (by unfold f4; rw [if_pos (by decide : (2147483647 : Int32) = (2147483647 : Int32))])) hZ (own_w hw 26) (own_w hw 3) (by decide) (by decide)) qa110 qc110 (g := (mkF m 70 #[oI p0, oI p1, oI (0 : Int32), oI (p1 &&& (2147483647 : Int32)), oR a62, oR a73, oR a89, .unset, .unset, .unset] [(.ref a62)])) rfl (by rw [hml]; rfl) (Steps.refl _) (argsL := []) (rest := []) (lenOf pd_0_2 rfl) rfl (by show 2 * 0 + _ ≤ _; exact Nat.le_of_eq rfl) (hb hby at_70) (fun _ _ => ⟨rfl, rfl, (by decide : 3 + 0 ≤ _), (by decide : 12 + 0 ≤ _)⟩)
      dsimp only [Pt.U, Pt.locs, Pt.cells, Pt.slots] at X110 l110 y110 z110 st110 hQ110
      subst l110 y110 z110
      obtain ⟨rfl, Nq110, e110⟩ := hQ110
      have N111 := Fr.app N103 Nq110
      refine own_tr st110 ?_
      show own_Go p e below _ (T110.setTop (mkF m 73 #[oI p0, oI p1, oI (0 : Int32), oI (p1 &&& (2147483647 : Int32)), oR a62, oR a73, oR a89, .unset, .unset, .unset] [(.int (1 : Int32))]))
      refine own_via (fun t k => XS.ifNo X110.here hx rfl (hb hby at_73) rfl ((if0 _ _).trans (feq (by decide : ¬ ((1 : Int32) = (0 : Int32)))).1) k) ?_
      show own_Go p e below _ (T110.setTop (mkF m 76 #[oI p0, oI p1, oI (0 : Int32), oI (p1 &&& (2147483647 : Int32)), oR a62, oR a73, oR a89, .unset, .unset, .unset] []))
      refine own_via (fun t k => XS.aload X110.here hx rfl (hb hby at_76) rfl rfl k) ?_
      show own_Go p e below _ (T110.setTop (mkF m 78 #[oI p0, oI p1, oI (0 : Int32), oI (p1 &&& (2147483647 : Int32)), oR a62, oR a73, oR a89, .unset, .unset, .unset] [(.ref a73)]))
      obtain ⟨cq112, kq112, qa112, qb112, qc112⟩ := isOf hZ e110 E106
      obtain ⟨_, _, ⟨T112, L112, k112, n112⟩, -, X112, ⟨Lc112, hQ112, l112, y112, z112⟩, st112⟩ := X110.virtualBack hx (y := (⟨"com/example/ashlar/ashlar/analysis/Bdd", "isTerminal", "()Z"⟩ : MethodName)) (z := (⟨"com/example/ashlar/ashlar/analysis/Bdd", "isTerminal", "()Z"⟩ : MethodName)) hown (mvT hZ (own_w hw 22)) (mvT hZ (own_w hw 23)) (notFace_of_selects (args := #[]) (mvT hZ (own_w hw 25))) (mvT hZ (own_w hw 25)) (mvT hZ (own_w hw 24)) (by decide) (backOf (W := 0) (rm4 l Z a0 hw [] a73 (2147483647 : Int32) (1 : Int32) T102.heap n0 Zs109 F107 (by unfold f4; rw [if_pos (by decide : (2147483647 : Int32) = (2147483647 : Int32))])) hZ (own_w hw 26) (own_w hw 3) (by decide) (by decide)) qa112 qc112 (g := (mkF m 78 #[oI p0, oI p1, oI (0 : Int32), oI (p1 &&& (2147483647 : Int32)), oR a62, oR a73, oR a89, .unset, .unset, .unset] [(.ref a73)])) rfl (by rw [hml]; rfl) (Steps.refl _) (argsL := []) (rest := []) (lenOf pd_0_2 rfl) rfl (by show 2 * 0 + _ ≤ _; exact Nat.le_of_eq rfl) (hb hby at_78) (fun _ _ => ⟨rfl, e110, (by decide : 3 + 0 ≤ _), (by decide : 12 + 0 ≤ _)⟩)
      dsimp only [Pt.U, Pt.locs, Pt.cells, Pt.slots] at X112 l112 y112 z112 st112 hQ112
      subst l112 y112 z112
      obtain ⟨rfl, Nq112, e112⟩ := hQ112
      have N113 := Fr.app N111 Nq112
      refine own_tr st112 ?_
      show own_Go p e below _ (T112.setTop (mkF m 81 #[oI p0, oI p1, oI (0 : Int32), oI (p1 &&& (2147483647 : Int32)), oR a62, oR a73, oR a89, .unset, .unset, .unset] [(.int (1 : Int32))]))
      refine own_via (fun t k => XS.ifNo X112.here hx rfl (hb hby at_81) rfl ((if0 _ _).trans (feq (by decide : ¬ ((1 : Int32) = (0 : Int32)))).1) k) ?_
      show own_Go p e below _ (T112.setTop (mkF m 84 #[oI p0, oI p1, oI (0 : Int32), oI (p1 &&& (2147483647 : Int32)), oR a62, oR a73, oR a89, .unset, .unset, .unset] []))
      refine own_via (fun t k => XS.iconst X112.here hx rfl (hb hby at_84) k) ?_
      show own_Go p e below _ (T112.setTop (mkF m 85 #[oI p0, oI p1, oI (0 : Int32), oI (p1 &&& (2147483647 : Int32)), oR a62, oR a73, oR a89, .unset, .unset, .unset] [(.int (1 : Int32))]))
      refine own_via (fun t k => XS.goto X112.here hx rfl (pc0 := 85) (pc' := 89) rfl (hb hby at_85) (by decide) (by decide) k) ?_
      show own_Go p e below _ (T112.setTop (mkF m 89 #[oI p0, oI p1, oI (0 : Int32), oI (p1 &&& (2147483647 : Int32)), oR a62, oR a73, oR a89, .unset, .unset, .unset] [(.int (1 : Int32))]))
      refine own_via (fun t k => XS.istore X112.here hx rfl (hb hby at_89) rfl (l' := #[oI p0, oI p1, oI (0 : Int32), oI (p1 &&& (2147483647 : Int32)), oR a62, oR a73, oR a89, oI (1 : Int32), .unset, .unset]) rfl k) ?_
      show own_Go p e below _ (T112.setTop (mkF m 91 #[oI p0, oI p1, oI (0 : Int32), oI (p1 &&& (2147483647 : Int32)), oR a62, oR a73, oR a89, oI (1 : Int32), .unset, .unset] []))
      refine own_via (fun t k => XS.aload X112.here hx rfl (hb hby at_91) rfl rfl k) ?_
      show own_Go p e below _ (T112.setTop (mkF m 93 #[oI p0, oI p1, oI (0 : Int32), oI (p1 &&& (2147483647 : Int32)), oR a62, oR a73, oR a89, oI (1 : Int32), .unset, .unset] [(.ref a89)]))
      obtain ⟨cq114, kq114, qa114, qb114, qc114⟩ := isOf hZ e112 E108
      obtain ⟨_, _, ⟨T114, L114, k114, n114⟩, -, X114, ⟨Lc114, hQ114, l114, y114, z114⟩, st114⟩ := X112.virtualBack hx (y := (⟨"com/example/ashlar/ashlar/analysis/Bdd", "isTerminal", "()Z"⟩ : MethodName)) (z := (⟨"com/example/ashlar/ashlar/analysis/Bdd", "isTerminal", "()Z"⟩ : MethodName)) hown (mvT hZ (own_w hw 22)) (mvT hZ (own_w hw 23)) (notFace_of_selects (args := #[]) (mvT hZ (own_w hw 25))) (mvT hZ (own_w hw 25)) (mvT hZ (own_w hw 24)) (by decide) (backOf (W := 0) (rm4 l Z a0 hw [] a89 (p1 &&& (2147483647 : Int32)) (0 : Int32) T102.heap n0 Zs109 Fc0_102 (by unfold f4; rw [if_neg hc20_2])) hZ (own_w hw 26) (own_w hw 3) (by decide) (by decide)) qa114 qc114 (g := (mkF m 93 #[oI p0, oI p1, oI (0 : Int32), oI (p1 &&& (2147483647 : Int32)), oR a62, oR a73, oR a89, oI (1 : Int32), .unset, .unset] [(.ref a89)])) rfl (by rw [hml]; rfl) (Steps.refl _) (argsL := []) (rest := []) (lenOf pd_0_2 rfl) rfl (by show 2 * 0 + _ ≤ _; exact Nat.le_of_eq rfl) (hb hby at_93) (fun _ _ => ⟨rfl, e112, (by decide : 3 + 0 ≤ _), (by decide : 12 + 0 ≤ _)⟩)
      dsimp only [Pt.U, Pt.locs, Pt.cells, Pt.slots] at X114 l114 y114 z114 st114 hQ114
      subst l114 y114 z114
      obtain ⟨rfl, Nq114, e114⟩ := hQ114
      have N115 := Fr.app N113 Nq114
      refine own_tr st114 ?_
      show own_Go p e below _ (T114.setTop (mkF m 96 #[oI p0, oI p1, oI (0 : Int32), oI (p1 &&& (2147483647 : Int32)), oR a62, oR a73, oR a89, oI (1 : Int32), .unset, .unset] [(.int (0 : Int32))]))
      refine own_via (fun t k => XS.ifNo X114.here hx rfl (hb hby at_96) rfl ((if0 _ _).trans (teq (by decide : (0 : Int32) = (0 : Int32))).2) k) ?_
      show own_Go p e below _ (T114.setTop (mkF m 99 #[oI p0, oI p1, oI (0 : Int32), oI (p1 &&& (2147483647 : Int32)), oR a62, oR a73, oR a89, oI (1 : Int32), .unset, .unset] []))
      refine own_via (fun t k => XS.iconst X114.here hx rfl (hb hby at_99) k) ?_
      show own_Go p e below _ (T114.setTop (mkF m 100 #[oI p0, oI p1, oI (0 : Int32), oI (p1 &&& (2147483647 : Int32)), oR a62, oR a73, oR a89, oI (1 : Int32), .unset, .unset] [(.int (1 : Int32))]))
      refine own_via (fun t k => XS.goto X114.here hx rfl (pc0 := 100) (pc' := 104) rfl (hb hby at_100) (by decide) (by decide) k) ?_
      show own_Go p e below _ (T114.setTop (mkF m 104 #[oI p0, oI p1, oI (0 : Int32), oI (p1 &&& (2147483647 : Int32)), oR a62, oR a73, oR a89, oI (1 : Int32), .unset, .unset] [(.int (1 : Int32))]))
      refine own_via (fun t k => XS.istore X114.here hx rfl (hb hby at_104) rfl (l' := #[oI p0, oI p1, oI (0 : Int32), oI (p1 &&& (2147483647 : Int32)), oR a62, oR a73, oR a89, oI (1 : Int32), oI (1 : Int32), .unset]) rfl k) ?_
      show own_Go p e below _ (T114.setTop (mkF m 106 #[oI p0, oI p1, oI (0 : Int32), oI (p1 &&& (2147483647 : Int32)), oR a62, oR a73, oR a89, oI (1 : Int32), oI (1 : Int32), .unset] []))
      refine own_via (fun t k => XS.aload X114.here hx rfl (hb hby at_106) rfl rfl k) ?_
      show own_Go p e below _ (T114.setTop (mkF m 108 #[oI p0, oI p1, oI (0 : Int32), oI (p1 &&& (2147483647 : Int32)), oR a62, oR a73, oR a89, oI (1 : Int32), oI (1 : Int32), .unset] [(.ref a62)]))
      obtain ⟨cq116, kq116, qa116, qb116, qc116⟩ := isOf hZ e114 E104
      obtain ⟨_, _, ⟨T116, L116, k116, n116⟩, -, X116, ⟨Lc116, hQ116, l116, y116, z116⟩, st116⟩ := X114.virtualBack hx (y := (⟨"com/example/ashlar/ashlar/analysis/Bdd", "variable", "()I"⟩ : MethodName)) (z := (⟨"com/example/ashlar/ashlar/analysis/Bdd", "variable", "()I"⟩ : MethodName)) hown (mvT hZ (own_w hw 27)) (mvT hZ (own_w hw 28)) (notFace_of_selects (args := #[]) (mvT hZ (own_w hw 30))) (mvT hZ (own_w hw 30)) (mvT hZ (own_w hw 29)) (by decide) (backOf (W := 0) (rm5 l Z a0 hw [] a62 (2147483647 : Int32) (2147483647 : Int32) T102.heap n0 Zs109 F105 (by unfold f5; rfl)) hZ (own_w hw 31) (own_w hw 3) (by decide) (by decide)) qa116 qc116 (g := (mkF m 108 #[oI p0, oI p1, oI (0 : Int32), oI (p1 &&& (2147483647 : Int32)), oR a62, oR a73, oR a89, oI (1 : Int32), oI (1 : Int32), .unset] [(.ref a62)])) rfl (by rw [hml]; rfl) (Steps.refl _) (argsL := []) (rest := []) (lenOf pd_0_3 rfl) rfl (by show 2 * 0 + _ ≤ _; exact Nat.le_of_eq rfl) (hb hby at_108) (fun _ _ => ⟨rfl, e114, (by decide : 3 + 0 ≤ _), (by decide : 12 + 0 ≤ _)⟩)
      dsimp only [Pt.U, Pt.locs, Pt.cells, Pt.slots] at X116 l116 y116 z116 st116 hQ116
      subst l116 y116 z116
      obtain ⟨rfl, Nq116, e116⟩ := hQ116
      have N117 := Fr.app N115 Nq116
      refine own_tr st116 ?_
      show own_Go p e below _ (T116.setTop (mkF m 111 #[oI p0, oI p1, oI (0 : Int32), oI (p1 &&& (2147483647 : Int32)), oR a62, oR a73, oR a89, oI (1 : Int32), oI (1 : Int32), .unset] [(.int (2147483647 : Int32))]))
      refine own_via (fun t k => X116.ldcInt hx hown (mvT hZ (own_w hw 0)) (g := (mkF m 111 #[oI p0, oI p1, oI (0 : Int32), oI (p1 &&& (2147483647 : Int32)), oR a62, oR a73, oR a89, oI (1 : Int32), oI (1 : Int32), .unset] [(.int (2147483647 : Int32))])) rfl (hb hby at_111) t k) ?_
      show own_Go p e below _ (T116.setTop (mkF m 113 #[oI p0, oI p1, oI (0 : Int32), oI (p1 &&& (2147483647 : Int32)), oR a62, oR a73, oR a89, oI (1 : Int32), oI (1 : Int32), .unset] [(.int (2147483647 : Int32)), (.int (2147483647 : Int32))]))
      refine own_via (fun t k => XS.icmpNo X116.here hx rfl (hb hby at_113) rfl (teq (by decide : (2147483647 : Int32) = (2147483647 : Int32))).2 k) ?_
      show own_Go p e below _ (T116.setTop (mkF m 116 #[oI p0, oI p1, oI (0 : Int32), oI (p1 &&& (2147483647 : Int32)), oR a62, oR a73, oR a89, oI (1 : Int32), oI (1 : Int32), .unset] []))
      refine own_via (fun t k => XS.aload X116.here hx rfl (hb hby at_116) rfl rfl k) ?_
      show own_Go p e below _ (T116.setTop (mkF m 118 #[oI p0, oI p1, oI (0 : Int32), oI (p1 &&& (2147483647 : Int32)), oR a62, oR a73, oR a89, oI (1 : Int32), oI (1 : Int32), .unset] [(.ref a89)]))
      obtain ⟨cq118, kq118, qa118, qb118, qc118⟩ := isOf hZ e116 E108
      obtain ⟨_, _, ⟨T118, L118, k118, n118⟩, -, X118, ⟨Lc118, hQ118, l118, y118, z118⟩, st118⟩ := X116.virtualBack hx (y := (⟨"com/example/ashlar/ashlar/analysis/Bdd", "variable", "()I"⟩ : MethodName)) (z := (⟨"com/example/ashlar/ashlar/analysis/Bdd", "variable", "()I"⟩ : MethodName)) hown (mvT hZ (own_w hw 27)) (mvT hZ (own_w hw 28)) (notFace_of_selects (args := #[]) (mvT hZ (own_w hw 30))) (mvT hZ (own_w hw 30)) (mvT hZ (own_w hw 29)) (by decide) (backOf (W := 0) (rm5 l Z a0 hw [] a89 (p1 &&& (2147483647 : Int32)) (p1 &&& (2147483647 : Int32)) T102.heap n0 Zs109 Fc0_102 (by unfold f5; rfl)) hZ (own_w hw 31) (own_w hw 3) (by decide) (by decide)) qa118 qc118 (g := (mkF m 118 #[oI p0, oI p1, oI (0 : Int32), oI (p1 &&& (2147483647 : Int32)), oR a62, oR a73, oR a89, oI (1 : Int32), oI (1 : Int32), .unset] [(.ref a89)])) rfl (by rw [hml]; rfl) (Steps.refl _) (argsL := []) (rest := []) (lenOf pd_0_3 rfl) rfl (by show 2 * 0 + _ ≤ _; exact Nat.le_of_eq rfl) (hb hby at_118) (fun _ _ => ⟨rfl, e116, (by decide : 3 + 0 ≤ _), (by decide : 12 + 0 ≤ _)⟩)
      dsimp only [Pt.U, Pt.locs, Pt.cells, Pt.slots] at X118 l118 y118 z118 st118 hQ118
      subst l118 y118 z118
      obtain ⟨rfl, Nq118, e118⟩ := hQ118
      have N119 := Fr.app N117 Nq118
      refine own_tr st118 ?_
      show own_Go p e below _ (T118.setTop (mkF m 121 #[oI p0, oI p1, oI (0 : Int32), oI (p1 &&& (2147483647 : Int32)), oR a62, oR a73, oR a89, oI (1 : Int32), oI (1 : Int32), .unset] [(.int (p1 &&& (2147483647 : Int32)))]))
      refine own_via (fun t k => XS.iloadN X118.here hx rfl (hb hby at_121) rfl k) ?_
      show own_Go p e below _ (T118.setTop (mkF m 122 #[oI p0, oI p1, oI (0 : Int32), oI (p1 &&& (2147483647 : Int32)), oR a62, oR a73, oR a89, oI (1 : Int32), oI (1 : Int32), .unset] [(.int (p1 &&& (2147483647 : Int32))), (.int (p1 &&& (2147483647 : Int32)))]))
      refine own_via (fun t k => XS.icmpNo X118.here hx rfl (hb hby at_122) rfl (teq (rfl : (p1 &&& (2147483647 : Int32)) = (p1 &&& (2147483647 : Int32)))).2 k) ?_
      show own_Go p e below _ (T118.setTop (mkF m 125 #[oI p0, oI p1, oI (0 : Int32), oI (p1 &&& (2147483647 : Int32)), oR a62, oR a73, oR a89, oI (1 : Int32), oI (1 : Int32), .unset] []))
      refine own_via (fun t k => XS.iconst X118.here hx rfl (hb hby at_125) k) ?_
      show own_Go p e below _ (T118.setTop (mkF m 126 #[oI p0, oI p1, oI (0 : Int32), oI (p1 &&& (2147483647 : Int32)), oR a62, oR a73, oR a89, oI (1 : Int32), oI (1 : Int32), .unset] [(.int (1 : Int32))]))
      refine own_via (fun t k => XS.goto X118.here hx rfl (pc0 := 126) (pc' := 130) rfl (hb hby at_126) (by decide) (by decide) k) ?_
      show own_Go p e below _ (T118.setTop (mkF m 130 #[oI p0, oI p1, oI (0 : Int32), oI (p1 &&& (2147483647 : Int32)), oR a62, oR a73, oR a89, oI (1 : Int32), oI (1 : Int32), .unset] [(.int (1 : Int32))]))
      refine own_via (fun t k => XS.istore X118.here hx rfl (hb hby at_130) rfl (l' := #[oI p0, oI p1, oI (0 : Int32), oI (p1 &&& (2147483647 : Int32)), oR a62, oR a73, oR a89, oI (1 : Int32), oI (1 : Int32), oI (1 : Int32)]) rfl k) ?_
      show own_Go p e below _ (T118.setTop (mkF m 132 #[oI p0, oI p1, oI (0 : Int32), oI (p1 &&& (2147483647 : Int32)), oR a62, oR a73, oR a89, oI (1 : Int32), oI (1 : Int32), oI (1 : Int32)] []))
      refine own_via (fun t k => XS.iload X118.here hx rfl (hb hby at_132) rfl k) ?_
      show own_Go p e below _ (T118.setTop (mkF m 134 #[oI p0, oI p1, oI (0 : Int32), oI (p1 &&& (2147483647 : Int32)), oR a62, oR a73, oR a89, oI (1 : Int32), oI (1 : Int32), oI (1 : Int32)] [(.int (1 : Int32))]))
      refine own_via (fun t k => XS.ifNo X118.here hx rfl (hb hby at_134) rfl ((if0 _ _).trans (feq (by decide : ¬ ((1 : Int32) = (0 : Int32)))).1) k) ?_
      show own_Go p e below _ (T118.setTop (mkF m 137 #[oI p0, oI p1, oI (0 : Int32), oI (p1 &&& (2147483647 : Int32)), oR a62, oR a73, oR a89, oI (1 : Int32), oI (1 : Int32), oI (1 : Int32)] []))
      refine own_via (fun t k => XS.iload X118.here hx rfl (hb hby at_137) rfl k) ?_
      show own_Go p e below _ (T118.setTop (mkF m 139 #[oI p0, oI p1, oI (0 : Int32), oI (p1 &&& (2147483647 : Int32)), oR a62, oR a73, oR a89, oI (1 : Int32), oI (1 : Int32), oI (1 : Int32)] [(.int (1 : Int32))]))
      refine own_via (fun t k => XS.ifNo X118.here hx rfl (hb hby at_139) rfl ((if0 _ _).trans (feq (by decide : ¬ ((1 : Int32) = (0 : Int32)))).1) k) ?_
      show own_Go p e below _ (T118.setTop (mkF m 142 #[oI p0, oI p1, oI (0 : Int32), oI (p1 &&& (2147483647 : Int32)), oR a62, oR a73, oR a89, oI (1 : Int32), oI (1 : Int32), oI (1 : Int32)] []))
      refine own_via (fun t k => XS.iload X118.here hx rfl (hb hby at_142) rfl k) ?_
      show own_Go p e below _ (T118.setTop (mkF m 144 #[oI p0, oI p1, oI (0 : Int32), oI (p1 &&& (2147483647 : Int32)), oR a62, oR a73, oR a89, oI (1 : Int32), oI (1 : Int32), oI (1 : Int32)] [(.int (1 : Int32))]))
      refine own_via (fun t k => XS.ifNo X118.here hx rfl (hb hby at_144) rfl ((if0 _ _).trans (feq (by decide : ¬ ((1 : Int32) = (0 : Int32)))).1) k) ?_
      show own_Go p e below _ (T118.setTop (mkF m 147 #[oI p0, oI p1, oI (0 : Int32), oI (p1 &&& (2147483647 : Int32)), oR a62, oR a73, oR a89, oI (1 : Int32), oI (1 : Int32), oI (1 : Int32)] []))
      refine own_via (fun t k => XS.iconst X118.here hx rfl (hb hby at_147) k) ?_
      show own_Go p e below _ (T118.setTop (mkF m 148 #[oI p0, oI p1, oI (0 : Int32), oI (p1 &&& (2147483647 : Int32)), oR a62, oR a73, oR a89, oI (1 : Int32), oI (1 : Int32), oI (1 : Int32)] [(.int (1 : Int32))]))
      refine own_via (fun t k => XS.goto X118.here hx rfl (pc0 := 148) (pc' := 152) rfl (hb hby at_148) (by decide) (by decide) k) ?_
      show own_Go p e below _ (T118.setTop (mkF m 152 #[oI p0, oI p1, oI (0 : Int32), oI (p1 &&& (2147483647 : Int32)), oR a62, oR a73, oR a89, oI (1 : Int32), oI (1 : Int32), oI (1 : Int32)] [(.int (1 : Int32))]))
      obtain ⟨fs, hr, hrun, hended, hW, hsame⟩ := X118.leave (v := some (.int (1 : Int32))) (fun h => by rw [Bd.returns] at h; cases h)
      refine ⟨_, _, retN X118 hx (t := .boolean) Bd.returns (by simp) (hb hby at_152) hr, hrun, hended, _, _, rfl, ?_, ⟨_, rfl⟩, hW, hsame.mono (by decide) (by decide)⟩
      show Q0 Z p0 p1 h0 n0 _ T118.heap _
      rw [e118]
      exact ⟨rfl, N119⟩
  · refine own_via (fun t k => XS.ifNo X0.here hx rfl (hb hby at_3) rfl ((if0 _ _).trans (feq hc3_1).1) k) ?_
    show own_Go p e below _ (s₁.setTop (mkF m 6 #[oI p0, oI p1, .unset, .unset, .unset, .unset, .unset, .unset, .unset, .unset] []))
    refine own_via (fun t k => XS.iconst X0.here hx rfl (hb hby at_6) k) ?_
    show own_Go p e below _ (s₁.setTop (mkF m 7 #[oI p0, oI p1, .unset, .unset, .unset, .unset, .unset, .unset, .unset, .unset] [(.int (1 : Int32))]))
    refine own_via (fun t k => XS.goto X0.here hx rfl (pc0 := 7) (pc' := 11) rfl (hb hby at_7) (by decide) (by decide) k) ?_
    show own_Go p e below _ (s₁.setTop (mkF m 11 #[oI p0, oI p1, .unset, .unset, .unset, .unset, .unset, .unset, .unset, .unset] [(.int (1 : Int32))]))
    refine own_via (fun t k => XS.istoreN X0.here hx rfl (hb hby at_11) rfl (l' := #[oI p0, oI p1, oI (1 : Int32), .unset, .unset, .unset, .unset, .unset, .unset, .unset]) rfl k) ?_
    show own_Go p e below _ (s₁.setTop (mkF m 12 #[oI p0, oI p1, oI (1 : Int32), .unset, .unset, .unset, .unset, .unset, .unset, .unset] []))
    refine own_via (fun t k => XS.iloadN X0.here hx rfl (hb hby at_12) rfl k) ?_
    show own_Go p e below _ (s₁.setTop (mkF m 13 #[oI p0, oI p1, oI (1 : Int32), .unset, .unset, .unset, .unset, .unset, .unset, .unset] [(.int p1)]))
    refine own_via (fun t k => X0.ldcInt hx hown (mvT hZ (own_w hw 0)) (g := (mkF m 13 #[oI p0, oI p1, oI (1 : Int32), .unset, .unset, .unset, .unset, .unset, .unset, .unset] [(.int p1)])) rfl (hb hby at_13) t k) ?_
    show own_Go p e below _ (s₁.setTop (mkF m 15 #[oI p0, oI p1, oI (1 : Int32), .unset, .unset, .unset, .unset, .unset, .unset, .unset] [(.int (2147483647 : Int32)), (.int p1)]))
    refine own_via (fun t k => XS.iand X0.here hx rfl (hb hby at_15) rfl k) ?_
    show own_Go p e below _ (s₁.setTop (mkF m 16 #[oI p0, oI p1, oI (1 : Int32), .unset, .unset, .unset, .unset, .unset, .unset, .unset] [(.int (p1 &&& (2147483647 : Int32)))]))
    refine own_via (fun t k => XS.istoreN X0.here hx rfl (hb hby at_16) rfl (l' := #[oI p0, oI p1, oI (1 : Int32), oI (p1 &&& (2147483647 : Int32)), .unset, .unset, .unset, .unset, .unset, .unset]) rfl k) ?_
    show own_Go p e below _ (s₁.setTop (mkF m 17 #[oI p0, oI p1, oI (1 : Int32), oI (p1 &&& (2147483647 : Int32)), .unset, .unset, .unset, .unset, .unset, .unset] []))
    refine own_via (fun t k => XS.iloadN X0.here hx rfl (hb hby at_17) rfl k) ?_
    show own_Go p e below _ (s₁.setTop (mkF m 18 #[oI p0, oI p1, oI (1 : Int32), oI (p1 &&& (2147483647 : Int32)), .unset, .unset, .unset, .unset, .unset, .unset] [(.int (p1 &&& (2147483647 : Int32)))]))
    refine own_via (fun t k => X0.ldcInt hx hown (mvT hZ (own_w hw 0)) (g := (mkF m 18 #[oI p0, oI p1, oI (1 : Int32), oI (p1 &&& (2147483647 : Int32)), .unset, .unset, .unset, .unset, .unset, .unset] [(.int (p1 &&& (2147483647 : Int32)))])) rfl (hb hby at_18) t k) ?_
    show own_Go p e below _ (s₁.setTop (mkF m 20 #[oI p0, oI p1, oI (1 : Int32), oI (p1 &&& (2147483647 : Int32)), .unset, .unset, .unset, .unset, .unset, .unset] [(.int (2147483647 : Int32)), (.int (p1 &&& (2147483647 : Int32)))]))
    by_cases hc20_121 : (p1 &&& (2147483647 : Int32)) = (2147483647 : Int32)
    · refine own_via (fun t k => XS.icmpNo X0.here hx rfl (hb hby at_20) rfl (teq hc20_121).2 k) ?_
      show own_Go p e below _ (s₁.setTop (mkF m 23 #[oI p0, oI p1, oI (1 : Int32), oI (p1 &&& (2147483647 : Int32)), .unset, .unset, .unset, .unset, .unset, .unset] []))
      refine own_via (fun t k => X0.ldcInt hx hown (mvT hZ (own_w hw 32)) (g := (mkF m 23 #[oI p0, oI p1, oI (1 : Int32), oI (p1 &&& (2147483647 : Int32)), .unset, .unset, .unset, .unset, .unset, .unset] [])) rfl (hb hby at_23) t k) ?_
      show own_Go p e below _ (s₁.setTop (mkF m 25 #[oI p0, oI p1, oI (1 : Int32), oI (p1 &&& (2147483647 : Int32)), .unset, .unset, .unset, .unset, .unset, .unset] [(.int (2147483646 : Int32))]))
      refine own_via (fun t k => XS.istoreN X0.here hx rfl (hb hby at_25) rfl (l' := #[oI p0, oI p1, oI (1 : Int32), oI (2147483646 : Int32), .unset, .unset, .unset, .unset, .unset, .unset]) rfl k) ?_
      show own_Go p e below _ (s₁.setTop (mkF m 26 #[oI p0, oI p1, oI (1 : Int32), oI (2147483646 : Int32), .unset, .unset, .unset, .unset, .unset, .unset] []))
      obtain ⟨T122, h122, X122, e122, E122, A122, D122, -, st122⟩ := newO X0 hx hZ hown (own_w hw 1) (own_w hw 2) (own_w hw 3) e0 (g := (mkF m 26 #[oI p0, oI p1, oI (1 : Int32), oI (2147483646 : Int32), .unset, .unset, .unset, .unset, .unset, .unset] [])) rfl (hb hby at_26) (by decide) (by decide)
      obtain ⟨a122, g122⟩ : ∃ z, z = h0.size := ⟨_, rfl⟩
      rw [← g122] at A122 D122 st122
      refine own_via st122 ?_
      have fr123 : n0 ≤ a122 := Nat.le_trans Z0 (Nat.le_of_eq g122.symm)
      have Zs124 : n0 ≤ h122.size := Nat.le_trans Z0 E122.1
      have F125 : Fld Z h122 a122 "com/example/ashlar/ashlar/analysis/Bdd" "variable" "I" (.int (0 : Int32)) := D122 (Or.inr (own_w hw 12)) (ty := .int) (by decide)
      have F126 : Fld Z h122 a122 "com/example/ashlar/ashlar/analysis/Bdd" "low" "Lcom/example/ashlar/ashlar/analysis/Bdd;" .null := D122 (Or.inr (own_w hw 14)) (ty := (.object "com/example/ashlar/ashlar/analysis/Bdd")) (by decide)
      have F127 : Fld Z h122 a122 "com/example/ashlar/ashlar/analysis/Bdd" "high" "Lcom/example/ashlar/ashlar/analysis/Bdd;" .null := D122 (Or.inr (own_w hw 16)) (ty := (.object "com/example/ashlar/ashlar/analysis/Bdd")) (by decide)
      have F128 : Fld Z h122 a122 "com/example/ashlar/ashlar/analysis/Bdd" "value" "Z" (.int (0 : Int32)) := D122 (Or.inr (own_w hw 18)) (ty := .boolean) (by decide)
      show own_Go p e below _ (T122.setTop (mkF m 29 #[oI p0, oI p1, oI (1 : Int32), oI (2147483646 : Int32), .unset, .unset, .unset, .unset, .unset, .unset] [(.ref a122)]))
      refine own_via (fun t k => XS.dup X122.here hx rfl (hb hby at_29) rfl rfl k) ?_
      show own_Go p e below _ (T122.setTop (mkF m 30 #[oI p0, oI p1, oI (1 : Int32), oI (2147483646 : Int32), .unset, .unset, .unset, .unset, .unset, .unset] [(.ref a122), (.ref a122)]))
      refine own_via (fun t k => XS.iloadN X122.here hx rfl (hb hby at_30) rfl k) ?_
      show own_Go p e below _ (T122.setTop (mkF m 31 #[oI p0, oI p1, oI (1 : Int32), oI (2147483646 : Int32), .unset, .unset, .unset, .unset, .unset, .unset] [(.int (1 : Int32)), (.ref a122), (.ref a122)]))
      obtain ⟨_, _, ⟨T129, L129, k129, n129⟩, -, X129, ⟨Lc129, hQ129, l129, y129, z129⟩, st129⟩ := X122.specialBack hx (y := (⟨"com/example/ashlar/ashlar/analysis/Bdd", "<init>", "(Z)V"⟩ : MethodName)) rfl hown (mvT hZ (own_w hw 4)) (mvT hZ (own_w hw 5)) (mvT hZ (own_w hw 6)) (by decide) (backOf (W := 1) (rm1 l Z a0 hw [] a122 (1 : Int32) h122 n0 Zs124 fr123 A122 F125 F126 F127 F128 rfl rfl) hZ (own_w hw 6) (own_w hw 3) (by decide) (by decide)) (g := (mkF m 31 #[oI p0, oI p1, oI (1 : Int32), oI (2147483646 : Int32), .unset, .unset, .unset, .unset, .unset, .unset] [(.int (1 : Int32)), (.ref a122), (.ref a122)])) rfl (by rw [hml]; rfl) (Steps.refl _) (a := a122) (argsL := [(.int (1 : Int32))]) (rest := [(.ref a122)]) (lenOf pd_0_0 rfl) rfl (by show 2 * 0 + _ ≤ _; exact Nat.le_of_eq rfl) (hb hby at_31) (fun _ _ => ⟨rfl, e122, (by decide : 1 + 0 ≤ _), (by decide : 4 + 0 ≤ _)⟩)
      dsimp only [Pt.U, Pt.locs, Pt.cells, Pt.slots] at X129 l129 y129 z129 st129 hQ129
      subst l129 y129 z129
      obtain ⟨rfl, Nq129, Kc129, Fc0_129⟩ := hQ129
      have N130 := Fr.app N0 Nq129
      refine own_tr st129 ?_
      have E131 := A122.keep Kc129
      have Zs132 : n0 ≤ T129.heap.size := Nat.le_trans Zs124 Kc129.1
      show own_Go p e below _ (T129.setTop (mkF m 34 #[oI p0, oI p1, oI (1 : Int32), oI (2147483646 : Int32), .unset, .unset, .unset, .unset, .unset, .unset] [(.ref a122)]))
      refine own_via (fun t k => XS.astore X129.here hx rfl (hb hby at_34) rfl rfl (l' := #[oI p0, oI p1, oI (1 : Int32), oI (2147483646 : Int32), oR a122, .unset, .unset, .unset, .unset, .unset]) rfl k) ?_
      show own_Go p e below _ (T129.setTop (mkF m 36 #[oI p0, oI p1, oI (1 : Int32), oI (2147483646 : Int32), oR a122, .unset, .unset, .unset, .unset, .unset] []))
      obtain ⟨T133, h133, X133, e133, E133, A133, D133, -, st133⟩ := newO X129 hx hZ hown (own_w hw 1) (own_w hw 2) (own_w hw 3) rfl (g := (mkF m 36 #[oI p0, oI p1, oI (1 : Int32), oI (2147483646 : Int32), oR a122, .unset, .unset, .unset, .unset, .unset] [])) rfl (hb hby at_36) (by decide) (by decide)
      obtain ⟨a133, g133⟩ : ∃ z, z = T129.heap.size := ⟨_, rfl⟩
      rw [← g133] at A133 D133 st133
      refine own_via st133 ?_
      have lt134 : a122 < a133 := Nat.lt_of_lt_of_le E131.lt (Nat.le_of_eq g133.symm)
      have fr135 : n0 ≤ a133 := Nat.le_trans Zs132 (Nat.le_of_eq g133.symm)
      have E136 := E131.ext E133
      have F137 := Fc0_129.ext E133
      have Zs138 : n0 ≤ h133.size := Nat.le_trans Zs132 E133.1
      have F139 : Fld Z h133 a133 "com/example/ashlar/ashlar/analysis/Bdd" "variable" "I" (.int (0 : Int32)) := D133 (Or.inr (own_w hw 12)) (ty := .int) (by decide)
      have F140 : Fld Z h133 a133 "com/example/ashlar/ashlar/analysis/Bdd" "low" "Lcom/example/ashlar/ashlar/analysis/Bdd;" .null := D133 (Or.inr (own_w hw 14)) (ty := (.object "com/example/ashlar/ashlar/analysis/Bdd")) (by decide)
      have F141 : Fld Z h133 a133 "com/example/ashlar/ashlar/analysis/Bdd" "high" "Lcom/example/ashlar/ashlar/analysis/Bdd;" .null := D133 (Or.inr (own_w hw 16)) (ty := (.object "com/example/ashlar/ashlar/analysis/Bdd")) (by decide)
      have F142 : Fld Z h133 a133 "com/example/ashlar/ashlar/analysis/Bdd" "value" "Z" (.int (0 : Int32)) := D133 (Or.inr (own_w hw 18)) (ty := .boolean) (by decide)
      show own_Go p e below _ (T133.setTop (mkF m 39 #[oI p0, oI p1, oI (1 : Int32), oI (2147483646 : Int32), oR a122, .unset, .unset, .unset, .unset, .unset] [(.ref a133)]))
      refine own_via (fun t k => XS.dup X133.here hx rfl (hb hby at_39) rfl rfl k) ?_
      show own_Go p e below _ (T133.setTop (mkF m 40 #[oI p0, oI p1, oI (1 : Int32), oI (2147483646 : Int32), oR a122, .unset, .unset, .unset, .unset, .unset] [(.ref a133), (.ref a133)]))
      refine own_via (fun t k => XS.iloadN X133.here hx rfl (hb hby at_40) rfl k) ?_
      show own_Go p e below _ (T133.setTop (mkF m 41 #[oI p0, oI p1, oI (1 : Int32), oI (2147483646 : Int32), oR a122, .unset, .unset, .unset, .unset, .unset] [(.int (1 : Int32)), (.ref a133), (.ref a133)]))
      refine own_via (fun t k => XS.ifYes X133.here hx rfl (pc0 := 41) (pc' := 48) rfl (hb hby at_41) rfl ((if0 _ _).trans (feq (by decide : ¬ ((1 : Int32) = (0 : Int32)))).2) (by decide) (by decide) k) ?_
      show own_Go p e below _ (T133.setTop (mkF m 48 #[oI p0, oI p1, oI (1 : Int32), oI (2147483646 : Int32), oR a122, .unset, .unset, .unset, .unset, .unset] [(.ref a133), (.ref a133)]))
      refine own_via (fun t k => XS.iconst X133.here hx rfl (hb hby at_48) k) ?_
      show own_Go p e below _ (T133.setTop (mkF m 49 #[oI p0, oI p1, oI (1 : Int32), oI (2147483646 : Int32), oR a122, .unset, .unset, .unset, .unset, .unset] [(.int (0 : Int32)), (.ref a133), (.ref a133)]))
      obtain ⟨_, _, ⟨T143, L143, k143, n143⟩, -, X143, ⟨Lc143, hQ143, l143, y143, z143⟩, st143⟩ := X133.specialBack hx (y := (⟨"com/example/ashlar/ashlar/analysis/Bdd", "<init>", "(Z)V"⟩ : MethodName)) rfl hown (mvT hZ (own_w hw 4)) (mvT hZ (own_w hw 5)) (mvT hZ (own_w hw 6)) (by decide) (backOf (W := 1) (rm1 l Z a0 hw [] a133 (0 : Int32) h133 n0 Zs138 fr135 A133 F139 F140 F141 F142 rfl rfl) hZ (own_w hw 6) (own_w hw 3) (by decide) (by decide)) (g := (mkF m 49 #[oI p0, oI p1, oI (1 : Int32), oI (2147483646 : Int32), oR a122, .unset, .unset, .unset, .unset, .unset] [(.int (0 : Int32)), (.ref a133), (.ref a133)])) rfl (by rw [hml]; rfl) (Steps.refl _) (a := a133) (argsL := [(.int (0 : Int32))]) (rest := [(.ref a133)]) (lenOf pd_0_0 rfl) rfl (by show 2 * 0 + _ ≤ _; exact Nat.le_of_eq rfl) (hb hby at_49) (fun _ _ => ⟨rfl, e133, (by decide : 2 + 0 ≤ _), (by decide : 8 + 0 ≤ _)⟩)
      dsimp only [Pt.U, Pt.locs, Pt.cells, Pt.slots] at X143 l143 y143 z143 st143 hQ143
      subst l143 y143 z143
      obtain ⟨rfl, Nq143, Kc143, Fc0_143⟩ := hQ143
      have N144 := Fr.app N130 Nq143
      refine own_tr st143 ?_
      have E145 := E136.keep Kc143
      have F146 := F137.keep Kc143 (ninS (Nat.ne_of_lt lt134) nin0)
      have E147 := A133.keep Kc143
      have Zs148 : n0 ≤ T143.heap.size := Nat.le_trans Zs138 Kc143.1
      show own_Go p e below _ (T143.setTop (mkF m 52 #[oI p0, oI p1, oI (1 : Int32), oI (2147483646 : Int32), oR a122, .unset, .unset, .unset, .unset, .unset] [(.ref a133)]))
      refine own_via (fun t k => XS.astore X143.here hx rfl (hb hby at_52) rfl rfl (l' := #[oI p0, oI p1, oI (1 : Int32), oI (2147483646 : Int32), oR a122, oR a133, .unset, .unset, .unset, .unset]) rfl k) ?_
      show own_Go p e below _ (T143.setTop (mkF m 54 #[oI p0, oI p1, oI (1 : Int32), oI (2147483646 : Int32), oR a122, oR a133, .unset, .unset, .unset, .unset] []))
      obtain ⟨T149, h149, X149, e149, E149, A149, D149, -, st149⟩ := newO X143 hx hZ hown (own_w hw 1) (own_w hw 2) (own_w hw 3) rfl (g := (mkF m 54 #[oI p0, oI p1, oI (1 : Int32), oI (2147483646 : Int32), oR a122, oR a133, .unset, .unset, .unset, .unset] [])) rfl (hb hby at_54) (by decide) (by decide)
      obtain ⟨a149, g149⟩ : ∃ z, z = T143.heap.size := ⟨_, rfl⟩
      rw [← g149] at A149 D149 st149
      refine own_via st149 ?_
      have lt150 : a122 < a149 := Nat.lt_of_lt_of_le E145.lt (Nat.le_of_eq g149.symm)
      have lt151 : a133 < a149 := Nat.lt_of_lt_of_le E147.lt (Nat.le_of_eq g149.symm)
      have fr152 : n0 ≤ a149 := Nat.le_trans Zs148 (Nat.le_of_eq g149.symm)
      have E153 := E145.ext E149
      have F154 := F146.ext E149
      have E155 := E147.ext E149
      have F156 := Fc0_143.ext E149
      have Zs157 : n0 ≤ h149.size := Nat.le_trans Zs148 E149.1
      have F158 : Fld Z h149 a149 "com/example/ashlar/ashlar/analysis/Bdd" "variable" "I" (.int (0 : Int32)) := D149 (Or.inr (own_w hw 12)) (ty := .int) (by decide)
      have F159 : Fld Z h149 a149 "com/example/ashlar/ashlar/analysis/Bdd" "low" "Lcom/example/ashlar/ashlar/analysis/Bdd;" .null := D149 (Or.inr (own_w hw 14)) (ty := (.object "com/example/ashlar/ashlar/analysis/Bdd")) (by decide)
      have F160 : Fld Z h149 a149 "com/example/ashlar/ashlar/analysis/Bdd" "high" "Lcom/example/ashlar/ashlar/analysis/Bdd;" .null := D149 (Or.inr (own_w hw 16)) (ty := (.object "com/example/ashlar/ashlar/analysis/Bdd")) (by decide)
      have F161 : Fld Z h149 a149 "com/example/ashlar/ashlar/analysis/Bdd" "value" "Z" (.int (0 : Int32)) := D149 (Or.inr (own_w hw 18)) (ty := .boolean) (by decide)
      show own_Go p e below _ (T149.setTop (mkF m 57 #[oI p0, oI p1, oI (1 : Int32), oI (2147483646 : Int32), oR a122, oR a133, .unset, .unset, .unset, .unset] [(.ref a149)]))
      refine own_via (fun t k => XS.dup X149.here hx rfl (hb hby at_57) rfl rfl k) ?_
      show own_Go p e below _ (T149.setTop (mkF m 58 #[oI p0, oI p1, oI (1 : Int32), oI (2147483646 : Int32), oR a122, oR a133, .unset, .unset, .unset, .unset] [(.ref a149), (.ref a149)]))
      refine own_via (fun t k => XS.iloadN X149.here hx rfl (hb hby at_58) rfl k) ?_
      show own_Go p e below _ (T149.setTop (mkF m 59 #[oI p0, oI p1, oI (1 : Int32), oI (2147483646 : Int32), oR a122, oR a133, .unset, .unset, .unset, .unset] [(.int (2147483646 : Int32)), (.ref a149), (.ref a149)]))
      refine own_via (fun t k => XS.aload X149.here hx rfl (hb hby at_59) rfl rfl k) ?_
      show own_Go p e below _ (T149.setTop (mkF m 61 #[oI p0, oI p1, oI (1 : Int32), oI (2147483646 : Int32), oR a122, oR a133, .unset, .unset, .unset, .unset] [(.ref a133), (.int (2147483646 : Int32)), (.ref a149), (.ref a149)]))
      refine own_via (fun t k => XS.aload X149.here hx rfl (hb hby at_61) rfl rfl k) ?_
      show own_Go p e below _ (T149.setTop (mkF m 63 #[oI p0, oI p1, oI (1 : Int32), oI (2147483646 : Int32), oR a122, oR a133, .unset, .unset, .unset, .unset] [(.ref a122), (.ref a133), (.int (2147483646 : Int32)), (.ref a149), (.ref a149)]))
      obtain ⟨_, _, ⟨T162, L162, k162, n162⟩, -, X162, ⟨Lc162, hQ162, l162, y162, z162⟩, st162⟩ := X149.specialBack hx (y := (⟨"com/example/ashlar/ashlar/analysis/Bdd", "<init>", "(ILcom/example/ashlar/ashlar/analysis/Bdd;Lcom/example/ashlar/ashlar/analysis/Bdd;)V"⟩ : MethodName)) rfl hown (mvT hZ (own_w hw 19)) (mvT hZ (own_w hw 20)) (mvT hZ (own_w hw 21)) (by decide) (backOf (W := 1) (rm3 l Z a0 hw [] a149 (2147483646 : Int32) a133 a122 h149 n0 Zs157 fr152 A149 F158 F159 F160 F161) hZ (own_w hw 21) (own_w hw 3) (by decide) (by decide)) (g := (mkF m 63 #[oI p0, oI p1, oI (1 : Int32), oI (2147483646 : Int32), oR a122, oR a133, .unset, .unset, .unset, .unset] [(.ref a122), (.ref a133), (.int (2147483646 : Int32)), (.ref a149), (.ref a149)])) rfl (by rw [hml]; rfl) (Steps.refl _) (a := a149) (argsL := [(.int (2147483646 : Int32)), (.ref a133), (.ref a122)]) (rest := [(.ref a149)]) (lenOf pd_0_1 rfl) rfl (by show 2 * 0 + _ ≤ _; exact Nat.le_of_eq rfl) (hb hby at_63) (fun _ _ => ⟨rfl, e149, (by decide : 3 + 0 ≤ _), (by decide : 12 + 0 ≤ _)⟩)
      dsimp only [Pt.U, Pt.locs, Pt.cells, Pt.slots] at X162 l162 y162 z162 st162 hQ162
      subst l162 y162 z162
      obtain ⟨rfl, Nq162, Kc162, Fc0_162⟩ := hQ162
      have N163 := Fr.app N144 Nq162
      refine own_tr st162 ?_
      have E164 := E153.keep Kc162
      have F165 := F154.keep Kc162 (ninS (Nat.ne_of_lt lt150) nin0)
      have E166 := E155.keep Kc162
      have F167 := F156.keep Kc162 (ninS (Nat.ne_of_lt lt151) nin0)
      have E168 := A149.keep Kc162
      have Zs169 : n0 ≤ T162.heap.size := Nat.le_trans Zs157 Kc162.1
      show own_Go p e below _ (T162.setTop (mkF m 66 #[oI p0, oI p1, oI (1 : Int32), oI (2147483646 : Int32), oR a122, oR a133, .unset, .unset, .unset, .unset] [(.ref a149)]))
      refine own_via (fun t k => XS.astore X162.here hx rfl (hb hby at_66) rfl rfl (l' := #[oI p0, oI p1, oI (1 : Int32), oI (2147483646 : Int32), oR a122, oR a133, oR a149, .unset, .unset, .unset]) rfl k) ?_
      show own_Go p e below _ (T162.setTop (mkF m 68 #[oI p0, oI p1, oI (1 : Int32), oI (2147483646 : Int32), oR a122, oR a133, oR a149, .unset, .unset, .unset] []))
      refine own_via (fun t k => XS.aload X162.here hx rfl (hb hby at_68) rfl rfl k) ?_
      show own_Go p e below _ (T162.setTop (mkF m 70 #[oI p0, oI p1, oI (1 : Int32), oI (2147483646 : Int32), oR a122, oR a133, oR a149, .unset, .unset, .unset] [(.ref a122)]))
      obtain ⟨cq170, kq170, qa170, qb170, qc170⟩ := isOf hZ rfl E164
      obtain ⟨_, _, ⟨T170, L170, k170, n170⟩, -, X170, ⟨Lc170, hQ170, l170, y170, z170⟩, st170⟩ := X162.virtualBack hx (y := (⟨"com/example/ashlar/ashlar/analysis/Bdd", "isTerminal", "()Z"⟩ : MethodName)) (z := (⟨"com/example/ashlar/ashlar/analysis/Bdd", "isTerminal", "()Z"⟩ : MethodName)) hown (mvT hZ (own_w hw 22)) (mvT hZ (own_w hw 23)) (notFace_of_selects (args := #[]) (mvT hZ (own_w hw 25))) (mvT hZ (own_w hw 25)) (mvT hZ (own_w hw 24)) (by decide) (backOf (W := 0) (rm4 l Z a0 hw [] a122 (2147483647 : Int32) (1 : Int32) T162.heap n0 Zs169 F165 (by unfold f4; rw [if_pos (by decide : (2147483647 : Int32) = (2147483647 : Int32))])) hZ (own_w hw 26) (own_w hw 3) (by decide) (by decide)) qa170 qc170 (g := (mkF m 70 #[oI p0, oI p1, oI (1 : Int32), oI (2147483646 : Int32), oR a122, oR a133, oR a149, .unset, .unset, .unset] [(.ref a122)])) rfl (by rw [hml]; rfl) (Steps.refl _) (argsL := []) (rest := []) (lenOf pd_0_2 rfl) rfl (by show 2 * 0 + _ ≤ _; exact Nat.le_of_eq rfl) (hb hby at_70) (fun _ _ => ⟨rfl, rfl, (by decide : 3 + 0 ≤ _), (by decide : 12 + 0 ≤ _)⟩)
      dsimp only [Pt.U, Pt.locs, Pt.cells, Pt.slots] at X170 l170 y170 z170 st170 hQ170
      subst l170 y170 z170
      obtain ⟨rfl, Nq170, e170⟩ := hQ170
      have N171 := Fr.app N163 Nq170
      refine own_tr st170 ?_
      show own_Go p e below _ (T170.setTop (mkF m 73 #[oI p0, oI p1, oI (1 : Int32), oI (2147483646 : Int32), oR a122, oR a133, oR a149, .unset, .unset, .unset] [(.int (1 : Int32))]))
      refine own_via (fun t k => XS.ifNo X170.here hx rfl (hb hby at_73) rfl ((if0 _ _).trans (feq (by decide : ¬ ((1 : Int32) = (0 : Int32)))).1) k) ?_
      show own_Go p e below _ (T170.setTop (mkF m 76 #[oI p0, oI p1, oI (1 : Int32), oI (2147483646 : Int32), oR a122, oR a133, oR a149, .unset, .unset, .unset] []))
      refine own_via (fun t k => XS.aload X170.here hx rfl (hb hby at_76) rfl rfl k) ?_
      show own_Go p e below _ (T170.setTop (mkF m 78 #[oI p0, oI p1, oI (1 : Int32), oI (2147483646 : Int32), oR a122, oR a133, oR a149, .unset, .unset, .unset] [(.ref a133)]))
      obtain ⟨cq172, kq172, qa172, qb172, qc172⟩ := isOf hZ e170 E166
      obtain ⟨_, _, ⟨T172, L172, k172, n172⟩, -, X172, ⟨Lc172, hQ172, l172, y172, z172⟩, st172⟩ := X170.virtualBack hx (y := (⟨"com/example/ashlar/ashlar/analysis/Bdd", "isTerminal", "()Z"⟩ : MethodName)) (z := (⟨"com/example/ashlar/ashlar/analysis/Bdd", "isTerminal", "()Z"⟩ : MethodName)) hown (mvT hZ (own_w hw 22)) (mvT hZ (own_w hw 23)) (notFace_of_selects (args := #[]) (mvT hZ (own_w hw 25))) (mvT hZ (own_w hw 25)) (mvT hZ (own_w hw 24)) (by decide) (backOf (W := 0) (rm4 l Z a0 hw [] a133 (2147483647 : Int32) (1 : Int32) T162.heap n0 Zs169 F167 (by unfold f4; rw [if_pos (by decide : (2147483647 : Int32) = (2147483647 : Int32))])) hZ (own_w hw 26) (own_w hw 3) (by decide) (by decide)) qa172 qc172 (g := (mkF m 78 #[oI p0, oI p1, oI (1 : Int32), oI (2147483646 : Int32), oR a122, oR a133, oR a149, .unset, .unset, .unset] [(.ref a133)])) rfl (by rw [hml]; rfl) (Steps.refl _) (argsL := []) (rest := []) (lenOf pd_0_2 rfl) rfl (by show 2 * 0 + _ ≤ _; exact Nat.le_of_eq rfl) (hb hby at_78) (fun _ _ => ⟨rfl, e170, (by decide : 3 + 0 ≤ _), (by decide : 12 + 0 ≤ _)⟩)
      dsimp only [Pt.U, Pt.locs, Pt.cells, Pt.slots] at X172 l172 y172 z172 st172 hQ172
      subst l172 y172 z172
      obtain ⟨rfl, Nq172, e172⟩ := hQ172
      have N173 := Fr.app N171 Nq172
      refine own_tr st172 ?_
      show own_Go p e below _ (T172.setTop (mkF m 81 #[oI p0, oI p1, oI (1 : Int32), oI (2147483646 : Int32), oR a122, oR a133, oR a149, .unset, .unset, .unset] [(.int (1 : Int32))]))
      refine own_via (fun t k => XS.ifNo X172.here hx rfl (hb hby at_81) rfl ((if0 _ _).trans (feq (by decide : ¬ ((1 : Int32) = (0 : Int32)))).1) k) ?_
      show own_Go p e below _ (T172.setTop (mkF m 84 #[oI p0, oI p1, oI (1 : Int32), oI (2147483646 : Int32), oR a122, oR a133, oR a149, .unset, .unset, .unset] []))
      refine own_via (fun t k => XS.iconst X172.here hx rfl (hb hby at_84) k) ?_
      show own_Go p e below _ (T172.setTop (mkF m 85 #[oI p0, oI p1, oI (1 : Int32), oI (2147483646 : Int32), oR a122, oR a133, oR a149, .unset, .unset, .unset] [(.int (1 : Int32))]))
      refine own_via (fun t k => XS.goto X172.here hx rfl (pc0 := 85) (pc' := 89) rfl (hb hby at_85) (by decide) (by decide) k) ?_
      show own_Go p e below _ (T172.setTop (mkF m 89 #[oI p0, oI p1, oI (1 : Int32), oI (2147483646 : Int32), oR a122, oR a133, oR a149, .unset, .unset, .unset] [(.int (1 : Int32))]))
      refine own_via (fun t k => XS.istore X172.here hx rfl (hb hby at_89) rfl (l' := #[oI p0, oI p1, oI (1 : Int32), oI (2147483646 : Int32), oR a122, oR a133, oR a149, oI (1 : Int32), .unset, .unset]) rfl k) ?_
      show own_Go p e below _ (T172.setTop (mkF m 91 #[oI p0, oI p1, oI (1 : Int32), oI (2147483646 : Int32), oR a122, oR a133, oR a149, oI (1 : Int32), .unset, .unset] []))
      refine own_via (fun t k => XS.aload X172.here hx rfl (hb hby at_91) rfl rfl k) ?_
      show own_Go p e below _ (T172.setTop (mkF m 93 #[oI p0, oI p1, oI (1 : Int32), oI (2147483646 : Int32), oR a122, oR a133, oR a149, oI (1 : Int32), .unset, .unset] [(.ref a149)]))
      obtain ⟨cq174, kq174, qa174, qb174, qc174⟩ := isOf hZ e172 E168
      obtain ⟨_, _, ⟨T174, L174, k174, n174⟩, -, X174, ⟨Lc174, hQ174, l174, y174, z174⟩, st174⟩ := X172.virtualBack hx (y := (⟨"com/example/ashlar/ashlar/analysis/Bdd", "isTerminal", "()Z"⟩ : MethodName)) (z := (⟨"com/example/ashlar/ashlar/analysis/Bdd", "isTerminal", "()Z"⟩ : MethodName)) hown (mvT hZ (own_w hw 22)) (mvT hZ (own_w hw 23)) (notFace_of_selects (args := #[]) (mvT hZ (own_w hw 25))) (mvT hZ (own_w hw 25)) (mvT hZ (own_w hw 24)) (by decide) (backOf (W := 0) (rm4 l Z a0 hw [] a149 (2147483646 : Int32) (0 : Int32) T162.heap n0 Zs169 Fc0_162 (by unfold f4; rw [if_neg (by decide : ¬ ((2147483646 : Int32) = (2147483647 : Int32)))])) hZ (own_w hw 26) (own_w hw 3) (by decide) (by decide)) qa174 qc174 (g := (mkF m 93 #[oI p0, oI p1, oI (1 : Int32), oI (2147483646 : Int32), oR a122, oR a133, oR a149, oI (1 : Int32), .unset, .unset] [(.ref a149)])) rfl (by rw [hml]; rfl) (Steps.refl _) (argsL := []) (rest := []) (lenOf pd_0_2 rfl) rfl (by show 2 * 0 + _ ≤ _; exact Nat.le_of_eq rfl) (hb hby at_93) (fun _ _ => ⟨rfl, e172, (by decide : 3 + 0 ≤ _), (by decide : 12 + 0 ≤ _)⟩)
      dsimp only [Pt.U, Pt.locs, Pt.cells, Pt.slots] at X174 l174 y174 z174 st174 hQ174
      subst l174 y174 z174
      obtain ⟨rfl, Nq174, e174⟩ := hQ174
      have N175 := Fr.app N173 Nq174
      refine own_tr st174 ?_
      show own_Go p e below _ (T174.setTop (mkF m 96 #[oI p0, oI p1, oI (1 : Int32), oI (2147483646 : Int32), oR a122, oR a133, oR a149, oI (1 : Int32), .unset, .unset] [(.int (0 : Int32))]))
      refine own_via (fun t k => XS.ifNo X174.here hx rfl (hb hby at_96) rfl ((if0 _ _).trans (teq (by decide : (0 : Int32) = (0 : Int32))).2) k) ?_
      show own_Go p e below _ (T174.setTop (mkF m 99 #[oI p0, oI p1, oI (1 : Int32), oI (2147483646 : Int32), oR a122, oR a133, oR a149, oI (1 : Int32), .unset, .unset] []))
      refine own_via (fun t k => XS.iconst X174.here hx rfl (hb hby at_99) k) ?_
      show own_Go p e below _ (T174.setTop (mkF m 100 #[oI p0, oI p1, oI (1 : Int32), oI (2147483646 : Int32), oR a122, oR a133, oR a149, oI (1 : Int32), .unset, .unset] [(.int (1 : Int32))]))
      refine own_via (fun t k => XS.goto X174.here hx rfl (pc0 := 100) (pc' := 104) rfl (hb hby at_100) (by decide) (by decide) k) ?_
      show own_Go p e below _ (T174.setTop (mkF m 104 #[oI p0, oI p1, oI (1 : Int32), oI (2147483646 : Int32), oR a122, oR a133, oR a149, oI (1 : Int32), .unset, .unset] [(.int (1 : Int32))]))
      refine own_via (fun t k => XS.istore X174.here hx rfl (hb hby at_104) rfl (l' := #[oI p0, oI p1, oI (1 : Int32), oI (2147483646 : Int32), oR a122, oR a133, oR a149, oI (1 : Int32), oI (1 : Int32), .unset]) rfl k) ?_
      show own_Go p e below _ (T174.setTop (mkF m 106 #[oI p0, oI p1, oI (1 : Int32), oI (2147483646 : Int32), oR a122, oR a133, oR a149, oI (1 : Int32), oI (1 : Int32), .unset] []))
      refine own_via (fun t k => XS.aload X174.here hx rfl (hb hby at_106) rfl rfl k) ?_
      show own_Go p e below _ (T174.setTop (mkF m 108 #[oI p0, oI p1, oI (1 : Int32), oI (2147483646 : Int32), oR a122, oR a133, oR a149, oI (1 : Int32), oI (1 : Int32), .unset] [(.ref a122)]))
      obtain ⟨cq176, kq176, qa176, qb176, qc176⟩ := isOf hZ e174 E164
      obtain ⟨_, _, ⟨T176, L176, k176, n176⟩, -, X176, ⟨Lc176, hQ176, l176, y176, z176⟩, st176⟩ := X174.virtualBack hx (y := (⟨"com/example/ashlar/ashlar/analysis/Bdd", "variable", "()I"⟩ : MethodName)) (z := (⟨"com/example/ashlar/ashlar/analysis/Bdd", "variable", "()I"⟩ : MethodName)) hown (mvT hZ (own_w hw 27)) (mvT hZ (own_w hw 28)) (notFace_of_selects (args := #[]) (mvT hZ (own_w hw 30))) (mvT hZ (own_w hw 30)) (mvT hZ (own_w hw 29)) (by decide) (backOf (W := 0) (rm5 l Z a0 hw [] a122 (2147483647 : Int32) (2147483647 : Int32) T162.heap n0 Zs169 F165 (by unfold f5; rfl)) hZ (own_w hw 31) (own_w hw 3) (by decide) (by decide)) qa176 qc176 (g := (mkF m 108 #[oI p0, oI p1, oI (1 : Int32), oI (2147483646 : Int32), oR a122, oR a133, oR a149, oI (1 : Int32), oI (1 : Int32), .unset] [(.ref a122)])) rfl (by rw [hml]; rfl) (Steps.refl _) (argsL := []) (rest := []) (lenOf pd_0_3 rfl) rfl (by show 2 * 0 + _ ≤ _; exact Nat.le_of_eq rfl) (hb hby at_108) (fun _ _ => ⟨rfl, e174, (by decide : 3 + 0 ≤ _), (by decide : 12 + 0 ≤ _)⟩)
      dsimp only [Pt.U, Pt.locs, Pt.cells, Pt.slots] at X176 l176 y176 z176 st176 hQ176
      subst l176 y176 z176
      obtain ⟨rfl, Nq176, e176⟩ := hQ176
      have N177 := Fr.app N175 Nq176
      refine own_tr st176 ?_
      show own_Go p e below _ (T176.setTop (mkF m 111 #[oI p0, oI p1, oI (1 : Int32), oI (2147483646 : Int32), oR a122, oR a133, oR a149, oI (1 : Int32), oI (1 : Int32), .unset] [(.int (2147483647 : Int32))]))
      refine own_via (fun t k => X176.ldcInt hx hown (mvT hZ (own_w hw 0)) (g := (mkF m 111 #[oI p0, oI p1, oI (1 : Int32), oI (2147483646 : Int32), oR a122, oR a133, oR a149, oI (1 : Int32), oI (1 : Int32), .unset] [(.int (2147483647 : Int32))])) rfl (hb hby at_111) t k) ?_
      show own_Go p e below _ (T176.setTop (mkF m 113 #[oI p0, oI p1, oI (1 : Int32), oI (2147483646 : Int32), oR a122, oR a133, oR a149, oI (1 : Int32), oI (1 : Int32), .unset] [(.int (2147483647 : Int32)), (.int (2147483647 : Int32))]))
      refine own_via (fun t k => XS.icmpNo X176.here hx rfl (hb hby at_113) rfl (teq (by decide : (2147483647 : Int32) = (2147483647 : Int32))).2 k) ?_
      show own_Go p e below _ (T176.setTop (mkF m 116 #[oI p0, oI p1, oI (1 : Int32), oI (2147483646 : Int32), oR a122, oR a133, oR a149, oI (1 : Int32), oI (1 : Int32), .unset] []))
      refine own_via (fun t k => XS.aload X176.here hx rfl (hb hby at_116) rfl rfl k) ?_
      show own_Go p e below _ (T176.setTop (mkF m 118 #[oI p0, oI p1, oI (1 : Int32), oI (2147483646 : Int32), oR a122, oR a133, oR a149, oI (1 : Int32), oI (1 : Int32), .unset] [(.ref a149)]))
      obtain ⟨cq178, kq178, qa178, qb178, qc178⟩ := isOf hZ e176 E168
      obtain ⟨_, _, ⟨T178, L178, k178, n178⟩, -, X178, ⟨Lc178, hQ178, l178, y178, z178⟩, st178⟩ := X176.virtualBack hx (y := (⟨"com/example/ashlar/ashlar/analysis/Bdd", "variable", "()I"⟩ : MethodName)) (z := (⟨"com/example/ashlar/ashlar/analysis/Bdd", "variable", "()I"⟩ : MethodName)) hown (mvT hZ (own_w hw 27)) (mvT hZ (own_w hw 28)) (notFace_of_selects (args := #[]) (mvT hZ (own_w hw 30))) (mvT hZ (own_w hw 30)) (mvT hZ (own_w hw 29)) (by decide) (backOf (W := 0) (rm5 l Z a0 hw [] a149 (2147483646 : Int32) (2147483646 : Int32) T162.heap n0 Zs169 Fc0_162 (by unfold f5; rfl)) hZ (own_w hw 31) (own_w hw 3) (by decide) (by decide)) qa178 qc178 (g := (mkF m 118 #[oI p0, oI p1, oI (1 : Int32), oI (2147483646 : Int32), oR a122, oR a133, oR a149, oI (1 : Int32), oI (1 : Int32), .unset] [(.ref a149)])) rfl (by rw [hml]; rfl) (Steps.refl _) (argsL := []) (rest := []) (lenOf pd_0_3 rfl) rfl (by show 2 * 0 + _ ≤ _; exact Nat.le_of_eq rfl) (hb hby at_118) (fun _ _ => ⟨rfl, e176, (by decide : 3 + 0 ≤ _), (by decide : 12 + 0 ≤ _)⟩)
      dsimp only [Pt.U, Pt.locs, Pt.cells, Pt.slots] at X178 l178 y178 z178 st178 hQ178
      subst l178 y178 z178
      obtain ⟨rfl, Nq178, e178⟩ := hQ178
      have N179 := Fr.app N177 Nq178
      refine own_tr st178 ?_
      show own_Go p e below _ (T178.setTop (mkF m 121 #[oI p0, oI p1, oI (1 : Int32), oI (2147483646 : Int32), oR a122, oR a133, oR a149, oI (1 : Int32), oI (1 : Int32), .unset] [(.int (2147483646 : Int32))]))
      refine own_via (fun t k => XS.iloadN X178.here hx rfl (hb hby at_121) rfl k) ?_
      show own_Go p e below _ (T178.setTop (mkF m 122 #[oI p0, oI p1, oI (1 : Int32), oI (2147483646 : Int32), oR a122, oR a133, oR a149, oI (1 : Int32), oI (1 : Int32), .unset] [(.int (2147483646 : Int32)), (.int (2147483646 : Int32))]))
      refine own_via (fun t k => XS.icmpNo X178.here hx rfl (hb hby at_122) rfl (teq (by decide : (2147483646 : Int32) = (2147483646 : Int32))).2 k) ?_
      show own_Go p e below _ (T178.setTop (mkF m 125 #[oI p0, oI p1, oI (1 : Int32), oI (2147483646 : Int32), oR a122, oR a133, oR a149, oI (1 : Int32), oI (1 : Int32), .unset] []))
      refine own_via (fun t k => XS.iconst X178.here hx rfl (hb hby at_125) k) ?_
      show own_Go p e below _ (T178.setTop (mkF m 126 #[oI p0, oI p1, oI (1 : Int32), oI (2147483646 : Int32), oR a122, oR a133, oR a149, oI (1 : Int32), oI (1 : Int32), .unset] [(.int (1 : Int32))]))
      refine own_via (fun t k => XS.goto X178.here hx rfl (pc0 := 126) (pc' := 130) rfl (hb hby at_126) (by decide) (by decide) k) ?_
      show own_Go p e below _ (T178.setTop (mkF m 130 #[oI p0, oI p1, oI (1 : Int32), oI (2147483646 : Int32), oR a122, oR a133, oR a149, oI (1 : Int32), oI (1 : Int32), .unset] [(.int (1 : Int32))]))
      refine own_via (fun t k => XS.istore X178.here hx rfl (hb hby at_130) rfl (l' := #[oI p0, oI p1, oI (1 : Int32), oI (2147483646 : Int32), oR a122, oR a133, oR a149, oI (1 : Int32), oI (1 : Int32), oI (1 : Int32)]) rfl k) ?_
      show own_Go p e below _ (T178.setTop (mkF m 132 #[oI p0, oI p1, oI (1 : Int32), oI (2147483646 : Int32), oR a122, oR a133, oR a149, oI (1 : Int32), oI (1 : Int32), oI (1 : Int32)] []))
      refine own_via (fun t k => XS.iload X178.here hx rfl (hb hby at_132) rfl k) ?_
      show own_Go p e below _ (T178.setTop (mkF m 134 #[oI p0, oI p1, oI (1 : Int32), oI (2147483646 : Int32), oR a122, oR a133, oR a149, oI (1 : Int32), oI (1 : Int32), oI (1 : Int32)] [(.int (1 : Int32))]))
      refine own_via (fun t k => XS.ifNo X178.here hx rfl (hb hby at_134) rfl ((if0 _ _).trans (feq (by decide : ¬ ((1 : Int32) = (0 : Int32)))).1) k) ?_
      show own_Go p e below _ (T178.setTop (mkF m 137 #[oI p0, oI p1, oI (1 : Int32), oI (2147483646 : Int32), oR a122, oR a133, oR a149, oI (1 : Int32), oI (1 : Int32), oI (1 : Int32)] []))
      refine own_via (fun t k => XS.iload X178.here hx rfl (hb hby at_137) rfl k) ?_
      show own_Go p e below _ (T178.setTop (mkF m 139 #[oI p0, oI p1, oI (1 : Int32), oI (2147483646 : Int32), oR a122, oR a133, oR a149, oI (1 : Int32), oI (1 : Int32), oI (1 : Int32)] [(.int (1 : Int32))]))
      refine own_via (fun t k => XS.ifNo X178.here hx rfl (hb hby at_139) rfl ((if0 _ _).trans (feq (by decide : ¬ ((1 : Int32) = (0 : Int32)))).1) k) ?_
      show own_Go p e below _ (T178.setTop (mkF m 142 #[oI p0, oI p1, oI (1 : Int32), oI (2147483646 : Int32), oR a122, oR a133, oR a149, oI (1 : Int32), oI (1 : Int32), oI (1 : Int32)] []))
      refine own_via (fun t k => XS.iload X178.here hx rfl (hb hby at_142) rfl k) ?_
      show own_Go p e below _ (T178.setTop (mkF m 144 #[oI p0, oI p1, oI (1 : Int32), oI (2147483646 : Int32), oR a122, oR a133, oR a149, oI (1 : Int32), oI (1 : Int32), oI (1 : Int32)] [(.int (1 : Int32))]))
      refine own_via (fun t k => XS.ifNo X178.here hx rfl (hb hby at_144) rfl ((if0 _ _).trans (feq (by decide : ¬ ((1 : Int32) = (0 : Int32)))).1) k) ?_
      show own_Go p e below _ (T178.setTop (mkF m 147 #[oI p0, oI p1, oI (1 : Int32), oI (2147483646 : Int32), oR a122, oR a133, oR a149, oI (1 : Int32), oI (1 : Int32), oI (1 : Int32)] []))
      refine own_via (fun t k => XS.iconst X178.here hx rfl (hb hby at_147) k) ?_
      show own_Go p e below _ (T178.setTop (mkF m 148 #[oI p0, oI p1, oI (1 : Int32), oI (2147483646 : Int32), oR a122, oR a133, oR a149, oI (1 : Int32), oI (1 : Int32), oI (1 : Int32)] [(.int (1 : Int32))]))
      refine own_via (fun t k => XS.goto X178.here hx rfl (pc0 := 148) (pc' := 152) rfl (hb hby at_148) (by decide) (by decide) k) ?_
      show own_Go p e below _ (T178.setTop (mkF m 152 #[oI p0, oI p1, oI (1 : Int32), oI (2147483646 : Int32), oR a122, oR a133, oR a149, oI (1 : Int32), oI (1 : Int32), oI (1 : Int32)] [(.int (1 : Int32))]))
      obtain ⟨fs, hr, hrun, hended, hW, hsame⟩ := X178.leave (v := some (.int (1 : Int32))) (fun h => by rw [Bd.returns] at h; cases h)
      refine ⟨_, _, retN X178 hx (t := .boolean) Bd.returns (by simp) (hb hby at_152) hr, hrun, hended, _, _, rfl, ?_, ⟨_, rfl⟩, hW, hsame.mono (by decide) (by decide)⟩
      show Q0 Z p0 p1 h0 n0 _ T178.heap _
      rw [e178]
      exact ⟨rfl, N179⟩
    · refine own_via (fun t k => XS.icmpYes X0.here hx rfl (pc0 := 20) (pc' := 26) rfl (hb hby at_20) rfl (feq hc20_121).2 (by decide) (by decide) k) ?_
      show own_Go p e below _ (s₁.setTop (mkF m 26 #[oI p0, oI p1, oI (1 : Int32), oI (p1 &&& (2147483647 : Int32)), .unset, .unset, .unset, .unset, .unset, .unset] []))
      obtain ⟨T181, h181, X181, e181, E181, A181, D181, -, st181⟩ := newO X0 hx hZ hown (own_w hw 1) (own_w hw 2) (own_w hw 3) e0 (g := (mkF m 26 #[oI p0, oI p1, oI (1 : Int32), oI (p1 &&& (2147483647 : Int32)), .unset, .unset, .unset, .unset, .unset, .unset] [])) rfl (hb hby at_26) (by decide) (by decide)
      obtain ⟨a181, g181⟩ : ∃ z, z = h0.size := ⟨_, rfl⟩
      rw [← g181] at A181 D181 st181
      refine own_via st181 ?_
      have fr182 : n0 ≤ a181 := Nat.le_trans Z0 (Nat.le_of_eq g181.symm)
      have Zs183 : n0 ≤ h181.size := Nat.le_trans Z0 E181.1
      have F184 : Fld Z h181 a181 "com/example/ashlar/ashlar/analysis/Bdd" "variable" "I" (.int (0 : Int32)) := D181 (Or.inr (own_w hw 12)) (ty := .int) (by decide)
      have F185 : Fld Z h181 a181 "com/example/ashlar/ashlar/analysis/Bdd" "low" "Lcom/example/ashlar/ashlar/analysis/Bdd;" .null := D181 (Or.inr (own_w hw 14)) (ty := (.object "com/example/ashlar/ashlar/analysis/Bdd")) (by decide)
      have F186 : Fld Z h181 a181 "com/example/ashlar/ashlar/analysis/Bdd" "high" "Lcom/example/ashlar/ashlar/analysis/Bdd;" .null := D181 (Or.inr (own_w hw 16)) (ty := (.object "com/example/ashlar/ashlar/analysis/Bdd")) (by decide)
      have F187 : Fld Z h181 a181 "com/example/ashlar/ashlar/analysis/Bdd" "value" "Z" (.int (0 : Int32)) := D181 (Or.inr (own_w hw 18)) (ty := .boolean) (by decide)
      show own_Go p e below _ (T181.setTop (mkF m 29 #[oI p0, oI p1, oI (1 : Int32), oI (p1 &&& (2147483647 : Int32)), .unset, .unset, .unset, .unset, .unset, .unset] [(.ref a181)]))
      refine own_via (fun t k => XS.dup X181.here hx rfl (hb hby at_29) rfl rfl k) ?_
      show own_Go p e below _ (T181.setTop (mkF m 30 #[oI p0, oI p1, oI (1 : Int32), oI (p1 &&& (2147483647 : Int32)), .unset, .unset, .unset, .unset, .unset, .unset] [(.ref a181), (.ref a181)]))
      refine own_via (fun t k => XS.iloadN X181.here hx rfl (hb hby at_30) rfl k) ?_
      show own_Go p e below _ (T181.setTop (mkF m 31 #[oI p0, oI p1, oI (1 : Int32), oI (p1 &&& (2147483647 : Int32)), .unset, .unset, .unset, .unset, .unset, .unset] [(.int (1 : Int32)), (.ref a181), (.ref a181)]))
      obtain ⟨_, _, ⟨T188, L188, k188, n188⟩, -, X188, ⟨Lc188, hQ188, l188, y188, z188⟩, st188⟩ := X181.specialBack hx (y := (⟨"com/example/ashlar/ashlar/analysis/Bdd", "<init>", "(Z)V"⟩ : MethodName)) rfl hown (mvT hZ (own_w hw 4)) (mvT hZ (own_w hw 5)) (mvT hZ (own_w hw 6)) (by decide) (backOf (W := 1) (rm1 l Z a0 hw [] a181 (1 : Int32) h181 n0 Zs183 fr182 A181 F184 F185 F186 F187 rfl rfl) hZ (own_w hw 6) (own_w hw 3) (by decide) (by decide)) (g := (mkF m 31 #[oI p0, oI p1, oI (1 : Int32), oI (p1 &&& (2147483647 : Int32)), .unset, .unset, .unset, .unset, .unset, .unset] [(.int (1 : Int32)), (.ref a181), (.ref a181)])) rfl (by rw [hml]; rfl) (Steps.refl _) (a := a181) (argsL := [(.int (1 : Int32))]) (rest := [(.ref a181)]) (lenOf pd_0_0 rfl) rfl (by show 2 * 0 + _ ≤ _; exact Nat.le_of_eq rfl) (hb hby at_31) (fun _ _ => ⟨rfl, e181, (by decide : 1 + 0 ≤ _), (by decide : 4 + 0 ≤ _)⟩)
      dsimp only [Pt.U, Pt.locs, Pt.cells, Pt.slots] at X188 l188 y188 z188 st188 hQ188
      subst l188 y188 z188
      obtain ⟨rfl, Nq188, Kc188, Fc0_188⟩ := hQ188
      have N189 := Fr.app N0 Nq188
      refine own_tr st188 ?_
      have E190 := A181.keep Kc188
      have Zs191 : n0 ≤ T188.heap.size := Nat.le_trans Zs183 Kc188.1
      show own_Go p e below _ (T188.setTop (mkF m 34 #[oI p0, oI p1, oI (1 : Int32), oI (p1 &&& (2147483647 : Int32)), .unset, .unset, .unset, .unset, .unset, .unset] [(.ref a181)]))
      refine own_via (fun t k => XS.astore X188.here hx rfl (hb hby at_34) rfl rfl (l' := #[oI p0, oI p1, oI (1 : Int32), oI (p1 &&& (2147483647 : Int32)), oR a181, .unset, .unset, .unset, .unset, .unset]) rfl k) ?_
      show own_Go p e below _ (T188.setTop (mkF m 36 #[oI p0, oI p1, oI (1 : Int32), oI (p1 &&& (2147483647 : Int32)), oR a181, .unset, .unset, .unset, .unset, .unset] []))
      obtain ⟨T192, h192, X192, e192, E192, A192, D192, -, st192⟩ := newO X188 hx hZ hown (own_w hw 1) (own_w hw 2) (own_w hw 3) rfl (g := (mkF m 36 #[oI p0, oI p1, oI (1 : Int32), oI (p1 &&& (2147483647 : Int32)), oR a181, .unset, .unset, .unset, .unset, .unset] [])) rfl (hb hby at_36) (by decide) (by decide)
      obtain ⟨a192, g192⟩ : ∃ z, z = T188.heap.size := ⟨_, rfl⟩
      rw [← g192] at A192 D192 st192
      refine own_via st192 ?_
      have lt193 : a181 < a192 := Nat.lt_of_lt_of_le E190.lt (Nat.le_of_eq g192.symm)
      have fr194 : n0 ≤ a192 := Nat.le_trans Zs191 (Nat.le_of_eq g192.symm)
      have E195 := E190.ext E192
      have F196 := Fc0_188.ext E192
      have Zs197 : n0 ≤ h192.size := Nat.le_trans Zs191 E192.1
      have F198 : Fld Z h192 a192 "com/example/ashlar/ashlar/analysis/Bdd" "variable" "I" (.int (0 : Int32)) := D192 (Or.inr (own_w hw 12)) (ty := .int) (by decide)
      have F199 : Fld Z h192 a192 "com/example/ashlar/ashlar/analysis/Bdd" "low" "Lcom/example/ashlar/ashlar/analysis/Bdd;" .null := D192 (Or.inr (own_w hw 14)) (ty := (.object "com/example/ashlar/ashlar/analysis/Bdd")) (by decide)
      have F200 : Fld Z h192 a192 "com/example/ashlar/ashlar/analysis/Bdd" "high" "Lcom/example/ashlar/ashlar/analysis/Bdd;" .null := D192 (Or.inr (own_w hw 16)) (ty := (.object "com/example/ashlar/ashlar/analysis/Bdd")) (by decide)
      have F201 : Fld Z h192 a192 "com/example/ashlar/ashlar/analysis/Bdd" "value" "Z" (.int (0 : Int32)) := D192 (Or.inr (own_w hw 18)) (ty := .boolean) (by decide)
      show own_Go p e below _ (T192.setTop (mkF m 39 #[oI p0, oI p1, oI (1 : Int32), oI (p1 &&& (2147483647 : Int32)), oR a181, .unset, .unset, .unset, .unset, .unset] [(.ref a192)]))
      refine own_via (fun t k => XS.dup X192.here hx rfl (hb hby at_39) rfl rfl k) ?_
      show own_Go p e below _ (T192.setTop (mkF m 40 #[oI p0, oI p1, oI (1 : Int32), oI (p1 &&& (2147483647 : Int32)), oR a181, .unset, .unset, .unset, .unset, .unset] [(.ref a192), (.ref a192)]))
      refine own_via (fun t k => XS.iloadN X192.here hx rfl (hb hby at_40) rfl k) ?_
      show own_Go p e below _ (T192.setTop (mkF m 41 #[oI p0, oI p1, oI (1 : Int32), oI (p1 &&& (2147483647 : Int32)), oR a181, .unset, .unset, .unset, .unset, .unset] [(.int (1 : Int32)), (.ref a192), (.ref a192)]))
      refine own_via (fun t k => XS.ifYes X192.here hx rfl (pc0 := 41) (pc' := 48) rfl (hb hby at_41) rfl ((if0 _ _).trans (feq (by decide : ¬ ((1 : Int32) = (0 : Int32)))).2) (by decide) (by decide) k) ?_
      show own_Go p e below _ (T192.setTop (mkF m 48 #[oI p0, oI p1, oI (1 : Int32), oI (p1 &&& (2147483647 : Int32)), oR a181, .unset, .unset, .unset, .unset, .unset] [(.ref a192), (.ref a192)]))
      refine own_via (fun t k => XS.iconst X192.here hx rfl (hb hby at_48) k) ?_
      show own_Go p e below _ (T192.setTop (mkF m 49 #[oI p0, oI p1, oI (1 : Int32), oI (p1 &&& (2147483647 : Int32)), oR a181, .unset, .unset, .unset, .unset, .unset] [(.int (0 : Int32)), (.ref a192), (.ref a192)]))
      obtain ⟨_, _, ⟨T202, L202, k202, n202⟩, -, X202, ⟨Lc202, hQ202, l202, y202, z202⟩, st202⟩ := X192.specialBack hx (y := (⟨"com/example/ashlar/ashlar/analysis/Bdd", "<init>", "(Z)V"⟩ : MethodName)) rfl hown (mvT hZ (own_w hw 4)) (mvT hZ (own_w hw 5)) (mvT hZ (own_w hw 6)) (by decide) (backOf (W := 1) (rm1 l Z a0 hw [] a192 (0 : Int32) h192 n0 Zs197 fr194 A192 F198 F199 F200 F201 rfl rfl) hZ (own_w hw 6) (own_w hw 3) (by decide) (by decide)) (g := (mkF m 49 #[oI p0, oI p1, oI (1 : Int32), oI (p1 &&& (2147483647 : Int32)), oR a181, .unset, .unset, .unset, .unset, .unset] [(.int (0 : Int32)), (.ref a192), (.ref a192)])) rfl (by rw [hml]; rfl) (Steps.refl _) (a := a192) (argsL := [(.int (0 : Int32))]) (rest := [(.ref a192)]) (lenOf pd_0_0 rfl) rfl (by show 2 * 0 + _ ≤ _; exact Nat.le_of_eq rfl) (hb hby at_49) (fun _ _ => ⟨rfl, e192, (by decide : 2 + 0 ≤ _), (by decide : 8 + 0 ≤ _)⟩)
      dsimp only [Pt.U, Pt.locs, Pt.cells, Pt.slots] at X202 l202 y202 z202 st202 hQ202
      subst l202 y202 z202
      obtain ⟨rfl, Nq202, Kc202, Fc0_202⟩ := hQ202
      have N203 := Fr.app N189 Nq202
      refine own_tr st202 ?_
      have E204 := E195.keep Kc202
      have F205 := F196.keep Kc202 (ninS (Nat.ne_of_lt lt193) nin0)
      have E206 := A192.keep Kc202
      have Zs207 : n0 ≤ T202.heap.size := Nat.le_trans Zs197 Kc202.1
      show own_Go p e below _ (T202.setTop (mkF m 52 #[oI p0, oI p1, oI (1 : Int32), oI (p1 &&& (2147483647 : Int32)), oR a181, .unset, .unset, .unset, .unset, .unset] [(.ref a192)]))
      refine own_via (fun t k => XS.astore X202.here hx rfl (hb hby at_52) rfl rfl (l' := #[oI p0, oI p1, oI (1 : Int32), oI (p1 &&& (2147483647 : Int32)), oR a181, oR a192, .unset, .unset, .unset, .unset]) rfl k) ?_
      show own_Go p e below _ (T202.setTop (mkF m 54 #[oI p0, oI p1, oI (1 : Int32), oI (p1 &&& (2147483647 : Int32)), oR a181, oR a192, .unset, .unset, .unset, .unset] []))
      obtain ⟨T208, h208, X208, e208, E208, A208, D208, -, st208⟩ := newO X202 hx hZ hown (own_w hw 1) (own_w hw 2) (own_w hw 3) rfl (g := (mkF m 54 #[oI p0, oI p1, oI (1 : Int32), oI (p1 &&& (2147483647 : Int32)), oR a181, oR a192, .unset, .unset, .unset, .unset] [])) rfl (hb hby at_54) (by decide) (by decide)
      obtain ⟨a208, g208⟩ : ∃ z, z = T202.heap.size := ⟨_, rfl⟩
      rw [← g208] at A208 D208 st208
      refine own_via st208 ?_
      have lt209 : a181 < a208 := Nat.lt_of_lt_of_le E204.lt (Nat.le_of_eq g208.symm)
      have lt210 : a192 < a208 := Nat.lt_of_lt_of_le E206.lt (Nat.le_of_eq g208.symm)
      have fr211 : n0 ≤ a208 := Nat.le_trans Zs207 (Nat.le_of_eq g208.symm)
      have E212 := E204.ext E208
      have F213 := F205.ext E208
      have E214 := E206.ext E208
      have F215 := Fc0_202.ext E208
      have Zs216 : n0 ≤ h208.size := Nat.le_trans Zs207 E208.1
      have F217 : Fld Z h208 a208 "com/example/ashlar/ashlar/analysis/Bdd" "variable" "I" (.int (0 : Int32)) := D208 (Or.inr (own_w hw 12)) (ty := .int) (by decide)
      have F218 : Fld Z h208 a208 "com/example/ashlar/ashlar/analysis/Bdd" "low" "Lcom/example/ashlar/ashlar/analysis/Bdd;" .null := D208 (Or.inr (own_w hw 14)) (ty := (.object "com/example/ashlar/ashlar/analysis/Bdd")) (by decide)
      have F219 : Fld Z h208 a208 "com/example/ashlar/ashlar/analysis/Bdd" "high" "Lcom/example/ashlar/ashlar/analysis/Bdd;" .null := D208 (Or.inr (own_w hw 16)) (ty := (.object "com/example/ashlar/ashlar/analysis/Bdd")) (by decide)
      have F220 : Fld Z h208 a208 "com/example/ashlar/ashlar/analysis/Bdd" "value" "Z" (.int (0 : Int32)) := D208 (Or.inr (own_w hw 18)) (ty := .boolean) (by decide)
      show own_Go p e below _ (T208.setTop (mkF m 57 #[oI p0, oI p1, oI (1 : Int32), oI (p1 &&& (2147483647 : Int32)), oR a181, oR a192, .unset, .unset, .unset, .unset] [(.ref a208)]))
      refine own_via (fun t k => XS.dup X208.here hx rfl (hb hby at_57) rfl rfl k) ?_
      show own_Go p e below _ (T208.setTop (mkF m 58 #[oI p0, oI p1, oI (1 : Int32), oI (p1 &&& (2147483647 : Int32)), oR a181, oR a192, .unset, .unset, .unset, .unset] [(.ref a208), (.ref a208)]))
      refine own_via (fun t k => XS.iloadN X208.here hx rfl (hb hby at_58) rfl k) ?_
      show own_Go p e below _ (T208.setTop (mkF m 59 #[oI p0, oI p1, oI (1 : Int32), oI (p1 &&& (2147483647 : Int32)), oR a181, oR a192, .unset, .unset, .unset, .unset] [(.int (p1 &&& (2147483647 : Int32))), (.ref a208), (.ref a208)]))
      refine own_via (fun t k => XS.aload X208.here hx rfl (hb hby at_59) rfl rfl k) ?_
      show own_Go p e below _ (T208.setTop (mkF m 61 #[oI p0, oI p1, oI (1 : Int32), oI (p1 &&& (2147483647 : Int32)), oR a181, oR a192, .unset, .unset, .unset, .unset] [(.ref a192), (.int (p1 &&& (2147483647 : Int32))), (.ref a208), (.ref a208)]))
      refine own_via (fun t k => XS.aload X208.here hx rfl (hb hby at_61) rfl rfl k) ?_
      show own_Go p e below _ (T208.setTop (mkF m 63 #[oI p0, oI p1, oI (1 : Int32), oI (p1 &&& (2147483647 : Int32)), oR a181, oR a192, .unset, .unset, .unset, .unset] [(.ref a181), (.ref a192), (.int (p1 &&& (2147483647 : Int32))), (.ref a208), (.ref a208)]))
      obtain ⟨_, _, ⟨T221, L221, k221, n221⟩, -, X221, ⟨Lc221, hQ221, l221, y221, z221⟩, st221⟩ := X208.specialBack hx (y := (⟨"com/example/ashlar/ashlar/analysis/Bdd", "<init>", "(ILcom/example/ashlar/ashlar/analysis/Bdd;Lcom/example/ashlar/ashlar/analysis/Bdd;)V"⟩ : MethodName)) rfl hown (mvT hZ (own_w hw 19)) (mvT hZ (own_w hw 20)) (mvT hZ (own_w hw 21)) (by decide) (backOf (W := 1) (rm3 l Z a0 hw [] a208 (p1 &&& (2147483647 : Int32)) a192 a181 h208 n0 Zs216 fr211 A208 F217 F218 F219 F220) hZ (own_w hw 21) (own_w hw 3) (by decide) (by decide)) (g := (mkF m 63 #[oI p0, oI p1, oI (1 : Int32), oI (p1 &&& (2147483647 : Int32)), oR a181, oR a192, .unset, .unset, .unset, .unset] [(.ref a181), (.ref a192), (.int (p1 &&& (2147483647 : Int32))), (.ref a208), (.ref a208)])) rfl (by rw [hml]; rfl) (Steps.refl _) (a := a208) (argsL := [(.int (p1 &&& (2147483647 : Int32))), (.ref a192), (.ref a181)]) (rest := [(.ref a208)]) (lenOf pd_0_1 rfl) rfl (by show 2 * 0 + _ ≤ _; exact Nat.le_of_eq rfl) (hb hby at_63) (fun _ _ => ⟨rfl, e208, (by decide : 3 + 0 ≤ _), (by decide : 12 + 0 ≤ _)⟩)
      dsimp only [Pt.U, Pt.locs, Pt.cells, Pt.slots] at X221 l221 y221 z221 st221 hQ221
      subst l221 y221 z221
      obtain ⟨rfl, Nq221, Kc221, Fc0_221⟩ := hQ221
      have N222 := Fr.app N203 Nq221
      refine own_tr st221 ?_
      have E223 := E212.keep Kc221
      have F224 := F213.keep Kc221 (ninS (Nat.ne_of_lt lt209) nin0)
      have E225 := E214.keep Kc221
      have F226 := F215.keep Kc221 (ninS (Nat.ne_of_lt lt210) nin0)
      have E227 := A208.keep Kc221
      have Zs228 : n0 ≤ T221.heap.size := Nat.le_trans Zs216 Kc221.1
      show own_Go p e below _ (T221.setTop (mkF m 66 #[oI p0, oI p1, oI (1 : Int32), oI (p1 &&& (2147483647 : Int32)), oR a181, oR a192, .unset, .unset, .unset, .unset] [(.ref a208)]))
      refine own_via (fun t k => XS.astore X221.here hx rfl (hb hby at_66) rfl rfl (l' := #[oI p0, oI p1, oI (1 : Int32), oI (p1 &&& (2147483647 : Int32)), oR a181, oR a192, oR a208, .unset, .unset, .unset]) rfl k) ?_
      show own_Go p e below _ (T221.setTop (mkF m 68 #[oI p0, oI p1, oI (1 : Int32), oI (p1 &&& (2147483647 : Int32)), oR a181, oR a192, oR a208, .unset, .unset, .unset] []))
      refine own_via (fun t k => XS.aload X221.here hx rfl (hb hby at_68) rfl rfl k) ?_
      show own_Go p e below _ (T221.setTop (mkF m 70 #[oI p0, oI p1, oI (1 : Int32), oI (p1 &&& (2147483647 : Int32)), oR a181, oR a192, oR a208, .unset, .unset, .unset] [(.ref a181)]))
      obtain ⟨cq229, kq229, qa229, qb229, qc229⟩ := isOf hZ rfl E223
      obtain ⟨_, _, ⟨T229, L229, k229, n229⟩, -, X229, ⟨Lc229, hQ229, l229, y229, z229⟩, st229⟩ := X221.virtualBack hx (y := (⟨"com/example/ashlar/ashlar/analysis/Bdd", "isTerminal", "()Z"⟩ : MethodName)) (z := (⟨"com/example/ashlar/ashlar/analysis/Bdd", "isTerminal", "()Z"⟩ : MethodName)) hown (mvT hZ (own_w hw 22)) (mvT hZ (own_w hw 23)) (notFace_of_selects (args := #[]) (mvT hZ (own_w hw 25))) (mvT hZ (own_w hw 25)) (mvT hZ (own_w hw 24)) (by decide) (backOf (W := 0) (rm4 l Z a0 hw [] a181 (2147483647 : Int32) (1 : Int32) T221.heap n0 Zs228 F224 (by unfold f4; rw [if_pos (by decide : (2147483647 : Int32) = (2147483647 : Int32))])) hZ (own_w hw 26) (own_w hw 3) (by decide) (by decide)) qa229 qc229 (g := (mkF m 70 #[oI p0, oI p1, oI (1 : Int32), oI (p1 &&& (2147483647 : Int32)), oR a181, oR a192, oR a208, .unset, .unset, .unset] [(.ref a181)])) rfl (by rw [hml]; rfl) (Steps.refl _) (argsL := []) (rest := []) (lenOf pd_0_2 rfl) rfl (by show 2 * 0 + _ ≤ _; exact Nat.le_of_eq rfl) (hb hby at_70) (fun _ _ => ⟨rfl, rfl, (by decide : 3 + 0 ≤ _), (by decide : 12 + 0 ≤ _)⟩)
      dsimp only [Pt.U, Pt.locs, Pt.cells, Pt.slots] at X229 l229 y229 z229 st229 hQ229
      subst l229 y229 z229
      obtain ⟨rfl, Nq229, e229⟩ := hQ229
      have N230 := Fr.app N222 Nq229
      refine own_tr st229 ?_
      show own_Go p e below _ (T229.setTop (mkF m 73 #[oI p0, oI p1, oI (1 : Int32), oI (p1 &&& (2147483647 : Int32)), oR a181, oR a192, oR a208, .unset, .unset, .unset] [(.int (1 : Int32))]))
      refine own_via (fun t k => XS.ifNo X229.here hx rfl (hb hby at_73) rfl ((if0 _ _).trans (feq (by decide : ¬ ((1 : Int32) = (0 : Int32)))).1) k) ?_
      show own_Go p e below _ (T229.setTop (mkF m 76 #[oI p0, oI p1, oI (1 : Int32), oI (p1 &&& (2147483647 : Int32)), oR a181, oR a192, oR a208, .unset, .unset, .unset] []))
      refine own_via (fun t k => XS.aload X229.here hx rfl (hb hby at_76) rfl rfl k) ?_
      show own_Go p e below _ (T229.setTop (mkF m 78 #[oI p0, oI p1, oI (1 : Int32), oI (p1 &&& (2147483647 : Int32)), oR a181, oR a192, oR a208, .unset, .unset, .unset] [(.ref a192)]))
      obtain ⟨cq231, kq231, qa231, qb231, qc231⟩ := isOf hZ e229 E225
      obtain ⟨_, _, ⟨T231, L231, k231, n231⟩, -, X231, ⟨Lc231, hQ231, l231, y231, z231⟩, st231⟩ := X229.virtualBack hx (y := (⟨"com/example/ashlar/ashlar/analysis/Bdd", "isTerminal", "()Z"⟩ : MethodName)) (z := (⟨"com/example/ashlar/ashlar/analysis/Bdd", "isTerminal", "()Z"⟩ : MethodName)) hown (mvT hZ (own_w hw 22)) (mvT hZ (own_w hw 23)) (notFace_of_selects (args := #[]) (mvT hZ (own_w hw 25))) (mvT hZ (own_w hw 25)) (mvT hZ (own_w hw 24)) (by decide) (backOf (W := 0) (rm4 l Z a0 hw [] a192 (2147483647 : Int32) (1 : Int32) T221.heap n0 Zs228 F226 (by unfold f4; rw [if_pos (by decide : (2147483647 : Int32) = (2147483647 : Int32))])) hZ (own_w hw 26) (own_w hw 3) (by decide) (by decide)) qa231 qc231 (g := (mkF m 78 #[oI p0, oI p1, oI (1 : Int32), oI (p1 &&& (2147483647 : Int32)), oR a181, oR a192, oR a208, .unset, .unset, .unset] [(.ref a192)])) rfl (by rw [hml]; rfl) (Steps.refl _) (argsL := []) (rest := []) (lenOf pd_0_2 rfl) rfl (by show 2 * 0 + _ ≤ _; exact Nat.le_of_eq rfl) (hb hby at_78) (fun _ _ => ⟨rfl, e229, (by decide : 3 + 0 ≤ _), (by decide : 12 + 0 ≤ _)⟩)
      dsimp only [Pt.U, Pt.locs, Pt.cells, Pt.slots] at X231 l231 y231 z231 st231 hQ231
      subst l231 y231 z231
      obtain ⟨rfl, Nq231, e231⟩ := hQ231
      have N232 := Fr.app N230 Nq231
      refine own_tr st231 ?_
      show own_Go p e below _ (T231.setTop (mkF m 81 #[oI p0, oI p1, oI (1 : Int32), oI (p1 &&& (2147483647 : Int32)), oR a181, oR a192, oR a208, .unset, .unset, .unset] [(.int (1 : Int32))]))
      refine own_via (fun t k => XS.ifNo X231.here hx rfl (hb hby at_81) rfl ((if0 _ _).trans (feq (by decide : ¬ ((1 : Int32) = (0 : Int32)))).1) k) ?_
      show own_Go p e below _ (T231.setTop (mkF m 84 #[oI p0, oI p1, oI (1 : Int32), oI (p1 &&& (2147483647 : Int32)), oR a181, oR a192, oR a208, .unset, .unset, .unset] []))
      refine own_via (fun t k => XS.iconst X231.here hx rfl (hb hby at_84) k) ?_
      show own_Go p e below _ (T231.setTop (mkF m 85 #[oI p0, oI p1, oI (1 : Int32), oI (p1 &&& (2147483647 : Int32)), oR a181, oR a192, oR a208, .unset, .unset, .unset] [(.int (1 : Int32))]))
      refine own_via (fun t k => XS.goto X231.here hx rfl (pc0 := 85) (pc' := 89) rfl (hb hby at_85) (by decide) (by decide) k) ?_
      show own_Go p e below _ (T231.setTop (mkF m 89 #[oI p0, oI p1, oI (1 : Int32), oI (p1 &&& (2147483647 : Int32)), oR a181, oR a192, oR a208, .unset, .unset, .unset] [(.int (1 : Int32))]))
      refine own_via (fun t k => XS.istore X231.here hx rfl (hb hby at_89) rfl (l' := #[oI p0, oI p1, oI (1 : Int32), oI (p1 &&& (2147483647 : Int32)), oR a181, oR a192, oR a208, oI (1 : Int32), .unset, .unset]) rfl k) ?_
      show own_Go p e below _ (T231.setTop (mkF m 91 #[oI p0, oI p1, oI (1 : Int32), oI (p1 &&& (2147483647 : Int32)), oR a181, oR a192, oR a208, oI (1 : Int32), .unset, .unset] []))
      refine own_via (fun t k => XS.aload X231.here hx rfl (hb hby at_91) rfl rfl k) ?_
      show own_Go p e below _ (T231.setTop (mkF m 93 #[oI p0, oI p1, oI (1 : Int32), oI (p1 &&& (2147483647 : Int32)), oR a181, oR a192, oR a208, oI (1 : Int32), .unset, .unset] [(.ref a208)]))
      obtain ⟨cq233, kq233, qa233, qb233, qc233⟩ := isOf hZ e231 E227
      obtain ⟨_, _, ⟨T233, L233, k233, n233⟩, -, X233, ⟨Lc233, hQ233, l233, y233, z233⟩, st233⟩ := X231.virtualBack hx (y := (⟨"com/example/ashlar/ashlar/analysis/Bdd", "isTerminal", "()Z"⟩ : MethodName)) (z := (⟨"com/example/ashlar/ashlar/analysis/Bdd", "isTerminal", "()Z"⟩ : MethodName)) hown (mvT hZ (own_w hw 22)) (mvT hZ (own_w hw 23)) (notFace_of_selects (args := #[]) (mvT hZ (own_w hw 25))) (mvT hZ (own_w hw 25)) (mvT hZ (own_w hw 24)) (by decide) (backOf (W := 0) (rm4 l Z a0 hw [] a208 (p1 &&& (2147483647 : Int32)) (0 : Int32) T221.heap n0 Zs228 Fc0_221 (by unfold f4; rw [if_neg hc20_121])) hZ (own_w hw 26) (own_w hw 3) (by decide) (by decide)) qa233 qc233 (g := (mkF m 93 #[oI p0, oI p1, oI (1 : Int32), oI (p1 &&& (2147483647 : Int32)), oR a181, oR a192, oR a208, oI (1 : Int32), .unset, .unset] [(.ref a208)])) rfl (by rw [hml]; rfl) (Steps.refl _) (argsL := []) (rest := []) (lenOf pd_0_2 rfl) rfl (by show 2 * 0 + _ ≤ _; exact Nat.le_of_eq rfl) (hb hby at_93) (fun _ _ => ⟨rfl, e231, (by decide : 3 + 0 ≤ _), (by decide : 12 + 0 ≤ _)⟩)
      dsimp only [Pt.U, Pt.locs, Pt.cells, Pt.slots] at X233 l233 y233 z233 st233 hQ233
      subst l233 y233 z233
      obtain ⟨rfl, Nq233, e233⟩ := hQ233
      have N234 := Fr.app N232 Nq233
      refine own_tr st233 ?_
      show own_Go p e below _ (T233.setTop (mkF m 96 #[oI p0, oI p1, oI (1 : Int32), oI (p1 &&& (2147483647 : Int32)), oR a181, oR a192, oR a208, oI (1 : Int32), .unset, .unset] [(.int (0 : Int32))]))
      refine own_via (fun t k => XS.ifNo X233.here hx rfl (hb hby at_96) rfl ((if0 _ _).trans (teq (by decide : (0 : Int32) = (0 : Int32))).2) k) ?_
      show own_Go p e below _ (T233.setTop (mkF m 99 #[oI p0, oI p1, oI (1 : Int32), oI (p1 &&& (2147483647 : Int32)), oR a181, oR a192, oR a208, oI (1 : Int32), .unset, .unset] []))
      refine own_via (fun t k => XS.iconst X233.here hx rfl (hb hby at_99) k) ?_
      show own_Go p e below _ (T233.setTop (mkF m 100 #[oI p0, oI p1, oI (1 : Int32), oI (p1 &&& (2147483647 : Int32)), oR a181, oR a192, oR a208, oI (1 : Int32), .unset, .unset] [(.int (1 : Int32))]))
      refine own_via (fun t k => XS.goto X233.here hx rfl (pc0 := 100) (pc' := 104) rfl (hb hby at_100) (by decide) (by decide) k) ?_
      show own_Go p e below _ (T233.setTop (mkF m 104 #[oI p0, oI p1, oI (1 : Int32), oI (p1 &&& (2147483647 : Int32)), oR a181, oR a192, oR a208, oI (1 : Int32), .unset, .unset] [(.int (1 : Int32))]))
      refine own_via (fun t k => XS.istore X233.here hx rfl (hb hby at_104) rfl (l' := #[oI p0, oI p1, oI (1 : Int32), oI (p1 &&& (2147483647 : Int32)), oR a181, oR a192, oR a208, oI (1 : Int32), oI (1 : Int32), .unset]) rfl k) ?_
      show own_Go p e below _ (T233.setTop (mkF m 106 #[oI p0, oI p1, oI (1 : Int32), oI (p1 &&& (2147483647 : Int32)), oR a181, oR a192, oR a208, oI (1 : Int32), oI (1 : Int32), .unset] []))
      refine own_via (fun t k => XS.aload X233.here hx rfl (hb hby at_106) rfl rfl k) ?_
      show own_Go p e below _ (T233.setTop (mkF m 108 #[oI p0, oI p1, oI (1 : Int32), oI (p1 &&& (2147483647 : Int32)), oR a181, oR a192, oR a208, oI (1 : Int32), oI (1 : Int32), .unset] [(.ref a181)]))
      obtain ⟨cq235, kq235, qa235, qb235, qc235⟩ := isOf hZ e233 E223
      obtain ⟨_, _, ⟨T235, L235, k235, n235⟩, -, X235, ⟨Lc235, hQ235, l235, y235, z235⟩, st235⟩ := X233.virtualBack hx (y := (⟨"com/example/ashlar/ashlar/analysis/Bdd", "variable", "()I"⟩ : MethodName)) (z := (⟨"com/example/ashlar/ashlar/analysis/Bdd", "variable", "()I"⟩ : MethodName)) hown (mvT hZ (own_w hw 27)) (mvT hZ (own_w hw 28)) (notFace_of_selects (args := #[]) (mvT hZ (own_w hw 30))) (mvT hZ (own_w hw 30)) (mvT hZ (own_w hw 29)) (by decide) (backOf (W := 0) (rm5 l Z a0 hw [] a181 (2147483647 : Int32) (2147483647 : Int32) T221.heap n0 Zs228 F224 (by unfold f5; rfl)) hZ (own_w hw 31) (own_w hw 3) (by decide) (by decide)) qa235 qc235 (g := (mkF m 108 #[oI p0, oI p1, oI (1 : Int32), oI (p1 &&& (2147483647 : Int32)), oR a181, oR a192, oR a208, oI (1 : Int32), oI (1 : Int32), .unset] [(.ref a181)])) rfl (by rw [hml]; rfl) (Steps.refl _) (argsL := []) (rest := []) (lenOf pd_0_3 rfl) rfl (by show 2 * 0 + _ ≤ _; exact Nat.le_of_eq rfl) (hb hby at_108) (fun _ _ => ⟨rfl, e233, (by decide : 3 + 0 ≤ _), (by decide : 12 + 0 ≤ _)⟩)
      dsimp only [Pt.U, Pt.locs, Pt.cells, Pt.slots] at X235 l235 y235 z235 st235 hQ235
      subst l235 y235 z235
      obtain ⟨rfl, Nq235, e235⟩ := hQ235
      have N236 := Fr.app N234 Nq235
      refine own_tr st235 ?_
      show own_Go p e below _ (T235.setTop (mkF m 111 #[oI p0, oI p1, oI (1 : Int32), oI (p1 &&& (2147483647 : Int32)), oR a181, oR a192, oR a208, oI (1 : Int32), oI (1 : Int32), .unset] [(.int (2147483647 : Int32))]))
      refine own_via (fun t k => X235.ldcInt hx hown (mvT hZ (own_w hw 0)) (g := (mkF m 111 #[oI p0, oI p1, oI (1 : Int32), oI (p1 &&& (2147483647 : Int32)), oR a181, oR a192, oR a208, oI (1 : Int32), oI (1 : Int32), .unset] [(.int (2147483647 : Int32))])) rfl (hb hby at_111) t k) ?_
      show own_Go p e below _ (T235.setTop (mkF m 113 #[oI p0, oI p1, oI (1 : Int32), oI (p1 &&& (2147483647 : Int32)), oR a181, oR a192, oR a208, oI (1 : Int32), oI (1 : Int32), .unset] [(.int (2147483647 : Int32)), (.int (2147483647 : Int32))]))
      refine own_via (fun t k => XS.icmpNo X235.here hx rfl (hb hby at_113) rfl (teq (by decide : (2147483647 : Int32) = (2147483647 : Int32))).2 k) ?_
      show own_Go p e below _ (T235.setTop (mkF m 116 #[oI p0, oI p1, oI (1 : Int32), oI (p1 &&& (2147483647 : Int32)), oR a181, oR a192, oR a208, oI (1 : Int32), oI (1 : Int32), .unset] []))
      refine own_via (fun t k => XS.aload X235.here hx rfl (hb hby at_116) rfl rfl k) ?_
      show own_Go p e below _ (T235.setTop (mkF m 118 #[oI p0, oI p1, oI (1 : Int32), oI (p1 &&& (2147483647 : Int32)), oR a181, oR a192, oR a208, oI (1 : Int32), oI (1 : Int32), .unset] [(.ref a208)]))
      obtain ⟨cq237, kq237, qa237, qb237, qc237⟩ := isOf hZ e235 E227
      obtain ⟨_, _, ⟨T237, L237, k237, n237⟩, -, X237, ⟨Lc237, hQ237, l237, y237, z237⟩, st237⟩ := X235.virtualBack hx (y := (⟨"com/example/ashlar/ashlar/analysis/Bdd", "variable", "()I"⟩ : MethodName)) (z := (⟨"com/example/ashlar/ashlar/analysis/Bdd", "variable", "()I"⟩ : MethodName)) hown (mvT hZ (own_w hw 27)) (mvT hZ (own_w hw 28)) (notFace_of_selects (args := #[]) (mvT hZ (own_w hw 30))) (mvT hZ (own_w hw 30)) (mvT hZ (own_w hw 29)) (by decide) (backOf (W := 0) (rm5 l Z a0 hw [] a208 (p1 &&& (2147483647 : Int32)) (p1 &&& (2147483647 : Int32)) T221.heap n0 Zs228 Fc0_221 (by unfold f5; rfl)) hZ (own_w hw 31) (own_w hw 3) (by decide) (by decide)) qa237 qc237 (g := (mkF m 118 #[oI p0, oI p1, oI (1 : Int32), oI (p1 &&& (2147483647 : Int32)), oR a181, oR a192, oR a208, oI (1 : Int32), oI (1 : Int32), .unset] [(.ref a208)])) rfl (by rw [hml]; rfl) (Steps.refl _) (argsL := []) (rest := []) (lenOf pd_0_3 rfl) rfl (by show 2 * 0 + _ ≤ _; exact Nat.le_of_eq rfl) (hb hby at_118) (fun _ _ => ⟨rfl, e235, (by decide : 3 + 0 ≤ _), (by decide : 12 + 0 ≤ _)⟩)
      dsimp only [Pt.U, Pt.locs, Pt.cells, Pt.slots] at X237 l237 y237 z237 st237 hQ237
      subst l237 y237 z237
      obtain ⟨rfl, Nq237, e237⟩ := hQ237
      have N238 := Fr.app N236 Nq237
      refine own_tr st237 ?_
      show own_Go p e below _ (T237.setTop (mkF m 121 #[oI p0, oI p1, oI (1 : Int32), oI (p1 &&& (2147483647 : Int32)), oR a181, oR a192, oR a208, oI (1 : Int32), oI (1 : Int32), .unset] [(.int (p1 &&& (2147483647 : Int32)))]))
      refine own_via (fun t k => XS.iloadN X237.here hx rfl (hb hby at_121) rfl k) ?_
      show own_Go p e below _ (T237.setTop (mkF m 122 #[oI p0, oI p1, oI (1 : Int32), oI (p1 &&& (2147483647 : Int32)), oR a181, oR a192, oR a208, oI (1 : Int32), oI (1 : Int32), .unset] [(.int (p1 &&& (2147483647 : Int32))), (.int (p1 &&& (2147483647 : Int32)))]))
      refine own_via (fun t k => XS.icmpNo X237.here hx rfl (hb hby at_122) rfl (teq (rfl : (p1 &&& (2147483647 : Int32)) = (p1 &&& (2147483647 : Int32)))).2 k) ?_
      show own_Go p e below _ (T237.setTop (mkF m 125 #[oI p0, oI p1, oI (1 : Int32), oI (p1 &&& (2147483647 : Int32)), oR a181, oR a192, oR a208, oI (1 : Int32), oI (1 : Int32), .unset] []))
      refine own_via (fun t k => XS.iconst X237.here hx rfl (hb hby at_125) k) ?_
      show own_Go p e below _ (T237.setTop (mkF m 126 #[oI p0, oI p1, oI (1 : Int32), oI (p1 &&& (2147483647 : Int32)), oR a181, oR a192, oR a208, oI (1 : Int32), oI (1 : Int32), .unset] [(.int (1 : Int32))]))
      refine own_via (fun t k => XS.goto X237.here hx rfl (pc0 := 126) (pc' := 130) rfl (hb hby at_126) (by decide) (by decide) k) ?_
      show own_Go p e below _ (T237.setTop (mkF m 130 #[oI p0, oI p1, oI (1 : Int32), oI (p1 &&& (2147483647 : Int32)), oR a181, oR a192, oR a208, oI (1 : Int32), oI (1 : Int32), .unset] [(.int (1 : Int32))]))
      refine own_via (fun t k => XS.istore X237.here hx rfl (hb hby at_130) rfl (l' := #[oI p0, oI p1, oI (1 : Int32), oI (p1 &&& (2147483647 : Int32)), oR a181, oR a192, oR a208, oI (1 : Int32), oI (1 : Int32), oI (1 : Int32)]) rfl k) ?_
      show own_Go p e below _ (T237.setTop (mkF m 132 #[oI p0, oI p1, oI (1 : Int32), oI (p1 &&& (2147483647 : Int32)), oR a181, oR a192, oR a208, oI (1 : Int32), oI (1 : Int32), oI (1 : Int32)] []))
      refine own_via (fun t k => XS.iload X237.here hx rfl (hb hby at_132) rfl k) ?_
      show own_Go p e below _ (T237.setTop (mkF m 134 #[oI p0, oI p1, oI (1 : Int32), oI (p1 &&& (2147483647 : Int32)), oR a181, oR a192, oR a208, oI (1 : Int32), oI (1 : Int32), oI (1 : Int32)] [(.int (1 : Int32))]))
      refine own_via (fun t k => XS.ifNo X237.here hx rfl (hb hby at_134) rfl ((if0 _ _).trans (feq (by decide : ¬ ((1 : Int32) = (0 : Int32)))).1) k) ?_
      show own_Go p e below _ (T237.setTop (mkF m 137 #[oI p0, oI p1, oI (1 : Int32), oI (p1 &&& (2147483647 : Int32)), oR a181, oR a192, oR a208, oI (1 : Int32), oI (1 : Int32), oI (1 : Int32)] []))
      refine own_via (fun t k => XS.iload X237.here hx rfl (hb hby at_137) rfl k) ?_
      show own_Go p e below _ (T237.setTop (mkF m 139 #[oI p0, oI p1, oI (1 : Int32), oI (p1 &&& (2147483647 : Int32)), oR a181, oR a192, oR a208, oI (1 : Int32), oI (1 : Int32), oI (1 : Int32)] [(.int (1 : Int32))]))
      refine own_via (fun t k => XS.ifNo X237.here hx rfl (hb hby at_139) rfl ((if0 _ _).trans (feq (by decide : ¬ ((1 : Int32) = (0 : Int32)))).1) k) ?_
      show own_Go p e below _ (T237.setTop (mkF m 142 #[oI p0, oI p1, oI (1 : Int32), oI (p1 &&& (2147483647 : Int32)), oR a181, oR a192, oR a208, oI (1 : Int32), oI (1 : Int32), oI (1 : Int32)] []))
      refine own_via (fun t k => XS.iload X237.here hx rfl (hb hby at_142) rfl k) ?_
      show own_Go p e below _ (T237.setTop (mkF m 144 #[oI p0, oI p1, oI (1 : Int32), oI (p1 &&& (2147483647 : Int32)), oR a181, oR a192, oR a208, oI (1 : Int32), oI (1 : Int32), oI (1 : Int32)] [(.int (1 : Int32))]))
      refine own_via (fun t k => XS.ifNo X237.here hx rfl (hb hby at_144) rfl ((if0 _ _).trans (feq (by decide : ¬ ((1 : Int32) = (0 : Int32)))).1) k) ?_
      show own_Go p e below _ (T237.setTop (mkF m 147 #[oI p0, oI p1, oI (1 : Int32), oI (p1 &&& (2147483647 : Int32)), oR a181, oR a192, oR a208, oI (1 : Int32), oI (1 : Int32), oI (1 : Int32)] []))
      refine own_via (fun t k => XS.iconst X237.here hx rfl (hb hby at_147) k) ?_
      show own_Go p e below _ (T237.setTop (mkF m 148 #[oI p0, oI p1, oI (1 : Int32), oI (p1 &&& (2147483647 : Int32)), oR a181, oR a192, oR a208, oI (1 : Int32), oI (1 : Int32), oI (1 : Int32)] [(.int (1 : Int32))]))
      refine own_via (fun t k => XS.goto X237.here hx rfl (pc0 := 148) (pc' := 152) rfl (hb hby at_148) (by decide) (by decide) k) ?_
      show own_Go p e below _ (T237.setTop (mkF m 152 #[oI p0, oI p1, oI (1 : Int32), oI (p1 &&& (2147483647 : Int32)), oR a181, oR a192, oR a208, oI (1 : Int32), oI (1 : Int32), oI (1 : Int32)] [(.int (1 : Int32))]))
      obtain ⟨fs, hr, hrun, hended, hW, hsame⟩ := X237.leave (v := some (.int (1 : Int32))) (fun h => by rw [Bd.returns] at h; cases h)
      refine ⟨_, _, retN X237 hx (t := .boolean) Bd.returns (by simp) (hb hby at_152) hr, hrun, hended, _, _, rfl, ?_, ⟨_, rfl⟩, hW, hsame.mono (by decide) (by decide)⟩
      show Q0 Z p0 p1 h0 n0 _ T237.heap _
      rw [e237]
      exact ⟨rfl, N238⟩
set_option maxRecDepth 65536 in
set_option maxHeartbeats 40000000 in
theorem comes_1 {Post : Tables → Env → Array Value → State → Outcome → State → Prop} (hpost : ∀ tb e args s v u, (limb_1_1.after args s (.returned v) u = true ∧ limb_1_2.after args s (.returned v) u = true ∧ True) → FrameEnd s (.returned v) u (Jvm.fieldLocs frame_1_writes args s ++ Jvm.arrayLocs frame_1_arrays args s ++ Jvm.staticLocs frame_1_statics s) 16 128 → Post tb e args s (.returned v) u) :
    ArmFor flags0 classFile x code maxLocals ret World_1 tables_1 room_1 Calls_1 rest_1 Pre_1 Post := by
  intro l hfl _ _ p e ha hc hk s m args below hf hA hF happ hP
  obtain ⟨hcalls, hrest, hpre⟩ := hP
  obtain ⟨-, -, -, hnamed, -, -, -, hat⟩ := (Spec.applies_iff hf).mp happ
  obtain ⟨hg, hn⟩ := and_e (Cond.before_iff.mp (show (Jvm.Cond.and given_1 narrow_1).before args s = true from hpre))
  obtain ⟨g1, g2⟩ := and_e hg
  obtain ⟨g3, g4⟩ := and_e g2
  obtain ⟨w0, w1, rfl⟩ : ∃ w0 w1 : Value, args = #[w0, w1] := by
    have hs : args.size = 2 := by simpa [Cond.value, given_1] using g1
    obtain ⟨L⟩ := args
    match L, hs with
    | [w0, w1], _ => exact ⟨w0, w1, rfl⟩
  have hw := fun d (hd : d ∈ tables_1) => atoms_spec (ws := Jvm.Cond.code x code maxLocals ret :: tables_1) hat d (List.mem_cons_of_mem _ hd)
  obtain ⟨i0, ei0⟩ := is_v g3
  obtain rfl : w0 = (.int i0) := Option.some.inj ei0
  obtain ⟨i1, ei1⟩ := is_v g4
  obtain rfl : w1 = (.int i1) := Option.some.inj ei1
  obtain ⟨n, o, h1, h2, h3, _, L, rfl, ⟨rfl, N⟩, hq⟩ := rm0 l s _ hw tables_1 i0 i1 s.heap s.heap.size (Nat.le_refl _)  p e ha hc hk s m _ below hf ((Spec.applies_iff_loose hf).mp happ).1 ⟨rfl, State.Warmed39.refl s, rfl⟩ trivial
  refine ⟨n, _, h1, h2, h3, hpost _ _ _ _ _ _ ⟨Cond.after_iff.mpr rfl, Cond.after_iff.mpr (eq_i res_at (Term.int_eval (1)) rfl), trivial⟩ ⟨hq.1, hq.2.1, (hq.2.2.sift fun y hy => Or.inr (N y hy)).mono (by decide) (by decide)⟩⟩
theorem main_1_1 : Claimed_1_1 := comes_1 fun _ _ _ _ _ _ h hF => ⟨h.1, hF⟩
theorem main_1_2 : Claimed_1_2 := comes_1 fun _ _ _ _ _ _ h hF => ⟨h.2.1, hF⟩
end Jvm.Pilot.@@N@@
namespace Jvm.Pilot.@@N@@
open Jvm Jvm.ClassFile Sem Op Lib Jvm.Free Jvm.Stand Jvm.Pilot.@@N@@.Jvm.D
/-! MADE BY PROGRAM (witnessworld.py) out of the Statement's table words and the real class files: 7 classes; the members and pool entries that the words name. The judged class is class 1, her method 1. -/
namespace start1
open Jvm.ClassFile
def u (s : String) : CpInfo := .utf8 (stringToUtf16 s)
/-- a pool by its gaps: so many unusable entries, then the entry; so many at the end -/
def gap : Nat → List CpInfo → List CpInfo
  | 0, r => r
  | n + 1, r => .unusable :: gap n r
def poolList (es : List (Nat × CpInfo)) (last : Nat) : List CpInfo := es.foldr (fun e r => gap e.1 (e.2 :: r)) (gap last [])
def pool (es : List (Nat × CpInfo)) (last : Nat) : Array CpInfo := ⟨poolList es last⟩
def fileOf (pool : Array CpInfo) (this : Nat) (attrs : Array Attribute := #[]) (ms : Array MethodInfo := #[]) (fl : Nat := 33) (sup : Nat := 0) (ifs : Array Nat := #[]) (fds : Array FieldInfo := #[]) : ClassFile where
  minorVersion := 0
  majorVersion := 65
  constantPool := pool
  accessFlags := fl
  thisClass := this
  superClass := sup
  interfaces := ifs
  fields := fds
  methods := ms
  attributes := attrs
def plain (name : String) (sup : Option ClassId) : Class where
  name := name
  kind := .ordinary
  loader := none
  accessFlags := 33
  super := sup
  interfaces := #[]
  cf := none
  fields := #[]
  methods := #[]
  instanceTypes := #[]
  staticTypes := #[]
  resolved := #[]
  callSites := []
  init := .initialized
  statics := none
  mirror := none

def pool0 : Array CpInfo := pool [(5, u "<init>"), (0, u "()V"), (1, .class_ 10), (1, u "java/lang/Object")] 113

def k0c0 : Code := { maxStack := 0, maxLocals := 1, code := object_method_1_code, exceptionTable := #[], attributes := #[] }
def k0m0 : Method := { name := "<init>", desc := "()V", sig := { parameters := [], returnType := none }, accessFlags := 1, code := some k0c0 }
/-- java/lang/Object -/
def k0 : Class := { plain "java/lang/Object" none with
  accessFlags := 33
  interfaces := #[]
  cf := some (fileOf pool0 8 #[] #[{ accessFlags := 1, nameIndex := 5, descriptorIndex := 6, attributes := #[] }] 33 0 #[] #[])
  fields := #[]
  methods := #[k0m0]
  instanceTypes := #[]
  staticTypes := #[]
  resolved := Array.replicate 124 none
  statics := none }

def pool1 : Array CpInfo := pool [(2, .class_ 4), (1, u "java/lang/Object"), (0, u "<init>"), (0, u "()V"), (0, .integer 2147483647), (0, .class_ 9), (0, u "com/example/ashlar/ashlar/analysis/Bdd"), (0, .integer 2147483646), (0, .methodref 8 12), (0, .nameAndType 5 13), (0, u "(Z)V"), (0, .methodref 8 15), (0, .nameAndType 5 16), (0, u "(ILcom/example/ashlar/ashlar/analysis/Bdd;Lcom/example/ashlar/ashlar/analysis/Bdd;)V"), (0, .methodref 8 18), (0, .nameAndType 19 20), (0, u "isTerminal"), (0, u "()Z"), (0, .methodref 8 22), (0, .nameAndType 23 24), (0, u "variable"), (0, u "()I"), (0, .class_ 26), (0, u "com/example/ashlar/ashlar/analysis/BddIsTerminalPinLaw"), (2, u "law"), (0, u "(II)Z")] 3

def k1m0 : Method := { name := "<init>", desc := "()V", sig := { parameters := [], returnType := none }, accessFlags := 1, code := none }
def k1c1 : Code := { maxStack := 5, maxLocals := 10, code := code, exceptionTable := #[], attributes := #[] }
def k1m1 : Method := { name := "law", desc := "(II)Z", sig := { parameters := [.int, .int], returnType := some .boolean }, accessFlags := 9, code := some k1c1 }
/-- com/example/ashlar/ashlar/analysis/BddIsTerminalPinLaw -/
def k1 : Class := { plain "com/example/ashlar/ashlar/analysis/BddIsTerminalPinLaw" (some 0) with
  accessFlags := 49
  interfaces := #[]
  cf := some (fileOf pool1 25 #[] #[{ accessFlags := 1, nameIndex := 5, descriptorIndex := 6, attributes := #[] }, { accessFlags := 9, nameIndex := 29, descriptorIndex := 30, attributes := #[] }] 49 2 #[] #[])
  fields := #[]
  methods := #[k1m0, k1m1]
  instanceTypes := #[]
  staticTypes := #[]
  resolved := Array.replicate 34 none
  statics := none }

def pool2 : Array CpInfo := pool [(3, .methodref 4 5), (0, .class_ 6), (0, .nameAndType 7 8), (0, u "java/lang/Object"), (0, u "<init>"), (0, u "()V"), (0, .class_ 10), (0, u "com/example/ashlar/ashlar/analysis/Bdd"), (0, .integer 2147483647), (0, .fieldref 9 13), (0, .nameAndType 14 15), (0, u "variable"), (0, u "I"), (0, .fieldref 9 17), (0, .nameAndType 18 19), (0, u "low"), (0, u "Lcom/example/ashlar/ashlar/analysis/Bdd;"), (0, .fieldref 9 21), (0, .nameAndType 22 19), (0, u "high"), (0, .fieldref 9 24), (0, .nameAndType 25 26), (0, u "value"), (0, u "Z"), (2, u "isTerminal"), (0, u "()Z"), (0, u "TERMINAL"), (1, u "(Z)V"), (2, u "(ILcom/example/ashlar/ashlar/analysis/Bdd;Lcom/example/ashlar/ashlar/analysis/Bdd;)V"), (3, u "()I")] 3

def k2c0 : Code := { maxStack := 2, maxLocals := 2, code := prog_9_method_1_code, exceptionTable := #[], attributes := #[] }
def k2m0 : Method := { name := "<init>", desc := "(Z)V", sig := { parameters := [.boolean], returnType := none }, accessFlags := 0, code := some k2c0 }
def k2c1 : Code := { maxStack := 2, maxLocals := 4, code := prog_9_method_2_code, exceptionTable := #[], attributes := #[] }
def k2m1 : Method := { name := "<init>", desc := "(ILcom/example/ashlar/ashlar/analysis/Bdd;Lcom/example/ashlar/ashlar/analysis/Bdd;)V", sig := { parameters := [.int, (.object "com/example/ashlar/ashlar/analysis/Bdd"), (.object "com/example/ashlar/ashlar/analysis/Bdd")], returnType := none }, accessFlags := 0, code := some k2c1 }
def k2c2 : Code := { maxStack := 2, maxLocals := 1, code := prog_9_method_3_code, exceptionTable := #[], attributes := #[] }
def k2m2 : Method := { name := "isTerminal", desc := "()Z", sig := { parameters := [], returnType := some .boolean }, accessFlags := 0, code := some k2c2 }
def k2c3 : Code := { maxStack := 1, maxLocals := 1, code := prog_9_method_6_code, exceptionTable := #[], attributes := #[] }
def k2m3 : Method := { name := "variable", desc := "()I", sig := { parameters := [], returnType := some .int }, accessFlags := 0, code := some k2c3 }
/-- com/example/ashlar/ashlar/analysis/Bdd -/
def k2 : Class := { plain "com/example/ashlar/ashlar/analysis/Bdd" (some 0) with
  accessFlags := 48
  interfaces := #[]
  cf := some (fileOf pool2 9 #[] #[{ accessFlags := 0, nameIndex := 7, descriptorIndex := 33, attributes := #[] }, { accessFlags := 0, nameIndex := 7, descriptorIndex := 36, attributes := #[] }, { accessFlags := 0, nameIndex := 29, descriptorIndex := 30, attributes := #[] }, { accessFlags := 0, nameIndex := 14, descriptorIndex := 40, attributes := #[] }] 48 4 #[] #[{ accessFlags := 24, nameIndex := 31, descriptorIndex := 15, attributes := #[] }, { accessFlags := 18, nameIndex := 14, descriptorIndex := 15, attributes := #[] }, { accessFlags := 18, nameIndex := 18, descriptorIndex := 19, attributes := #[] }, { accessFlags := 18, nameIndex := 22, descriptorIndex := 19, attributes := #[] }, { accessFlags := 18, nameIndex := 25, descriptorIndex := 26, attributes := #[] }])
  fields := #[{ name := "TERMINAL", type := .int, accessFlags := 24, slot := 0, constantValue := 0 }, { name := "variable", type := .int, accessFlags := 18, slot := 0, constantValue := 0 }, { name := "low", type := (.object "com/example/ashlar/ashlar/analysis/Bdd"), accessFlags := 18, slot := 1, constantValue := 0 }, { name := "high", type := (.object "com/example/ashlar/ashlar/analysis/Bdd"), accessFlags := 18, slot := 2, constantValue := 0 }, { name := "value", type := .boolean, accessFlags := 18, slot := 3, constantValue := 0 }]
  methods := #[k2m0, k2m1, k2m2, k2m3]
  instanceTypes := #[.int, (.object "com/example/ashlar/ashlar/analysis/Bdd"), (.object "com/example/ashlar/ashlar/analysis/Bdd"), .boolean]
  staticTypes := #[.int]
  resolved := Array.replicate 44 none
  statics := none }

def pool3 : Array CpInfo := pool [(1, u "java/lang/Cloneable"), (0, .class_ 1), (0, u "java/lang/Object"), (0, .class_ 3)] 3

/-- java/lang/Cloneable -/
def k3 : Class := { plain "java/lang/Cloneable" (some 0) with
  accessFlags := 1537
  interfaces := #[]
  cf := some (fileOf pool3 2 #[] #[] 1537 4 #[] #[])
  fields := #[]
  methods := #[]
  instanceTypes := #[]
  staticTypes := #[]
  resolved := Array.replicate 8 none
  statics := none }

def pool4 : Array CpInfo := pool [(1, u "java/io/Serializable"), (0, .class_ 1), (0, u "java/lang/Object"), (0, .class_ 3)] 3

/-- java/io/Serializable -/
def k4 : Class := { plain "java/io/Serializable" (some 0) with
  accessFlags := 1537
  interfaces := #[]
  cf := some (fileOf pool4 2 #[] #[] 1537 4 #[] #[])
  fields := #[]
  methods := #[]
  instanceTypes := #[]
  staticTypes := #[]
  resolved := Array.replicate 8 none
  statics := none }

/-- the primitive byte -/
def k5 : Class := { plain "byte" none with kind := .primitive 'B', accessFlags := 0x411 }
/-- [B -/
def k6 : Class := { plain "[B" (some 0) with kind := .array 5 .byte, interfaces := #[3, 4], accessFlags := 1041 }

def heap : Heap := #[]
def classes : Array Class := #[k0, k1, k2, k3, k4, k5, k6]
def interned : List (Array UInt16 × Addr) := []
def slotsUsed : Nat := 0
def theMethod : MethodId := ⟨1, 1⟩
def args0 : Array Value := #[.int 5, .int 7]
def aboutOver (below : List Frame) : State where
  vm := { classes := classes, interned := interned.toArray }
  heap := heap
  slotsUsed := slotsUsed
  threads := #[{ frames := .invoking theMethod args0 :: below }]
def below0 : List Frame := [.native { method := ⟨0, 0⟩, args := #[] }]
def about1 : State := aboutOver below0
def p0 : Program := .bare "" "" ""
def e0 : Env := launch0.env 0 0 0
theorem w_frames : about1.frames = Frame.invoking theMethod args0 :: below0 := rfl
set_option maxRecDepth 65536 in
theorem w_args : argsFit about1.vm theMethod args0 = true := by decide +kernel
set_option maxRecDepth 65536 in
theorem w_heap : heapFits about1 = true := by decide +kernel
set_option maxRecDepth 65536 in
theorem w_runnable : about1.curStatus? = some .runnable := by decide +kernel
set_option maxRecDepth 65536 in
theorem w_alone : about1.alone = true := by decide +kernel
set_option maxRecDepth 65536 in
theorem w_named : about1.methodNamed? x = some theMethod := by decide +kernel
set_option maxRecDepth 65536 in
theorem w_hears : about1.hears theMethod below0 = true := by decide +kernel
set_option maxRecDepth 65536 in
theorem w_ripe : about1.ripe theMethod args0 below0 = true := by decide +kernel
theorem w_running : about1.status = .running := rfl
set_option maxRecDepth 65536 in
theorem w_room : about1.hasRoom e0.platform room_1 = true :=
  launch0.hasRoom_least _ room_1 (by decide +kernel) (by decide +kernel) (by decide +kernel) (by decide +kernel) (by decide +kernel) (by decide +kernel)
theorem allAtoms_all (ts : List Jvm.Cond) (a : Array Jvm.Value) (st : Jvm.State) : (allAtoms ts).before a st = ts.all (fun c => c.before a st) := by
  induction ts with
  | nil => rfl
  | cons c t ih =>
    show (Jvm.Cond.and c (allAtoms t)).before a st = _
    rw [Jvm.Cond.before_and, ih, List.all_cons]
def words1 : List Jvm.Cond := Jvm.Cond.code x code maxLocals ret :: tables_1
/-- a 'code' word, met by the world's own term for the bytes: nothing is compared byte by byte -/
theorem code_word {y : MethodName} {bytes : ByteArray} {mx : Nat} {rt : Option FieldType} {a : Array Value} {s : State} {m : MethodId} {meth : Method} {c : Code} (h1 : s.methodNamed? y = some m) (h2 : s.vm.method? m = some meth) (h3 : meth.code = some c) (h4 : c.code = bytes)
    (h5 : (c.maxLocals == mx && c.exceptionTable.isEmpty && decide (c.maxStack ≤ mostOperands) && decide (meth.sig.returnType = rt) && !meth.locks && decide (parseMethodDescriptor y.desc = some meth.sig)) = true) : (Jvm.Cond.code y bytes mx rt).before a s = true := by
  simp only [Bool.and_eq_true, beq_iff_eq, Bool.not_eq_true', decide_eq_true_eq] at h5
  obtain ⟨⟨⟨⟨⟨g1, g2⟩, g3⟩, g4⟩, g5⟩, g6⟩ := h5
  simp [Cond.before, Cond.holds, Cond.value, h1, h2, h3, h4, g1, g2, g3, g4, g5, g6]
def isCode : Jvm.Cond → Bool
  | .code _ _ _ _ => true
  | _ => false
theorem all_split {L : List Jvm.Cond} {P : Jvm.Cond → Bool} (h1 : L.all (fun c => isCode c || P c) = true) (h2 : ∀ c ∈ L.filter isCode, P c = true) : L.all P = true := by
  refine List.all_eq_true.mpr fun c hc => ?_
  have h := List.all_eq_true.mp h1 c hc
  rcases Bool.eq_false_or_eq_true (isCode c) with hi | hi
  · exact h2 c (List.mem_filter.mpr ⟨hc, hi⟩)
  · simpa [hi] using h
set_option maxRecDepth 65536 in
theorem w_c0 : (Jvm.Cond.code x code maxLocals ret).before args0 about1 = true := code_word (m := ⟨1, 1⟩) (meth := k1m1) (c := k1c1) (by decide +kernel) rfl rfl rfl (by decide +kernel)
set_option maxRecDepth 65536 in
theorem w_c1 : (Jvm.Cond.code ({ cls := "com/example/ashlar/ashlar/analysis/Bdd", name := "<init>", desc := "(Z)V" } : Jvm.MethodName) prog_9_method_1_code (2 : Nat) (Option.none : Option Jvm.ClassFile.FieldType)).before args0 about1 = true := code_word (m := ⟨2, 0⟩) (meth := k2m0) (c := k2c0) (by decide +kernel) rfl rfl rfl (by decide +kernel)
set_option maxRecDepth 65536 in
theorem w_c2 : (Jvm.Cond.code ({ cls := "java/lang/Object", name := "<init>", desc := "()V" } : Jvm.MethodName) object_method_1_code (1 : Nat) (Option.none : Option Jvm.ClassFile.FieldType)).before args0 about1 = true := code_word (m := ⟨0, 0⟩) (meth := k0m0) (c := k0c0) (by decide +kernel) rfl rfl rfl (by decide +kernel)
set_option maxRecDepth 65536 in
theorem w_c3 : (Jvm.Cond.code ({ cls := "com/example/ashlar/ashlar/analysis/Bdd", name := "<init>", desc := "(ILcom/example/ashlar/ashlar/analysis/Bdd;Lcom/example/ashlar/ashlar/analysis/Bdd;)V" } : Jvm.MethodName) prog_9_method_2_code (4 : Nat) (Option.none : Option Jvm.ClassFile.FieldType)).before args0 about1 = true := code_word (m := ⟨2, 1⟩) (meth := k2m1) (c := k2c1) (by decide +kernel) rfl rfl rfl (by decide +kernel)
set_option maxRecDepth 65536 in
theorem w_c4 : (Jvm.Cond.code ({ cls := "com/example/ashlar/ashlar/analysis/Bdd", name := "isTerminal", desc := "()Z" } : Jvm.MethodName) prog_9_method_3_code (1 : Nat) (Option.some Jvm.ClassFile.FieldType.boolean)).before args0 about1 = true := code_word (m := ⟨2, 2⟩) (meth := k2m2) (c := k2c2) (by decide +kernel) rfl rfl rfl (by decide +kernel)
set_option maxRecDepth 65536 in
theorem w_c5 : (Jvm.Cond.code ({ cls := "com/example/ashlar/ashlar/analysis/Bdd", name := "variable", desc := "()I" } : Jvm.MethodName) prog_9_method_6_code (1 : Nat) (Option.some Jvm.ClassFile.FieldType.int)).before args0 about1 = true := code_word (m := ⟨2, 3⟩) (meth := k2m3) (c := k2c3) (by decide +kernel) rfl rfl rfl (by decide +kernel)
def codes1 : List Jvm.Cond := [Jvm.Cond.code x code maxLocals ret, Jvm.Cond.code ({ cls := "com/example/ashlar/ashlar/analysis/Bdd", name := "<init>", desc := "(Z)V" } : Jvm.MethodName) prog_9_method_1_code (2 : Nat) (Option.none : Option Jvm.ClassFile.FieldType), Jvm.Cond.code ({ cls := "java/lang/Object", name := "<init>", desc := "()V" } : Jvm.MethodName) object_method_1_code (1 : Nat) (Option.none : Option Jvm.ClassFile.FieldType), Jvm.Cond.code ({ cls := "com/example/ashlar/ashlar/analysis/Bdd", name := "<init>", desc := "(ILcom/example/ashlar/ashlar/analysis/Bdd;Lcom/example/ashlar/ashlar/analysis/Bdd;)V" } : Jvm.MethodName) prog_9_method_2_code (4 : Nat) (Option.none : Option Jvm.ClassFile.FieldType), Jvm.Cond.code ({ cls := "com/example/ashlar/ashlar/analysis/Bdd", name := "isTerminal", desc := "()Z" } : Jvm.MethodName) prog_9_method_3_code (1 : Nat) (Option.some Jvm.ClassFile.FieldType.boolean), Jvm.Cond.code ({ cls := "com/example/ashlar/ashlar/analysis/Bdd", name := "variable", desc := "()I" } : Jvm.MethodName) prog_9_method_6_code (1 : Nat) (Option.some Jvm.ClassFile.FieldType.int)]
set_option maxRecDepth 65536 in
theorem codes_eq : words1.filter isCode = codes1 := rfl
theorem w_codes : ∀ c ∈ words1.filter isCode, c.before args0 about1 = true := by
  rw [codes_eq]
  intro c hc
  simp only [codes1, List.mem_cons, List.not_mem_nil, or_false] at hc
  rcases hc with rfl | rfl | rfl | rfl | rfl | rfl
  · exact w_c0
  · exact w_c1
  · exact w_c2
  · exact w_c3
  · exact w_c4
  · exact w_c5
set_option maxRecDepth 65536 in
theorem w_t1 : (words1.take 24).all (fun c => isCode c || c.before args0 about1) = true := by decide +kernel
set_option maxRecDepth 65536 in
theorem w_t2 : (words1.drop 24).all (fun c => isCode c || c.before args0 about1) = true := by decide +kernel
theorem w_tables : (allAtoms (Jvm.Cond.code x code maxLocals ret :: tables_1)).before args0 about1 = true := by
  rw [allAtoms_all]
  show words1.all (fun c => c.before args0 about1) = true
  refine all_split ?_ w_codes
  rw [← List.take_append_drop 24 words1, List.all_append, w_t1, w_t2]
  rfl
set_option maxRecDepth 65536 in
theorem w_case : (Jvm.Cond.and given_1 narrow_1).before args0 about1 = true := by decide +kernel
theorem w_applies : (headSpec (Jvm.Cond.code x code maxLocals ret :: tables_1) room_1).applies x e0.platform about1 = true :=
  (Spec.applies_iff w_frames).mpr ⟨w_running, w_runnable, w_alone, w_named, w_hears, w_ripe, w_room, w_tables⟩
theorem atStart : AtStart classFile x code maxLocals ret World_1 tables_1 room_1 Calls_1 rest_1 Pre_1 launch0 p0 e0 about1 theMethod args0 below0 :=
  ⟨lists_1, trivial, launch0.admits_env _ _ _, launch0.least_env, fairChoices_fair.cas, fairChoices_fair.clock, w_frames, w_args, w_heap, w_applies, trivial, trivial, w_case⟩
end start1
theorem witness_1 : WitnessClaimed_1 := ⟨start1.p0, start1.e0, start1.about1, start1.theMethod, start1.args0, start1.below0, start1.atStart⟩
end Jvm.Pilot.@@N@@
