import JvmDerived
import JvmDerived.Pilot.@@N@@Statement
import JvmDerived.Pilot.@@N@@Code
set_option linter.unusedVariables false
set_option linter.unusedSimpArgs false
namespace Jvm.RoadKit
open Sem ClassFile Op Lib Jvm.Stand Jvm.Free Jvm.LawKit
section New
variable {p : Program} {l : Launch} {e : Env} {R : Room} {s : State} {m : MethodId} {args : Array Value} {below : List Frame} {meth : Method} {c : Code} {T : State} {locs : List Loc} {cells slots : Nat}
theorem retI (X : Stand p l e R s m args below meth c T locs cells slots) (hx : p.tables.exec = Jvm.exec) {pc : Nat} {Ls : Array Slot} {z : Int32} {rest : List Value} (hret : meth.sig.returnType = some .int) (hd : decode c.code pc = .ok (.ireturn, 1)) {fs : List Frame}
    (hl : ∀ (f : JFrame) (acts : List Action), f.method = m → f.locked = none → f.entered = [] → (doReturn e (T.setTop f) acts (some (.int z))).1 = T.setFrames fs) : Steps p.tables e below (T.setTop (mkF m pc Ls (.int z :: rest))) (T.setFrames fs) := by
  have hm' : T.vm.method? m = some meth := X.method'
  have hn : narrow .int (.int z) = .int z := rfl
  show Steps p.tables e below (T.setTop { method := m, pc := pc, locals := Ls, stack := _ :: rest, locked := none }) _
  jvm_step X.here [X.here.top, hx, hd, hm', hret, hn]
  first | (intro acts; rw [hl _ acts rfl rfl rfl]) | rw [hl _ _ rfl rfl rfl]
  exact Steps.refl _
end New
end Jvm.RoadKit
namespace Jvm.Pilot.@@N@@
open Jvm Jvm.ClassFile Sem Op Lib Jvm.Free Jvm.Stand Jvm.LawKit Jvm.RoadKit Bundle Jvm.Pilot.@@N@@.Jvm.D
theorem own_w {a0 : Array Value} {Z : State} (hw : ∀ d ∈ tables_1, d.before a0 Z = true) (k : Nat) {d : Jvm.Cond} (h : tables_1[k]? = some d := by rfl) : d.before a0 Z = true := hw _ (List.mem_of_getElem? h)
abbrev oI (x : Int32) : Slot := .val (.int x)
abbrev oR (a : Addr) : Slot := .val (.ref a)
abbrev oJ (x : Int64) : Slot := .val (.long x)
abbrev oD (x : UInt64) : Slot := .val (.double x)
/-- from the state A the run comes to an end of which Q holds -/
def own_Go (p : Program) (e : Env) (below : List Frame) (Q : Outcome → State → Prop) (A : State) : Prop := ∃ s₂ o, Steps p.tables e below A s₂ ∧ s₂.status = .running ∧ Ended s₂ below o ∧ Q o s₂
theorem own_via {p : Program} {e : Env} {below : List Frame} {Q : Outcome → State → Prop} {A B : State} (h : ∀ t, Steps p.tables e below B t → Steps p.tables e below A t) (g : own_Go p e below Q B) : own_Go p e below Q A := by
  obtain ⟨s₂, o, h1, h2⟩ := g
  exact ⟨s₂, o, h _ h1, h2⟩
theorem own_tr {p : Program} {e : Env} {below : List Frame} {Q : Outcome → State → Prop} {A B : State} (h : Steps p.tables e below A B) (g : own_Go p e below Q B) : own_Go p e below Q A := by
  obtain ⟨s₂, o, h1, h2⟩ := g
  exact ⟨s₂, o, h.trans h1, h2⟩
/-- from the state A the run comes to a state B of which Φ holds -/
def own_Pc (p : Program) (e : Env) (below : List Frame) (Φ : State → Prop) (A : State) : Prop := ∃ B, (∀ t, Steps p.tables e below B t → Steps p.tables e below A t) ∧ Φ B
theorem own_pvia {p : Program} {e : Env} {below : List Frame} {Φ : State → Prop} {A B : State} (h : ∀ t, Steps p.tables e below B t → Steps p.tables e below A t) (g : own_Pc p e below Φ B) : own_Pc p e below Φ A := by
  obtain ⟨B', h1, h2⟩ := g
  exact ⟨B', fun t k => h t (h1 t k), h2⟩
theorem own_ptr {p : Program} {e : Env} {below : List Frame} {Φ : State → Prop} {A B : State} (h : Steps p.tables e below A B) (g : own_Pc p e below Φ B) : own_Pc p e below Φ A := own_pvia (fun t k => h.trans k) g
theorem own_start {p : Program} {e : Env} {below : List Frame} {Q : Outcome → State → Prop} {A : State} (h : own_Go p e below Q A) : ∃ s₂ o, Steps p.tables e below A s₂ ∧ s₂.status = .running ∧ Ended s₂ below o ∧ Q o s₂ := h
theorem d2_0 : decode jdk_30_method_1_code 0 = .ok (.aload_n 0, 1) := by decide +kernel
theorem d2_1 : decode jdk_30_method_1_code 1 = .ok (.invokespecial 1, 3) := by decide +kernel
theorem d2_4 : decode jdk_30_method_1_code 4 = .ok (.return_, 1) := by decide +kernel
theorem pn_2 : plainName "java/lang/Record" = true := by first | (simp [plainName, overriddenIn]; done) | decide +kernel
theorem ef_rm2 (m : MethodId) (q0 : Addr) : entryFrame m #[(.ref q0)] 1 = mkF m 0 #[oR q0] [] := by first | (simp [entryFrame, mkF, argsToLocals, Value.category]; done) | rfl
def Q2 (Z : State) (this : Addr) (h0 : Heap) (n0 : Nat) (v : Option Value) (h : Heap) (L : List Loc) : Prop := v = none ∧ Fr n0 L ∧ h = h0
set_option maxRecDepth 65536 in
set_option maxHeartbeats 40000000 in
theorem rm2 (l : Launch) (Z : State) (a0 : Array Value) (hw : ∀ d ∈ tables_1, d.before a0 Z = true) (ws : List Jvm.Cond) (this : Addr) (h0 : Heap) (n0 : Nat) (Z0 : n0 ≤ h0.size) :
    MetFree l (⟨"java/lang/Record", "<init>", "()V"⟩ : MethodName) (head1 (Jvm.Cond.code (⟨"java/lang/Record", "<init>", "()V"⟩ : MethodName) jdk_30_method_1_code 1 none :: ws) ({ frames := 1, cells := 0, slots := 0, locals := 12 } : Room)) (fun a U => a = #[(.ref this)] ∧ Z.Warmed39 U.vm ∧ U.heap = h0) (fun _ _ _ _ _ => True) (fun _ U o U' => ∃ v L, o = .returned v ∧ Q2 Z this h0 n0 v U'.heap L ∧ FrameEnd U o U' L ({ frames := 1, cells := 0, slots := 0, locals := 12 } : Room).cells ({ frames := 1, cells := 0, slots := 0, locals := 12 } : Room).slots) := by
  refine MetFree.of_bodySF (plainFor_of_name pn_2) hisR ?_
  intro p e s m args below meth c s₁ Bd hml0 hP hK
  obtain ⟨rfl, hZ, hh⟩ := hP
  have hx := Bd.exec
  have hby := Bd.bytes
  have hml : c.maxLocals = 1 := hml0
  have hown : s.vm.findClass "java/lang/Record" = some m.cls := findClass_of_methodNamed Bd.named
  have hnm := (name_of_methodNamed Bd.named Bd.method).1
  have X0 : Stand p l e ({ frames := 1, cells := 0, slots := 0, locals := 12 } : Room) s m #[(.ref this)] below meth c s₁ [] 0 0 := Stand.of_body Bd
  have e0 : s₁.heap = h0 := by rw [← hh, Bd.state]; rfl
  have N0 := Fr.nil n0
  refine own_start ?_
  refine own_via (fun t k => castTop (ef_rm2 m this) k) ?_
  show own_Go p e below _ (s₁.setTop (mkF m 0 #[oR this] []))
  refine own_via (fun t kz => XS.aloadN X0.here hx rfl (hb hby d2_0) rfl rfl kz) ?_
  show own_Go p e below _ (s₁.setTop (mkF m 1 #[oR this] [(.ref this)]))
  obtain ⟨T1, X1, e1, st1⟩ := initO X0 hx hZ hown (own_w hw 14) (own_w hw 15) (own_w hw 16) e0 (g := (mkF m 1 #[oR this] [(.ref this)])) rfl (by rw [hml]; rfl) rfl (hb hby d2_1) (by decide) (W := 0) (by show 2 * 0 + _ ≤ _; exact Nat.le_of_eq rfl) (by decide)
  refine own_via st1 ?_
  show own_Go p e below _ (T1.setTop (mkF m 4 #[oR this] []))
  obtain ⟨fs, hr, hrun, hended, hW, hsame⟩ := X1.leave (v := none) (fun _ => rfl)
  refine ⟨_, _, X1.returnOut hx Bd.returns (hb hby d2_4) hr, hrun, hended, _, _, rfl, ?_, ⟨_, rfl⟩, hW, hsame.mono (by decide) (by decide)⟩
  show Q2 Z this h0 n0 _ T1.heap _
  rw [e1]
  exact ⟨rfl, N0, rfl⟩
theorem d1_0 : decode prog_16_method_1_code 0 = .ok (.aload_n 0, 1) := by decide +kernel
theorem d1_1 : decode prog_16_method_1_code 1 = .ok (.invokespecial 1, 3) := by decide +kernel
theorem d1_4 : decode prog_16_method_1_code 4 = .ok (.aload_n 0, 1) := by decide +kernel
theorem d1_5 : decode prog_16_method_1_code 5 = .ok (.iload_n 1, 1) := by decide +kernel
theorem d1_6 : decode prog_16_method_1_code 6 = .ok (.putfield 7, 3) := by decide +kernel
theorem d1_9 : decode prog_16_method_1_code 9 = .ok (.aload_n 0, 1) := by decide +kernel
theorem d1_10 : decode prog_16_method_1_code 10 = .ok (.iload_n 2, 1) := by decide +kernel
theorem d1_11 : decode prog_16_method_1_code 11 = .ok (.putfield 13, 3) := by decide +kernel
theorem d1_14 : decode prog_16_method_1_code 14 = .ok (.return_, 1) := by decide +kernel
theorem pn_1 : plainName "com/example/matchloom/matchloom/league/FormatRules" = true := by first | (simp [plainName, overriddenIn]; done) | decide +kernel
theorem pd_1_0 : parseMethodDescriptor "()V" = some ⟨[], none⟩ := by decide +kernel
theorem ef_rm1 (m : MethodId) (q0 : Addr) (q1 : Int32) (q2 : Int32) : entryFrame m #[(.ref q0), (.int q1), (.int q2)] 3 = mkF m 0 #[oR q0, oI q1, oI q2] [] := by first | (simp [entryFrame, mkF, argsToLocals, Value.category]; done) | rfl
def Q1 (Z : State) (this : Addr) (p1 : Int32) (p2 : Int32) (h0 : Heap) (n0 : Nat) (v : Option Value) (h : Heap) (L : List Loc) : Prop := v = none ∧ Fr n0 L ∧ Keep h0 h [this] ∧ Fld Z h this "com/example/matchloom/matchloom/league/FormatRules" "teams" "I" (.int p1) ∧ Fld Z h this "com/example/matchloom/matchloom/league/FormatRules" "phased" "Z" (.int p2)
set_option maxRecDepth 65536 in
set_option maxHeartbeats 40000000 in
theorem rm1 (l : Launch) (Z : State) (a0 : Array Value) (hw : ∀ d ∈ tables_1, d.before a0 Z = true) (ws : List Jvm.Cond) (this : Addr) (p1 : Int32) (p2 : Int32) (h0 : Heap) (n0 : Nat) (Z0 : n0 ≤ h0.size) (g_this : n0 ≤ this) (E_this : Exa Z h0 this "com/example/matchloom/matchloom/league/FormatRules") (F_teams : Fld Z h0 this "com/example/matchloom/matchloom/league/FormatRules" "teams" "I" (.int (0 : Int32))) (F_phased : Fld Z h0 this "com/example/matchloom/matchloom/league/FormatRules" "phased" "Z" (.int (0 : Int32))) (hn2 : narrow .boolean (.int p2) = .int p2) (hf2 : fits .boolean (.int p2) = true) :
    MetFree l (⟨"com/example/matchloom/matchloom/league/FormatRules", "<init>", "(IZ)V"⟩ : MethodName) (head1 (Jvm.Cond.code (⟨"com/example/matchloom/matchloom/league/FormatRules", "<init>", "(IZ)V"⟩ : MethodName) prog_16_method_1_code 3 none :: ws) ({ frames := 2, cells := 0, slots := 0, locals := 24 } : Room)) (fun a U => a = #[(.ref this), (.int p1), (.int p2)] ∧ Z.Warmed39 U.vm ∧ U.heap = h0) (fun _ _ _ _ _ => True) (fun _ U o U' => ∃ v L, o = .returned v ∧ Q1 Z this p1 p2 h0 n0 v U'.heap L ∧ FrameEnd U o U' L ({ frames := 2, cells := 0, slots := 0, locals := 24 } : Room).cells ({ frames := 2, cells := 0, slots := 0, locals := 24 } : Room).slots) := by
  refine MetFree.of_bodySF (plainFor_of_name pn_1) hisR ?_
  intro p e s m args below meth c s₁ Bd hml0 hP hK
  obtain ⟨rfl, hZ, hh⟩ := hP
  have hx := Bd.exec
  have hby := Bd.bytes
  have hml : c.maxLocals = 3 := hml0
  have hown : s.vm.findClass "com/example/matchloom/matchloom/league/FormatRules" = some m.cls := findClass_of_methodNamed Bd.named
  have hnm := (name_of_methodNamed Bd.named Bd.method).1
  have X0 : Stand p l e ({ frames := 2, cells := 0, slots := 0, locals := 24 } : Room) s m #[(.ref this), (.int p1), (.int p2)] below meth c s₁ [] 0 0 := Stand.of_body Bd
  have e0 : s₁.heap = h0 := by rw [← hh, Bd.state]; rfl
  have N0 := Fr.nil n0
  refine own_start ?_
  refine own_via (fun t k => castTop (ef_rm1 m this p1 p2) k) ?_
  show own_Go p e below _ (s₁.setTop (mkF m 0 #[oR this, oI p1, oI p2] []))
  refine own_via (fun t kz => XS.aloadN X0.here hx rfl (hb hby d1_0) rfl rfl kz) ?_
  show own_Go p e below _ (s₁.setTop (mkF m 1 #[oR this, oI p1, oI p2] [(.ref this)]))
  obtain ⟨_, _, ⟨T1, L1, k1, n1⟩, -, X1, ⟨Lc1, hQ1, l1, y1, z1⟩, st1⟩ := X0.specialBack hx (y := (⟨"java/lang/Record", "<init>", "()V"⟩ : MethodName)) rfl hown (mvT hZ (own_w hw 9)) (mvT hZ (own_w hw 10)) (mvT hZ (own_w hw 13)) (by decide) (backOf (W := 0) (rm2 l Z a0 hw [] this h0 n0 Z0) hZ (own_w hw 13) (own_w hw 12) (by decide) (by decide)) (g := (mkF m 1 #[oR this, oI p1, oI p2] [(.ref this)])) rfl (by rw [hml]; rfl) (Steps.refl _) (a := this) (argsL := []) (rest := []) (lenOf pd_1_0 rfl) rfl (by show 2 * 0 + _ ≤ _; exact Nat.le_of_eq rfl) (hb hby d1_1) (fun _ _ => ⟨rfl, e0, (by decide : 0 + 0 ≤ _), (by decide : 0 + 0 ≤ _)⟩)
  dsimp only [Pt.U, Pt.locs, Pt.cells, Pt.slots] at X1 l1 y1 z1 st1 hQ1
  subst l1 y1 z1
  obtain ⟨rfl, Nq1, e1⟩ := hQ1
  have N2 := Fr.app N0 Nq1
  refine own_tr st1 ?_
  show own_Go p e below _ (T1.setTop (mkF m 4 #[oR this, oI p1, oI p2] []))
  refine own_via (fun t kz => XS.aloadN X1.here hx rfl (hb hby d1_4) rfl rfl kz) ?_
  show own_Go p e below _ (T1.setTop (mkF m 5 #[oR this, oI p1, oI p2] [(.ref this)]))
  refine own_via (fun t kz => XS.iloadN X1.here hx rfl (hb hby d1_5) rfl kz) ?_
  show own_Go p e below _ (T1.setTop (mkF m 6 #[oR this, oI p1, oI p2] [(.int p1), (.ref this)]))
  obtain ⟨T3, h3, X3, e3, W3, st3⟩ := putF X1 hx hZ hown (host := "") (Or.inl (own_w hw 17)) Via.refl e1 F_teams E_this (Or.inr ⟨(own_w hw 18), rfl, hnm⟩) (own_w hw 4) (ty := .int) (by decide) rfl rfl (g := (mkF m 6 #[oR this, oI p1, oI p2] [(.int p1), (.ref this)])) rfl rfl (hb hby d1_6)
  refine own_via st3 ?_
  have E4 := E_this.wr W3
  have F5 := F_teams.same W3
  have F6 := F_phased.other W3 (Or.inr (slot_ne (Or.inr (own_w hw 20)) (Or.inr (own_w hw 18)) (by decide) (t := .boolean) (t' := .int) (by decide) (by decide)))
  have Zs7 : n0 ≤ h3.size := Nat.le_trans Z0 (Keep.of_wr W3).1
  have N8 := Fr.snoc X3 N2 g_this
  have K9 : Keep h0 h3 [this] := (Keep.refl h0 [this]).wr W3 (Or.inl (List.mem_of_getElem? (i := 0) rfl))
  show own_Go p e below _ (T3.setTop (mkF m 9 #[oR this, oI p1, oI p2] []))
  refine own_via (fun t kz => XS.aloadN X3.here hx rfl (hb hby d1_9) rfl rfl kz) ?_
  show own_Go p e below _ (T3.setTop (mkF m 10 #[oR this, oI p1, oI p2] [(.ref this)]))
  refine own_via (fun t kz => XS.iloadN X3.here hx rfl (hb hby d1_10) rfl kz) ?_
  show own_Go p e below _ (T3.setTop (mkF m 11 #[oR this, oI p1, oI p2] [(.int p2), (.ref this)]))
  obtain ⟨T10, h10, X10, e10, W10, st10⟩ := putF X3 hx hZ hown (host := "") (Or.inl (own_w hw 19)) Via.refl e3 F6 E4 (Or.inr ⟨(own_w hw 20), rfl, hnm⟩) (own_w hw 4) (ty := .boolean) (by decide) hn2 hf2 (g := (mkF m 11 #[oR this, oI p1, oI p2] [(.int p2), (.ref this)])) rfl rfl (hb hby d1_11)
  refine own_via st10 ?_
  have E11 := E4.wr W10
  have F12 := F5.other W10 (Or.inr (slot_ne (Or.inr (own_w hw 18)) (Or.inr (own_w hw 20)) (by decide) (t := .int) (t' := .boolean) (by decide) (by decide)))
  have F13 := F6.same W10
  have Zs14 : n0 ≤ h10.size := Nat.le_trans Zs7 (Keep.of_wr W10).1
  have N15 := Fr.snoc X10 N8 g_this
  have K16 : Keep h0 h10 [this] := K9.wr W10 (Or.inl (List.mem_of_getElem? (i := 0) rfl))
  show own_Go p e below _ (T10.setTop (mkF m 14 #[oR this, oI p1, oI p2] []))
  obtain ⟨fs, hr, hrun, hended, hW, hsame⟩ := X10.leave (v := none) (fun _ => rfl)
  refine ⟨_, _, X10.returnOut hx Bd.returns (hb hby d1_14) hr, hrun, hended, _, _, rfl, ?_, ⟨_, rfl⟩, hW, hsame.mono (by decide) (by decide)⟩
  show Q1 Z this p1 p2 h0 n0 _ T10.heap _
  rw [e10]
  exact ⟨rfl, N15, K16, F12, F13⟩
def f4 (wt : Int32) (wp : Int32) (v0 : Int64) (v1 : Int64) (v2 : Int64) : Int64 := (if wp = (0 : Int32) then ((((wt.toInt64) * ((wt - (1 : Int32)).toInt64)) - v0) + v1) else (((((wt.toInt64) * ((wt - (1 : Int32)).toInt64)) - v0) + v1) + ((2 : Int64) * ((((wt.toInt64) * ((wt - (1 : Int32)).toInt64)) / (2 : Int64)) - v2))))
theorem d4_0 : decode prog_16_method_4_code 0 = .ok (.aload_n 0, 1) := by decide +kernel
theorem d4_1 : decode prog_16_method_4_code 1 = .ok (.getfield 7, 3) := by decide +kernel
theorem d4_4 : decode prog_16_method_4_code 4 = .ok (.i2l, 1) := by decide +kernel
theorem d4_5 : decode prog_16_method_4_code 5 = .ok (.aload_n 0, 1) := by decide +kernel
theorem d4_6 : decode prog_16_method_4_code 6 = .ok (.getfield 7, 3) := by decide +kernel
theorem d4_9 : decode prog_16_method_4_code 9 = .ok (.iconst 1, 1) := by decide +kernel
theorem d4_10 : decode prog_16_method_4_code 10 = .ok (.isub, 1) := by decide +kernel
theorem d4_11 : decode prog_16_method_4_code 11 = .ok (.i2l, 1) := by decide +kernel
theorem d4_12 : decode prog_16_method_4_code 12 = .ok (.lmul, 1) := by decide +kernel
theorem d4_13 : decode prog_16_method_4_code 13 = .ok (.aload_n 1, 1) := by decide +kernel
theorem d4_14 : decode prog_16_method_4_code 14 = .ok (.iconst 0, 1) := by decide +kernel
theorem d4_15 : decode prog_16_method_4_code 15 = .ok (.laload, 1) := by decide +kernel
theorem d4_16 : decode prog_16_method_4_code 16 = .ok (.lsub, 1) := by decide +kernel
theorem d4_17 : decode prog_16_method_4_code 17 = .ok (.aload_n 1, 1) := by decide +kernel
theorem d4_18 : decode prog_16_method_4_code 18 = .ok (.iconst 1, 1) := by decide +kernel
theorem d4_19 : decode prog_16_method_4_code 19 = .ok (.laload, 1) := by decide +kernel
theorem d4_20 : decode prog_16_method_4_code 20 = .ok (.ladd, 1) := by decide +kernel
theorem d4_21 : decode prog_16_method_4_code 21 = .ok (.lstore_n 2, 1) := by decide +kernel
theorem d4_22 : decode prog_16_method_4_code 22 = .ok (.aload_n 0, 1) := by decide +kernel
theorem d4_23 : decode prog_16_method_4_code 23 = .ok (.getfield 13, 3) := by decide +kernel
theorem d4_26 : decode prog_16_method_4_code 26 = .ok (.ifCond .eq 35, 3) := by decide +kernel
theorem d4_29 : decode prog_16_method_4_code 29 = .ok (.aload_n 0, 1) := by decide +kernel
theorem d4_30 : decode prog_16_method_4_code 30 = .ok (.getfield 7, 3) := by decide +kernel
theorem d4_33 : decode prog_16_method_4_code 33 = .ok (.i2l, 1) := by decide +kernel
theorem d4_34 : decode prog_16_method_4_code 34 = .ok (.aload_n 0, 1) := by decide +kernel
theorem d4_35 : decode prog_16_method_4_code 35 = .ok (.getfield 7, 3) := by decide +kernel
theorem d4_38 : decode prog_16_method_4_code 38 = .ok (.iconst 1, 1) := by decide +kernel
theorem d4_39 : decode prog_16_method_4_code 39 = .ok (.isub, 1) := by decide +kernel
theorem d4_40 : decode prog_16_method_4_code 40 = .ok (.i2l, 1) := by decide +kernel
theorem d4_41 : decode prog_16_method_4_code 41 = .ok (.lmul, 1) := by decide +kernel
theorem d4_42 : decode prog_16_method_4_code 42 = .ok (.ldc2_w 51, 3) := by decide +kernel
theorem d4_45 : decode prog_16_method_4_code 45 = .ok (.ldiv, 1) := by decide +kernel
theorem d4_46 : decode prog_16_method_4_code 46 = .ok (.lstore 4, 2) := by decide +kernel
theorem d4_48 : decode prog_16_method_4_code 48 = .ok (.lload_n 2, 1) := by decide +kernel
theorem d4_49 : decode prog_16_method_4_code 49 = .ok (.ldc2_w 51, 3) := by decide +kernel
theorem d4_52 : decode prog_16_method_4_code 52 = .ok (.lload 4, 2) := by decide +kernel
theorem d4_54 : decode prog_16_method_4_code 54 = .ok (.aload_n 1, 1) := by decide +kernel
theorem d4_55 : decode prog_16_method_4_code 55 = .ok (.iconst 2, 1) := by decide +kernel
theorem d4_56 : decode prog_16_method_4_code 56 = .ok (.laload, 1) := by decide +kernel
theorem d4_57 : decode prog_16_method_4_code 57 = .ok (.lsub, 1) := by decide +kernel
theorem d4_58 : decode prog_16_method_4_code 58 = .ok (.lmul, 1) := by decide +kernel
theorem d4_59 : decode prog_16_method_4_code 59 = .ok (.ladd, 1) := by decide +kernel
theorem d4_60 : decode prog_16_method_4_code 60 = .ok (.lstore_n 2, 1) := by decide +kernel
theorem d4_61 : decode prog_16_method_4_code 61 = .ok (.lload_n 2, 1) := by decide +kernel
theorem d4_62 : decode prog_16_method_4_code 62 = .ok (.lreturn, 1) := by decide +kernel
theorem ef_rm4 (m : MethodId) (q0 : Addr) (q1 : Addr) : entryFrame m #[(.ref q0), (.ref q1)] 6 = mkF m 0 #[oR q0, oR q1, .unset, .unset, .unset, .unset] [] := by first | (simp [entryFrame, mkF, argsToLocals, Value.category]; done) | rfl
def Q4 (Z : State) (this : Addr) (p1 : Addr) (wt : Int32) (wp : Int32) (ka : ClassId) (v0 : Int64) (v1 : Int64) (v2 : Int64) (r : Int64) (h0 : Heap) (n0 : Nat) (v : Option Value) (h : Heap) (L : List Loc) : Prop := v = some (.long r) ∧ Fr n0 L ∧ h = h0
set_option maxRecDepth 65536 in
set_option maxHeartbeats 40000000 in
theorem rm4 (l : Launch) (Z : State) (a0 : Array Value) (hw : ∀ d ∈ tables_1, d.before a0 Z = true) (ws : List Jvm.Cond) (this : Addr) (p1 : Addr) (wt : Int32) (wp : Int32) (ka : ClassId) (v0 : Int64) (v1 : Int64) (v2 : Int64) (r : Int64) (h0 : Heap) (n0 : Nat) (Z0 : n0 ≤ h0.size) (F_wt : Fld Z h0 this "com/example/matchloom/matchloom/league/FormatRules" "teams" "I" (.int wt)) (F_wp : Fld Z h0 this "com/example/matchloom/matchloom/league/FormatRules" "phased" "Z" (.int wp)) (V_p1 : Arv Z h0 p1 ka .long (3 : Int32) [(.long v0), (.long v1), (.long v2)] (.long (0 : Int64))) (hr0 : (f4 wt wp v0 v1 v2) = r) :
    MetFree l (⟨"com/example/matchloom/matchloom/league/FormatRules", "total", "([J)J"⟩ : MethodName) (head1 (Jvm.Cond.code (⟨"com/example/matchloom/matchloom/league/FormatRules", "total", "([J)J"⟩ : MethodName) prog_16_method_4_code 6 (some .long) :: ws) ({ frames := 0, cells := 0, slots := 0, locals := 0 } : Room)) (fun a U => a = #[(.ref this), (.ref p1)] ∧ Z.Warmed39 U.vm ∧ U.heap = h0) (fun _ _ _ _ _ => True) (fun _ U o U' => ∃ v L, o = .returned v ∧ Q4 Z this p1 wt wp ka v0 v1 v2 r h0 n0 v U'.heap L ∧ FrameEnd U o U' L ({ frames := 0, cells := 0, slots := 0, locals := 0 } : Room).cells ({ frames := 0, cells := 0, slots := 0, locals := 0 } : Room).slots) := by
  refine MetFree.of_bodySF (plainFor_of_name pn_1) hisR ?_
  intro p e s m args below meth c s₁ Bd hml0 hP hK
  obtain ⟨rfl, hZ, hh⟩ := hP
  have hx := Bd.exec
  have hby := Bd.bytes
  have hml : c.maxLocals = 6 := hml0
  have hown : s.vm.findClass "com/example/matchloom/matchloom/league/FormatRules" = some m.cls := findClass_of_methodNamed Bd.named
  have hnm := (name_of_methodNamed Bd.named Bd.method).1
  have X0 : Stand p l e ({ frames := 0, cells := 0, slots := 0, locals := 0 } : Room) s m #[(.ref this), (.ref p1)] below meth c s₁ [] 0 0 := Stand.of_body Bd
  have e0 : s₁.heap = h0 := by rw [← hh, Bd.state]; rfl
  have N0 := Fr.nil n0
  refine own_start ?_
  refine own_via (fun t k => castTop (ef_rm4 m this p1) k) ?_
  show own_Go p e below _ (s₁.setTop (mkF m 0 #[oR this, oR p1, .unset, .unset, .unset, .unset] []))
  refine own_via (fun t kz => XS.aloadN X0.here hx rfl (hb hby d4_0) rfl rfl kz) ?_
  show own_Go p e below _ (s₁.setTop (mkF m 1 #[oR this, oR p1, .unset, .unset, .unset, .unset] [(.ref this)]))
  obtain ⟨T1, X1, e1, st1⟩ := getF X0 hx hZ hown (host := "") (Or.inl (own_w hw 17)) Via.refl e0 F_wt (g := (mkF m 1 #[oR this, oR p1, .unset, .unset, .unset, .unset] [(.ref this)])) rfl rfl (hb hby d4_1)
  refine own_via st1 ?_
  show own_Go p e below _ (T1.setTop (mkF m 4 #[oR this, oR p1, .unset, .unset, .unset, .unset] [(.int wt)]))
  refine own_via (fun t kz => XS.i2l X1.here hx rfl (hb hby d4_4) rfl kz) ?_
  show own_Go p e below _ (T1.setTop (mkF m 5 #[oR this, oR p1, .unset, .unset, .unset, .unset] [(.long (wt.toInt64))]))
  refine own_via (fun t kz => XS.aloadN X1.here hx rfl (hb hby d4_5) rfl rfl kz) ?_
  show own_Go p e below _ (T1.setTop (mkF m 6 #[oR this, oR p1, .unset, .unset, .unset, .unset] [(.ref this), (.long (wt.toInt64))]))
  obtain ⟨T2, X2, e2, st2⟩ := getF X1 hx hZ hown (host := "") (Or.inl (own_w hw 17)) Via.refl e1 F_wt (g := (mkF m 6 #[oR this, oR p1, .unset, .unset, .unset, .unset] [(.ref this), (.long (wt.toInt64))])) rfl rfl (hb hby d4_6)
  refine own_via st2 ?_
  show own_Go p e below _ (T2.setTop (mkF m 9 #[oR this, oR p1, .unset, .unset, .unset, .unset] [(.int wt), (.long (wt.toInt64))]))
  refine own_via (fun t kz => XS.iconst X2.here hx rfl (hb hby d4_9) kz) ?_
  show own_Go p e below _ (T2.setTop (mkF m 10 #[oR this, oR p1, .unset, .unset, .unset, .unset] [(.int (1 : Int32)), (.int wt), (.long (wt.toInt64))]))
  refine own_via (fun t kz => XS.isub X2.here hx rfl (hb hby d4_10) rfl kz) ?_
  show own_Go p e below _ (T2.setTop (mkF m 11 #[oR this, oR p1, .unset, .unset, .unset, .unset] [(.int (wt - (1 : Int32))), (.long (wt.toInt64))]))
  refine own_via (fun t kz => XS.i2l X2.here hx rfl (hb hby d4_11) rfl kz) ?_
  show own_Go p e below _ (T2.setTop (mkF m 12 #[oR this, oR p1, .unset, .unset, .unset, .unset] [(.long ((wt - (1 : Int32)).toInt64)), (.long (wt.toInt64))]))
  refine own_via (fun t kz => XS.lmul X2.here hx rfl (hb hby d4_12) rfl kz) ?_
  show own_Go p e below _ (T2.setTop (mkF m 13 #[oR this, oR p1, .unset, .unset, .unset, .unset] [(.long ((wt.toInt64) * ((wt - (1 : Int32)).toInt64)))]))
  refine own_via (fun t kz => XS.aloadN X2.here hx rfl (hb hby d4_13) rfl rfl kz) ?_
  show own_Go p e below _ (T2.setTop (mkF m 14 #[oR this, oR p1, .unset, .unset, .unset, .unset] [(.ref p1), (.long ((wt.toInt64) * ((wt - (1 : Int32)).toInt64)))]))
  refine own_via (fun t kz => XS.iconst X2.here hx rfl (hb hby d4_14) kz) ?_
  show own_Go p e below _ (T2.setTop (mkF m 15 #[oR this, oR p1, .unset, .unset, .unset, .unset] [(.int (0 : Int32)), (.ref p1), (.long ((wt.toInt64) * ((wt - (1 : Int32)).toInt64)))]))
  obtain ⟨cl3, Ar3, kc3, Sz3, Nn3, Hs3, Gs3⟩ := id V_p1
  have in3 := inb_of (j := (0 : Int32)) Sz3 ⟨by decide, by decide⟩
  have at3 : cl3.slots[((0 : Int32)).toNatClampNeg]? = some (.long v0) := Hs3.at in3 rfl
  refine own_via (fun t kz => X2.laload hx (j := (0 : Int32)) (v := (.long v0)) (by rw [e2]; exact Ar3.1) (State.isArrayOf_alike hZ.alike Ar3.2.1) Ar3.2.2 in3 at3 (g := (mkF m 15 #[oR this, oR p1, .unset, .unset, .unset, .unset] [(.int (0 : Int32)), (.ref p1), (.long ((wt.toInt64) * ((wt - (1 : Int32)).toInt64)))])) rfl rfl (hb hby d4_15) t kz) ?_
  show own_Go p e below _ (T2.setTop (mkF m 16 #[oR this, oR p1, .unset, .unset, .unset, .unset] [(.long v0), (.long ((wt.toInt64) * ((wt - (1 : Int32)).toInt64)))]))
  refine own_via (fun t kz => XS.lsub X2.here hx rfl (hb hby d4_16) rfl kz) ?_
  show own_Go p e below _ (T2.setTop (mkF m 17 #[oR this, oR p1, .unset, .unset, .unset, .unset] [(.long (((wt.toInt64) * ((wt - (1 : Int32)).toInt64)) - v0))]))
  refine own_via (fun t kz => XS.aloadN X2.here hx rfl (hb hby d4_17) rfl rfl kz) ?_
  show own_Go p e below _ (T2.setTop (mkF m 18 #[oR this, oR p1, .unset, .unset, .unset, .unset] [(.ref p1), (.long (((wt.toInt64) * ((wt - (1 : Int32)).toInt64)) - v0))]))
  refine own_via (fun t kz => XS.iconst X2.here hx rfl (hb hby d4_18) kz) ?_
  show own_Go p e below _ (T2.setTop (mkF m 19 #[oR this, oR p1, .unset, .unset, .unset, .unset] [(.int (1 : Int32)), (.ref p1), (.long (((wt.toInt64) * ((wt - (1 : Int32)).toInt64)) - v0))]))
  obtain ⟨cl4, Ar4, kc4, Sz4, Nn4, Hs4, Gs4⟩ := id V_p1
  have in4 := inb_of (j := (1 : Int32)) Sz4 ⟨by decide, by decide⟩
  have at4 : cl4.slots[((1 : Int32)).toNatClampNeg]? = some (.long v1) := Hs4.at in4 rfl
  refine own_via (fun t kz => X2.laload hx (j := (1 : Int32)) (v := (.long v1)) (by rw [e2]; exact Ar4.1) (State.isArrayOf_alike hZ.alike Ar4.2.1) Ar4.2.2 in4 at4 (g := (mkF m 19 #[oR this, oR p1, .unset, .unset, .unset, .unset] [(.int (1 : Int32)), (.ref p1), (.long (((wt.toInt64) * ((wt - (1 : Int32)).toInt64)) - v0))])) rfl rfl (hb hby d4_19) t kz) ?_
  show own_Go p e below _ (T2.setTop (mkF m 20 #[oR this, oR p1, .unset, .unset, .unset, .unset] [(.long v1), (.long (((wt.toInt64) * ((wt - (1 : Int32)).toInt64)) - v0))]))
  refine own_via (fun t kz => XS.ladd X2.here hx rfl (hb hby d4_20) rfl kz) ?_
  show own_Go p e below _ (T2.setTop (mkF m 21 #[oR this, oR p1, .unset, .unset, .unset, .unset] [(.long ((((wt.toInt64) * ((wt - (1 : Int32)).toInt64)) - v0) + v1))]))
  refine own_via (fun t kz => XS.lstoreN X2.here hx rfl (hb hby d4_21) rfl (l' := #[oR this, oR p1, oJ ((((wt.toInt64) * ((wt - (1 : Int32)).toInt64)) - v0) + v1), .second, .unset, .unset]) rfl kz) ?_
  show own_Go p e below _ (T2.setTop (mkF m 22 #[oR this, oR p1, oJ ((((wt.toInt64) * ((wt - (1 : Int32)).toInt64)) - v0) + v1), .second, .unset, .unset] []))
  refine own_via (fun t kz => XS.aloadN X2.here hx rfl (hb hby d4_22) rfl rfl kz) ?_
  show own_Go p e below _ (T2.setTop (mkF m 23 #[oR this, oR p1, oJ ((((wt.toInt64) * ((wt - (1 : Int32)).toInt64)) - v0) + v1), .second, .unset, .unset] [(.ref this)]))
  obtain ⟨T5, X5, e5, st5⟩ := getF X2 hx hZ hown (host := "") (Or.inl (own_w hw 19)) Via.refl e2 F_wp (g := (mkF m 23 #[oR this, oR p1, oJ ((((wt.toInt64) * ((wt - (1 : Int32)).toInt64)) - v0) + v1), .second, .unset, .unset] [(.ref this)])) rfl rfl (hb hby d4_23)
  refine own_via st5 ?_
  show own_Go p e below _ (T5.setTop (mkF m 26 #[oR this, oR p1, oJ ((((wt.toInt64) * ((wt - (1 : Int32)).toInt64)) - v0) + v1), .second, .unset, .unset] [(.int wp)]))
  by_cases hc26_6 : wp = (0 : Int32)
  · refine own_via (fun t kz => XS.ifYes X5.here hx rfl (pc0 := 26) (pc' := 61) rfl (hb hby d4_26) rfl ((if0 _ _).trans (teq hc26_6).1) (by decide) (by decide) kz) ?_
    show own_Go p e below _ (T5.setTop (mkF m 61 #[oR this, oR p1, oJ ((((wt.toInt64) * ((wt - (1 : Int32)).toInt64)) - v0) + v1), .second, .unset, .unset] []))
    refine own_via (fun t kz => XS.lloadN X5.here hx rfl (hb hby d4_61) rfl kz) ?_
    show own_Go p e below _ (T5.setTop (mkF m 62 #[oR this, oR p1, oJ ((((wt.toInt64) * ((wt - (1 : Int32)).toInt64)) - v0) + v1), .second, .unset, .unset] [(.long ((((wt.toInt64) * ((wt - (1 : Int32)).toInt64)) - v0) + v1))]))
    have hv : (f4 wt wp v0 v1 v2) = ((((wt.toInt64) * ((wt - (1 : Int32)).toInt64)) - v0) + v1) := by unfold f4; rw [if_pos hc26_6]
    obtain ⟨fs, hr, hrun, hended, hW, hsame⟩ := X5.leave (v := some (.long ((((wt.toInt64) * ((wt - (1 : Int32)).toInt64)) - v0) + v1))) (fun h => by rw [Bd.returns] at h; cases h)
    refine ⟨_, _, retOut X5 hx (i := .lreturn) Bd.returns rfl (Or.inr (Or.inl ⟨rfl, rfl, _, rfl⟩)) (hb hby d4_62) hr, hrun, hended, _, _, rfl, ?_, ⟨_, rfl⟩, hW, hsame.mono (by decide) (by decide)⟩
    show Q4 Z this p1 wt wp ka v0 v1 v2 r h0 n0 _ T5.heap _
    rw [e5]
    exact ⟨by rw [← hr0, hv], N0, rfl⟩
  · refine own_via (fun t kz => XS.ifNo X5.here hx rfl (hb hby d4_26) rfl ((if0 _ _).trans (feq hc26_6).1) kz) ?_
    show own_Go p e below _ (T5.setTop (mkF m 29 #[oR this, oR p1, oJ ((((wt.toInt64) * ((wt - (1 : Int32)).toInt64)) - v0) + v1), .second, .unset, .unset] []))
    refine own_via (fun t kz => XS.aloadN X5.here hx rfl (hb hby d4_29) rfl rfl kz) ?_
    show own_Go p e below _ (T5.setTop (mkF m 30 #[oR this, oR p1, oJ ((((wt.toInt64) * ((wt - (1 : Int32)).toInt64)) - v0) + v1), .second, .unset, .unset] [(.ref this)]))
    obtain ⟨T8, X8, e8, st8⟩ := getF X5 hx hZ hown (host := "") (Or.inl (own_w hw 17)) Via.refl e5 F_wt (g := (mkF m 30 #[oR this, oR p1, oJ ((((wt.toInt64) * ((wt - (1 : Int32)).toInt64)) - v0) + v1), .second, .unset, .unset] [(.ref this)])) rfl rfl (hb hby d4_30)
    refine own_via st8 ?_
    show own_Go p e below _ (T8.setTop (mkF m 33 #[oR this, oR p1, oJ ((((wt.toInt64) * ((wt - (1 : Int32)).toInt64)) - v0) + v1), .second, .unset, .unset] [(.int wt)]))
    refine own_via (fun t kz => XS.i2l X8.here hx rfl (hb hby d4_33) rfl kz) ?_
    show own_Go p e below _ (T8.setTop (mkF m 34 #[oR this, oR p1, oJ ((((wt.toInt64) * ((wt - (1 : Int32)).toInt64)) - v0) + v1), .second, .unset, .unset] [(.long (wt.toInt64))]))
    refine own_via (fun t kz => XS.aloadN X8.here hx rfl (hb hby d4_34) rfl rfl kz) ?_
    show own_Go p e below _ (T8.setTop (mkF m 35 #[oR this, oR p1, oJ ((((wt.toInt64) * ((wt - (1 : Int32)).toInt64)) - v0) + v1), .second, .unset, .unset] [(.ref this), (.long (wt.toInt64))]))
    obtain ⟨T9, X9, e9, st9⟩ := getF X8 hx hZ hown (host := "") (Or.inl (own_w hw 17)) Via.refl e8 F_wt (g := (mkF m 35 #[oR this, oR p1, oJ ((((wt.toInt64) * ((wt - (1 : Int32)).toInt64)) - v0) + v1), .second, .unset, .unset] [(.ref this), (.long (wt.toInt64))])) rfl rfl (hb hby d4_35)
    refine own_via st9 ?_
    show own_Go p e below _ (T9.setTop (mkF m 38 #[oR this, oR p1, oJ ((((wt.toInt64) * ((wt - (1 : Int32)).toInt64)) - v0) + v1), .second, .unset, .unset] [(.int wt), (.long (wt.toInt64))]))
    refine own_via (fun t kz => XS.iconst X9.here hx rfl (hb hby d4_38) kz) ?_
    show own_Go p e below _ (T9.setTop (mkF m 39 #[oR this, oR p1, oJ ((((wt.toInt64) * ((wt - (1 : Int32)).toInt64)) - v0) + v1), .second, .unset, .unset] [(.int (1 : Int32)), (.int wt), (.long (wt.toInt64))]))
    refine own_via (fun t kz => XS.isub X9.here hx rfl (hb hby d4_39) rfl kz) ?_
    show own_Go p e below _ (T9.setTop (mkF m 40 #[oR this, oR p1, oJ ((((wt.toInt64) * ((wt - (1 : Int32)).toInt64)) - v0) + v1), .second, .unset, .unset] [(.int (wt - (1 : Int32))), (.long (wt.toInt64))]))
    refine own_via (fun t kz => XS.i2l X9.here hx rfl (hb hby d4_40) rfl kz) ?_
    show own_Go p e below _ (T9.setTop (mkF m 41 #[oR this, oR p1, oJ ((((wt.toInt64) * ((wt - (1 : Int32)).toInt64)) - v0) + v1), .second, .unset, .unset] [(.long ((wt - (1 : Int32)).toInt64)), (.long (wt.toInt64))]))
    refine own_via (fun t kz => XS.lmul X9.here hx rfl (hb hby d4_41) rfl kz) ?_
    show own_Go p e below _ (T9.setTop (mkF m 42 #[oR this, oR p1, oJ ((((wt.toInt64) * ((wt - (1 : Int32)).toInt64)) - v0) + v1), .second, .unset, .unset] [(.long ((wt.toInt64) * ((wt - (1 : Int32)).toInt64)))]))
    refine own_via (fun t kz => X9.ldc2Long hx hown (mvT hZ (own_w hw 26)) (g := (mkF m 42 #[oR this, oR p1, oJ ((((wt.toInt64) * ((wt - (1 : Int32)).toInt64)) - v0) + v1), .second, .unset, .unset] [(.long ((wt.toInt64) * ((wt - (1 : Int32)).toInt64)))])) rfl (hb hby d4_42) t kz) ?_
    show own_Go p e below _ (T9.setTop (mkF m 45 #[oR this, oR p1, oJ ((((wt.toInt64) * ((wt - (1 : Int32)).toInt64)) - v0) + v1), .second, .unset, .unset] [(.long (2 : Int64)), (.long ((wt.toInt64) * ((wt - (1 : Int32)).toInt64)))]))
    refine own_via (fun t kz => XS.ldiv X9.here hx rfl (hb hby d4_45) rfl (by decide) kz) ?_
    show own_Go p e below _ (T9.setTop (mkF m 46 #[oR this, oR p1, oJ ((((wt.toInt64) * ((wt - (1 : Int32)).toInt64)) - v0) + v1), .second, .unset, .unset] [(.long (((wt.toInt64) * ((wt - (1 : Int32)).toInt64)) / (2 : Int64)))]))
    refine own_via (fun t kz => XS.lstore X9.here hx rfl (hb hby d4_46) rfl (l' := #[oR this, oR p1, oJ ((((wt.toInt64) * ((wt - (1 : Int32)).toInt64)) - v0) + v1), .second, oJ (((wt.toInt64) * ((wt - (1 : Int32)).toInt64)) / (2 : Int64)), .second]) rfl kz) ?_
    show own_Go p e below _ (T9.setTop (mkF m 48 #[oR this, oR p1, oJ ((((wt.toInt64) * ((wt - (1 : Int32)).toInt64)) - v0) + v1), .second, oJ (((wt.toInt64) * ((wt - (1 : Int32)).toInt64)) / (2 : Int64)), .second] []))
    refine own_via (fun t kz => XS.lloadN X9.here hx rfl (hb hby d4_48) rfl kz) ?_
    show own_Go p e below _ (T9.setTop (mkF m 49 #[oR this, oR p1, oJ ((((wt.toInt64) * ((wt - (1 : Int32)).toInt64)) - v0) + v1), .second, oJ (((wt.toInt64) * ((wt - (1 : Int32)).toInt64)) / (2 : Int64)), .second] [(.long ((((wt.toInt64) * ((wt - (1 : Int32)).toInt64)) - v0) + v1))]))
    refine own_via (fun t kz => X9.ldc2Long hx hown (mvT hZ (own_w hw 26)) (g := (mkF m 49 #[oR this, oR p1, oJ ((((wt.toInt64) * ((wt - (1 : Int32)).toInt64)) - v0) + v1), .second, oJ (((wt.toInt64) * ((wt - (1 : Int32)).toInt64)) / (2 : Int64)), .second] [(.long ((((wt.toInt64) * ((wt - (1 : Int32)).toInt64)) - v0) + v1))])) rfl (hb hby d4_49) t kz) ?_
    show own_Go p e below _ (T9.setTop (mkF m 52 #[oR this, oR p1, oJ ((((wt.toInt64) * ((wt - (1 : Int32)).toInt64)) - v0) + v1), .second, oJ (((wt.toInt64) * ((wt - (1 : Int32)).toInt64)) / (2 : Int64)), .second] [(.long (2 : Int64)), (.long ((((wt.toInt64) * ((wt - (1 : Int32)).toInt64)) - v0) + v1))]))
    refine own_via (fun t kz => XS.lload X9.here hx rfl (hb hby d4_52) rfl kz) ?_
    show own_Go p e below _ (T9.setTop (mkF m 54 #[oR this, oR p1, oJ ((((wt.toInt64) * ((wt - (1 : Int32)).toInt64)) - v0) + v1), .second, oJ (((wt.toInt64) * ((wt - (1 : Int32)).toInt64)) / (2 : Int64)), .second] [(.long (((wt.toInt64) * ((wt - (1 : Int32)).toInt64)) / (2 : Int64))), (.long (2 : Int64)), (.long ((((wt.toInt64) * ((wt - (1 : Int32)).toInt64)) - v0) + v1))]))
    refine own_via (fun t kz => XS.aloadN X9.here hx rfl (hb hby d4_54) rfl rfl kz) ?_
    show own_Go p e below _ (T9.setTop (mkF m 55 #[oR this, oR p1, oJ ((((wt.toInt64) * ((wt - (1 : Int32)).toInt64)) - v0) + v1), .second, oJ (((wt.toInt64) * ((wt - (1 : Int32)).toInt64)) / (2 : Int64)), .second] [(.ref p1), (.long (((wt.toInt64) * ((wt - (1 : Int32)).toInt64)) / (2 : Int64))), (.long (2 : Int64)), (.long ((((wt.toInt64) * ((wt - (1 : Int32)).toInt64)) - v0) + v1))]))
    refine own_via (fun t kz => XS.iconst X9.here hx rfl (hb hby d4_55) kz) ?_
    show own_Go p e below _ (T9.setTop (mkF m 56 #[oR this, oR p1, oJ ((((wt.toInt64) * ((wt - (1 : Int32)).toInt64)) - v0) + v1), .second, oJ (((wt.toInt64) * ((wt - (1 : Int32)).toInt64)) / (2 : Int64)), .second] [(.int (2 : Int32)), (.ref p1), (.long (((wt.toInt64) * ((wt - (1 : Int32)).toInt64)) / (2 : Int64))), (.long (2 : Int64)), (.long ((((wt.toInt64) * ((wt - (1 : Int32)).toInt64)) - v0) + v1))]))
    obtain ⟨cl10, Ar10, kc10, Sz10, Nn10, Hs10, Gs10⟩ := id V_p1
    have in10 := inb_of (j := (2 : Int32)) Sz10 ⟨by decide, by decide⟩
    have at10 : cl10.slots[((2 : Int32)).toNatClampNeg]? = some (.long v2) := Hs10.at in10 rfl
    refine own_via (fun t kz => X9.laload hx (j := (2 : Int32)) (v := (.long v2)) (by rw [e9]; exact Ar10.1) (State.isArrayOf_alike hZ.alike Ar10.2.1) Ar10.2.2 in10 at10 (g := (mkF m 56 #[oR this, oR p1, oJ ((((wt.toInt64) * ((wt - (1 : Int32)).toInt64)) - v0) + v1), .second, oJ (((wt.toInt64) * ((wt - (1 : Int32)).toInt64)) / (2 : Int64)), .second] [(.int (2 : Int32)), (.ref p1), (.long (((wt.toInt64) * ((wt - (1 : Int32)).toInt64)) / (2 : Int64))), (.long (2 : Int64)), (.long ((((wt.toInt64) * ((wt - (1 : Int32)).toInt64)) - v0) + v1))])) rfl rfl (hb hby d4_56) t kz) ?_
    show own_Go p e below _ (T9.setTop (mkF m 57 #[oR this, oR p1, oJ ((((wt.toInt64) * ((wt - (1 : Int32)).toInt64)) - v0) + v1), .second, oJ (((wt.toInt64) * ((wt - (1 : Int32)).toInt64)) / (2 : Int64)), .second] [(.long v2), (.long (((wt.toInt64) * ((wt - (1 : Int32)).toInt64)) / (2 : Int64))), (.long (2 : Int64)), (.long ((((wt.toInt64) * ((wt - (1 : Int32)).toInt64)) - v0) + v1))]))
    refine own_via (fun t kz => XS.lsub X9.here hx rfl (hb hby d4_57) rfl kz) ?_
    show own_Go p e below _ (T9.setTop (mkF m 58 #[oR this, oR p1, oJ ((((wt.toInt64) * ((wt - (1 : Int32)).toInt64)) - v0) + v1), .second, oJ (((wt.toInt64) * ((wt - (1 : Int32)).toInt64)) / (2 : Int64)), .second] [(.long ((((wt.toInt64) * ((wt - (1 : Int32)).toInt64)) / (2 : Int64)) - v2)), (.long (2 : Int64)), (.long ((((wt.toInt64) * ((wt - (1 : Int32)).toInt64)) - v0) + v1))]))
    refine own_via (fun t kz => XS.lmul X9.here hx rfl (hb hby d4_58) rfl kz) ?_
    show own_Go p e below _ (T9.setTop (mkF m 59 #[oR this, oR p1, oJ ((((wt.toInt64) * ((wt - (1 : Int32)).toInt64)) - v0) + v1), .second, oJ (((wt.toInt64) * ((wt - (1 : Int32)).toInt64)) / (2 : Int64)), .second] [(.long ((2 : Int64) * ((((wt.toInt64) * ((wt - (1 : Int32)).toInt64)) / (2 : Int64)) - v2))), (.long ((((wt.toInt64) * ((wt - (1 : Int32)).toInt64)) - v0) + v1))]))
    refine own_via (fun t kz => XS.ladd X9.here hx rfl (hb hby d4_59) rfl kz) ?_
    show own_Go p e below _ (T9.setTop (mkF m 60 #[oR this, oR p1, oJ ((((wt.toInt64) * ((wt - (1 : Int32)).toInt64)) - v0) + v1), .second, oJ (((wt.toInt64) * ((wt - (1 : Int32)).toInt64)) / (2 : Int64)), .second] [(.long (((((wt.toInt64) * ((wt - (1 : Int32)).toInt64)) - v0) + v1) + ((2 : Int64) * ((((wt.toInt64) * ((wt - (1 : Int32)).toInt64)) / (2 : Int64)) - v2))))]))
    refine own_via (fun t kz => XS.lstoreN X9.here hx rfl (hb hby d4_60) rfl (l' := #[oR this, oR p1, oJ (((((wt.toInt64) * ((wt - (1 : Int32)).toInt64)) - v0) + v1) + ((2 : Int64) * ((((wt.toInt64) * ((wt - (1 : Int32)).toInt64)) / (2 : Int64)) - v2))), .second, oJ (((wt.toInt64) * ((wt - (1 : Int32)).toInt64)) / (2 : Int64)), .second]) rfl kz) ?_
    show own_Go p e below _ (T9.setTop (mkF m 61 #[oR this, oR p1, oJ (((((wt.toInt64) * ((wt - (1 : Int32)).toInt64)) - v0) + v1) + ((2 : Int64) * ((((wt.toInt64) * ((wt - (1 : Int32)).toInt64)) / (2 : Int64)) - v2))), .second, oJ (((wt.toInt64) * ((wt - (1 : Int32)).toInt64)) / (2 : Int64)), .second] []))
    refine own_via (fun t kz => XS.lloadN X9.here hx rfl (hb hby d4_61) rfl kz) ?_
    show own_Go p e below _ (T9.setTop (mkF m 62 #[oR this, oR p1, oJ (((((wt.toInt64) * ((wt - (1 : Int32)).toInt64)) - v0) + v1) + ((2 : Int64) * ((((wt.toInt64) * ((wt - (1 : Int32)).toInt64)) / (2 : Int64)) - v2))), .second, oJ (((wt.toInt64) * ((wt - (1 : Int32)).toInt64)) / (2 : Int64)), .second] [(.long (((((wt.toInt64) * ((wt - (1 : Int32)).toInt64)) - v0) + v1) + ((2 : Int64) * ((((wt.toInt64) * ((wt - (1 : Int32)).toInt64)) / (2 : Int64)) - v2))))]))
    have hv : (f4 wt wp v0 v1 v2) = (((((wt.toInt64) * ((wt - (1 : Int32)).toInt64)) - v0) + v1) + ((2 : Int64) * ((((wt.toInt64) * ((wt - (1 : Int32)).toInt64)) / (2 : Int64)) - v2))) := by unfold f4; rw [if_neg hc26_6]
    obtain ⟨fs, hr, hrun, hended, hW, hsame⟩ := X9.leave (v := some (.long (((((wt.toInt64) * ((wt - (1 : Int32)).toInt64)) - v0) + v1) + ((2 : Int64) * ((((wt.toInt64) * ((wt - (1 : Int32)).toInt64)) / (2 : Int64)) - v2))))) (fun h => by rw [Bd.returns] at h; cases h)
    refine ⟨_, _, retOut X9 hx (i := .lreturn) Bd.returns rfl (Or.inr (Or.inl ⟨rfl, rfl, _, rfl⟩)) (hb hby d4_62) hr, hrun, hended, _, _, rfl, ?_, ⟨_, rfl⟩, hW, hsame.mono (by decide) (by decide)⟩
    show Q4 Z this p1 wt wp ka v0 v1 v2 r h0 n0 _ T9.heap _
    rw [e9]
    exact ⟨by rw [← hr0, hv], N0, rfl⟩
theorem own_mb {a b : Int} (ha : 0 ≤ a) (ha2 : a ≤ 2147483648) (hb2 : b ≤ 2147483648) : a * b ≤ 4611686018427387904 :=
  Int.le_trans (Int.mul_le_mul_of_nonneg_left hb2 ha) (Int.mul_le_mul_of_nonneg_right (c := 2147483648) ha2 (by decide))
theorem own_pred (t : Int32) (h : 0 ≤ t.toInt) : (t - 1).toInt64 = t.toInt64 - 1 := by
  apply Int64.toInt_inj.mp
  rw [Int64.toInt_sub, Int32.toInt_toInt64, Int32.toInt_toInt64, Int32.toInt_sub]
  have h1 := t.toInt_lt
  simp only [Int32.reduceToInt, Int64.reduceToInt]
  rw [Int.bmod_eq_of_le (by omega) (by omega), Int.bmod_eq_of_le (by omega) (by omega)]
theorem own_nn (x : Int) (h0 : 0 ≤ x) : 0 ≤ x * (x - 1) := by
  rcases Int.lt_or_le x 1 with q | q
  · have : x = 0 := by omega
    rw [this]; decide
  · exact Int.mul_nonneg h0 (by omega)
theorem own_half (n : Int64) (h0 : 0 ≤ n.toInt) (h1 : n.toInt < 2147483648) : (n * (n - 1)) / 2 = if n - n / 2 * 2 = 0 then (n / 2) * (n - 1) else n * ((n - 1) / 2) := by
  have e1 : (n - 1).toInt = n.toInt - 1 := by
    rw [Int64.toInt_sub]; simp only [Int64.reduceToInt]; exact Int.bmod_eq_of_le (by omega) (by omega)
  have hpos := own_nn _ h0
  have e2 : (n * (n - 1)).toInt = n.toInt * (n.toInt - 1) := by
    rw [Int64.toInt_mul, e1]
    have a2 := own_mb h0 (by omega) (show n.toInt - 1 ≤ 2147483648 by omega)
    exact Int.bmod_eq_of_le (by omega) (by omega)
  have e3 : (n / 2).toInt = n.toInt / 2 := by
    rw [Int64.toInt_div_of_ne_right _ _ (by decide)]; exact Int.tdiv_eq_ediv_of_nonneg h0
  have e4 : (n - n / 2 * 2).toInt = n.toInt % 2 := by
    rw [Int64.toInt_sub, Int64.toInt_mul, e3]; simp only [Int64.reduceToInt]
    rw [Int.bmod_eq_of_le (n := n.toInt / 2 * 2) (by omega) (by omega), Int.bmod_eq_of_le (by omega) (by omega)]; omega
  have e5 : ((n * (n - 1)) / 2).toInt = n.toInt * (n.toInt - 1) / 2 := by
    rw [Int64.toInt_div_of_ne_right _ _ (by decide), e2]; exact Int.tdiv_eq_ediv_of_nonneg hpos
  have e6 : ((n - 1) / 2).toInt = (n.toInt - 1).tdiv 2 := by rw [Int64.toInt_div_of_ne_right _ _ (by decide), e1]; rfl
  split
  · rename_i hq
    have h2 : n.toInt % 2 = 0 := by rw [← e4, hq]; rfl
    apply Int64.toInt_inj.mp
    rw [e5, Int64.toInt_mul, e3, e1]
    clear e1 e2 e3 e4 e5 e6 hq
    generalize n.toInt = x at *
    obtain ⟨k, rfl⟩ : ∃ k, x = 2 * k := ⟨x / 2, by omega⟩
    have b1 : 2 * k * (2 * k - 1) / 2 = k * (2 * k - 1) := by rw [Int.mul_assoc]; exact Int.mul_ediv_cancel_left _ (by decide)
    have b2 : 2 * k / 2 = k := by omega
    rw [b1, b2]
    have c1 := own_mb (show 0 ≤ k by omega) (by omega) (show 2 * k - 1 ≤ 2147483648 by omega)
    have c2 : 0 ≤ 2 * (k * (2 * k - 1)) := by rw [← Int.mul_assoc]; exact hpos
    exact (Int.bmod_eq_of_le (by omega) (by omega)).symm
  · rename_i hq
    have h2 : n.toInt % 2 = 1 := by
      have : ¬ (n - n / 2 * 2).toInt = 0 := fun q => hq (Int64.toInt_inj.mp q)
      omega
    apply Int64.toInt_inj.mp
    rw [e5, Int64.toInt_mul, e6]
    clear e1 e2 e3 e4 e5 e6 hq
    generalize n.toInt = x at *
    obtain ⟨k, rfl⟩ : ∃ k, x = 2 * k + 1 := ⟨x / 2, by omega⟩
    have b1 : (2 * k + 1) * (2 * k + 1 - 1) / 2 = (2 * k + 1) * k := by
      have : (2 * k + 1) * (2 * k + 1 - 1) = 2 * ((2 * k + 1) * k) := by rw [Int.add_sub_cancel, Int.mul_left_comm]
      rw [this]; exact Int.mul_ediv_cancel_left _ (by decide)
    have b2 : (2 * k + 1 - 1).tdiv 2 = k := by rw [Int.add_sub_cancel, Int.tdiv_eq_ediv_of_nonneg (by omega)]; omega
    rw [b1, b2]
    have c1 := own_mb (show 0 ≤ 2 * k + 1 by omega) (by omega) (show k ≤ 2147483648 by omega)
    have c2 : 0 ≤ (2 * k + 1) * k := Int.mul_nonneg (by omega) (by omega)
    exact (Int.bmod_eq_of_le (by omega) (by omega)).symm
theorem own_mask (x : Int32) : 0 ≤ (x &&& 2147483647).toInt := by
  have : (x &&& 2147483647).toBitVec.toNat < 2 ^ 31 := by
    rw [Int32.toBitVec_and, BitVec.toNat_and]
    exact Nat.lt_of_le_of_lt Nat.and_le_right (by decide)
  have e : (x &&& 2147483647).toInt = (x &&& 2147483647).toBitVec.toInt := rfl
  rw [e, BitVec.toInt_eq_toNat_of_lt (by omega)]
  exact Int.natCast_nonneg _
theorem own_fin0 (p0 : Int32) (p2 p3 p4 : Int64) (hq : (((p0 &&& (2147483647 : Int32)).toInt64) - ((p0 &&& (2147483647 : Int32)).toInt64) / (2 : Int64) * (2 : Int64)) = (0 : Int64)) : (((((p0 &&& (2147483647 : Int32)).toInt64) * (((p0 &&& (2147483647 : Int32)) - (1 : Int32)).toInt64)) - ((((p0 &&& (2147483647 : Int32)).toInt64) * (((p0 &&& (2147483647 : Int32)).toInt64) - (1 : Int64))) - p2)) + p3) = ((p2 + p3) + (0 : Int64)) := by
  have h0 := own_mask p0
  have h1 := (p0 &&& 2147483647).toInt_lt
  rw [own_pred _ h0]
  have hh := own_half (p0 &&& 2147483647).toInt64 (by rw [Int32.toInt_toInt64]; exact h0) (by rw [Int32.toInt_toInt64]; exact h1)
  generalize (p0 &&& (2147483647 : Int32)).toInt64 = n at *
  first
    | (rw [if_pos hq] at hh; rw [hh]; generalize n * (n - 1) = o at *; generalize n / 2 * (n - 1) = q at *; grind)
    | (rw [if_neg hq] at hh; rw [hh]; generalize n * (n - 1) = o at *; generalize n * ((n - 1) / 2) = q at *; grind)
    | (generalize n * (n - 1) = o at *; grind)
theorem own_fin1 (p0 : Int32) (p2 p3 p4 : Int64) (hq : ¬ ((((p0 &&& (2147483647 : Int32)).toInt64) - ((p0 &&& (2147483647 : Int32)).toInt64) / (2 : Int64) * (2 : Int64)) = (0 : Int64))) : (((((p0 &&& (2147483647 : Int32)).toInt64) * (((p0 &&& (2147483647 : Int32)) - (1 : Int32)).toInt64)) - ((((p0 &&& (2147483647 : Int32)).toInt64) * (((p0 &&& (2147483647 : Int32)).toInt64) - (1 : Int64))) - p2)) + p3) = ((p2 + p3) + (0 : Int64)) := by
  have h0 := own_mask p0
  have h1 := (p0 &&& 2147483647).toInt_lt
  rw [own_pred _ h0]
  have hh := own_half (p0 &&& 2147483647).toInt64 (by rw [Int32.toInt_toInt64]; exact h0) (by rw [Int32.toInt_toInt64]; exact h1)
  generalize (p0 &&& (2147483647 : Int32)).toInt64 = n at *
  first
    | (rw [if_pos hq] at hh; rw [hh]; generalize n * (n - 1) = o at *; generalize n / 2 * (n - 1) = q at *; grind)
    | (rw [if_neg hq] at hh; rw [hh]; generalize n * (n - 1) = o at *; generalize n * ((n - 1) / 2) = q at *; grind)
    | (generalize n * (n - 1) = o at *; grind)
theorem own_fin2 (p0 : Int32) (p2 p3 p4 : Int64) (hq : (((p0 &&& (2147483647 : Int32)).toInt64) - ((p0 &&& (2147483647 : Int32)).toInt64) / (2 : Int64) * (2 : Int64)) = (0 : Int64)) : ((((((p0 &&& (2147483647 : Int32)).toInt64) * (((p0 &&& (2147483647 : Int32)) - (1 : Int32)).toInt64)) - ((((p0 &&& (2147483647 : Int32)).toInt64) * (((p0 &&& (2147483647 : Int32)).toInt64) - (1 : Int64))) - p2)) + p3) + ((2 : Int64) * (((((p0 &&& (2147483647 : Int32)).toInt64) * (((p0 &&& (2147483647 : Int32)) - (1 : Int32)).toInt64)) / (2 : Int64)) - (((((p0 &&& (2147483647 : Int32)).toInt64) / (2 : Int64)) * (((p0 &&& (2147483647 : Int32)).toInt64) - (1 : Int64))) - p4)))) = ((p2 + p3) + ((2 : Int64) * p4)) := by
  have h0 := own_mask p0
  have h1 := (p0 &&& 2147483647).toInt_lt
  rw [own_pred _ h0]
  have hh := own_half (p0 &&& 2147483647).toInt64 (by rw [Int32.toInt_toInt64]; exact h0) (by rw [Int32.toInt_toInt64]; exact h1)
  generalize (p0 &&& (2147483647 : Int32)).toInt64 = n at *
  first
    | (rw [if_pos hq] at hh; rw [hh]; generalize n * (n - 1) = o at *; generalize n / 2 * (n - 1) = q at *; grind)
    | (rw [if_neg hq] at hh; rw [hh]; generalize n * (n - 1) = o at *; generalize n * ((n - 1) / 2) = q at *; grind)
    | (generalize n * (n - 1) = o at *; grind)
theorem own_fin3 (p0 : Int32) (p2 p3 p4 : Int64) (hq : ¬ ((((p0 &&& (2147483647 : Int32)).toInt64) - ((p0 &&& (2147483647 : Int32)).toInt64) / (2 : Int64) * (2 : Int64)) = (0 : Int64))) : ((((((p0 &&& (2147483647 : Int32)).toInt64) * (((p0 &&& (2147483647 : Int32)) - (1 : Int32)).toInt64)) - ((((p0 &&& (2147483647 : Int32)).toInt64) * (((p0 &&& (2147483647 : Int32)).toInt64) - (1 : Int64))) - p2)) + p3) + ((2 : Int64) * (((((p0 &&& (2147483647 : Int32)).toInt64) * (((p0 &&& (2147483647 : Int32)) - (1 : Int32)).toInt64)) / (2 : Int64)) - ((((p0 &&& (2147483647 : Int32)).toInt64) * ((((p0 &&& (2147483647 : Int32)).toInt64) - (1 : Int64)) / (2 : Int64))) - p4)))) = ((p2 + p3) + ((2 : Int64) * p4)) := by
  have h0 := own_mask p0
  have h1 := (p0 &&& 2147483647).toInt_lt
  rw [own_pred _ h0]
  have hh := own_half (p0 &&& 2147483647).toInt64 (by rw [Int32.toInt_toInt64]; exact h0) (by rw [Int32.toInt_toInt64]; exact h1)
  generalize (p0 &&& (2147483647 : Int32)).toInt64 = n at *
  first
    | (rw [if_pos hq] at hh; rw [hh]; generalize n * (n - 1) = o at *; generalize n / 2 * (n - 1) = q at *; grind)
    | (rw [if_neg hq] at hh; rw [hh]; generalize n * (n - 1) = o at *; generalize n * ((n - 1) / 2) = q at *; grind)
    | (generalize n * (n - 1) = o at *; grind)
theorem pn_0 : plainName "com/example/matchloom/matchloom/league/FormatRulesTotalPinLaw" = true := by first | (simp [plainName, overriddenIn]; done) | decide +kernel
theorem pd_0_0 : parseMethodDescriptor "(IZ)V" = some ⟨[.int, .boolean], none⟩ := by decide +kernel
theorem pd_0_1 : parseMethodDescriptor "([J)J" = some ⟨[(.array .long)], some .long⟩ := by decide +kernel
theorem ef_rm0 (m : MethodId) (q0 : Int32) (q1 : Int32) (q2 : Int64) (q3 : Int64) (q4 : Int64) : entryFrame m #[(.int q0), (.int q1), (.long q2), (.long q3), (.long q4)] maxLocals = mkF m 0 #[oI q0, oI q1, oJ q2, .second, oJ q3, .second, oJ q4, .second, .unset, .unset, .unset, .unset, .unset, .unset, .unset, .unset, .unset, .unset, .unset, .unset] [] := by first | (simp [entryFrame, mkF, argsToLocals, Value.category, maxLocals]; done) | rfl
def Q0 (Z : State) (p0 : Int32) (p1 : Int32) (p2 : Int64) (p3 : Int64) (p4 : Int64) (h0 : Heap) (n0 : Nat) (v : Option Value) (h : Heap) (L : List Loc) : Prop := v = some (.int (1 : Int32)) ∧ Fr n0 L
set_option maxRecDepth 65536 in
set_option maxHeartbeats 40000000 in
theorem rm0 (l : Launch) (Z : State) (a0 : Array Value) (hw : ∀ d ∈ tables_1, d.before a0 Z = true) (ws : List Jvm.Cond) (p0 : Int32) (p1 : Int32) (p2 : Int64) (p3 : Int64) (p4 : Int64) (h0 : Heap) (n0 : Nat) (Z0 : n0 ≤ h0.size) :
    MetFree l x (head1 (Jvm.Cond.code x code maxLocals ret :: ws) room_1) (fun a U => a = #[(.int p0), (.int p1), (.long p2), (.long p3), (.long p4)] ∧ Z.Warmed39 U.vm ∧ U.heap = h0) (fun _ _ _ _ _ => True) (fun _ U o U' => ∃ v L, o = .returned v ∧ Q0 Z p0 p1 p2 p3 p4 h0 n0 v U'.heap L ∧ FrameEnd U o U' L room_1.cells room_1.slots) := by
  refine MetFree.of_bodySF (plainFor_of_name pn_0) hisR ?_
  intro p e s m args below meth c s₁ Bd hml0 hP hK
  obtain ⟨rfl, hZ, hh⟩ := hP
  have hx := Bd.exec
  have hby := Bd.bytes
  have hml : c.maxLocals = 20 := hml0
  have hown : s.vm.findClass "com/example/matchloom/matchloom/league/FormatRulesTotalPinLaw" = some m.cls := findClass_of_methodNamed Bd.named
  have hnm := (name_of_methodNamed Bd.named Bd.method).1
  have X0 : Stand p l e room_1 s m #[(.int p0), (.int p1), (.long p2), (.long p3), (.long p4)] below meth c s₁ [] 0 0 := Stand.of_body Bd
  have e0 : s₁.heap = h0 := by rw [← hh, Bd.state]; rfl
  have N0 := Fr.nil n0
  refine own_start ?_
  refine own_via (fun t k => castTop (ef_rm0 m p0 p1 p2 p3 p4) k) ?_
  show own_Go p e below _ (s₁.setTop (mkF m 0 #[oI p0, oI p1, oJ p2, .second, oJ p3, .second, oJ p4, .second, .unset, .unset, .unset, .unset, .unset, .unset, .unset, .unset, .unset, .unset, .unset, .unset] []))
  refine own_via (fun t kz => XS.iloadN X0.here hx rfl (hb hby at_0) rfl kz) ?_
  show own_Go p e below _ (s₁.setTop (mkF m 1 #[oI p0, oI p1, oJ p2, .second, oJ p3, .second, oJ p4, .second, .unset, .unset, .unset, .unset, .unset, .unset, .unset, .unset, .unset, .unset, .unset, .unset] [(.int p0)]))
  refine own_via (fun t kz => X0.ldcInt hx hown (mvT hZ (own_w hw 0)) (g := (mkF m 1 #[oI p0, oI p1, oJ p2, .second, oJ p3, .second, oJ p4, .second, .unset, .unset, .unset, .unset, .unset, .unset, .unset, .unset, .unset, .unset, .unset, .unset] [(.int p0)])) rfl (hb hby at_1) t kz) ?_
  show own_Go p e below _ (s₁.setTop (mkF m 3 #[oI p0, oI p1, oJ p2, .second, oJ p3, .second, oJ p4, .second, .unset, .unset, .unset, .unset, .unset, .unset, .unset, .unset, .unset, .unset, .unset, .unset] [(.int (2147483647 : Int32)), (.int p0)]))
  refine own_via (fun t kz => XS.iand X0.here hx rfl (hb hby at_3) rfl kz) ?_
  show own_Go p e below _ (s₁.setTop (mkF m 4 #[oI p0, oI p1, oJ p2, .second, oJ p3, .second, oJ p4, .second, .unset, .unset, .unset, .unset, .unset, .unset, .unset, .unset, .unset, .unset, .unset, .unset] [(.int (p0 &&& (2147483647 : Int32)))]))
  refine own_via (fun t kz => XS.istore X0.here hx rfl (hb hby at_4) rfl (l' := #[oI p0, oI p1, oJ p2, .second, oJ p3, .second, oJ p4, .second, oI (p0 &&& (2147483647 : Int32)), .unset, .unset, .unset, .unset, .unset, .unset, .unset, .unset, .unset, .unset, .unset]) rfl kz) ?_
  show own_Go p e below _ (s₁.setTop (mkF m 6 #[oI p0, oI p1, oJ p2, .second, oJ p3, .second, oJ p4, .second, oI (p0 &&& (2147483647 : Int32)), .unset, .unset, .unset, .unset, .unset, .unset, .unset, .unset, .unset, .unset, .unset] []))
  refine own_via (fun t kz => XS.iloadN X0.here hx rfl (hb hby at_6) rfl kz) ?_
  show own_Go p e below _ (s₁.setTop (mkF m 7 #[oI p0, oI p1, oJ p2, .second, oJ p3, .second, oJ p4, .second, oI (p0 &&& (2147483647 : Int32)), .unset, .unset, .unset, .unset, .unset, .unset, .unset, .unset, .unset, .unset, .unset] [(.int p1)]))
  refine own_via (fun t kz => XS.iconst X0.here hx rfl (hb hby at_7) kz) ?_
  show own_Go p e below _ (s₁.setTop (mkF m 8 #[oI p0, oI p1, oJ p2, .second, oJ p3, .second, oJ p4, .second, oI (p0 &&& (2147483647 : Int32)), .unset, .unset, .unset, .unset, .unset, .unset, .unset, .unset, .unset, .unset, .unset] [(.int (1 : Int32)), (.int p1)]))
  refine own_via (fun t kz => XS.iand X0.here hx rfl (hb hby at_8) rfl kz) ?_
  show own_Go p e below _ (s₁.setTop (mkF m 9 #[oI p0, oI p1, oJ p2, .second, oJ p3, .second, oJ p4, .second, oI (p0 &&& (2147483647 : Int32)), .unset, .unset, .unset, .unset, .unset, .unset, .unset, .unset, .unset, .unset, .unset] [(.int (p1 &&& (1 : Int32)))]))
  by_cases hc9_1 : (p1 &&& (1 : Int32)) = (0 : Int32)
  · refine own_via (fun t kz => XS.ifYes X0.here hx rfl (pc0 := 9) (pc' := 16) rfl (hb hby at_9) rfl ((if0 _ _).trans (teq hc9_1).1) (by decide) (by decide) kz) ?_
    show own_Go p e below _ (s₁.setTop (mkF m 16 #[oI p0, oI p1, oJ p2, .second, oJ p3, .second, oJ p4, .second, oI (p0 &&& (2147483647 : Int32)), .unset, .unset, .unset, .unset, .unset, .unset, .unset, .unset, .unset, .unset, .unset] []))
    refine own_via (fun t kz => XS.iconst X0.here hx rfl (hb hby at_16) kz) ?_
    show own_Go p e below _ (s₁.setTop (mkF m 17 #[oI p0, oI p1, oJ p2, .second, oJ p3, .second, oJ p4, .second, oI (p0 &&& (2147483647 : Int32)), .unset, .unset, .unset, .unset, .unset, .unset, .unset, .unset, .unset, .unset, .unset] [(.int (0 : Int32))]))
    refine own_via (fun t kz => XS.istore X0.here hx rfl (hb hby at_17) rfl (l' := #[oI p0, oI p1, oJ p2, .second, oJ p3, .second, oJ p4, .second, oI (p0 &&& (2147483647 : Int32)), oI (0 : Int32), .unset, .unset, .unset, .unset, .unset, .unset, .unset, .unset, .unset, .unset]) rfl kz) ?_
    show own_Go p e below _ (s₁.setTop (mkF m 19 #[oI p0, oI p1, oJ p2, .second, oJ p3, .second, oJ p4, .second, oI (p0 &&& (2147483647 : Int32)), oI (0 : Int32), .unset, .unset, .unset, .unset, .unset, .unset, .unset, .unset, .unset, .unset] []))
    refine own_via (fun t kz => XS.iload X0.here hx rfl (hb hby at_19) rfl kz) ?_
    show own_Go p e below _ (s₁.setTop (mkF m 21 #[oI p0, oI p1, oJ p2, .second, oJ p3, .second, oJ p4, .second, oI (p0 &&& (2147483647 : Int32)), oI (0 : Int32), .unset, .unset, .unset, .unset, .unset, .unset, .unset, .unset, .unset, .unset] [(.int (p0 &&& (2147483647 : Int32)))]))
    refine own_via (fun t kz => XS.i2l X0.here hx rfl (hb hby at_21) rfl kz) ?_
    show own_Go p e below _ (s₁.setTop (mkF m 22 #[oI p0, oI p1, oJ p2, .second, oJ p3, .second, oJ p4, .second, oI (p0 &&& (2147483647 : Int32)), oI (0 : Int32), .unset, .unset, .unset, .unset, .unset, .unset, .unset, .unset, .unset, .unset] [(.long ((p0 &&& (2147483647 : Int32)).toInt64))]))
    refine own_via (fun t kz => XS.lstore X0.here hx rfl (hb hby at_22) rfl (l' := #[oI p0, oI p1, oJ p2, .second, oJ p3, .second, oJ p4, .second, oI (p0 &&& (2147483647 : Int32)), oI (0 : Int32), oJ ((p0 &&& (2147483647 : Int32)).toInt64), .second, .unset, .unset, .unset, .unset, .unset, .unset, .unset, .unset]) rfl kz) ?_
    show own_Go p e below _ (s₁.setTop (mkF m 24 #[oI p0, oI p1, oJ p2, .second, oJ p3, .second, oJ p4, .second, oI (p0 &&& (2147483647 : Int32)), oI (0 : Int32), oJ ((p0 &&& (2147483647 : Int32)).toInt64), .second, .unset, .unset, .unset, .unset, .unset, .unset, .unset, .unset] []))
    refine own_via (fun t kz => XS.lload X0.here hx rfl (hb hby at_24) rfl kz) ?_
    show own_Go p e below _ (s₁.setTop (mkF m 26 #[oI p0, oI p1, oJ p2, .second, oJ p3, .second, oJ p4, .second, oI (p0 &&& (2147483647 : Int32)), oI (0 : Int32), oJ ((p0 &&& (2147483647 : Int32)).toInt64), .second, .unset, .unset, .unset, .unset, .unset, .unset, .unset, .unset] [(.long ((p0 &&& (2147483647 : Int32)).toInt64))]))
    refine own_via (fun t kz => XS.lload X0.here hx rfl (hb hby at_26) rfl kz) ?_
    show own_Go p e below _ (s₁.setTop (mkF m 28 #[oI p0, oI p1, oJ p2, .second, oJ p3, .second, oJ p4, .second, oI (p0 &&& (2147483647 : Int32)), oI (0 : Int32), oJ ((p0 &&& (2147483647 : Int32)).toInt64), .second, .unset, .unset, .unset, .unset, .unset, .unset, .unset, .unset] [(.long ((p0 &&& (2147483647 : Int32)).toInt64)), (.long ((p0 &&& (2147483647 : Int32)).toInt64))]))
    refine own_via (fun t kz => XS.lconst X0.here hx rfl (hb hby at_28) kz) ?_
    show own_Go p e below _ (s₁.setTop (mkF m 29 #[oI p0, oI p1, oJ p2, .second, oJ p3, .second, oJ p4, .second, oI (p0 &&& (2147483647 : Int32)), oI (0 : Int32), oJ ((p0 &&& (2147483647 : Int32)).toInt64), .second, .unset, .unset, .unset, .unset, .unset, .unset, .unset, .unset] [(.long (1 : Int64)), (.long ((p0 &&& (2147483647 : Int32)).toInt64)), (.long ((p0 &&& (2147483647 : Int32)).toInt64))]))
    refine own_via (fun t kz => XS.lsub X0.here hx rfl (hb hby at_29) rfl kz) ?_
    show own_Go p e below _ (s₁.setTop (mkF m 30 #[oI p0, oI p1, oJ p2, .second, oJ p3, .second, oJ p4, .second, oI (p0 &&& (2147483647 : Int32)), oI (0 : Int32), oJ ((p0 &&& (2147483647 : Int32)).toInt64), .second, .unset, .unset, .unset, .unset, .unset, .unset, .unset, .unset] [(.long (((p0 &&& (2147483647 : Int32)).toInt64) - (1 : Int64))), (.long ((p0 &&& (2147483647 : Int32)).toInt64))]))
    refine own_via (fun t kz => XS.lmul X0.here hx rfl (hb hby at_30) rfl kz) ?_
    show own_Go p e below _ (s₁.setTop (mkF m 31 #[oI p0, oI p1, oJ p2, .second, oJ p3, .second, oJ p4, .second, oI (p0 &&& (2147483647 : Int32)), oI (0 : Int32), oJ ((p0 &&& (2147483647 : Int32)).toInt64), .second, .unset, .unset, .unset, .unset, .unset, .unset, .unset, .unset] [(.long (((p0 &&& (2147483647 : Int32)).toInt64) * (((p0 &&& (2147483647 : Int32)).toInt64) - (1 : Int64))))]))
    refine own_via (fun t kz => XS.lstore X0.here hx rfl (hb hby at_31) rfl (l' := #[oI p0, oI p1, oJ p2, .second, oJ p3, .second, oJ p4, .second, oI (p0 &&& (2147483647 : Int32)), oI (0 : Int32), oJ ((p0 &&& (2147483647 : Int32)).toInt64), .second, oJ (((p0 &&& (2147483647 : Int32)).toInt64) * (((p0 &&& (2147483647 : Int32)).toInt64) - (1 : Int64))), .second, .unset, .unset, .unset, .unset, .unset, .unset]) rfl kz) ?_
    show own_Go p e below _ (s₁.setTop (mkF m 33 #[oI p0, oI p1, oJ p2, .second, oJ p3, .second, oJ p4, .second, oI (p0 &&& (2147483647 : Int32)), oI (0 : Int32), oJ ((p0 &&& (2147483647 : Int32)).toInt64), .second, oJ (((p0 &&& (2147483647 : Int32)).toInt64) * (((p0 &&& (2147483647 : Int32)).toInt64) - (1 : Int64))), .second, .unset, .unset, .unset, .unset, .unset, .unset] []))
    refine own_via (fun t kz => XS.lload X0.here hx rfl (hb hby at_33) rfl kz) ?_
    show own_Go p e below _ (s₁.setTop (mkF m 35 #[oI p0, oI p1, oJ p2, .second, oJ p3, .second, oJ p4, .second, oI (p0 &&& (2147483647 : Int32)), oI (0 : Int32), oJ ((p0 &&& (2147483647 : Int32)).toInt64), .second, oJ (((p0 &&& (2147483647 : Int32)).toInt64) * (((p0 &&& (2147483647 : Int32)).toInt64) - (1 : Int64))), .second, .unset, .unset, .unset, .unset, .unset, .unset] [(.long ((p0 &&& (2147483647 : Int32)).toInt64))]))
    refine own_via (fun t kz => X0.ldc2Long hx hown (mvT hZ (own_w hw 1)) (g := (mkF m 35 #[oI p0, oI p1, oJ p2, .second, oJ p3, .second, oJ p4, .second, oI (p0 &&& (2147483647 : Int32)), oI (0 : Int32), oJ ((p0 &&& (2147483647 : Int32)).toInt64), .second, oJ (((p0 &&& (2147483647 : Int32)).toInt64) * (((p0 &&& (2147483647 : Int32)).toInt64) - (1 : Int64))), .second, .unset, .unset, .unset, .unset, .unset, .unset] [(.long ((p0 &&& (2147483647 : Int32)).toInt64))])) rfl (hb hby at_35) t kz) ?_
    show own_Go p e below _ (s₁.setTop (mkF m 38 #[oI p0, oI p1, oJ p2, .second, oJ p3, .second, oJ p4, .second, oI (p0 &&& (2147483647 : Int32)), oI (0 : Int32), oJ ((p0 &&& (2147483647 : Int32)).toInt64), .second, oJ (((p0 &&& (2147483647 : Int32)).toInt64) * (((p0 &&& (2147483647 : Int32)).toInt64) - (1 : Int64))), .second, .unset, .unset, .unset, .unset, .unset, .unset] [(.long (2 : Int64)), (.long ((p0 &&& (2147483647 : Int32)).toInt64))]))
    refine own_via (fun t kz => XS.lrem X0.here hx rfl (hb hby at_38) rfl (by decide) kz) ?_
    show own_Go p e below _ (s₁.setTop (mkF m 39 #[oI p0, oI p1, oJ p2, .second, oJ p3, .second, oJ p4, .second, oI (p0 &&& (2147483647 : Int32)), oI (0 : Int32), oJ ((p0 &&& (2147483647 : Int32)).toInt64), .second, oJ (((p0 &&& (2147483647 : Int32)).toInt64) * (((p0 &&& (2147483647 : Int32)).toInt64) - (1 : Int64))), .second, .unset, .unset, .unset, .unset, .unset, .unset] [(.long (((p0 &&& (2147483647 : Int32)).toInt64) - ((p0 &&& (2147483647 : Int32)).toInt64) / (2 : Int64) * (2 : Int64)))]))
    refine own_via (fun t kz => XS.lconst X0.here hx rfl (hb hby at_39) kz) ?_
    show own_Go p e below _ (s₁.setTop (mkF m 40 #[oI p0, oI p1, oJ p2, .second, oJ p3, .second, oJ p4, .second, oI (p0 &&& (2147483647 : Int32)), oI (0 : Int32), oJ ((p0 &&& (2147483647 : Int32)).toInt64), .second, oJ (((p0 &&& (2147483647 : Int32)).toInt64) * (((p0 &&& (2147483647 : Int32)).toInt64) - (1 : Int64))), .second, .unset, .unset, .unset, .unset, .unset, .unset] [(.long (0 : Int64)), (.long (((p0 &&& (2147483647 : Int32)).toInt64) - ((p0 &&& (2147483647 : Int32)).toInt64) / (2 : Int64) * (2 : Int64)))]))
    refine own_via (fun t kz => XS.lcmp X0.here hx rfl (hb hby at_40) rfl kz) ?_
    show own_Go p e below _ (s₁.setTop (mkF m 41 #[oI p0, oI p1, oJ p2, .second, oJ p3, .second, oJ p4, .second, oI (p0 &&& (2147483647 : Int32)), oI (0 : Int32), oJ ((p0 &&& (2147483647 : Int32)).toInt64), .second, oJ (((p0 &&& (2147483647 : Int32)).toInt64) * (((p0 &&& (2147483647 : Int32)).toInt64) - (1 : Int64))), .second, .unset, .unset, .unset, .unset, .unset, .unset] [(.int (lcmpW (((p0 &&& (2147483647 : Int32)).toInt64) - ((p0 &&& (2147483647 : Int32)).toInt64) / (2 : Int64) * (2 : Int64)) (0 : Int64)))]))
    by_cases hc41_2 : (((p0 &&& (2147483647 : Int32)).toInt64) - ((p0 &&& (2147483647 : Int32)).toInt64) / (2 : Int64) * (2 : Int64)) = (0 : Int64)
    · refine own_via (fun t kz => XS.ifNo X0.here hx rfl (hb hby at_41) rfl ((if0 _ _).trans (teq ((lw_eq _ _).mpr hc41_2)).2) kz) ?_
      show own_Go p e below _ (s₁.setTop (mkF m 44 #[oI p0, oI p1, oJ p2, .second, oJ p3, .second, oJ p4, .second, oI (p0 &&& (2147483647 : Int32)), oI (0 : Int32), oJ ((p0 &&& (2147483647 : Int32)).toInt64), .second, oJ (((p0 &&& (2147483647 : Int32)).toInt64) * (((p0 &&& (2147483647 : Int32)).toInt64) - (1 : Int64))), .second, .unset, .unset, .unset, .unset, .unset, .unset] []))
      refine own_via (fun t kz => XS.lload X0.here hx rfl (hb hby at_44) rfl kz) ?_
      show own_Go p e below _ (s₁.setTop (mkF m 46 #[oI p0, oI p1, oJ p2, .second, oJ p3, .second, oJ p4, .second, oI (p0 &&& (2147483647 : Int32)), oI (0 : Int32), oJ ((p0 &&& (2147483647 : Int32)).toInt64), .second, oJ (((p0 &&& (2147483647 : Int32)).toInt64) * (((p0 &&& (2147483647 : Int32)).toInt64) - (1 : Int64))), .second, .unset, .unset, .unset, .unset, .unset, .unset] [(.long ((p0 &&& (2147483647 : Int32)).toInt64))]))
      refine own_via (fun t kz => X0.ldc2Long hx hown (mvT hZ (own_w hw 1)) (g := (mkF m 46 #[oI p0, oI p1, oJ p2, .second, oJ p3, .second, oJ p4, .second, oI (p0 &&& (2147483647 : Int32)), oI (0 : Int32), oJ ((p0 &&& (2147483647 : Int32)).toInt64), .second, oJ (((p0 &&& (2147483647 : Int32)).toInt64) * (((p0 &&& (2147483647 : Int32)).toInt64) - (1 : Int64))), .second, .unset, .unset, .unset, .unset, .unset, .unset] [(.long ((p0 &&& (2147483647 : Int32)).toInt64))])) rfl (hb hby at_46) t kz) ?_
      show own_Go p e below _ (s₁.setTop (mkF m 49 #[oI p0, oI p1, oJ p2, .second, oJ p3, .second, oJ p4, .second, oI (p0 &&& (2147483647 : Int32)), oI (0 : Int32), oJ ((p0 &&& (2147483647 : Int32)).toInt64), .second, oJ (((p0 &&& (2147483647 : Int32)).toInt64) * (((p0 &&& (2147483647 : Int32)).toInt64) - (1 : Int64))), .second, .unset, .unset, .unset, .unset, .unset, .unset] [(.long (2 : Int64)), (.long ((p0 &&& (2147483647 : Int32)).toInt64))]))
      refine own_via (fun t kz => XS.ldiv X0.here hx rfl (hb hby at_49) rfl (by decide) kz) ?_
      show own_Go p e below _ (s₁.setTop (mkF m 50 #[oI p0, oI p1, oJ p2, .second, oJ p3, .second, oJ p4, .second, oI (p0 &&& (2147483647 : Int32)), oI (0 : Int32), oJ ((p0 &&& (2147483647 : Int32)).toInt64), .second, oJ (((p0 &&& (2147483647 : Int32)).toInt64) * (((p0 &&& (2147483647 : Int32)).toInt64) - (1 : Int64))), .second, .unset, .unset, .unset, .unset, .unset, .unset] [(.long (((p0 &&& (2147483647 : Int32)).toInt64) / (2 : Int64)))]))
      refine own_via (fun t kz => XS.lload X0.here hx rfl (hb hby at_50) rfl kz) ?_
      show own_Go p e below _ (s₁.setTop (mkF m 52 #[oI p0, oI p1, oJ p2, .second, oJ p3, .second, oJ p4, .second, oI (p0 &&& (2147483647 : Int32)), oI (0 : Int32), oJ ((p0 &&& (2147483647 : Int32)).toInt64), .second, oJ (((p0 &&& (2147483647 : Int32)).toInt64) * (((p0 &&& (2147483647 : Int32)).toInt64) - (1 : Int64))), .second, .unset, .unset, .unset, .unset, .unset, .unset] [(.long ((p0 &&& (2147483647 : Int32)).toInt64)), (.long (((p0 &&& (2147483647 : Int32)).toInt64) / (2 : Int64)))]))
      refine own_via (fun t kz => XS.lconst X0.here hx rfl (hb hby at_52) kz) ?_
      show own_Go p e below _ (s₁.setTop (mkF m 53 #[oI p0, oI p1, oJ p2, .second, oJ p3, .second, oJ p4, .second, oI (p0 &&& (2147483647 : Int32)), oI (0 : Int32), oJ ((p0 &&& (2147483647 : Int32)).toInt64), .second, oJ (((p0 &&& (2147483647 : Int32)).toInt64) * (((p0 &&& (2147483647 : Int32)).toInt64) - (1 : Int64))), .second, .unset, .unset, .unset, .unset, .unset, .unset] [(.long (1 : Int64)), (.long ((p0 &&& (2147483647 : Int32)).toInt64)), (.long (((p0 &&& (2147483647 : Int32)).toInt64) / (2 : Int64)))]))
      refine own_via (fun t kz => XS.lsub X0.here hx rfl (hb hby at_53) rfl kz) ?_
      show own_Go p e below _ (s₁.setTop (mkF m 54 #[oI p0, oI p1, oJ p2, .second, oJ p3, .second, oJ p4, .second, oI (p0 &&& (2147483647 : Int32)), oI (0 : Int32), oJ ((p0 &&& (2147483647 : Int32)).toInt64), .second, oJ (((p0 &&& (2147483647 : Int32)).toInt64) * (((p0 &&& (2147483647 : Int32)).toInt64) - (1 : Int64))), .second, .unset, .unset, .unset, .unset, .unset, .unset] [(.long (((p0 &&& (2147483647 : Int32)).toInt64) - (1 : Int64))), (.long (((p0 &&& (2147483647 : Int32)).toInt64) / (2 : Int64)))]))
      refine own_via (fun t kz => XS.lmul X0.here hx rfl (hb hby at_54) rfl kz) ?_
      show own_Go p e below _ (s₁.setTop (mkF m 55 #[oI p0, oI p1, oJ p2, .second, oJ p3, .second, oJ p4, .second, oI (p0 &&& (2147483647 : Int32)), oI (0 : Int32), oJ ((p0 &&& (2147483647 : Int32)).toInt64), .second, oJ (((p0 &&& (2147483647 : Int32)).toInt64) * (((p0 &&& (2147483647 : Int32)).toInt64) - (1 : Int64))), .second, .unset, .unset, .unset, .unset, .unset, .unset] [(.long ((((p0 &&& (2147483647 : Int32)).toInt64) / (2 : Int64)) * (((p0 &&& (2147483647 : Int32)).toInt64) - (1 : Int64))))]))
      refine own_via (fun t kz => XS.goto X0.here hx rfl (pc0 := 55) (pc' := 69) rfl (hb hby at_55) (by decide) (by decide) kz) ?_
      show own_Go p e below _ (s₁.setTop (mkF m 69 #[oI p0, oI p1, oJ p2, .second, oJ p3, .second, oJ p4, .second, oI (p0 &&& (2147483647 : Int32)), oI (0 : Int32), oJ ((p0 &&& (2147483647 : Int32)).toInt64), .second, oJ (((p0 &&& (2147483647 : Int32)).toInt64) * (((p0 &&& (2147483647 : Int32)).toInt64) - (1 : Int64))), .second, .unset, .unset, .unset, .unset, .unset, .unset] [(.long ((((p0 &&& (2147483647 : Int32)).toInt64) / (2 : Int64)) * (((p0 &&& (2147483647 : Int32)).toInt64) - (1 : Int64))))]))
      refine own_via (fun t kz => XS.lstore X0.here hx rfl (hb hby at_69) rfl (l' := #[oI p0, oI p1, oJ p2, .second, oJ p3, .second, oJ p4, .second, oI (p0 &&& (2147483647 : Int32)), oI (0 : Int32), oJ ((p0 &&& (2147483647 : Int32)).toInt64), .second, oJ (((p0 &&& (2147483647 : Int32)).toInt64) * (((p0 &&& (2147483647 : Int32)).toInt64) - (1 : Int64))), .second, oJ ((((p0 &&& (2147483647 : Int32)).toInt64) / (2 : Int64)) * (((p0 &&& (2147483647 : Int32)).toInt64) - (1 : Int64))), .second, .unset, .unset, .unset, .unset]) rfl kz) ?_
      show own_Go p e below _ (s₁.setTop (mkF m 71 #[oI p0, oI p1, oJ p2, .second, oJ p3, .second, oJ p4, .second, oI (p0 &&& (2147483647 : Int32)), oI (0 : Int32), oJ ((p0 &&& (2147483647 : Int32)).toInt64), .second, oJ (((p0 &&& (2147483647 : Int32)).toInt64) * (((p0 &&& (2147483647 : Int32)).toInt64) - (1 : Int64))), .second, oJ ((((p0 &&& (2147483647 : Int32)).toInt64) / (2 : Int64)) * (((p0 &&& (2147483647 : Int32)).toInt64) - (1 : Int64))), .second, .unset, .unset, .unset, .unset] []))
      refine own_via (fun t kz => XS.iconst X0.here hx rfl (hb hby at_71) kz) ?_
      show own_Go p e below _ (s₁.setTop (mkF m 72 #[oI p0, oI p1, oJ p2, .second, oJ p3, .second, oJ p4, .second, oI (p0 &&& (2147483647 : Int32)), oI (0 : Int32), oJ ((p0 &&& (2147483647 : Int32)).toInt64), .second, oJ (((p0 &&& (2147483647 : Int32)).toInt64) * (((p0 &&& (2147483647 : Int32)).toInt64) - (1 : Int64))), .second, oJ ((((p0 &&& (2147483647 : Int32)).toInt64) / (2 : Int64)) * (((p0 &&& (2147483647 : Int32)).toInt64) - (1 : Int64))), .second, .unset, .unset, .unset, .unset] [(.int (3 : Int32))]))
      obtain ⟨T3, h3, k3, X3, e3, E3, A3, st3⟩ := newP X0 hx hZ (aty := .long) (own_w hw 2) e0 (g := (mkF m 72 #[oI p0, oI p1, oJ p2, .second, oJ p3, .second, oJ p4, .second, oI (p0 &&& (2147483647 : Int32)), oI (0 : Int32), oJ ((p0 &&& (2147483647 : Int32)).toInt64), .second, oJ (((p0 &&& (2147483647 : Int32)).toInt64) * (((p0 &&& (2147483647 : Int32)).toInt64) - (1 : Int64))), .second, oJ ((((p0 &&& (2147483647 : Int32)).toInt64) / (2 : Int64)) * (((p0 &&& (2147483647 : Int32)).toInt64) - (1 : Int64))), .second, .unset, .unset, .unset, .unset] [(.int (3 : Int32))])) rfl (hb hby at_72) rfl (by decide) (cap := 3) (by decide) (by decide) (by decide) (by decide)
      obtain ⟨a3, g3⟩ : ∃ z, z = h0.size := ⟨_, rfl⟩
      rw [← g3] at A3 st3
      refine own_via st3 ?_
      have fr4 : n0 ≤ a3 := Nat.le_trans Z0 (Nat.le_of_eq g3.symm)
      have Zs5 : n0 ≤ h3.size := Nat.le_trans Z0 E3.1
      have V6 : Arv Z h3 a3 k3 .long (3 : Int32) [(.long (0 : Int64)), (.long (0 : Int64)), (.long (0 : Int64))] (.long (0 : Int64)) := (Arv.new A3 (by decide)).pad (pad_rep [] (.long (0 : Int64)) 3)
      show own_Go p e below _ (T3.setTop (mkF m 74 #[oI p0, oI p1, oJ p2, .second, oJ p3, .second, oJ p4, .second, oI (p0 &&& (2147483647 : Int32)), oI (0 : Int32), oJ ((p0 &&& (2147483647 : Int32)).toInt64), .second, oJ (((p0 &&& (2147483647 : Int32)).toInt64) * (((p0 &&& (2147483647 : Int32)).toInt64) - (1 : Int64))), .second, oJ ((((p0 &&& (2147483647 : Int32)).toInt64) / (2 : Int64)) * (((p0 &&& (2147483647 : Int32)).toInt64) - (1 : Int64))), .second, .unset, .unset, .unset, .unset] [(.ref a3)]))
      refine own_via (fun t kz => XS.astore X3.here hx rfl (hb hby at_74) rfl rfl (l' := #[oI p0, oI p1, oJ p2, .second, oJ p3, .second, oJ p4, .second, oI (p0 &&& (2147483647 : Int32)), oI (0 : Int32), oJ ((p0 &&& (2147483647 : Int32)).toInt64), .second, oJ (((p0 &&& (2147483647 : Int32)).toInt64) * (((p0 &&& (2147483647 : Int32)).toInt64) - (1 : Int64))), .second, oJ ((((p0 &&& (2147483647 : Int32)).toInt64) / (2 : Int64)) * (((p0 &&& (2147483647 : Int32)).toInt64) - (1 : Int64))), .second, oR a3, .unset, .unset, .unset]) rfl kz) ?_
      show own_Go p e below _ (T3.setTop (mkF m 76 #[oI p0, oI p1, oJ p2, .second, oJ p3, .second, oJ p4, .second, oI (p0 &&& (2147483647 : Int32)), oI (0 : Int32), oJ ((p0 &&& (2147483647 : Int32)).toInt64), .second, oJ (((p0 &&& (2147483647 : Int32)).toInt64) * (((p0 &&& (2147483647 : Int32)).toInt64) - (1 : Int64))), .second, oJ ((((p0 &&& (2147483647 : Int32)).toInt64) / (2 : Int64)) * (((p0 &&& (2147483647 : Int32)).toInt64) - (1 : Int64))), .second, oR a3, .unset, .unset, .unset] []))
      refine own_via (fun t kz => XS.aload X3.here hx rfl (hb hby at_76) rfl rfl kz) ?_
      show own_Go p e below _ (T3.setTop (mkF m 78 #[oI p0, oI p1, oJ p2, .second, oJ p3, .second, oJ p4, .second, oI (p0 &&& (2147483647 : Int32)), oI (0 : Int32), oJ ((p0 &&& (2147483647 : Int32)).toInt64), .second, oJ (((p0 &&& (2147483647 : Int32)).toInt64) * (((p0 &&& (2147483647 : Int32)).toInt64) - (1 : Int64))), .second, oJ ((((p0 &&& (2147483647 : Int32)).toInt64) / (2 : Int64)) * (((p0 &&& (2147483647 : Int32)).toInt64) - (1 : Int64))), .second, oR a3, .unset, .unset, .unset] [(.ref a3)]))
      refine own_via (fun t kz => XS.iconst X3.here hx rfl (hb hby at_78) kz) ?_
      show own_Go p e below _ (T3.setTop (mkF m 79 #[oI p0, oI p1, oJ p2, .second, oJ p3, .second, oJ p4, .second, oI (p0 &&& (2147483647 : Int32)), oI (0 : Int32), oJ ((p0 &&& (2147483647 : Int32)).toInt64), .second, oJ (((p0 &&& (2147483647 : Int32)).toInt64) * (((p0 &&& (2147483647 : Int32)).toInt64) - (1 : Int64))), .second, oJ ((((p0 &&& (2147483647 : Int32)).toInt64) / (2 : Int64)) * (((p0 &&& (2147483647 : Int32)).toInt64) - (1 : Int64))), .second, oR a3, .unset, .unset, .unset] [(.int (0 : Int32)), (.ref a3)]))
      refine own_via (fun t kz => XS.lload X3.here hx rfl (hb hby at_79) rfl kz) ?_
      show own_Go p e below _ (T3.setTop (mkF m 81 #[oI p0, oI p1, oJ p2, .second, oJ p3, .second, oJ p4, .second, oI (p0 &&& (2147483647 : Int32)), oI (0 : Int32), oJ ((p0 &&& (2147483647 : Int32)).toInt64), .second, oJ (((p0 &&& (2147483647 : Int32)).toInt64) * (((p0 &&& (2147483647 : Int32)).toInt64) - (1 : Int64))), .second, oJ ((((p0 &&& (2147483647 : Int32)).toInt64) / (2 : Int64)) * (((p0 &&& (2147483647 : Int32)).toInt64) - (1 : Int64))), .second, oR a3, .unset, .unset, .unset] [(.long (((p0 &&& (2147483647 : Int32)).toInt64) * (((p0 &&& (2147483647 : Int32)).toInt64) - (1 : Int64)))), (.int (0 : Int32)), (.ref a3)]))
      refine own_via (fun t kz => XS.lloadN X3.here hx rfl (hb hby at_81) rfl kz) ?_
      show own_Go p e below _ (T3.setTop (mkF m 82 #[oI p0, oI p1, oJ p2, .second, oJ p3, .second, oJ p4, .second, oI (p0 &&& (2147483647 : Int32)), oI (0 : Int32), oJ ((p0 &&& (2147483647 : Int32)).toInt64), .second, oJ (((p0 &&& (2147483647 : Int32)).toInt64) * (((p0 &&& (2147483647 : Int32)).toInt64) - (1 : Int64))), .second, oJ ((((p0 &&& (2147483647 : Int32)).toInt64) / (2 : Int64)) * (((p0 &&& (2147483647 : Int32)).toInt64) - (1 : Int64))), .second, oR a3, .unset, .unset, .unset] [(.long p2), (.long (((p0 &&& (2147483647 : Int32)).toInt64) * (((p0 &&& (2147483647 : Int32)).toInt64) - (1 : Int64)))), (.int (0 : Int32)), (.ref a3)]))
      refine own_via (fun t kz => XS.lsub X3.here hx rfl (hb hby at_82) rfl kz) ?_
      show own_Go p e below _ (T3.setTop (mkF m 83 #[oI p0, oI p1, oJ p2, .second, oJ p3, .second, oJ p4, .second, oI (p0 &&& (2147483647 : Int32)), oI (0 : Int32), oJ ((p0 &&& (2147483647 : Int32)).toInt64), .second, oJ (((p0 &&& (2147483647 : Int32)).toInt64) * (((p0 &&& (2147483647 : Int32)).toInt64) - (1 : Int64))), .second, oJ ((((p0 &&& (2147483647 : Int32)).toInt64) / (2 : Int64)) * (((p0 &&& (2147483647 : Int32)).toInt64) - (1 : Int64))), .second, oR a3, .unset, .unset, .unset] [(.long ((((p0 &&& (2147483647 : Int32)).toInt64) * (((p0 &&& (2147483647 : Int32)).toInt64) - (1 : Int64))) - p2)), (.int (0 : Int32)), (.ref a3)]))
      obtain ⟨cl7, Ar7, kc7, Sz7, Nn7, Hs7, Gs7⟩ := id V6
      obtain ⟨T7, h7, X7, e7, W7, st7⟩ := stJ X3 hx hZ e3 Ar7 (j := (0 : Int32)) (inb_of Sz7 ⟨by decide, by decide⟩) (g := (mkF m 83 #[oI p0, oI p1, oJ p2, .second, oJ p3, .second, oJ p4, .second, oI (p0 &&& (2147483647 : Int32)), oI (0 : Int32), oJ ((p0 &&& (2147483647 : Int32)).toInt64), .second, oJ (((p0 &&& (2147483647 : Int32)).toInt64) * (((p0 &&& (2147483647 : Int32)).toInt64) - (1 : Int64))), .second, oJ ((((p0 &&& (2147483647 : Int32)).toInt64) / (2 : Int64)) * (((p0 &&& (2147483647 : Int32)).toInt64) - (1 : Int64))), .second, oR a3, .unset, .unset, .unset] [(.long ((((p0 &&& (2147483647 : Int32)).toInt64) * (((p0 &&& (2147483647 : Int32)).toInt64) - (1 : Int64))) - p2)), (.int (0 : Int32)), (.ref a3)])) rfl rfl (hb hby at_83)
      refine own_via st7 ?_
      have Zs8 : n0 ≤ h7.size := Nat.le_trans Zs5 (Keep.of_wr W7).1
      have N9 := Fr.snoc X7 N0 fr4
      have V10 : Arv Z h7 a3 k3 .long (3 : Int32) [(.long ((((p0 &&& (2147483647 : Int32)).toInt64) * (((p0 &&& (2147483647 : Int32)).toInt64) - (1 : Int64))) - p2)), (.long (0 : Int64)), (.long (0 : Int64))] (.long (0 : Int64)) := Arv.set Ar7 kc7 Sz7 Nn7 Hs7 Gs7 rfl W7 0 (by first | decide | (show 0 < 3; decide)) (by first | decide | (show 0 < 3; decide))
      show own_Go p e below _ (T7.setTop (mkF m 84 #[oI p0, oI p1, oJ p2, .second, oJ p3, .second, oJ p4, .second, oI (p0 &&& (2147483647 : Int32)), oI (0 : Int32), oJ ((p0 &&& (2147483647 : Int32)).toInt64), .second, oJ (((p0 &&& (2147483647 : Int32)).toInt64) * (((p0 &&& (2147483647 : Int32)).toInt64) - (1 : Int64))), .second, oJ ((((p0 &&& (2147483647 : Int32)).toInt64) / (2 : Int64)) * (((p0 &&& (2147483647 : Int32)).toInt64) - (1 : Int64))), .second, oR a3, .unset, .unset, .unset] []))
      refine own_via (fun t kz => XS.aload X7.here hx rfl (hb hby at_84) rfl rfl kz) ?_
      show own_Go p e below _ (T7.setTop (mkF m 86 #[oI p0, oI p1, oJ p2, .second, oJ p3, .second, oJ p4, .second, oI (p0 &&& (2147483647 : Int32)), oI (0 : Int32), oJ ((p0 &&& (2147483647 : Int32)).toInt64), .second, oJ (((p0 &&& (2147483647 : Int32)).toInt64) * (((p0 &&& (2147483647 : Int32)).toInt64) - (1 : Int64))), .second, oJ ((((p0 &&& (2147483647 : Int32)).toInt64) / (2 : Int64)) * (((p0 &&& (2147483647 : Int32)).toInt64) - (1 : Int64))), .second, oR a3, .unset, .unset, .unset] [(.ref a3)]))
      refine own_via (fun t kz => XS.iconst X7.here hx rfl (hb hby at_86) kz) ?_
      show own_Go p e below _ (T7.setTop (mkF m 87 #[oI p0, oI p1, oJ p2, .second, oJ p3, .second, oJ p4, .second, oI (p0 &&& (2147483647 : Int32)), oI (0 : Int32), oJ ((p0 &&& (2147483647 : Int32)).toInt64), .second, oJ (((p0 &&& (2147483647 : Int32)).toInt64) * (((p0 &&& (2147483647 : Int32)).toInt64) - (1 : Int64))), .second, oJ ((((p0 &&& (2147483647 : Int32)).toInt64) / (2 : Int64)) * (((p0 &&& (2147483647 : Int32)).toInt64) - (1 : Int64))), .second, oR a3, .unset, .unset, .unset] [(.int (1 : Int32)), (.ref a3)]))
      refine own_via (fun t kz => XS.lload X7.here hx rfl (hb hby at_87) rfl kz) ?_
      show own_Go p e below _ (T7.setTop (mkF m 89 #[oI p0, oI p1, oJ p2, .second, oJ p3, .second, oJ p4, .second, oI (p0 &&& (2147483647 : Int32)), oI (0 : Int32), oJ ((p0 &&& (2147483647 : Int32)).toInt64), .second, oJ (((p0 &&& (2147483647 : Int32)).toInt64) * (((p0 &&& (2147483647 : Int32)).toInt64) - (1 : Int64))), .second, oJ ((((p0 &&& (2147483647 : Int32)).toInt64) / (2 : Int64)) * (((p0 &&& (2147483647 : Int32)).toInt64) - (1 : Int64))), .second, oR a3, .unset, .unset, .unset] [(.long p3), (.int (1 : Int32)), (.ref a3)]))
      obtain ⟨cl11, Ar11, kc11, Sz11, Nn11, Hs11, Gs11⟩ := id V10
      obtain ⟨T11, h11, X11, e11, W11, st11⟩ := stJ X7 hx hZ e7 Ar11 (j := (1 : Int32)) (inb_of Sz11 ⟨by decide, by decide⟩) (g := (mkF m 89 #[oI p0, oI p1, oJ p2, .second, oJ p3, .second, oJ p4, .second, oI (p0 &&& (2147483647 : Int32)), oI (0 : Int32), oJ ((p0 &&& (2147483647 : Int32)).toInt64), .second, oJ (((p0 &&& (2147483647 : Int32)).toInt64) * (((p0 &&& (2147483647 : Int32)).toInt64) - (1 : Int64))), .second, oJ ((((p0 &&& (2147483647 : Int32)).toInt64) / (2 : Int64)) * (((p0 &&& (2147483647 : Int32)).toInt64) - (1 : Int64))), .second, oR a3, .unset, .unset, .unset] [(.long p3), (.int (1 : Int32)), (.ref a3)])) rfl rfl (hb hby at_89)
      refine own_via st11 ?_
      have Zs12 : n0 ≤ h11.size := Nat.le_trans Zs8 (Keep.of_wr W11).1
      have N13 := Fr.snoc X11 N9 fr4
      have V14 : Arv Z h11 a3 k3 .long (3 : Int32) [(.long ((((p0 &&& (2147483647 : Int32)).toInt64) * (((p0 &&& (2147483647 : Int32)).toInt64) - (1 : Int64))) - p2)), (.long p3), (.long (0 : Int64))] (.long (0 : Int64)) := Arv.set Ar11 kc11 Sz11 Nn11 Hs11 Gs11 rfl W11 1 (by first | decide | (show 1 < 3; decide)) (by first | decide | (show 1 < 3; decide))
      show own_Go p e below _ (T11.setTop (mkF m 90 #[oI p0, oI p1, oJ p2, .second, oJ p3, .second, oJ p4, .second, oI (p0 &&& (2147483647 : Int32)), oI (0 : Int32), oJ ((p0 &&& (2147483647 : Int32)).toInt64), .second, oJ (((p0 &&& (2147483647 : Int32)).toInt64) * (((p0 &&& (2147483647 : Int32)).toInt64) - (1 : Int64))), .second, oJ ((((p0 &&& (2147483647 : Int32)).toInt64) / (2 : Int64)) * (((p0 &&& (2147483647 : Int32)).toInt64) - (1 : Int64))), .second, oR a3, .unset, .unset, .unset] []))
      refine own_via (fun t kz => XS.aload X11.here hx rfl (hb hby at_90) rfl rfl kz) ?_
      show own_Go p e below _ (T11.setTop (mkF m 92 #[oI p0, oI p1, oJ p2, .second, oJ p3, .second, oJ p4, .second, oI (p0 &&& (2147483647 : Int32)), oI (0 : Int32), oJ ((p0 &&& (2147483647 : Int32)).toInt64), .second, oJ (((p0 &&& (2147483647 : Int32)).toInt64) * (((p0 &&& (2147483647 : Int32)).toInt64) - (1 : Int64))), .second, oJ ((((p0 &&& (2147483647 : Int32)).toInt64) / (2 : Int64)) * (((p0 &&& (2147483647 : Int32)).toInt64) - (1 : Int64))), .second, oR a3, .unset, .unset, .unset] [(.ref a3)]))
      refine own_via (fun t kz => XS.iconst X11.here hx rfl (hb hby at_92) kz) ?_
      show own_Go p e below _ (T11.setTop (mkF m 93 #[oI p0, oI p1, oJ p2, .second, oJ p3, .second, oJ p4, .second, oI (p0 &&& (2147483647 : Int32)), oI (0 : Int32), oJ ((p0 &&& (2147483647 : Int32)).toInt64), .second, oJ (((p0 &&& (2147483647 : Int32)).toInt64) * (((p0 &&& (2147483647 : Int32)).toInt64) - (1 : Int64))), .second, oJ ((((p0 &&& (2147483647 : Int32)).toInt64) / (2 : Int64)) * (((p0 &&& (2147483647 : Int32)).toInt64) - (1 : Int64))), .second, oR a3, .unset, .unset, .unset] [(.int (2 : Int32)), (.ref a3)]))
      refine own_via (fun t kz => XS.lload X11.here hx rfl (hb hby at_93) rfl kz) ?_
      show own_Go p e below _ (T11.setTop (mkF m 95 #[oI p0, oI p1, oJ p2, .second, oJ p3, .second, oJ p4, .second, oI (p0 &&& (2147483647 : Int32)), oI (0 : Int32), oJ ((p0 &&& (2147483647 : Int32)).toInt64), .second, oJ (((p0 &&& (2147483647 : Int32)).toInt64) * (((p0 &&& (2147483647 : Int32)).toInt64) - (1 : Int64))), .second, oJ ((((p0 &&& (2147483647 : Int32)).toInt64) / (2 : Int64)) * (((p0 &&& (2147483647 : Int32)).toInt64) - (1 : Int64))), .second, oR a3, .unset, .unset, .unset] [(.long ((((p0 &&& (2147483647 : Int32)).toInt64) / (2 : Int64)) * (((p0 &&& (2147483647 : Int32)).toInt64) - (1 : Int64)))), (.int (2 : Int32)), (.ref a3)]))
      refine own_via (fun t kz => XS.lload X11.here hx rfl (hb hby at_95) rfl kz) ?_
      show own_Go p e below _ (T11.setTop (mkF m 97 #[oI p0, oI p1, oJ p2, .second, oJ p3, .second, oJ p4, .second, oI (p0 &&& (2147483647 : Int32)), oI (0 : Int32), oJ ((p0 &&& (2147483647 : Int32)).toInt64), .second, oJ (((p0 &&& (2147483647 : Int32)).toInt64) * (((p0 &&& (2147483647 : Int32)).toInt64) - (1 : Int64))), .second, oJ ((((p0 &&& (2147483647 : Int32)).toInt64) / (2 : Int64)) * (((p0 &&& (2147483647 : Int32)).toInt64) - (1 : Int64))), .second, oR a3, .unset, .unset, .unset] [(.long p4), (.long ((((p0 &&& (2147483647 : Int32)).toInt64) / (2 : Int64)) * (((p0 &&& (2147483647 : Int32)).toInt64) - (1 : Int64)))), (.int (2 : Int32)), (.ref a3)]))
      refine own_via (fun t kz => XS.lsub X11.here hx rfl (hb hby at_97) rfl kz) ?_
      show own_Go p e below _ (T11.setTop (mkF m 98 #[oI p0, oI p1, oJ p2, .second, oJ p3, .second, oJ p4, .second, oI (p0 &&& (2147483647 : Int32)), oI (0 : Int32), oJ ((p0 &&& (2147483647 : Int32)).toInt64), .second, oJ (((p0 &&& (2147483647 : Int32)).toInt64) * (((p0 &&& (2147483647 : Int32)).toInt64) - (1 : Int64))), .second, oJ ((((p0 &&& (2147483647 : Int32)).toInt64) / (2 : Int64)) * (((p0 &&& (2147483647 : Int32)).toInt64) - (1 : Int64))), .second, oR a3, .unset, .unset, .unset] [(.long (((((p0 &&& (2147483647 : Int32)).toInt64) / (2 : Int64)) * (((p0 &&& (2147483647 : Int32)).toInt64) - (1 : Int64))) - p4)), (.int (2 : Int32)), (.ref a3)]))
      obtain ⟨cl15, Ar15, kc15, Sz15, Nn15, Hs15, Gs15⟩ := id V14
      obtain ⟨T15, h15, X15, e15, W15, st15⟩ := stJ X11 hx hZ e11 Ar15 (j := (2 : Int32)) (inb_of Sz15 ⟨by decide, by decide⟩) (g := (mkF m 98 #[oI p0, oI p1, oJ p2, .second, oJ p3, .second, oJ p4, .second, oI (p0 &&& (2147483647 : Int32)), oI (0 : Int32), oJ ((p0 &&& (2147483647 : Int32)).toInt64), .second, oJ (((p0 &&& (2147483647 : Int32)).toInt64) * (((p0 &&& (2147483647 : Int32)).toInt64) - (1 : Int64))), .second, oJ ((((p0 &&& (2147483647 : Int32)).toInt64) / (2 : Int64)) * (((p0 &&& (2147483647 : Int32)).toInt64) - (1 : Int64))), .second, oR a3, .unset, .unset, .unset] [(.long (((((p0 &&& (2147483647 : Int32)).toInt64) / (2 : Int64)) * (((p0 &&& (2147483647 : Int32)).toInt64) - (1 : Int64))) - p4)), (.int (2 : Int32)), (.ref a3)])) rfl rfl (hb hby at_98)
      refine own_via st15 ?_
      have Zs16 : n0 ≤ h15.size := Nat.le_trans Zs12 (Keep.of_wr W15).1
      have N17 := Fr.snoc X15 N13 fr4
      have V18 : Arv Z h15 a3 k3 .long (3 : Int32) [(.long ((((p0 &&& (2147483647 : Int32)).toInt64) * (((p0 &&& (2147483647 : Int32)).toInt64) - (1 : Int64))) - p2)), (.long p3), (.long (((((p0 &&& (2147483647 : Int32)).toInt64) / (2 : Int64)) * (((p0 &&& (2147483647 : Int32)).toInt64) - (1 : Int64))) - p4))] (.long (0 : Int64)) := Arv.set Ar15 kc15 Sz15 Nn15 Hs15 Gs15 rfl W15 2 (by first | decide | (show 2 < 3; decide)) (by first | decide | (show 2 < 3; decide))
      show own_Go p e below _ (T15.setTop (mkF m 99 #[oI p0, oI p1, oJ p2, .second, oJ p3, .second, oJ p4, .second, oI (p0 &&& (2147483647 : Int32)), oI (0 : Int32), oJ ((p0 &&& (2147483647 : Int32)).toInt64), .second, oJ (((p0 &&& (2147483647 : Int32)).toInt64) * (((p0 &&& (2147483647 : Int32)).toInt64) - (1 : Int64))), .second, oJ ((((p0 &&& (2147483647 : Int32)).toInt64) / (2 : Int64)) * (((p0 &&& (2147483647 : Int32)).toInt64) - (1 : Int64))), .second, oR a3, .unset, .unset, .unset] []))
      refine own_via (fun t kz => XS.lloadN X15.here hx rfl (hb hby at_99) rfl kz) ?_
      show own_Go p e below _ (T15.setTop (mkF m 100 #[oI p0, oI p1, oJ p2, .second, oJ p3, .second, oJ p4, .second, oI (p0 &&& (2147483647 : Int32)), oI (0 : Int32), oJ ((p0 &&& (2147483647 : Int32)).toInt64), .second, oJ (((p0 &&& (2147483647 : Int32)).toInt64) * (((p0 &&& (2147483647 : Int32)).toInt64) - (1 : Int64))), .second, oJ ((((p0 &&& (2147483647 : Int32)).toInt64) / (2 : Int64)) * (((p0 &&& (2147483647 : Int32)).toInt64) - (1 : Int64))), .second, oR a3, .unset, .unset, .unset] [(.long p2)]))
      refine own_via (fun t kz => XS.lload X15.here hx rfl (hb hby at_100) rfl kz) ?_
      show own_Go p e below _ (T15.setTop (mkF m 102 #[oI p0, oI p1, oJ p2, .second, oJ p3, .second, oJ p4, .second, oI (p0 &&& (2147483647 : Int32)), oI (0 : Int32), oJ ((p0 &&& (2147483647 : Int32)).toInt64), .second, oJ (((p0 &&& (2147483647 : Int32)).toInt64) * (((p0 &&& (2147483647 : Int32)).toInt64) - (1 : Int64))), .second, oJ ((((p0 &&& (2147483647 : Int32)).toInt64) / (2 : Int64)) * (((p0 &&& (2147483647 : Int32)).toInt64) - (1 : Int64))), .second, oR a3, .unset, .unset, .unset] [(.long p3), (.long p2)]))
      refine own_via (fun t kz => XS.ladd X15.here hx rfl (hb hby at_102) rfl kz) ?_
      show own_Go p e below _ (T15.setTop (mkF m 103 #[oI p0, oI p1, oJ p2, .second, oJ p3, .second, oJ p4, .second, oI (p0 &&& (2147483647 : Int32)), oI (0 : Int32), oJ ((p0 &&& (2147483647 : Int32)).toInt64), .second, oJ (((p0 &&& (2147483647 : Int32)).toInt64) * (((p0 &&& (2147483647 : Int32)).toInt64) - (1 : Int64))), .second, oJ ((((p0 &&& (2147483647 : Int32)).toInt64) / (2 : Int64)) * (((p0 &&& (2147483647 : Int32)).toInt64) - (1 : Int64))), .second, oR a3, .unset, .unset, .unset] [(.long (p2 + p3))]))
      refine own_via (fun t kz => XS.iload X15.here hx rfl (hb hby at_103) rfl kz) ?_
      show own_Go p e below _ (T15.setTop (mkF m 105 #[oI p0, oI p1, oJ p2, .second, oJ p3, .second, oJ p4, .second, oI (p0 &&& (2147483647 : Int32)), oI (0 : Int32), oJ ((p0 &&& (2147483647 : Int32)).toInt64), .second, oJ (((p0 &&& (2147483647 : Int32)).toInt64) * (((p0 &&& (2147483647 : Int32)).toInt64) - (1 : Int64))), .second, oJ ((((p0 &&& (2147483647 : Int32)).toInt64) / (2 : Int64)) * (((p0 &&& (2147483647 : Int32)).toInt64) - (1 : Int64))), .second, oR a3, .unset, .unset, .unset] [(.int (0 : Int32)), (.long (p2 + p3))]))
      refine own_via (fun t kz => XS.ifYes X15.here hx rfl (pc0 := 105) (pc' := 117) rfl (hb hby at_105) rfl ((if0 _ _).trans (teq (by decide : (0 : Int32) = (0 : Int32))).1) (by decide) (by decide) kz) ?_
      show own_Go p e below _ (T15.setTop (mkF m 117 #[oI p0, oI p1, oJ p2, .second, oJ p3, .second, oJ p4, .second, oI (p0 &&& (2147483647 : Int32)), oI (0 : Int32), oJ ((p0 &&& (2147483647 : Int32)).toInt64), .second, oJ (((p0 &&& (2147483647 : Int32)).toInt64) * (((p0 &&& (2147483647 : Int32)).toInt64) - (1 : Int64))), .second, oJ ((((p0 &&& (2147483647 : Int32)).toInt64) / (2 : Int64)) * (((p0 &&& (2147483647 : Int32)).toInt64) - (1 : Int64))), .second, oR a3, .unset, .unset, .unset] [(.long (p2 + p3))]))
      refine own_via (fun t kz => XS.lconst X15.here hx rfl (hb hby at_117) kz) ?_
      show own_Go p e below _ (T15.setTop (mkF m 118 #[oI p0, oI p1, oJ p2, .second, oJ p3, .second, oJ p4, .second, oI (p0 &&& (2147483647 : Int32)), oI (0 : Int32), oJ ((p0 &&& (2147483647 : Int32)).toInt64), .second, oJ (((p0 &&& (2147483647 : Int32)).toInt64) * (((p0 &&& (2147483647 : Int32)).toInt64) - (1 : Int64))), .second, oJ ((((p0 &&& (2147483647 : Int32)).toInt64) / (2 : Int64)) * (((p0 &&& (2147483647 : Int32)).toInt64) - (1 : Int64))), .second, oR a3, .unset, .unset, .unset] [(.long (0 : Int64)), (.long (p2 + p3))]))
      refine own_via (fun t kz => XS.ladd X15.here hx rfl (hb hby at_118) rfl kz) ?_
      show own_Go p e below _ (T15.setTop (mkF m 119 #[oI p0, oI p1, oJ p2, .second, oJ p3, .second, oJ p4, .second, oI (p0 &&& (2147483647 : Int32)), oI (0 : Int32), oJ ((p0 &&& (2147483647 : Int32)).toInt64), .second, oJ (((p0 &&& (2147483647 : Int32)).toInt64) * (((p0 &&& (2147483647 : Int32)).toInt64) - (1 : Int64))), .second, oJ ((((p0 &&& (2147483647 : Int32)).toInt64) / (2 : Int64)) * (((p0 &&& (2147483647 : Int32)).toInt64) - (1 : Int64))), .second, oR a3, .unset, .unset, .unset] [(.long ((p2 + p3) + (0 : Int64)))]))
      refine own_via (fun t kz => XS.lstore X15.here hx rfl (hb hby at_119) rfl (l' := #[oI p0, oI p1, oJ p2, .second, oJ p3, .second, oJ p4, .second, oI (p0 &&& (2147483647 : Int32)), oI (0 : Int32), oJ ((p0 &&& (2147483647 : Int32)).toInt64), .second, oJ (((p0 &&& (2147483647 : Int32)).toInt64) * (((p0 &&& (2147483647 : Int32)).toInt64) - (1 : Int64))), .second, oJ ((((p0 &&& (2147483647 : Int32)).toInt64) / (2 : Int64)) * (((p0 &&& (2147483647 : Int32)).toInt64) - (1 : Int64))), .second, oR a3, oJ ((p2 + p3) + (0 : Int64)), .second, .unset]) rfl kz) ?_
      show own_Go p e below _ (T15.setTop (mkF m 121 #[oI p0, oI p1, oJ p2, .second, oJ p3, .second, oJ p4, .second, oI (p0 &&& (2147483647 : Int32)), oI (0 : Int32), oJ ((p0 &&& (2147483647 : Int32)).toInt64), .second, oJ (((p0 &&& (2147483647 : Int32)).toInt64) * (((p0 &&& (2147483647 : Int32)).toInt64) - (1 : Int64))), .second, oJ ((((p0 &&& (2147483647 : Int32)).toInt64) / (2 : Int64)) * (((p0 &&& (2147483647 : Int32)).toInt64) - (1 : Int64))), .second, oR a3, oJ ((p2 + p3) + (0 : Int64)), .second, .unset] []))
      obtain ⟨T19, h19, X19, e19, E19, A19, D19, -, st19⟩ := newO X15 hx hZ hown (own_w hw 3) (own_w hw 4) (own_w hw 5) e15 (g := (mkF m 121 #[oI p0, oI p1, oJ p2, .second, oJ p3, .second, oJ p4, .second, oI (p0 &&& (2147483647 : Int32)), oI (0 : Int32), oJ ((p0 &&& (2147483647 : Int32)).toInt64), .second, oJ (((p0 &&& (2147483647 : Int32)).toInt64) * (((p0 &&& (2147483647 : Int32)).toInt64) - (1 : Int64))), .second, oJ ((((p0 &&& (2147483647 : Int32)).toInt64) / (2 : Int64)) * (((p0 &&& (2147483647 : Int32)).toInt64) - (1 : Int64))), .second, oR a3, oJ ((p2 + p3) + (0 : Int64)), .second, .unset] [])) rfl (hb hby at_121) (by decide) (by decide)
      obtain ⟨a19, g19⟩ : ∃ z, z = h15.size := ⟨_, rfl⟩
      rw [← g19] at A19 D19 st19
      refine own_via st19 ?_
      have lt20 : a3 < a19 := Nat.lt_of_lt_of_le V18.lt (Nat.le_of_eq g19.symm)
      have fr21 : n0 ≤ a19 := Nat.le_trans Zs16 (Nat.le_of_eq g19.symm)
      have V22 := V18.ext E19
      have Zs23 : n0 ≤ h19.size := Nat.le_trans Zs16 E19.1
      have F24 : Fld Z h19 a19 "com/example/matchloom/matchloom/league/FormatRules" "teams" "I" (.int (0 : Int32)) := D19 (Or.inr (own_w hw 18)) (ty := .int) (by decide)
      have F25 : Fld Z h19 a19 "com/example/matchloom/matchloom/league/FormatRules" "phased" "Z" (.int (0 : Int32)) := D19 (Or.inr (own_w hw 20)) (ty := .boolean) (by decide)
      show own_Go p e below _ (T19.setTop (mkF m 124 #[oI p0, oI p1, oJ p2, .second, oJ p3, .second, oJ p4, .second, oI (p0 &&& (2147483647 : Int32)), oI (0 : Int32), oJ ((p0 &&& (2147483647 : Int32)).toInt64), .second, oJ (((p0 &&& (2147483647 : Int32)).toInt64) * (((p0 &&& (2147483647 : Int32)).toInt64) - (1 : Int64))), .second, oJ ((((p0 &&& (2147483647 : Int32)).toInt64) / (2 : Int64)) * (((p0 &&& (2147483647 : Int32)).toInt64) - (1 : Int64))), .second, oR a3, oJ ((p2 + p3) + (0 : Int64)), .second, .unset] [(.ref a19)]))
      refine own_via (fun t kz => XS.dup X19.here hx rfl (hb hby at_124) rfl rfl kz) ?_
      show own_Go p e below _ (T19.setTop (mkF m 125 #[oI p0, oI p1, oJ p2, .second, oJ p3, .second, oJ p4, .second, oI (p0 &&& (2147483647 : Int32)), oI (0 : Int32), oJ ((p0 &&& (2147483647 : Int32)).toInt64), .second, oJ (((p0 &&& (2147483647 : Int32)).toInt64) * (((p0 &&& (2147483647 : Int32)).toInt64) - (1 : Int64))), .second, oJ ((((p0 &&& (2147483647 : Int32)).toInt64) / (2 : Int64)) * (((p0 &&& (2147483647 : Int32)).toInt64) - (1 : Int64))), .second, oR a3, oJ ((p2 + p3) + (0 : Int64)), .second, .unset] [(.ref a19), (.ref a19)]))
      refine own_via (fun t kz => XS.iload X19.here hx rfl (hb hby at_125) rfl kz) ?_
      show own_Go p e below _ (T19.setTop (mkF m 127 #[oI p0, oI p1, oJ p2, .second, oJ p3, .second, oJ p4, .second, oI (p0 &&& (2147483647 : Int32)), oI (0 : Int32), oJ ((p0 &&& (2147483647 : Int32)).toInt64), .second, oJ (((p0 &&& (2147483647 : Int32)).toInt64) * (((p0 &&& (2147483647 : Int32)).toInt64) - (1 : Int64))), .second, oJ ((((p0 &&& (2147483647 : Int32)).toInt64) / (2 : Int64)) * (((p0 &&& (2147483647 : Int32)).toInt64) - (1 : Int64))), .second, oR a3, oJ ((p2 + p3) + (0 : Int64)), .second, .unset] [(.int (p0 &&& (2147483647 : Int32))), (.ref a19), (.ref a19)]))
      refine own_via (fun t kz => XS.iload X19.here hx rfl (hb hby at_127) rfl kz) ?_
      show own_Go p e below _ (T19.setTop (mkF m 129 #[oI p0, oI p1, oJ p2, .second, oJ p3, .second, oJ p4, .second, oI (p0 &&& (2147483647 : Int32)), oI (0 : Int32), oJ ((p0 &&& (2147483647 : Int32)).toInt64), .second, oJ (((p0 &&& (2147483647 : Int32)).toInt64) * (((p0 &&& (2147483647 : Int32)).toInt64) - (1 : Int64))), .second, oJ ((((p0 &&& (2147483647 : Int32)).toInt64) / (2 : Int64)) * (((p0 &&& (2147483647 : Int32)).toInt64) - (1 : Int64))), .second, oR a3, oJ ((p2 + p3) + (0 : Int64)), .second, .unset] [(.int (0 : Int32)), (.int (p0 &&& (2147483647 : Int32))), (.ref a19), (.ref a19)]))
      obtain ⟨_, _, ⟨T26, L26, k26, n26⟩, -, X26, ⟨Lc26, hQ26, l26, y26, z26⟩, st26⟩ := X19.specialBack hx (y := (⟨"com/example/matchloom/matchloom/league/FormatRules", "<init>", "(IZ)V"⟩ : MethodName)) rfl hown (mvT hZ (own_w hw 6)) (mvT hZ (own_w hw 7)) (mvT hZ (own_w hw 8)) (by decide) (backOf (W := 1) (rm1 l Z a0 hw [] a19 (p0 &&& (2147483647 : Int32)) (0 : Int32) h19 n0 Zs23 fr21 A19 F24 F25 rfl rfl) hZ (own_w hw 8) (own_w hw 5) (by decide) (by decide)) (g := (mkF m 129 #[oI p0, oI p1, oJ p2, .second, oJ p3, .second, oJ p4, .second, oI (p0 &&& (2147483647 : Int32)), oI (0 : Int32), oJ ((p0 &&& (2147483647 : Int32)).toInt64), .second, oJ (((p0 &&& (2147483647 : Int32)).toInt64) * (((p0 &&& (2147483647 : Int32)).toInt64) - (1 : Int64))), .second, oJ ((((p0 &&& (2147483647 : Int32)).toInt64) / (2 : Int64)) * (((p0 &&& (2147483647 : Int32)).toInt64) - (1 : Int64))), .second, oR a3, oJ ((p2 + p3) + (0 : Int64)), .second, .unset] [(.int (0 : Int32)), (.int (p0 &&& (2147483647 : Int32))), (.ref a19), (.ref a19)])) rfl (by rw [hml]; rfl) (Steps.refl _) (a := a19) (argsL := [(.int (p0 &&& (2147483647 : Int32))), (.int (0 : Int32))]) (rest := [(.ref a19)]) (lenOf pd_0_0 rfl) rfl (by show 2 * 0 + _ ≤ _; exact Nat.le_of_eq rfl) (hb hby at_129) (fun _ _ => ⟨rfl, e19, (by decide : 2 + 0 ≤ _), (by decide : 5 + 0 ≤ _)⟩)
      dsimp only [Pt.U, Pt.locs, Pt.cells, Pt.slots] at X26 l26 y26 z26 st26 hQ26
      subst l26 y26 z26
      obtain ⟨rfl, Nq26, Kc26, Fc0_26, Fc1_26⟩ := hQ26
      have N27 := Fr.app N17 Nq26
      refine own_tr st26 ?_
      have V28 := V22.keep Kc26 (ninS (Nat.ne_of_lt lt20) nin0)
      have E29 := A19.keep Kc26
      have Zs30 : n0 ≤ T26.heap.size := Nat.le_trans Zs23 Kc26.1
      show own_Go p e below _ (T26.setTop (mkF m 132 #[oI p0, oI p1, oJ p2, .second, oJ p3, .second, oJ p4, .second, oI (p0 &&& (2147483647 : Int32)), oI (0 : Int32), oJ ((p0 &&& (2147483647 : Int32)).toInt64), .second, oJ (((p0 &&& (2147483647 : Int32)).toInt64) * (((p0 &&& (2147483647 : Int32)).toInt64) - (1 : Int64))), .second, oJ ((((p0 &&& (2147483647 : Int32)).toInt64) / (2 : Int64)) * (((p0 &&& (2147483647 : Int32)).toInt64) - (1 : Int64))), .second, oR a3, oJ ((p2 + p3) + (0 : Int64)), .second, .unset] [(.ref a19)]))
      refine own_via (fun t kz => XS.astore X26.here hx rfl (hb hby at_132) rfl rfl (l' := #[oI p0, oI p1, oJ p2, .second, oJ p3, .second, oJ p4, .second, oI (p0 &&& (2147483647 : Int32)), oI (0 : Int32), oJ ((p0 &&& (2147483647 : Int32)).toInt64), .second, oJ (((p0 &&& (2147483647 : Int32)).toInt64) * (((p0 &&& (2147483647 : Int32)).toInt64) - (1 : Int64))), .second, oJ ((((p0 &&& (2147483647 : Int32)).toInt64) / (2 : Int64)) * (((p0 &&& (2147483647 : Int32)).toInt64) - (1 : Int64))), .second, oR a3, oJ ((p2 + p3) + (0 : Int64)), .second, oR a19]) rfl kz) ?_
      show own_Go p e below _ (T26.setTop (mkF m 134 #[oI p0, oI p1, oJ p2, .second, oJ p3, .second, oJ p4, .second, oI (p0 &&& (2147483647 : Int32)), oI (0 : Int32), oJ ((p0 &&& (2147483647 : Int32)).toInt64), .second, oJ (((p0 &&& (2147483647 : Int32)).toInt64) * (((p0 &&& (2147483647 : Int32)).toInt64) - (1 : Int64))), .second, oJ ((((p0 &&& (2147483647 : Int32)).toInt64) / (2 : Int64)) * (((p0 &&& (2147483647 : Int32)).toInt64) - (1 : Int64))), .second, oR a3, oJ ((p2 + p3) + (0 : Int64)), .second, oR a19] []))
      refine own_via (fun t kz => XS.aload X26.here hx rfl (hb hby at_134) rfl rfl kz) ?_
      show own_Go p e below _ (T26.setTop (mkF m 136 #[oI p0, oI p1, oJ p2, .second, oJ p3, .second, oJ p4, .second, oI (p0 &&& (2147483647 : Int32)), oI (0 : Int32), oJ ((p0 &&& (2147483647 : Int32)).toInt64), .second, oJ (((p0 &&& (2147483647 : Int32)).toInt64) * (((p0 &&& (2147483647 : Int32)).toInt64) - (1 : Int64))), .second, oJ ((((p0 &&& (2147483647 : Int32)).toInt64) / (2 : Int64)) * (((p0 &&& (2147483647 : Int32)).toInt64) - (1 : Int64))), .second, oR a3, oJ ((p2 + p3) + (0 : Int64)), .second, oR a19] [(.ref a19)]))
      refine own_via (fun t kz => XS.aload X26.here hx rfl (hb hby at_136) rfl rfl kz) ?_
      show own_Go p e below _ (T26.setTop (mkF m 138 #[oI p0, oI p1, oJ p2, .second, oJ p3, .second, oJ p4, .second, oI (p0 &&& (2147483647 : Int32)), oI (0 : Int32), oJ ((p0 &&& (2147483647 : Int32)).toInt64), .second, oJ (((p0 &&& (2147483647 : Int32)).toInt64) * (((p0 &&& (2147483647 : Int32)).toInt64) - (1 : Int64))), .second, oJ ((((p0 &&& (2147483647 : Int32)).toInt64) / (2 : Int64)) * (((p0 &&& (2147483647 : Int32)).toInt64) - (1 : Int64))), .second, oR a3, oJ ((p2 + p3) + (0 : Int64)), .second, oR a19] [(.ref a3), (.ref a19)]))
      obtain ⟨cq31, kq31, qa31, qb31, qc31⟩ := isOf hZ rfl E29
      obtain ⟨_, _, ⟨T31, L31, k31, n31⟩, -, X31, ⟨Lc31, hQ31, l31, y31, z31⟩, st31⟩ := X26.virtualBack hx (y := (⟨"com/example/matchloom/matchloom/league/FormatRules", "total", "([J)J"⟩ : MethodName)) (z := (⟨"com/example/matchloom/matchloom/league/FormatRules", "total", "([J)J"⟩ : MethodName)) hown (mvT hZ (own_w hw 21)) (mvT hZ (own_w hw 22)) (notFace_of_selects (args := #[]) (mvT hZ (own_w hw 24))) (mvT hZ (own_w hw 24)) (mvT hZ (own_w hw 23)) (by decide) (backOf (W := 0) (rm4 l Z a0 hw [] a19 a3 (p0 &&& (2147483647 : Int32)) (0 : Int32) k3 ((((p0 &&& (2147483647 : Int32)).toInt64) * (((p0 &&& (2147483647 : Int32)).toInt64) - (1 : Int64))) - p2) p3 (((((p0 &&& (2147483647 : Int32)).toInt64) / (2 : Int64)) * (((p0 &&& (2147483647 : Int32)).toInt64) - (1 : Int64))) - p4) (((((p0 &&& (2147483647 : Int32)).toInt64) * (((p0 &&& (2147483647 : Int32)) - (1 : Int32)).toInt64)) - ((((p0 &&& (2147483647 : Int32)).toInt64) * (((p0 &&& (2147483647 : Int32)).toInt64) - (1 : Int64))) - p2)) + p3) T26.heap n0 Zs30 Fc0_26 Fc1_26 V28 (by unfold f4; rw [if_pos (by decide : (0 : Int32) = (0 : Int32))])) hZ (own_w hw 25) (own_w hw 5) (by decide) (by decide)) qa31 qc31 (g := (mkF m 138 #[oI p0, oI p1, oJ p2, .second, oJ p3, .second, oJ p4, .second, oI (p0 &&& (2147483647 : Int32)), oI (0 : Int32), oJ ((p0 &&& (2147483647 : Int32)).toInt64), .second, oJ (((p0 &&& (2147483647 : Int32)).toInt64) * (((p0 &&& (2147483647 : Int32)).toInt64) - (1 : Int64))), .second, oJ ((((p0 &&& (2147483647 : Int32)).toInt64) / (2 : Int64)) * (((p0 &&& (2147483647 : Int32)).toInt64) - (1 : Int64))), .second, oR a3, oJ ((p2 + p3) + (0 : Int64)), .second, oR a19] [(.ref a3), (.ref a19)])) rfl (by rw [hml]; rfl) (Steps.refl _) (argsL := [(.ref a3)]) (rest := []) (lenOf pd_0_1 rfl) rfl (by show 2 * 0 + _ ≤ _; exact Nat.le_of_eq rfl) (hb hby at_138) (fun _ _ => ⟨rfl, rfl, (by decide : 2 + 0 ≤ _), (by decide : 5 + 0 ≤ _)⟩)
      dsimp only [Pt.U, Pt.locs, Pt.cells, Pt.slots] at X31 l31 y31 z31 st31 hQ31
      subst l31 y31 z31
      obtain ⟨rfl, Nq31, e31⟩ := hQ31
      have N32 := Fr.app N27 Nq31
      refine own_tr st31 ?_
      show own_Go p e below _ (T31.setTop (mkF m 141 #[oI p0, oI p1, oJ p2, .second, oJ p3, .second, oJ p4, .second, oI (p0 &&& (2147483647 : Int32)), oI (0 : Int32), oJ ((p0 &&& (2147483647 : Int32)).toInt64), .second, oJ (((p0 &&& (2147483647 : Int32)).toInt64) * (((p0 &&& (2147483647 : Int32)).toInt64) - (1 : Int64))), .second, oJ ((((p0 &&& (2147483647 : Int32)).toInt64) / (2 : Int64)) * (((p0 &&& (2147483647 : Int32)).toInt64) - (1 : Int64))), .second, oR a3, oJ ((p2 + p3) + (0 : Int64)), .second, oR a19] [(.long (((((p0 &&& (2147483647 : Int32)).toInt64) * (((p0 &&& (2147483647 : Int32)) - (1 : Int32)).toInt64)) - ((((p0 &&& (2147483647 : Int32)).toInt64) * (((p0 &&& (2147483647 : Int32)).toInt64) - (1 : Int64))) - p2)) + p3))]))
      refine own_via (fun t kz => XS.lload X31.here hx rfl (hb hby at_141) rfl kz) ?_
      show own_Go p e below _ (T31.setTop (mkF m 143 #[oI p0, oI p1, oJ p2, .second, oJ p3, .second, oJ p4, .second, oI (p0 &&& (2147483647 : Int32)), oI (0 : Int32), oJ ((p0 &&& (2147483647 : Int32)).toInt64), .second, oJ (((p0 &&& (2147483647 : Int32)).toInt64) * (((p0 &&& (2147483647 : Int32)).toInt64) - (1 : Int64))), .second, oJ ((((p0 &&& (2147483647 : Int32)).toInt64) / (2 : Int64)) * (((p0 &&& (2147483647 : Int32)).toInt64) - (1 : Int64))), .second, oR a3, oJ ((p2 + p3) + (0 : Int64)), .second, oR a19] [(.long ((p2 + p3) + (0 : Int64))), (.long (((((p0 &&& (2147483647 : Int32)).toInt64) * (((p0 &&& (2147483647 : Int32)) - (1 : Int32)).toInt64)) - ((((p0 &&& (2147483647 : Int32)).toInt64) * (((p0 &&& (2147483647 : Int32)).toInt64) - (1 : Int64))) - p2)) + p3))]))
      refine own_via (fun t kz => XS.lcmp X31.here hx rfl (hb hby at_143) rfl kz) ?_
      show own_Go p e below _ (T31.setTop (mkF m 144 #[oI p0, oI p1, oJ p2, .second, oJ p3, .second, oJ p4, .second, oI (p0 &&& (2147483647 : Int32)), oI (0 : Int32), oJ ((p0 &&& (2147483647 : Int32)).toInt64), .second, oJ (((p0 &&& (2147483647 : Int32)).toInt64) * (((p0 &&& (2147483647 : Int32)).toInt64) - (1 : Int64))), .second, oJ ((((p0 &&& (2147483647 : Int32)).toInt64) / (2 : Int64)) * (((p0 &&& (2147483647 : Int32)).toInt64) - (1 : Int64))), .second, oR a3, oJ ((p2 + p3) + (0 : Int64)), .second, oR a19] [(.int (lcmpW (((((p0 &&& (2147483647 : Int32)).toInt64) * (((p0 &&& (2147483647 : Int32)) - (1 : Int32)).toInt64)) - ((((p0 &&& (2147483647 : Int32)).toInt64) * (((p0 &&& (2147483647 : Int32)).toInt64) - (1 : Int64))) - p2)) + p3) ((p2 + p3) + (0 : Int64))))]))
      refine own_via (fun t kz => XS.ifNo X31.here hx rfl (hb hby at_144) rfl ((if0 _ _).trans (teq ((lw_eq _ _).mpr (own_fin0 p0 p2 p3 p4 hc41_2))).2) kz) ?_
      show own_Go p e below _ (T31.setTop (mkF m 147 #[oI p0, oI p1, oJ p2, .second, oJ p3, .second, oJ p4, .second, oI (p0 &&& (2147483647 : Int32)), oI (0 : Int32), oJ ((p0 &&& (2147483647 : Int32)).toInt64), .second, oJ (((p0 &&& (2147483647 : Int32)).toInt64) * (((p0 &&& (2147483647 : Int32)).toInt64) - (1 : Int64))), .second, oJ ((((p0 &&& (2147483647 : Int32)).toInt64) / (2 : Int64)) * (((p0 &&& (2147483647 : Int32)).toInt64) - (1 : Int64))), .second, oR a3, oJ ((p2 + p3) + (0 : Int64)), .second, oR a19] []))
      refine own_via (fun t kz => XS.iconst X31.here hx rfl (hb hby at_147) kz) ?_
      show own_Go p e below _ (T31.setTop (mkF m 148 #[oI p0, oI p1, oJ p2, .second, oJ p3, .second, oJ p4, .second, oI (p0 &&& (2147483647 : Int32)), oI (0 : Int32), oJ ((p0 &&& (2147483647 : Int32)).toInt64), .second, oJ (((p0 &&& (2147483647 : Int32)).toInt64) * (((p0 &&& (2147483647 : Int32)).toInt64) - (1 : Int64))), .second, oJ ((((p0 &&& (2147483647 : Int32)).toInt64) / (2 : Int64)) * (((p0 &&& (2147483647 : Int32)).toInt64) - (1 : Int64))), .second, oR a3, oJ ((p2 + p3) + (0 : Int64)), .second, oR a19] [(.int (1 : Int32))]))
      refine own_via (fun t kz => XS.goto X31.here hx rfl (pc0 := 148) (pc' := 152) rfl (hb hby at_148) (by decide) (by decide) kz) ?_
      show own_Go p e below _ (T31.setTop (mkF m 152 #[oI p0, oI p1, oJ p2, .second, oJ p3, .second, oJ p4, .second, oI (p0 &&& (2147483647 : Int32)), oI (0 : Int32), oJ ((p0 &&& (2147483647 : Int32)).toInt64), .second, oJ (((p0 &&& (2147483647 : Int32)).toInt64) * (((p0 &&& (2147483647 : Int32)).toInt64) - (1 : Int64))), .second, oJ ((((p0 &&& (2147483647 : Int32)).toInt64) / (2 : Int64)) * (((p0 &&& (2147483647 : Int32)).toInt64) - (1 : Int64))), .second, oR a3, oJ ((p2 + p3) + (0 : Int64)), .second, oR a19] [(.int (1 : Int32))]))
      obtain ⟨fs, hr, hrun, hended, hW, hsame⟩ := X31.leave (v := some (.int (1 : Int32))) (fun h => by rw [Bd.returns] at h; cases h)
      refine ⟨_, _, retN X31 hx (t := .boolean) Bd.returns (by simp) (hb hby at_152) hr, hrun, hended, _, _, rfl, ?_, ⟨_, rfl⟩, hW, hsame.mono (by decide) (by decide)⟩
      show Q0 Z p0 p1 p2 p3 p4 h0 n0 _ T31.heap _
      rw [e31]
      exact ⟨rfl, N32⟩
    · refine own_via (fun t kz => XS.ifYes X0.here hx rfl (pc0 := 41) (pc' := 58) rfl (hb hby at_41) rfl ((if0 _ _).trans (feq (fun q => hc41_2 ((lw_eq _ _).mp q))).2) (by decide) (by decide) kz) ?_
      show own_Go p e below _ (s₁.setTop (mkF m 58 #[oI p0, oI p1, oJ p2, .second, oJ p3, .second, oJ p4, .second, oI (p0 &&& (2147483647 : Int32)), oI (0 : Int32), oJ ((p0 &&& (2147483647 : Int32)).toInt64), .second, oJ (((p0 &&& (2147483647 : Int32)).toInt64) * (((p0 &&& (2147483647 : Int32)).toInt64) - (1 : Int64))), .second, .unset, .unset, .unset, .unset, .unset, .unset] []))
      refine own_via (fun t kz => XS.lload X0.here hx rfl (hb hby at_58) rfl kz) ?_
      show own_Go p e below _ (s₁.setTop (mkF m 60 #[oI p0, oI p1, oJ p2, .second, oJ p3, .second, oJ p4, .second, oI (p0 &&& (2147483647 : Int32)), oI (0 : Int32), oJ ((p0 &&& (2147483647 : Int32)).toInt64), .second, oJ (((p0 &&& (2147483647 : Int32)).toInt64) * (((p0 &&& (2147483647 : Int32)).toInt64) - (1 : Int64))), .second, .unset, .unset, .unset, .unset, .unset, .unset] [(.long ((p0 &&& (2147483647 : Int32)).toInt64))]))
      refine own_via (fun t kz => XS.lload X0.here hx rfl (hb hby at_60) rfl kz) ?_
      show own_Go p e below _ (s₁.setTop (mkF m 62 #[oI p0, oI p1, oJ p2, .second, oJ p3, .second, oJ p4, .second, oI (p0 &&& (2147483647 : Int32)), oI (0 : Int32), oJ ((p0 &&& (2147483647 : Int32)).toInt64), .second, oJ (((p0 &&& (2147483647 : Int32)).toInt64) * (((p0 &&& (2147483647 : Int32)).toInt64) - (1 : Int64))), .second, .unset, .unset, .unset, .unset, .unset, .unset] [(.long ((p0 &&& (2147483647 : Int32)).toInt64)), (.long ((p0 &&& (2147483647 : Int32)).toInt64))]))
      refine own_via (fun t kz => XS.lconst X0.here hx rfl (hb hby at_62) kz) ?_
      show own_Go p e below _ (s₁.setTop (mkF m 63 #[oI p0, oI p1, oJ p2, .second, oJ p3, .second, oJ p4, .second, oI (p0 &&& (2147483647 : Int32)), oI (0 : Int32), oJ ((p0 &&& (2147483647 : Int32)).toInt64), .second, oJ (((p0 &&& (2147483647 : Int32)).toInt64) * (((p0 &&& (2147483647 : Int32)).toInt64) - (1 : Int64))), .second, .unset, .unset, .unset, .unset, .unset, .unset] [(.long (1 : Int64)), (.long ((p0 &&& (2147483647 : Int32)).toInt64)), (.long ((p0 &&& (2147483647 : Int32)).toInt64))]))
      refine own_via (fun t kz => XS.lsub X0.here hx rfl (hb hby at_63) rfl kz) ?_
      show own_Go p e below _ (s₁.setTop (mkF m 64 #[oI p0, oI p1, oJ p2, .second, oJ p3, .second, oJ p4, .second, oI (p0 &&& (2147483647 : Int32)), oI (0 : Int32), oJ ((p0 &&& (2147483647 : Int32)).toInt64), .second, oJ (((p0 &&& (2147483647 : Int32)).toInt64) * (((p0 &&& (2147483647 : Int32)).toInt64) - (1 : Int64))), .second, .unset, .unset, .unset, .unset, .unset, .unset] [(.long (((p0 &&& (2147483647 : Int32)).toInt64) - (1 : Int64))), (.long ((p0 &&& (2147483647 : Int32)).toInt64))]))
      refine own_via (fun t kz => X0.ldc2Long hx hown (mvT hZ (own_w hw 1)) (g := (mkF m 64 #[oI p0, oI p1, oJ p2, .second, oJ p3, .second, oJ p4, .second, oI (p0 &&& (2147483647 : Int32)), oI (0 : Int32), oJ ((p0 &&& (2147483647 : Int32)).toInt64), .second, oJ (((p0 &&& (2147483647 : Int32)).toInt64) * (((p0 &&& (2147483647 : Int32)).toInt64) - (1 : Int64))), .second, .unset, .unset, .unset, .unset, .unset, .unset] [(.long (((p0 &&& (2147483647 : Int32)).toInt64) - (1 : Int64))), (.long ((p0 &&& (2147483647 : Int32)).toInt64))])) rfl (hb hby at_64) t kz) ?_
      show own_Go p e below _ (s₁.setTop (mkF m 67 #[oI p0, oI p1, oJ p2, .second, oJ p3, .second, oJ p4, .second, oI (p0 &&& (2147483647 : Int32)), oI (0 : Int32), oJ ((p0 &&& (2147483647 : Int32)).toInt64), .second, oJ (((p0 &&& (2147483647 : Int32)).toInt64) * (((p0 &&& (2147483647 : Int32)).toInt64) - (1 : Int64))), .second, .unset, .unset, .unset, .unset, .unset, .unset] [(.long (2 : Int64)), (.long (((p0 &&& (2147483647 : Int32)).toInt64) - (1 : Int64))), (.long ((p0 &&& (2147483647 : Int32)).toInt64))]))
      refine own_via (fun t kz => XS.ldiv X0.here hx rfl (hb hby at_67) rfl (by decide) kz) ?_
      show own_Go p e below _ (s₁.setTop (mkF m 68 #[oI p0, oI p1, oJ p2, .second, oJ p3, .second, oJ p4, .second, oI (p0 &&& (2147483647 : Int32)), oI (0 : Int32), oJ ((p0 &&& (2147483647 : Int32)).toInt64), .second, oJ (((p0 &&& (2147483647 : Int32)).toInt64) * (((p0 &&& (2147483647 : Int32)).toInt64) - (1 : Int64))), .second, .unset, .unset, .unset, .unset, .unset, .unset] [(.long ((((p0 &&& (2147483647 : Int32)).toInt64) - (1 : Int64)) / (2 : Int64))), (.long ((p0 &&& (2147483647 : Int32)).toInt64))]))
      refine own_via (fun t kz => XS.lmul X0.here hx rfl (hb hby at_68) rfl kz) ?_
      show own_Go p e below _ (s₁.setTop (mkF m 69 #[oI p0, oI p1, oJ p2, .second, oJ p3, .second, oJ p4, .second, oI (p0 &&& (2147483647 : Int32)), oI (0 : Int32), oJ ((p0 &&& (2147483647 : Int32)).toInt64), .second, oJ (((p0 &&& (2147483647 : Int32)).toInt64) * (((p0 &&& (2147483647 : Int32)).toInt64) - (1 : Int64))), .second, .unset, .unset, .unset, .unset, .unset, .unset] [(.long (((p0 &&& (2147483647 : Int32)).toInt64) * ((((p0 &&& (2147483647 : Int32)).toInt64) - (1 : Int64)) / (2 : Int64))))]))
      refine own_via (fun t kz => XS.lstore X0.here hx rfl (hb hby at_69) rfl (l' := #[oI p0, oI p1, oJ p2, .second, oJ p3, .second, oJ p4, .second, oI (p0 &&& (2147483647 : Int32)), oI (0 : Int32), oJ ((p0 &&& (2147483647 : Int32)).toInt64), .second, oJ (((p0 &&& (2147483647 : Int32)).toInt64) * (((p0 &&& (2147483647 : Int32)).toInt64) - (1 : Int64))), .second, oJ (((p0 &&& (2147483647 : Int32)).toInt64) * ((((p0 &&& (2147483647 : Int32)).toInt64) - (1 : Int64)) / (2 : Int64))), .second, .unset, .unset, .unset, .unset]) rfl kz) ?_
      show own_Go p e below _ (s₁.setTop (mkF m 71 #[oI p0, oI p1, oJ p2, .second, oJ p3, .second, oJ p4, .second, oI (p0 &&& (2147483647 : Int32)), oI (0 : Int32), oJ ((p0 &&& (2147483647 : Int32)).toInt64), .second, oJ (((p0 &&& (2147483647 : Int32)).toInt64) * (((p0 &&& (2147483647 : Int32)).toInt64) - (1 : Int64))), .second, oJ (((p0 &&& (2147483647 : Int32)).toInt64) * ((((p0 &&& (2147483647 : Int32)).toInt64) - (1 : Int64)) / (2 : Int64))), .second, .unset, .unset, .unset, .unset] []))
      refine own_via (fun t kz => XS.iconst X0.here hx rfl (hb hby at_71) kz) ?_
      show own_Go p e below _ (s₁.setTop (mkF m 72 #[oI p0, oI p1, oJ p2, .second, oJ p3, .second, oJ p4, .second, oI (p0 &&& (2147483647 : Int32)), oI (0 : Int32), oJ ((p0 &&& (2147483647 : Int32)).toInt64), .second, oJ (((p0 &&& (2147483647 : Int32)).toInt64) * (((p0 &&& (2147483647 : Int32)).toInt64) - (1 : Int64))), .second, oJ (((p0 &&& (2147483647 : Int32)).toInt64) * ((((p0 &&& (2147483647 : Int32)).toInt64) - (1 : Int64)) / (2 : Int64))), .second, .unset, .unset, .unset, .unset] [(.int (3 : Int32))]))
      obtain ⟨T34, h34, k34, X34, e34, E34, A34, st34⟩ := newP X0 hx hZ (aty := .long) (own_w hw 2) e0 (g := (mkF m 72 #[oI p0, oI p1, oJ p2, .second, oJ p3, .second, oJ p4, .second, oI (p0 &&& (2147483647 : Int32)), oI (0 : Int32), oJ ((p0 &&& (2147483647 : Int32)).toInt64), .second, oJ (((p0 &&& (2147483647 : Int32)).toInt64) * (((p0 &&& (2147483647 : Int32)).toInt64) - (1 : Int64))), .second, oJ (((p0 &&& (2147483647 : Int32)).toInt64) * ((((p0 &&& (2147483647 : Int32)).toInt64) - (1 : Int64)) / (2 : Int64))), .second, .unset, .unset, .unset, .unset] [(.int (3 : Int32))])) rfl (hb hby at_72) rfl (by decide) (cap := 3) (by decide) (by decide) (by decide) (by decide)
      obtain ⟨a34, g34⟩ : ∃ z, z = h0.size := ⟨_, rfl⟩
      rw [← g34] at A34 st34
      refine own_via st34 ?_
      have fr35 : n0 ≤ a34 := Nat.le_trans Z0 (Nat.le_of_eq g34.symm)
      have Zs36 : n0 ≤ h34.size := Nat.le_trans Z0 E34.1
      have V37 : Arv Z h34 a34 k34 .long (3 : Int32) [(.long (0 : Int64)), (.long (0 : Int64)), (.long (0 : Int64))] (.long (0 : Int64)) := (Arv.new A34 (by decide)).pad (pad_rep [] (.long (0 : Int64)) 3)
      show own_Go p e below _ (T34.setTop (mkF m 74 #[oI p0, oI p1, oJ p2, .second, oJ p3, .second, oJ p4, .second, oI (p0 &&& (2147483647 : Int32)), oI (0 : Int32), oJ ((p0 &&& (2147483647 : Int32)).toInt64), .second, oJ (((p0 &&& (2147483647 : Int32)).toInt64) * (((p0 &&& (2147483647 : Int32)).toInt64) - (1 : Int64))), .second, oJ (((p0 &&& (2147483647 : Int32)).toInt64) * ((((p0 &&& (2147483647 : Int32)).toInt64) - (1 : Int64)) / (2 : Int64))), .second, .unset, .unset, .unset, .unset] [(.ref a34)]))
      refine own_via (fun t kz => XS.astore X34.here hx rfl (hb hby at_74) rfl rfl (l' := #[oI p0, oI p1, oJ p2, .second, oJ p3, .second, oJ p4, .second, oI (p0 &&& (2147483647 : Int32)), oI (0 : Int32), oJ ((p0 &&& (2147483647 : Int32)).toInt64), .second, oJ (((p0 &&& (2147483647 : Int32)).toInt64) * (((p0 &&& (2147483647 : Int32)).toInt64) - (1 : Int64))), .second, oJ (((p0 &&& (2147483647 : Int32)).toInt64) * ((((p0 &&& (2147483647 : Int32)).toInt64) - (1 : Int64)) / (2 : Int64))), .second, oR a34, .unset, .unset, .unset]) rfl kz) ?_
      show own_Go p e below _ (T34.setTop (mkF m 76 #[oI p0, oI p1, oJ p2, .second, oJ p3, .second, oJ p4, .second, oI (p0 &&& (2147483647 : Int32)), oI (0 : Int32), oJ ((p0 &&& (2147483647 : Int32)).toInt64), .second, oJ (((p0 &&& (2147483647 : Int32)).toInt64) * (((p0 &&& (2147483647 : Int32)).toInt64) - (1 : Int64))), .second, oJ (((p0 &&& (2147483647 : Int32)).toInt64) * ((((p0 &&& (2147483647 : Int32)).toInt64) - (1 : Int64)) / (2 : Int64))), .second, oR a34, .unset, .unset, .unset] []))
      refine own_via (fun t kz => XS.aload X34.here hx rfl (hb hby at_76) rfl rfl kz) ?_
      show own_Go p e below _ (T34.setTop (mkF m 78 #[oI p0, oI p1, oJ p2, .second, oJ p3, .second, oJ p4, .second, oI (p0 &&& (2147483647 : Int32)), oI (0 : Int32), oJ ((p0 &&& (2147483647 : Int32)).toInt64), .second, oJ (((p0 &&& (2147483647 : Int32)).toInt64) * (((p0 &&& (2147483647 : Int32)).toInt64) - (1 : Int64))), .second, oJ (((p0 &&& (2147483647 : Int32)).toInt64) * ((((p0 &&& (2147483647 : Int32)).toInt64) - (1 : Int64)) / (2 : Int64))), .second, oR a34, .unset, .unset, .unset] [(.ref a34)]))
      refine own_via (fun t kz => XS.iconst X34.here hx rfl (hb hby at_78) kz) ?_
      show own_Go p e below _ (T34.setTop (mkF m 79 #[oI p0, oI p1, oJ p2, .second, oJ p3, .second, oJ p4, .second, oI (p0 &&& (2147483647 : Int32)), oI (0 : Int32), oJ ((p0 &&& (2147483647 : Int32)).toInt64), .second, oJ (((p0 &&& (2147483647 : Int32)).toInt64) * (((p0 &&& (2147483647 : Int32)).toInt64) - (1 : Int64))), .second, oJ (((p0 &&& (2147483647 : Int32)).toInt64) * ((((p0 &&& (2147483647 : Int32)).toInt64) - (1 : Int64)) / (2 : Int64))), .second, oR a34, .unset, .unset, .unset] [(.int (0 : Int32)), (.ref a34)]))
      refine own_via (fun t kz => XS.lload X34.here hx rfl (hb hby at_79) rfl kz) ?_
      show own_Go p e below _ (T34.setTop (mkF m 81 #[oI p0, oI p1, oJ p2, .second, oJ p3, .second, oJ p4, .second, oI (p0 &&& (2147483647 : Int32)), oI (0 : Int32), oJ ((p0 &&& (2147483647 : Int32)).toInt64), .second, oJ (((p0 &&& (2147483647 : Int32)).toInt64) * (((p0 &&& (2147483647 : Int32)).toInt64) - (1 : Int64))), .second, oJ (((p0 &&& (2147483647 : Int32)).toInt64) * ((((p0 &&& (2147483647 : Int32)).toInt64) - (1 : Int64)) / (2 : Int64))), .second, oR a34, .unset, .unset, .unset] [(.long (((p0 &&& (2147483647 : Int32)).toInt64) * (((p0 &&& (2147483647 : Int32)).toInt64) - (1 : Int64)))), (.int (0 : Int32)), (.ref a34)]))
      refine own_via (fun t kz => XS.lloadN X34.here hx rfl (hb hby at_81) rfl kz) ?_
      show own_Go p e below _ (T34.setTop (mkF m 82 #[oI p0, oI p1, oJ p2, .second, oJ p3, .second, oJ p4, .second, oI (p0 &&& (2147483647 : Int32)), oI (0 : Int32), oJ ((p0 &&& (2147483647 : Int32)).toInt64), .second, oJ (((p0 &&& (2147483647 : Int32)).toInt64) * (((p0 &&& (2147483647 : Int32)).toInt64) - (1 : Int64))), .second, oJ (((p0 &&& (2147483647 : Int32)).toInt64) * ((((p0 &&& (2147483647 : Int32)).toInt64) - (1 : Int64)) / (2 : Int64))), .second, oR a34, .unset, .unset, .unset] [(.long p2), (.long (((p0 &&& (2147483647 : Int32)).toInt64) * (((p0 &&& (2147483647 : Int32)).toInt64) - (1 : Int64)))), (.int (0 : Int32)), (.ref a34)]))
      refine own_via (fun t kz => XS.lsub X34.here hx rfl (hb hby at_82) rfl kz) ?_
      show own_Go p e below _ (T34.setTop (mkF m 83 #[oI p0, oI p1, oJ p2, .second, oJ p3, .second, oJ p4, .second, oI (p0 &&& (2147483647 : Int32)), oI (0 : Int32), oJ ((p0 &&& (2147483647 : Int32)).toInt64), .second, oJ (((p0 &&& (2147483647 : Int32)).toInt64) * (((p0 &&& (2147483647 : Int32)).toInt64) - (1 : Int64))), .second, oJ (((p0 &&& (2147483647 : Int32)).toInt64) * ((((p0 &&& (2147483647 : Int32)).toInt64) - (1 : Int64)) / (2 : Int64))), .second, oR a34, .unset, .unset, .unset] [(.long ((((p0 &&& (2147483647 : Int32)).toInt64) * (((p0 &&& (2147483647 : Int32)).toInt64) - (1 : Int64))) - p2)), (.int (0 : Int32)), (.ref a34)]))
      obtain ⟨cl38, Ar38, kc38, Sz38, Nn38, Hs38, Gs38⟩ := id V37
      obtain ⟨T38, h38, X38, e38, W38, st38⟩ := stJ X34 hx hZ e34 Ar38 (j := (0 : Int32)) (inb_of Sz38 ⟨by decide, by decide⟩) (g := (mkF m 83 #[oI p0, oI p1, oJ p2, .second, oJ p3, .second, oJ p4, .second, oI (p0 &&& (2147483647 : Int32)), oI (0 : Int32), oJ ((p0 &&& (2147483647 : Int32)).toInt64), .second, oJ (((p0 &&& (2147483647 : Int32)).toInt64) * (((p0 &&& (2147483647 : Int32)).toInt64) - (1 : Int64))), .second, oJ (((p0 &&& (2147483647 : Int32)).toInt64) * ((((p0 &&& (2147483647 : Int32)).toInt64) - (1 : Int64)) / (2 : Int64))), .second, oR a34, .unset, .unset, .unset] [(.long ((((p0 &&& (2147483647 : Int32)).toInt64) * (((p0 &&& (2147483647 : Int32)).toInt64) - (1 : Int64))) - p2)), (.int (0 : Int32)), (.ref a34)])) rfl rfl (hb hby at_83)
      refine own_via st38 ?_
      have Zs39 : n0 ≤ h38.size := Nat.le_trans Zs36 (Keep.of_wr W38).1
      have N40 := Fr.snoc X38 N0 fr35
      have V41 : Arv Z h38 a34 k34 .long (3 : Int32) [(.long ((((p0 &&& (2147483647 : Int32)).toInt64) * (((p0 &&& (2147483647 : Int32)).toInt64) - (1 : Int64))) - p2)), (.long (0 : Int64)), (.long (0 : Int64))] (.long (0 : Int64)) := Arv.set Ar38 kc38 Sz38 Nn38 Hs38 Gs38 rfl W38 0 (by first | decide | (show 0 < 3; decide)) (by first | decide | (show 0 < 3; decide))
      show own_Go p e below _ (T38.setTop (mkF m 84 #[oI p0, oI p1, oJ p2, .second, oJ p3, .second, oJ p4, .second, oI (p0 &&& (2147483647 : Int32)), oI (0 : Int32), oJ ((p0 &&& (2147483647 : Int32)).toInt64), .second, oJ (((p0 &&& (2147483647 : Int32)).toInt64) * (((p0 &&& (2147483647 : Int32)).toInt64) - (1 : Int64))), .second, oJ (((p0 &&& (2147483647 : Int32)).toInt64) * ((((p0 &&& (2147483647 : Int32)).toInt64) - (1 : Int64)) / (2 : Int64))), .second, oR a34, .unset, .unset, .unset] []))
      refine own_via (fun t kz => XS.aload X38.here hx rfl (hb hby at_84) rfl rfl kz) ?_
      show own_Go p e below _ (T38.setTop (mkF m 86 #[oI p0, oI p1, oJ p2, .second, oJ p3, .second, oJ p4, .second, oI (p0 &&& (2147483647 : Int32)), oI (0 : Int32), oJ ((p0 &&& (2147483647 : Int32)).toInt64), .second, oJ (((p0 &&& (2147483647 : Int32)).toInt64) * (((p0 &&& (2147483647 : Int32)).toInt64) - (1 : Int64))), .second, oJ (((p0 &&& (2147483647 : Int32)).toInt64) * ((((p0 &&& (2147483647 : Int32)).toInt64) - (1 : Int64)) / (2 : Int64))), .second, oR a34, .unset, .unset, .unset] [(.ref a34)]))
      refine own_via (fun t kz => XS.iconst X38.here hx rfl (hb hby at_86) kz) ?_
      show own_Go p e below _ (T38.setTop (mkF m 87 #[oI p0, oI p1, oJ p2, .second, oJ p3, .second, oJ p4, .second, oI (p0 &&& (2147483647 : Int32)), oI (0 : Int32), oJ ((p0 &&& (2147483647 : Int32)).toInt64), .second, oJ (((p0 &&& (2147483647 : Int32)).toInt64) * (((p0 &&& (2147483647 : Int32)).toInt64) - (1 : Int64))), .second, oJ (((p0 &&& (2147483647 : Int32)).toInt64) * ((((p0 &&& (2147483647 : Int32)).toInt64) - (1 : Int64)) / (2 : Int64))), .second, oR a34, .unset, .unset, .unset] [(.int (1 : Int32)), (.ref a34)]))
      refine own_via (fun t kz => XS.lload X38.here hx rfl (hb hby at_87) rfl kz) ?_
      show own_Go p e below _ (T38.setTop (mkF m 89 #[oI p0, oI p1, oJ p2, .second, oJ p3, .second, oJ p4, .second, oI (p0 &&& (2147483647 : Int32)), oI (0 : Int32), oJ ((p0 &&& (2147483647 : Int32)).toInt64), .second, oJ (((p0 &&& (2147483647 : Int32)).toInt64) * (((p0 &&& (2147483647 : Int32)).toInt64) - (1 : Int64))), .second, oJ (((p0 &&& (2147483647 : Int32)).toInt64) * ((((p0 &&& (2147483647 : Int32)).toInt64) - (1 : Int64)) / (2 : Int64))), .second, oR a34, .unset, .unset, .unset] [(.long p3), (.int (1 : Int32)), (.ref a34)]))
      obtain ⟨cl42, Ar42, kc42, Sz42, Nn42, Hs42, Gs42⟩ := id V41
      obtain ⟨T42, h42, X42, e42, W42, st42⟩ := stJ X38 hx hZ e38 Ar42 (j := (1 : Int32)) (inb_of Sz42 ⟨by decide, by decide⟩) (g := (mkF m 89 #[oI p0, oI p1, oJ p2, .second, oJ p3, .second, oJ p4, .second, oI (p0 &&& (2147483647 : Int32)), oI (0 : Int32), oJ ((p0 &&& (2147483647 : Int32)).toInt64), .second, oJ (((p0 &&& (2147483647 : Int32)).toInt64) * (((p0 &&& (2147483647 : Int32)).toInt64) - (1 : Int64))), .second, oJ (((p0 &&& (2147483647 : Int32)).toInt64) * ((((p0 &&& (2147483647 : Int32)).toInt64) - (1 : Int64)) / (2 : Int64))), .second, oR a34, .unset, .unset, .unset] [(.long p3), (.int (1 : Int32)), (.ref a34)])) rfl rfl (hb hby at_89)
      refine own_via st42 ?_
      have Zs43 : n0 ≤ h42.size := Nat.le_trans Zs39 (Keep.of_wr W42).1
      have N44 := Fr.snoc X42 N40 fr35
      have V45 : Arv Z h42 a34 k34 .long (3 : Int32) [(.long ((((p0 &&& (2147483647 : Int32)).toInt64) * (((p0 &&& (2147483647 : Int32)).toInt64) - (1 : Int64))) - p2)), (.long p3), (.long (0 : Int64))] (.long (0 : Int64)) := Arv.set Ar42 kc42 Sz42 Nn42 Hs42 Gs42 rfl W42 1 (by first | decide | (show 1 < 3; decide)) (by first | decide | (show 1 < 3; decide))
      show own_Go p e below _ (T42.setTop (mkF m 90 #[oI p0, oI p1, oJ p2, .second, oJ p3, .second, oJ p4, .second, oI (p0 &&& (2147483647 : Int32)), oI (0 : Int32), oJ ((p0 &&& (2147483647 : Int32)).toInt64), .second, oJ (((p0 &&& (2147483647 : Int32)).toInt64) * (((p0 &&& (2147483647 : Int32)).toInt64) - (1 : Int64))), .second, oJ (((p0 &&& (2147483647 : Int32)).toInt64) * ((((p0 &&& (2147483647 : Int32)).toInt64) - (1 : Int64)) / (2 : Int64))), .second, oR a34, .unset, .unset, .unset] []))
      refine own_via (fun t kz => XS.aload X42.here hx rfl (hb hby at_90) rfl rfl kz) ?_
      show own_Go p e below _ (T42.setTop (mkF m 92 #[oI p0, oI p1, oJ p2, .second, oJ p3, .second, oJ p4, .second, oI (p0 &&& (2147483647 : Int32)), oI (0 : Int32), oJ ((p0 &&& (2147483647 : Int32)).toInt64), .second, oJ (((p0 &&& (2147483647 : Int32)).toInt64) * (((p0 &&& (2147483647 : Int32)).toInt64) - (1 : Int64))), .second, oJ (((p0 &&& (2147483647 : Int32)).toInt64) * ((((p0 &&& (2147483647 : Int32)).toInt64) - (1 : Int64)) / (2 : Int64))), .second, oR a34, .unset, .unset, .unset] [(.ref a34)]))
      refine own_via (fun t kz => XS.iconst X42.here hx rfl (hb hby at_92) kz) ?_
      show own_Go p e below _ (T42.setTop (mkF m 93 #[oI p0, oI p1, oJ p2, .second, oJ p3, .second, oJ p4, .second, oI (p0 &&& (2147483647 : Int32)), oI (0 : Int32), oJ ((p0 &&& (2147483647 : Int32)).toInt64), .second, oJ (((p0 &&& (2147483647 : Int32)).toInt64) * (((p0 &&& (2147483647 : Int32)).toInt64) - (1 : Int64))), .second, oJ (((p0 &&& (2147483647 : Int32)).toInt64) * ((((p0 &&& (2147483647 : Int32)).toInt64) - (1 : Int64)) / (2 : Int64))), .second, oR a34, .unset, .unset, .unset] [(.int (2 : Int32)), (.ref a34)]))
      refine own_via (fun t kz => XS.lload X42.here hx rfl (hb hby at_93) rfl kz) ?_
      show own_Go p e below _ (T42.setTop (mkF m 95 #[oI p0, oI p1, oJ p2, .second, oJ p3, .second, oJ p4, .second, oI (p0 &&& (2147483647 : Int32)), oI (0 : Int32), oJ ((p0 &&& (2147483647 : Int32)).toInt64), .second, oJ (((p0 &&& (2147483647 : Int32)).toInt64) * (((p0 &&& (2147483647 : Int32)).toInt64) - (1 : Int64))), .second, oJ (((p0 &&& (2147483647 : Int32)).toInt64) * ((((p0 &&& (2147483647 : Int32)).toInt64) - (1 : Int64)) / (2 : Int64))), .second, oR a34, .unset, .unset, .unset] [(.long (((p0 &&& (2147483647 : Int32)).toInt64) * ((((p0 &&& (2147483647 : Int32)).toInt64) - (1 : Int64)) / (2 : Int64)))), (.int (2 : Int32)), (.ref a34)]))
      refine own_via (fun t kz => XS.lload X42.here hx rfl (hb hby at_95) rfl kz) ?_
      show own_Go p e below _ (T42.setTop (mkF m 97 #[oI p0, oI p1, oJ p2, .second, oJ p3, .second, oJ p4, .second, oI (p0 &&& (2147483647 : Int32)), oI (0 : Int32), oJ ((p0 &&& (2147483647 : Int32)).toInt64), .second, oJ (((p0 &&& (2147483647 : Int32)).toInt64) * (((p0 &&& (2147483647 : Int32)).toInt64) - (1 : Int64))), .second, oJ (((p0 &&& (2147483647 : Int32)).toInt64) * ((((p0 &&& (2147483647 : Int32)).toInt64) - (1 : Int64)) / (2 : Int64))), .second, oR a34, .unset, .unset, .unset] [(.long p4), (.long (((p0 &&& (2147483647 : Int32)).toInt64) * ((((p0 &&& (2147483647 : Int32)).toInt64) - (1 : Int64)) / (2 : Int64)))), (.int (2 : Int32)), (.ref a34)]))
      refine own_via (fun t kz => XS.lsub X42.here hx rfl (hb hby at_97) rfl kz) ?_
      show own_Go p e below _ (T42.setTop (mkF m 98 #[oI p0, oI p1, oJ p2, .second, oJ p3, .second, oJ p4, .second, oI (p0 &&& (2147483647 : Int32)), oI (0 : Int32), oJ ((p0 &&& (2147483647 : Int32)).toInt64), .second, oJ (((p0 &&& (2147483647 : Int32)).toInt64) * (((p0 &&& (2147483647 : Int32)).toInt64) - (1 : Int64))), .second, oJ (((p0 &&& (2147483647 : Int32)).toInt64) * ((((p0 &&& (2147483647 : Int32)).toInt64) - (1 : Int64)) / (2 : Int64))), .second, oR a34, .unset, .unset, .unset] [(.long ((((p0 &&& (2147483647 : Int32)).toInt64) * ((((p0 &&& (2147483647 : Int32)).toInt64) - (1 : Int64)) / (2 : Int64))) - p4)), (.int (2 : Int32)), (.ref a34)]))
      obtain ⟨cl46, Ar46, kc46, Sz46, Nn46, Hs46, Gs46⟩ := id V45
      obtain ⟨T46, h46, X46, e46, W46, st46⟩ := stJ X42 hx hZ e42 Ar46 (j := (2 : Int32)) (inb_of Sz46 ⟨by decide, by decide⟩) (g := (mkF m 98 #[oI p0, oI p1, oJ p2, .second, oJ p3, .second, oJ p4, .second, oI (p0 &&& (2147483647 : Int32)), oI (0 : Int32), oJ ((p0 &&& (2147483647 : Int32)).toInt64), .second, oJ (((p0 &&& (2147483647 : Int32)).toInt64) * (((p0 &&& (2147483647 : Int32)).toInt64) - (1 : Int64))), .second, oJ (((p0 &&& (2147483647 : Int32)).toInt64) * ((((p0 &&& (2147483647 : Int32)).toInt64) - (1 : Int64)) / (2 : Int64))), .second, oR a34, .unset, .unset, .unset] [(.long ((((p0 &&& (2147483647 : Int32)).toInt64) * ((((p0 &&& (2147483647 : Int32)).toInt64) - (1 : Int64)) / (2 : Int64))) - p4)), (.int (2 : Int32)), (.ref a34)])) rfl rfl (hb hby at_98)
      refine own_via st46 ?_
      have Zs47 : n0 ≤ h46.size := Nat.le_trans Zs43 (Keep.of_wr W46).1
      have N48 := Fr.snoc X46 N44 fr35
      have V49 : Arv Z h46 a34 k34 .long (3 : Int32) [(.long ((((p0 &&& (2147483647 : Int32)).toInt64) * (((p0 &&& (2147483647 : Int32)).toInt64) - (1 : Int64))) - p2)), (.long p3), (.long ((((p0 &&& (2147483647 : Int32)).toInt64) * ((((p0 &&& (2147483647 : Int32)).toInt64) - (1 : Int64)) / (2 : Int64))) - p4))] (.long (0 : Int64)) := Arv.set Ar46 kc46 Sz46 Nn46 Hs46 Gs46 rfl W46 2 (by first | decide | (show 2 < 3; decide)) (by first | decide | (show 2 < 3; decide))
      show own_Go p e below _ (T46.setTop (mkF m 99 #[oI p0, oI p1, oJ p2, .second, oJ p3, .second, oJ p4, .second, oI (p0 &&& (2147483647 : Int32)), oI (0 : Int32), oJ ((p0 &&& (2147483647 : Int32)).toInt64), .second, oJ (((p0 &&& (2147483647 : Int32)).toInt64) * (((p0 &&& (2147483647 : Int32)).toInt64) - (1 : Int64))), .second, oJ (((p0 &&& (2147483647 : Int32)).toInt64) * ((((p0 &&& (2147483647 : Int32)).toInt64) - (1 : Int64)) / (2 : Int64))), .second, oR a34, .unset, .unset, .unset] []))
      refine own_via (fun t kz => XS.lloadN X46.here hx rfl (hb hby at_99) rfl kz) ?_
      show own_Go p e below _ (T46.setTop (mkF m 100 #[oI p0, oI p1, oJ p2, .second, oJ p3, .second, oJ p4, .second, oI (p0 &&& (2147483647 : Int32)), oI (0 : Int32), oJ ((p0 &&& (2147483647 : Int32)).toInt64), .second, oJ (((p0 &&& (2147483647 : Int32)).toInt64) * (((p0 &&& (2147483647 : Int32)).toInt64) - (1 : Int64))), .second, oJ (((p0 &&& (2147483647 : Int32)).toInt64) * ((((p0 &&& (2147483647 : Int32)).toInt64) - (1 : Int64)) / (2 : Int64))), .second, oR a34, .unset, .unset, .unset] [(.long p2)]))
      refine own_via (fun t kz => XS.lload X46.here hx rfl (hb hby at_100) rfl kz) ?_
      show own_Go p e below _ (T46.setTop (mkF m 102 #[oI p0, oI p1, oJ p2, .second, oJ p3, .second, oJ p4, .second, oI (p0 &&& (2147483647 : Int32)), oI (0 : Int32), oJ ((p0 &&& (2147483647 : Int32)).toInt64), .second, oJ (((p0 &&& (2147483647 : Int32)).toInt64) * (((p0 &&& (2147483647 : Int32)).toInt64) - (1 : Int64))), .second, oJ (((p0 &&& (2147483647 : Int32)).toInt64) * ((((p0 &&& (2147483647 : Int32)).toInt64) - (1 : Int64)) / (2 : Int64))), .second, oR a34, .unset, .unset, .unset] [(.long p3), (.long p2)]))
      refine own_via (fun t kz => XS.ladd X46.here hx rfl (hb hby at_102) rfl kz) ?_
      show own_Go p e below _ (T46.setTop (mkF m 103 #[oI p0, oI p1, oJ p2, .second, oJ p3, .second, oJ p4, .second, oI (p0 &&& (2147483647 : Int32)), oI (0 : Int32), oJ ((p0 &&& (2147483647 : Int32)).toInt64), .second, oJ (((p0 &&& (2147483647 : Int32)).toInt64) * (((p0 &&& (2147483647 : Int32)).toInt64) - (1 : Int64))), .second, oJ (((p0 &&& (2147483647 : Int32)).toInt64) * ((((p0 &&& (2147483647 : Int32)).toInt64) - (1 : Int64)) / (2 : Int64))), .second, oR a34, .unset, .unset, .unset] [(.long (p2 + p3))]))
      refine own_via (fun t kz => XS.iload X46.here hx rfl (hb hby at_103) rfl kz) ?_
      show own_Go p e below _ (T46.setTop (mkF m 105 #[oI p0, oI p1, oJ p2, .second, oJ p3, .second, oJ p4, .second, oI (p0 &&& (2147483647 : Int32)), oI (0 : Int32), oJ ((p0 &&& (2147483647 : Int32)).toInt64), .second, oJ (((p0 &&& (2147483647 : Int32)).toInt64) * (((p0 &&& (2147483647 : Int32)).toInt64) - (1 : Int64))), .second, oJ (((p0 &&& (2147483647 : Int32)).toInt64) * ((((p0 &&& (2147483647 : Int32)).toInt64) - (1 : Int64)) / (2 : Int64))), .second, oR a34, .unset, .unset, .unset] [(.int (0 : Int32)), (.long (p2 + p3))]))
      refine own_via (fun t kz => XS.ifYes X46.here hx rfl (pc0 := 105) (pc' := 117) rfl (hb hby at_105) rfl ((if0 _ _).trans (teq (by decide : (0 : Int32) = (0 : Int32))).1) (by decide) (by decide) kz) ?_
      show own_Go p e below _ (T46.setTop (mkF m 117 #[oI p0, oI p1, oJ p2, .second, oJ p3, .second, oJ p4, .second, oI (p0 &&& (2147483647 : Int32)), oI (0 : Int32), oJ ((p0 &&& (2147483647 : Int32)).toInt64), .second, oJ (((p0 &&& (2147483647 : Int32)).toInt64) * (((p0 &&& (2147483647 : Int32)).toInt64) - (1 : Int64))), .second, oJ (((p0 &&& (2147483647 : Int32)).toInt64) * ((((p0 &&& (2147483647 : Int32)).toInt64) - (1 : Int64)) / (2 : Int64))), .second, oR a34, .unset, .unset, .unset] [(.long (p2 + p3))]))
      refine own_via (fun t kz => XS.lconst X46.here hx rfl (hb hby at_117) kz) ?_
      show own_Go p e below _ (T46.setTop (mkF m 118 #[oI p0, oI p1, oJ p2, .second, oJ p3, .second, oJ p4, .second, oI (p0 &&& (2147483647 : Int32)), oI (0 : Int32), oJ ((p0 &&& (2147483647 : Int32)).toInt64), .second, oJ (((p0 &&& (2147483647 : Int32)).toInt64) * (((p0 &&& (2147483647 : Int32)).toInt64) - (1 : Int64))), .second, oJ (((p0 &&& (2147483647 : Int32)).toInt64) * ((((p0 &&& (2147483647 : Int32)).toInt64) - (1 : Int64)) / (2 : Int64))), .second, oR a34, .unset, .unset, .unset] [(.long (0 : Int64)), (.long (p2 + p3))]))
      refine own_via (fun t kz => XS.ladd X46.here hx rfl (hb hby at_118) rfl kz) ?_
      show own_Go p e below _ (T46.setTop (mkF m 119 #[oI p0, oI p1, oJ p2, .second, oJ p3, .second, oJ p4, .second, oI (p0 &&& (2147483647 : Int32)), oI (0 : Int32), oJ ((p0 &&& (2147483647 : Int32)).toInt64), .second, oJ (((p0 &&& (2147483647 : Int32)).toInt64) * (((p0 &&& (2147483647 : Int32)).toInt64) - (1 : Int64))), .second, oJ (((p0 &&& (2147483647 : Int32)).toInt64) * ((((p0 &&& (2147483647 : Int32)).toInt64) - (1 : Int64)) / (2 : Int64))), .second, oR a34, .unset, .unset, .unset] [(.long ((p2 + p3) + (0 : Int64)))]))
      refine own_via (fun t kz => XS.lstore X46.here hx rfl (hb hby at_119) rfl (l' := #[oI p0, oI p1, oJ p2, .second, oJ p3, .second, oJ p4, .second, oI (p0 &&& (2147483647 : Int32)), oI (0 : Int32), oJ ((p0 &&& (2147483647 : Int32)).toInt64), .second, oJ (((p0 &&& (2147483647 : Int32)).toInt64) * (((p0 &&& (2147483647 : Int32)).toInt64) - (1 : Int64))), .second, oJ (((p0 &&& (2147483647 : Int32)).toInt64) * ((((p0 &&& (2147483647 : Int32)).toInt64) - (1 : Int64)) / (2 : Int64))), .second, oR a34, oJ ((p2 + p3) + (0 : Int64)), .second, .unset]) rfl kz) ?_
      show own_Go p e below _ (T46.setTop (mkF m 121 #[oI p0, oI p1, oJ p2, .second, oJ p3, .second, oJ p4, .second, oI (p0 &&& (2147483647 : Int32)), oI (0 : Int32), oJ ((p0 &&& (2147483647 : Int32)).toInt64), .second, oJ (((p0 &&& (2147483647 : Int32)).toInt64) * (((p0 &&& (2147483647 : Int32)).toInt64) - (1 : Int64))), .second, oJ (((p0 &&& (2147483647 : Int32)).toInt64) * ((((p0 &&& (2147483647 : Int32)).toInt64) - (1 : Int64)) / (2 : Int64))), .second, oR a34, oJ ((p2 + p3) + (0 : Int64)), .second, .unset] []))
      obtain ⟨T50, h50, X50, e50, E50, A50, D50, -, st50⟩ := newO X46 hx hZ hown (own_w hw 3) (own_w hw 4) (own_w hw 5) e46 (g := (mkF m 121 #[oI p0, oI p1, oJ p2, .second, oJ p3, .second, oJ p4, .second, oI (p0 &&& (2147483647 : Int32)), oI (0 : Int32), oJ ((p0 &&& (2147483647 : Int32)).toInt64), .second, oJ (((p0 &&& (2147483647 : Int32)).toInt64) * (((p0 &&& (2147483647 : Int32)).toInt64) - (1 : Int64))), .second, oJ (((p0 &&& (2147483647 : Int32)).toInt64) * ((((p0 &&& (2147483647 : Int32)).toInt64) - (1 : Int64)) / (2 : Int64))), .second, oR a34, oJ ((p2 + p3) + (0 : Int64)), .second, .unset] [])) rfl (hb hby at_121) (by decide) (by decide)
      obtain ⟨a50, g50⟩ : ∃ z, z = h46.size := ⟨_, rfl⟩
      rw [← g50] at A50 D50 st50
      refine own_via st50 ?_
      have lt51 : a34 < a50 := Nat.lt_of_lt_of_le V49.lt (Nat.le_of_eq g50.symm)
      have fr52 : n0 ≤ a50 := Nat.le_trans Zs47 (Nat.le_of_eq g50.symm)
      have V53 := V49.ext E50
      have Zs54 : n0 ≤ h50.size := Nat.le_trans Zs47 E50.1
      have F55 : Fld Z h50 a50 "com/example/matchloom/matchloom/league/FormatRules" "teams" "I" (.int (0 : Int32)) := D50 (Or.inr (own_w hw 18)) (ty := .int) (by decide)
      have F56 : Fld Z h50 a50 "com/example/matchloom/matchloom/league/FormatRules" "phased" "Z" (.int (0 : Int32)) := D50 (Or.inr (own_w hw 20)) (ty := .boolean) (by decide)
      show own_Go p e below _ (T50.setTop (mkF m 124 #[oI p0, oI p1, oJ p2, .second, oJ p3, .second, oJ p4, .second, oI (p0 &&& (2147483647 : Int32)), oI (0 : Int32), oJ ((p0 &&& (2147483647 : Int32)).toInt64), .second, oJ (((p0 &&& (2147483647 : Int32)).toInt64) * (((p0 &&& (2147483647 : Int32)).toInt64) - (1 : Int64))), .second, oJ (((p0 &&& (2147483647 : Int32)).toInt64) * ((((p0 &&& (2147483647 : Int32)).toInt64) - (1 : Int64)) / (2 : Int64))), .second, oR a34, oJ ((p2 + p3) + (0 : Int64)), .second, .unset] [(.ref a50)]))
      refine own_via (fun t kz => XS.dup X50.here hx rfl (hb hby at_124) rfl rfl kz) ?_
      show own_Go p e below _ (T50.setTop (mkF m 125 #[oI p0, oI p1, oJ p2, .second, oJ p3, .second, oJ p4, .second, oI (p0 &&& (2147483647 : Int32)), oI (0 : Int32), oJ ((p0 &&& (2147483647 : Int32)).toInt64), .second, oJ (((p0 &&& (2147483647 : Int32)).toInt64) * (((p0 &&& (2147483647 : Int32)).toInt64) - (1 : Int64))), .second, oJ (((p0 &&& (2147483647 : Int32)).toInt64) * ((((p0 &&& (2147483647 : Int32)).toInt64) - (1 : Int64)) / (2 : Int64))), .second, oR a34, oJ ((p2 + p3) + (0 : Int64)), .second, .unset] [(.ref a50), (.ref a50)]))
      refine own_via (fun t kz => XS.iload X50.here hx rfl (hb hby at_125) rfl kz) ?_
      show own_Go p e below _ (T50.setTop (mkF m 127 #[oI p0, oI p1, oJ p2, .second, oJ p3, .second, oJ p4, .second, oI (p0 &&& (2147483647 : Int32)), oI (0 : Int32), oJ ((p0 &&& (2147483647 : Int32)).toInt64), .second, oJ (((p0 &&& (2147483647 : Int32)).toInt64) * (((p0 &&& (2147483647 : Int32)).toInt64) - (1 : Int64))), .second, oJ (((p0 &&& (2147483647 : Int32)).toInt64) * ((((p0 &&& (2147483647 : Int32)).toInt64) - (1 : Int64)) / (2 : Int64))), .second, oR a34, oJ ((p2 + p3) + (0 : Int64)), .second, .unset] [(.int (p0 &&& (2147483647 : Int32))), (.ref a50), (.ref a50)]))
      refine own_via (fun t kz => XS.iload X50.here hx rfl (hb hby at_127) rfl kz) ?_
      show own_Go p e below _ (T50.setTop (mkF m 129 #[oI p0, oI p1, oJ p2, .second, oJ p3, .second, oJ p4, .second, oI (p0 &&& (2147483647 : Int32)), oI (0 : Int32), oJ ((p0 &&& (2147483647 : Int32)).toInt64), .second, oJ (((p0 &&& (2147483647 : Int32)).toInt64) * (((p0 &&& (2147483647 : Int32)).toInt64) - (1 : Int64))), .second, oJ (((p0 &&& (2147483647 : Int32)).toInt64) * ((((p0 &&& (2147483647 : Int32)).toInt64) - (1 : Int64)) / (2 : Int64))), .second, oR a34, oJ ((p2 + p3) + (0 : Int64)), .second, .unset] [(.int (0 : Int32)), (.int (p0 &&& (2147483647 : Int32))), (.ref a50), (.ref a50)]))
      obtain ⟨_, _, ⟨T57, L57, k57, n57⟩, -, X57, ⟨Lc57, hQ57, l57, y57, z57⟩, st57⟩ := X50.specialBack hx (y := (⟨"com/example/matchloom/matchloom/league/FormatRules", "<init>", "(IZ)V"⟩ : MethodName)) rfl hown (mvT hZ (own_w hw 6)) (mvT hZ (own_w hw 7)) (mvT hZ (own_w hw 8)) (by decide) (backOf (W := 1) (rm1 l Z a0 hw [] a50 (p0 &&& (2147483647 : Int32)) (0 : Int32) h50 n0 Zs54 fr52 A50 F55 F56 rfl rfl) hZ (own_w hw 8) (own_w hw 5) (by decide) (by decide)) (g := (mkF m 129 #[oI p0, oI p1, oJ p2, .second, oJ p3, .second, oJ p4, .second, oI (p0 &&& (2147483647 : Int32)), oI (0 : Int32), oJ ((p0 &&& (2147483647 : Int32)).toInt64), .second, oJ (((p0 &&& (2147483647 : Int32)).toInt64) * (((p0 &&& (2147483647 : Int32)).toInt64) - (1 : Int64))), .second, oJ (((p0 &&& (2147483647 : Int32)).toInt64) * ((((p0 &&& (2147483647 : Int32)).toInt64) - (1 : Int64)) / (2 : Int64))), .second, oR a34, oJ ((p2 + p3) + (0 : Int64)), .second, .unset] [(.int (0 : Int32)), (.int (p0 &&& (2147483647 : Int32))), (.ref a50), (.ref a50)])) rfl (by rw [hml]; rfl) (Steps.refl _) (a := a50) (argsL := [(.int (p0 &&& (2147483647 : Int32))), (.int (0 : Int32))]) (rest := [(.ref a50)]) (lenOf pd_0_0 rfl) rfl (by show 2 * 0 + _ ≤ _; exact Nat.le_of_eq rfl) (hb hby at_129) (fun _ _ => ⟨rfl, e50, (by decide : 2 + 0 ≤ _), (by decide : 5 + 0 ≤ _)⟩)
      dsimp only [Pt.U, Pt.locs, Pt.cells, Pt.slots] at X57 l57 y57 z57 st57 hQ57
      subst l57 y57 z57
      obtain ⟨rfl, Nq57, Kc57, Fc0_57, Fc1_57⟩ := hQ57
      have N58 := Fr.app N48 Nq57
      refine own_tr st57 ?_
      have V59 := V53.keep Kc57 (ninS (Nat.ne_of_lt lt51) nin0)
      have E60 := A50.keep Kc57
      have Zs61 : n0 ≤ T57.heap.size := Nat.le_trans Zs54 Kc57.1
      show own_Go p e below _ (T57.setTop (mkF m 132 #[oI p0, oI p1, oJ p2, .second, oJ p3, .second, oJ p4, .second, oI (p0 &&& (2147483647 : Int32)), oI (0 : Int32), oJ ((p0 &&& (2147483647 : Int32)).toInt64), .second, oJ (((p0 &&& (2147483647 : Int32)).toInt64) * (((p0 &&& (2147483647 : Int32)).toInt64) - (1 : Int64))), .second, oJ (((p0 &&& (2147483647 : Int32)).toInt64) * ((((p0 &&& (2147483647 : Int32)).toInt64) - (1 : Int64)) / (2 : Int64))), .second, oR a34, oJ ((p2 + p3) + (0 : Int64)), .second, .unset] [(.ref a50)]))
      refine own_via (fun t kz => XS.astore X57.here hx rfl (hb hby at_132) rfl rfl (l' := #[oI p0, oI p1, oJ p2, .second, oJ p3, .second, oJ p4, .second, oI (p0 &&& (2147483647 : Int32)), oI (0 : Int32), oJ ((p0 &&& (2147483647 : Int32)).toInt64), .second, oJ (((p0 &&& (2147483647 : Int32)).toInt64) * (((p0 &&& (2147483647 : Int32)).toInt64) - (1 : Int64))), .second, oJ (((p0 &&& (2147483647 : Int32)).toInt64) * ((((p0 &&& (2147483647 : Int32)).toInt64) - (1 : Int64)) / (2 : Int64))), .second, oR a34, oJ ((p2 + p3) + (0 : Int64)), .second, oR a50]) rfl kz) ?_
      show own_Go p e below _ (T57.setTop (mkF m 134 #[oI p0, oI p1, oJ p2, .second, oJ p3, .second, oJ p4, .second, oI (p0 &&& (2147483647 : Int32)), oI (0 : Int32), oJ ((p0 &&& (2147483647 : Int32)).toInt64), .second, oJ (((p0 &&& (2147483647 : Int32)).toInt64) * (((p0 &&& (2147483647 : Int32)).toInt64) - (1 : Int64))), .second, oJ (((p0 &&& (2147483647 : Int32)).toInt64) * ((((p0 &&& (2147483647 : Int32)).toInt64) - (1 : Int64)) / (2 : Int64))), .second, oR a34, oJ ((p2 + p3) + (0 : Int64)), .second, oR a50] []))
      refine own_via (fun t kz => XS.aload X57.here hx rfl (hb hby at_134) rfl rfl kz) ?_
      show own_Go p e below _ (T57.setTop (mkF m 136 #[oI p0, oI p1, oJ p2, .second, oJ p3, .second, oJ p4, .second, oI (p0 &&& (2147483647 : Int32)), oI (0 : Int32), oJ ((p0 &&& (2147483647 : Int32)).toInt64), .second, oJ (((p0 &&& (2147483647 : Int32)).toInt64) * (((p0 &&& (2147483647 : Int32)).toInt64) - (1 : Int64))), .second, oJ (((p0 &&& (2147483647 : Int32)).toInt64) * ((((p0 &&& (2147483647 : Int32)).toInt64) - (1 : Int64)) / (2 : Int64))), .second, oR a34, oJ ((p2 + p3) + (0 : Int64)), .second, oR a50] [(.ref a50)]))
      refine own_via (fun t kz => XS.aload X57.here hx rfl (hb hby at_136) rfl rfl kz) ?_
      show own_Go p e below _ (T57.setTop (mkF m 138 #[oI p0, oI p1, oJ p2, .second, oJ p3, .second, oJ p4, .second, oI (p0 &&& (2147483647 : Int32)), oI (0 : Int32), oJ ((p0 &&& (2147483647 : Int32)).toInt64), .second, oJ (((p0 &&& (2147483647 : Int32)).toInt64) * (((p0 &&& (2147483647 : Int32)).toInt64) - (1 : Int64))), .second, oJ (((p0 &&& (2147483647 : Int32)).toInt64) * ((((p0 &&& (2147483647 : Int32)).toInt64) - (1 : Int64)) / (2 : Int64))), .second, oR a34, oJ ((p2 + p3) + (0 : Int64)), .second, oR a50] [(.ref a34), (.ref a50)]))
      obtain ⟨cq62, kq62, qa62, qb62, qc62⟩ := isOf hZ rfl E60
      obtain ⟨_, _, ⟨T62, L62, k62, n62⟩, -, X62, ⟨Lc62, hQ62, l62, y62, z62⟩, st62⟩ := X57.virtualBack hx (y := (⟨"com/example/matchloom/matchloom/league/FormatRules", "total", "([J)J"⟩ : MethodName)) (z := (⟨"com/example/matchloom/matchloom/league/FormatRules", "total", "([J)J"⟩ : MethodName)) hown (mvT hZ (own_w hw 21)) (mvT hZ (own_w hw 22)) (notFace_of_selects (args := #[]) (mvT hZ (own_w hw 24))) (mvT hZ (own_w hw 24)) (mvT hZ (own_w hw 23)) (by decide) (backOf (W := 0) (rm4 l Z a0 hw [] a50 a34 (p0 &&& (2147483647 : Int32)) (0 : Int32) k34 ((((p0 &&& (2147483647 : Int32)).toInt64) * (((p0 &&& (2147483647 : Int32)).toInt64) - (1 : Int64))) - p2) p3 ((((p0 &&& (2147483647 : Int32)).toInt64) * ((((p0 &&& (2147483647 : Int32)).toInt64) - (1 : Int64)) / (2 : Int64))) - p4) (((((p0 &&& (2147483647 : Int32)).toInt64) * (((p0 &&& (2147483647 : Int32)) - (1 : Int32)).toInt64)) - ((((p0 &&& (2147483647 : Int32)).toInt64) * (((p0 &&& (2147483647 : Int32)).toInt64) - (1 : Int64))) - p2)) + p3) T57.heap n0 Zs61 Fc0_57 Fc1_57 V59 (by unfold f4; rw [if_pos (by decide : (0 : Int32) = (0 : Int32))])) hZ (own_w hw 25) (own_w hw 5) (by decide) (by decide)) qa62 qc62 (g := (mkF m 138 #[oI p0, oI p1, oJ p2, .second, oJ p3, .second, oJ p4, .second, oI (p0 &&& (2147483647 : Int32)), oI (0 : Int32), oJ ((p0 &&& (2147483647 : Int32)).toInt64), .second, oJ (((p0 &&& (2147483647 : Int32)).toInt64) * (((p0 &&& (2147483647 : Int32)).toInt64) - (1 : Int64))), .second, oJ (((p0 &&& (2147483647 : Int32)).toInt64) * ((((p0 &&& (2147483647 : Int32)).toInt64) - (1 : Int64)) / (2 : Int64))), .second, oR a34, oJ ((p2 + p3) + (0 : Int64)), .second, oR a50] [(.ref a34), (.ref a50)])) rfl (by rw [hml]; rfl) (Steps.refl _) (argsL := [(.ref a34)]) (rest := []) (lenOf pd_0_1 rfl) rfl (by show 2 * 0 + _ ≤ _; exact Nat.le_of_eq rfl) (hb hby at_138) (fun _ _ => ⟨rfl, rfl, (by decide : 2 + 0 ≤ _), (by decide : 5 + 0 ≤ _)⟩)
      dsimp only [Pt.U, Pt.locs, Pt.cells, Pt.slots] at X62 l62 y62 z62 st62 hQ62
      subst l62 y62 z62
      obtain ⟨rfl, Nq62, e62⟩ := hQ62
      have N63 := Fr.app N58 Nq62
      refine own_tr st62 ?_
      show own_Go p e below _ (T62.setTop (mkF m 141 #[oI p0, oI p1, oJ p2, .second, oJ p3, .second, oJ p4, .second, oI (p0 &&& (2147483647 : Int32)), oI (0 : Int32), oJ ((p0 &&& (2147483647 : Int32)).toInt64), .second, oJ (((p0 &&& (2147483647 : Int32)).toInt64) * (((p0 &&& (2147483647 : Int32)).toInt64) - (1 : Int64))), .second, oJ (((p0 &&& (2147483647 : Int32)).toInt64) * ((((p0 &&& (2147483647 : Int32)).toInt64) - (1 : Int64)) / (2 : Int64))), .second, oR a34, oJ ((p2 + p3) + (0 : Int64)), .second, oR a50] [(.long (((((p0 &&& (2147483647 : Int32)).toInt64) * (((p0 &&& (2147483647 : Int32)) - (1 : Int32)).toInt64)) - ((((p0 &&& (2147483647 : Int32)).toInt64) * (((p0 &&& (2147483647 : Int32)).toInt64) - (1 : Int64))) - p2)) + p3))]))
      refine own_via (fun t kz => XS.lload X62.here hx rfl (hb hby at_141) rfl kz) ?_
      show own_Go p e below _ (T62.setTop (mkF m 143 #[oI p0, oI p1, oJ p2, .second, oJ p3, .second, oJ p4, .second, oI (p0 &&& (2147483647 : Int32)), oI (0 : Int32), oJ ((p0 &&& (2147483647 : Int32)).toInt64), .second, oJ (((p0 &&& (2147483647 : Int32)).toInt64) * (((p0 &&& (2147483647 : Int32)).toInt64) - (1 : Int64))), .second, oJ (((p0 &&& (2147483647 : Int32)).toInt64) * ((((p0 &&& (2147483647 : Int32)).toInt64) - (1 : Int64)) / (2 : Int64))), .second, oR a34, oJ ((p2 + p3) + (0 : Int64)), .second, oR a50] [(.long ((p2 + p3) + (0 : Int64))), (.long (((((p0 &&& (2147483647 : Int32)).toInt64) * (((p0 &&& (2147483647 : Int32)) - (1 : Int32)).toInt64)) - ((((p0 &&& (2147483647 : Int32)).toInt64) * (((p0 &&& (2147483647 : Int32)).toInt64) - (1 : Int64))) - p2)) + p3))]))
      refine own_via (fun t kz => XS.lcmp X62.here hx rfl (hb hby at_143) rfl kz) ?_
      show own_Go p e below _ (T62.setTop (mkF m 144 #[oI p0, oI p1, oJ p2, .second, oJ p3, .second, oJ p4, .second, oI (p0 &&& (2147483647 : Int32)), oI (0 : Int32), oJ ((p0 &&& (2147483647 : Int32)).toInt64), .second, oJ (((p0 &&& (2147483647 : Int32)).toInt64) * (((p0 &&& (2147483647 : Int32)).toInt64) - (1 : Int64))), .second, oJ (((p0 &&& (2147483647 : Int32)).toInt64) * ((((p0 &&& (2147483647 : Int32)).toInt64) - (1 : Int64)) / (2 : Int64))), .second, oR a34, oJ ((p2 + p3) + (0 : Int64)), .second, oR a50] [(.int (lcmpW (((((p0 &&& (2147483647 : Int32)).toInt64) * (((p0 &&& (2147483647 : Int32)) - (1 : Int32)).toInt64)) - ((((p0 &&& (2147483647 : Int32)).toInt64) * (((p0 &&& (2147483647 : Int32)).toInt64) - (1 : Int64))) - p2)) + p3) ((p2 + p3) + (0 : Int64))))]))
      refine own_via (fun t kz => XS.ifNo X62.here hx rfl (hb hby at_144) rfl ((if0 _ _).trans (teq ((lw_eq _ _).mpr (own_fin1 p0 p2 p3 p4 hc41_2))).2) kz) ?_
      show own_Go p e below _ (T62.setTop (mkF m 147 #[oI p0, oI p1, oJ p2, .second, oJ p3, .second, oJ p4, .second, oI (p0 &&& (2147483647 : Int32)), oI (0 : Int32), oJ ((p0 &&& (2147483647 : Int32)).toInt64), .second, oJ (((p0 &&& (2147483647 : Int32)).toInt64) * (((p0 &&& (2147483647 : Int32)).toInt64) - (1 : Int64))), .second, oJ (((p0 &&& (2147483647 : Int32)).toInt64) * ((((p0 &&& (2147483647 : Int32)).toInt64) - (1 : Int64)) / (2 : Int64))), .second, oR a34, oJ ((p2 + p3) + (0 : Int64)), .second, oR a50] []))
      refine own_via (fun t kz => XS.iconst X62.here hx rfl (hb hby at_147) kz) ?_
      show own_Go p e below _ (T62.setTop (mkF m 148 #[oI p0, oI p1, oJ p2, .second, oJ p3, .second, oJ p4, .second, oI (p0 &&& (2147483647 : Int32)), oI (0 : Int32), oJ ((p0 &&& (2147483647 : Int32)).toInt64), .second, oJ (((p0 &&& (2147483647 : Int32)).toInt64) * (((p0 &&& (2147483647 : Int32)).toInt64) - (1 : Int64))), .second, oJ (((p0 &&& (2147483647 : Int32)).toInt64) * ((((p0 &&& (2147483647 : Int32)).toInt64) - (1 : Int64)) / (2 : Int64))), .second, oR a34, oJ ((p2 + p3) + (0 : Int64)), .second, oR a50] [(.int (1 : Int32))]))
      refine own_via (fun t kz => XS.goto X62.here hx rfl (pc0 := 148) (pc' := 152) rfl (hb hby at_148) (by decide) (by decide) kz) ?_
      show own_Go p e below _ (T62.setTop (mkF m 152 #[oI p0, oI p1, oJ p2, .second, oJ p3, .second, oJ p4, .second, oI (p0 &&& (2147483647 : Int32)), oI (0 : Int32), oJ ((p0 &&& (2147483647 : Int32)).toInt64), .second, oJ (((p0 &&& (2147483647 : Int32)).toInt64) * (((p0 &&& (2147483647 : Int32)).toInt64) - (1 : Int64))), .second, oJ (((p0 &&& (2147483647 : Int32)).toInt64) * ((((p0 &&& (2147483647 : Int32)).toInt64) - (1 : Int64)) / (2 : Int64))), .second, oR a34, oJ ((p2 + p3) + (0 : Int64)), .second, oR a50] [(.int (1 : Int32))]))
      obtain ⟨fs, hr, hrun, hended, hW, hsame⟩ := X62.leave (v := some (.int (1 : Int32))) (fun h => by rw [Bd.returns] at h; cases h)
      refine ⟨_, _, retN X62 hx (t := .boolean) Bd.returns (by simp) (hb hby at_152) hr, hrun, hended, _, _, rfl, ?_, ⟨_, rfl⟩, hW, hsame.mono (by decide) (by decide)⟩
      show Q0 Z p0 p1 p2 p3 p4 h0 n0 _ T62.heap _
      rw [e62]
      exact ⟨rfl, N63⟩
  · refine own_via (fun t kz => XS.ifNo X0.here hx rfl (hb hby at_9) rfl ((if0 _ _).trans (feq hc9_1).1) kz) ?_
    show own_Go p e below _ (s₁.setTop (mkF m 12 #[oI p0, oI p1, oJ p2, .second, oJ p3, .second, oJ p4, .second, oI (p0 &&& (2147483647 : Int32)), .unset, .unset, .unset, .unset, .unset, .unset, .unset, .unset, .unset, .unset, .unset] []))
    refine own_via (fun t kz => XS.iconst X0.here hx rfl (hb hby at_12) kz) ?_
    show own_Go p e below _ (s₁.setTop (mkF m 13 #[oI p0, oI p1, oJ p2, .second, oJ p3, .second, oJ p4, .second, oI (p0 &&& (2147483647 : Int32)), .unset, .unset, .unset, .unset, .unset, .unset, .unset, .unset, .unset, .unset, .unset] [(.int (1 : Int32))]))
    refine own_via (fun t kz => XS.goto X0.here hx rfl (pc0 := 13) (pc' := 17) rfl (hb hby at_13) (by decide) (by decide) kz) ?_
    show own_Go p e below _ (s₁.setTop (mkF m 17 #[oI p0, oI p1, oJ p2, .second, oJ p3, .second, oJ p4, .second, oI (p0 &&& (2147483647 : Int32)), .unset, .unset, .unset, .unset, .unset, .unset, .unset, .unset, .unset, .unset, .unset] [(.int (1 : Int32))]))
    refine own_via (fun t kz => XS.istore X0.here hx rfl (hb hby at_17) rfl (l' := #[oI p0, oI p1, oJ p2, .second, oJ p3, .second, oJ p4, .second, oI (p0 &&& (2147483647 : Int32)), oI (1 : Int32), .unset, .unset, .unset, .unset, .unset, .unset, .unset, .unset, .unset, .unset]) rfl kz) ?_
    show own_Go p e below _ (s₁.setTop (mkF m 19 #[oI p0, oI p1, oJ p2, .second, oJ p3, .second, oJ p4, .second, oI (p0 &&& (2147483647 : Int32)), oI (1 : Int32), .unset, .unset, .unset, .unset, .unset, .unset, .unset, .unset, .unset, .unset] []))
    refine own_via (fun t kz => XS.iload X0.here hx rfl (hb hby at_19) rfl kz) ?_
    show own_Go p e below _ (s₁.setTop (mkF m 21 #[oI p0, oI p1, oJ p2, .second, oJ p3, .second, oJ p4, .second, oI (p0 &&& (2147483647 : Int32)), oI (1 : Int32), .unset, .unset, .unset, .unset, .unset, .unset, .unset, .unset, .unset, .unset] [(.int (p0 &&& (2147483647 : Int32)))]))
    refine own_via (fun t kz => XS.i2l X0.here hx rfl (hb hby at_21) rfl kz) ?_
    show own_Go p e below _ (s₁.setTop (mkF m 22 #[oI p0, oI p1, oJ p2, .second, oJ p3, .second, oJ p4, .second, oI (p0 &&& (2147483647 : Int32)), oI (1 : Int32), .unset, .unset, .unset, .unset, .unset, .unset, .unset, .unset, .unset, .unset] [(.long ((p0 &&& (2147483647 : Int32)).toInt64))]))
    refine own_via (fun t kz => XS.lstore X0.here hx rfl (hb hby at_22) rfl (l' := #[oI p0, oI p1, oJ p2, .second, oJ p3, .second, oJ p4, .second, oI (p0 &&& (2147483647 : Int32)), oI (1 : Int32), oJ ((p0 &&& (2147483647 : Int32)).toInt64), .second, .unset, .unset, .unset, .unset, .unset, .unset, .unset, .unset]) rfl kz) ?_
    show own_Go p e below _ (s₁.setTop (mkF m 24 #[oI p0, oI p1, oJ p2, .second, oJ p3, .second, oJ p4, .second, oI (p0 &&& (2147483647 : Int32)), oI (1 : Int32), oJ ((p0 &&& (2147483647 : Int32)).toInt64), .second, .unset, .unset, .unset, .unset, .unset, .unset, .unset, .unset] []))
    refine own_via (fun t kz => XS.lload X0.here hx rfl (hb hby at_24) rfl kz) ?_
    show own_Go p e below _ (s₁.setTop (mkF m 26 #[oI p0, oI p1, oJ p2, .second, oJ p3, .second, oJ p4, .second, oI (p0 &&& (2147483647 : Int32)), oI (1 : Int32), oJ ((p0 &&& (2147483647 : Int32)).toInt64), .second, .unset, .unset, .unset, .unset, .unset, .unset, .unset, .unset] [(.long ((p0 &&& (2147483647 : Int32)).toInt64))]))
    refine own_via (fun t kz => XS.lload X0.here hx rfl (hb hby at_26) rfl kz) ?_
    show own_Go p e below _ (s₁.setTop (mkF m 28 #[oI p0, oI p1, oJ p2, .second, oJ p3, .second, oJ p4, .second, oI (p0 &&& (2147483647 : Int32)), oI (1 : Int32), oJ ((p0 &&& (2147483647 : Int32)).toInt64), .second, .unset, .unset, .unset, .unset, .unset, .unset, .unset, .unset] [(.long ((p0 &&& (2147483647 : Int32)).toInt64)), (.long ((p0 &&& (2147483647 : Int32)).toInt64))]))
    refine own_via (fun t kz => XS.lconst X0.here hx rfl (hb hby at_28) kz) ?_
    show own_Go p e below _ (s₁.setTop (mkF m 29 #[oI p0, oI p1, oJ p2, .second, oJ p3, .second, oJ p4, .second, oI (p0 &&& (2147483647 : Int32)), oI (1 : Int32), oJ ((p0 &&& (2147483647 : Int32)).toInt64), .second, .unset, .unset, .unset, .unset, .unset, .unset, .unset, .unset] [(.long (1 : Int64)), (.long ((p0 &&& (2147483647 : Int32)).toInt64)), (.long ((p0 &&& (2147483647 : Int32)).toInt64))]))
    refine own_via (fun t kz => XS.lsub X0.here hx rfl (hb hby at_29) rfl kz) ?_
    show own_Go p e below _ (s₁.setTop (mkF m 30 #[oI p0, oI p1, oJ p2, .second, oJ p3, .second, oJ p4, .second, oI (p0 &&& (2147483647 : Int32)), oI (1 : Int32), oJ ((p0 &&& (2147483647 : Int32)).toInt64), .second, .unset, .unset, .unset, .unset, .unset, .unset, .unset, .unset] [(.long (((p0 &&& (2147483647 : Int32)).toInt64) - (1 : Int64))), (.long ((p0 &&& (2147483647 : Int32)).toInt64))]))
    refine own_via (fun t kz => XS.lmul X0.here hx rfl (hb hby at_30) rfl kz) ?_
    show own_Go p e below _ (s₁.setTop (mkF m 31 #[oI p0, oI p1, oJ p2, .second, oJ p3, .second, oJ p4, .second, oI (p0 &&& (2147483647 : Int32)), oI (1 : Int32), oJ ((p0 &&& (2147483647 : Int32)).toInt64), .second, .unset, .unset, .unset, .unset, .unset, .unset, .unset, .unset] [(.long (((p0 &&& (2147483647 : Int32)).toInt64) * (((p0 &&& (2147483647 : Int32)).toInt64) - (1 : Int64))))]))
    refine own_via (fun t kz => XS.lstore X0.here hx rfl (hb hby at_31) rfl (l' := #[oI p0, oI p1, oJ p2, .second, oJ p3, .second, oJ p4, .second, oI (p0 &&& (2147483647 : Int32)), oI (1 : Int32), oJ ((p0 &&& (2147483647 : Int32)).toInt64), .second, oJ (((p0 &&& (2147483647 : Int32)).toInt64) * (((p0 &&& (2147483647 : Int32)).toInt64) - (1 : Int64))), .second, .unset, .unset, .unset, .unset, .unset, .unset]) rfl kz) ?_
    show own_Go p e below _ (s₁.setTop (mkF m 33 #[oI p0, oI p1, oJ p2, .second, oJ p3, .second, oJ p4, .second, oI (p0 &&& (2147483647 : Int32)), oI (1 : Int32), oJ ((p0 &&& (2147483647 : Int32)).toInt64), .second, oJ (((p0 &&& (2147483647 : Int32)).toInt64) * (((p0 &&& (2147483647 : Int32)).toInt64) - (1 : Int64))), .second, .unset, .unset, .unset, .unset, .unset, .unset] []))
    refine own_via (fun t kz => XS.lload X0.here hx rfl (hb hby at_33) rfl kz) ?_
    show own_Go p e below _ (s₁.setTop (mkF m 35 #[oI p0, oI p1, oJ p2, .second, oJ p3, .second, oJ p4, .second, oI (p0 &&& (2147483647 : Int32)), oI (1 : Int32), oJ ((p0 &&& (2147483647 : Int32)).toInt64), .second, oJ (((p0 &&& (2147483647 : Int32)).toInt64) * (((p0 &&& (2147483647 : Int32)).toInt64) - (1 : Int64))), .second, .unset, .unset, .unset, .unset, .unset, .unset] [(.long ((p0 &&& (2147483647 : Int32)).toInt64))]))
    refine own_via (fun t kz => X0.ldc2Long hx hown (mvT hZ (own_w hw 1)) (g := (mkF m 35 #[oI p0, oI p1, oJ p2, .second, oJ p3, .second, oJ p4, .second, oI (p0 &&& (2147483647 : Int32)), oI (1 : Int32), oJ ((p0 &&& (2147483647 : Int32)).toInt64), .second, oJ (((p0 &&& (2147483647 : Int32)).toInt64) * (((p0 &&& (2147483647 : Int32)).toInt64) - (1 : Int64))), .second, .unset, .unset, .unset, .unset, .unset, .unset] [(.long ((p0 &&& (2147483647 : Int32)).toInt64))])) rfl (hb hby at_35) t kz) ?_
    show own_Go p e below _ (s₁.setTop (mkF m 38 #[oI p0, oI p1, oJ p2, .second, oJ p3, .second, oJ p4, .second, oI (p0 &&& (2147483647 : Int32)), oI (1 : Int32), oJ ((p0 &&& (2147483647 : Int32)).toInt64), .second, oJ (((p0 &&& (2147483647 : Int32)).toInt64) * (((p0 &&& (2147483647 : Int32)).toInt64) - (1 : Int64))), .second, .unset, .unset, .unset, .unset, .unset, .unset] [(.long (2 : Int64)), (.long ((p0 &&& (2147483647 : Int32)).toInt64))]))
    refine own_via (fun t kz => XS.lrem X0.here hx rfl (hb hby at_38) rfl (by decide) kz) ?_
    show own_Go p e below _ (s₁.setTop (mkF m 39 #[oI p0, oI p1, oJ p2, .second, oJ p3, .second, oJ p4, .second, oI (p0 &&& (2147483647 : Int32)), oI (1 : Int32), oJ ((p0 &&& (2147483647 : Int32)).toInt64), .second, oJ (((p0 &&& (2147483647 : Int32)).toInt64) * (((p0 &&& (2147483647 : Int32)).toInt64) - (1 : Int64))), .second, .unset, .unset, .unset, .unset, .unset, .unset] [(.long (((p0 &&& (2147483647 : Int32)).toInt64) - ((p0 &&& (2147483647 : Int32)).toInt64) / (2 : Int64) * (2 : Int64)))]))
    refine own_via (fun t kz => XS.lconst X0.here hx rfl (hb hby at_39) kz) ?_
    show own_Go p e below _ (s₁.setTop (mkF m 40 #[oI p0, oI p1, oJ p2, .second, oJ p3, .second, oJ p4, .second, oI (p0 &&& (2147483647 : Int32)), oI (1 : Int32), oJ ((p0 &&& (2147483647 : Int32)).toInt64), .second, oJ (((p0 &&& (2147483647 : Int32)).toInt64) * (((p0 &&& (2147483647 : Int32)).toInt64) - (1 : Int64))), .second, .unset, .unset, .unset, .unset, .unset, .unset] [(.long (0 : Int64)), (.long (((p0 &&& (2147483647 : Int32)).toInt64) - ((p0 &&& (2147483647 : Int32)).toInt64) / (2 : Int64) * (2 : Int64)))]))
    refine own_via (fun t kz => XS.lcmp X0.here hx rfl (hb hby at_40) rfl kz) ?_
    show own_Go p e below _ (s₁.setTop (mkF m 41 #[oI p0, oI p1, oJ p2, .second, oJ p3, .second, oJ p4, .second, oI (p0 &&& (2147483647 : Int32)), oI (1 : Int32), oJ ((p0 &&& (2147483647 : Int32)).toInt64), .second, oJ (((p0 &&& (2147483647 : Int32)).toInt64) * (((p0 &&& (2147483647 : Int32)).toInt64) - (1 : Int64))), .second, .unset, .unset, .unset, .unset, .unset, .unset] [(.int (lcmpW (((p0 &&& (2147483647 : Int32)).toInt64) - ((p0 &&& (2147483647 : Int32)).toInt64) / (2 : Int64) * (2 : Int64)) (0 : Int64)))]))
    by_cases hc41_65 : (((p0 &&& (2147483647 : Int32)).toInt64) - ((p0 &&& (2147483647 : Int32)).toInt64) / (2 : Int64) * (2 : Int64)) = (0 : Int64)
    · refine own_via (fun t kz => XS.ifNo X0.here hx rfl (hb hby at_41) rfl ((if0 _ _).trans (teq ((lw_eq _ _).mpr hc41_65)).2) kz) ?_
      show own_Go p e below _ (s₁.setTop (mkF m 44 #[oI p0, oI p1, oJ p2, .second, oJ p3, .second, oJ p4, .second, oI (p0 &&& (2147483647 : Int32)), oI (1 : Int32), oJ ((p0 &&& (2147483647 : Int32)).toInt64), .second, oJ (((p0 &&& (2147483647 : Int32)).toInt64) * (((p0 &&& (2147483647 : Int32)).toInt64) - (1 : Int64))), .second, .unset, .unset, .unset, .unset, .unset, .unset] []))
      refine own_via (fun t kz => XS.lload X0.here hx rfl (hb hby at_44) rfl kz) ?_
      show own_Go p e below _ (s₁.setTop (mkF m 46 #[oI p0, oI p1, oJ p2, .second, oJ p3, .second, oJ p4, .second, oI (p0 &&& (2147483647 : Int32)), oI (1 : Int32), oJ ((p0 &&& (2147483647 : Int32)).toInt64), .second, oJ (((p0 &&& (2147483647 : Int32)).toInt64) * (((p0 &&& (2147483647 : Int32)).toInt64) - (1 : Int64))), .second, .unset, .unset, .unset, .unset, .unset, .unset] [(.long ((p0 &&& (2147483647 : Int32)).toInt64))]))
      refine own_via (fun t kz => X0.ldc2Long hx hown (mvT hZ (own_w hw 1)) (g := (mkF m 46 #[oI p0, oI p1, oJ p2, .second, oJ p3, .second, oJ p4, .second, oI (p0 &&& (2147483647 : Int32)), oI (1 : Int32), oJ ((p0 &&& (2147483647 : Int32)).toInt64), .second, oJ (((p0 &&& (2147483647 : Int32)).toInt64) * (((p0 &&& (2147483647 : Int32)).toInt64) - (1 : Int64))), .second, .unset, .unset, .unset, .unset, .unset, .unset] [(.long ((p0 &&& (2147483647 : Int32)).toInt64))])) rfl (hb hby at_46) t kz) ?_
      show own_Go p e below _ (s₁.setTop (mkF m 49 #[oI p0, oI p1, oJ p2, .second, oJ p3, .second, oJ p4, .second, oI (p0 &&& (2147483647 : Int32)), oI (1 : Int32), oJ ((p0 &&& (2147483647 : Int32)).toInt64), .second, oJ (((p0 &&& (2147483647 : Int32)).toInt64) * (((p0 &&& (2147483647 : Int32)).toInt64) - (1 : Int64))), .second, .unset, .unset, .unset, .unset, .unset, .unset] [(.long (2 : Int64)), (.long ((p0 &&& (2147483647 : Int32)).toInt64))]))
      refine own_via (fun t kz => XS.ldiv X0.here hx rfl (hb hby at_49) rfl (by decide) kz) ?_
      show own_Go p e below _ (s₁.setTop (mkF m 50 #[oI p0, oI p1, oJ p2, .second, oJ p3, .second, oJ p4, .second, oI (p0 &&& (2147483647 : Int32)), oI (1 : Int32), oJ ((p0 &&& (2147483647 : Int32)).toInt64), .second, oJ (((p0 &&& (2147483647 : Int32)).toInt64) * (((p0 &&& (2147483647 : Int32)).toInt64) - (1 : Int64))), .second, .unset, .unset, .unset, .unset, .unset, .unset] [(.long (((p0 &&& (2147483647 : Int32)).toInt64) / (2 : Int64)))]))
      refine own_via (fun t kz => XS.lload X0.here hx rfl (hb hby at_50) rfl kz) ?_
      show own_Go p e below _ (s₁.setTop (mkF m 52 #[oI p0, oI p1, oJ p2, .second, oJ p3, .second, oJ p4, .second, oI (p0 &&& (2147483647 : Int32)), oI (1 : Int32), oJ ((p0 &&& (2147483647 : Int32)).toInt64), .second, oJ (((p0 &&& (2147483647 : Int32)).toInt64) * (((p0 &&& (2147483647 : Int32)).toInt64) - (1 : Int64))), .second, .unset, .unset, .unset, .unset, .unset, .unset] [(.long ((p0 &&& (2147483647 : Int32)).toInt64)), (.long (((p0 &&& (2147483647 : Int32)).toInt64) / (2 : Int64)))]))
      refine own_via (fun t kz => XS.lconst X0.here hx rfl (hb hby at_52) kz) ?_
      show own_Go p e below _ (s₁.setTop (mkF m 53 #[oI p0, oI p1, oJ p2, .second, oJ p3, .second, oJ p4, .second, oI (p0 &&& (2147483647 : Int32)), oI (1 : Int32), oJ ((p0 &&& (2147483647 : Int32)).toInt64), .second, oJ (((p0 &&& (2147483647 : Int32)).toInt64) * (((p0 &&& (2147483647 : Int32)).toInt64) - (1 : Int64))), .second, .unset, .unset, .unset, .unset, .unset, .unset] [(.long (1 : Int64)), (.long ((p0 &&& (2147483647 : Int32)).toInt64)), (.long (((p0 &&& (2147483647 : Int32)).toInt64) / (2 : Int64)))]))
      refine own_via (fun t kz => XS.lsub X0.here hx rfl (hb hby at_53) rfl kz) ?_
      show own_Go p e below _ (s₁.setTop (mkF m 54 #[oI p0, oI p1, oJ p2, .second, oJ p3, .second, oJ p4, .second, oI (p0 &&& (2147483647 : Int32)), oI (1 : Int32), oJ ((p0 &&& (2147483647 : Int32)).toInt64), .second, oJ (((p0 &&& (2147483647 : Int32)).toInt64) * (((p0 &&& (2147483647 : Int32)).toInt64) - (1 : Int64))), .second, .unset, .unset, .unset, .unset, .unset, .unset] [(.long (((p0 &&& (2147483647 : Int32)).toInt64) - (1 : Int64))), (.long (((p0 &&& (2147483647 : Int32)).toInt64) / (2 : Int64)))]))
      refine own_via (fun t kz => XS.lmul X0.here hx rfl (hb hby at_54) rfl kz) ?_
      show own_Go p e below _ (s₁.setTop (mkF m 55 #[oI p0, oI p1, oJ p2, .second, oJ p3, .second, oJ p4, .second, oI (p0 &&& (2147483647 : Int32)), oI (1 : Int32), oJ ((p0 &&& (2147483647 : Int32)).toInt64), .second, oJ (((p0 &&& (2147483647 : Int32)).toInt64) * (((p0 &&& (2147483647 : Int32)).toInt64) - (1 : Int64))), .second, .unset, .unset, .unset, .unset, .unset, .unset] [(.long ((((p0 &&& (2147483647 : Int32)).toInt64) / (2 : Int64)) * (((p0 &&& (2147483647 : Int32)).toInt64) - (1 : Int64))))]))
      refine own_via (fun t kz => XS.goto X0.here hx rfl (pc0 := 55) (pc' := 69) rfl (hb hby at_55) (by decide) (by decide) kz) ?_
      show own_Go p e below _ (s₁.setTop (mkF m 69 #[oI p0, oI p1, oJ p2, .second, oJ p3, .second, oJ p4, .second, oI (p0 &&& (2147483647 : Int32)), oI (1 : Int32), oJ ((p0 &&& (2147483647 : Int32)).toInt64), .second, oJ (((p0 &&& (2147483647 : Int32)).toInt64) * (((p0 &&& (2147483647 : Int32)).toInt64) - (1 : Int64))), .second, .unset, .unset, .unset, .unset, .unset, .unset] [(.long ((((p0 &&& (2147483647 : Int32)).toInt64) / (2 : Int64)) * (((p0 &&& (2147483647 : Int32)).toInt64) - (1 : Int64))))]))
      refine own_via (fun t kz => XS.lstore X0.here hx rfl (hb hby at_69) rfl (l' := #[oI p0, oI p1, oJ p2, .second, oJ p3, .second, oJ p4, .second, oI (p0 &&& (2147483647 : Int32)), oI (1 : Int32), oJ ((p0 &&& (2147483647 : Int32)).toInt64), .second, oJ (((p0 &&& (2147483647 : Int32)).toInt64) * (((p0 &&& (2147483647 : Int32)).toInt64) - (1 : Int64))), .second, oJ ((((p0 &&& (2147483647 : Int32)).toInt64) / (2 : Int64)) * (((p0 &&& (2147483647 : Int32)).toInt64) - (1 : Int64))), .second, .unset, .unset, .unset, .unset]) rfl kz) ?_
      show own_Go p e below _ (s₁.setTop (mkF m 71 #[oI p0, oI p1, oJ p2, .second, oJ p3, .second, oJ p4, .second, oI (p0 &&& (2147483647 : Int32)), oI (1 : Int32), oJ ((p0 &&& (2147483647 : Int32)).toInt64), .second, oJ (((p0 &&& (2147483647 : Int32)).toInt64) * (((p0 &&& (2147483647 : Int32)).toInt64) - (1 : Int64))), .second, oJ ((((p0 &&& (2147483647 : Int32)).toInt64) / (2 : Int64)) * (((p0 &&& (2147483647 : Int32)).toInt64) - (1 : Int64))), .second, .unset, .unset, .unset, .unset] []))
      refine own_via (fun t kz => XS.iconst X0.here hx rfl (hb hby at_71) kz) ?_
      show own_Go p e below _ (s₁.setTop (mkF m 72 #[oI p0, oI p1, oJ p2, .second, oJ p3, .second, oJ p4, .second, oI (p0 &&& (2147483647 : Int32)), oI (1 : Int32), oJ ((p0 &&& (2147483647 : Int32)).toInt64), .second, oJ (((p0 &&& (2147483647 : Int32)).toInt64) * (((p0 &&& (2147483647 : Int32)).toInt64) - (1 : Int64))), .second, oJ ((((p0 &&& (2147483647 : Int32)).toInt64) / (2 : Int64)) * (((p0 &&& (2147483647 : Int32)).toInt64) - (1 : Int64))), .second, .unset, .unset, .unset, .unset] [(.int (3 : Int32))]))
      obtain ⟨T66, h66, k66, X66, e66, E66, A66, st66⟩ := newP X0 hx hZ (aty := .long) (own_w hw 2) e0 (g := (mkF m 72 #[oI p0, oI p1, oJ p2, .second, oJ p3, .second, oJ p4, .second, oI (p0 &&& (2147483647 : Int32)), oI (1 : Int32), oJ ((p0 &&& (2147483647 : Int32)).toInt64), .second, oJ (((p0 &&& (2147483647 : Int32)).toInt64) * (((p0 &&& (2147483647 : Int32)).toInt64) - (1 : Int64))), .second, oJ ((((p0 &&& (2147483647 : Int32)).toInt64) / (2 : Int64)) * (((p0 &&& (2147483647 : Int32)).toInt64) - (1 : Int64))), .second, .unset, .unset, .unset, .unset] [(.int (3 : Int32))])) rfl (hb hby at_72) rfl (by decide) (cap := 3) (by decide) (by decide) (by decide) (by decide)
      obtain ⟨a66, g66⟩ : ∃ z, z = h0.size := ⟨_, rfl⟩
      rw [← g66] at A66 st66
      refine own_via st66 ?_
      have fr67 : n0 ≤ a66 := Nat.le_trans Z0 (Nat.le_of_eq g66.symm)
      have Zs68 : n0 ≤ h66.size := Nat.le_trans Z0 E66.1
      have V69 : Arv Z h66 a66 k66 .long (3 : Int32) [(.long (0 : Int64)), (.long (0 : Int64)), (.long (0 : Int64))] (.long (0 : Int64)) := (Arv.new A66 (by decide)).pad (pad_rep [] (.long (0 : Int64)) 3)
      show own_Go p e below _ (T66.setTop (mkF m 74 #[oI p0, oI p1, oJ p2, .second, oJ p3, .second, oJ p4, .second, oI (p0 &&& (2147483647 : Int32)), oI (1 : Int32), oJ ((p0 &&& (2147483647 : Int32)).toInt64), .second, oJ (((p0 &&& (2147483647 : Int32)).toInt64) * (((p0 &&& (2147483647 : Int32)).toInt64) - (1 : Int64))), .second, oJ ((((p0 &&& (2147483647 : Int32)).toInt64) / (2 : Int64)) * (((p0 &&& (2147483647 : Int32)).toInt64) - (1 : Int64))), .second, .unset, .unset, .unset, .unset] [(.ref a66)]))
      refine own_via (fun t kz => XS.astore X66.here hx rfl (hb hby at_74) rfl rfl (l' := #[oI p0, oI p1, oJ p2, .second, oJ p3, .second, oJ p4, .second, oI (p0 &&& (2147483647 : Int32)), oI (1 : Int32), oJ ((p0 &&& (2147483647 : Int32)).toInt64), .second, oJ (((p0 &&& (2147483647 : Int32)).toInt64) * (((p0 &&& (2147483647 : Int32)).toInt64) - (1 : Int64))), .second, oJ ((((p0 &&& (2147483647 : Int32)).toInt64) / (2 : Int64)) * (((p0 &&& (2147483647 : Int32)).toInt64) - (1 : Int64))), .second, oR a66, .unset, .unset, .unset]) rfl kz) ?_
      show own_Go p e below _ (T66.setTop (mkF m 76 #[oI p0, oI p1, oJ p2, .second, oJ p3, .second, oJ p4, .second, oI (p0 &&& (2147483647 : Int32)), oI (1 : Int32), oJ ((p0 &&& (2147483647 : Int32)).toInt64), .second, oJ (((p0 &&& (2147483647 : Int32)).toInt64) * (((p0 &&& (2147483647 : Int32)).toInt64) - (1 : Int64))), .second, oJ ((((p0 &&& (2147483647 : Int32)).toInt64) / (2 : Int64)) * (((p0 &&& (2147483647 : Int32)).toInt64) - (1 : Int64))), .second, oR a66, .unset, .unset, .unset] []))
      refine own_via (fun t kz => XS.aload X66.here hx rfl (hb hby at_76) rfl rfl kz) ?_
      show own_Go p e below _ (T66.setTop (mkF m 78 #[oI p0, oI p1, oJ p2, .second, oJ p3, .second, oJ p4, .second, oI (p0 &&& (2147483647 : Int32)), oI (1 : Int32), oJ ((p0 &&& (2147483647 : Int32)).toInt64), .second, oJ (((p0 &&& (2147483647 : Int32)).toInt64) * (((p0 &&& (2147483647 : Int32)).toInt64) - (1 : Int64))), .second, oJ ((((p0 &&& (2147483647 : Int32)).toInt64) / (2 : Int64)) * (((p0 &&& (2147483647 : Int32)).toInt64) - (1 : Int64))), .second, oR a66, .unset, .unset, .unset] [(.ref a66)]))
      refine own_via (fun t kz => XS.iconst X66.here hx rfl (hb hby at_78) kz) ?_
      show own_Go p e below _ (T66.setTop (mkF m 79 #[oI p0, oI p1, oJ p2, .second, oJ p3, .second, oJ p4, .second, oI (p0 &&& (2147483647 : Int32)), oI (1 : Int32), oJ ((p0 &&& (2147483647 : Int32)).toInt64), .second, oJ (((p0 &&& (2147483647 : Int32)).toInt64) * (((p0 &&& (2147483647 : Int32)).toInt64) - (1 : Int64))), .second, oJ ((((p0 &&& (2147483647 : Int32)).toInt64) / (2 : Int64)) * (((p0 &&& (2147483647 : Int32)).toInt64) - (1 : Int64))), .second, oR a66, .unset, .unset, .unset] [(.int (0 : Int32)), (.ref a66)]))
      refine own_via (fun t kz => XS.lload X66.here hx rfl (hb hby at_79) rfl kz) ?_
      show own_Go p e below _ (T66.setTop (mkF m 81 #[oI p0, oI p1, oJ p2, .second, oJ p3, .second, oJ p4, .second, oI (p0 &&& (2147483647 : Int32)), oI (1 : Int32), oJ ((p0 &&& (2147483647 : Int32)).toInt64), .second, oJ (((p0 &&& (2147483647 : Int32)).toInt64) * (((p0 &&& (2147483647 : Int32)).toInt64) - (1 : Int64))), .second, oJ ((((p0 &&& (2147483647 : Int32)).toInt64) / (2 : Int64)) * (((p0 &&& (2147483647 : Int32)).toInt64) - (1 : Int64))), .second, oR a66, .unset, .unset, .unset] [(.long (((p0 &&& (2147483647 : Int32)).toInt64) * (((p0 &&& (2147483647 : Int32)).toInt64) - (1 : Int64)))), (.int (0 : Int32)), (.ref a66)]))
      refine own_via (fun t kz => XS.lloadN X66.here hx rfl (hb hby at_81) rfl kz) ?_
      show own_Go p e below _ (T66.setTop (mkF m 82 #[oI p0, oI p1, oJ p2, .second, oJ p3, .second, oJ p4, .second, oI (p0 &&& (2147483647 : Int32)), oI (1 : Int32), oJ ((p0 &&& (2147483647 : Int32)).toInt64), .second, oJ (((p0 &&& (2147483647 : Int32)).toInt64) * (((p0 &&& (2147483647 : Int32)).toInt64) - (1 : Int64))), .second, oJ ((((p0 &&& (2147483647 : Int32)).toInt64) / (2 : Int64)) * (((p0 &&& (2147483647 : Int32)).toInt64) - (1 : Int64))), .second, oR a66, .unset, .unset, .unset] [(.long p2), (.long (((p0 &&& (2147483647 : Int32)).toInt64) * (((p0 &&& (2147483647 : Int32)).toInt64) - (1 : Int64)))), (.int (0 : Int32)), (.ref a66)]))
      refine own_via (fun t kz => XS.lsub X66.here hx rfl (hb hby at_82) rfl kz) ?_
      show own_Go p e below _ (T66.setTop (mkF m 83 #[oI p0, oI p1, oJ p2, .second, oJ p3, .second, oJ p4, .second, oI (p0 &&& (2147483647 : Int32)), oI (1 : Int32), oJ ((p0 &&& (2147483647 : Int32)).toInt64), .second, oJ (((p0 &&& (2147483647 : Int32)).toInt64) * (((p0 &&& (2147483647 : Int32)).toInt64) - (1 : Int64))), .second, oJ ((((p0 &&& (2147483647 : Int32)).toInt64) / (2 : Int64)) * (((p0 &&& (2147483647 : Int32)).toInt64) - (1 : Int64))), .second, oR a66, .unset, .unset, .unset] [(.long ((((p0 &&& (2147483647 : Int32)).toInt64) * (((p0 &&& (2147483647 : Int32)).toInt64) - (1 : Int64))) - p2)), (.int (0 : Int32)), (.ref a66)]))
      obtain ⟨cl70, Ar70, kc70, Sz70, Nn70, Hs70, Gs70⟩ := id V69
      obtain ⟨T70, h70, X70, e70, W70, st70⟩ := stJ X66 hx hZ e66 Ar70 (j := (0 : Int32)) (inb_of Sz70 ⟨by decide, by decide⟩) (g := (mkF m 83 #[oI p0, oI p1, oJ p2, .second, oJ p3, .second, oJ p4, .second, oI (p0 &&& (2147483647 : Int32)), oI (1 : Int32), oJ ((p0 &&& (2147483647 : Int32)).toInt64), .second, oJ (((p0 &&& (2147483647 : Int32)).toInt64) * (((p0 &&& (2147483647 : Int32)).toInt64) - (1 : Int64))), .second, oJ ((((p0 &&& (2147483647 : Int32)).toInt64) / (2 : Int64)) * (((p0 &&& (2147483647 : Int32)).toInt64) - (1 : Int64))), .second, oR a66, .unset, .unset, .unset] [(.long ((((p0 &&& (2147483647 : Int32)).toInt64) * (((p0 &&& (2147483647 : Int32)).toInt64) - (1 : Int64))) - p2)), (.int (0 : Int32)), (.ref a66)])) rfl rfl (hb hby at_83)
      refine own_via st70 ?_
      have Zs71 : n0 ≤ h70.size := Nat.le_trans Zs68 (Keep.of_wr W70).1
      have N72 := Fr.snoc X70 N0 fr67
      have V73 : Arv Z h70 a66 k66 .long (3 : Int32) [(.long ((((p0 &&& (2147483647 : Int32)).toInt64) * (((p0 &&& (2147483647 : Int32)).toInt64) - (1 : Int64))) - p2)), (.long (0 : Int64)), (.long (0 : Int64))] (.long (0 : Int64)) := Arv.set Ar70 kc70 Sz70 Nn70 Hs70 Gs70 rfl W70 0 (by first | decide | (show 0 < 3; decide)) (by first | decide | (show 0 < 3; decide))
      show own_Go p e below _ (T70.setTop (mkF m 84 #[oI p0, oI p1, oJ p2, .second, oJ p3, .second, oJ p4, .second, oI (p0 &&& (2147483647 : Int32)), oI (1 : Int32), oJ ((p0 &&& (2147483647 : Int32)).toInt64), .second, oJ (((p0 &&& (2147483647 : Int32)).toInt64) * (((p0 &&& (2147483647 : Int32)).toInt64) - (1 : Int64))), .second, oJ ((((p0 &&& (2147483647 : Int32)).toInt64) / (2 : Int64)) * (((p0 &&& (2147483647 : Int32)).toInt64) - (1 : Int64))), .second, oR a66, .unset, .unset, .unset] []))
      refine own_via (fun t kz => XS.aload X70.here hx rfl (hb hby at_84) rfl rfl kz) ?_
      show own_Go p e below _ (T70.setTop (mkF m 86 #[oI p0, oI p1, oJ p2, .second, oJ p3, .second, oJ p4, .second, oI (p0 &&& (2147483647 : Int32)), oI (1 : Int32), oJ ((p0 &&& (2147483647 : Int32)).toInt64), .second, oJ (((p0 &&& (2147483647 : Int32)).toInt64) * (((p0 &&& (2147483647 : Int32)).toInt64) - (1 : Int64))), .second, oJ ((((p0 &&& (2147483647 : Int32)).toInt64) / (2 : Int64)) * (((p0 &&& (2147483647 : Int32)).toInt64) - (1 : Int64))), .second, oR a66, .unset, .unset, .unset] [(.ref a66)]))
      refine own_via (fun t kz => XS.iconst X70.here hx rfl (hb hby at_86) kz) ?_
      show own_Go p e below _ (T70.setTop (mkF m 87 #[oI p0, oI p1, oJ p2, .second, oJ p3, .second, oJ p4, .second, oI (p0 &&& (2147483647 : Int32)), oI (1 : Int32), oJ ((p0 &&& (2147483647 : Int32)).toInt64), .second, oJ (((p0 &&& (2147483647 : Int32)).toInt64) * (((p0 &&& (2147483647 : Int32)).toInt64) - (1 : Int64))), .second, oJ ((((p0 &&& (2147483647 : Int32)).toInt64) / (2 : Int64)) * (((p0 &&& (2147483647 : Int32)).toInt64) - (1 : Int64))), .second, oR a66, .unset, .unset, .unset] [(.int (1 : Int32)), (.ref a66)]))
      refine own_via (fun t kz => XS.lload X70.here hx rfl (hb hby at_87) rfl kz) ?_
      show own_Go p e below _ (T70.setTop (mkF m 89 #[oI p0, oI p1, oJ p2, .second, oJ p3, .second, oJ p4, .second, oI (p0 &&& (2147483647 : Int32)), oI (1 : Int32), oJ ((p0 &&& (2147483647 : Int32)).toInt64), .second, oJ (((p0 &&& (2147483647 : Int32)).toInt64) * (((p0 &&& (2147483647 : Int32)).toInt64) - (1 : Int64))), .second, oJ ((((p0 &&& (2147483647 : Int32)).toInt64) / (2 : Int64)) * (((p0 &&& (2147483647 : Int32)).toInt64) - (1 : Int64))), .second, oR a66, .unset, .unset, .unset] [(.long p3), (.int (1 : Int32)), (.ref a66)]))
      obtain ⟨cl74, Ar74, kc74, Sz74, Nn74, Hs74, Gs74⟩ := id V73
      obtain ⟨T74, h74, X74, e74, W74, st74⟩ := stJ X70 hx hZ e70 Ar74 (j := (1 : Int32)) (inb_of Sz74 ⟨by decide, by decide⟩) (g := (mkF m 89 #[oI p0, oI p1, oJ p2, .second, oJ p3, .second, oJ p4, .second, oI (p0 &&& (2147483647 : Int32)), oI (1 : Int32), oJ ((p0 &&& (2147483647 : Int32)).toInt64), .second, oJ (((p0 &&& (2147483647 : Int32)).toInt64) * (((p0 &&& (2147483647 : Int32)).toInt64) - (1 : Int64))), .second, oJ ((((p0 &&& (2147483647 : Int32)).toInt64) / (2 : Int64)) * (((p0 &&& (2147483647 : Int32)).toInt64) - (1 : Int64))), .second, oR a66, .unset, .unset, .unset] [(.long p3), (.int (1 : Int32)), (.ref a66)])) rfl rfl (hb hby at_89)
      refine own_via st74 ?_
      have Zs75 : n0 ≤ h74.size := Nat.le_trans Zs71 (Keep.of_wr W74).1
      have N76 := Fr.snoc X74 N72 fr67
      have V77 : Arv Z h74 a66 k66 .long (3 : Int32) [(.long ((((p0 &&& (2147483647 : Int32)).toInt64) * (((p0 &&& (2147483647 : Int32)).toInt64) - (1 : Int64))) - p2)), (.long p3), (.long (0 : Int64))] (.long (0 : Int64)) := Arv.set Ar74 kc74 Sz74 Nn74 Hs74 Gs74 rfl W74 1 (by first | decide | (show 1 < 3; decide)) (by first | decide | (show 1 < 3; decide))
      show own_Go p e below _ (T74.setTop (mkF m 90 #[oI p0, oI p1, oJ p2, .second, oJ p3, .second, oJ p4, .second, oI (p0 &&& (2147483647 : Int32)), oI (1 : Int32), oJ ((p0 &&& (2147483647 : Int32)).toInt64), .second, oJ (((p0 &&& (2147483647 : Int32)).toInt64) * (((p0 &&& (2147483647 : Int32)).toInt64) - (1 : Int64))), .second, oJ ((((p0 &&& (2147483647 : Int32)).toInt64) / (2 : Int64)) * (((p0 &&& (2147483647 : Int32)).toInt64) - (1 : Int64))), .second, oR a66, .unset, .unset, .unset] []))
      refine own_via (fun t kz => XS.aload X74.here hx rfl (hb hby at_90) rfl rfl kz) ?_
      show own_Go p e below _ (T74.setTop (mkF m 92 #[oI p0, oI p1, oJ p2, .second, oJ p3, .second, oJ p4, .second, oI (p0 &&& (2147483647 : Int32)), oI (1 : Int32), oJ ((p0 &&& (2147483647 : Int32)).toInt64), .second, oJ (((p0 &&& (2147483647 : Int32)).toInt64) * (((p0 &&& (2147483647 : Int32)).toInt64) - (1 : Int64))), .second, oJ ((((p0 &&& (2147483647 : Int32)).toInt64) / (2 : Int64)) * (((p0 &&& (2147483647 : Int32)).toInt64) - (1 : Int64))), .second, oR a66, .unset, .unset, .unset] [(.ref a66)]))
      refine own_via (fun t kz => XS.iconst X74.here hx rfl (hb hby at_92) kz) ?_
      show own_Go p e below _ (T74.setTop (mkF m 93 #[oI p0, oI p1, oJ p2, .second, oJ p3, .second, oJ p4, .second, oI (p0 &&& (2147483647 : Int32)), oI (1 : Int32), oJ ((p0 &&& (2147483647 : Int32)).toInt64), .second, oJ (((p0 &&& (2147483647 : Int32)).toInt64) * (((p0 &&& (2147483647 : Int32)).toInt64) - (1 : Int64))), .second, oJ ((((p0 &&& (2147483647 : Int32)).toInt64) / (2 : Int64)) * (((p0 &&& (2147483647 : Int32)).toInt64) - (1 : Int64))), .second, oR a66, .unset, .unset, .unset] [(.int (2 : Int32)), (.ref a66)]))
      refine own_via (fun t kz => XS.lload X74.here hx rfl (hb hby at_93) rfl kz) ?_
      show own_Go p e below _ (T74.setTop (mkF m 95 #[oI p0, oI p1, oJ p2, .second, oJ p3, .second, oJ p4, .second, oI (p0 &&& (2147483647 : Int32)), oI (1 : Int32), oJ ((p0 &&& (2147483647 : Int32)).toInt64), .second, oJ (((p0 &&& (2147483647 : Int32)).toInt64) * (((p0 &&& (2147483647 : Int32)).toInt64) - (1 : Int64))), .second, oJ ((((p0 &&& (2147483647 : Int32)).toInt64) / (2 : Int64)) * (((p0 &&& (2147483647 : Int32)).toInt64) - (1 : Int64))), .second, oR a66, .unset, .unset, .unset] [(.long ((((p0 &&& (2147483647 : Int32)).toInt64) / (2 : Int64)) * (((p0 &&& (2147483647 : Int32)).toInt64) - (1 : Int64)))), (.int (2 : Int32)), (.ref a66)]))
      refine own_via (fun t kz => XS.lload X74.here hx rfl (hb hby at_95) rfl kz) ?_
      show own_Go p e below _ (T74.setTop (mkF m 97 #[oI p0, oI p1, oJ p2, .second, oJ p3, .second, oJ p4, .second, oI (p0 &&& (2147483647 : Int32)), oI (1 : Int32), oJ ((p0 &&& (2147483647 : Int32)).toInt64), .second, oJ (((p0 &&& (2147483647 : Int32)).toInt64) * (((p0 &&& (2147483647 : Int32)).toInt64) - (1 : Int64))), .second, oJ ((((p0 &&& (2147483647 : Int32)).toInt64) / (2 : Int64)) * (((p0 &&& (2147483647 : Int32)).toInt64) - (1 : Int64))), .second, oR a66, .unset, .unset, .unset] [(.long p4), (.long ((((p0 &&& (2147483647 : Int32)).toInt64) / (2 : Int64)) * (((p0 &&& (2147483647 : Int32)).toInt64) - (1 : Int64)))), (.int (2 : Int32)), (.ref a66)]))
      refine own_via (fun t kz => XS.lsub X74.here hx rfl (hb hby at_97) rfl kz) ?_
      show own_Go p e below _ (T74.setTop (mkF m 98 #[oI p0, oI p1, oJ p2, .second, oJ p3, .second, oJ p4, .second, oI (p0 &&& (2147483647 : Int32)), oI (1 : Int32), oJ ((p0 &&& (2147483647 : Int32)).toInt64), .second, oJ (((p0 &&& (2147483647 : Int32)).toInt64) * (((p0 &&& (2147483647 : Int32)).toInt64) - (1 : Int64))), .second, oJ ((((p0 &&& (2147483647 : Int32)).toInt64) / (2 : Int64)) * (((p0 &&& (2147483647 : Int32)).toInt64) - (1 : Int64))), .second, oR a66, .unset, .unset, .unset] [(.long (((((p0 &&& (2147483647 : Int32)).toInt64) / (2 : Int64)) * (((p0 &&& (2147483647 : Int32)).toInt64) - (1 : Int64))) - p4)), (.int (2 : Int32)), (.ref a66)]))
      obtain ⟨cl78, Ar78, kc78, Sz78, Nn78, Hs78, Gs78⟩ := id V77
      obtain ⟨T78, h78, X78, e78, W78, st78⟩ := stJ X74 hx hZ e74 Ar78 (j := (2 : Int32)) (inb_of Sz78 ⟨by decide, by decide⟩) (g := (mkF m 98 #[oI p0, oI p1, oJ p2, .second, oJ p3, .second, oJ p4, .second, oI (p0 &&& (2147483647 : Int32)), oI (1 : Int32), oJ ((p0 &&& (2147483647 : Int32)).toInt64), .second, oJ (((p0 &&& (2147483647 : Int32)).toInt64) * (((p0 &&& (2147483647 : Int32)).toInt64) - (1 : Int64))), .second, oJ ((((p0 &&& (2147483647 : Int32)).toInt64) / (2 : Int64)) * (((p0 &&& (2147483647 : Int32)).toInt64) - (1 : Int64))), .second, oR a66, .unset, .unset, .unset] [(.long (((((p0 &&& (2147483647 : Int32)).toInt64) / (2 : Int64)) * (((p0 &&& (2147483647 : Int32)).toInt64) - (1 : Int64))) - p4)), (.int (2 : Int32)), (.ref a66)])) rfl rfl (hb hby at_98)
      refine own_via st78 ?_
      have Zs79 : n0 ≤ h78.size := Nat.le_trans Zs75 (Keep.of_wr W78).1
      have N80 := Fr.snoc X78 N76 fr67
      have V81 : Arv Z h78 a66 k66 .long (3 : Int32) [(.long ((((p0 &&& (2147483647 : Int32)).toInt64) * (((p0 &&& (2147483647 : Int32)).toInt64) - (1 : Int64))) - p2)), (.long p3), (.long (((((p0 &&& (2147483647 : Int32)).toInt64) / (2 : Int64)) * (((p0 &&& (2147483647 : Int32)).toInt64) - (1 : Int64))) - p4))] (.long (0 : Int64)) := Arv.set Ar78 kc78 Sz78 Nn78 Hs78 Gs78 rfl W78 2 (by first | decide | (show 2 < 3; decide)) (by first | decide | (show 2 < 3; decide))
      show own_Go p e below _ (T78.setTop (mkF m 99 #[oI p0, oI p1, oJ p2, .second, oJ p3, .second, oJ p4, .second, oI (p0 &&& (2147483647 : Int32)), oI (1 : Int32), oJ ((p0 &&& (2147483647 : Int32)).toInt64), .second, oJ (((p0 &&& (2147483647 : Int32)).toInt64) * (((p0 &&& (2147483647 : Int32)).toInt64) - (1 : Int64))), .second, oJ ((((p0 &&& (2147483647 : Int32)).toInt64) / (2 : Int64)) * (((p0 &&& (2147483647 : Int32)).toInt64) - (1 : Int64))), .second, oR a66, .unset, .unset, .unset] []))
      refine own_via (fun t kz => XS.lloadN X78.here hx rfl (hb hby at_99) rfl kz) ?_
      show own_Go p e below _ (T78.setTop (mkF m 100 #[oI p0, oI p1, oJ p2, .second, oJ p3, .second, oJ p4, .second, oI (p0 &&& (2147483647 : Int32)), oI (1 : Int32), oJ ((p0 &&& (2147483647 : Int32)).toInt64), .second, oJ (((p0 &&& (2147483647 : Int32)).toInt64) * (((p0 &&& (2147483647 : Int32)).toInt64) - (1 : Int64))), .second, oJ ((((p0 &&& (2147483647 : Int32)).toInt64) / (2 : Int64)) * (((p0 &&& (2147483647 : Int32)).toInt64) - (1 : Int64))), .second, oR a66, .unset, .unset, .unset] [(.long p2)]))
      refine own_via (fun t kz => XS.lload X78.here hx rfl (hb hby at_100) rfl kz) ?_
      show own_Go p e below _ (T78.setTop (mkF m 102 #[oI p0, oI p1, oJ p2, .second, oJ p3, .second, oJ p4, .second, oI (p0 &&& (2147483647 : Int32)), oI (1 : Int32), oJ ((p0 &&& (2147483647 : Int32)).toInt64), .second, oJ (((p0 &&& (2147483647 : Int32)).toInt64) * (((p0 &&& (2147483647 : Int32)).toInt64) - (1 : Int64))), .second, oJ ((((p0 &&& (2147483647 : Int32)).toInt64) / (2 : Int64)) * (((p0 &&& (2147483647 : Int32)).toInt64) - (1 : Int64))), .second, oR a66, .unset, .unset, .unset] [(.long p3), (.long p2)]))
      refine own_via (fun t kz => XS.ladd X78.here hx rfl (hb hby at_102) rfl kz) ?_
      show own_Go p e below _ (T78.setTop (mkF m 103 #[oI p0, oI p1, oJ p2, .second, oJ p3, .second, oJ p4, .second, oI (p0 &&& (2147483647 : Int32)), oI (1 : Int32), oJ ((p0 &&& (2147483647 : Int32)).toInt64), .second, oJ (((p0 &&& (2147483647 : Int32)).toInt64) * (((p0 &&& (2147483647 : Int32)).toInt64) - (1 : Int64))), .second, oJ ((((p0 &&& (2147483647 : Int32)).toInt64) / (2 : Int64)) * (((p0 &&& (2147483647 : Int32)).toInt64) - (1 : Int64))), .second, oR a66, .unset, .unset, .unset] [(.long (p2 + p3))]))
      refine own_via (fun t kz => XS.iload X78.here hx rfl (hb hby at_103) rfl kz) ?_
      show own_Go p e below _ (T78.setTop (mkF m 105 #[oI p0, oI p1, oJ p2, .second, oJ p3, .second, oJ p4, .second, oI (p0 &&& (2147483647 : Int32)), oI (1 : Int32), oJ ((p0 &&& (2147483647 : Int32)).toInt64), .second, oJ (((p0 &&& (2147483647 : Int32)).toInt64) * (((p0 &&& (2147483647 : Int32)).toInt64) - (1 : Int64))), .second, oJ ((((p0 &&& (2147483647 : Int32)).toInt64) / (2 : Int64)) * (((p0 &&& (2147483647 : Int32)).toInt64) - (1 : Int64))), .second, oR a66, .unset, .unset, .unset] [(.int (1 : Int32)), (.long (p2 + p3))]))
      refine own_via (fun t kz => XS.ifNo X78.here hx rfl (hb hby at_105) rfl ((if0 _ _).trans (feq (by decide : ¬ ((1 : Int32) = (0 : Int32)))).1) kz) ?_
      show own_Go p e below _ (T78.setTop (mkF m 108 #[oI p0, oI p1, oJ p2, .second, oJ p3, .second, oJ p4, .second, oI (p0 &&& (2147483647 : Int32)), oI (1 : Int32), oJ ((p0 &&& (2147483647 : Int32)).toInt64), .second, oJ (((p0 &&& (2147483647 : Int32)).toInt64) * (((p0 &&& (2147483647 : Int32)).toInt64) - (1 : Int64))), .second, oJ ((((p0 &&& (2147483647 : Int32)).toInt64) / (2 : Int64)) * (((p0 &&& (2147483647 : Int32)).toInt64) - (1 : Int64))), .second, oR a66, .unset, .unset, .unset] [(.long (p2 + p3))]))
      refine own_via (fun t kz => X78.ldc2Long hx hown (mvT hZ (own_w hw 1)) (g := (mkF m 108 #[oI p0, oI p1, oJ p2, .second, oJ p3, .second, oJ p4, .second, oI (p0 &&& (2147483647 : Int32)), oI (1 : Int32), oJ ((p0 &&& (2147483647 : Int32)).toInt64), .second, oJ (((p0 &&& (2147483647 : Int32)).toInt64) * (((p0 &&& (2147483647 : Int32)).toInt64) - (1 : Int64))), .second, oJ ((((p0 &&& (2147483647 : Int32)).toInt64) / (2 : Int64)) * (((p0 &&& (2147483647 : Int32)).toInt64) - (1 : Int64))), .second, oR a66, .unset, .unset, .unset] [(.long (p2 + p3))])) rfl (hb hby at_108) t kz) ?_
      show own_Go p e below _ (T78.setTop (mkF m 111 #[oI p0, oI p1, oJ p2, .second, oJ p3, .second, oJ p4, .second, oI (p0 &&& (2147483647 : Int32)), oI (1 : Int32), oJ ((p0 &&& (2147483647 : Int32)).toInt64), .second, oJ (((p0 &&& (2147483647 : Int32)).toInt64) * (((p0 &&& (2147483647 : Int32)).toInt64) - (1 : Int64))), .second, oJ ((((p0 &&& (2147483647 : Int32)).toInt64) / (2 : Int64)) * (((p0 &&& (2147483647 : Int32)).toInt64) - (1 : Int64))), .second, oR a66, .unset, .unset, .unset] [(.long (2 : Int64)), (.long (p2 + p3))]))
      refine own_via (fun t kz => XS.lload X78.here hx rfl (hb hby at_111) rfl kz) ?_
      show own_Go p e below _ (T78.setTop (mkF m 113 #[oI p0, oI p1, oJ p2, .second, oJ p3, .second, oJ p4, .second, oI (p0 &&& (2147483647 : Int32)), oI (1 : Int32), oJ ((p0 &&& (2147483647 : Int32)).toInt64), .second, oJ (((p0 &&& (2147483647 : Int32)).toInt64) * (((p0 &&& (2147483647 : Int32)).toInt64) - (1 : Int64))), .second, oJ ((((p0 &&& (2147483647 : Int32)).toInt64) / (2 : Int64)) * (((p0 &&& (2147483647 : Int32)).toInt64) - (1 : Int64))), .second, oR a66, .unset, .unset, .unset] [(.long p4), (.long (2 : Int64)), (.long (p2 + p3))]))
      refine own_via (fun t kz => XS.lmul X78.here hx rfl (hb hby at_113) rfl kz) ?_
      show own_Go p e below _ (T78.setTop (mkF m 114 #[oI p0, oI p1, oJ p2, .second, oJ p3, .second, oJ p4, .second, oI (p0 &&& (2147483647 : Int32)), oI (1 : Int32), oJ ((p0 &&& (2147483647 : Int32)).toInt64), .second, oJ (((p0 &&& (2147483647 : Int32)).toInt64) * (((p0 &&& (2147483647 : Int32)).toInt64) - (1 : Int64))), .second, oJ ((((p0 &&& (2147483647 : Int32)).toInt64) / (2 : Int64)) * (((p0 &&& (2147483647 : Int32)).toInt64) - (1 : Int64))), .second, oR a66, .unset, .unset, .unset] [(.long ((2 : Int64) * p4)), (.long (p2 + p3))]))
      refine own_via (fun t kz => XS.goto X78.here hx rfl (pc0 := 114) (pc' := 118) rfl (hb hby at_114) (by decide) (by decide) kz) ?_
      show own_Go p e below _ (T78.setTop (mkF m 118 #[oI p0, oI p1, oJ p2, .second, oJ p3, .second, oJ p4, .second, oI (p0 &&& (2147483647 : Int32)), oI (1 : Int32), oJ ((p0 &&& (2147483647 : Int32)).toInt64), .second, oJ (((p0 &&& (2147483647 : Int32)).toInt64) * (((p0 &&& (2147483647 : Int32)).toInt64) - (1 : Int64))), .second, oJ ((((p0 &&& (2147483647 : Int32)).toInt64) / (2 : Int64)) * (((p0 &&& (2147483647 : Int32)).toInt64) - (1 : Int64))), .second, oR a66, .unset, .unset, .unset] [(.long ((2 : Int64) * p4)), (.long (p2 + p3))]))
      refine own_via (fun t kz => XS.ladd X78.here hx rfl (hb hby at_118) rfl kz) ?_
      show own_Go p e below _ (T78.setTop (mkF m 119 #[oI p0, oI p1, oJ p2, .second, oJ p3, .second, oJ p4, .second, oI (p0 &&& (2147483647 : Int32)), oI (1 : Int32), oJ ((p0 &&& (2147483647 : Int32)).toInt64), .second, oJ (((p0 &&& (2147483647 : Int32)).toInt64) * (((p0 &&& (2147483647 : Int32)).toInt64) - (1 : Int64))), .second, oJ ((((p0 &&& (2147483647 : Int32)).toInt64) / (2 : Int64)) * (((p0 &&& (2147483647 : Int32)).toInt64) - (1 : Int64))), .second, oR a66, .unset, .unset, .unset] [(.long ((p2 + p3) + ((2 : Int64) * p4)))]))
      refine own_via (fun t kz => XS.lstore X78.here hx rfl (hb hby at_119) rfl (l' := #[oI p0, oI p1, oJ p2, .second, oJ p3, .second, oJ p4, .second, oI (p0 &&& (2147483647 : Int32)), oI (1 : Int32), oJ ((p0 &&& (2147483647 : Int32)).toInt64), .second, oJ (((p0 &&& (2147483647 : Int32)).toInt64) * (((p0 &&& (2147483647 : Int32)).toInt64) - (1 : Int64))), .second, oJ ((((p0 &&& (2147483647 : Int32)).toInt64) / (2 : Int64)) * (((p0 &&& (2147483647 : Int32)).toInt64) - (1 : Int64))), .second, oR a66, oJ ((p2 + p3) + ((2 : Int64) * p4)), .second, .unset]) rfl kz) ?_
      show own_Go p e below _ (T78.setTop (mkF m 121 #[oI p0, oI p1, oJ p2, .second, oJ p3, .second, oJ p4, .second, oI (p0 &&& (2147483647 : Int32)), oI (1 : Int32), oJ ((p0 &&& (2147483647 : Int32)).toInt64), .second, oJ (((p0 &&& (2147483647 : Int32)).toInt64) * (((p0 &&& (2147483647 : Int32)).toInt64) - (1 : Int64))), .second, oJ ((((p0 &&& (2147483647 : Int32)).toInt64) / (2 : Int64)) * (((p0 &&& (2147483647 : Int32)).toInt64) - (1 : Int64))), .second, oR a66, oJ ((p2 + p3) + ((2 : Int64) * p4)), .second, .unset] []))
      obtain ⟨T82, h82, X82, e82, E82, A82, D82, -, st82⟩ := newO X78 hx hZ hown (own_w hw 3) (own_w hw 4) (own_w hw 5) e78 (g := (mkF m 121 #[oI p0, oI p1, oJ p2, .second, oJ p3, .second, oJ p4, .second, oI (p0 &&& (2147483647 : Int32)), oI (1 : Int32), oJ ((p0 &&& (2147483647 : Int32)).toInt64), .second, oJ (((p0 &&& (2147483647 : Int32)).toInt64) * (((p0 &&& (2147483647 : Int32)).toInt64) - (1 : Int64))), .second, oJ ((((p0 &&& (2147483647 : Int32)).toInt64) / (2 : Int64)) * (((p0 &&& (2147483647 : Int32)).toInt64) - (1 : Int64))), .second, oR a66, oJ ((p2 + p3) + ((2 : Int64) * p4)), .second, .unset] [])) rfl (hb hby at_121) (by decide) (by decide)
      obtain ⟨a82, g82⟩ : ∃ z, z = h78.size := ⟨_, rfl⟩
      rw [← g82] at A82 D82 st82
      refine own_via st82 ?_
      have lt83 : a66 < a82 := Nat.lt_of_lt_of_le V81.lt (Nat.le_of_eq g82.symm)
      have fr84 : n0 ≤ a82 := Nat.le_trans Zs79 (Nat.le_of_eq g82.symm)
      have V85 := V81.ext E82
      have Zs86 : n0 ≤ h82.size := Nat.le_trans Zs79 E82.1
      have F87 : Fld Z h82 a82 "com/example/matchloom/matchloom/league/FormatRules" "teams" "I" (.int (0 : Int32)) := D82 (Or.inr (own_w hw 18)) (ty := .int) (by decide)
      have F88 : Fld Z h82 a82 "com/example/matchloom/matchloom/league/FormatRules" "phased" "Z" (.int (0 : Int32)) := D82 (Or.inr (own_w hw 20)) (ty := .boolean) (by decide)
      show own_Go p e below _ (T82.setTop (mkF m 124 #[oI p0, oI p1, oJ p2, .second, oJ p3, .second, oJ p4, .second, oI (p0 &&& (2147483647 : Int32)), oI (1 : Int32), oJ ((p0 &&& (2147483647 : Int32)).toInt64), .second, oJ (((p0 &&& (2147483647 : Int32)).toInt64) * (((p0 &&& (2147483647 : Int32)).toInt64) - (1 : Int64))), .second, oJ ((((p0 &&& (2147483647 : Int32)).toInt64) / (2 : Int64)) * (((p0 &&& (2147483647 : Int32)).toInt64) - (1 : Int64))), .second, oR a66, oJ ((p2 + p3) + ((2 : Int64) * p4)), .second, .unset] [(.ref a82)]))
      refine own_via (fun t kz => XS.dup X82.here hx rfl (hb hby at_124) rfl rfl kz) ?_
      show own_Go p e below _ (T82.setTop (mkF m 125 #[oI p0, oI p1, oJ p2, .second, oJ p3, .second, oJ p4, .second, oI (p0 &&& (2147483647 : Int32)), oI (1 : Int32), oJ ((p0 &&& (2147483647 : Int32)).toInt64), .second, oJ (((p0 &&& (2147483647 : Int32)).toInt64) * (((p0 &&& (2147483647 : Int32)).toInt64) - (1 : Int64))), .second, oJ ((((p0 &&& (2147483647 : Int32)).toInt64) / (2 : Int64)) * (((p0 &&& (2147483647 : Int32)).toInt64) - (1 : Int64))), .second, oR a66, oJ ((p2 + p3) + ((2 : Int64) * p4)), .second, .unset] [(.ref a82), (.ref a82)]))
      refine own_via (fun t kz => XS.iload X82.here hx rfl (hb hby at_125) rfl kz) ?_
      show own_Go p e below _ (T82.setTop (mkF m 127 #[oI p0, oI p1, oJ p2, .second, oJ p3, .second, oJ p4, .second, oI (p0 &&& (2147483647 : Int32)), oI (1 : Int32), oJ ((p0 &&& (2147483647 : Int32)).toInt64), .second, oJ (((p0 &&& (2147483647 : Int32)).toInt64) * (((p0 &&& (2147483647 : Int32)).toInt64) - (1 : Int64))), .second, oJ ((((p0 &&& (2147483647 : Int32)).toInt64) / (2 : Int64)) * (((p0 &&& (2147483647 : Int32)).toInt64) - (1 : Int64))), .second, oR a66, oJ ((p2 + p3) + ((2 : Int64) * p4)), .second, .unset] [(.int (p0 &&& (2147483647 : Int32))), (.ref a82), (.ref a82)]))
      refine own_via (fun t kz => XS.iload X82.here hx rfl (hb hby at_127) rfl kz) ?_
      show own_Go p e below _ (T82.setTop (mkF m 129 #[oI p0, oI p1, oJ p2, .second, oJ p3, .second, oJ p4, .second, oI (p0 &&& (2147483647 : Int32)), oI (1 : Int32), oJ ((p0 &&& (2147483647 : Int32)).toInt64), .second, oJ (((p0 &&& (2147483647 : Int32)).toInt64) * (((p0 &&& (2147483647 : Int32)).toInt64) - (1 : Int64))), .second, oJ ((((p0 &&& (2147483647 : Int32)).toInt64) / (2 : Int64)) * (((p0 &&& (2147483647 : Int32)).toInt64) - (1 : Int64))), .second, oR a66, oJ ((p2 + p3) + ((2 : Int64) * p4)), .second, .unset] [(.int (1 : Int32)), (.int (p0 &&& (2147483647 : Int32))), (.ref a82), (.ref a82)]))
      obtain ⟨_, _, ⟨T89, L89, k89, n89⟩, -, X89, ⟨Lc89, hQ89, l89, y89, z89⟩, st89⟩ := X82.specialBack hx (y := (⟨"com/example/matchloom/matchloom/league/FormatRules", "<init>", "(IZ)V"⟩ : MethodName)) rfl hown (mvT hZ (own_w hw 6)) (mvT hZ (own_w hw 7)) (mvT hZ (own_w hw 8)) (by decide) (backOf (W := 1) (rm1 l Z a0 hw [] a82 (p0 &&& (2147483647 : Int32)) (1 : Int32) h82 n0 Zs86 fr84 A82 F87 F88 rfl rfl) hZ (own_w hw 8) (own_w hw 5) (by decide) (by decide)) (g := (mkF m 129 #[oI p0, oI p1, oJ p2, .second, oJ p3, .second, oJ p4, .second, oI (p0 &&& (2147483647 : Int32)), oI (1 : Int32), oJ ((p0 &&& (2147483647 : Int32)).toInt64), .second, oJ (((p0 &&& (2147483647 : Int32)).toInt64) * (((p0 &&& (2147483647 : Int32)).toInt64) - (1 : Int64))), .second, oJ ((((p0 &&& (2147483647 : Int32)).toInt64) / (2 : Int64)) * (((p0 &&& (2147483647 : Int32)).toInt64) - (1 : Int64))), .second, oR a66, oJ ((p2 + p3) + ((2 : Int64) * p4)), .second, .unset] [(.int (1 : Int32)), (.int (p0 &&& (2147483647 : Int32))), (.ref a82), (.ref a82)])) rfl (by rw [hml]; rfl) (Steps.refl _) (a := a82) (argsL := [(.int (p0 &&& (2147483647 : Int32))), (.int (1 : Int32))]) (rest := [(.ref a82)]) (lenOf pd_0_0 rfl) rfl (by show 2 * 0 + _ ≤ _; exact Nat.le_of_eq rfl) (hb hby at_129) (fun _ _ => ⟨rfl, e82, (by decide : 2 + 0 ≤ _), (by decide : 5 + 0 ≤ _)⟩)
      dsimp only [Pt.U, Pt.locs, Pt.cells, Pt.slots] at X89 l89 y89 z89 st89 hQ89
      subst l89 y89 z89
      obtain ⟨rfl, Nq89, Kc89, Fc0_89, Fc1_89⟩ := hQ89
      have N90 := Fr.app N80 Nq89
      refine own_tr st89 ?_
      have V91 := V85.keep Kc89 (ninS (Nat.ne_of_lt lt83) nin0)
      have E92 := A82.keep Kc89
      have Zs93 : n0 ≤ T89.heap.size := Nat.le_trans Zs86 Kc89.1
      show own_Go p e below _ (T89.setTop (mkF m 132 #[oI p0, oI p1, oJ p2, .second, oJ p3, .second, oJ p4, .second, oI (p0 &&& (2147483647 : Int32)), oI (1 : Int32), oJ ((p0 &&& (2147483647 : Int32)).toInt64), .second, oJ (((p0 &&& (2147483647 : Int32)).toInt64) * (((p0 &&& (2147483647 : Int32)).toInt64) - (1 : Int64))), .second, oJ ((((p0 &&& (2147483647 : Int32)).toInt64) / (2 : Int64)) * (((p0 &&& (2147483647 : Int32)).toInt64) - (1 : Int64))), .second, oR a66, oJ ((p2 + p3) + ((2 : Int64) * p4)), .second, .unset] [(.ref a82)]))
      refine own_via (fun t kz => XS.astore X89.here hx rfl (hb hby at_132) rfl rfl (l' := #[oI p0, oI p1, oJ p2, .second, oJ p3, .second, oJ p4, .second, oI (p0 &&& (2147483647 : Int32)), oI (1 : Int32), oJ ((p0 &&& (2147483647 : Int32)).toInt64), .second, oJ (((p0 &&& (2147483647 : Int32)).toInt64) * (((p0 &&& (2147483647 : Int32)).toInt64) - (1 : Int64))), .second, oJ ((((p0 &&& (2147483647 : Int32)).toInt64) / (2 : Int64)) * (((p0 &&& (2147483647 : Int32)).toInt64) - (1 : Int64))), .second, oR a66, oJ ((p2 + p3) + ((2 : Int64) * p4)), .second, oR a82]) rfl kz) ?_
      show own_Go p e below _ (T89.setTop (mkF m 134 #[oI p0, oI p1, oJ p2, .second, oJ p3, .second, oJ p4, .second, oI (p0 &&& (2147483647 : Int32)), oI (1 : Int32), oJ ((p0 &&& (2147483647 : Int32)).toInt64), .second, oJ (((p0 &&& (2147483647 : Int32)).toInt64) * (((p0 &&& (2147483647 : Int32)).toInt64) - (1 : Int64))), .second, oJ ((((p0 &&& (2147483647 : Int32)).toInt64) / (2 : Int64)) * (((p0 &&& (2147483647 : Int32)).toInt64) - (1 : Int64))), .second, oR a66, oJ ((p2 + p3) + ((2 : Int64) * p4)), .second, oR a82] []))
      refine own_via (fun t kz => XS.aload X89.here hx rfl (hb hby at_134) rfl rfl kz) ?_
      show own_Go p e below _ (T89.setTop (mkF m 136 #[oI p0, oI p1, oJ p2, .second, oJ p3, .second, oJ p4, .second, oI (p0 &&& (2147483647 : Int32)), oI (1 : Int32), oJ ((p0 &&& (2147483647 : Int32)).toInt64), .second, oJ (((p0 &&& (2147483647 : Int32)).toInt64) * (((p0 &&& (2147483647 : Int32)).toInt64) - (1 : Int64))), .second, oJ ((((p0 &&& (2147483647 : Int32)).toInt64) / (2 : Int64)) * (((p0 &&& (2147483647 : Int32)).toInt64) - (1 : Int64))), .second, oR a66, oJ ((p2 + p3) + ((2 : Int64) * p4)), .second, oR a82] [(.ref a82)]))
      refine own_via (fun t kz => XS.aload X89.here hx rfl (hb hby at_136) rfl rfl kz) ?_
      show own_Go p e below _ (T89.setTop (mkF m 138 #[oI p0, oI p1, oJ p2, .second, oJ p3, .second, oJ p4, .second, oI (p0 &&& (2147483647 : Int32)), oI (1 : Int32), oJ ((p0 &&& (2147483647 : Int32)).toInt64), .second, oJ (((p0 &&& (2147483647 : Int32)).toInt64) * (((p0 &&& (2147483647 : Int32)).toInt64) - (1 : Int64))), .second, oJ ((((p0 &&& (2147483647 : Int32)).toInt64) / (2 : Int64)) * (((p0 &&& (2147483647 : Int32)).toInt64) - (1 : Int64))), .second, oR a66, oJ ((p2 + p3) + ((2 : Int64) * p4)), .second, oR a82] [(.ref a66), (.ref a82)]))
      obtain ⟨cq94, kq94, qa94, qb94, qc94⟩ := isOf hZ rfl E92
      obtain ⟨_, _, ⟨T94, L94, k94, n94⟩, -, X94, ⟨Lc94, hQ94, l94, y94, z94⟩, st94⟩ := X89.virtualBack hx (y := (⟨"com/example/matchloom/matchloom/league/FormatRules", "total", "([J)J"⟩ : MethodName)) (z := (⟨"com/example/matchloom/matchloom/league/FormatRules", "total", "([J)J"⟩ : MethodName)) hown (mvT hZ (own_w hw 21)) (mvT hZ (own_w hw 22)) (notFace_of_selects (args := #[]) (mvT hZ (own_w hw 24))) (mvT hZ (own_w hw 24)) (mvT hZ (own_w hw 23)) (by decide) (backOf (W := 0) (rm4 l Z a0 hw [] a82 a66 (p0 &&& (2147483647 : Int32)) (1 : Int32) k66 ((((p0 &&& (2147483647 : Int32)).toInt64) * (((p0 &&& (2147483647 : Int32)).toInt64) - (1 : Int64))) - p2) p3 (((((p0 &&& (2147483647 : Int32)).toInt64) / (2 : Int64)) * (((p0 &&& (2147483647 : Int32)).toInt64) - (1 : Int64))) - p4) ((((((p0 &&& (2147483647 : Int32)).toInt64) * (((p0 &&& (2147483647 : Int32)) - (1 : Int32)).toInt64)) - ((((p0 &&& (2147483647 : Int32)).toInt64) * (((p0 &&& (2147483647 : Int32)).toInt64) - (1 : Int64))) - p2)) + p3) + ((2 : Int64) * (((((p0 &&& (2147483647 : Int32)).toInt64) * (((p0 &&& (2147483647 : Int32)) - (1 : Int32)).toInt64)) / (2 : Int64)) - (((((p0 &&& (2147483647 : Int32)).toInt64) / (2 : Int64)) * (((p0 &&& (2147483647 : Int32)).toInt64) - (1 : Int64))) - p4)))) T89.heap n0 Zs93 Fc0_89 Fc1_89 V91 (by unfold f4; rw [if_neg (by decide : ¬ ((1 : Int32) = (0 : Int32)))])) hZ (own_w hw 25) (own_w hw 5) (by decide) (by decide)) qa94 qc94 (g := (mkF m 138 #[oI p0, oI p1, oJ p2, .second, oJ p3, .second, oJ p4, .second, oI (p0 &&& (2147483647 : Int32)), oI (1 : Int32), oJ ((p0 &&& (2147483647 : Int32)).toInt64), .second, oJ (((p0 &&& (2147483647 : Int32)).toInt64) * (((p0 &&& (2147483647 : Int32)).toInt64) - (1 : Int64))), .second, oJ ((((p0 &&& (2147483647 : Int32)).toInt64) / (2 : Int64)) * (((p0 &&& (2147483647 : Int32)).toInt64) - (1 : Int64))), .second, oR a66, oJ ((p2 + p3) + ((2 : Int64) * p4)), .second, oR a82] [(.ref a66), (.ref a82)])) rfl (by rw [hml]; rfl) (Steps.refl _) (argsL := [(.ref a66)]) (rest := []) (lenOf pd_0_1 rfl) rfl (by show 2 * 0 + _ ≤ _; exact Nat.le_of_eq rfl) (hb hby at_138) (fun _ _ => ⟨rfl, rfl, (by decide : 2 + 0 ≤ _), (by decide : 5 + 0 ≤ _)⟩)
      dsimp only [Pt.U, Pt.locs, Pt.cells, Pt.slots] at X94 l94 y94 z94 st94 hQ94
      subst l94 y94 z94
      obtain ⟨rfl, Nq94, e94⟩ := hQ94
      have N95 := Fr.app N90 Nq94
      refine own_tr st94 ?_
      show own_Go p e below _ (T94.setTop (mkF m 141 #[oI p0, oI p1, oJ p2, .second, oJ p3, .second, oJ p4, .second, oI (p0 &&& (2147483647 : Int32)), oI (1 : Int32), oJ ((p0 &&& (2147483647 : Int32)).toInt64), .second, oJ (((p0 &&& (2147483647 : Int32)).toInt64) * (((p0 &&& (2147483647 : Int32)).toInt64) - (1 : Int64))), .second, oJ ((((p0 &&& (2147483647 : Int32)).toInt64) / (2 : Int64)) * (((p0 &&& (2147483647 : Int32)).toInt64) - (1 : Int64))), .second, oR a66, oJ ((p2 + p3) + ((2 : Int64) * p4)), .second, oR a82] [(.long ((((((p0 &&& (2147483647 : Int32)).toInt64) * (((p0 &&& (2147483647 : Int32)) - (1 : Int32)).toInt64)) - ((((p0 &&& (2147483647 : Int32)).toInt64) * (((p0 &&& (2147483647 : Int32)).toInt64) - (1 : Int64))) - p2)) + p3) + ((2 : Int64) * (((((p0 &&& (2147483647 : Int32)).toInt64) * (((p0 &&& (2147483647 : Int32)) - (1 : Int32)).toInt64)) / (2 : Int64)) - (((((p0 &&& (2147483647 : Int32)).toInt64) / (2 : Int64)) * (((p0 &&& (2147483647 : Int32)).toInt64) - (1 : Int64))) - p4)))))]))
      refine own_via (fun t kz => XS.lload X94.here hx rfl (hb hby at_141) rfl kz) ?_
      show own_Go p e below _ (T94.setTop (mkF m 143 #[oI p0, oI p1, oJ p2, .second, oJ p3, .second, oJ p4, .second, oI (p0 &&& (2147483647 : Int32)), oI (1 : Int32), oJ ((p0 &&& (2147483647 : Int32)).toInt64), .second, oJ (((p0 &&& (2147483647 : Int32)).toInt64) * (((p0 &&& (2147483647 : Int32)).toInt64) - (1 : Int64))), .second, oJ ((((p0 &&& (2147483647 : Int32)).toInt64) / (2 : Int64)) * (((p0 &&& (2147483647 : Int32)).toInt64) - (1 : Int64))), .second, oR a66, oJ ((p2 + p3) + ((2 : Int64) * p4)), .second, oR a82] [(.long ((p2 + p3) + ((2 : Int64) * p4))), (.long ((((((p0 &&& (2147483647 : Int32)).toInt64) * (((p0 &&& (2147483647 : Int32)) - (1 : Int32)).toInt64)) - ((((p0 &&& (2147483647 : Int32)).toInt64) * (((p0 &&& (2147483647 : Int32)).toInt64) - (1 : Int64))) - p2)) + p3) + ((2 : Int64) * (((((p0 &&& (2147483647 : Int32)).toInt64) * (((p0 &&& (2147483647 : Int32)) - (1 : Int32)).toInt64)) / (2 : Int64)) - (((((p0 &&& (2147483647 : Int32)).toInt64) / (2 : Int64)) * (((p0 &&& (2147483647 : Int32)).toInt64) - (1 : Int64))) - p4)))))]))
      refine own_via (fun t kz => XS.lcmp X94.here hx rfl (hb hby at_143) rfl kz) ?_
      show own_Go p e below _ (T94.setTop (mkF m 144 #[oI p0, oI p1, oJ p2, .second, oJ p3, .second, oJ p4, .second, oI (p0 &&& (2147483647 : Int32)), oI (1 : Int32), oJ ((p0 &&& (2147483647 : Int32)).toInt64), .second, oJ (((p0 &&& (2147483647 : Int32)).toInt64) * (((p0 &&& (2147483647 : Int32)).toInt64) - (1 : Int64))), .second, oJ ((((p0 &&& (2147483647 : Int32)).toInt64) / (2 : Int64)) * (((p0 &&& (2147483647 : Int32)).toInt64) - (1 : Int64))), .second, oR a66, oJ ((p2 + p3) + ((2 : Int64) * p4)), .second, oR a82] [(.int (lcmpW ((((((p0 &&& (2147483647 : Int32)).toInt64) * (((p0 &&& (2147483647 : Int32)) - (1 : Int32)).toInt64)) - ((((p0 &&& (2147483647 : Int32)).toInt64) * (((p0 &&& (2147483647 : Int32)).toInt64) - (1 : Int64))) - p2)) + p3) + ((2 : Int64) * (((((p0 &&& (2147483647 : Int32)).toInt64) * (((p0 &&& (2147483647 : Int32)) - (1 : Int32)).toInt64)) / (2 : Int64)) - (((((p0 &&& (2147483647 : Int32)).toInt64) / (2 : Int64)) * (((p0 &&& (2147483647 : Int32)).toInt64) - (1 : Int64))) - p4)))) ((p2 + p3) + ((2 : Int64) * p4))))]))
      refine own_via (fun t kz => XS.ifNo X94.here hx rfl (hb hby at_144) rfl ((if0 _ _).trans (teq ((lw_eq _ _).mpr (own_fin2 p0 p2 p3 p4 hc41_65))).2) kz) ?_
      show own_Go p e below _ (T94.setTop (mkF m 147 #[oI p0, oI p1, oJ p2, .second, oJ p3, .second, oJ p4, .second, oI (p0 &&& (2147483647 : Int32)), oI (1 : Int32), oJ ((p0 &&& (2147483647 : Int32)).toInt64), .second, oJ (((p0 &&& (2147483647 : Int32)).toInt64) * (((p0 &&& (2147483647 : Int32)).toInt64) - (1 : Int64))), .second, oJ ((((p0 &&& (2147483647 : Int32)).toInt64) / (2 : Int64)) * (((p0 &&& (2147483647 : Int32)).toInt64) - (1 : Int64))), .second, oR a66, oJ ((p2 + p3) + ((2 : Int64) * p4)), .second, oR a82] []))
      refine own_via (fun t kz => XS.iconst X94.here hx rfl (hb hby at_147) kz) ?_
      show own_Go p e below _ (T94.setTop (mkF m 148 #[oI p0, oI p1, oJ p2, .second, oJ p3, .second, oJ p4, .second, oI (p0 &&& (2147483647 : Int32)), oI (1 : Int32), oJ ((p0 &&& (2147483647 : Int32)).toInt64), .second, oJ (((p0 &&& (2147483647 : Int32)).toInt64) * (((p0 &&& (2147483647 : Int32)).toInt64) - (1 : Int64))), .second, oJ ((((p0 &&& (2147483647 : Int32)).toInt64) / (2 : Int64)) * (((p0 &&& (2147483647 : Int32)).toInt64) - (1 : Int64))), .second, oR a66, oJ ((p2 + p3) + ((2 : Int64) * p4)), .second, oR a82] [(.int (1 : Int32))]))
      refine own_via (fun t kz => XS.goto X94.here hx rfl (pc0 := 148) (pc' := 152) rfl (hb hby at_148) (by decide) (by decide) kz) ?_
      show own_Go p e below _ (T94.setTop (mkF m 152 #[oI p0, oI p1, oJ p2, .second, oJ p3, .second, oJ p4, .second, oI (p0 &&& (2147483647 : Int32)), oI (1 : Int32), oJ ((p0 &&& (2147483647 : Int32)).toInt64), .second, oJ (((p0 &&& (2147483647 : Int32)).toInt64) * (((p0 &&& (2147483647 : Int32)).toInt64) - (1 : Int64))), .second, oJ ((((p0 &&& (2147483647 : Int32)).toInt64) / (2 : Int64)) * (((p0 &&& (2147483647 : Int32)).toInt64) - (1 : Int64))), .second, oR a66, oJ ((p2 + p3) + ((2 : Int64) * p4)), .second, oR a82] [(.int (1 : Int32))]))
      obtain ⟨fs, hr, hrun, hended, hW, hsame⟩ := X94.leave (v := some (.int (1 : Int32))) (fun h => by rw [Bd.returns] at h; cases h)
      refine ⟨_, _, retN X94 hx (t := .boolean) Bd.returns (by simp) (hb hby at_152) hr, hrun, hended, _, _, rfl, ?_, ⟨_, rfl⟩, hW, hsame.mono (by decide) (by decide)⟩
      show Q0 Z p0 p1 p2 p3 p4 h0 n0 _ T94.heap _
      rw [e94]
      exact ⟨rfl, N95⟩
    · refine own_via (fun t kz => XS.ifYes X0.here hx rfl (pc0 := 41) (pc' := 58) rfl (hb hby at_41) rfl ((if0 _ _).trans (feq (fun q => hc41_65 ((lw_eq _ _).mp q))).2) (by decide) (by decide) kz) ?_
      show own_Go p e below _ (s₁.setTop (mkF m 58 #[oI p0, oI p1, oJ p2, .second, oJ p3, .second, oJ p4, .second, oI (p0 &&& (2147483647 : Int32)), oI (1 : Int32), oJ ((p0 &&& (2147483647 : Int32)).toInt64), .second, oJ (((p0 &&& (2147483647 : Int32)).toInt64) * (((p0 &&& (2147483647 : Int32)).toInt64) - (1 : Int64))), .second, .unset, .unset, .unset, .unset, .unset, .unset] []))
      refine own_via (fun t kz => XS.lload X0.here hx rfl (hb hby at_58) rfl kz) ?_
      show own_Go p e below _ (s₁.setTop (mkF m 60 #[oI p0, oI p1, oJ p2, .second, oJ p3, .second, oJ p4, .second, oI (p0 &&& (2147483647 : Int32)), oI (1 : Int32), oJ ((p0 &&& (2147483647 : Int32)).toInt64), .second, oJ (((p0 &&& (2147483647 : Int32)).toInt64) * (((p0 &&& (2147483647 : Int32)).toInt64) - (1 : Int64))), .second, .unset, .unset, .unset, .unset, .unset, .unset] [(.long ((p0 &&& (2147483647 : Int32)).toInt64))]))
      refine own_via (fun t kz => XS.lload X0.here hx rfl (hb hby at_60) rfl kz) ?_
      show own_Go p e below _ (s₁.setTop (mkF m 62 #[oI p0, oI p1, oJ p2, .second, oJ p3, .second, oJ p4, .second, oI (p0 &&& (2147483647 : Int32)), oI (1 : Int32), oJ ((p0 &&& (2147483647 : Int32)).toInt64), .second, oJ (((p0 &&& (2147483647 : Int32)).toInt64) * (((p0 &&& (2147483647 : Int32)).toInt64) - (1 : Int64))), .second, .unset, .unset, .unset, .unset, .unset, .unset] [(.long ((p0 &&& (2147483647 : Int32)).toInt64)), (.long ((p0 &&& (2147483647 : Int32)).toInt64))]))
      refine own_via (fun t kz => XS.lconst X0.here hx rfl (hb hby at_62) kz) ?_
      show own_Go p e below _ (s₁.setTop (mkF m 63 #[oI p0, oI p1, oJ p2, .second, oJ p3, .second, oJ p4, .second, oI (p0 &&& (2147483647 : Int32)), oI (1 : Int32), oJ ((p0 &&& (2147483647 : Int32)).toInt64), .second, oJ (((p0 &&& (2147483647 : Int32)).toInt64) * (((p0 &&& (2147483647 : Int32)).toInt64) - (1 : Int64))), .second, .unset, .unset, .unset, .unset, .unset, .unset] [(.long (1 : Int64)), (.long ((p0 &&& (2147483647 : Int32)).toInt64)), (.long ((p0 &&& (2147483647 : Int32)).toInt64))]))
      refine own_via (fun t kz => XS.lsub X0.here hx rfl (hb hby at_63) rfl kz) ?_
      show own_Go p e below _ (s₁.setTop (mkF m 64 #[oI p0, oI p1, oJ p2, .second, oJ p3, .second, oJ p4, .second, oI (p0 &&& (2147483647 : Int32)), oI (1 : Int32), oJ ((p0 &&& (2147483647 : Int32)).toInt64), .second, oJ (((p0 &&& (2147483647 : Int32)).toInt64) * (((p0 &&& (2147483647 : Int32)).toInt64) - (1 : Int64))), .second, .unset, .unset, .unset, .unset, .unset, .unset] [(.long (((p0 &&& (2147483647 : Int32)).toInt64) - (1 : Int64))), (.long ((p0 &&& (2147483647 : Int32)).toInt64))]))
      refine own_via (fun t kz => X0.ldc2Long hx hown (mvT hZ (own_w hw 1)) (g := (mkF m 64 #[oI p0, oI p1, oJ p2, .second, oJ p3, .second, oJ p4, .second, oI (p0 &&& (2147483647 : Int32)), oI (1 : Int32), oJ ((p0 &&& (2147483647 : Int32)).toInt64), .second, oJ (((p0 &&& (2147483647 : Int32)).toInt64) * (((p0 &&& (2147483647 : Int32)).toInt64) - (1 : Int64))), .second, .unset, .unset, .unset, .unset, .unset, .unset] [(.long (((p0 &&& (2147483647 : Int32)).toInt64) - (1 : Int64))), (.long ((p0 &&& (2147483647 : Int32)).toInt64))])) rfl (hb hby at_64) t kz) ?_
      show own_Go p e below _ (s₁.setTop (mkF m 67 #[oI p0, oI p1, oJ p2, .second, oJ p3, .second, oJ p4, .second, oI (p0 &&& (2147483647 : Int32)), oI (1 : Int32), oJ ((p0 &&& (2147483647 : Int32)).toInt64), .second, oJ (((p0 &&& (2147483647 : Int32)).toInt64) * (((p0 &&& (2147483647 : Int32)).toInt64) - (1 : Int64))), .second, .unset, .unset, .unset, .unset, .unset, .unset] [(.long (2 : Int64)), (.long (((p0 &&& (2147483647 : Int32)).toInt64) - (1 : Int64))), (.long ((p0 &&& (2147483647 : Int32)).toInt64))]))
      refine own_via (fun t kz => XS.ldiv X0.here hx rfl (hb hby at_67) rfl (by decide) kz) ?_
      show own_Go p e below _ (s₁.setTop (mkF m 68 #[oI p0, oI p1, oJ p2, .second, oJ p3, .second, oJ p4, .second, oI (p0 &&& (2147483647 : Int32)), oI (1 : Int32), oJ ((p0 &&& (2147483647 : Int32)).toInt64), .second, oJ (((p0 &&& (2147483647 : Int32)).toInt64) * (((p0 &&& (2147483647 : Int32)).toInt64) - (1 : Int64))), .second, .unset, .unset, .unset, .unset, .unset, .unset] [(.long ((((p0 &&& (2147483647 : Int32)).toInt64) - (1 : Int64)) / (2 : Int64))), (.long ((p0 &&& (2147483647 : Int32)).toInt64))]))
      refine own_via (fun t kz => XS.lmul X0.here hx rfl (hb hby at_68) rfl kz) ?_
      show own_Go p e below _ (s₁.setTop (mkF m 69 #[oI p0, oI p1, oJ p2, .second, oJ p3, .second, oJ p4, .second, oI (p0 &&& (2147483647 : Int32)), oI (1 : Int32), oJ ((p0 &&& (2147483647 : Int32)).toInt64), .second, oJ (((p0 &&& (2147483647 : Int32)).toInt64) * (((p0 &&& (2147483647 : Int32)).toInt64) - (1 : Int64))), .second, .unset, .unset, .unset, .unset, .unset, .unset] [(.long (((p0 &&& (2147483647 : Int32)).toInt64) * ((((p0 &&& (2147483647 : Int32)).toInt64) - (1 : Int64)) / (2 : Int64))))]))
      refine own_via (fun t kz => XS.lstore X0.here hx rfl (hb hby at_69) rfl (l' := #[oI p0, oI p1, oJ p2, .second, oJ p3, .second, oJ p4, .second, oI (p0 &&& (2147483647 : Int32)), oI (1 : Int32), oJ ((p0 &&& (2147483647 : Int32)).toInt64), .second, oJ (((p0 &&& (2147483647 : Int32)).toInt64) * (((p0 &&& (2147483647 : Int32)).toInt64) - (1 : Int64))), .second, oJ (((p0 &&& (2147483647 : Int32)).toInt64) * ((((p0 &&& (2147483647 : Int32)).toInt64) - (1 : Int64)) / (2 : Int64))), .second, .unset, .unset, .unset, .unset]) rfl kz) ?_
      show own_Go p e below _ (s₁.setTop (mkF m 71 #[oI p0, oI p1, oJ p2, .second, oJ p3, .second, oJ p4, .second, oI (p0 &&& (2147483647 : Int32)), oI (1 : Int32), oJ ((p0 &&& (2147483647 : Int32)).toInt64), .second, oJ (((p0 &&& (2147483647 : Int32)).toInt64) * (((p0 &&& (2147483647 : Int32)).toInt64) - (1 : Int64))), .second, oJ (((p0 &&& (2147483647 : Int32)).toInt64) * ((((p0 &&& (2147483647 : Int32)).toInt64) - (1 : Int64)) / (2 : Int64))), .second, .unset, .unset, .unset, .unset] []))
      refine own_via (fun t kz => XS.iconst X0.here hx rfl (hb hby at_71) kz) ?_
      show own_Go p e below _ (s₁.setTop (mkF m 72 #[oI p0, oI p1, oJ p2, .second, oJ p3, .second, oJ p4, .second, oI (p0 &&& (2147483647 : Int32)), oI (1 : Int32), oJ ((p0 &&& (2147483647 : Int32)).toInt64), .second, oJ (((p0 &&& (2147483647 : Int32)).toInt64) * (((p0 &&& (2147483647 : Int32)).toInt64) - (1 : Int64))), .second, oJ (((p0 &&& (2147483647 : Int32)).toInt64) * ((((p0 &&& (2147483647 : Int32)).toInt64) - (1 : Int64)) / (2 : Int64))), .second, .unset, .unset, .unset, .unset] [(.int (3 : Int32))]))
      obtain ⟨T97, h97, k97, X97, e97, E97, A97, st97⟩ := newP X0 hx hZ (aty := .long) (own_w hw 2) e0 (g := (mkF m 72 #[oI p0, oI p1, oJ p2, .second, oJ p3, .second, oJ p4, .second, oI (p0 &&& (2147483647 : Int32)), oI (1 : Int32), oJ ((p0 &&& (2147483647 : Int32)).toInt64), .second, oJ (((p0 &&& (2147483647 : Int32)).toInt64) * (((p0 &&& (2147483647 : Int32)).toInt64) - (1 : Int64))), .second, oJ (((p0 &&& (2147483647 : Int32)).toInt64) * ((((p0 &&& (2147483647 : Int32)).toInt64) - (1 : Int64)) / (2 : Int64))), .second, .unset, .unset, .unset, .unset] [(.int (3 : Int32))])) rfl (hb hby at_72) rfl (by decide) (cap := 3) (by decide) (by decide) (by decide) (by decide)
      obtain ⟨a97, g97⟩ : ∃ z, z = h0.size := ⟨_, rfl⟩
      rw [← g97] at A97 st97
      refine own_via st97 ?_
      have fr98 : n0 ≤ a97 := Nat.le_trans Z0 (Nat.le_of_eq g97.symm)
      have Zs99 : n0 ≤ h97.size := Nat.le_trans Z0 E97.1
      have V100 : Arv Z h97 a97 k97 .long (3 : Int32) [(.long (0 : Int64)), (.long (0 : Int64)), (.long (0 : Int64))] (.long (0 : Int64)) := (Arv.new A97 (by decide)).pad (pad_rep [] (.long (0 : Int64)) 3)
      show own_Go p e below _ (T97.setTop (mkF m 74 #[oI p0, oI p1, oJ p2, .second, oJ p3, .second, oJ p4, .second, oI (p0 &&& (2147483647 : Int32)), oI (1 : Int32), oJ ((p0 &&& (2147483647 : Int32)).toInt64), .second, oJ (((p0 &&& (2147483647 : Int32)).toInt64) * (((p0 &&& (2147483647 : Int32)).toInt64) - (1 : Int64))), .second, oJ (((p0 &&& (2147483647 : Int32)).toInt64) * ((((p0 &&& (2147483647 : Int32)).toInt64) - (1 : Int64)) / (2 : Int64))), .second, .unset, .unset, .unset, .unset] [(.ref a97)]))
      refine own_via (fun t kz => XS.astore X97.here hx rfl (hb hby at_74) rfl rfl (l' := #[oI p0, oI p1, oJ p2, .second, oJ p3, .second, oJ p4, .second, oI (p0 &&& (2147483647 : Int32)), oI (1 : Int32), oJ ((p0 &&& (2147483647 : Int32)).toInt64), .second, oJ (((p0 &&& (2147483647 : Int32)).toInt64) * (((p0 &&& (2147483647 : Int32)).toInt64) - (1 : Int64))), .second, oJ (((p0 &&& (2147483647 : Int32)).toInt64) * ((((p0 &&& (2147483647 : Int32)).toInt64) - (1 : Int64)) / (2 : Int64))), .second, oR a97, .unset, .unset, .unset]) rfl kz) ?_
      show own_Go p e below _ (T97.setTop (mkF m 76 #[oI p0, oI p1, oJ p2, .second, oJ p3, .second, oJ p4, .second, oI (p0 &&& (2147483647 : Int32)), oI (1 : Int32), oJ ((p0 &&& (2147483647 : Int32)).toInt64), .second, oJ (((p0 &&& (2147483647 : Int32)).toInt64) * (((p0 &&& (2147483647 : Int32)).toInt64) - (1 : Int64))), .second, oJ (((p0 &&& (2147483647 : Int32)).toInt64) * ((((p0 &&& (2147483647 : Int32)).toInt64) - (1 : Int64)) / (2 : Int64))), .second, oR a97, .unset, .unset, .unset] []))
      refine own_via (fun t kz => XS.aload X97.here hx rfl (hb hby at_76) rfl rfl kz) ?_
      show own_Go p e below _ (T97.setTop (mkF m 78 #[oI p0, oI p1, oJ p2, .second, oJ p3, .second, oJ p4, .second, oI (p0 &&& (2147483647 : Int32)), oI (1 : Int32), oJ ((p0 &&& (2147483647 : Int32)).toInt64), .second, oJ (((p0 &&& (2147483647 : Int32)).toInt64) * (((p0 &&& (2147483647 : Int32)).toInt64) - (1 : Int64))), .second, oJ (((p0 &&& (2147483647 : Int32)).toInt64) * ((((p0 &&& (2147483647 : Int32)).toInt64) - (1 : Int64)) / (2 : Int64))), .second, oR a97, .unset, .unset, .unset] [(.ref a97)]))
      refine own_via (fun t kz => XS.iconst X97.here hx rfl (hb hby at_78) kz) ?_
      show own_Go p e below _ (T97.setTop (mkF m 79 #[oI p0, oI p1, oJ p2, .second, oJ p3, .second, oJ p4, .second, oI (p0 &&& (2147483647 : Int32)), oI (1 : Int32), oJ ((p0 &&& (2147483647 : Int32)).toInt64), .second, oJ (((p0 &&& (2147483647 : Int32)).toInt64) * (((p0 &&& (2147483647 : Int32)).toInt64) - (1 : Int64))), .second, oJ (((p0 &&& (2147483647 : Int32)).toInt64) * ((((p0 &&& (2147483647 : Int32)).toInt64) - (1 : Int64)) / (2 : Int64))), .second, oR a97, .unset, .unset, .unset] [(.int (0 : Int32)), (.ref a97)]))
      refine own_via (fun t kz => XS.lload X97.here hx rfl (hb hby at_79) rfl kz) ?_
      show own_Go p e below _ (T97.setTop (mkF m 81 #[oI p0, oI p1, oJ p2, .second, oJ p3, .second, oJ p4, .second, oI (p0 &&& (2147483647 : Int32)), oI (1 : Int32), oJ ((p0 &&& (2147483647 : Int32)).toInt64), .second, oJ (((p0 &&& (2147483647 : Int32)).toInt64) * (((p0 &&& (2147483647 : Int32)).toInt64) - (1 : Int64))), .second, oJ (((p0 &&& (2147483647 : Int32)).toInt64) * ((((p0 &&& (2147483647 : Int32)).toInt64) - (1 : Int64)) / (2 : Int64))), .second, oR a97, .unset, .unset, .unset] [(.long (((p0 &&& (2147483647 : Int32)).toInt64) * (((p0 &&& (2147483647 : Int32)).toInt64) - (1 : Int64)))), (.int (0 : Int32)), (.ref a97)]))
      refine own_via (fun t kz => XS.lloadN X97.here hx rfl (hb hby at_81) rfl kz) ?_
      show own_Go p e below _ (T97.setTop (mkF m 82 #[oI p0, oI p1, oJ p2, .second, oJ p3, .second, oJ p4, .second, oI (p0 &&& (2147483647 : Int32)), oI (1 : Int32), oJ ((p0 &&& (2147483647 : Int32)).toInt64), .second, oJ (((p0 &&& (2147483647 : Int32)).toInt64) * (((p0 &&& (2147483647 : Int32)).toInt64) - (1 : Int64))), .second, oJ (((p0 &&& (2147483647 : Int32)).toInt64) * ((((p0 &&& (2147483647 : Int32)).toInt64) - (1 : Int64)) / (2 : Int64))), .second, oR a97, .unset, .unset, .unset] [(.long p2), (.long (((p0 &&& (2147483647 : Int32)).toInt64) * (((p0 &&& (2147483647 : Int32)).toInt64) - (1 : Int64)))), (.int (0 : Int32)), (.ref a97)]))
      refine own_via (fun t kz => XS.lsub X97.here hx rfl (hb hby at_82) rfl kz) ?_
      show own_Go p e below _ (T97.setTop (mkF m 83 #[oI p0, oI p1, oJ p2, .second, oJ p3, .second, oJ p4, .second, oI (p0 &&& (2147483647 : Int32)), oI (1 : Int32), oJ ((p0 &&& (2147483647 : Int32)).toInt64), .second, oJ (((p0 &&& (2147483647 : Int32)).toInt64) * (((p0 &&& (2147483647 : Int32)).toInt64) - (1 : Int64))), .second, oJ (((p0 &&& (2147483647 : Int32)).toInt64) * ((((p0 &&& (2147483647 : Int32)).toInt64) - (1 : Int64)) / (2 : Int64))), .second, oR a97, .unset, .unset, .unset] [(.long ((((p0 &&& (2147483647 : Int32)).toInt64) * (((p0 &&& (2147483647 : Int32)).toInt64) - (1 : Int64))) - p2)), (.int (0 : Int32)), (.ref a97)]))
      obtain ⟨cl101, Ar101, kc101, Sz101, Nn101, Hs101, Gs101⟩ := id V100
      obtain ⟨T101, h101, X101, e101, W101, st101⟩ := stJ X97 hx hZ e97 Ar101 (j := (0 : Int32)) (inb_of Sz101 ⟨by decide, by decide⟩) (g := (mkF m 83 #[oI p0, oI p1, oJ p2, .second, oJ p3, .second, oJ p4, .second, oI (p0 &&& (2147483647 : Int32)), oI (1 : Int32), oJ ((p0 &&& (2147483647 : Int32)).toInt64), .second, oJ (((p0 &&& (2147483647 : Int32)).toInt64) * (((p0 &&& (2147483647 : Int32)).toInt64) - (1 : Int64))), .second, oJ (((p0 &&& (2147483647 : Int32)).toInt64) * ((((p0 &&& (2147483647 : Int32)).toInt64) - (1 : Int64)) / (2 : Int64))), .second, oR a97, .unset, .unset, .unset] [(.long ((((p0 &&& (2147483647 : Int32)).toInt64) * (((p0 &&& (2147483647 : Int32)).toInt64) - (1 : Int64))) - p2)), (.int (0 : Int32)), (.ref a97)])) rfl rfl (hb hby at_83)
      refine own_via st101 ?_
      have Zs102 : n0 ≤ h101.size := Nat.le_trans Zs99 (Keep.of_wr W101).1
      have N103 := Fr.snoc X101 N0 fr98
      have V104 : Arv Z h101 a97 k97 .long (3 : Int32) [(.long ((((p0 &&& (2147483647 : Int32)).toInt64) * (((p0 &&& (2147483647 : Int32)).toInt64) - (1 : Int64))) - p2)), (.long (0 : Int64)), (.long (0 : Int64))] (.long (0 : Int64)) := Arv.set Ar101 kc101 Sz101 Nn101 Hs101 Gs101 rfl W101 0 (by first | decide | (show 0 < 3; decide)) (by first | decide | (show 0 < 3; decide))
      show own_Go p e below _ (T101.setTop (mkF m 84 #[oI p0, oI p1, oJ p2, .second, oJ p3, .second, oJ p4, .second, oI (p0 &&& (2147483647 : Int32)), oI (1 : Int32), oJ ((p0 &&& (2147483647 : Int32)).toInt64), .second, oJ (((p0 &&& (2147483647 : Int32)).toInt64) * (((p0 &&& (2147483647 : Int32)).toInt64) - (1 : Int64))), .second, oJ (((p0 &&& (2147483647 : Int32)).toInt64) * ((((p0 &&& (2147483647 : Int32)).toInt64) - (1 : Int64)) / (2 : Int64))), .second, oR a97, .unset, .unset, .unset] []))
      refine own_via (fun t kz => XS.aload X101.here hx rfl (hb hby at_84) rfl rfl kz) ?_
      show own_Go p e below _ (T101.setTop (mkF m 86 #[oI p0, oI p1, oJ p2, .second, oJ p3, .second, oJ p4, .second, oI (p0 &&& (2147483647 : Int32)), oI (1 : Int32), oJ ((p0 &&& (2147483647 : Int32)).toInt64), .second, oJ (((p0 &&& (2147483647 : Int32)).toInt64) * (((p0 &&& (2147483647 : Int32)).toInt64) - (1 : Int64))), .second, oJ (((p0 &&& (2147483647 : Int32)).toInt64) * ((((p0 &&& (2147483647 : Int32)).toInt64) - (1 : Int64)) / (2 : Int64))), .second, oR a97, .unset, .unset, .unset] [(.ref a97)]))
      refine own_via (fun t kz => XS.iconst X101.here hx rfl (hb hby at_86) kz) ?_
      show own_Go p e below _ (T101.setTop (mkF m 87 #[oI p0, oI p1, oJ p2, .second, oJ p3, .second, oJ p4, .second, oI (p0 &&& (2147483647 : Int32)), oI (1 : Int32), oJ ((p0 &&& (2147483647 : Int32)).toInt64), .second, oJ (((p0 &&& (2147483647 : Int32)).toInt64) * (((p0 &&& (2147483647 : Int32)).toInt64) - (1 : Int64))), .second, oJ (((p0 &&& (2147483647 : Int32)).toInt64) * ((((p0 &&& (2147483647 : Int32)).toInt64) - (1 : Int64)) / (2 : Int64))), .second, oR a97, .unset, .unset, .unset] [(.int (1 : Int32)), (.ref a97)]))
      refine own_via (fun t kz => XS.lload X101.here hx rfl (hb hby at_87) rfl kz) ?_
      show own_Go p e below _ (T101.setTop (mkF m 89 #[oI p0, oI p1, oJ p2, .second, oJ p3, .second, oJ p4, .second, oI (p0 &&& (2147483647 : Int32)), oI (1 : Int32), oJ ((p0 &&& (2147483647 : Int32)).toInt64), .second, oJ (((p0 &&& (2147483647 : Int32)).toInt64) * (((p0 &&& (2147483647 : Int32)).toInt64) - (1 : Int64))), .second, oJ (((p0 &&& (2147483647 : Int32)).toInt64) * ((((p0 &&& (2147483647 : Int32)).toInt64) - (1 : Int64)) / (2 : Int64))), .second, oR a97, .unset, .unset, .unset] [(.long p3), (.int (1 : Int32)), (.ref a97)]))
      obtain ⟨cl105, Ar105, kc105, Sz105, Nn105, Hs105, Gs105⟩ := id V104
      obtain ⟨T105, h105, X105, e105, W105, st105⟩ := stJ X101 hx hZ e101 Ar105 (j := (1 : Int32)) (inb_of Sz105 ⟨by decide, by decide⟩) (g := (mkF m 89 #[oI p0, oI p1, oJ p2, .second, oJ p3, .second, oJ p4, .second, oI (p0 &&& (2147483647 : Int32)), oI (1 : Int32), oJ ((p0 &&& (2147483647 : Int32)).toInt64), .second, oJ (((p0 &&& (2147483647 : Int32)).toInt64) * (((p0 &&& (2147483647 : Int32)).toInt64) - (1 : Int64))), .second, oJ (((p0 &&& (2147483647 : Int32)).toInt64) * ((((p0 &&& (2147483647 : Int32)).toInt64) - (1 : Int64)) / (2 : Int64))), .second, oR a97, .unset, .unset, .unset] [(.long p3), (.int (1 : Int32)), (.ref a97)])) rfl rfl (hb hby at_89)
      refine own_via st105 ?_
      have Zs106 : n0 ≤ h105.size := Nat.le_trans Zs102 (Keep.of_wr W105).1
      have N107 := Fr.snoc X105 N103 fr98
      have V108 : Arv Z h105 a97 k97 .long (3 : Int32) [(.long ((((p0 &&& (2147483647 : Int32)).toInt64) * (((p0 &&& (2147483647 : Int32)).toInt64) - (1 : Int64))) - p2)), (.long p3), (.long (0 : Int64))] (.long (0 : Int64)) := Arv.set Ar105 kc105 Sz105 Nn105 Hs105 Gs105 rfl W105 1 (by first | decide | (show 1 < 3; decide)) (by first | decide | (show 1 < 3; decide))
      show own_Go p e below _ (T105.setTop (mkF m 90 #[oI p0, oI p1, oJ p2, .second, oJ p3, .second, oJ p4, .second, oI (p0 &&& (2147483647 : Int32)), oI (1 : Int32), oJ ((p0 &&& (2147483647 : Int32)).toInt64), .second, oJ (((p0 &&& (2147483647 : Int32)).toInt64) * (((p0 &&& (2147483647 : Int32)).toInt64) - (1 : Int64))), .second, oJ (((p0 &&& (2147483647 : Int32)).toInt64) * ((((p0 &&& (2147483647 : Int32)).toInt64) - (1 : Int64)) / (2 : Int64))), .second, oR a97, .unset, .unset, .unset] []))
      refine own_via (fun t kz => XS.aload X105.here hx rfl (hb hby at_90) rfl rfl kz) ?_
      show own_Go p e below _ (T105.setTop (mkF m 92 #[oI p0, oI p1, oJ p2, .second, oJ p3, .second, oJ p4, .second, oI (p0 &&& (2147483647 : Int32)), oI (1 : Int32), oJ ((p0 &&& (2147483647 : Int32)).toInt64), .second, oJ (((p0 &&& (2147483647 : Int32)).toInt64) * (((p0 &&& (2147483647 : Int32)).toInt64) - (1 : Int64))), .second, oJ (((p0 &&& (2147483647 : Int32)).toInt64) * ((((p0 &&& (2147483647 : Int32)).toInt64) - (1 : Int64)) / (2 : Int64))), .second, oR a97, .unset, .unset, .unset] [(.ref a97)]))
      refine own_via (fun t kz => XS.iconst X105.here hx rfl (hb hby at_92) kz) ?_
      show own_Go p e below _ (T105.setTop (mkF m 93 #[oI p0, oI p1, oJ p2, .second, oJ p3, .second, oJ p4, .second, oI (p0 &&& (2147483647 : Int32)), oI (1 : Int32), oJ ((p0 &&& (2147483647 : Int32)).toInt64), .second, oJ (((p0 &&& (2147483647 : Int32)).toInt64) * (((p0 &&& (2147483647 : Int32)).toInt64) - (1 : Int64))), .second, oJ (((p0 &&& (2147483647 : Int32)).toInt64) * ((((p0 &&& (2147483647 : Int32)).toInt64) - (1 : Int64)) / (2 : Int64))), .second, oR a97, .unset, .unset, .unset] [(.int (2 : Int32)), (.ref a97)]))
      refine own_via (fun t kz => XS.lload X105.here hx rfl (hb hby at_93) rfl kz) ?_
      show own_Go p e below _ (T105.setTop (mkF m 95 #[oI p0, oI p1, oJ p2, .second, oJ p3, .second, oJ p4, .second, oI (p0 &&& (2147483647 : Int32)), oI (1 : Int32), oJ ((p0 &&& (2147483647 : Int32)).toInt64), .second, oJ (((p0 &&& (2147483647 : Int32)).toInt64) * (((p0 &&& (2147483647 : Int32)).toInt64) - (1 : Int64))), .second, oJ (((p0 &&& (2147483647 : Int32)).toInt64) * ((((p0 &&& (2147483647 : Int32)).toInt64) - (1 : Int64)) / (2 : Int64))), .second, oR a97, .unset, .unset, .unset] [(.long (((p0 &&& (2147483647 : Int32)).toInt64) * ((((p0 &&& (2147483647 : Int32)).toInt64) - (1 : Int64)) / (2 : Int64)))), (.int (2 : Int32)), (.ref a97)]))
      refine own_via (fun t kz => XS.lload X105.here hx rfl (hb hby at_95) rfl kz) ?_
      show own_Go p e below _ (T105.setTop (mkF m 97 #[oI p0, oI p1, oJ p2, .second, oJ p3, .second, oJ p4, .second, oI (p0 &&& (2147483647 : Int32)), oI (1 : Int32), oJ ((p0 &&& (2147483647 : Int32)).toInt64), .second, oJ (((p0 &&& (2147483647 : Int32)).toInt64) * (((p0 &&& (2147483647 : Int32)).toInt64) - (1 : Int64))), .second, oJ (((p0 &&& (2147483647 : Int32)).toInt64) * ((((p0 &&& (2147483647 : Int32)).toInt64) - (1 : Int64)) / (2 : Int64))), .second, oR a97, .unset, .unset, .unset] [(.long p4), (.long (((p0 &&& (2147483647 : Int32)).toInt64) * ((((p0 &&& (2147483647 : Int32)).toInt64) - (1 : Int64)) / (2 : Int64)))), (.int (2 : Int32)), (.ref a97)]))
      refine own_via (fun t kz => XS.lsub X105.here hx rfl (hb hby at_97) rfl kz) ?_
      show own_Go p e below _ (T105.setTop (mkF m 98 #[oI p0, oI p1, oJ p2, .second, oJ p3, .second, oJ p4, .second, oI (p0 &&& (2147483647 : Int32)), oI (1 : Int32), oJ ((p0 &&& (2147483647 : Int32)).toInt64), .second, oJ (((p0 &&& (2147483647 : Int32)).toInt64) * (((p0 &&& (2147483647 : Int32)).toInt64) - (1 : Int64))), .second, oJ (((p0 &&& (2147483647 : Int32)).toInt64) * ((((p0 &&& (2147483647 : Int32)).toInt64) - (1 : Int64)) / (2 : Int64))), .second, oR a97, .unset, .unset, .unset] [(.long ((((p0 &&& (2147483647 : Int32)).toInt64) * ((((p0 &&& (2147483647 : Int32)).toInt64) - (1 : Int64)) / (2 : Int64))) - p4)), (.int (2 : Int32)), (.ref a97)]))
      obtain ⟨cl109, Ar109, kc109, Sz109, Nn109, Hs109, Gs109⟩ := id V108
      obtain ⟨T109, h109, X109, e109, W109, st109⟩ := stJ X105 hx hZ e105 Ar109 (j := (2 : Int32)) (inb_of Sz109 ⟨by decide, by decide⟩) (g := (mkF m 98 #[oI p0, oI p1, oJ p2, .second, oJ p3, .second, oJ p4, .second, oI (p0 &&& (2147483647 : Int32)), oI (1 : Int32), oJ ((p0 &&& (2147483647 : Int32)).toInt64), .second, oJ (((p0 &&& (2147483647 : Int32)).toInt64) * (((p0 &&& (2147483647 : Int32)).toInt64) - (1 : Int64))), .second, oJ (((p0 &&& (2147483647 : Int32)).toInt64) * ((((p0 &&& (2147483647 : Int32)).toInt64) - (1 : Int64)) / (2 : Int64))), .second, oR a97, .unset, .unset, .unset] [(.long ((((p0 &&& (2147483647 : Int32)).toInt64) * ((((p0 &&& (2147483647 : Int32)).toInt64) - (1 : Int64)) / (2 : Int64))) - p4)), (.int (2 : Int32)), (.ref a97)])) rfl rfl (hb hby at_98)
      refine own_via st109 ?_
      have Zs110 : n0 ≤ h109.size := Nat.le_trans Zs106 (Keep.of_wr W109).1
      have N111 := Fr.snoc X109 N107 fr98
      have V112 : Arv Z h109 a97 k97 .long (3 : Int32) [(.long ((((p0 &&& (2147483647 : Int32)).toInt64) * (((p0 &&& (2147483647 : Int32)).toInt64) - (1 : Int64))) - p2)), (.long p3), (.long ((((p0 &&& (2147483647 : Int32)).toInt64) * ((((p0 &&& (2147483647 : Int32)).toInt64) - (1 : Int64)) / (2 : Int64))) - p4))] (.long (0 : Int64)) := Arv.set Ar109 kc109 Sz109 Nn109 Hs109 Gs109 rfl W109 2 (by first | decide | (show 2 < 3; decide)) (by first | decide | (show 2 < 3; decide))
      show own_Go p e below _ (T109.setTop (mkF m 99 #[oI p0, oI p1, oJ p2, .second, oJ p3, .second, oJ p4, .second, oI (p0 &&& (2147483647 : Int32)), oI (1 : Int32), oJ ((p0 &&& (2147483647 : Int32)).toInt64), .second, oJ (((p0 &&& (2147483647 : Int32)).toInt64) * (((p0 &&& (2147483647 : Int32)).toInt64) - (1 : Int64))), .second, oJ (((p0 &&& (2147483647 : Int32)).toInt64) * ((((p0 &&& (2147483647 : Int32)).toInt64) - (1 : Int64)) / (2 : Int64))), .second, oR a97, .unset, .unset, .unset] []))
      refine own_via (fun t kz => XS.lloadN X109.here hx rfl (hb hby at_99) rfl kz) ?_
      show own_Go p e below _ (T109.setTop (mkF m 100 #[oI p0, oI p1, oJ p2, .second, oJ p3, .second, oJ p4, .second, oI (p0 &&& (2147483647 : Int32)), oI (1 : Int32), oJ ((p0 &&& (2147483647 : Int32)).toInt64), .second, oJ (((p0 &&& (2147483647 : Int32)).toInt64) * (((p0 &&& (2147483647 : Int32)).toInt64) - (1 : Int64))), .second, oJ (((p0 &&& (2147483647 : Int32)).toInt64) * ((((p0 &&& (2147483647 : Int32)).toInt64) - (1 : Int64)) / (2 : Int64))), .second, oR a97, .unset, .unset, .unset] [(.long p2)]))
      refine own_via (fun t kz => XS.lload X109.here hx rfl (hb hby at_100) rfl kz) ?_
      show own_Go p e below _ (T109.setTop (mkF m 102 #[oI p0, oI p1, oJ p2, .second, oJ p3, .second, oJ p4, .second, oI (p0 &&& (2147483647 : Int32)), oI (1 : Int32), oJ ((p0 &&& (2147483647 : Int32)).toInt64), .second, oJ (((p0 &&& (2147483647 : Int32)).toInt64) * (((p0 &&& (2147483647 : Int32)).toInt64) - (1 : Int64))), .second, oJ (((p0 &&& (2147483647 : Int32)).toInt64) * ((((p0 &&& (2147483647 : Int32)).toInt64) - (1 : Int64)) / (2 : Int64))), .second, oR a97, .unset, .unset, .unset] [(.long p3), (.long p2)]))
      refine own_via (fun t kz => XS.ladd X109.here hx rfl (hb hby at_102) rfl kz) ?_
      show own_Go p e below _ (T109.setTop (mkF m 103 #[oI p0, oI p1, oJ p2, .second, oJ p3, .second, oJ p4, .second, oI (p0 &&& (2147483647 : Int32)), oI (1 : Int32), oJ ((p0 &&& (2147483647 : Int32)).toInt64), .second, oJ (((p0 &&& (2147483647 : Int32)).toInt64) * (((p0 &&& (2147483647 : Int32)).toInt64) - (1 : Int64))), .second, oJ (((p0 &&& (2147483647 : Int32)).toInt64) * ((((p0 &&& (2147483647 : Int32)).toInt64) - (1 : Int64)) / (2 : Int64))), .second, oR a97, .unset, .unset, .unset] [(.long (p2 + p3))]))
      refine own_via (fun t kz => XS.iload X109.here hx rfl (hb hby at_103) rfl kz) ?_
      show own_Go p e below _ (T109.setTop (mkF m 105 #[oI p0, oI p1, oJ p2, .second, oJ p3, .second, oJ p4, .second, oI (p0 &&& (2147483647 : Int32)), oI (1 : Int32), oJ ((p0 &&& (2147483647 : Int32)).toInt64), .second, oJ (((p0 &&& (2147483647 : Int32)).toInt64) * (((p0 &&& (2147483647 : Int32)).toInt64) - (1 : Int64))), .second, oJ (((p0 &&& (2147483647 : Int32)).toInt64) * ((((p0 &&& (2147483647 : Int32)).toInt64) - (1 : Int64)) / (2 : Int64))), .second, oR a97, .unset, .unset, .unset] [(.int (1 : Int32)), (.long (p2 + p3))]))
      refine own_via (fun t kz => XS.ifNo X109.here hx rfl (hb hby at_105) rfl ((if0 _ _).trans (feq (by decide : ¬ ((1 : Int32) = (0 : Int32)))).1) kz) ?_
      show own_Go p e below _ (T109.setTop (mkF m 108 #[oI p0, oI p1, oJ p2, .second, oJ p3, .second, oJ p4, .second, oI (p0 &&& (2147483647 : Int32)), oI (1 : Int32), oJ ((p0 &&& (2147483647 : Int32)).toInt64), .second, oJ (((p0 &&& (2147483647 : Int32)).toInt64) * (((p0 &&& (2147483647 : Int32)).toInt64) - (1 : Int64))), .second, oJ (((p0 &&& (2147483647 : Int32)).toInt64) * ((((p0 &&& (2147483647 : Int32)).toInt64) - (1 : Int64)) / (2 : Int64))), .second, oR a97, .unset, .unset, .unset] [(.long (p2 + p3))]))
      refine own_via (fun t kz => X109.ldc2Long hx hown (mvT hZ (own_w hw 1)) (g := (mkF m 108 #[oI p0, oI p1, oJ p2, .second, oJ p3, .second, oJ p4, .second, oI (p0 &&& (2147483647 : Int32)), oI (1 : Int32), oJ ((p0 &&& (2147483647 : Int32)).toInt64), .second, oJ (((p0 &&& (2147483647 : Int32)).toInt64) * (((p0 &&& (2147483647 : Int32)).toInt64) - (1 : Int64))), .second, oJ (((p0 &&& (2147483647 : Int32)).toInt64) * ((((p0 &&& (2147483647 : Int32)).toInt64) - (1 : Int64)) / (2 : Int64))), .second, oR a97, .unset, .unset, .unset] [(.long (p2 + p3))])) rfl (hb hby at_108) t kz) ?_
      show own_Go p e below _ (T109.setTop (mkF m 111 #[oI p0, oI p1, oJ p2, .second, oJ p3, .second, oJ p4, .second, oI (p0 &&& (2147483647 : Int32)), oI (1 : Int32), oJ ((p0 &&& (2147483647 : Int32)).toInt64), .second, oJ (((p0 &&& (2147483647 : Int32)).toInt64) * (((p0 &&& (2147483647 : Int32)).toInt64) - (1 : Int64))), .second, oJ (((p0 &&& (2147483647 : Int32)).toInt64) * ((((p0 &&& (2147483647 : Int32)).toInt64) - (1 : Int64)) / (2 : Int64))), .second, oR a97, .unset, .unset, .unset] [(.long (2 : Int64)), (.long (p2 + p3))]))
      refine own_via (fun t kz => XS.lload X109.here hx rfl (hb hby at_111) rfl kz) ?_
      show own_Go p e below _ (T109.setTop (mkF m 113 #[oI p0, oI p1, oJ p2, .second, oJ p3, .second, oJ p4, .second, oI (p0 &&& (2147483647 : Int32)), oI (1 : Int32), oJ ((p0 &&& (2147483647 : Int32)).toInt64), .second, oJ (((p0 &&& (2147483647 : Int32)).toInt64) * (((p0 &&& (2147483647 : Int32)).toInt64) - (1 : Int64))), .second, oJ (((p0 &&& (2147483647 : Int32)).toInt64) * ((((p0 &&& (2147483647 : Int32)).toInt64) - (1 : Int64)) / (2 : Int64))), .second, oR a97, .unset, .unset, .unset] [(.long p4), (.long (2 : Int64)), (.long (p2 + p3))]))
      refine own_via (fun t kz => XS.lmul X109.here hx rfl (hb hby at_113) rfl kz) ?_
      show own_Go p e below _ (T109.setTop (mkF m 114 #[oI p0, oI p1, oJ p2, .second, oJ p3, .second, oJ p4, .second, oI (p0 &&& (2147483647 : Int32)), oI (1 : Int32), oJ ((p0 &&& (2147483647 : Int32)).toInt64), .second, oJ (((p0 &&& (2147483647 : Int32)).toInt64) * (((p0 &&& (2147483647 : Int32)).toInt64) - (1 : Int64))), .second, oJ (((p0 &&& (2147483647 : Int32)).toInt64) * ((((p0 &&& (2147483647 : Int32)).toInt64) - (1 : Int64)) / (2 : Int64))), .second, oR a97, .unset, .unset, .unset] [(.long ((2 : Int64) * p4)), (.long (p2 + p3))]))
      refine own_via (fun t kz => XS.goto X109.here hx rfl (pc0 := 114) (pc' := 118) rfl (hb hby at_114) (by decide) (by decide) kz) ?_
      show own_Go p e below _ (T109.setTop (mkF m 118 #[oI p0, oI p1, oJ p2, .second, oJ p3, .second, oJ p4, .second, oI (p0 &&& (2147483647 : Int32)), oI (1 : Int32), oJ ((p0 &&& (2147483647 : Int32)).toInt64), .second, oJ (((p0 &&& (2147483647 : Int32)).toInt64) * (((p0 &&& (2147483647 : Int32)).toInt64) - (1 : Int64))), .second, oJ (((p0 &&& (2147483647 : Int32)).toInt64) * ((((p0 &&& (2147483647 : Int32)).toInt64) - (1 : Int64)) / (2 : Int64))), .second, oR a97, .unset, .unset, .unset] [(.long ((2 : Int64) * p4)), (.long (p2 + p3))]))
      refine own_via (fun t kz => XS.ladd X109.here hx rfl (hb hby at_118) rfl kz) ?_
      show own_Go p e below _ (T109.setTop (mkF m 119 #[oI p0, oI p1, oJ p2, .second, oJ p3, .second, oJ p4, .second, oI (p0 &&& (2147483647 : Int32)), oI (1 : Int32), oJ ((p0 &&& (2147483647 : Int32)).toInt64), .second, oJ (((p0 &&& (2147483647 : Int32)).toInt64) * (((p0 &&& (2147483647 : Int32)).toInt64) - (1 : Int64))), .second, oJ (((p0 &&& (2147483647 : Int32)).toInt64) * ((((p0 &&& (2147483647 : Int32)).toInt64) - (1 : Int64)) / (2 : Int64))), .second, oR a97, .unset, .unset, .unset] [(.long ((p2 + p3) + ((2 : Int64) * p4)))]))
      refine own_via (fun t kz => XS.lstore X109.here hx rfl (hb hby at_119) rfl (l' := #[oI p0, oI p1, oJ p2, .second, oJ p3, .second, oJ p4, .second, oI (p0 &&& (2147483647 : Int32)), oI (1 : Int32), oJ ((p0 &&& (2147483647 : Int32)).toInt64), .second, oJ (((p0 &&& (2147483647 : Int32)).toInt64) * (((p0 &&& (2147483647 : Int32)).toInt64) - (1 : Int64))), .second, oJ (((p0 &&& (2147483647 : Int32)).toInt64) * ((((p0 &&& (2147483647 : Int32)).toInt64) - (1 : Int64)) / (2 : Int64))), .second, oR a97, oJ ((p2 + p3) + ((2 : Int64) * p4)), .second, .unset]) rfl kz) ?_
      show own_Go p e below _ (T109.setTop (mkF m 121 #[oI p0, oI p1, oJ p2, .second, oJ p3, .second, oJ p4, .second, oI (p0 &&& (2147483647 : Int32)), oI (1 : Int32), oJ ((p0 &&& (2147483647 : Int32)).toInt64), .second, oJ (((p0 &&& (2147483647 : Int32)).toInt64) * (((p0 &&& (2147483647 : Int32)).toInt64) - (1 : Int64))), .second, oJ (((p0 &&& (2147483647 : Int32)).toInt64) * ((((p0 &&& (2147483647 : Int32)).toInt64) - (1 : Int64)) / (2 : Int64))), .second, oR a97, oJ ((p2 + p3) + ((2 : Int64) * p4)), .second, .unset] []))
      obtain ⟨T113, h113, X113, e113, E113, A113, D113, -, st113⟩ := newO X109 hx hZ hown (own_w hw 3) (own_w hw 4) (own_w hw 5) e109 (g := (mkF m 121 #[oI p0, oI p1, oJ p2, .second, oJ p3, .second, oJ p4, .second, oI (p0 &&& (2147483647 : Int32)), oI (1 : Int32), oJ ((p0 &&& (2147483647 : Int32)).toInt64), .second, oJ (((p0 &&& (2147483647 : Int32)).toInt64) * (((p0 &&& (2147483647 : Int32)).toInt64) - (1 : Int64))), .second, oJ (((p0 &&& (2147483647 : Int32)).toInt64) * ((((p0 &&& (2147483647 : Int32)).toInt64) - (1 : Int64)) / (2 : Int64))), .second, oR a97, oJ ((p2 + p3) + ((2 : Int64) * p4)), .second, .unset] [])) rfl (hb hby at_121) (by decide) (by decide)
      obtain ⟨a113, g113⟩ : ∃ z, z = h109.size := ⟨_, rfl⟩
      rw [← g113] at A113 D113 st113
      refine own_via st113 ?_
      have lt114 : a97 < a113 := Nat.lt_of_lt_of_le V112.lt (Nat.le_of_eq g113.symm)
      have fr115 : n0 ≤ a113 := Nat.le_trans Zs110 (Nat.le_of_eq g113.symm)
      have V116 := V112.ext E113
      have Zs117 : n0 ≤ h113.size := Nat.le_trans Zs110 E113.1
      have F118 : Fld Z h113 a113 "com/example/matchloom/matchloom/league/FormatRules" "teams" "I" (.int (0 : Int32)) := D113 (Or.inr (own_w hw 18)) (ty := .int) (by decide)
      have F119 : Fld Z h113 a113 "com/example/matchloom/matchloom/league/FormatRules" "phased" "Z" (.int (0 : Int32)) := D113 (Or.inr (own_w hw 20)) (ty := .boolean) (by decide)
      show own_Go p e below _ (T113.setTop (mkF m 124 #[oI p0, oI p1, oJ p2, .second, oJ p3, .second, oJ p4, .second, oI (p0 &&& (2147483647 : Int32)), oI (1 : Int32), oJ ((p0 &&& (2147483647 : Int32)).toInt64), .second, oJ (((p0 &&& (2147483647 : Int32)).toInt64) * (((p0 &&& (2147483647 : Int32)).toInt64) - (1 : Int64))), .second, oJ (((p0 &&& (2147483647 : Int32)).toInt64) * ((((p0 &&& (2147483647 : Int32)).toInt64) - (1 : Int64)) / (2 : Int64))), .second, oR a97, oJ ((p2 + p3) + ((2 : Int64) * p4)), .second, .unset] [(.ref a113)]))
      refine own_via (fun t kz => XS.dup X113.here hx rfl (hb hby at_124) rfl rfl kz) ?_
      show own_Go p e below _ (T113.setTop (mkF m 125 #[oI p0, oI p1, oJ p2, .second, oJ p3, .second, oJ p4, .second, oI (p0 &&& (2147483647 : Int32)), oI (1 : Int32), oJ ((p0 &&& (2147483647 : Int32)).toInt64), .second, oJ (((p0 &&& (2147483647 : Int32)).toInt64) * (((p0 &&& (2147483647 : Int32)).toInt64) - (1 : Int64))), .second, oJ (((p0 &&& (2147483647 : Int32)).toInt64) * ((((p0 &&& (2147483647 : Int32)).toInt64) - (1 : Int64)) / (2 : Int64))), .second, oR a97, oJ ((p2 + p3) + ((2 : Int64) * p4)), .second, .unset] [(.ref a113), (.ref a113)]))
      refine own_via (fun t kz => XS.iload X113.here hx rfl (hb hby at_125) rfl kz) ?_
      show own_Go p e below _ (T113.setTop (mkF m 127 #[oI p0, oI p1, oJ p2, .second, oJ p3, .second, oJ p4, .second, oI (p0 &&& (2147483647 : Int32)), oI (1 : Int32), oJ ((p0 &&& (2147483647 : Int32)).toInt64), .second, oJ (((p0 &&& (2147483647 : Int32)).toInt64) * (((p0 &&& (2147483647 : Int32)).toInt64) - (1 : Int64))), .second, oJ (((p0 &&& (2147483647 : Int32)).toInt64) * ((((p0 &&& (2147483647 : Int32)).toInt64) - (1 : Int64)) / (2 : Int64))), .second, oR a97, oJ ((p2 + p3) + ((2 : Int64) * p4)), .second, .unset] [(.int (p0 &&& (2147483647 : Int32))), (.ref a113), (.ref a113)]))
      refine own_via (fun t kz => XS.iload X113.here hx rfl (hb hby at_127) rfl kz) ?_
      show own_Go p e below _ (T113.setTop (mkF m 129 #[oI p0, oI p1, oJ p2, .second, oJ p3, .second, oJ p4, .second, oI (p0 &&& (2147483647 : Int32)), oI (1 : Int32), oJ ((p0 &&& (2147483647 : Int32)).toInt64), .second, oJ (((p0 &&& (2147483647 : Int32)).toInt64) * (((p0 &&& (2147483647 : Int32)).toInt64) - (1 : Int64))), .second, oJ (((p0 &&& (2147483647 : Int32)).toInt64) * ((((p0 &&& (2147483647 : Int32)).toInt64) - (1 : Int64)) / (2 : Int64))), .second, oR a97, oJ ((p2 + p3) + ((2 : Int64) * p4)), .second, .unset] [(.int (1 : Int32)), (.int (p0 &&& (2147483647 : Int32))), (.ref a113), (.ref a113)]))
      obtain ⟨_, _, ⟨T120, L120, k120, n120⟩, -, X120, ⟨Lc120, hQ120, l120, y120, z120⟩, st120⟩ := X113.specialBack hx (y := (⟨"com/example/matchloom/matchloom/league/FormatRules", "<init>", "(IZ)V"⟩ : MethodName)) rfl hown (mvT hZ (own_w hw 6)) (mvT hZ (own_w hw 7)) (mvT hZ (own_w hw 8)) (by decide) (backOf (W := 1) (rm1 l Z a0 hw [] a113 (p0 &&& (2147483647 : Int32)) (1 : Int32) h113 n0 Zs117 fr115 A113 F118 F119 rfl rfl) hZ (own_w hw 8) (own_w hw 5) (by decide) (by decide)) (g := (mkF m 129 #[oI p0, oI p1, oJ p2, .second, oJ p3, .second, oJ p4, .second, oI (p0 &&& (2147483647 : Int32)), oI (1 : Int32), oJ ((p0 &&& (2147483647 : Int32)).toInt64), .second, oJ (((p0 &&& (2147483647 : Int32)).toInt64) * (((p0 &&& (2147483647 : Int32)).toInt64) - (1 : Int64))), .second, oJ (((p0 &&& (2147483647 : Int32)).toInt64) * ((((p0 &&& (2147483647 : Int32)).toInt64) - (1 : Int64)) / (2 : Int64))), .second, oR a97, oJ ((p2 + p3) + ((2 : Int64) * p4)), .second, .unset] [(.int (1 : Int32)), (.int (p0 &&& (2147483647 : Int32))), (.ref a113), (.ref a113)])) rfl (by rw [hml]; rfl) (Steps.refl _) (a := a113) (argsL := [(.int (p0 &&& (2147483647 : Int32))), (.int (1 : Int32))]) (rest := [(.ref a113)]) (lenOf pd_0_0 rfl) rfl (by show 2 * 0 + _ ≤ _; exact Nat.le_of_eq rfl) (hb hby at_129) (fun _ _ => ⟨rfl, e113, (by decide : 2 + 0 ≤ _), (by decide : 5 + 0 ≤ _)⟩)
      dsimp only [Pt.U, Pt.locs, Pt.cells, Pt.slots] at X120 l120 y120 z120 st120 hQ120
      subst l120 y120 z120
      obtain ⟨rfl, Nq120, Kc120, Fc0_120, Fc1_120⟩ := hQ120
      have N121 := Fr.app N111 Nq120
      refine own_tr st120 ?_
      have V122 := V116.keep Kc120 (ninS (Nat.ne_of_lt lt114) nin0)
      have E123 := A113.keep Kc120
      have Zs124 : n0 ≤ T120.heap.size := Nat.le_trans Zs117 Kc120.1
      show own_Go p e below _ (T120.setTop (mkF m 132 #[oI p0, oI p1, oJ p2, .second, oJ p3, .second, oJ p4, .second, oI (p0 &&& (2147483647 : Int32)), oI (1 : Int32), oJ ((p0 &&& (2147483647 : Int32)).toInt64), .second, oJ (((p0 &&& (2147483647 : Int32)).toInt64) * (((p0 &&& (2147483647 : Int32)).toInt64) - (1 : Int64))), .second, oJ (((p0 &&& (2147483647 : Int32)).toInt64) * ((((p0 &&& (2147483647 : Int32)).toInt64) - (1 : Int64)) / (2 : Int64))), .second, oR a97, oJ ((p2 + p3) + ((2 : Int64) * p4)), .second, .unset] [(.ref a113)]))
      refine own_via (fun t kz => XS.astore X120.here hx rfl (hb hby at_132) rfl rfl (l' := #[oI p0, oI p1, oJ p2, .second, oJ p3, .second, oJ p4, .second, oI (p0 &&& (2147483647 : Int32)), oI (1 : Int32), oJ ((p0 &&& (2147483647 : Int32)).toInt64), .second, oJ (((p0 &&& (2147483647 : Int32)).toInt64) * (((p0 &&& (2147483647 : Int32)).toInt64) - (1 : Int64))), .second, oJ (((p0 &&& (2147483647 : Int32)).toInt64) * ((((p0 &&& (2147483647 : Int32)).toInt64) - (1 : Int64)) / (2 : Int64))), .second, oR a97, oJ ((p2 + p3) + ((2 : Int64) * p4)), .second, oR a113]) rfl kz) ?_
      show own_Go p e below _ (T120.setTop (mkF m 134 #[oI p0, oI p1, oJ p2, .second, oJ p3, .second, oJ p4, .second, oI (p0 &&& (2147483647 : Int32)), oI (1 : Int32), oJ ((p0 &&& (2147483647 : Int32)).toInt64), .second, oJ (((p0 &&& (2147483647 : Int32)).toInt64) * (((p0 &&& (2147483647 : Int32)).toInt64) - (1 : Int64))), .second, oJ (((p0 &&& (2147483647 : Int32)).toInt64) * ((((p0 &&& (2147483647 : Int32)).toInt64) - (1 : Int64)) / (2 : Int64))), .second, oR a97, oJ ((p2 + p3) + ((2 : Int64) * p4)), .second, oR a113] []))
      refine own_via (fun t kz => XS.aload X120.here hx rfl (hb hby at_134) rfl rfl kz) ?_
      show own_Go p e below _ (T120.setTop (mkF m 136 #[oI p0, oI p1, oJ p2, .second, oJ p3, .second, oJ p4, .second, oI (p0 &&& (2147483647 : Int32)), oI (1 : Int32), oJ ((p0 &&& (2147483647 : Int32)).toInt64), .second, oJ (((p0 &&& (2147483647 : Int32)).toInt64) * (((p0 &&& (2147483647 : Int32)).toInt64) - (1 : Int64))), .second, oJ (((p0 &&& (2147483647 : Int32)).toInt64) * ((((p0 &&& (2147483647 : Int32)).toInt64) - (1 : Int64)) / (2 : Int64))), .second, oR a97, oJ ((p2 + p3) + ((2 : Int64) * p4)), .second, oR a113] [(.ref a113)]))
      refine own_via (fun t kz => XS.aload X120.here hx rfl (hb hby at_136) rfl rfl kz) ?_
      show own_Go p e below _ (T120.setTop (mkF m 138 #[oI p0, oI p1, oJ p2, .second, oJ p3, .second, oJ p4, .second, oI (p0 &&& (2147483647 : Int32)), oI (1 : Int32), oJ ((p0 &&& (2147483647 : Int32)).toInt64), .second, oJ (((p0 &&& (2147483647 : Int32)).toInt64) * (((p0 &&& (2147483647 : Int32)).toInt64) - (1 : Int64))), .second, oJ (((p0 &&& (2147483647 : Int32)).toInt64) * ((((p0 &&& (2147483647 : Int32)).toInt64) - (1 : Int64)) / (2 : Int64))), .second, oR a97, oJ ((p2 + p3) + ((2 : Int64) * p4)), .second, oR a113] [(.ref a97), (.ref a113)]))
      obtain ⟨cq125, kq125, qa125, qb125, qc125⟩ := isOf hZ rfl E123
      obtain ⟨_, _, ⟨T125, L125, k125, n125⟩, -, X125, ⟨Lc125, hQ125, l125, y125, z125⟩, st125⟩ := X120.virtualBack hx (y := (⟨"com/example/matchloom/matchloom/league/FormatRules", "total", "([J)J"⟩ : MethodName)) (z := (⟨"com/example/matchloom/matchloom/league/FormatRules", "total", "([J)J"⟩ : MethodName)) hown (mvT hZ (own_w hw 21)) (mvT hZ (own_w hw 22)) (notFace_of_selects (args := #[]) (mvT hZ (own_w hw 24))) (mvT hZ (own_w hw 24)) (mvT hZ (own_w hw 23)) (by decide) (backOf (W := 0) (rm4 l Z a0 hw [] a113 a97 (p0 &&& (2147483647 : Int32)) (1 : Int32) k97 ((((p0 &&& (2147483647 : Int32)).toInt64) * (((p0 &&& (2147483647 : Int32)).toInt64) - (1 : Int64))) - p2) p3 ((((p0 &&& (2147483647 : Int32)).toInt64) * ((((p0 &&& (2147483647 : Int32)).toInt64) - (1 : Int64)) / (2 : Int64))) - p4) ((((((p0 &&& (2147483647 : Int32)).toInt64) * (((p0 &&& (2147483647 : Int32)) - (1 : Int32)).toInt64)) - ((((p0 &&& (2147483647 : Int32)).toInt64) * (((p0 &&& (2147483647 : Int32)).toInt64) - (1 : Int64))) - p2)) + p3) + ((2 : Int64) * (((((p0 &&& (2147483647 : Int32)).toInt64) * (((p0 &&& (2147483647 : Int32)) - (1 : Int32)).toInt64)) / (2 : Int64)) - ((((p0 &&& (2147483647 : Int32)).toInt64) * ((((p0 &&& (2147483647 : Int32)).toInt64) - (1 : Int64)) / (2 : Int64))) - p4)))) T120.heap n0 Zs124 Fc0_120 Fc1_120 V122 (by unfold f4; rw [if_neg (by decide : ¬ ((1 : Int32) = (0 : Int32)))])) hZ (own_w hw 25) (own_w hw 5) (by decide) (by decide)) qa125 qc125 (g := (mkF m 138 #[oI p0, oI p1, oJ p2, .second, oJ p3, .second, oJ p4, .second, oI (p0 &&& (2147483647 : Int32)), oI (1 : Int32), oJ ((p0 &&& (2147483647 : Int32)).toInt64), .second, oJ (((p0 &&& (2147483647 : Int32)).toInt64) * (((p0 &&& (2147483647 : Int32)).toInt64) - (1 : Int64))), .second, oJ (((p0 &&& (2147483647 : Int32)).toInt64) * ((((p0 &&& (2147483647 : Int32)).toInt64) - (1 : Int64)) / (2 : Int64))), .second, oR a97, oJ ((p2 + p3) + ((2 : Int64) * p4)), .second, oR a113] [(.ref a97), (.ref a113)])) rfl (by rw [hml]; rfl) (Steps.refl _) (argsL := [(.ref a97)]) (rest := []) (lenOf pd_0_1 rfl) rfl (by show 2 * 0 + _ ≤ _; exact Nat.le_of_eq rfl) (hb hby at_138) (fun _ _ => ⟨rfl, rfl, (by decide : 2 + 0 ≤ _), (by decide : 5 + 0 ≤ _)⟩)
      dsimp only [Pt.U, Pt.locs, Pt.cells, Pt.slots] at X125 l125 y125 z125 st125 hQ125
      subst l125 y125 z125
      obtain ⟨rfl, Nq125, e125⟩ := hQ125
      have N126 := Fr.app N121 Nq125
      refine own_tr st125 ?_
      show own_Go p e below _ (T125.setTop (mkF m 141 #[oI p0, oI p1, oJ p2, .second, oJ p3, .second, oJ p4, .second, oI (p0 &&& (2147483647 : Int32)), oI (1 : Int32), oJ ((p0 &&& (2147483647 : Int32)).toInt64), .second, oJ (((p0 &&& (2147483647 : Int32)).toInt64) * (((p0 &&& (2147483647 : Int32)).toInt64) - (1 : Int64))), .second, oJ (((p0 &&& (2147483647 : Int32)).toInt64) * ((((p0 &&& (2147483647 : Int32)).toInt64) - (1 : Int64)) / (2 : Int64))), .second, oR a97, oJ ((p2 + p3) + ((2 : Int64) * p4)), .second, oR a113] [(.long ((((((p0 &&& (2147483647 : Int32)).toInt64) * (((p0 &&& (2147483647 : Int32)) - (1 : Int32)).toInt64)) - ((((p0 &&& (2147483647 : Int32)).toInt64) * (((p0 &&& (2147483647 : Int32)).toInt64) - (1 : Int64))) - p2)) + p3) + ((2 : Int64) * (((((p0 &&& (2147483647 : Int32)).toInt64) * (((p0 &&& (2147483647 : Int32)) - (1 : Int32)).toInt64)) / (2 : Int64)) - ((((p0 &&& (2147483647 : Int32)).toInt64) * ((((p0 &&& (2147483647 : Int32)).toInt64) - (1 : Int64)) / (2 : Int64))) - p4)))))]))
      refine own_via (fun t kz => XS.lload X125.here hx rfl (hb hby at_141) rfl kz) ?_
      show own_Go p e below _ (T125.setTop (mkF m 143 #[oI p0, oI p1, oJ p2, .second, oJ p3, .second, oJ p4, .second, oI (p0 &&& (2147483647 : Int32)), oI (1 : Int32), oJ ((p0 &&& (2147483647 : Int32)).toInt64), .second, oJ (((p0 &&& (2147483647 : Int32)).toInt64) * (((p0 &&& (2147483647 : Int32)).toInt64) - (1 : Int64))), .second, oJ (((p0 &&& (2147483647 : Int32)).toInt64) * ((((p0 &&& (2147483647 : Int32)).toInt64) - (1 : Int64)) / (2 : Int64))), .second, oR a97, oJ ((p2 + p3) + ((2 : Int64) * p4)), .second, oR a113] [(.long ((p2 + p3) + ((2 : Int64) * p4))), (.long ((((((p0 &&& (2147483647 : Int32)).toInt64) * (((p0 &&& (2147483647 : Int32)) - (1 : Int32)).toInt64)) - ((((p0 &&& (2147483647 : Int32)).toInt64) * (((p0 &&& (2147483647 : Int32)).toInt64) - (1 : Int64))) - p2)) + p3) + ((2 : Int64) * (((((p0 &&& (2147483647 : Int32)).toInt64) * (((p0 &&& (2147483647 : Int32)) - (1 : Int32)).toInt64)) / (2 : Int64)) - ((((p0 &&& (2147483647 : Int32)).toInt64) * ((((p0 &&& (2147483647 : Int32)).toInt64) - (1 : Int64)) / (2 : Int64))) - p4)))))]))
      refine own_via (fun t kz => XS.lcmp X125.here hx rfl (hb hby at_143) rfl kz) ?_
      show own_Go p e below _ (T125.setTop (mkF m 144 #[oI p0, oI p1, oJ p2, .second, oJ p3, .second, oJ p4, .second, oI (p0 &&& (2147483647 : Int32)), oI (1 : Int32), oJ ((p0 &&& (2147483647 : Int32)).toInt64), .second, oJ (((p0 &&& (2147483647 : Int32)).toInt64) * (((p0 &&& (2147483647 : Int32)).toInt64) - (1 : Int64))), .second, oJ (((p0 &&& (2147483647 : Int32)).toInt64) * ((((p0 &&& (2147483647 : Int32)).toInt64) - (1 : Int64)) / (2 : Int64))), .second, oR a97, oJ ((p2 + p3) + ((2 : Int64) * p4)), .second, oR a113] [(.int (lcmpW ((((((p0 &&& (2147483647 : Int32)).toInt64) * (((p0 &&& (2147483647 : Int32)) - (1 : Int32)).toInt64)) - ((((p0 &&& (2147483647 : Int32)).toInt64) * (((p0 &&& (2147483647 : Int32)).toInt64) - (1 : Int64))) - p2)) + p3) + ((2 : Int64) * (((((p0 &&& (2147483647 : Int32)).toInt64) * (((p0 &&& (2147483647 : Int32)) - (1 : Int32)).toInt64)) / (2 : Int64)) - ((((p0 &&& (2147483647 : Int32)).toInt64) * ((((p0 &&& (2147483647 : Int32)).toInt64) - (1 : Int64)) / (2 : Int64))) - p4)))) ((p2 + p3) + ((2 : Int64) * p4))))]))
      refine own_via (fun t kz => XS.ifNo X125.here hx rfl (hb hby at_144) rfl ((if0 _ _).trans (teq ((lw_eq _ _).mpr (own_fin3 p0 p2 p3 p4 hc41_65))).2) kz) ?_
      show own_Go p e below _ (T125.setTop (mkF m 147 #[oI p0, oI p1, oJ p2, .second, oJ p3, .second, oJ p4, .second, oI (p0 &&& (2147483647 : Int32)), oI (1 : Int32), oJ ((p0 &&& (2147483647 : Int32)).toInt64), .second, oJ (((p0 &&& (2147483647 : Int32)).toInt64) * (((p0 &&& (2147483647 : Int32)).toInt64) - (1 : Int64))), .second, oJ (((p0 &&& (2147483647 : Int32)).toInt64) * ((((p0 &&& (2147483647 : Int32)).toInt64) - (1 : Int64)) / (2 : Int64))), .second, oR a97, oJ ((p2 + p3) + ((2 : Int64) * p4)), .second, oR a113] []))
      refine own_via (fun t kz => XS.iconst X125.here hx rfl (hb hby at_147) kz) ?_
      show own_Go p e below _ (T125.setTop (mkF m 148 #[oI p0, oI p1, oJ p2, .second, oJ p3, .second, oJ p4, .second, oI (p0 &&& (2147483647 : Int32)), oI (1 : Int32), oJ ((p0 &&& (2147483647 : Int32)).toInt64), .second, oJ (((p0 &&& (2147483647 : Int32)).toInt64) * (((p0 &&& (2147483647 : Int32)).toInt64) - (1 : Int64))), .second, oJ (((p0 &&& (2147483647 : Int32)).toInt64) * ((((p0 &&& (2147483647 : Int32)).toInt64) - (1 : Int64)) / (2 : Int64))), .second, oR a97, oJ ((p2 + p3) + ((2 : Int64) * p4)), .second, oR a113] [(.int (1 : Int32))]))
      refine own_via (fun t kz => XS.goto X125.here hx rfl (pc0 := 148) (pc' := 152) rfl (hb hby at_148) (by decide) (by decide) kz) ?_
      show own_Go p e below _ (T125.setTop (mkF m 152 #[oI p0, oI p1, oJ p2, .second, oJ p3, .second, oJ p4, .second, oI (p0 &&& (2147483647 : Int32)), oI (1 : Int32), oJ ((p0 &&& (2147483647 : Int32)).toInt64), .second, oJ (((p0 &&& (2147483647 : Int32)).toInt64) * (((p0 &&& (2147483647 : Int32)).toInt64) - (1 : Int64))), .second, oJ (((p0 &&& (2147483647 : Int32)).toInt64) * ((((p0 &&& (2147483647 : Int32)).toInt64) - (1 : Int64)) / (2 : Int64))), .second, oR a97, oJ ((p2 + p3) + ((2 : Int64) * p4)), .second, oR a113] [(.int (1 : Int32))]))
      obtain ⟨fs, hr, hrun, hended, hW, hsame⟩ := X125.leave (v := some (.int (1 : Int32))) (fun h => by rw [Bd.returns] at h; cases h)
      refine ⟨_, _, retN X125 hx (t := .boolean) Bd.returns (by simp) (hb hby at_152) hr, hrun, hended, _, _, rfl, ?_, ⟨_, rfl⟩, hW, hsame.mono (by decide) (by decide)⟩
      show Q0 Z p0 p1 p2 p3 p4 h0 n0 _ T125.heap _
      rw [e125]
      exact ⟨rfl, N126⟩
set_option maxRecDepth 65536 in
set_option maxHeartbeats 40000000 in
theorem comes_1 {Post : Tables → Env → Array Value → State → Outcome → State → Prop} (hpost : ∀ tb e args s v u, (limb_1_1.after args s (.returned v) u = true ∧ limb_1_2.after args s (.returned v) u = true ∧ True) → FrameEnd s (.returned v) u (Jvm.fieldLocs frame_1_writes args s ++ Jvm.arrayLocs frame_1_arrays args s ++ Jvm.staticLocs frame_1_statics s) 16 128 → Post tb e args s (.returned v) u) :
    ArmFor flags0 classFile x code maxLocals ret World_1 tables_1 room_1 Calls_1 rest_1 Pre_1 Post := by
  intro l hfl _ _ p e ha hc hk s m args below hf hA hF happ hP
  obtain ⟨hcalls, hrest, hpre⟩ := hP
  obtain ⟨-, -, -, hnamed, -, -, -, hat⟩ := (Spec.applies_iff hf).mp happ
  obtain ⟨hg, hn⟩ := and_e (Cond.before_iff.mp (show (Jvm.Cond.and given_1 narrow_1).before args s = true from hpre))
  obtain ⟨g1, g2⟩ := and_e hg
  obtain ⟨g3, g4⟩ := and_e g2
  obtain ⟨g5, g6⟩ := and_e g4
  obtain ⟨g7, g8⟩ := and_e g6
  obtain ⟨g9, g10⟩ := and_e g8
  obtain ⟨w0, w1, w2, w3, w4, rfl⟩ : ∃ w0 w1 w2 w3 w4 : Value, args = #[w0, w1, w2, w3, w4] := by
    have hs : args.size = 5 := by simpa [Cond.value, given_1] using g1
    obtain ⟨L⟩ := args
    match L, hs with
    | [w0, w1, w2, w3, w4], _ => exact ⟨w0, w1, w2, w3, w4, rfl⟩
  have hw := fun d (hd : d ∈ tables_1) => atoms_spec (ws := Jvm.Cond.code x code maxLocals ret :: tables_1) hat d (List.mem_cons_of_mem _ hd)
  obtain ⟨i0, ei0⟩ := is_v g3
  obtain rfl : w0 = (.int i0) := Option.some.inj ei0
  obtain ⟨i1, ei1⟩ := is_v g5
  obtain rfl : w1 = (.int i1) := Option.some.inj ei1
  obtain ⟨i2, ei2⟩ := isL_v g7
  obtain rfl : w2 = (.long i2) := Option.some.inj ei2
  obtain ⟨i3, ei3⟩ := isL_v g9
  obtain rfl : w3 = (.long i3) := Option.some.inj ei3
  obtain ⟨i4, ei4⟩ := isL_v g10
  obtain rfl : w4 = (.long i4) := Option.some.inj ei4
  obtain ⟨n, o, h1, h2, h3, _, L, rfl, ⟨rfl, N⟩, hq⟩ := rm0 l s _ hw tables_1 i0 i1 i2 i3 i4 s.heap s.heap.size (Nat.le_refl _)  p e ha hc hk s m _ below hf ((Spec.applies_iff_loose hf).mp happ).1 ⟨rfl, State.Warmed39.refl s, rfl⟩ trivial
  refine ⟨n, _, h1, h2, h3, hpost _ _ _ _ _ _ ⟨Cond.after_iff.mpr rfl, Cond.after_iff.mpr (eq_i res_at (Term.int_eval (1)) rfl), trivial⟩ ⟨hq.1, hq.2.1, (hq.2.2.sift fun y hy => Or.inr (N y hy)).mono (by decide) (by decide)⟩⟩
theorem main_1_1 : Claimed_1_1 := comes_1 fun _ _ _ _ _ _ h hF => ⟨h.1, hF⟩
theorem main_1_2 : Claimed_1_2 := comes_1 fun _ _ _ _ _ _ h hF => ⟨h.2.1, hF⟩
end Jvm.Pilot.@@N@@
namespace Jvm.Pilot.@@N@@
open Jvm Jvm.ClassFile Sem Op Lib Jvm.Free Jvm.Stand Jvm.Pilot.@@N@@.Jvm.D
/-! MADE BY PROGRAM (witnessworld.py) out of the Statement's table words and the real class files: 14 classes; the members and pool entries that the words name. The judged class is class 1, her method 1. -/
namespace start1
open Jvm.ClassFile
def u (s : String) : CpInfo := .utf8 (stringToUtf16 s)
/-- a pool by its gaps: so many unusable entries, then the entry; so many at the end -/
def gap : Nat → List CpInfo → List CpInfo
  | 0, r => r
  | n + 1, r => .unusable :: gap n r
def poolList (es : List (Nat × CpInfo)) (last : Nat) : List CpInfo := es.foldr (fun e r => gap e.1 (e.2 :: r)) (gap last [])
def pool (es : List (Nat × CpInfo)) (last : Nat) : Array CpInfo := ⟨poolList es last⟩
def fileOf (pool : Array CpInfo) (this : Nat) (attrs : Array Attribute := #[]) (ms : Array MethodInfo := #[]) (fl : Nat := 33) (sup : Nat := 0) (ifs : Array Nat := #[]) (fds : Array FieldInfo := #[]) : ClassFile where
  minorVersion := 0
  majorVersion := 65
  constantPool := pool
  accessFlags := fl
  thisClass := this
  superClass := sup
  interfaces := ifs
  fields := fds
  methods := ms
  attributes := attrs
def plain (name : String) (sup : Option ClassId) : Class where
  name := name
  kind := .ordinary
  loader := none
  accessFlags := 33
  super := sup
  interfaces := #[]
  cf := none
  fields := #[]
  methods := #[]
  instanceTypes := #[]
  staticTypes := #[]
  resolved := #[]
  callSites := []
  init := .initialized
  statics := none
  mirror := none

def pool0 : Array CpInfo := pool [(5, u "<init>"), (0, u "()V"), (1, .class_ 10), (1, u "java/lang/Object")] 113

def k0c0 : Code := { maxStack := 0, maxLocals := 1, code := object_method_1_code, exceptionTable := #[], attributes := #[] }
def k0m0 : Method := { name := "<init>", desc := "()V", sig := { parameters := [], returnType := none }, accessFlags := 1, code := some k0c0 }
/-- java/lang/Object -/
def k0 : Class := { plain "java/lang/Object" none with
  accessFlags := 33
  interfaces := #[]
  cf := some (fileOf pool0 8 #[] #[{ accessFlags := 1, nameIndex := 5, descriptorIndex := 6, attributes := #[] }] 33 0 #[] #[])
  fields := #[]
  methods := #[k0m0]
  instanceTypes := #[]
  staticTypes := #[]
  resolved := Array.replicate 124 none
  statics := none }

def pool1 : Array CpInfo := pool [(2, .class_ 4), (1, u "java/lang/Object"), (0, u "<init>"), (0, u "()V"), (0, .integer 2147483647), (0, .long 2), (1, .class_ 11), (0, u "com/example/matchloom/matchloom/league/FormatRules"), (0, .methodref 10 13), (0, .nameAndType 5 14), (0, u "(IZ)V"), (0, .methodref 10 16), (0, .nameAndType 17 18), (0, u "total"), (0, u "([J)J"), (0, .class_ 20), (0, u "com/example/matchloom/matchloom/league/FormatRulesTotalPinLaw"), (2, u "law"), (0, u "(IIJJJ)Z")] 5

def k1m0 : Method := { name := "<init>", desc := "()V", sig := { parameters := [], returnType := none }, accessFlags := 1, code := none }
def k1c1 : Code := { maxStack := 6, maxLocals := 20, code := code, exceptionTable := #[], attributes := #[] }
def k1m1 : Method := { name := "law", desc := "(IIJJJ)Z", sig := { parameters := [.int, .int, .long, .long, .long], returnType := some .boolean }, accessFlags := 9, code := some k1c1 }
/-- com/example/matchloom/matchloom/league/FormatRulesTotalPinLaw -/
def k1 : Class := { plain "com/example/matchloom/matchloom/league/FormatRulesTotalPinLaw" (some 0) with
  accessFlags := 49
  interfaces := #[]
  cf := some (fileOf pool1 19 #[] #[{ accessFlags := 1, nameIndex := 5, descriptorIndex := 6, attributes := #[] }, { accessFlags := 9, nameIndex := 23, descriptorIndex := 24, attributes := #[] }] 49 2 #[] #[])
  fields := #[]
  methods := #[k1m0, k1m1]
  instanceTypes := #[]
  staticTypes := #[]
  resolved := Array.replicate 30 none
  statics := none }

def pool2 : Array CpInfo := pool [(1, .methodref 2 3), (0, .class_ 4), (0, .nameAndType 5 6), (0, u "java/lang/Object"), (0, u "<init>"), (0, u "()V"), (0, .class_ 8), (0, u "java/lang/Record")] 13

def k2c0 : Code := { maxStack := 1, maxLocals := 1, code := jdk_30_method_1_code, exceptionTable := #[], attributes := #[] }
def k2m0 : Method := { name := "<init>", desc := "()V", sig := { parameters := [], returnType := none }, accessFlags := 4, code := some k2c0 }
/-- java/lang/Record -/
def k2 : Class := { plain "java/lang/Record" (some 0) with
  accessFlags := 1057
  interfaces := #[]
  cf := some (fileOf pool2 7 #[] #[{ accessFlags := 4, nameIndex := 5, descriptorIndex := 6, attributes := #[] }] 1057 2 #[] #[])
  fields := #[]
  methods := #[k2m0]
  instanceTypes := #[]
  staticTypes := #[]
  resolved := Array.replicate 22 none
  statics := none }

def pool3 : Array CpInfo := pool [(1, .class_ 2), (0, u "com/example/matchloom/matchloom/league/Deviation"), (0, .class_ 4), (0, u "java/lang/Object")] 8

/-- com/example/matchloom/matchloom/league/Deviation -/
def k3 : Class := { plain "com/example/matchloom/matchloom/league/Deviation" (some 0) with
  accessFlags := 1537
  interfaces := #[]
  cf := some (fileOf pool3 1 #[] #[] 1537 3 #[] #[])
  fields := #[]
  methods := #[]
  instanceTypes := #[]
  staticTypes := #[]
  resolved := Array.replicate 13 none
  statics := none }

def pool4 : Array CpInfo := pool [(2, .class_ 4), (1, u "com/example/matchloom/matchloom/league/TalliedDeviation"), (35, .class_ 41), (0, u "java/lang/Object"), (0, .class_ 43), (0, u "com/example/matchloom/matchloom/league/Deviation")] 11

/-- com/example/matchloom/matchloom/league/TalliedDeviation -/
def k4 : Class := { plain "com/example/matchloom/matchloom/league/TalliedDeviation" (some 0) with
  accessFlags := 1536
  interfaces := #[3]
  cf := some (fileOf pool4 2 #[] #[] 1536 40 #[42] #[])
  fields := #[]
  methods := #[]
  instanceTypes := #[]
  staticTypes := #[]
  resolved := Array.replicate 55 none
  statics := none }

def pool5 : Array CpInfo := pool [(1, .methodref 2 3), (0, .class_ 4), (0, .nameAndType 5 6), (0, u "java/lang/Record"), (0, u "<init>"), (0, u "()V"), (0, .fieldref 8 9), (0, .class_ 10), (0, .nameAndType 11 12), (0, u "com/example/matchloom/matchloom/league/FormatRules"), (0, u "teams"), (0, u "I"), (0, .fieldref 8 14), (0, .nameAndType 15 16), (0, u "phased"), (0, u "Z"), (34, .long 2), (38, .class_ 91), (0, u "com/example/matchloom/matchloom/league/TalliedDeviation"), (0, u "HOSTED"), (2, u "CROWDED"), (1, u "MET_ONCE"), (1, u "(IZ)V"), (13, u "total"), (0, u "([J)J")] 28

def k5c0 : Code := { maxStack := 2, maxLocals := 3, code := prog_16_method_1_code, exceptionTable := #[], attributes := #[] }
def k5m0 : Method := { name := "<init>", desc := "(IZ)V", sig := { parameters := [.int, .boolean], returnType := none }, accessFlags := 0, code := some k5c0 }
def k5c1 : Code := { maxStack := 8, maxLocals := 6, code := prog_16_method_4_code, exceptionTable := #[], attributes := #[] }
def k5m1 : Method := { name := "total", desc := "([J)J", sig := { parameters := [(.array .long)], returnType := some .long }, accessFlags := 1, code := some k5c1 }
/-- com/example/matchloom/matchloom/league/FormatRules -/
def k5 : Class := { plain "com/example/matchloom/matchloom/league/FormatRules" (some 2) with
  accessFlags := 48
  interfaces := #[4]
  cf := some (fileOf pool5 8 #[] #[{ accessFlags := 0, nameIndex := 5, descriptorIndex := 99, attributes := #[] }, { accessFlags := 1, nameIndex := 113, descriptorIndex := 114, attributes := #[] }] 48 2 #[90] #[{ accessFlags := 18, nameIndex := 11, descriptorIndex := 12, attributes := #[] }, { accessFlags := 18, nameIndex := 15, descriptorIndex := 16, attributes := #[] }, { accessFlags := 26, nameIndex := 92, descriptorIndex := 12, attributes := #[] }, { accessFlags := 26, nameIndex := 95, descriptorIndex := 12, attributes := #[] }, { accessFlags := 26, nameIndex := 97, descriptorIndex := 12, attributes := #[] }])
  fields := #[{ name := "teams", type := .int, accessFlags := 18, slot := 0, constantValue := 0 }, { name := "phased", type := .boolean, accessFlags := 18, slot := 1, constantValue := 0 }, { name := "HOSTED", type := .int, accessFlags := 26, slot := 0, constantValue := 0 }, { name := "CROWDED", type := .int, accessFlags := 26, slot := 1, constantValue := 0 }, { name := "MET_ONCE", type := .int, accessFlags := 26, slot := 2, constantValue := 0 }]
  methods := #[k5m0, k5m1]
  instanceTypes := #[.int, .boolean]
  staticTypes := #[.int, .int, .int]
  resolved := Array.replicate 143 none
  statics := none }

def pool6 : Array CpInfo := pool [(1, u "java/lang/Cloneable"), (0, .class_ 1), (0, u "java/lang/Object"), (0, .class_ 3)] 3

/-- java/lang/Cloneable -/
def k6 : Class := { plain "java/lang/Cloneable" (some 0) with
  accessFlags := 1537
  interfaces := #[]
  cf := some (fileOf pool6 2 #[] #[] 1537 4 #[] #[])
  fields := #[]
  methods := #[]
  instanceTypes := #[]
  staticTypes := #[]
  resolved := Array.replicate 8 none
  statics := none }

def pool7 : Array CpInfo := pool [(1, u "java/io/Serializable"), (0, .class_ 1), (0, u "java/lang/Object"), (0, .class_ 3)] 3

/-- java/io/Serializable -/
def k7 : Class := { plain "java/io/Serializable" (some 0) with
  accessFlags := 1537
  interfaces := #[]
  cf := some (fileOf pool7 2 #[] #[] 1537 4 #[] #[])
  fields := #[]
  methods := #[]
  instanceTypes := #[]
  staticTypes := #[]
  resolved := Array.replicate 8 none
  statics := none }

/-- the primitive byte -/
def k8 : Class := { plain "byte" none with kind := .primitive 'B', accessFlags := 0x411 }
/-- [B -/
def k9 : Class := { plain "[B" (some 0) with kind := .array 8 .byte, interfaces := #[6, 7], accessFlags := 1041 }

/-- the primitive int -/
def k10 : Class := { plain "int" none with kind := .primitive 'I', accessFlags := 0x411 }
/-- [I -/
def k11 : Class := { plain "[I" (some 0) with kind := .array 10 .int, interfaces := #[6, 7], accessFlags := 1041 }

/-- the primitive long -/
def k12 : Class := { plain "long" none with kind := .primitive 'J', accessFlags := 0x411 }
/-- [J -/
def k13 : Class := { plain "[J" (some 0) with kind := .array 12 .long, interfaces := #[6, 7], accessFlags := 1041 }

def heap : Heap := #[]
def classes : Array Class := #[k0, k1, k2, k3, k4, k5, k6, k7, k8, k9, k10, k11, k12, k13]
def interned : List (Array UInt16 × Addr) := []
def slotsUsed : Nat := 0
def theMethod : MethodId := ⟨1, 1⟩
def args0 : Array Value := #[.int 5, .int 1, .long 3, .long 4, .long 2]
def aboutOver (below : List Frame) : State where
  vm := { classes := classes, interned := interned.toArray }
  heap := heap
  slotsUsed := slotsUsed
  threads := #[{ frames := .invoking theMethod args0 :: below }]
def below0 : List Frame := [.native { method := ⟨0, 0⟩, args := #[] }]
def about1 : State := aboutOver below0
def p0 : Program := .bare "" "" ""
def e0 : Env := launch0.env 0 0 0
theorem w_frames : about1.frames = Frame.invoking theMethod args0 :: below0 := rfl
set_option maxRecDepth 65536 in
theorem w_args : argsFit about1.vm theMethod args0 = true := by decide +kernel
set_option maxRecDepth 65536 in
theorem w_heap : heapFits about1 = true := by decide +kernel
set_option maxRecDepth 65536 in
theorem w_runnable : about1.curStatus? = some .runnable := by decide +kernel
set_option maxRecDepth 65536 in
theorem w_alone : about1.alone = true := by decide +kernel
set_option maxRecDepth 65536 in
theorem w_named : about1.methodNamed? x = some theMethod := by decide +kernel
set_option maxRecDepth 65536 in
theorem w_hears : about1.hears theMethod below0 = true := by decide +kernel
set_option maxRecDepth 65536 in
theorem w_ripe : about1.ripe theMethod args0 below0 = true := by decide +kernel
theorem w_running : about1.status = .running := rfl
set_option maxRecDepth 65536 in
theorem w_room : about1.hasRoom e0.platform room_1 = true :=
  launch0.hasRoom_least _ room_1 (by decide +kernel) (by decide +kernel) (by decide +kernel) (by decide +kernel) (by decide +kernel) (by decide +kernel)
theorem allAtoms_all (ts : List Jvm.Cond) (a : Array Jvm.Value) (st : Jvm.State) : (allAtoms ts).before a st = ts.all (fun c => c.before a st) := by
  induction ts with
  | nil => rfl
  | cons c t ih =>
    show (Jvm.Cond.and c (allAtoms t)).before a st = _
    rw [Jvm.Cond.before_and, ih, List.all_cons]
def words1 : List Jvm.Cond := Jvm.Cond.code x code maxLocals ret :: tables_1
/-- a 'code' word, met by the world's own term for the bytes: nothing is compared byte by byte -/
theorem code_word {y : MethodName} {bytes : ByteArray} {mx : Nat} {rt : Option FieldType} {a : Array Value} {s : State} {m : MethodId} {meth : Method} {c : Code} (h1 : s.methodNamed? y = some m) (h2 : s.vm.method? m = some meth) (h3 : meth.code = some c) (h4 : c.code = bytes)
    (h5 : (c.maxLocals == mx && c.exceptionTable.isEmpty && decide (c.maxStack ≤ mostOperands) && decide (meth.sig.returnType = rt) && !meth.locks && decide (parseMethodDescriptor y.desc = some meth.sig)) = true) : (Jvm.Cond.code y bytes mx rt).before a s = true := by
  simp only [Bool.and_eq_true, beq_iff_eq, Bool.not_eq_true', decide_eq_true_eq] at h5
  obtain ⟨⟨⟨⟨⟨g1, g2⟩, g3⟩, g4⟩, g5⟩, g6⟩ := h5
  simp [Cond.before, Cond.holds, Cond.value, h1, h2, h3, h4, g1, g2, g3, g4, g5, g6]
def isCode : Jvm.Cond → Bool
  | .code _ _ _ _ => true
  | _ => false
theorem all_split {L : List Jvm.Cond} {P : Jvm.Cond → Bool} (h1 : L.all (fun c => isCode c || P c) = true) (h2 : ∀ c ∈ L.filter isCode, P c = true) : L.all P = true := by
  refine List.all_eq_true.mpr fun c hc => ?_
  have h := List.all_eq_true.mp h1 c hc
  rcases Bool.eq_false_or_eq_true (isCode c) with hi | hi
  · exact h2 c (List.mem_filter.mpr ⟨hc, hi⟩)
  · simpa [hi] using h
set_option maxRecDepth 65536 in
theorem w_c0 : (Jvm.Cond.code x code maxLocals ret).before args0 about1 = true := code_word (m := ⟨1, 1⟩) (meth := k1m1) (c := k1c1) (by decide +kernel) rfl rfl rfl (by decide +kernel)
set_option maxRecDepth 65536 in
theorem w_c1 : (Jvm.Cond.code ({ cls := "com/example/matchloom/matchloom/league/FormatRules", name := "<init>", desc := "(IZ)V" } : Jvm.MethodName) prog_16_method_1_code (3 : Nat) (Option.none : Option Jvm.ClassFile.FieldType)).before args0 about1 = true := code_word (m := ⟨5, 0⟩) (meth := k5m0) (c := k5c0) (by decide +kernel) rfl rfl rfl (by decide +kernel)
set_option maxRecDepth 65536 in
theorem w_c2 : (Jvm.Cond.code ({ cls := "java/lang/Record", name := "<init>", desc := "()V" } : Jvm.MethodName) jdk_30_method_1_code (1 : Nat) (Option.none : Option Jvm.ClassFile.FieldType)).before args0 about1 = true := code_word (m := ⟨2, 0⟩) (meth := k2m0) (c := k2c0) (by decide +kernel) rfl rfl rfl (by decide +kernel)
set_option maxRecDepth 65536 in
theorem w_c3 : (Jvm.Cond.code ({ cls := "java/lang/Object", name := "<init>", desc := "()V" } : Jvm.MethodName) object_method_1_code (1 : Nat) (Option.none : Option Jvm.ClassFile.FieldType)).before args0 about1 = true := code_word (m := ⟨0, 0⟩) (meth := k0m0) (c := k0c0) (by decide +kernel) rfl rfl rfl (by decide +kernel)
set_option maxRecDepth 65536 in
theorem w_c4 : (Jvm.Cond.code ({ cls := "com/example/matchloom/matchloom/league/FormatRules", name := "total", desc := "([J)J" } : Jvm.MethodName) prog_16_method_4_code (6 : Nat) (Option.some Jvm.ClassFile.FieldType.long)).before args0 about1 = true := code_word (m := ⟨5, 1⟩) (meth := k5m1) (c := k5c1) (by decide +kernel) rfl rfl rfl (by decide +kernel)
def codes1 : List Jvm.Cond := [Jvm.Cond.code x code maxLocals ret, Jvm.Cond.code ({ cls := "com/example/matchloom/matchloom/league/FormatRules", name := "<init>", desc := "(IZ)V" } : Jvm.MethodName) prog_16_method_1_code (3 : Nat) (Option.none : Option Jvm.ClassFile.FieldType), Jvm.Cond.code ({ cls := "java/lang/Record", name := "<init>", desc := "()V" } : Jvm.MethodName) jdk_30_method_1_code (1 : Nat) (Option.none : Option Jvm.ClassFile.FieldType), Jvm.Cond.code ({ cls := "java/lang/Object", name := "<init>", desc := "()V" } : Jvm.MethodName) object_method_1_code (1 : Nat) (Option.none : Option Jvm.ClassFile.FieldType), Jvm.Cond.code ({ cls := "com/example/matchloom/matchloom/league/FormatRules", name := "total", desc := "([J)J" } : Jvm.MethodName) prog_16_method_4_code (6 : Nat) (Option.some Jvm.ClassFile.FieldType.long)]
set_option maxRecDepth 65536 in
theorem codes_eq : words1.filter isCode = codes1 := rfl
theorem w_codes : ∀ c ∈ words1.filter isCode, c.before args0 about1 = true := by
  rw [codes_eq]
  intro c hc
  simp only [codes1, List.mem_cons, List.not_mem_nil, or_false] at hc
  rcases hc with rfl | rfl | rfl | rfl | rfl
  · exact w_c0
  · exact w_c1
  · exact w_c2
  · exact w_c3
  · exact w_c4
set_option maxRecDepth 65536 in
theorem w_t1 : (words1.take 24).all (fun c => isCode c || c.before args0 about1) = true := by decide +kernel
set_option maxRecDepth 65536 in
theorem w_t2 : (words1.drop 24).all (fun c => isCode c || c.before args0 about1) = true := by decide +kernel
theorem w_tables : (allAtoms (Jvm.Cond.code x code maxLocals ret :: tables_1)).before args0 about1 = true := by
  rw [allAtoms_all]
  show words1.all (fun c => c.before args0 about1) = true
  refine all_split ?_ w_codes
  rw [← List.take_append_drop 24 words1, List.all_append, w_t1, w_t2]
  rfl
set_option maxRecDepth 65536 in
theorem w_case : (Jvm.Cond.and given_1 narrow_1).before args0 about1 = true := by decide +kernel
theorem w_applies : (headSpec (Jvm.Cond.code x code maxLocals ret :: tables_1) room_1).applies x e0.platform about1 = true :=
  (Spec.applies_iff w_frames).mpr ⟨w_running, w_runnable, w_alone, w_named, w_hears, w_ripe, w_room, w_tables⟩
theorem atStart : AtStart classFile x code maxLocals ret World_1 tables_1 room_1 Calls_1 rest_1 Pre_1 launch0 p0 e0 about1 theMethod args0 below0 :=
  ⟨lists_1, trivial, launch0.admits_env _ _ _, launch0.least_env, fairChoices_fair.cas, fairChoices_fair.clock, w_frames, w_args, w_heap, w_applies, trivial, trivial, w_case⟩
end start1
theorem witness_1 : WitnessClaimed_1 := ⟨start1.p0, start1.e0, start1.about1, start1.theMethod, start1.args0, start1.below0, start1.atStart⟩
end Jvm.Pilot.@@N@@
