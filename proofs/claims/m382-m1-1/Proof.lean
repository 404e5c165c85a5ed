import JvmDerived
import JvmDerived.Pilot.@@N@@Statement
import JvmDerived.Pilot.@@N@@Code
set_option linter.unusedVariables false
set_option linter.unusedSimpArgs false
namespace Jvm.RoadKit
open Sem ClassFile Op Lib Jvm.Stand Jvm.Free Jvm.LawKit
section New
variable {p : Program} {l : Launch} {e : Env} {R : Room} {s : State} {m : MethodId} {args : Array Value} {below : List Frame} {meth : Method} {c : Code} {T : State} {locs : List Loc} {cells slots : Nat}
theorem retI (X : Stand p l e R s m args below meth c T locs cells slots) (hx : p.tables.exec = Jvm.exec) {pc : Nat} {Ls : Array Slot} {z : Int32} {rest : List Value} (hret : meth.sig.returnType = some .int) (hd : decode c.code pc = .ok (.ireturn, 1)) {fs : List Frame}
    (hl : ∀ (f : JFrame) (acts : List Action), f.method = m → f.locked = none → f.entered = [] → (doReturn e (T.setTop f) acts (some (.int z))).1 = T.setFrames fs) : Steps p.tables e below (T.setTop (mkF m pc Ls (.int z :: rest))) (T.setFrames fs) := by
  have hm' : T.vm.method? m = some meth := X.method'
  have hn : narrow .int (.int z) = .int z := rfl
  show Steps p.tables e below (T.setTop { method := m, pc := pc, locals := Ls, stack := _ :: rest, locked := none }) _
  jvm_step X.here [X.here.top, hx, hd, hm', hret, hn]
  first | (intro acts; rw [hl _ acts rfl rfl rfl]) | rw [hl _ _ rfl rfl rfl]
  exact Steps.refl _
end New
end Jvm.RoadKit
namespace Jvm.Pilot.@@N@@
open Jvm Jvm.FP Jvm.Free.Fl Jvm.ClassFile Sem Op Lib Jvm.Free Jvm.Stand Jvm.LawKit Jvm.RoadKit Bundle Jvm.Pilot.@@N@@.Jvm.D
theorem own_w {a0 : Array Value} {Z : State} (hw : ∀ d ∈ tables_1, d.before a0 Z = true) (k : Nat) {d : Jvm.Cond} (h : tables_1[k]? = some d := by rfl) : d.before a0 Z = true := hw _ (List.mem_of_getElem? h)
abbrev oI (x : Int32) : Slot := .val (.int x)
abbrev oR (a : Addr) : Slot := .val (.ref a)
abbrev oJ (x : Int64) : Slot := .val (.long x)
abbrev oD (x : UInt64) : Slot := .val (.double x)
/-- from the state A the run comes to an end of which Q holds -/
def own_Go (p : Program) (e : Env) (below : List Frame) (Q : Outcome → State → Prop) (A : State) : Prop := ∃ s₂ o, Steps p.tables e below A s₂ ∧ s₂.status = .running ∧ Ended s₂ below o ∧ Q o s₂
theorem own_via {p : Program} {e : Env} {below : List Frame} {Q : Outcome → State → Prop} {A B : State} (h : ∀ t, Steps p.tables e below B t → Steps p.tables e below A t) (g : own_Go p e below Q B) : own_Go p e below Q A := by
  obtain ⟨s₂, o, h1, h2⟩ := g
  exact ⟨s₂, o, h _ h1, h2⟩
theorem own_tr {p : Program} {e : Env} {below : List Frame} {Q : Outcome → State → Prop} {A B : State} (h : Steps p.tables e below A B) (g : own_Go p e below Q B) : own_Go p e below Q A := by
  obtain ⟨s₂, o, h1, h2⟩ := g
  exact ⟨s₂, o, h.trans h1, h2⟩
/-- from the state A the run comes to a state B of which Φ holds -/
def own_Pc (p : Program) (e : Env) (below : List Frame) (Φ : State → Prop) (A : State) : Prop := ∃ B, (∀ t, Steps p.tables e below B t → Steps p.tables e below A t) ∧ Φ B
theorem own_pvia {p : Program} {e : Env} {below : List Frame} {Φ : State → Prop} {A B : State} (h : ∀ t, Steps p.tables e below B t → Steps p.tables e below A t) (g : own_Pc p e below Φ B) : own_Pc p e below Φ A := by
  obtain ⟨B', h1, h2⟩ := g
  exact ⟨B', fun t k => h t (h1 t k), h2⟩
theorem own_ptr {p : Program} {e : Env} {below : List Frame} {Φ : State → Prop} {A B : State} (h : Steps p.tables e below A B) (g : own_Pc p e below Φ B) : own_Pc p e below Φ A := own_pvia (fun t k => h.trans k) g
theorem own_start {p : Program} {e : Env} {below : List Frame} {Q : Outcome → State → Prop} {A : State} (h : own_Go p e below Q A) : ∃ s₂ o, Steps p.tables e below A s₂ ∧ s₂.status = .running ∧ Ended s₂ below o ∧ Q o s₂ := h
theorem own_dconst0 : FP.dconst0 = FP.l2d (0 : Int64) := by decide +kernel
theorem own_dconst1 : FP.dconst1 = FP.l2d (1 : Int64) := by decide +kernel
theorem own_b53i (x : Int32) : B53 x.toInt64 := by
  have h := rng32 x
  have e := c_i2l x
  constructor <;> omega
theorem d3_0 : decode jdk_22_method_1_code 0 = .ok (.aload_n 0, 1) := by decide +kernel
theorem d3_1 : decode jdk_22_method_1_code 1 = .ok (.invokespecial 1, 3) := by decide +kernel
theorem d3_4 : decode jdk_22_method_1_code 4 = .ok (.return_, 1) := by decide +kernel
theorem pn_3 : plainName "java/util/AbstractCollection" = true := by first | (simp [plainName, overriddenIn]; done) | decide +kernel
theorem ef_rm3 (m : MethodId) (q0 : Addr) : entryFrame m #[(.ref q0)] 1 = mkF m 0 #[oR q0] [] := by first | (simp [entryFrame, mkF, argsToLocals, Value.category]; done) | rfl
def Q3 (Z : State) (this : Addr) (h0 : Heap) (n0 : Nat) (v : Option Value) (h : Heap) (L : List Loc) : Prop := v = none ∧ Fr n0 L ∧ h = h0
set_option maxRecDepth 65536 in
set_option maxHeartbeats 40000000 in
theorem rm3 (l : Launch) (Z : State) (a0 : Array Value) (hw : ∀ d ∈ tables_1, d.before a0 Z = true) (ws : List Jvm.Cond) (this : Addr) (h0 : Heap) (n0 : Nat) (Z0 : n0 ≤ h0.size) :
    MetFree l (⟨"java/util/AbstractCollection", "<init>", "()V"⟩ : MethodName) (head1 (Jvm.Cond.code (⟨"java/util/AbstractCollection", "<init>", "()V"⟩ : MethodName) jdk_22_method_1_code 1 none :: ws) ({ frames := 1, cells := 0, slots := 0, locals := 12 } : Room)) (fun a U => a = #[(.ref this)] ∧ Z.Warmed39 U.vm ∧ U.heap = h0) (fun _ _ _ _ _ => True) (fun _ U o U' => ∃ v L, o = .returned v ∧ Q3 Z this h0 n0 v U'.heap L ∧ FrameEnd U o U' L ({ frames := 1, cells := 0, slots := 0, locals := 12 } : Room).cells ({ frames := 1, cells := 0, slots := 0, locals := 12 } : Room).slots) := by
  refine MetFree.of_bodySF (plainFor_of_name pn_3) hisR ?_
  intro p e s m args below meth c s₁ Bd hml0 hP hK
  obtain ⟨rfl, hZ, hh⟩ := hP
  have hx := Bd.exec
  have hby := Bd.bytes
  have hml : c.maxLocals = 1 := hml0
  have hown : s.vm.findClass "java/util/AbstractCollection" = some m.cls := findClass_of_methodNamed Bd.named
  have hnm := (name_of_methodNamed Bd.named Bd.method).1
  have X0 : Stand p l e ({ frames := 1, cells := 0, slots := 0, locals := 12 } : Room) s m #[(.ref this)] below meth c s₁ [] 0 0 := Stand.of_body Bd
  have e0 : s₁.heap = h0 := by rw [← hh, Bd.state]; rfl
  have N0 := Fr.nil n0
  refine own_start ?_
  refine own_via (fun t k => castTop (ef_rm3 m this) k) ?_
  show own_Go p e below _ (s₁.setTop (mkF m 0 #[oR this] []))
  refine own_via (fun t k => XS.aloadN X0.here hx rfl (hb hby d3_0) rfl rfl k) ?_
  show own_Go p e below _ (s₁.setTop (mkF m 1 #[oR this] [(.ref this)]))
  obtain ⟨T1, X1, e1, st1⟩ := initO X0 hx hZ hown (own_w hw 23) (own_w hw 24) (own_w hw 25) e0 (g := (mkF m 1 #[oR this] [(.ref this)])) rfl (by rw [hml]; rfl) rfl (hb hby d3_1) (by decide) (W := 0) (by show 2 * 0 + _ ≤ _; exact Nat.le_of_eq rfl) (by decide)
  refine own_via st1 ?_
  show own_Go p e below _ (T1.setTop (mkF m 4 #[oR this] []))
  obtain ⟨fs, hr, hrun, hended, hW, hsame⟩ := X1.leave (v := none) (fun _ => rfl)
  refine ⟨_, _, X1.returnOut hx Bd.returns (hb hby d3_4) hr, hrun, hended, _, _, rfl, ?_, ⟨_, rfl⟩, hW, hsame.mono (by decide) (by decide)⟩
  show Q3 Z this h0 n0 _ T1.heap _
  rw [e1]
  exact ⟨rfl, N0, rfl⟩
theorem d6_0 : decode jdk_30_method_1_code 0 = .ok (.aload_n 0, 1) := by decide +kernel
theorem d6_1 : decode jdk_30_method_1_code 1 = .ok (.invokespecial 1, 3) := by decide +kernel
theorem d6_4 : decode jdk_30_method_1_code 4 = .ok (.return_, 1) := by decide +kernel
theorem pn_6 : plainName "java/lang/Record" = true := by first | (simp [plainName, overriddenIn]; done) | decide +kernel
theorem ef_rm6 (m : MethodId) (q0 : Addr) : entryFrame m #[(.ref q0)] 1 = mkF m 0 #[oR q0] [] := by first | (simp [entryFrame, mkF, argsToLocals, Value.category]; done) | rfl
def Q6 (Z : State) (this : Addr) (h0 : Heap) (n0 : Nat) (v : Option Value) (h : Heap) (L : List Loc) : Prop := v = none ∧ Fr n0 L ∧ h = h0
set_option maxRecDepth 65536 in
set_option maxHeartbeats 40000000 in
theorem rm6 (l : Launch) (Z : State) (a0 : Array Value) (hw : ∀ d ∈ tables_1, d.before a0 Z = true) (ws : List Jvm.Cond) (this : Addr) (h0 : Heap) (n0 : Nat) (Z0 : n0 ≤ h0.size) :
    MetFree l (⟨"java/lang/Record", "<init>", "()V"⟩ : MethodName) (head1 (Jvm.Cond.code (⟨"java/lang/Record", "<init>", "()V"⟩ : MethodName) jdk_30_method_1_code 1 none :: ws) ({ frames := 1, cells := 0, slots := 0, locals := 12 } : Room)) (fun a U => a = #[(.ref this)] ∧ Z.Warmed39 U.vm ∧ U.heap = h0) (fun _ _ _ _ _ => True) (fun _ U o U' => ∃ v L, o = .returned v ∧ Q6 Z this h0 n0 v U'.heap L ∧ FrameEnd U o U' L ({ frames := 1, cells := 0, slots := 0, locals := 12 } : Room).cells ({ frames := 1, cells := 0, slots := 0, locals := 12 } : Room).slots) := by
  refine MetFree.of_bodySF (plainFor_of_name pn_6) hisR ?_
  intro p e s m args below meth c s₁ Bd hml0 hP hK
  obtain ⟨rfl, hZ, hh⟩ := hP
  have hx := Bd.exec
  have hby := Bd.bytes
  have hml : c.maxLocals = 1 := hml0
  have hown : s.vm.findClass "java/lang/Record" = some m.cls := findClass_of_methodNamed Bd.named
  have hnm := (name_of_methodNamed Bd.named Bd.method).1
  have X0 : Stand p l e ({ frames := 1, cells := 0, slots := 0, locals := 12 } : Room) s m #[(.ref this)] below meth c s₁ [] 0 0 := Stand.of_body Bd
  have e0 : s₁.heap = h0 := by rw [← hh, Bd.state]; rfl
  have N0 := Fr.nil n0
  refine own_start ?_
  refine own_via (fun t k => castTop (ef_rm6 m this) k) ?_
  show own_Go p e below _ (s₁.setTop (mkF m 0 #[oR this] []))
  refine own_via (fun t k => XS.aloadN X0.here hx rfl (hb hby d6_0) rfl rfl k) ?_
  show own_Go p e below _ (s₁.setTop (mkF m 1 #[oR this] [(.ref this)]))
  obtain ⟨T1, X1, e1, st1⟩ := initO X0 hx hZ hown (own_w hw 39) (own_w hw 24) (own_w hw 25) e0 (g := (mkF m 1 #[oR this] [(.ref this)])) rfl (by rw [hml]; rfl) rfl (hb hby d6_1) (by decide) (W := 0) (by show 2 * 0 + _ ≤ _; exact Nat.le_of_eq rfl) (by decide)
  refine own_via st1 ?_
  show own_Go p e below _ (T1.setTop (mkF m 4 #[oR this] []))
  obtain ⟨fs, hr, hrun, hended, hW, hsame⟩ := X1.leave (v := none) (fun _ => rfl)
  refine ⟨_, _, X1.returnOut hx Bd.returns (hb hby d6_4) hr, hrun, hended, _, _, rfl, ?_, ⟨_, rfl⟩, hW, hsame.mono (by decide) (by decide)⟩
  show Q6 Z this h0 n0 _ T1.heap _
  rw [e1]
  exact ⟨rfl, N0, rfl⟩
theorem d2_0 : decode jdk_39_method_1_code 0 = .ok (.aload_n 0, 1) := by decide +kernel
theorem d2_1 : decode jdk_39_method_1_code 1 = .ok (.invokespecial 1, 3) := by decide +kernel
theorem d2_4 : decode jdk_39_method_1_code 4 = .ok (.aload_n 0, 1) := by decide +kernel
theorem d2_5 : decode jdk_39_method_1_code 5 = .ok (.iconst 0, 1) := by decide +kernel
theorem d2_6 : decode jdk_39_method_1_code 6 = .ok (.putfield 7, 3) := by decide +kernel
theorem d2_9 : decode jdk_39_method_1_code 9 = .ok (.return_, 1) := by decide +kernel
theorem pn_2 : plainName "java/util/AbstractList" = true := by first | (simp [plainName, overriddenIn]; done) | decide +kernel
theorem pd_2_0 : parseMethodDescriptor "()V" = some ⟨[], none⟩ := by decide +kernel
theorem ef_rm2s (m : MethodId) (q0 : Addr) : entryFrame m #[(.ref q0)] 1 = mkF m 0 #[oR q0] [] := by first | (simp [entryFrame, mkF, argsToLocals, Value.category]; done) | rfl
def Q2s (Z : State) (this : Addr) (wd : Addr) (h0 : Heap) (n0 : Nat) (v : Option Value) (h : Heap) (L : List Loc) : Prop := v = none ∧ Fr n0 L ∧ Keep h0 h [this] ∧ Fld Z h this "java/util/ArrayList" "elementData" "[Ljava/lang/Object;" .null ∧ Sta Z h "java/util/ArrayList" "DEFAULTCAPACITY_EMPTY_ELEMENTDATA" "[Ljava/lang/Object;" (.ref wd)
set_option maxRecDepth 65536 in
set_option maxHeartbeats 40000000 in
theorem rm2s (l : Launch) (Z : State) (a0 : Array Value) (hw : ∀ d ∈ tables_1, d.before a0 Z = true) (ws : List Jvm.Cond) (this : Addr) (wd : Addr) (h0 : Heap) (n0 : Nat) (Z0 : n0 ≤ h0.size) (g_this : n0 ≤ this) (E_this : Exa Z h0 this "java/util/ArrayList") (F_modCount : Fld Z h0 this "java/util/AbstractList" "modCount" "I" (.int (0 : Int32))) (F_elementData : Fld Z h0 this "java/util/ArrayList" "elementData" "[Ljava/lang/Object;" .null) (S_d : Sta Z h0 "java/util/ArrayList" "DEFAULTCAPACITY_EMPTY_ELEMENTDATA" "[Ljava/lang/Object;" (.ref wd)) :
    MetFree l (⟨"java/util/AbstractList", "<init>", "()V"⟩ : MethodName) (head1 (Jvm.Cond.code (⟨"java/util/AbstractList", "<init>", "()V"⟩ : MethodName) jdk_39_method_1_code 1 none :: ws) ({ frames := 2, cells := 0, slots := 0, locals := 24 } : Room)) (fun a U => a = #[(.ref this)] ∧ Z.Warmed39 U.vm ∧ U.heap = h0) (fun _ _ _ _ _ => True) (fun _ U o U' => ∃ v L, o = .returned v ∧ Q2s Z this wd h0 n0 v U'.heap L ∧ FrameEnd U o U' L ({ frames := 2, cells := 0, slots := 0, locals := 24 } : Room).cells ({ frames := 2, cells := 0, slots := 0, locals := 24 } : Room).slots) := by
  refine MetFree.of_bodySF (plainFor_of_name pn_2) hisR ?_
  intro p e s m args below meth c s₁ Bd hml0 hP hK
  obtain ⟨rfl, hZ, hh⟩ := hP
  have hx := Bd.exec
  have hby := Bd.bytes
  have hml : c.maxLocals = 1 := hml0
  have hown : s.vm.findClass "java/util/AbstractList" = some m.cls := findClass_of_methodNamed Bd.named
  have hnm := (name_of_methodNamed Bd.named Bd.method).1
  have X0 : Stand p l e ({ frames := 2, cells := 0, slots := 0, locals := 24 } : Room) s m #[(.ref this)] below meth c s₁ [] 0 0 := Stand.of_body Bd
  have e0 : s₁.heap = h0 := by rw [← hh, Bd.state]; rfl
  have N0 := Fr.nil n0
  refine own_start ?_
  refine own_via (fun t k => castTop (ef_rm2s m this) k) ?_
  show own_Go p e below _ (s₁.setTop (mkF m 0 #[oR this] []))
  refine own_via (fun t k => XS.aloadN X0.here hx rfl (hb hby d2_0) rfl rfl k) ?_
  show own_Go p e below _ (s₁.setTop (mkF m 1 #[oR this] [(.ref this)]))
  obtain ⟨_, _, ⟨T1, L1, k1, n1⟩, -, X1, ⟨Lc1, hQ1, l1, y1, z1⟩, st1⟩ := X0.specialBack hx (y := (⟨"java/util/AbstractCollection", "<init>", "()V"⟩ : MethodName)) rfl hown (mvT hZ (own_w hw 17)) (mvT hZ (own_w hw 18)) (mvT hZ (own_w hw 22)) (by decide) (backOf (W := 0) (rm3 l Z a0 hw [] this h0 n0 Z0) hZ (own_w hw 22) (own_w hw 21) (by decide) (by decide)) (g := (mkF m 1 #[oR this] [(.ref this)])) rfl (by rw [hml]; rfl) (Steps.refl _) (a := this) (argsL := []) (rest := []) (lenOf pd_2_0 rfl) rfl (by show 2 * 0 + _ ≤ _; exact Nat.le_of_eq rfl) (hb hby d2_1) (fun _ _ => ⟨rfl, e0, (by decide : 0 + 0 ≤ _), (by decide : 0 + 0 ≤ _)⟩)
  dsimp only [Pt.U, Pt.locs, Pt.cells, Pt.slots] at X1 l1 y1 z1 st1 hQ1
  subst l1 y1 z1
  obtain ⟨rfl, Nq1, e1⟩ := hQ1
  have N2 := Fr.app N0 Nq1
  refine own_tr st1 ?_
  show own_Go p e below _ (T1.setTop (mkF m 4 #[oR this] []))
  refine own_via (fun t k => XS.aloadN X1.here hx rfl (hb hby d2_4) rfl rfl k) ?_
  show own_Go p e below _ (T1.setTop (mkF m 5 #[oR this] [(.ref this)]))
  refine own_via (fun t k => XS.iconst X1.here hx rfl (hb hby d2_5) k) ?_
  show own_Go p e below _ (T1.setTop (mkF m 6 #[oR this] [(.int (0 : Int32)), (.ref this)]))
  obtain ⟨T3, h3, X3, e3, W3, st3⟩ := putF X1 hx hZ hown (host := "") (Or.inl (own_w hw 26)) Via.refl e1 F_modCount E_this (Or.inl (own_w hw 27)) (own_w hw 6) (ty := .int) (by decide) rfl rfl (g := (mkF m 6 #[oR this] [(.int (0 : Int32)), (.ref this)])) rfl rfl (hb hby d2_6)
  refine own_via st3 ?_
  have E4 := E_this.wr W3
  have F5 := F_modCount.same W3
  have F6 := F_elementData.other W3 (Or.inr (slot_ne (Or.inl (own_w hw 30)) (Or.inl (own_w hw 27)) (by decide) (t := (.array (.object "java/lang/Object"))) (t' := .int) (by decide) (by decide)))
  have S7 := S_d.wr W3
  have Zs8 : n0 ≤ h3.size := Nat.le_trans Z0 (Keep.of_wr W3).1
  have N9 := Fr.snoc X3 N2 g_this
  have K10 : Keep h0 h3 [this] := (Keep.refl h0 [this]).wr W3 (Or.inl (List.mem_of_getElem? (i := 0) rfl))
  show own_Go p e below _ (T3.setTop (mkF m 9 #[oR this] []))
  obtain ⟨fs, hr, hrun, hended, hW, hsame⟩ := X3.leave (v := none) (fun _ => rfl)
  refine ⟨_, _, X3.returnOut hx Bd.returns (hb hby d2_9) hr, hrun, hended, _, _, rfl, ?_, ⟨_, rfl⟩, hW, hsame.mono (by decide) (by decide)⟩
  show Q2s Z this wd h0 n0 _ T3.heap _
  rw [e3]
  exact ⟨rfl, N9, K10, F6, S7⟩
theorem d1_0 : decode jdk_38_method_2_code 0 = .ok (.aload_n 0, 1) := by decide +kernel
theorem d1_1 : decode jdk_38_method_2_code 1 = .ok (.invokespecial 1, 3) := by decide +kernel
theorem d1_4 : decode jdk_38_method_2_code 4 = .ok (.aload_n 0, 1) := by decide +kernel
theorem d1_5 : decode jdk_38_method_2_code 5 = .ok (.getstatic 39, 3) := by decide +kernel
theorem d1_8 : decode jdk_38_method_2_code 8 = .ok (.putfield 9, 3) := by decide +kernel
theorem d1_11 : decode jdk_38_method_2_code 11 = .ok (.return_, 1) := by decide +kernel
theorem pn_1 : plainName "java/util/ArrayList" = true := by first | (simp [plainName, overriddenIn]; done) | decide +kernel
theorem pd_1_0 : parseMethodDescriptor "()V" = some ⟨[], none⟩ := by decide +kernel
theorem ef_rm1 (m : MethodId) (q0 : Addr) : entryFrame m #[(.ref q0)] 1 = mkF m 0 #[oR q0] [] := by first | (simp [entryFrame, mkF, argsToLocals, Value.category]; done) | rfl
def Q1 (Z : State) (this : Addr) (wd : Addr) (h0 : Heap) (n0 : Nat) (v : Option Value) (h : Heap) (L : List Loc) : Prop := v = none ∧ Fr n0 L ∧ Keep h0 h [this] ∧ Sta Z h "java/util/ArrayList" "DEFAULTCAPACITY_EMPTY_ELEMENTDATA" "[Ljava/lang/Object;" (.ref wd)
set_option maxRecDepth 65536 in
set_option maxHeartbeats 40000000 in
theorem rm1 (l : Launch) (Z : State) (a0 : Array Value) (hw : ∀ d ∈ tables_1, d.before a0 Z = true) (ws : List Jvm.Cond) (this : Addr) (wd : Addr) (h0 : Heap) (n0 : Nat) (Z0 : n0 ≤ h0.size) (g_this : n0 ≤ this) (E_this : Exa Z h0 this "java/util/ArrayList") (F_modCount : Fld Z h0 this "java/util/AbstractList" "modCount" "I" (.int (0 : Int32))) (F_elementData : Fld Z h0 this "java/util/ArrayList" "elementData" "[Ljava/lang/Object;" .null) (S_d : Sta Z h0 "java/util/ArrayList" "DEFAULTCAPACITY_EMPTY_ELEMENTDATA" "[Ljava/lang/Object;" (.ref wd)) :
    MetFree l (⟨"java/util/ArrayList", "<init>", "()V"⟩ : MethodName) (head1 (Jvm.Cond.code (⟨"java/util/ArrayList", "<init>", "()V"⟩ : MethodName) jdk_38_method_2_code 1 none :: ws) ({ frames := 3, cells := 0, slots := 0, locals := 36 } : Room)) (fun a U => a = #[(.ref this)] ∧ Z.Warmed39 U.vm ∧ U.heap = h0) (fun _ _ _ _ _ => True) (fun _ U o U' => ∃ v L, o = .returned v ∧ Q1 Z this wd h0 n0 v U'.heap L ∧ FrameEnd U o U' L ({ frames := 3, cells := 0, slots := 0, locals := 36 } : Room).cells ({ frames := 3, cells := 0, slots := 0, locals := 36 } : Room).slots) := by
  refine MetFree.of_bodySF (plainFor_of_name pn_1) hisR ?_
  intro p e s m args below meth c s₁ Bd hml0 hP hK
  obtain ⟨rfl, hZ, hh⟩ := hP
  have hx := Bd.exec
  have hby := Bd.bytes
  have hml : c.maxLocals = 1 := hml0
  have hown : s.vm.findClass "java/util/ArrayList" = some m.cls := findClass_of_methodNamed Bd.named
  have hnm := (name_of_methodNamed Bd.named Bd.method).1
  have X0 : Stand p l e ({ frames := 3, cells := 0, slots := 0, locals := 36 } : Room) s m #[(.ref this)] below meth c s₁ [] 0 0 := Stand.of_body Bd
  have e0 : s₁.heap = h0 := by rw [← hh, Bd.state]; rfl
  have N0 := Fr.nil n0
  refine own_start ?_
  refine own_via (fun t k => castTop (ef_rm1 m this) k) ?_
  show own_Go p e below _ (s₁.setTop (mkF m 0 #[oR this] []))
  refine own_via (fun t k => XS.aloadN X0.here hx rfl (hb hby d1_0) rfl rfl k) ?_
  show own_Go p e below _ (s₁.setTop (mkF m 1 #[oR this] [(.ref this)]))
  obtain ⟨_, _, ⟨T1, L1, k1, n1⟩, -, X1, ⟨Lc1, hQ1, l1, y1, z1⟩, st1⟩ := X0.specialBack hx (y := (⟨"java/util/AbstractList", "<init>", "()V"⟩ : MethodName)) rfl hown (mvT hZ (own_w hw 11)) (mvT hZ (own_w hw 12)) (mvT hZ (own_w hw 16)) (by decide) (backOf (W := 0) (rm2s l Z a0 hw [] this wd h0 n0 Z0 g_this E_this F_modCount F_elementData S_d) hZ (own_w hw 16) (own_w hw 15) (by decide) (by decide)) (g := (mkF m 1 #[oR this] [(.ref this)])) rfl (by rw [hml]; rfl) (Steps.refl _) (a := this) (argsL := []) (rest := []) (lenOf pd_1_0 rfl) rfl (by show 2 * 0 + _ ≤ _; exact Nat.le_of_eq rfl) (hb hby d1_1) (fun _ _ => ⟨rfl, e0, (by decide : 0 + 0 ≤ _), (by decide : 0 + 0 ≤ _)⟩)
  dsimp only [Pt.U, Pt.locs, Pt.cells, Pt.slots] at X1 l1 y1 z1 st1 hQ1
  subst l1 y1 z1
  obtain ⟨rfl, Nq1, Kc1, Fc0_1, Sd1⟩ := hQ1
  have N2 := Fr.app N0 Nq1
  refine own_tr st1 ?_
  have E3 := E_this.keep Kc1
  have Zs4 : n0 ≤ T1.heap.size := Nat.le_trans Z0 Kc1.1
  have K5 : Keep h0 T1.heap [this] := (Keep.refl h0 [this]).trans Kc1 (allS (Or.inl (List.mem_of_getElem? (i := 0) rfl)) all0)
  show own_Go p e below _ (T1.setTop (mkF m 4 #[oR this] []))
  refine own_via (fun t k => XS.aloadN X1.here hx rfl (hb hby d1_4) rfl rfl k) ?_
  show own_Go p e below _ (T1.setTop (mkF m 5 #[oR this] [(.ref this)]))
  obtain ⟨T6, X6, e6, st6⟩ := getS2 X1 hx hZ hown (host := "") (Or.inl (own_w hw 28)) Via.refl rfl Sd1 (g := (mkF m 5 #[oR this] [(.ref this)])) rfl (hb hby d1_5)
  refine own_via st6 ?_
  show own_Go p e below _ (T6.setTop (mkF m 8 #[oR this] [(.ref wd), (.ref this)]))
  obtain ⟨T7, h7, X7, e7, W7, st7⟩ := putF X6 hx hZ hown (host := "") (Or.inl (own_w hw 29)) Via.refl e6 Fc0_1 E3 (Or.inl (own_w hw 30)) (own_w hw 6) (ty := (.array (.object "java/lang/Object"))) (by decide) rfl rfl (g := (mkF m 8 #[oR this] [(.ref wd), (.ref this)])) rfl rfl (hb hby d1_8)
  refine own_via st7 ?_
  have E8 := E3.wr W7
  have F9 := Fc0_1.same W7
  have S10 := Sd1.wr W7
  have Zs11 : n0 ≤ h7.size := Nat.le_trans Zs4 (Keep.of_wr W7).1
  have N12 := Fr.snoc X7 N2 g_this
  have K13 : Keep h0 h7 [this] := K5.wr W7 (Or.inl (List.mem_of_getElem? (i := 0) rfl))
  show own_Go p e below _ (T7.setTop (mkF m 11 #[oR this] []))
  obtain ⟨fs, hr, hrun, hended, hW, hsame⟩ := X7.leave (v := none) (fun _ => rfl)
  refine ⟨_, _, X7.returnOut hx Bd.returns (hb hby d1_11) hr, hrun, hended, _, _, rfl, ?_, ⟨_, rfl⟩, hW, hsame.mono (by decide) (by decide)⟩
  show Q1 Z this wd h0 n0 _ T7.heap _
  rw [e7]
  exact ⟨rfl, N12, K13, S10⟩
theorem d5_0 : decode prog_13_method_1_code 0 = .ok (.aload_n 0, 1) := by decide +kernel
theorem d5_1 : decode prog_13_method_1_code 1 = .ok (.invokespecial 1, 3) := by decide +kernel
theorem d5_4 : decode prog_13_method_1_code 4 = .ok (.aload_n 0, 1) := by decide +kernel
theorem d5_5 : decode prog_13_method_1_code 5 = .ok (.iload_n 1, 1) := by decide +kernel
theorem d5_6 : decode prog_13_method_1_code 6 = .ok (.putfield 7, 3) := by decide +kernel
theorem d5_9 : decode prog_13_method_1_code 9 = .ok (.aload_n 0, 1) := by decide +kernel
theorem d5_10 : decode prog_13_method_1_code 10 = .ok (.iload_n 2, 1) := by decide +kernel
theorem d5_11 : decode prog_13_method_1_code 11 = .ok (.putfield 13, 3) := by decide +kernel
theorem d5_14 : decode prog_13_method_1_code 14 = .ok (.aload_n 0, 1) := by decide +kernel
theorem d5_15 : decode prog_13_method_1_code 15 = .ok (.iload_n 3, 1) := by decide +kernel
theorem d5_16 : decode prog_13_method_1_code 16 = .ok (.putfield 16, 3) := by decide +kernel
theorem d5_19 : decode prog_13_method_1_code 19 = .ok (.aload_n 0, 1) := by decide +kernel
theorem d5_20 : decode prog_13_method_1_code 20 = .ok (.iload 4, 2) := by decide +kernel
theorem d5_22 : decode prog_13_method_1_code 22 = .ok (.putfield 19, 3) := by decide +kernel
theorem d5_25 : decode prog_13_method_1_code 25 = .ok (.aload_n 0, 1) := by decide +kernel
theorem d5_26 : decode prog_13_method_1_code 26 = .ok (.aload 5, 2) := by decide +kernel
theorem d5_28 : decode prog_13_method_1_code 28 = .ok (.putfield 22, 3) := by decide +kernel
theorem d5_31 : decode prog_13_method_1_code 31 = .ok (.aload_n 0, 1) := by decide +kernel
theorem d5_32 : decode prog_13_method_1_code 32 = .ok (.aload 6, 2) := by decide +kernel
theorem d5_34 : decode prog_13_method_1_code 34 = .ok (.putfield 26, 3) := by decide +kernel
theorem d5_37 : decode prog_13_method_1_code 37 = .ok (.return_, 1) := by decide +kernel
theorem pn_5 : plainName "com/example/eurycleia/eurycleia/similarity/CopyReport" = true := by first | (simp [plainName, overriddenIn]; done) | decide +kernel
theorem pd_5_0 : parseMethodDescriptor "()V" = some ⟨[], none⟩ := by decide +kernel
theorem ef_rm5 (m : MethodId) (q0 : Addr) (q1 : Int32) (q2 : Int32) (q3 : Int32) (q4 : Int32) (q5 : Addr) (q6 : Addr) : entryFrame m #[(.ref q0), (.int q1), (.int q2), (.int q3), (.int q4), (.ref q5), (.ref q6)] 7 = mkF m 0 #[oR q0, oI q1, oI q2, oI q3, oI q4, oR q5, oR q6] [] := by first | (simp [entryFrame, mkF, argsToLocals, Value.category]; done) | rfl
def Q5 (Z : State) (this : Addr) (p1 : Int32) (p2 : Int32) (p3 : Int32) (p4 : Int32) (p5 : Addr) (p6 : Addr) (h0 : Heap) (n0 : Nat) (v : Option Value) (h : Heap) (L : List Loc) : Prop := v = none ∧ Fr n0 L ∧ Keep h0 h [this] ∧ Fld Z h this "com/example/eurycleia/eurycleia/similarity/CopyReport" "sentencesA" "I" (.int p1) ∧ Fld Z h this "com/example/eurycleia/eurycleia/similarity/CopyReport" "sentencesB" "I" (.int p2) ∧ Fld Z h this "com/example/eurycleia/eurycleia/similarity/CopyReport" "matchedA" "I" (.int p3) ∧ Fld Z h this "com/example/eurycleia/eurycleia/similarity/CopyReport" "matchedB" "I" (.int p4)
set_option maxRecDepth 65536 in
set_option maxHeartbeats 40000000 in
theorem rm5 (l : Launch) (Z : State) (a0 : Array Value) (hw : ∀ d ∈ tables_1, d.before a0 Z = true) (ws : List Jvm.Cond) (this : Addr) (p1 : Int32) (p2 : Int32) (p3 : Int32) (p4 : Int32) (p5 : Addr) (p6 : Addr) (h0 : Heap) (n0 : Nat) (Z0 : n0 ≤ h0.size) (g_this : n0 ≤ this) (E_this : Exa Z h0 this "com/example/eurycleia/eurycleia/similarity/CopyReport") (F_sentencesA : Fld Z h0 this "com/example/eurycleia/eurycleia/similarity/CopyReport" "sentencesA" "I" (.int (0 : Int32))) (F_sentencesB : Fld Z h0 this "com/example/eurycleia/eurycleia/similarity/CopyReport" "sentencesB" "I" (.int (0 : Int32))) (F_matchedA : Fld Z h0 this "com/example/eurycleia/eurycleia/similarity/CopyReport" "matchedA" "I" (.int (0 : Int32))) (F_matchedB : Fld Z h0 this "com/example/eurycleia/eurycleia/similarity/CopyReport" "matchedB" "I" (.int (0 : Int32))) (F_bestMatches : Fld Z h0 this "com/example/eurycleia/eurycleia/similarity/CopyReport" "bestMatches" "Ljava/util/List;" .null) (F_matches : Fld Z h0 this "com/example/eurycleia/eurycleia/similarity/CopyReport" "matches" "Ljava/util/List;" .null) :
    MetFree l (⟨"com/example/eurycleia/eurycleia/similarity/CopyReport", "<init>", "(IIIILjava/util/List;Ljava/util/List;)V"⟩ : MethodName) (head1 (Jvm.Cond.code (⟨"com/example/eurycleia/eurycleia/similarity/CopyReport", "<init>", "(IIIILjava/util/List;Ljava/util/List;)V"⟩ : MethodName) prog_13_method_1_code 7 none :: ws) ({ frames := 2, cells := 0, slots := 0, locals := 24 } : Room)) (fun a U => a = #[(.ref this), (.int p1), (.int p2), (.int p3), (.int p4), (.ref p5), (.ref p6)] ∧ Z.Warmed39 U.vm ∧ U.heap = h0) (fun _ _ _ _ _ => True) (fun _ U o U' => ∃ v L, o = .returned v ∧ Q5 Z this p1 p2 p3 p4 p5 p6 h0 n0 v U'.heap L ∧ FrameEnd U o U' L ({ frames := 2, cells := 0, slots := 0, locals := 24 } : Room).cells ({ frames := 2, cells := 0, slots := 0, locals := 24 } : Room).slots) := by
  refine MetFree.of_bodySF (plainFor_of_name pn_5) hisR ?_
  intro p e s m args below meth c s₁ Bd hml0 hP hK
  obtain ⟨rfl, hZ, hh⟩ := hP
  have hx := Bd.exec
  have hby := Bd.bytes
  have hml : c.maxLocals = 7 := hml0
  have hown : s.vm.findClass "com/example/eurycleia/eurycleia/similarity/CopyReport" = some m.cls := findClass_of_methodNamed Bd.named
  have hnm := (name_of_methodNamed Bd.named Bd.method).1
  have X0 : Stand p l e ({ frames := 2, cells := 0, slots := 0, locals := 24 } : Room) s m #[(.ref this), (.int p1), (.int p2), (.int p3), (.int p4), (.ref p5), (.ref p6)] below meth c s₁ [] 0 0 := Stand.of_body Bd
  have e0 : s₁.heap = h0 := by rw [← hh, Bd.state]; rfl
  have N0 := Fr.nil n0
  refine own_start ?_
  refine own_via (fun t k => castTop (ef_rm5 m this p1 p2 p3 p4 p5 p6) k) ?_
  show own_Go p e below _ (s₁.setTop (mkF m 0 #[oR this, oI p1, oI p2, oI p3, oI p4, oR p5, oR p6] []))
  refine own_via (fun t k => XS.aloadN X0.here hx rfl (hb hby d5_0) rfl rfl k) ?_
  show own_Go p e below _ (s₁.setTop (mkF m 1 #[oR this, oI p1, oI p2, oI p3, oI p4, oR p5, oR p6] [(.ref this)]))
  obtain ⟨_, _, ⟨T1, L1, k1, n1⟩, -, X1, ⟨Lc1, hQ1, l1, y1, z1⟩, st1⟩ := X0.specialBack hx (y := (⟨"java/lang/Record", "<init>", "()V"⟩ : MethodName)) rfl hown (mvT hZ (own_w hw 34)) (mvT hZ (own_w hw 35)) (mvT hZ (own_w hw 38)) (by decide) (backOf (W := 0) (rm6 l Z a0 hw [] this h0 n0 Z0) hZ (own_w hw 38) (own_w hw 37) (by decide) (by decide)) (g := (mkF m 1 #[oR this, oI p1, oI p2, oI p3, oI p4, oR p5, oR p6] [(.ref this)])) rfl (by rw [hml]; rfl) (Steps.refl _) (a := this) (argsL := []) (rest := []) (lenOf pd_5_0 rfl) rfl (by show 2 * 0 + _ ≤ _; exact Nat.le_of_eq rfl) (hb hby d5_1) (fun _ _ => ⟨rfl, e0, (by decide : 0 + 0 ≤ _), (by decide : 0 + 0 ≤ _)⟩)
  dsimp only [Pt.U, Pt.locs, Pt.cells, Pt.slots] at X1 l1 y1 z1 st1 hQ1
  subst l1 y1 z1
  obtain ⟨rfl, Nq1, e1⟩ := hQ1
  have N2 := Fr.app N0 Nq1
  refine own_tr st1 ?_
  show own_Go p e below _ (T1.setTop (mkF m 4 #[oR this, oI p1, oI p2, oI p3, oI p4, oR p5, oR p6] []))
  refine own_via (fun t k => XS.aloadN X1.here hx rfl (hb hby d5_4) rfl rfl k) ?_
  show own_Go p e below _ (T1.setTop (mkF m 5 #[oR this, oI p1, oI p2, oI p3, oI p4, oR p5, oR p6] [(.ref this)]))
  refine own_via (fun t k => XS.iloadN X1.here hx rfl (hb hby d5_5) rfl k) ?_
  show own_Go p e below _ (T1.setTop (mkF m 6 #[oR this, oI p1, oI p2, oI p3, oI p4, oR p5, oR p6] [(.int p1), (.ref this)]))
  obtain ⟨T3, h3, X3, e3, W3, st3⟩ := putF X1 hx hZ hown (host := "") (Or.inl (own_w hw 40)) Via.refl e1 F_sentencesA E_this (Or.inr ⟨(own_w hw 41), rfl, hnm⟩) (own_w hw 3) (ty := .int) (by decide) rfl rfl (g := (mkF m 6 #[oR this, oI p1, oI p2, oI p3, oI p4, oR p5, oR p6] [(.int p1), (.ref this)])) rfl rfl (hb hby d5_6)
  refine own_via st3 ?_
  have E4 := E_this.wr W3
  have F5 := F_sentencesA.same W3
  have F6 := F_sentencesB.other W3 (Or.inr (slot_ne (Or.inr (own_w hw 43)) (Or.inr (own_w hw 41)) (by decide) (t := .int) (t' := .int) (by decide) (by decide)))
  have F7 := F_matchedA.other W3 (Or.inr (slot_ne (Or.inr (own_w hw 45)) (Or.inr (own_w hw 41)) (by decide) (t := .int) (t' := .int) (by decide) (by decide)))
  have F8 := F_matchedB.other W3 (Or.inr (slot_ne (Or.inr (own_w hw 47)) (Or.inr (own_w hw 41)) (by decide) (t := .int) (t' := .int) (by decide) (by decide)))
  have F9 := F_bestMatches.other W3 (Or.inr (slot_ne (Or.inr (own_w hw 49)) (Or.inr (own_w hw 41)) (by decide) (t := (.object "java/util/List")) (t' := .int) (by decide) (by decide)))
  have F10 := F_matches.other W3 (Or.inr (slot_ne (Or.inr (own_w hw 51)) (Or.inr (own_w hw 41)) (by decide) (t := (.object "java/util/List")) (t' := .int) (by decide) (by decide)))
  have Zs11 : n0 ≤ h3.size := Nat.le_trans Z0 (Keep.of_wr W3).1
  have N12 := Fr.snoc X3 N2 g_this
  have K13 : Keep h0 h3 [this] := (Keep.refl h0 [this]).wr W3 (Or.inl (List.mem_of_getElem? (i := 0) rfl))
  show own_Go p e below _ (T3.setTop (mkF m 9 #[oR this, oI p1, oI p2, oI p3, oI p4, oR p5, oR p6] []))
  refine own_via (fun t k => XS.aloadN X3.here hx rfl (hb hby d5_9) rfl rfl k) ?_
  show own_Go p e below _ (T3.setTop (mkF m 10 #[oR this, oI p1, oI p2, oI p3, oI p4, oR p5, oR p6] [(.ref this)]))
  refine own_via (fun t k => XS.iloadN X3.here hx rfl (hb hby d5_10) rfl k) ?_
  show own_Go p e below _ (T3.setTop (mkF m 11 #[oR this, oI p1, oI p2, oI p3, oI p4, oR p5, oR p6] [(.int p2), (.ref this)]))
  obtain ⟨T14, h14, X14, e14, W14, st14⟩ := putF X3 hx hZ hown (host := "") (Or.inl (own_w hw 42)) Via.refl e3 F6 E4 (Or.inr ⟨(own_w hw 43), rfl, hnm⟩) (own_w hw 3) (ty := .int) (by decide) rfl rfl (g := (mkF m 11 #[oR this, oI p1, oI p2, oI p3, oI p4, oR p5, oR p6] [(.int p2), (.ref this)])) rfl rfl (hb hby d5_11)
  refine own_via st14 ?_
  have E15 := E4.wr W14
  have F16 := F5.other W14 (Or.inr (slot_ne (Or.inr (own_w hw 41)) (Or.inr (own_w hw 43)) (by decide) (t := .int) (t' := .int) (by decide) (by decide)))
  have F17 := F6.same W14
  have F18 := F7.other W14 (Or.inr (slot_ne (Or.inr (own_w hw 45)) (Or.inr (own_w hw 43)) (by decide) (t := .int) (t' := .int) (by decide) (by decide)))
  have F19 := F8.other W14 (Or.inr (slot_ne (Or.inr (own_w hw 47)) (Or.inr (own_w hw 43)) (by decide) (t := .int) (t' := .int) (by decide) (by decide)))
  have F20 := F9.other W14 (Or.inr (slot_ne (Or.inr (own_w hw 49)) (Or.inr (own_w hw 43)) (by decide) (t := (.object "java/util/List")) (t' := .int) (by decide) (by decide)))
  have F21 := F10.other W14 (Or.inr (slot_ne (Or.inr (own_w hw 51)) (Or.inr (own_w hw 43)) (by decide) (t := (.object "java/util/List")) (t' := .int) (by decide) (by decide)))
  have Zs22 : n0 ≤ h14.size := Nat.le_trans Zs11 (Keep.of_wr W14).1
  have N23 := Fr.snoc X14 N12 g_this
  have K24 : Keep h0 h14 [this] := K13.wr W14 (Or.inl (List.mem_of_getElem? (i := 0) rfl))
  show own_Go p e below _ (T14.setTop (mkF m 14 #[oR this, oI p1, oI p2, oI p3, oI p4, oR p5, oR p6] []))
  refine own_via (fun t k => XS.aloadN X14.here hx rfl (hb hby d5_14) rfl rfl k) ?_
  show own_Go p e below _ (T14.setTop (mkF m 15 #[oR this, oI p1, oI p2, oI p3, oI p4, oR p5, oR p6] [(.ref this)]))
  refine own_via (fun t k => XS.iloadN X14.here hx rfl (hb hby d5_15) rfl k) ?_
  show own_Go p e below _ (T14.setTop (mkF m 16 #[oR this, oI p1, oI p2, oI p3, oI p4, oR p5, oR p6] [(.int p3), (.ref this)]))
  obtain ⟨T25, h25, X25, e25, W25, st25⟩ := putF X14 hx hZ hown (host := "") (Or.inl (own_w hw 44)) Via.refl e14 F18 E15 (Or.inr ⟨(own_w hw 45), rfl, hnm⟩) (own_w hw 3) (ty := .int) (by decide) rfl rfl (g := (mkF m 16 #[oR this, oI p1, oI p2, oI p3, oI p4, oR p5, oR p6] [(.int p3), (.ref this)])) rfl rfl (hb hby d5_16)
  refine own_via st25 ?_
  have E26 := E15.wr W25
  have F27 := F16.other W25 (Or.inr (slot_ne (Or.inr (own_w hw 41)) (Or.inr (own_w hw 45)) (by decide) (t := .int) (t' := .int) (by decide) (by decide)))
  have F28 := F17.other W25 (Or.inr (slot_ne (Or.inr (own_w hw 43)) (Or.inr (own_w hw 45)) (by decide) (t := .int) (t' := .int) (by decide) (by decide)))
  have F29 := F18.same W25
  have F30 := F19.other W25 (Or.inr (slot_ne (Or.inr (own_w hw 47)) (Or.inr (own_w hw 45)) (by decide) (t := .int) (t' := .int) (by decide) (by decide)))
  have F31 := F20.other W25 (Or.inr (slot_ne (Or.inr (own_w hw 49)) (Or.inr (own_w hw 45)) (by decide) (t := (.object "java/util/List")) (t' := .int) (by decide) (by decide)))
  have F32 := F21.other W25 (Or.inr (slot_ne (Or.inr (own_w hw 51)) (Or.inr (own_w hw 45)) (by decide) (t := (.object "java/util/List")) (t' := .int) (by decide) (by decide)))
  have Zs33 : n0 ≤ h25.size := Nat.le_trans Zs22 (Keep.of_wr W25).1
  have N34 := Fr.snoc X25 N23 g_this
  have K35 : Keep h0 h25 [this] := K24.wr W25 (Or.inl (List.mem_of_getElem? (i := 0) rfl))
  show own_Go p e below _ (T25.setTop (mkF m 19 #[oR this, oI p1, oI p2, oI p3, oI p4, oR p5, oR p6] []))
  refine own_via (fun t k => XS.aloadN X25.here hx rfl (hb hby d5_19) rfl rfl k) ?_
  show own_Go p e below _ (T25.setTop (mkF m 20 #[oR this, oI p1, oI p2, oI p3, oI p4, oR p5, oR p6] [(.ref this)]))
  refine own_via (fun t k => XS.iload X25.here hx rfl (hb hby d5_20) rfl k) ?_
  show own_Go p e below _ (T25.setTop (mkF m 22 #[oR this, oI p1, oI p2, oI p3, oI p4, oR p5, oR p6] [(.int p4), (.ref this)]))
  obtain ⟨T36, h36, X36, e36, W36, st36⟩ := putF X25 hx hZ hown (host := "") (Or.inl (own_w hw 46)) Via.refl e25 F30 E26 (Or.inr ⟨(own_w hw 47), rfl, hnm⟩) (own_w hw 3) (ty := .int) (by decide) rfl rfl (g := (mkF m 22 #[oR this, oI p1, oI p2, oI p3, oI p4, oR p5, oR p6] [(.int p4), (.ref this)])) rfl rfl (hb hby d5_22)
  refine own_via st36 ?_
  have E37 := E26.wr W36
  have F38 := F27.other W36 (Or.inr (slot_ne (Or.inr (own_w hw 41)) (Or.inr (own_w hw 47)) (by decide) (t := .int) (t' := .int) (by decide) (by decide)))
  have F39 := F28.other W36 (Or.inr (slot_ne (Or.inr (own_w hw 43)) (Or.inr (own_w hw 47)) (by decide) (t := .int) (t' := .int) (by decide) (by decide)))
  have F40 := F29.other W36 (Or.inr (slot_ne (Or.inr (own_w hw 45)) (Or.inr (own_w hw 47)) (by decide) (t := .int) (t' := .int) (by decide) (by decide)))
  have F41 := F30.same W36
  have F42 := F31.other W36 (Or.inr (slot_ne (Or.inr (own_w hw 49)) (Or.inr (own_w hw 47)) (by decide) (t := (.object "java/util/List")) (t' := .int) (by decide) (by decide)))
  have F43 := F32.other W36 (Or.inr (slot_ne (Or.inr (own_w hw 51)) (Or.inr (own_w hw 47)) (by decide) (t := (.object "java/util/List")) (t' := .int) (by decide) (by decide)))
  have Zs44 : n0 ≤ h36.size := Nat.le_trans Zs33 (Keep.of_wr W36).1
  have N45 := Fr.snoc X36 N34 g_this
  have K46 : Keep h0 h36 [this] := K35.wr W36 (Or.inl (List.mem_of_getElem? (i := 0) rfl))
  show own_Go p e below _ (T36.setTop (mkF m 25 #[oR this, oI p1, oI p2, oI p3, oI p4, oR p5, oR p6] []))
  refine own_via (fun t k => XS.aloadN X36.here hx rfl (hb hby d5_25) rfl rfl k) ?_
  show own_Go p e below _ (T36.setTop (mkF m 26 #[oR this, oI p1, oI p2, oI p3, oI p4, oR p5, oR p6] [(.ref this)]))
  refine own_via (fun t k => XS.aload X36.here hx rfl (hb hby d5_26) rfl rfl k) ?_
  show own_Go p e below _ (T36.setTop (mkF m 28 #[oR this, oI p1, oI p2, oI p3, oI p4, oR p5, oR p6] [(.ref p5), (.ref this)]))
  obtain ⟨T47, h47, X47, e47, W47, st47⟩ := putF X36 hx hZ hown (host := "") (Or.inl (own_w hw 48)) Via.refl e36 F42 E37 (Or.inr ⟨(own_w hw 49), rfl, hnm⟩) (own_w hw 3) (ty := (.object "java/util/List")) (by decide) rfl rfl (g := (mkF m 28 #[oR this, oI p1, oI p2, oI p3, oI p4, oR p5, oR p6] [(.ref p5), (.ref this)])) rfl rfl (hb hby d5_28)
  refine own_via st47 ?_
  have E48 := E37.wr W47
  have F49 := F38.other W47 (Or.inr (slot_ne (Or.inr (own_w hw 41)) (Or.inr (own_w hw 49)) (by decide) (t := .int) (t' := (.object "java/util/List")) (by decide) (by decide)))
  have F50 := F39.other W47 (Or.inr (slot_ne (Or.inr (own_w hw 43)) (Or.inr (own_w hw 49)) (by decide) (t := .int) (t' := (.object "java/util/List")) (by decide) (by decide)))
  have F51 := F40.other W47 (Or.inr (slot_ne (Or.inr (own_w hw 45)) (Or.inr (own_w hw 49)) (by decide) (t := .int) (t' := (.object "java/util/List")) (by decide) (by decide)))
  have F52 := F41.other W47 (Or.inr (slot_ne (Or.inr (own_w hw 47)) (Or.inr (own_w hw 49)) (by decide) (t := .int) (t' := (.object "java/util/List")) (by decide) (by decide)))
  have F53 := F42.same W47
  have F54 := F43.other W47 (Or.inr (slot_ne (Or.inr (own_w hw 51)) (Or.inr (own_w hw 49)) (by decide) (t := (.object "java/util/List")) (t' := (.object "java/util/List")) (by decide) (by decide)))
  have Zs55 : n0 ≤ h47.size := Nat.le_trans Zs44 (Keep.of_wr W47).1
  have N56 := Fr.snoc X47 N45 g_this
  have K57 : Keep h0 h47 [this] := K46.wr W47 (Or.inl (List.mem_of_getElem? (i := 0) rfl))
  show own_Go p e below _ (T47.setTop (mkF m 31 #[oR this, oI p1, oI p2, oI p3, oI p4, oR p5, oR p6] []))
  refine own_via (fun t k => XS.aloadN X47.here hx rfl (hb hby d5_31) rfl rfl k) ?_
  show own_Go p e below _ (T47.setTop (mkF m 32 #[oR this, oI p1, oI p2, oI p3, oI p4, oR p5, oR p6] [(.ref this)]))
  refine own_via (fun t k => XS.aload X47.here hx rfl (hb hby d5_32) rfl rfl k) ?_
  show own_Go p e below _ (T47.setTop (mkF m 34 #[oR this, oI p1, oI p2, oI p3, oI p4, oR p5, oR p6] [(.ref p6), (.ref this)]))
  obtain ⟨T58, h58, X58, e58, W58, st58⟩ := putF X47 hx hZ hown (host := "") (Or.inl (own_w hw 50)) Via.refl e47 F54 E48 (Or.inr ⟨(own_w hw 51), rfl, hnm⟩) (own_w hw 3) (ty := (.object "java/util/List")) (by decide) rfl rfl (g := (mkF m 34 #[oR this, oI p1, oI p2, oI p3, oI p4, oR p5, oR p6] [(.ref p6), (.ref this)])) rfl rfl (hb hby d5_34)
  refine own_via st58 ?_
  have E59 := E48.wr W58
  have F60 := F49.other W58 (Or.inr (slot_ne (Or.inr (own_w hw 41)) (Or.inr (own_w hw 51)) (by decide) (t := .int) (t' := (.object "java/util/List")) (by decide) (by decide)))
  have F61 := F50.other W58 (Or.inr (slot_ne (Or.inr (own_w hw 43)) (Or.inr (own_w hw 51)) (by decide) (t := .int) (t' := (.object "java/util/List")) (by decide) (by decide)))
  have F62 := F51.other W58 (Or.inr (slot_ne (Or.inr (own_w hw 45)) (Or.inr (own_w hw 51)) (by decide) (t := .int) (t' := (.object "java/util/List")) (by decide) (by decide)))
  have F63 := F52.other W58 (Or.inr (slot_ne (Or.inr (own_w hw 47)) (Or.inr (own_w hw 51)) (by decide) (t := .int) (t' := (.object "java/util/List")) (by decide) (by decide)))
  have F64 := F53.other W58 (Or.inr (slot_ne (Or.inr (own_w hw 49)) (Or.inr (own_w hw 51)) (by decide) (t := (.object "java/util/List")) (t' := (.object "java/util/List")) (by decide) (by decide)))
  have F65 := F54.same W58
  have Zs66 : n0 ≤ h58.size := Nat.le_trans Zs55 (Keep.of_wr W58).1
  have N67 := Fr.snoc X58 N56 g_this
  have K68 : Keep h0 h58 [this] := K57.wr W58 (Or.inl (List.mem_of_getElem? (i := 0) rfl))
  show own_Go p e below _ (T58.setTop (mkF m 37 #[oR this, oI p1, oI p2, oI p3, oI p4, oR p5, oR p6] []))
  obtain ⟨fs, hr, hrun, hended, hW, hsame⟩ := X58.leave (v := none) (fun _ => rfl)
  refine ⟨_, _, X58.returnOut hx Bd.returns (hb hby d5_37) hr, hrun, hended, _, _, rfl, ?_, ⟨_, rfl⟩, hW, hsame.mono (by decide) (by decide)⟩
  show Q5 Z this p1 p2 p3 p4 p5 p6 h0 n0 _ T58.heap _
  rw [e58]
  exact ⟨rfl, N67, K68, F60, F61, F62, F63⟩
theorem own_div {a b : Int64} (h : b ≠ 0) : NoNaN64 (FP.ddiv (FP.l2d a) (FP.l2d b)) := ddiv_out (l2d_fin a).noNaN (l2d_fin b) (l2d_nz h)
theorem own_sub0 {a b : Int64} (h : ¬ (a = b)) : b - a ≠ 0 := fun q => h (by
  have h1 := c_lsub b a
  have h2 := rng64 a
  have h3 := rng64 b
  have h4 := congrArg Int64.toInt q
  simp only [Int64.reduceToInt] at h4
  exact Int64.toInt_inj.mp (by omega))
def f7 (wma : Int32) (wmb : Int32) (wsa : Int32) (wsb : Int32) : UInt64 := (if ((wsa.toInt64) * (wsb.toInt64)) = (0 : Int64) then (FP.l2d (0 : Int64)) else (if ((wma.toInt64) * (wmb.toInt64)) = ((wsa.toInt64) * (wsb.toInt64)) then (4636737291354636288 : UInt64) else (FP.ddiv (FP.l2d ((wma.toInt64) * (wmb.toInt64))) (FP.l2d (((wsa.toInt64) * (wsb.toInt64)) - ((wma.toInt64) * (wmb.toInt64)))))))
theorem d7_0 : decode prog_13_method_5_code 0 = .ok (.aload_n 0, 1) := by decide +kernel
theorem d7_1 : decode prog_13_method_5_code 1 = .ok (.getfield 16, 3) := by decide +kernel
theorem d7_4 : decode prog_13_method_5_code 4 = .ok (.i2l, 1) := by decide +kernel
theorem d7_5 : decode prog_13_method_5_code 5 = .ok (.aload_n 0, 1) := by decide +kernel
theorem d7_6 : decode prog_13_method_5_code 6 = .ok (.getfield 19, 3) := by decide +kernel
theorem d7_9 : decode prog_13_method_5_code 9 = .ok (.i2l, 1) := by decide +kernel
theorem d7_10 : decode prog_13_method_5_code 10 = .ok (.lmul, 1) := by decide +kernel
theorem d7_11 : decode prog_13_method_5_code 11 = .ok (.lstore_n 1, 1) := by decide +kernel
theorem d7_12 : decode prog_13_method_5_code 12 = .ok (.aload_n 0, 1) := by decide +kernel
theorem d7_13 : decode prog_13_method_5_code 13 = .ok (.getfield 7, 3) := by decide +kernel
theorem d7_16 : decode prog_13_method_5_code 16 = .ok (.i2l, 1) := by decide +kernel
theorem d7_17 : decode prog_13_method_5_code 17 = .ok (.aload_n 0, 1) := by decide +kernel
theorem d7_18 : decode prog_13_method_5_code 18 = .ok (.getfield 13, 3) := by decide +kernel
theorem d7_21 : decode prog_13_method_5_code 21 = .ok (.i2l, 1) := by decide +kernel
theorem d7_22 : decode prog_13_method_5_code 22 = .ok (.lmul, 1) := by decide +kernel
theorem d7_23 : decode prog_13_method_5_code 23 = .ok (.lstore_n 3, 1) := by decide +kernel
theorem d7_24 : decode prog_13_method_5_code 24 = .ok (.lload_n 3, 1) := by decide +kernel
theorem d7_25 : decode prog_13_method_5_code 25 = .ok (.lconst 0, 1) := by decide +kernel
theorem d7_26 : decode prog_13_method_5_code 26 = .ok (.lcmp, 1) := by decide +kernel
theorem d7_27 : decode prog_13_method_5_code 27 = .ok (.ifCond .ne 9, 3) := by decide +kernel
theorem d7_30 : decode prog_13_method_5_code 30 = .ok (.dconst 0, 1) := by decide +kernel
theorem d7_31 : decode prog_13_method_5_code 31 = .ok (.dstore 5, 2) := by decide +kernel
theorem d7_33 : decode prog_13_method_5_code 33 = .ok (.goto 26, 3) := by decide +kernel
theorem d7_36 : decode prog_13_method_5_code 36 = .ok (.lload_n 1, 1) := by decide +kernel
theorem d7_37 : decode prog_13_method_5_code 37 = .ok (.lload_n 3, 1) := by decide +kernel
theorem d7_38 : decode prog_13_method_5_code 38 = .ok (.lcmp, 1) := by decide +kernel
theorem d7_39 : decode prog_13_method_5_code 39 = .ok (.ifCond .ne 11, 3) := by decide +kernel
theorem d7_42 : decode prog_13_method_5_code 42 = .ok (.ldc2_w 74, 3) := by decide +kernel
theorem d7_45 : decode prog_13_method_5_code 45 = .ok (.dstore 5, 2) := by decide +kernel
theorem d7_47 : decode prog_13_method_5_code 47 = .ok (.goto 12, 3) := by decide +kernel
theorem d7_50 : decode prog_13_method_5_code 50 = .ok (.lload_n 1, 1) := by decide +kernel
theorem d7_51 : decode prog_13_method_5_code 51 = .ok (.l2d, 1) := by decide +kernel
theorem d7_52 : decode prog_13_method_5_code 52 = .ok (.lload_n 3, 1) := by decide +kernel
theorem d7_53 : decode prog_13_method_5_code 53 = .ok (.lload_n 1, 1) := by decide +kernel
theorem d7_54 : decode prog_13_method_5_code 54 = .ok (.lsub, 1) := by decide +kernel
theorem d7_55 : decode prog_13_method_5_code 55 = .ok (.l2d, 1) := by decide +kernel
theorem d7_56 : decode prog_13_method_5_code 56 = .ok (.ddiv, 1) := by decide +kernel
theorem d7_57 : decode prog_13_method_5_code 57 = .ok (.dstore 5, 2) := by decide +kernel
theorem d7_59 : decode prog_13_method_5_code 59 = .ok (.dload 5, 2) := by decide +kernel
theorem d7_61 : decode prog_13_method_5_code 61 = .ok (.dreturn, 1) := by decide +kernel
theorem ef_rm7 (m : MethodId) (q0 : Addr) : entryFrame m #[(.ref q0)] 7 = mkF m 0 #[oR q0, .unset, .unset, .unset, .unset, .unset, .unset] [] := by first | (simp [entryFrame, mkF, argsToLocals, Value.category]; done) | rfl
def Q7 (Z : State) (this : Addr) (wma : Int32) (wmb : Int32) (wsa : Int32) (wsb : Int32) (r : UInt64) (h0 : Heap) (n0 : Nat) (v : Option Value) (h : Heap) (L : List Loc) : Prop := v = some (.double r) ∧ Fr n0 L ∧ h = h0
set_option maxRecDepth 65536 in
set_option maxHeartbeats 40000000 in
theorem rm7 (l : Launch) (Z : State) (a0 : Array Value) (hw : ∀ d ∈ tables_1, d.before a0 Z = true) (ws : List Jvm.Cond) (this : Addr) (wma : Int32) (wmb : Int32) (wsa : Int32) (wsb : Int32) (r : UInt64) (h0 : Heap) (n0 : Nat) (Z0 : n0 ≤ h0.size) (F_wma : Fld Z h0 this "com/example/eurycleia/eurycleia/similarity/CopyReport" "matchedA" "I" (.int wma)) (F_wmb : Fld Z h0 this "com/example/eurycleia/eurycleia/similarity/CopyReport" "matchedB" "I" (.int wmb)) (F_wsa : Fld Z h0 this "com/example/eurycleia/eurycleia/similarity/CopyReport" "sentencesA" "I" (.int wsa)) (F_wsb : Fld Z h0 this "com/example/eurycleia/eurycleia/similarity/CopyReport" "sentencesB" "I" (.int wsb)) (hr0 : (f7 wma wmb wsa wsb) = r) :
    MetFree l (⟨"com/example/eurycleia/eurycleia/similarity/CopyReport", "oddsRatio", "()D"⟩ : MethodName) (head1 (Jvm.Cond.code (⟨"com/example/eurycleia/eurycleia/similarity/CopyReport", "oddsRatio", "()D"⟩ : MethodName) prog_13_method_5_code 7 (some .double) :: ws) ({ frames := 0, cells := 0, slots := 0, locals := 0 } : Room)) (fun a U => a = #[(.ref this)] ∧ Z.Warmed39 U.vm ∧ U.heap = h0) (fun _ _ _ _ _ => True) (fun _ U o U' => ∃ v L, o = .returned v ∧ Q7 Z this wma wmb wsa wsb r h0 n0 v U'.heap L ∧ FrameEnd U o U' L ({ frames := 0, cells := 0, slots := 0, locals := 0 } : Room).cells ({ frames := 0, cells := 0, slots := 0, locals := 0 } : Room).slots) := by
  refine MetFree.of_bodySF (plainFor_of_name pn_5) hisR ?_
  intro p e s m args below meth c s₁ Bd hml0 hP hK
  obtain ⟨rfl, hZ, hh⟩ := hP
  have hx := Bd.exec
  have hby := Bd.bytes
  have hml : c.maxLocals = 7 := hml0
  have hown : s.vm.findClass "com/example/eurycleia/eurycleia/similarity/CopyReport" = some m.cls := findClass_of_methodNamed Bd.named
  have hnm := (name_of_methodNamed Bd.named Bd.method).1
  have X0 : Stand p l e ({ frames := 0, cells := 0, slots := 0, locals := 0 } : Room) s m #[(.ref this)] below meth c s₁ [] 0 0 := Stand.of_body Bd
  have e0 : s₁.heap = h0 := by rw [← hh, Bd.state]; rfl
  have N0 := Fr.nil n0
  refine own_start ?_
  refine own_via (fun t k => castTop (ef_rm7 m this) k) ?_
  show own_Go p e below _ (s₁.setTop (mkF m 0 #[oR this, .unset, .unset, .unset, .unset, .unset, .unset] []))
  refine own_via (fun t k => XS.aloadN X0.here hx rfl (hb hby d7_0) rfl rfl k) ?_
  show own_Go p e below _ (s₁.setTop (mkF m 1 #[oR this, .unset, .unset, .unset, .unset, .unset, .unset] [(.ref this)]))
  obtain ⟨T1, X1, e1, st1⟩ := getF X0 hx hZ hown (host := "") (Or.inl (own_w hw 44)) Via.refl e0 F_wma (g := (mkF m 1 #[oR this, .unset, .unset, .unset, .unset, .unset, .unset] [(.ref this)])) rfl rfl (hb hby d7_1)
  refine own_via st1 ?_
  show own_Go p e below _ (T1.setTop (mkF m 4 #[oR this, .unset, .unset, .unset, .unset, .unset, .unset] [(.int wma)]))
  refine own_via (fun t k => XS.i2l X1.here hx rfl (hb hby d7_4) rfl k) ?_
  show own_Go p e below _ (T1.setTop (mkF m 5 #[oR this, .unset, .unset, .unset, .unset, .unset, .unset] [(.long (wma.toInt64))]))
  refine own_via (fun t k => XS.aloadN X1.here hx rfl (hb hby d7_5) rfl rfl k) ?_
  show own_Go p e below _ (T1.setTop (mkF m 6 #[oR this, .unset, .unset, .unset, .unset, .unset, .unset] [(.ref this), (.long (wma.toInt64))]))
  obtain ⟨T2, X2, e2, st2⟩ := getF X1 hx hZ hown (host := "") (Or.inl (own_w hw 46)) Via.refl e1 F_wmb (g := (mkF m 6 #[oR this, .unset, .unset, .unset, .unset, .unset, .unset] [(.ref this), (.long (wma.toInt64))])) rfl rfl (hb hby d7_6)
  refine own_via st2 ?_
  show own_Go p e below _ (T2.setTop (mkF m 9 #[oR this, .unset, .unset, .unset, .unset, .unset, .unset] [(.int wmb), (.long (wma.toInt64))]))
  refine own_via (fun t k => XS.i2l X2.here hx rfl (hb hby d7_9) rfl k) ?_
  show own_Go p e below _ (T2.setTop (mkF m 10 #[oR this, .unset, .unset, .unset, .unset, .unset, .unset] [(.long (wmb.toInt64)), (.long (wma.toInt64))]))
  refine own_via (fun t k => XS.lmul X2.here hx rfl (hb hby d7_10) rfl k) ?_
  show own_Go p e below _ (T2.setTop (mkF m 11 #[oR this, .unset, .unset, .unset, .unset, .unset, .unset] [(.long ((wma.toInt64) * (wmb.toInt64)))]))
  refine own_via (fun t k => XS.lstoreN X2.here hx rfl (hb hby d7_11) rfl (l' := #[oR this, oJ ((wma.toInt64) * (wmb.toInt64)), .second, .unset, .unset, .unset, .unset]) rfl k) ?_
  show own_Go p e below _ (T2.setTop (mkF m 12 #[oR this, oJ ((wma.toInt64) * (wmb.toInt64)), .second, .unset, .unset, .unset, .unset] []))
  refine own_via (fun t k => XS.aloadN X2.here hx rfl (hb hby d7_12) rfl rfl k) ?_
  show own_Go p e below _ (T2.setTop (mkF m 13 #[oR this, oJ ((wma.toInt64) * (wmb.toInt64)), .second, .unset, .unset, .unset, .unset] [(.ref this)]))
  obtain ⟨T3, X3, e3, st3⟩ := getF X2 hx hZ hown (host := "") (Or.inl (own_w hw 40)) Via.refl e2 F_wsa (g := (mkF m 13 #[oR this, oJ ((wma.toInt64) * (wmb.toInt64)), .second, .unset, .unset, .unset, .unset] [(.ref this)])) rfl rfl (hb hby d7_13)
  refine own_via st3 ?_
  show own_Go p e below _ (T3.setTop (mkF m 16 #[oR this, oJ ((wma.toInt64) * (wmb.toInt64)), .second, .unset, .unset, .unset, .unset] [(.int wsa)]))
  refine own_via (fun t k => XS.i2l X3.here hx rfl (hb hby d7_16) rfl k) ?_
  show own_Go p e below _ (T3.setTop (mkF m 17 #[oR this, oJ ((wma.toInt64) * (wmb.toInt64)), .second, .unset, .unset, .unset, .unset] [(.long (wsa.toInt64))]))
  refine own_via (fun t k => XS.aloadN X3.here hx rfl (hb hby d7_17) rfl rfl k) ?_
  show own_Go p e below _ (T3.setTop (mkF m 18 #[oR this, oJ ((wma.toInt64) * (wmb.toInt64)), .second, .unset, .unset, .unset, .unset] [(.ref this), (.long (wsa.toInt64))]))
  obtain ⟨T4, X4, e4, st4⟩ := getF X3 hx hZ hown (host := "") (Or.inl (own_w hw 42)) Via.refl e3 F_wsb (g := (mkF m 18 #[oR this, oJ ((wma.toInt64) * (wmb.toInt64)), .second, .unset, .unset, .unset, .unset] [(.ref this), (.long (wsa.toInt64))])) rfl rfl (hb hby d7_18)
  refine own_via st4 ?_
  show own_Go p e below _ (T4.setTop (mkF m 21 #[oR this, oJ ((wma.toInt64) * (wmb.toInt64)), .second, .unset, .unset, .unset, .unset] [(.int wsb), (.long (wsa.toInt64))]))
  refine own_via (fun t k => XS.i2l X4.here hx rfl (hb hby d7_21) rfl k) ?_
  show own_Go p e below _ (T4.setTop (mkF m 22 #[oR this, oJ ((wma.toInt64) * (wmb.toInt64)), .second, .unset, .unset, .unset, .unset] [(.long (wsb.toInt64)), (.long (wsa.toInt64))]))
  refine own_via (fun t k => XS.lmul X4.here hx rfl (hb hby d7_22) rfl k) ?_
  show own_Go p e below _ (T4.setTop (mkF m 23 #[oR this, oJ ((wma.toInt64) * (wmb.toInt64)), .second, .unset, .unset, .unset, .unset] [(.long ((wsa.toInt64) * (wsb.toInt64)))]))
  refine own_via (fun t k => XS.lstoreN X4.here hx rfl (hb hby d7_23) rfl (l' := #[oR this, oJ ((wma.toInt64) * (wmb.toInt64)), .second, oJ ((wsa.toInt64) * (wsb.toInt64)), .second, .unset, .unset]) rfl k) ?_
  show own_Go p e below _ (T4.setTop (mkF m 24 #[oR this, oJ ((wma.toInt64) * (wmb.toInt64)), .second, oJ ((wsa.toInt64) * (wsb.toInt64)), .second, .unset, .unset] []))
  refine own_via (fun t k => XS.lloadN X4.here hx rfl (hb hby d7_24) rfl k) ?_
  show own_Go p e below _ (T4.setTop (mkF m 25 #[oR this, oJ ((wma.toInt64) * (wmb.toInt64)), .second, oJ ((wsa.toInt64) * (wsb.toInt64)), .second, .unset, .unset] [(.long ((wsa.toInt64) * (wsb.toInt64)))]))
  refine own_via (fun t k => XS.lconst X4.here hx rfl (hb hby d7_25) k) ?_
  show own_Go p e below _ (T4.setTop (mkF m 26 #[oR this, oJ ((wma.toInt64) * (wmb.toInt64)), .second, oJ ((wsa.toInt64) * (wsb.toInt64)), .second, .unset, .unset] [(.long (0 : Int64)), (.long ((wsa.toInt64) * (wsb.toInt64)))]))
  refine own_via (fun t k => XS.lcmp X4.here hx rfl (hb hby d7_26) rfl k) ?_
  show own_Go p e below _ (T4.setTop (mkF m 27 #[oR this, oJ ((wma.toInt64) * (wmb.toInt64)), .second, oJ ((wsa.toInt64) * (wsb.toInt64)), .second, .unset, .unset] [(.int (lcmpW ((wsa.toInt64) * (wsb.toInt64)) (0 : Int64)))]))
  by_cases hc27_5 : ((wsa.toInt64) * (wsb.toInt64)) = (0 : Int64)
  · refine own_via (fun t k => XS.ifNo X4.here hx rfl (hb hby d7_27) rfl ((if0 _ _).trans (teq ((lw_eq _ _).mpr hc27_5)).2) k) ?_
    show own_Go p e below _ (T4.setTop (mkF m 30 #[oR this, oJ ((wma.toInt64) * (wmb.toInt64)), .second, oJ ((wsa.toInt64) * (wsb.toInt64)), .second, .unset, .unset] []))
    refine own_via (fun t k => XS.dconst0 X4.here hx rfl (hb hby d7_30) (v := (FP.l2d (0 : Int64))) own_dconst0 k) ?_
    show own_Go p e below _ (T4.setTop (mkF m 31 #[oR this, oJ ((wma.toInt64) * (wmb.toInt64)), .second, oJ ((wsa.toInt64) * (wsb.toInt64)), .second, .unset, .unset] [(.double (FP.l2d (0 : Int64)))]))
    refine own_via (fun t k => XS.dstore X4.here hx rfl (hb hby d7_31) rfl (l' := #[oR this, oJ ((wma.toInt64) * (wmb.toInt64)), .second, oJ ((wsa.toInt64) * (wsb.toInt64)), .second, oD (FP.l2d (0 : Int64)), .second]) rfl k) ?_
    show own_Go p e below _ (T4.setTop (mkF m 33 #[oR this, oJ ((wma.toInt64) * (wmb.toInt64)), .second, oJ ((wsa.toInt64) * (wsb.toInt64)), .second, oD (FP.l2d (0 : Int64)), .second] []))
    refine own_via (fun t k => XS.goto X4.here hx rfl (pc0 := 33) (pc' := 59) rfl (hb hby d7_33) (by decide) (by decide) k) ?_
    show own_Go p e below _ (T4.setTop (mkF m 59 #[oR this, oJ ((wma.toInt64) * (wmb.toInt64)), .second, oJ ((wsa.toInt64) * (wsb.toInt64)), .second, oD (FP.l2d (0 : Int64)), .second] []))
    refine own_via (fun t k => XS.dload X4.here hx rfl (hb hby d7_59) rfl k) ?_
    show own_Go p e below _ (T4.setTop (mkF m 61 #[oR this, oJ ((wma.toInt64) * (wmb.toInt64)), .second, oJ ((wsa.toInt64) * (wsb.toInt64)), .second, oD (FP.l2d (0 : Int64)), .second] [(.double (FP.l2d (0 : Int64)))]))
    have hv : (f7 wma wmb wsa wsb) = (FP.l2d (0 : Int64)) := by unfold f7; rw [if_pos hc27_5]
    obtain ⟨fs, hr, hrun, hended, hW, hsame⟩ := X4.leave (v := some (.double (FP.l2d (0 : Int64)))) (fun h => by rw [Bd.returns] at h; cases h)
    refine ⟨_, _, retOut X4 hx (i := .dreturn) Bd.returns rfl (Or.inr (Or.inr (Or.inl ⟨rfl, rfl, _, rfl⟩))) (hb hby d7_61) hr, hrun, hended, _, _, rfl, ?_, ⟨_, rfl⟩, hW, hsame.mono (by decide) (by decide)⟩
    show Q7 Z this wma wmb wsa wsb r h0 n0 _ T4.heap _
    rw [e4]
    exact ⟨by rw [← hr0, hv], N0, rfl⟩
  · refine own_via (fun t k => XS.ifYes X4.here hx rfl (pc0 := 27) (pc' := 36) rfl (hb hby d7_27) rfl ((if0 _ _).trans (feq (fun q => hc27_5 ((lw_eq _ _).mp q))).2) (by decide) (by decide) k) ?_
    show own_Go p e below _ (T4.setTop (mkF m 36 #[oR this, oJ ((wma.toInt64) * (wmb.toInt64)), .second, oJ ((wsa.toInt64) * (wsb.toInt64)), .second, .unset, .unset] []))
    refine own_via (fun t k => XS.lloadN X4.here hx rfl (hb hby d7_36) rfl k) ?_
    show own_Go p e below _ (T4.setTop (mkF m 37 #[oR this, oJ ((wma.toInt64) * (wmb.toInt64)), .second, oJ ((wsa.toInt64) * (wsb.toInt64)), .second, .unset, .unset] [(.long ((wma.toInt64) * (wmb.toInt64)))]))
    refine own_via (fun t k => XS.lloadN X4.here hx rfl (hb hby d7_37) rfl k) ?_
    show own_Go p e below _ (T4.setTop (mkF m 38 #[oR this, oJ ((wma.toInt64) * (wmb.toInt64)), .second, oJ ((wsa.toInt64) * (wsb.toInt64)), .second, .unset, .unset] [(.long ((wsa.toInt64) * (wsb.toInt64))), (.long ((wma.toInt64) * (wmb.toInt64)))]))
    refine own_via (fun t k => XS.lcmp X4.here hx rfl (hb hby d7_38) rfl k) ?_
    show own_Go p e below _ (T4.setTop (mkF m 39 #[oR this, oJ ((wma.toInt64) * (wmb.toInt64)), .second, oJ ((wsa.toInt64) * (wsb.toInt64)), .second, .unset, .unset] [(.int (lcmpW ((wma.toInt64) * (wmb.toInt64)) ((wsa.toInt64) * (wsb.toInt64))))]))
    by_cases hc39_7 : ((wma.toInt64) * (wmb.toInt64)) = ((wsa.toInt64) * (wsb.toInt64))
    · refine own_via (fun t k => XS.ifNo X4.here hx rfl (hb hby d7_39) rfl ((if0 _ _).trans (teq ((lw_eq _ _).mpr hc39_7)).2) k) ?_
      show own_Go p e below _ (T4.setTop (mkF m 42 #[oR this, oJ ((wma.toInt64) * (wmb.toInt64)), .second, oJ ((wsa.toInt64) * (wsb.toInt64)), .second, .unset, .unset] []))
      refine own_via (fun t k => X4.ldc2DoubleC hx hown (mvT hZ (own_w hw 57)) (g := (mkF m 42 #[oR this, oJ ((wma.toInt64) * (wmb.toInt64)), .second, oJ ((wsa.toInt64) * (wsb.toInt64)), .second, .unset, .unset] [])) rfl (hb hby d7_42) t k) ?_
      show own_Go p e below _ (T4.setTop (mkF m 45 #[oR this, oJ ((wma.toInt64) * (wmb.toInt64)), .second, oJ ((wsa.toInt64) * (wsb.toInt64)), .second, .unset, .unset] [(.double (4636737291354636288 : UInt64))]))
      refine own_via (fun t k => XS.dstore X4.here hx rfl (hb hby d7_45) rfl (l' := #[oR this, oJ ((wma.toInt64) * (wmb.toInt64)), .second, oJ ((wsa.toInt64) * (wsb.toInt64)), .second, oD (4636737291354636288 : UInt64), .second]) rfl k) ?_
      show own_Go p e below _ (T4.setTop (mkF m 47 #[oR this, oJ ((wma.toInt64) * (wmb.toInt64)), .second, oJ ((wsa.toInt64) * (wsb.toInt64)), .second, oD (4636737291354636288 : UInt64), .second] []))
      refine own_via (fun t k => XS.goto X4.here hx rfl (pc0 := 47) (pc' := 59) rfl (hb hby d7_47) (by decide) (by decide) k) ?_
      show own_Go p e below _ (T4.setTop (mkF m 59 #[oR this, oJ ((wma.toInt64) * (wmb.toInt64)), .second, oJ ((wsa.toInt64) * (wsb.toInt64)), .second, oD (4636737291354636288 : UInt64), .second] []))
      refine own_via (fun t k => XS.dload X4.here hx rfl (hb hby d7_59) rfl k) ?_
      show own_Go p e below _ (T4.setTop (mkF m 61 #[oR this, oJ ((wma.toInt64) * (wmb.toInt64)), .second, oJ ((wsa.toInt64) * (wsb.toInt64)), .second, oD (4636737291354636288 : UInt64), .second] [(.double (4636737291354636288 : UInt64))]))
      have hv : (f7 wma wmb wsa wsb) = (4636737291354636288 : UInt64) := by unfold f7; rw [if_neg hc27_5, if_pos hc39_7]
      obtain ⟨fs, hr, hrun, hended, hW, hsame⟩ := X4.leave (v := some (.double (4636737291354636288 : UInt64))) (fun h => by rw [Bd.returns] at h; cases h)
      refine ⟨_, _, retOut X4 hx (i := .dreturn) Bd.returns rfl (Or.inr (Or.inr (Or.inl ⟨rfl, rfl, _, rfl⟩))) (hb hby d7_61) hr, hrun, hended, _, _, rfl, ?_, ⟨_, rfl⟩, hW, hsame.mono (by decide) (by decide)⟩
      show Q7 Z this wma wmb wsa wsb r h0 n0 _ T4.heap _
      rw [e4]
      exact ⟨by rw [← hr0, hv], N0, rfl⟩
    · refine own_via (fun t k => XS.ifYes X4.here hx rfl (pc0 := 39) (pc' := 50) rfl (hb hby d7_39) rfl ((if0 _ _).trans (feq (fun q => hc39_7 ((lw_eq _ _).mp q))).2) (by decide) (by decide) k) ?_
      show own_Go p e below _ (T4.setTop (mkF m 50 #[oR this, oJ ((wma.toInt64) * (wmb.toInt64)), .second, oJ ((wsa.toInt64) * (wsb.toInt64)), .second, .unset, .unset] []))
      refine own_via (fun t k => XS.lloadN X4.here hx rfl (hb hby d7_50) rfl k) ?_
      show own_Go p e below _ (T4.setTop (mkF m 51 #[oR this, oJ ((wma.toInt64) * (wmb.toInt64)), .second, oJ ((wsa.toInt64) * (wsb.toInt64)), .second, .unset, .unset] [(.long ((wma.toInt64) * (wmb.toInt64)))]))
      refine own_via (fun t k => XS.l2dS X4.here hx rfl (hb hby d7_51) rfl rfl k) ?_
      show own_Go p e below _ (T4.setTop (mkF m 52 #[oR this, oJ ((wma.toInt64) * (wmb.toInt64)), .second, oJ ((wsa.toInt64) * (wsb.toInt64)), .second, .unset, .unset] [(.double (FP.l2d ((wma.toInt64) * (wmb.toInt64))))]))
      refine own_via (fun t k => XS.lloadN X4.here hx rfl (hb hby d7_52) rfl k) ?_
      show own_Go p e below _ (T4.setTop (mkF m 53 #[oR this, oJ ((wma.toInt64) * (wmb.toInt64)), .second, oJ ((wsa.toInt64) * (wsb.toInt64)), .second, .unset, .unset] [(.long ((wsa.toInt64) * (wsb.toInt64))), (.double (FP.l2d ((wma.toInt64) * (wmb.toInt64))))]))
      refine own_via (fun t k => XS.lloadN X4.here hx rfl (hb hby d7_53) rfl k) ?_
      show own_Go p e below _ (T4.setTop (mkF m 54 #[oR this, oJ ((wma.toInt64) * (wmb.toInt64)), .second, oJ ((wsa.toInt64) * (wsb.toInt64)), .second, .unset, .unset] [(.long ((wma.toInt64) * (wmb.toInt64))), (.long ((wsa.toInt64) * (wsb.toInt64))), (.double (FP.l2d ((wma.toInt64) * (wmb.toInt64))))]))
      refine own_via (fun t k => XS.lsub X4.here hx rfl (hb hby d7_54) rfl k) ?_
      show own_Go p e below _ (T4.setTop (mkF m 55 #[oR this, oJ ((wma.toInt64) * (wmb.toInt64)), .second, oJ ((wsa.toInt64) * (wsb.toInt64)), .second, .unset, .unset] [(.long (((wsa.toInt64) * (wsb.toInt64)) - ((wma.toInt64) * (wmb.toInt64)))), (.double (FP.l2d ((wma.toInt64) * (wmb.toInt64))))]))
      refine own_via (fun t k => XS.l2dS X4.here hx rfl (hb hby d7_55) rfl rfl k) ?_
      show own_Go p e below _ (T4.setTop (mkF m 56 #[oR this, oJ ((wma.toInt64) * (wmb.toInt64)), .second, oJ ((wsa.toInt64) * (wsb.toInt64)), .second, .unset, .unset] [(.double (FP.l2d (((wsa.toInt64) * (wsb.toInt64)) - ((wma.toInt64) * (wmb.toInt64))))), (.double (FP.l2d ((wma.toInt64) * (wmb.toInt64))))]))
      refine own_via (fun t k => XS.ddivS X4.here hx rfl (hb hby d7_56) rfl (own_div (own_sub0 hc39_7)) rfl k) ?_
      show own_Go p e below _ (T4.setTop (mkF m 57 #[oR this, oJ ((wma.toInt64) * (wmb.toInt64)), .second, oJ ((wsa.toInt64) * (wsb.toInt64)), .second, .unset, .unset] [(.double (FP.ddiv (FP.l2d ((wma.toInt64) * (wmb.toInt64))) (FP.l2d (((wsa.toInt64) * (wsb.toInt64)) - ((wma.toInt64) * (wmb.toInt64))))))]))
      refine own_via (fun t k => XS.dstore X4.here hx rfl (hb hby d7_57) rfl (l' := #[oR this, oJ ((wma.toInt64) * (wmb.toInt64)), .second, oJ ((wsa.toInt64) * (wsb.toInt64)), .second, oD (FP.ddiv (FP.l2d ((wma.toInt64) * (wmb.toInt64))) (FP.l2d (((wsa.toInt64) * (wsb.toInt64)) - ((wma.toInt64) * (wmb.toInt64))))), .second]) rfl k) ?_
      show own_Go p e below _ (T4.setTop (mkF m 59 #[oR this, oJ ((wma.toInt64) * (wmb.toInt64)), .second, oJ ((wsa.toInt64) * (wsb.toInt64)), .second, oD (FP.ddiv (FP.l2d ((wma.toInt64) * (wmb.toInt64))) (FP.l2d (((wsa.toInt64) * (wsb.toInt64)) - ((wma.toInt64) * (wmb.toInt64))))), .second] []))
      refine own_via (fun t k => XS.dload X4.here hx rfl (hb hby d7_59) rfl k) ?_
      show own_Go p e below _ (T4.setTop (mkF m 61 #[oR this, oJ ((wma.toInt64) * (wmb.toInt64)), .second, oJ ((wsa.toInt64) * (wsb.toInt64)), .second, oD (FP.ddiv (FP.l2d ((wma.toInt64) * (wmb.toInt64))) (FP.l2d (((wsa.toInt64) * (wsb.toInt64)) - ((wma.toInt64) * (wmb.toInt64))))), .second] [(.double (FP.ddiv (FP.l2d ((wma.toInt64) * (wmb.toInt64))) (FP.l2d (((wsa.toInt64) * (wsb.toInt64)) - ((wma.toInt64) * (wmb.toInt64))))))]))
      have hv : (f7 wma wmb wsa wsb) = (FP.ddiv (FP.l2d ((wma.toInt64) * (wmb.toInt64))) (FP.l2d (((wsa.toInt64) * (wsb.toInt64)) - ((wma.toInt64) * (wmb.toInt64))))) := by unfold f7; rw [if_neg hc27_5, if_neg hc39_7]
      obtain ⟨fs, hr, hrun, hended, hW, hsame⟩ := X4.leave (v := some (.double (FP.ddiv (FP.l2d ((wma.toInt64) * (wmb.toInt64))) (FP.l2d (((wsa.toInt64) * (wsb.toInt64)) - ((wma.toInt64) * (wmb.toInt64))))))) (fun h => by rw [Bd.returns] at h; cases h)
      refine ⟨_, _, retOut X4 hx (i := .dreturn) Bd.returns rfl (Or.inr (Or.inr (Or.inl ⟨rfl, rfl, _, rfl⟩))) (hb hby d7_61) hr, hrun, hended, _, _, rfl, ?_, ⟨_, rfl⟩, hW, hsame.mono (by decide) (by decide)⟩
      show Q7 Z this wma wmb wsa wsb r h0 n0 _ T4.heap _
      rw [e4]
      exact ⟨by rw [← hr0, hv], N0, rfl⟩
theorem own_mask (x : Int32) : 0 ≤ (x &&& 2147483647).toInt := (c_and x 2147483647 (by decide)).1
theorem own_nn (x f k : Int32) : 0 ≤ (if (f &&& k) = (0 : Int32) then (x &&& (2147483647 : Int32)) else (0 : Int32)).toInt := by
  split
  · exact own_mask x
  · decide
theorem own_nz (c : Int32) (a : 0 ≤ c.toInt) : ((c.toInt64) + (1 : Int64)) ≠ 0 := fun h => by
  have b := rng32 c
  have e := c_i2l c
  have q := c_ladd c.toInt64 1
  have h' := congrArg Int64.toInt h
  simp only [Int64.reduceToInt] at q h'
  omega
theorem own_lk (c : Int32) (hc : 0 ≤ c.toInt) (x : Int32) : 0 ≤ ((((x.toInt64) &&& (2147483647 : Int64)) - ((x.toInt64) &&& (2147483647 : Int64)) / ((c.toInt64) + (1 : Int64)) * ((c.toInt64) + (1 : Int64))).toInt32).toInt ∧ ((((x.toInt64) &&& (2147483647 : Int64)) - ((x.toInt64) &&& (2147483647 : Int64)) / ((c.toInt64) + (1 : Int64)) * ((c.toInt64) + (1 : Int64))).toInt32).toInt ≤ c.toInt := by
  have b := rng32 c
  have e := c_i2l c
  have q := c_ladd c.toInt64 1
  have r := rng64 (c.toInt64 + 1)
  have y := c_maskL x.toInt64 2147483647 31 (by decide) (by decide)
  generalize x.toInt64 &&& 2147483647 = w at *
  have d : (c.toInt64 + 1).toInt = c.toInt + 1 := by simp only [Int64.reduceToInt] at q; omega
  have z := (c_lrem w (c.toInt64 + 1) _ d).1 (by omega)
  have g := c_l2i (w - w / (c.toInt64 + 1) * (c.toInt64 + 1))
  have k := rng32 (w - w / (c.toInt64 + 1) * (c.toInt64 + 1)).toInt32
  rw [z] at g
  have m1 := Int.emod_nonneg w.toInt (show c.toInt + 1 ≠ 0 by omega)
  have m2 := Int.emod_lt_of_pos w.toInt (show 0 < c.toInt + 1 by omega)
  constructor <;> omega
theorem own_m (x y f k j : Int32) : 0 ≤ (if (f &&& j) = (0 : Int32) then ((((y.toInt64) &&& (2147483647 : Int64)) - ((y.toInt64) &&& (2147483647 : Int64)) / (((if (f &&& k) = (0 : Int32) then (x &&& (2147483647 : Int32)) else (0 : Int32)).toInt64) + (1 : Int64)) * (((if (f &&& k) = (0 : Int32) then (x &&& (2147483647 : Int32)) else (0 : Int32)).toInt64) + (1 : Int64))).toInt32) else (if (f &&& k) = (0 : Int32) then (x &&& (2147483647 : Int32)) else (0 : Int32))).toInt ∧ (if (f &&& j) = (0 : Int32) then ((((y.toInt64) &&& (2147483647 : Int64)) - ((y.toInt64) &&& (2147483647 : Int64)) / (((if (f &&& k) = (0 : Int32) then (x &&& (2147483647 : Int32)) else (0 : Int32)).toInt64) + (1 : Int64)) * (((if (f &&& k) = (0 : Int32) then (x &&& (2147483647 : Int32)) else (0 : Int32)).toInt64) + (1 : Int64))).toInt32) else (if (f &&& k) = (0 : Int32) then (x &&& (2147483647 : Int32)) else (0 : Int32))).toInt ≤ (if (f &&& k) = (0 : Int32) then (x &&& (2147483647 : Int32)) else (0 : Int32)).toInt := by
  have hc := own_nn x f k
  generalize (if (f &&& k) = (0 : Int32) then (x &&& (2147483647 : Int32)) else (0 : Int32)) = c at *
  split
  · exact own_lk c hc y
  · exact ⟨hc, Int.le_refl _⟩
theorem own_rng (p0 p1 p2 p3 p4 : Int32) : 0 ≤ ((if (p4 &&& (2 : Int32)) = (0 : Int32) then ((((p1.toInt64) &&& (2147483647 : Int64)) - ((p1.toInt64) &&& (2147483647 : Int64)) / (((if (p4 &&& (1 : Int32)) = (0 : Int32) then (p0 &&& (2147483647 : Int32)) else (0 : Int32)).toInt64) + (1 : Int64)) * (((if (p4 &&& (1 : Int32)) = (0 : Int32) then (p0 &&& (2147483647 : Int32)) else (0 : Int32)).toInt64) + (1 : Int64))).toInt32) else (if (p4 &&& (1 : Int32)) = (0 : Int32) then (p0 &&& (2147483647 : Int32)) else (0 : Int32)))).toInt ∧ ((if (p4 &&& (2 : Int32)) = (0 : Int32) then ((((p1.toInt64) &&& (2147483647 : Int64)) - ((p1.toInt64) &&& (2147483647 : Int64)) / (((if (p4 &&& (1 : Int32)) = (0 : Int32) then (p0 &&& (2147483647 : Int32)) else (0 : Int32)).toInt64) + (1 : Int64)) * (((if (p4 &&& (1 : Int32)) = (0 : Int32) then (p0 &&& (2147483647 : Int32)) else (0 : Int32)).toInt64) + (1 : Int64))).toInt32) else (if (p4 &&& (1 : Int32)) = (0 : Int32) then (p0 &&& (2147483647 : Int32)) else (0 : Int32)))).toInt ≤ ((if (p4 &&& (1 : Int32)) = (0 : Int32) then (p0 &&& (2147483647 : Int32)) else (0 : Int32))).toInt ∧ 0 ≤ ((if (p4 &&& (8 : Int32)) = (0 : Int32) then ((((p3.toInt64) &&& (2147483647 : Int64)) - ((p3.toInt64) &&& (2147483647 : Int64)) / (((if (p4 &&& (4 : Int32)) = (0 : Int32) then (p2 &&& (2147483647 : Int32)) else (0 : Int32)).toInt64) + (1 : Int64)) * (((if (p4 &&& (4 : Int32)) = (0 : Int32) then (p2 &&& (2147483647 : Int32)) else (0 : Int32)).toInt64) + (1 : Int64))).toInt32) else (if (p4 &&& (4 : Int32)) = (0 : Int32) then (p2 &&& (2147483647 : Int32)) else (0 : Int32)))).toInt ∧ ((if (p4 &&& (8 : Int32)) = (0 : Int32) then ((((p3.toInt64) &&& (2147483647 : Int64)) - ((p3.toInt64) &&& (2147483647 : Int64)) / (((if (p4 &&& (4 : Int32)) = (0 : Int32) then (p2 &&& (2147483647 : Int32)) else (0 : Int32)).toInt64) + (1 : Int64)) * (((if (p4 &&& (4 : Int32)) = (0 : Int32) then (p2 &&& (2147483647 : Int32)) else (0 : Int32)).toInt64) + (1 : Int64))).toInt32) else (if (p4 &&& (4 : Int32)) = (0 : Int32) then (p2 &&& (2147483647 : Int32)) else (0 : Int32)))).toInt ≤ ((if (p4 &&& (4 : Int32)) = (0 : Int32) then (p2 &&& (2147483647 : Int32)) else (0 : Int32))).toInt := by
  obtain ⟨a1, a2⟩ := own_m p0 p1 p4 1 2
  obtain ⟨b1, b2⟩ := own_m p2 p3 p4 4 8
  exact ⟨a1, a2, b1, b2⟩
theorem own_prod (x y : Int32) (hx : 0 ≤ x.toInt) (hy : 0 ≤ y.toInt) : (x.toInt64 * y.toInt64).toInt = x.toInt * y.toInt := by
  have h1 := rng32 x
  have h2 := rng32 y
  rw [Int64.toInt_mul, c_i2l, c_i2l]
  have p := Int.mul_nonneg hx hy
  have q : x.toInt * y.toInt ≤ 2147483648 * 2147483648 := Int.le_trans (Int.mul_le_mul_of_nonneg_left (c := x.toInt) (show y.toInt ≤ 2147483648 by omega) hx) (Int.mul_le_mul_of_nonneg_right (by omega) (by decide))
  exact Int.bmod_eq_of_le (by omega) (by omega)
theorem own_sa (sA sB mA mB : Int32) (a0 : 0 ≤ mA.toInt) (a1 : mA.toInt ≤ sA.toInt) (b0 : 0 ≤ mB.toInt) (b1 : mB.toInt ≤ sB.toInt) (h : ¬ (((sA.toInt64) * (sB.toInt64)) = (0 : Int64))) : ¬ (sA = (0 : Int32)) := fun q => h (by subst q; rw [show ((0 : Int32).toInt64) = 0 from rfl, Int64.zero_mul])
theorem own_sb (sA sB mA mB : Int32) (a0 : 0 ≤ mA.toInt) (a1 : mA.toInt ≤ sA.toInt) (b0 : 0 ≤ mB.toInt) (b1 : mB.toInt ≤ sB.toInt) (h : ¬ (((sA.toInt64) * (sB.toInt64)) = (0 : Int64))) : ¬ (sB = (0 : Int32)) := fun q => h (by subst q; rw [show ((0 : Int32).toInt64) = 0 from rfl, Int64.mul_zero])
theorem own_sb0 (sA sB mA mB : Int32) (a0 : 0 ≤ mA.toInt) (a1 : mA.toInt ≤ sA.toInt) (b0 : 0 ≤ mB.toInt) (b1 : mB.toInt ≤ sB.toInt) (h : ((sA.toInt64) * (sB.toInt64)) = (0 : Int64)) (n : ¬ (sA = (0 : Int32))) : sB = (0 : Int32) := by
  have e := own_prod sA sB (by omega) (by omega)
  rw [h] at e
  have e' : sA.toInt * sB.toInt = 0 := e.symm
  rcases Int.mul_eq_zero.mp e' with q | q
  · exact absurd (Int32.toInt_inj.mp q) n
  · exact Int32.toInt_inj.mp q
theorem own_two {a b c d : Int} (h0 : 0 ≤ c) (h1 : c ≤ a) (k0 : 0 ≤ d) (k1 : d ≤ b) (e : c * d = a * b) (n : a * b ≠ 0) : c = a ∧ d = b := by
  have ha : a ≠ 0 := fun q => n (by rw [q, Int.zero_mul])
  have hb : b ≠ 0 := fun q => n (by rw [q, Int.mul_zero])
  have x1 : c * d ≤ c * b := Int.mul_le_mul_of_nonneg_left k1 h0
  have x2 : c * b ≤ a * b := Int.mul_le_mul_of_nonneg_right h1 (by omega)
  have x3 : c * d ≤ a * d := Int.mul_le_mul_of_nonneg_right h1 k0
  have x4 : a * d ≤ a * b := Int.mul_le_mul_of_nonneg_left k1 (by omega)
  refine ⟨Int.eq_of_mul_eq_mul_right hb (by omega), Int.eq_of_mul_eq_mul_left ha (by omega)⟩
theorem own_both (sA sB mA mB : Int32) (a0 : 0 ≤ mA.toInt) (a1 : mA.toInt ≤ sA.toInt) (b0 : 0 ≤ mB.toInt) (b1 : mB.toInt ≤ sB.toInt) (h : ¬ (((sA.toInt64) * (sB.toInt64)) = (0 : Int64))) (g : ((mA.toInt64) * (mB.toInt64)) = ((sA.toInt64) * (sB.toInt64))) : mA = sA ∧ mB = sB := by
  have e1 := own_prod sA sB (by omega) (by omega)
  have e2 := own_prod mA mB a0 b0
  have q := own_two a0 a1 b0 b1 (by rw [← e1, ← e2, g]) (fun z => h (Int64.toInt_inj.mp (by rw [e1, z]; rfl)))
  exact ⟨Int32.toInt_inj.mp q.1, Int32.toInt_inj.mp q.2⟩
theorem own_ma (sA sB mA mB : Int32) (a0 : 0 ≤ mA.toInt) (a1 : mA.toInt ≤ sA.toInt) (b0 : 0 ≤ mB.toInt) (b1 : mB.toInt ≤ sB.toInt) (h : ¬ (((sA.toInt64) * (sB.toInt64)) = (0 : Int64))) (g : ((mA.toInt64) * (mB.toInt64)) = ((sA.toInt64) * (sB.toInt64))) : mA = sA := (own_both sA sB mA mB a0 a1 b0 b1 h g).1
theorem own_mb (sA sB mA mB : Int32) (a0 : 0 ≤ mA.toInt) (a1 : mA.toInt ≤ sA.toInt) (b0 : 0 ≤ mB.toInt) (b1 : mB.toInt ≤ sB.toInt) (h : ¬ (((sA.toInt64) * (sB.toInt64)) = (0 : Int64))) (g : ((mA.toInt64) * (mB.toInt64)) = ((sA.toInt64) * (sB.toInt64))) : mB = sB := (own_both sA sB mA mB a0 a1 b0 b1 h g).2
theorem own_mbn (sA sB mA mB : Int32) (a0 : 0 ≤ mA.toInt) (a1 : mA.toInt ≤ sA.toInt) (b0 : 0 ≤ mB.toInt) (b1 : mB.toInt ≤ sB.toInt) (g : ¬ (((mA.toInt64) * (mB.toInt64)) = ((sA.toInt64) * (sB.toInt64)))) (q : mA = sA) : ¬ (mB = sB) := fun r => g (by rw [q, r])
theorem own_i2ls (x y : Int32) (h0 : 0 ≤ y.toInt) (h1 : y.toInt ≤ x.toInt) : (x - y).toInt64 = x.toInt64 - y.toInt64 := by
  apply Int64.toInt_inj.mp
  have b := rng32 x
  have e := c_i2l x
  have e1 := c_i2l y
  have e2 := c_i2l (x - y)
  have q := c_isub x y
  have b2 := rng32 (x - y)
  have q2 := c_lsub x.toInt64 y.toInt64
  have r := rng64 (x.toInt64 - y.toInt64)
  omega
theorem own_ring (a b c d : Int64) : (a - c) * b + c * (b - d) = a * b - c * d := by grind
theorem own_same (sA sB mA mB : Int32) (a0 : 0 ≤ mA.toInt) (a1 : mA.toInt ≤ sA.toInt) (b0 : 0 ≤ mB.toInt) (b1 : mB.toInt ≤ sB.toInt) : ((((sA - mA).toInt64) * (sB.toInt64)) + ((mA.toInt64) * ((sB - mB).toInt64))) = (((sA.toInt64) * (sB.toInt64)) - ((mA.toInt64) * (mB.toInt64))) := by
  rw [own_i2ls sA mA a0 a1, own_i2ls sB mB b0 b1, own_ring]
theorem own_den (sA sB mA mB : Int32) (a0 : 0 ≤ mA.toInt) (a1 : mA.toInt ≤ sA.toInt) (b0 : 0 ≤ mB.toInt) (b1 : mB.toInt ≤ sB.toInt) (g : ¬ (((mA.toInt64) * (mB.toInt64)) = ((sA.toInt64) * (sB.toInt64)))) : ((((sA - mA).toInt64) * (sB.toInt64)) + ((mA.toInt64) * ((sB - mB).toInt64))) ≠ 0 := by
  rw [own_same sA sB mA mB a0 a1 b0 b1]; exact own_sub0 g
theorem own_hundred : NoNaN64 (4636737291354636288 : UInt64) := by unfold NoNaN64; decide
theorem pn_0 : plainName "com/example/eurycleia/eurycleia/similarity/CopyReportOddsRatioPinLaw" = true := by first | (simp [plainName, overriddenIn]; done) | decide +kernel
theorem pd_0_0 : parseMethodDescriptor "()V" = some ⟨[], none⟩ := by decide +kernel
theorem pd_0_1 : parseMethodDescriptor "(IIIILjava/util/List;Ljava/util/List;)V" = some ⟨[.int, .int, .int, .int, (.object "java/util/List"), (.object "java/util/List")], none⟩ := by decide +kernel
theorem pd_0_2 : parseMethodDescriptor "()D" = some ⟨[], some .double⟩ := by decide +kernel
theorem ef_rm0 (m : MethodId) (q0 : Int32) (q1 : Int32) (q2 : Int32) (q3 : Int32) (q4 : Int32) : entryFrame m #[(.int q0), (.int q1), (.int q2), (.int q3), (.int q4)] maxLocals = mkF m 0 #[oI q0, oI q1, oI q2, oI q3, oI q4, .unset, .unset, .unset, .unset, .unset, .unset, .unset, .unset, .unset, .unset, .unset, .unset, .unset] [] := by first | (simp [entryFrame, mkF, argsToLocals, Value.category, maxLocals]; done) | rfl
def Q0 (Z : State) (p0 : Int32) (p1 : Int32) (p2 : Int32) (p3 : Int32) (p4 : Int32) (wd : Addr) (h0 : Heap) (n0 : Nat) (v : Option Value) (h : Heap) (L : List Loc) : Prop := v = some (.int (1 : Int32)) ∧ Fr n0 L
set_option maxRecDepth 65536 in
set_option maxHeartbeats 40000000 in
theorem rm0 (l : Launch) (Z : State) (a0 : Array Value) (hw : ∀ d ∈ tables_1, d.before a0 Z = true) (ws : List Jvm.Cond) (p0 : Int32) (p1 : Int32) (p2 : Int32) (p3 : Int32) (p4 : Int32) (wd : Addr) (h0 : Heap) (n0 : Nat) (Z0 : n0 ≤ h0.size) (S_d : Sta Z h0 "java/util/ArrayList" "DEFAULTCAPACITY_EMPTY_ELEMENTDATA" "[Ljava/lang/Object;" (.ref wd)) :
    MetFree l x (head1 (Jvm.Cond.code x code maxLocals ret :: ws) room_1) (fun a U => a = #[(.int p0), (.int p1), (.int p2), (.int p3), (.int p4)] ∧ Z.Warmed39 U.vm ∧ U.heap = h0) (fun _ _ _ _ _ => True) (fun _ U o U' => ∃ v L, o = .returned v ∧ Q0 Z p0 p1 p2 p3 p4 wd h0 n0 v U'.heap L ∧ FrameEnd U o U' L room_1.cells room_1.slots) := by
  refine MetFree.of_bodySF (plainFor_of_name pn_0) hisR ?_
  intro p e s m args below meth c s₁ Bd hml0 hP hK
  obtain ⟨rfl, hZ, hh⟩ := hP
  have hx := Bd.exec
  have hby := Bd.bytes
  have hml : c.maxLocals = 18 := hml0
  have hown : s.vm.findClass "com/example/eurycleia/eurycleia/similarity/CopyReportOddsRatioPinLaw" = some m.cls := findClass_of_methodNamed Bd.named
  have hnm := (name_of_methodNamed Bd.named Bd.method).1
  have X0 : Stand p l e room_1 s m #[(.int p0), (.int p1), (.int p2), (.int p3), (.int p4)] below meth c s₁ [] 0 0 := Stand.of_body Bd
  have e0 : s₁.heap = h0 := by rw [← hh, Bd.state]; rfl
  have N0 := Fr.nil n0
  refine own_start ?_
  refine own_via (fun t k => castTop (ef_rm0 m p0 p1 p2 p3 p4) k) ?_
  show own_Go p e below _ (s₁.setTop (mkF m 0 #[oI p0, oI p1, oI p2, oI p3, oI p4, .unset, .unset, .unset, .unset, .unset, .unset, .unset, .unset, .unset, .unset, .unset, .unset, .unset] []))
  refine own_via (fun t k => XS.iloadN X0.here hx rfl (hb hby at_0) rfl k) ?_
  show own_Go p e below _ (s₁.setTop (mkF m 1 #[oI p0, oI p1, oI p2, oI p3, oI p4, .unset, .unset, .unset, .unset, .unset, .unset, .unset, .unset, .unset, .unset, .unset, .unset, .unset] [(.int p0)]))
  refine own_via (fun t k => X0.ldcInt hx hown (mvT hZ (own_w hw 0)) (g := (mkF m 1 #[oI p0, oI p1, oI p2, oI p3, oI p4, .unset, .unset, .unset, .unset, .unset, .unset, .unset, .unset, .unset, .unset, .unset, .unset, .unset] [(.int p0)])) rfl (hb hby at_1) t k) ?_
  show own_Go p e below _ (s₁.setTop (mkF m 3 #[oI p0, oI p1, oI p2, oI p3, oI p4, .unset, .unset, .unset, .unset, .unset, .unset, .unset, .unset, .unset, .unset, .unset, .unset, .unset] [(.int (2147483647 : Int32)), (.int p0)]))
  refine own_via (fun t k => XS.iand X0.here hx rfl (hb hby at_3) rfl k) ?_
  show own_Go p e below _ (s₁.setTop (mkF m 4 #[oI p0, oI p1, oI p2, oI p3, oI p4, .unset, .unset, .unset, .unset, .unset, .unset, .unset, .unset, .unset, .unset, .unset, .unset, .unset] [(.int (p0 &&& (2147483647 : Int32)))]))
  refine own_via (fun t k => XS.istore X0.here hx rfl (hb hby at_4) rfl (l' := #[oI p0, oI p1, oI p2, oI p3, oI p4, oI (p0 &&& (2147483647 : Int32)), .unset, .unset, .unset, .unset, .unset, .unset, .unset, .unset, .unset, .unset, .unset, .unset]) rfl k) ?_
  show own_Go p e below _ (s₁.setTop (mkF m 6 #[oI p0, oI p1, oI p2, oI p3, oI p4, oI (p0 &&& (2147483647 : Int32)), .unset, .unset, .unset, .unset, .unset, .unset, .unset, .unset, .unset, .unset, .unset, .unset] []))
  refine own_via (fun t k => XS.iloadN X0.here hx rfl (hb hby at_6) rfl k) ?_
  show own_Go p e below _ (s₁.setTop (mkF m 7 #[oI p0, oI p1, oI p2, oI p3, oI p4, oI (p0 &&& (2147483647 : Int32)), .unset, .unset, .unset, .unset, .unset, .unset, .unset, .unset, .unset, .unset, .unset, .unset] [(.int p2)]))
  refine own_via (fun t k => X0.ldcInt hx hown (mvT hZ (own_w hw 0)) (g := (mkF m 7 #[oI p0, oI p1, oI p2, oI p3, oI p4, oI (p0 &&& (2147483647 : Int32)), .unset, .unset, .unset, .unset, .unset, .unset, .unset, .unset, .unset, .unset, .unset, .unset] [(.int p2)])) rfl (hb hby at_7) t k) ?_
  show own_Go p e below _ (s₁.setTop (mkF m 9 #[oI p0, oI p1, oI p2, oI p3, oI p4, oI (p0 &&& (2147483647 : Int32)), .unset, .unset, .unset, .unset, .unset, .unset, .unset, .unset, .unset, .unset, .unset, .unset] [(.int (2147483647 : Int32)), (.int p2)]))
  refine own_via (fun t k => XS.iand X0.here hx rfl (hb hby at_9) rfl k) ?_
  show own_Go p e below _ (s₁.setTop (mkF m 10 #[oI p0, oI p1, oI p2, oI p3, oI p4, oI (p0 &&& (2147483647 : Int32)), .unset, .unset, .unset, .unset, .unset, .unset, .unset, .unset, .unset, .unset, .unset, .unset] [(.int (p2 &&& (2147483647 : Int32)))]))
  refine own_via (fun t k => XS.istore X0.here hx rfl (hb hby at_10) rfl (l' := #[oI p0, oI p1, oI p2, oI p3, oI p4, oI (p0 &&& (2147483647 : Int32)), oI (p2 &&& (2147483647 : Int32)), .unset, .unset, .unset, .unset, .unset, .unset, .unset, .unset, .unset, .unset, .unset]) rfl k) ?_
  show own_Go p e below _ (s₁.setTop (mkF m 12 #[oI p0, oI p1, oI p2, oI p3, oI p4, oI (p0 &&& (2147483647 : Int32)), oI (p2 &&& (2147483647 : Int32)), .unset, .unset, .unset, .unset, .unset, .unset, .unset, .unset, .unset, .unset, .unset] []))
  refine own_via (fun t k => XS.iload X0.here hx rfl (hb hby at_12) rfl k) ?_
  show own_Go p e below _ (s₁.setTop (mkF m 14 #[oI p0, oI p1, oI p2, oI p3, oI p4, oI (p0 &&& (2147483647 : Int32)), oI (p2 &&& (2147483647 : Int32)), .unset, .unset, .unset, .unset, .unset, .unset, .unset, .unset, .unset, .unset, .unset] [(.int p4)]))
  refine own_via (fun t k => XS.iconst X0.here hx rfl (hb hby at_14) k) ?_
  show own_Go p e below _ (s₁.setTop (mkF m 15 #[oI p0, oI p1, oI p2, oI p3, oI p4, oI (p0 &&& (2147483647 : Int32)), oI (p2 &&& (2147483647 : Int32)), .unset, .unset, .unset, .unset, .unset, .unset, .unset, .unset, .unset, .unset, .unset] [(.int (1 : Int32)), (.int p4)]))
  refine own_via (fun t k => XS.iand X0.here hx rfl (hb hby at_15) rfl k) ?_
  show own_Go p e below _ (s₁.setTop (mkF m 16 #[oI p0, oI p1, oI p2, oI p3, oI p4, oI (p0 &&& (2147483647 : Int32)), oI (p2 &&& (2147483647 : Int32)), .unset, .unset, .unset, .unset, .unset, .unset, .unset, .unset, .unset, .unset, .unset] [(.int (p4 &&& (1 : Int32)))]))
  have jn2 : ∀ t, Steps p.tables e below (s₁.setTop (mkF m 22 #[oI p0, oI p1, oI p2, oI p3, oI p4, oI (if (p4 &&& (1 : Int32)) = (0 : Int32) then (p0 &&& (2147483647 : Int32)) else (0 : Int32)), oI (p2 &&& (2147483647 : Int32)), .unset, .unset, .unset, .unset, .unset, .unset, .unset, .unset, .unset, .unset, .unset] [])) t → Steps p.tables e below (s₁.setTop (mkF m 16 #[oI p0, oI p1, oI p2, oI p3, oI p4, oI (p0 &&& (2147483647 : Int32)), oI (p2 &&& (2147483647 : Int32)), .unset, .unset, .unset, .unset, .unset, .unset, .unset, .unset, .unset, .unset, .unset] [(.int (p4 &&& (1 : Int32)))])) t := by
    intro t k
    show Steps p.tables e below (s₁.setTop (mkF m 16 #[oI p0, oI p1, oI p2, oI p3, oI p4, oI (p0 &&& (2147483647 : Int32)), oI (p2 &&& (2147483647 : Int32)), .unset, .unset, .unset, .unset, .unset, .unset, .unset, .unset, .unset, .unset, .unset] [(.int (p4 &&& (1 : Int32)))])) t
    by_cases hc16_1 : (p4 &&& (1 : Int32)) = (0 : Int32)
    · refine XS.ifYes X0.here hx rfl (pc0 := 16) (pc' := 22) rfl (hb hby at_16) rfl ((if0 _ _).trans (teq hc16_1).1) (by decide) (by decide) ?_
      rw [if_pos hc16_1] at k
      exact k
    · refine XS.ifNo X0.here hx rfl (hb hby at_16) rfl ((if0 _ _).trans (feq hc16_1).1) ?_
      show Steps p.tables e below (s₁.setTop (mkF m 19 #[oI p0, oI p1, oI p2, oI p3, oI p4, oI (p0 &&& (2147483647 : Int32)), oI (p2 &&& (2147483647 : Int32)), .unset, .unset, .unset, .unset, .unset, .unset, .unset, .unset, .unset, .unset, .unset] [])) t
      refine XS.iconst X0.here hx rfl (hb hby at_19) ?_
      show Steps p.tables e below (s₁.setTop (mkF m 20 #[oI p0, oI p1, oI p2, oI p3, oI p4, oI (p0 &&& (2147483647 : Int32)), oI (p2 &&& (2147483647 : Int32)), .unset, .unset, .unset, .unset, .unset, .unset, .unset, .unset, .unset, .unset, .unset] [(.int (0 : Int32))])) t
      refine XS.istore X0.here hx rfl (hb hby at_20) rfl (l' := #[oI p0, oI p1, oI p2, oI p3, oI p4, oI (0 : Int32), oI (p2 &&& (2147483647 : Int32)), .unset, .unset, .unset, .unset, .unset, .unset, .unset, .unset, .unset, .unset, .unset]) rfl ?_
      rw [if_neg hc16_1] at k
      exact k
  refine own_via jn2 ?_
  show own_Go p e below _ (s₁.setTop (mkF m 22 #[oI p0, oI p1, oI p2, oI p3, oI p4, oI (if (p4 &&& (1 : Int32)) = (0 : Int32) then (p0 &&& (2147483647 : Int32)) else (0 : Int32)), oI (p2 &&& (2147483647 : Int32)), .unset, .unset, .unset, .unset, .unset, .unset, .unset, .unset, .unset, .unset, .unset] []))
  refine own_via (fun t k => XS.iload X0.here hx rfl (hb hby at_22) rfl k) ?_
  show own_Go p e below _ (s₁.setTop (mkF m 24 #[oI p0, oI p1, oI p2, oI p3, oI p4, oI (if (p4 &&& (1 : Int32)) = (0 : Int32) then (p0 &&& (2147483647 : Int32)) else (0 : Int32)), oI (p2 &&& (2147483647 : Int32)), .unset, .unset, .unset, .unset, .unset, .unset, .unset, .unset, .unset, .unset, .unset] [(.int p4)]))
  refine own_via (fun t k => XS.iconst X0.here hx rfl (hb hby at_24) k) ?_
  show own_Go p e below _ (s₁.setTop (mkF m 25 #[oI p0, oI p1, oI p2, oI p3, oI p4, oI (if (p4 &&& (1 : Int32)) = (0 : Int32) then (p0 &&& (2147483647 : Int32)) else (0 : Int32)), oI (p2 &&& (2147483647 : Int32)), .unset, .unset, .unset, .unset, .unset, .unset, .unset, .unset, .unset, .unset, .unset] [(.int (4 : Int32)), (.int p4)]))
  refine own_via (fun t k => XS.iand X0.here hx rfl (hb hby at_25) rfl k) ?_
  show own_Go p e below _ (s₁.setTop (mkF m 26 #[oI p0, oI p1, oI p2, oI p3, oI p4, oI (if (p4 &&& (1 : Int32)) = (0 : Int32) then (p0 &&& (2147483647 : Int32)) else (0 : Int32)), oI (p2 &&& (2147483647 : Int32)), .unset, .unset, .unset, .unset, .unset, .unset, .unset, .unset, .unset, .unset, .unset] [(.int (p4 &&& (4 : Int32)))]))
  have jn4 : ∀ t, Steps p.tables e below (s₁.setTop (mkF m 32 #[oI p0, oI p1, oI p2, oI p3, oI p4, oI (if (p4 &&& (1 : Int32)) = (0 : Int32) then (p0 &&& (2147483647 : Int32)) else (0 : Int32)), oI (if (p4 &&& (4 : Int32)) = (0 : Int32) then (p2 &&& (2147483647 : Int32)) else (0 : Int32)), .unset, .unset, .unset, .unset, .unset, .unset, .unset, .unset, .unset, .unset, .unset] [])) t → Steps p.tables e below (s₁.setTop (mkF m 26 #[oI p0, oI p1, oI p2, oI p3, oI p4, oI (if (p4 &&& (1 : Int32)) = (0 : Int32) then (p0 &&& (2147483647 : Int32)) else (0 : Int32)), oI (p2 &&& (2147483647 : Int32)), .unset, .unset, .unset, .unset, .unset, .unset, .unset, .unset, .unset, .unset, .unset] [(.int (p4 &&& (4 : Int32)))])) t := by
    intro t k
    show Steps p.tables e below (s₁.setTop (mkF m 26 #[oI p0, oI p1, oI p2, oI p3, oI p4, oI (if (p4 &&& (1 : Int32)) = (0 : Int32) then (p0 &&& (2147483647 : Int32)) else (0 : Int32)), oI (p2 &&& (2147483647 : Int32)), .unset, .unset, .unset, .unset, .unset, .unset, .unset, .unset, .unset, .unset, .unset] [(.int (p4 &&& (4 : Int32)))])) t
    by_cases hc26_3 : (p4 &&& (4 : Int32)) = (0 : Int32)
    · refine XS.ifYes X0.here hx rfl (pc0 := 26) (pc' := 32) rfl (hb hby at_26) rfl ((if0 _ _).trans (teq hc26_3).1) (by decide) (by decide) ?_
      rw [if_pos hc26_3] at k
      exact k
    · refine XS.ifNo X0.here hx rfl (hb hby at_26) rfl ((if0 _ _).trans (feq hc26_3).1) ?_
      show Steps p.tables e below (s₁.setTop (mkF m 29 #[oI p0, oI p1, oI p2, oI p3, oI p4, oI (if (p4 &&& (1 : Int32)) = (0 : Int32) then (p0 &&& (2147483647 : Int32)) else (0 : Int32)), oI (p2 &&& (2147483647 : Int32)), .unset, .unset, .unset, .unset, .unset, .unset, .unset, .unset, .unset, .unset, .unset] [])) t
      refine XS.iconst X0.here hx rfl (hb hby at_29) ?_
      show Steps p.tables e below (s₁.setTop (mkF m 30 #[oI p0, oI p1, oI p2, oI p3, oI p4, oI (if (p4 &&& (1 : Int32)) = (0 : Int32) then (p0 &&& (2147483647 : Int32)) else (0 : Int32)), oI (p2 &&& (2147483647 : Int32)), .unset, .unset, .unset, .unset, .unset, .unset, .unset, .unset, .unset, .unset, .unset] [(.int (0 : Int32))])) t
      refine XS.istore X0.here hx rfl (hb hby at_30) rfl (l' := #[oI p0, oI p1, oI p2, oI p3, oI p4, oI (if (p4 &&& (1 : Int32)) = (0 : Int32) then (p0 &&& (2147483647 : Int32)) else (0 : Int32)), oI (0 : Int32), .unset, .unset, .unset, .unset, .unset, .unset, .unset, .unset, .unset, .unset, .unset]) rfl ?_
      rw [if_neg hc26_3] at k
      exact k
  refine own_via jn4 ?_
  show own_Go p e below _ (s₁.setTop (mkF m 32 #[oI p0, oI p1, oI p2, oI p3, oI p4, oI (if (p4 &&& (1 : Int32)) = (0 : Int32) then (p0 &&& (2147483647 : Int32)) else (0 : Int32)), oI (if (p4 &&& (4 : Int32)) = (0 : Int32) then (p2 &&& (2147483647 : Int32)) else (0 : Int32)), .unset, .unset, .unset, .unset, .unset, .unset, .unset, .unset, .unset, .unset, .unset] []))
  refine own_via (fun t k => XS.iloadN X0.here hx rfl (hb hby at_32) rfl k) ?_
  show own_Go p e below _ (s₁.setTop (mkF m 33 #[oI p0, oI p1, oI p2, oI p3, oI p4, oI (if (p4 &&& (1 : Int32)) = (0 : Int32) then (p0 &&& (2147483647 : Int32)) else (0 : Int32)), oI (if (p4 &&& (4 : Int32)) = (0 : Int32) then (p2 &&& (2147483647 : Int32)) else (0 : Int32)), .unset, .unset, .unset, .unset, .unset, .unset, .unset, .unset, .unset, .unset, .unset] [(.int p1)]))
  refine own_via (fun t k => XS.i2l X0.here hx rfl (hb hby at_33) rfl k) ?_
  show own_Go p e below _ (s₁.setTop (mkF m 34 #[oI p0, oI p1, oI p2, oI p3, oI p4, oI (if (p4 &&& (1 : Int32)) = (0 : Int32) then (p0 &&& (2147483647 : Int32)) else (0 : Int32)), oI (if (p4 &&& (4 : Int32)) = (0 : Int32) then (p2 &&& (2147483647 : Int32)) else (0 : Int32)), .unset, .unset, .unset, .unset, .unset, .unset, .unset, .unset, .unset, .unset, .unset] [(.long (p1.toInt64))]))
  refine own_via (fun t k => X0.ldc2Long hx hown (mvT hZ (own_w hw 1)) (g := (mkF m 34 #[oI p0, oI p1, oI p2, oI p3, oI p4, oI (if (p4 &&& (1 : Int32)) = (0 : Int32) then (p0 &&& (2147483647 : Int32)) else (0 : Int32)), oI (if (p4 &&& (4 : Int32)) = (0 : Int32) then (p2 &&& (2147483647 : Int32)) else (0 : Int32)), .unset, .unset, .unset, .unset, .unset, .unset, .unset, .unset, .unset, .unset, .unset] [(.long (p1.toInt64))])) rfl (hb hby at_34) t k) ?_
  show own_Go p e below _ (s₁.setTop (mkF m 37 #[oI p0, oI p1, oI p2, oI p3, oI p4, oI (if (p4 &&& (1 : Int32)) = (0 : Int32) then (p0 &&& (2147483647 : Int32)) else (0 : Int32)), oI (if (p4 &&& (4 : Int32)) = (0 : Int32) then (p2 &&& (2147483647 : Int32)) else (0 : Int32)), .unset, .unset, .unset, .unset, .unset, .unset, .unset, .unset, .unset, .unset, .unset] [(.long (2147483647 : Int64)), (.long (p1.toInt64))]))
  refine own_via (fun t k => XS.land X0.here hx rfl (hb hby at_37) rfl k) ?_
  show own_Go p e below _ (s₁.setTop (mkF m 38 #[oI p0, oI p1, oI p2, oI p3, oI p4, oI (if (p4 &&& (1 : Int32)) = (0 : Int32) then (p0 &&& (2147483647 : Int32)) else (0 : Int32)), oI (if (p4 &&& (4 : Int32)) = (0 : Int32) then (p2 &&& (2147483647 : Int32)) else (0 : Int32)), .unset, .unset, .unset, .unset, .unset, .unset, .unset, .unset, .unset, .unset, .unset] [(.long ((p1.toInt64) &&& (2147483647 : Int64)))]))
  refine own_via (fun t k => XS.iload X0.here hx rfl (hb hby at_38) rfl k) ?_
  show own_Go p e below _ (s₁.setTop (mkF m 40 #[oI p0, oI p1, oI p2, oI p3, oI p4, oI (if (p4 &&& (1 : Int32)) = (0 : Int32) then (p0 &&& (2147483647 : Int32)) else (0 : Int32)), oI (if (p4 &&& (4 : Int32)) = (0 : Int32) then (p2 &&& (2147483647 : Int32)) else (0 : Int32)), .unset, .unset, .unset, .unset, .unset, .unset, .unset, .unset, .unset, .unset, .unset] [(.int (if (p4 &&& (1 : Int32)) = (0 : Int32) then (p0 &&& (2147483647 : Int32)) else (0 : Int32))), (.long ((p1.toInt64) &&& (2147483647 : Int64)))]))
  refine own_via (fun t k => XS.i2l X0.here hx rfl (hb hby at_40) rfl k) ?_
  show own_Go p e below _ (s₁.setTop (mkF m 41 #[oI p0, oI p1, oI p2, oI p3, oI p4, oI (if (p4 &&& (1 : Int32)) = (0 : Int32) then (p0 &&& (2147483647 : Int32)) else (0 : Int32)), oI (if (p4 &&& (4 : Int32)) = (0 : Int32) then (p2 &&& (2147483647 : Int32)) else (0 : Int32)), .unset, .unset, .unset, .unset, .unset, .unset, .unset, .unset, .unset, .unset, .unset] [(.long ((if (p4 &&& (1 : Int32)) = (0 : Int32) then (p0 &&& (2147483647 : Int32)) else (0 : Int32)).toInt64)), (.long ((p1.toInt64) &&& (2147483647 : Int64)))]))
  refine own_via (fun t k => XS.lconst X0.here hx rfl (hb hby at_41) k) ?_
  show own_Go p e below _ (s₁.setTop (mkF m 42 #[oI p0, oI p1, oI p2, oI p3, oI p4, oI (if (p4 &&& (1 : Int32)) = (0 : Int32) then (p0 &&& (2147483647 : Int32)) else (0 : Int32)), oI (if (p4 &&& (4 : Int32)) = (0 : Int32) then (p2 &&& (2147483647 : Int32)) else (0 : Int32)), .unset, .unset, .unset, .unset, .unset, .unset, .unset, .unset, .unset, .unset, .unset] [(.long (1 : Int64)), (.long ((if (p4 &&& (1 : Int32)) = (0 : Int32) then (p0 &&& (2147483647 : Int32)) else (0 : Int32)).toInt64)), (.long ((p1.toInt64) &&& (2147483647 : Int64)))]))
  refine own_via (fun t k => XS.ladd X0.here hx rfl (hb hby at_42) rfl k) ?_
  show own_Go p e below _ (s₁.setTop (mkF m 43 #[oI p0, oI p1, oI p2, oI p3, oI p4, oI (if (p4 &&& (1 : Int32)) = (0 : Int32) then (p0 &&& (2147483647 : Int32)) else (0 : Int32)), oI (if (p4 &&& (4 : Int32)) = (0 : Int32) then (p2 &&& (2147483647 : Int32)) else (0 : Int32)), .unset, .unset, .unset, .unset, .unset, .unset, .unset, .unset, .unset, .unset, .unset] [(.long (((if (p4 &&& (1 : Int32)) = (0 : Int32) then (p0 &&& (2147483647 : Int32)) else (0 : Int32)).toInt64) + (1 : Int64))), (.long ((p1.toInt64) &&& (2147483647 : Int64)))]))
  refine own_via (fun t k => XS.lrem X0.here hx rfl (hb hby at_43) rfl (own_nz _ (own_nn p0 p4 1)) k) ?_
  show own_Go p e below _ (s₁.setTop (mkF m 44 #[oI p0, oI p1, oI p2, oI p3, oI p4, oI (if (p4 &&& (1 : Int32)) = (0 : Int32) then (p0 &&& (2147483647 : Int32)) else (0 : Int32)), oI (if (p4 &&& (4 : Int32)) = (0 : Int32) then (p2 &&& (2147483647 : Int32)) else (0 : Int32)), .unset, .unset, .unset, .unset, .unset, .unset, .unset, .unset, .unset, .unset, .unset] [(.long (((p1.toInt64) &&& (2147483647 : Int64)) - ((p1.toInt64) &&& (2147483647 : Int64)) / (((if (p4 &&& (1 : Int32)) = (0 : Int32) then (p0 &&& (2147483647 : Int32)) else (0 : Int32)).toInt64) + (1 : Int64)) * (((if (p4 &&& (1 : Int32)) = (0 : Int32) then (p0 &&& (2147483647 : Int32)) else (0 : Int32)).toInt64) + (1 : Int64))))]))
  refine own_via (fun t k => XS.l2i X0.here hx rfl (hb hby at_44) rfl k) ?_
  show own_Go p e below _ (s₁.setTop (mkF m 45 #[oI p0, oI p1, oI p2, oI p3, oI p4, oI (if (p4 &&& (1 : Int32)) = (0 : Int32) then (p0 &&& (2147483647 : Int32)) else (0 : Int32)), oI (if (p4 &&& (4 : Int32)) = (0 : Int32) then (p2 &&& (2147483647 : Int32)) else (0 : Int32)), .unset, .unset, .unset, .unset, .unset, .unset, .unset, .unset, .unset, .unset, .unset] [(.int ((((p1.toInt64) &&& (2147483647 : Int64)) - ((p1.toInt64) &&& (2147483647 : Int64)) / (((if (p4 &&& (1 : Int32)) = (0 : Int32) then (p0 &&& (2147483647 : Int32)) else (0 : Int32)).toInt64) + (1 : Int64)) * (((if (p4 &&& (1 : Int32)) = (0 : Int32) then (p0 &&& (2147483647 : Int32)) else (0 : Int32)).toInt64) + (1 : Int64))).toInt32))]))
  refine own_via (fun t k => XS.istore X0.here hx rfl (hb hby at_45) rfl (l' := #[oI p0, oI p1, oI p2, oI p3, oI p4, oI (if (p4 &&& (1 : Int32)) = (0 : Int32) then (p0 &&& (2147483647 : Int32)) else (0 : Int32)), oI (if (p4 &&& (4 : Int32)) = (0 : Int32) then (p2 &&& (2147483647 : Int32)) else (0 : Int32)), oI ((((p1.toInt64) &&& (2147483647 : Int64)) - ((p1.toInt64) &&& (2147483647 : Int64)) / (((if (p4 &&& (1 : Int32)) = (0 : Int32) then (p0 &&& (2147483647 : Int32)) else (0 : Int32)).toInt64) + (1 : Int64)) * (((if (p4 &&& (1 : Int32)) = (0 : Int32) then (p0 &&& (2147483647 : Int32)) else (0 : Int32)).toInt64) + (1 : Int64))).toInt32), .unset, .unset, .unset, .unset, .unset, .unset, .unset, .unset, .unset, .unset]) rfl k) ?_
  show own_Go p e below _ (s₁.setTop (mkF m 47 #[oI p0, oI p1, oI p2, oI p3, oI p4, oI (if (p4 &&& (1 : Int32)) = (0 : Int32) then (p0 &&& (2147483647 : Int32)) else (0 : Int32)), oI (if (p4 &&& (4 : Int32)) = (0 : Int32) then (p2 &&& (2147483647 : Int32)) else (0 : Int32)), oI ((((p1.toInt64) &&& (2147483647 : Int64)) - ((p1.toInt64) &&& (2147483647 : Int64)) / (((if (p4 &&& (1 : Int32)) = (0 : Int32) then (p0 &&& (2147483647 : Int32)) else (0 : Int32)).toInt64) + (1 : Int64)) * (((if (p4 &&& (1 : Int32)) = (0 : Int32) then (p0 &&& (2147483647 : Int32)) else (0 : Int32)).toInt64) + (1 : Int64))).toInt32), .unset, .unset, .unset, .unset, .unset, .unset, .unset, .unset, .unset, .unset] []))
  refine own_via (fun t k => XS.iloadN X0.here hx rfl (hb hby at_47) rfl k) ?_
  show own_Go p e below _ (s₁.setTop (mkF m 48 #[oI p0, oI p1, oI p2, oI p3, oI p4, oI (if (p4 &&& (1 : Int32)) = (0 : Int32) then (p0 &&& (2147483647 : Int32)) else (0 : Int32)), oI (if (p4 &&& (4 : Int32)) = (0 : Int32) then (p2 &&& (2147483647 : Int32)) else (0 : Int32)), oI ((((p1.toInt64) &&& (2147483647 : Int64)) - ((p1.toInt64) &&& (2147483647 : Int64)) / (((if (p4 &&& (1 : Int32)) = (0 : Int32) then (p0 &&& (2147483647 : Int32)) else (0 : Int32)).toInt64) + (1 : Int64)) * (((if (p4 &&& (1 : Int32)) = (0 : Int32) then (p0 &&& (2147483647 : Int32)) else (0 : Int32)).toInt64) + (1 : Int64))).toInt32), .unset, .unset, .unset, .unset, .unset, .unset, .unset, .unset, .unset, .unset] [(.int p3)]))
  refine own_via (fun t k => XS.i2l X0.here hx rfl (hb hby at_48) rfl k) ?_
  show own_Go p e below _ (s₁.setTop (mkF m 49 #[oI p0, oI p1, oI p2, oI p3, oI p4, oI (if (p4 &&& (1 : Int32)) = (0 : Int32) then (p0 &&& (2147483647 : Int32)) else (0 : Int32)), oI (if (p4 &&& (4 : Int32)) = (0 : Int32) then (p2 &&& (2147483647 : Int32)) else (0 : Int32)), oI ((((p1.toInt64) &&& (2147483647 : Int64)) - ((p1.toInt64) &&& (2147483647 : Int64)) / (((if (p4 &&& (1 : Int32)) = (0 : Int32) then (p0 &&& (2147483647 : Int32)) else (0 : Int32)).toInt64) + (1 : Int64)) * (((if (p4 &&& (1 : Int32)) = (0 : Int32) then (p0 &&& (2147483647 : Int32)) else (0 : Int32)).toInt64) + (1 : Int64))).toInt32), .unset, .unset, .unset, .unset, .unset, .unset, .unset, .unset, .unset, .unset] [(.long (p3.toInt64))]))
  refine own_via (fun t k => X0.ldc2Long hx hown (mvT hZ (own_w hw 1)) (g := (mkF m 49 #[oI p0, oI p1, oI p2, oI p3, oI p4, oI (if (p4 &&& (1 : Int32)) = (0 : Int32) then (p0 &&& (2147483647 : Int32)) else (0 : Int32)), oI (if (p4 &&& (4 : Int32)) = (0 : Int32) then (p2 &&& (2147483647 : Int32)) else (0 : Int32)), oI ((((p1.toInt64) &&& (2147483647 : Int64)) - ((p1.toInt64) &&& (2147483647 : Int64)) / (((if (p4 &&& (1 : Int32)) = (0 : Int32) then (p0 &&& (2147483647 : Int32)) else (0 : Int32)).toInt64) + (1 : Int64)) * (((if (p4 &&& (1 : Int32)) = (0 : Int32) then (p0 &&& (2147483647 : Int32)) else (0 : Int32)).toInt64) + (1 : Int64))).toInt32), .unset, .unset, .unset, .unset, .unset, .unset, .unset, .unset, .unset, .unset] [(.long (p3.toInt64))])) rfl (hb hby at_49) t k) ?_
  show own_Go p e below _ (s₁.setTop (mkF m 52 #[oI p0, oI p1, oI p2, oI p3, oI p4, oI (if (p4 &&& (1 : Int32)) = (0 : Int32) then (p0 &&& (2147483647 : Int32)) else (0 : Int32)), oI (if (p4 &&& (4 : Int32)) = (0 : Int32) then (p2 &&& (2147483647 : Int32)) else (0 : Int32)), oI ((((p1.toInt64) &&& (2147483647 : Int64)) - ((p1.toInt64) &&& (2147483647 : Int64)) / (((if (p4 &&& (1 : Int32)) = (0 : Int32) then (p0 &&& (2147483647 : Int32)) else (0 : Int32)).toInt64) + (1 : Int64)) * (((if (p4 &&& (1 : Int32)) = (0 : Int32) then (p0 &&& (2147483647 : Int32)) else (0 : Int32)).toInt64) + (1 : Int64))).toInt32), .unset, .unset, .unset, .unset, .unset, .unset, .unset, .unset, .unset, .unset] [(.long (2147483647 : Int64)), (.long (p3.toInt64))]))
  refine own_via (fun t k => XS.land X0.here hx rfl (hb hby at_52) rfl k) ?_
  show own_Go p e below _ (s₁.setTop (mkF m 53 #[oI p0, oI p1, oI p2, oI p3, oI p4, oI (if (p4 &&& (1 : Int32)) = (0 : Int32) then (p0 &&& (2147483647 : Int32)) else (0 : Int32)), oI (if (p4 &&& (4 : Int32)) = (0 : Int32) then (p2 &&& (2147483647 : Int32)) else (0 : Int32)), oI ((((p1.toInt64) &&& (2147483647 : Int64)) - ((p1.toInt64) &&& (2147483647 : Int64)) / (((if (p4 &&& (1 : Int32)) = (0 : Int32) then (p0 &&& (2147483647 : Int32)) else (0 : Int32)).toInt64) + (1 : Int64)) * (((if (p4 &&& (1 : Int32)) = (0 : Int32) then (p0 &&& (2147483647 : Int32)) else (0 : Int32)).toInt64) + (1 : Int64))).toInt32), .unset, .unset, .unset, .unset, .unset, .unset, .unset, .unset, .unset, .unset] [(.long ((p3.toInt64) &&& (2147483647 : Int64)))]))
  refine own_via (fun t k => XS.iload X0.here hx rfl (hb hby at_53) rfl k) ?_
  show own_Go p e below _ (s₁.setTop (mkF m 55 #[oI p0, oI p1, oI p2, oI p3, oI p4, oI (if (p4 &&& (1 : Int32)) = (0 : Int32) then (p0 &&& (2147483647 : Int32)) else (0 : Int32)), oI (if (p4 &&& (4 : Int32)) = (0 : Int32) then (p2 &&& (2147483647 : Int32)) else (0 : Int32)), oI ((((p1.toInt64) &&& (2147483647 : Int64)) - ((p1.toInt64) &&& (2147483647 : Int64)) / (((if (p4 &&& (1 : Int32)) = (0 : Int32) then (p0 &&& (2147483647 : Int32)) else (0 : Int32)).toInt64) + (1 : Int64)) * (((if (p4 &&& (1 : Int32)) = (0 : Int32) then (p0 &&& (2147483647 : Int32)) else (0 : Int32)).toInt64) + (1 : Int64))).toInt32), .unset, .unset, .unset, .unset, .unset, .unset, .unset, .unset, .unset, .unset] [(.int (if (p4 &&& (4 : Int32)) = (0 : Int32) then (p2 &&& (2147483647 : Int32)) else (0 : Int32))), (.long ((p3.toInt64) &&& (2147483647 : Int64)))]))
  refine own_via (fun t k => XS.i2l X0.here hx rfl (hb hby at_55) rfl k) ?_
  show own_Go p e below _ (s₁.setTop (mkF m 56 #[oI p0, oI p1, oI p2, oI p3, oI p4, oI (if (p4 &&& (1 : Int32)) = (0 : Int32) then (p0 &&& (2147483647 : Int32)) else (0 : Int32)), oI (if (p4 &&& (4 : Int32)) = (0 : Int32) then (p2 &&& (2147483647 : Int32)) else (0 : Int32)), oI ((((p1.toInt64) &&& (2147483647 : Int64)) - ((p1.toInt64) &&& (2147483647 : Int64)) / (((if (p4 &&& (1 : Int32)) = (0 : Int32) then (p0 &&& (2147483647 : Int32)) else (0 : Int32)).toInt64) + (1 : Int64)) * (((if (p4 &&& (1 : Int32)) = (0 : Int32) then (p0 &&& (2147483647 : Int32)) else (0 : Int32)).toInt64) + (1 : Int64))).toInt32), .unset, .unset, .unset, .unset, .unset, .unset, .unset, .unset, .unset, .unset] [(.long ((if (p4 &&& (4 : Int32)) = (0 : Int32) then (p2 &&& (2147483647 : Int32)) else (0 : Int32)).toInt64)), (.long ((p3.toInt64) &&& (2147483647 : Int64)))]))
  refine own_via (fun t k => XS.lconst X0.here hx rfl (hb hby at_56) k) ?_
  show own_Go p e below _ (s₁.setTop (mkF m 57 #[oI p0, oI p1, oI p2, oI p3, oI p4, oI (if (p4 &&& (1 : Int32)) = (0 : Int32) then (p0 &&& (2147483647 : Int32)) else (0 : Int32)), oI (if (p4 &&& (4 : Int32)) = (0 : Int32) then (p2 &&& (2147483647 : Int32)) else (0 : Int32)), oI ((((p1.toInt64) &&& (2147483647 : Int64)) - ((p1.toInt64) &&& (2147483647 : Int64)) / (((if (p4 &&& (1 : Int32)) = (0 : Int32) then (p0 &&& (2147483647 : Int32)) else (0 : Int32)).toInt64) + (1 : Int64)) * (((if (p4 &&& (1 : Int32)) = (0 : Int32) then (p0 &&& (2147483647 : Int32)) else (0 : Int32)).toInt64) + (1 : Int64))).toInt32), .unset, .unset, .unset, .unset, .unset, .unset, .unset, .unset, .unset, .unset] [(.long (1 : Int64)), (.long ((if (p4 &&& (4 : Int32)) = (0 : Int32) then (p2 &&& (2147483647 : Int32)) else (0 : Int32)).toInt64)), (.long ((p3.toInt64) &&& (2147483647 : Int64)))]))
  refine own_via (fun t k => XS.ladd X0.here hx rfl (hb hby at_57) rfl k) ?_
  show own_Go p e below _ (s₁.setTop (mkF m 58 #[oI p0, oI p1, oI p2, oI p3, oI p4, oI (if (p4 &&& (1 : Int32)) = (0 : Int32) then (p0 &&& (2147483647 : Int32)) else (0 : Int32)), oI (if (p4 &&& (4 : Int32)) = (0 : Int32) then (p2 &&& (2147483647 : Int32)) else (0 : Int32)), oI ((((p1.toInt64) &&& (2147483647 : Int64)) - ((p1.toInt64) &&& (2147483647 : Int64)) / (((if (p4 &&& (1 : Int32)) = (0 : Int32) then (p0 &&& (2147483647 : Int32)) else (0 : Int32)).toInt64) + (1 : Int64)) * (((if (p4 &&& (1 : Int32)) = (0 : Int32) then (p0 &&& (2147483647 : Int32)) else (0 : Int32)).toInt64) + (1 : Int64))).toInt32), .unset, .unset, .unset, .unset, .unset, .unset, .unset, .unset, .unset, .unset] [(.long (((if (p4 &&& (4 : Int32)) = (0 : Int32) then (p2 &&& (2147483647 : Int32)) else (0 : Int32)).toInt64) + (1 : Int64))), (.long ((p3.toInt64) &&& (2147483647 : Int64)))]))
  refine own_via (fun t k => XS.lrem X0.here hx rfl (hb hby at_58) rfl (own_nz _ (own_nn p2 p4 4)) k) ?_
  show own_Go p e below _ (s₁.setTop (mkF m 59 #[oI p0, oI p1, oI p2, oI p3, oI p4, oI (if (p4 &&& (1 : Int32)) = (0 : Int32) then (p0 &&& (2147483647 : Int32)) else (0 : Int32)), oI (if (p4 &&& (4 : Int32)) = (0 : Int32) then (p2 &&& (2147483647 : Int32)) else (0 : Int32)), oI ((((p1.toInt64) &&& (2147483647 : Int64)) - ((p1.toInt64) &&& (2147483647 : Int64)) / (((if (p4 &&& (1 : Int32)) = (0 : Int32) then (p0 &&& (2147483647 : Int32)) else (0 : Int32)).toInt64) + (1 : Int64)) * (((if (p4 &&& (1 : Int32)) = (0 : Int32) then (p0 &&& (2147483647 : Int32)) else (0 : Int32)).toInt64) + (1 : Int64))).toInt32), .unset, .unset, .unset, .unset, .unset, .unset, .unset, .unset, .unset, .unset] [(.long (((p3.toInt64) &&& (2147483647 : Int64)) - ((p3.toInt64) &&& (2147483647 : Int64)) / (((if (p4 &&& (4 : Int32)) = (0 : Int32) then (p2 &&& (2147483647 : Int32)) else (0 : Int32)).toInt64) + (1 : Int64)) * (((if (p4 &&& (4 : Int32)) = (0 : Int32) then (p2 &&& (2147483647 : Int32)) else (0 : Int32)).toInt64) + (1 : Int64))))]))
  refine own_via (fun t k => XS.l2i X0.here hx rfl (hb hby at_59) rfl k) ?_
  show own_Go p e below _ (s₁.setTop (mkF m 60 #[oI p0, oI p1, oI p2, oI p3, oI p4, oI (if (p4 &&& (1 : Int32)) = (0 : Int32) then (p0 &&& (2147483647 : Int32)) else (0 : Int32)), oI (if (p4 &&& (4 : Int32)) = (0 : Int32) then (p2 &&& (2147483647 : Int32)) else (0 : Int32)), oI ((((p1.toInt64) &&& (2147483647 : Int64)) - ((p1.toInt64) &&& (2147483647 : Int64)) / (((if (p4 &&& (1 : Int32)) = (0 : Int32) then (p0 &&& (2147483647 : Int32)) else (0 : Int32)).toInt64) + (1 : Int64)) * (((if (p4 &&& (1 : Int32)) = (0 : Int32) then (p0 &&& (2147483647 : Int32)) else (0 : Int32)).toInt64) + (1 : Int64))).toInt32), .unset, .unset, .unset, .unset, .unset, .unset, .unset, .unset, .unset, .unset] [(.int ((((p3.toInt64) &&& (2147483647 : Int64)) - ((p3.toInt64) &&& (2147483647 : Int64)) / (((if (p4 &&& (4 : Int32)) = (0 : Int32) then (p2 &&& (2147483647 : Int32)) else (0 : Int32)).toInt64) + (1 : Int64)) * (((if (p4 &&& (4 : Int32)) = (0 : Int32) then (p2 &&& (2147483647 : Int32)) else (0 : Int32)).toInt64) + (1 : Int64))).toInt32))]))
  refine own_via (fun t k => XS.istore X0.here hx rfl (hb hby at_60) rfl (l' := #[oI p0, oI p1, oI p2, oI p3, oI p4, oI (if (p4 &&& (1 : Int32)) = (0 : Int32) then (p0 &&& (2147483647 : Int32)) else (0 : Int32)), oI (if (p4 &&& (4 : Int32)) = (0 : Int32) then (p2 &&& (2147483647 : Int32)) else (0 : Int32)), oI ((((p1.toInt64) &&& (2147483647 : Int64)) - ((p1.toInt64) &&& (2147483647 : Int64)) / (((if (p4 &&& (1 : Int32)) = (0 : Int32) then (p0 &&& (2147483647 : Int32)) else (0 : Int32)).toInt64) + (1 : Int64)) * (((if (p4 &&& (1 : Int32)) = (0 : Int32) then (p0 &&& (2147483647 : Int32)) else (0 : Int32)).toInt64) + (1 : Int64))).toInt32), oI ((((p3.toInt64) &&& (2147483647 : Int64)) - ((p3.toInt64) &&& (2147483647 : Int64)) / (((if (p4 &&& (4 : Int32)) = (0 : Int32) then (p2 &&& (2147483647 : Int32)) else (0 : Int32)).toInt64) + (1 : Int64)) * (((if (p4 &&& (4 : Int32)) = (0 : Int32) then (p2 &&& (2147483647 : Int32)) else (0 : Int32)).toInt64) + (1 : Int64))).toInt32), .unset, .unset, .unset, .unset, .unset, .unset, .unset, .unset, .unset]) rfl k) ?_
  show own_Go p e below _ (s₁.setTop (mkF m 62 #[oI p0, oI p1, oI p2, oI p3, oI p4, oI (if (p4 &&& (1 : Int32)) = (0 : Int32) then (p0 &&& (2147483647 : Int32)) else (0 : Int32)), oI (if (p4 &&& (4 : Int32)) = (0 : Int32) then (p2 &&& (2147483647 : Int32)) else (0 : Int32)), oI ((((p1.toInt64) &&& (2147483647 : Int64)) - ((p1.toInt64) &&& (2147483647 : Int64)) / (((if (p4 &&& (1 : Int32)) = (0 : Int32) then (p0 &&& (2147483647 : Int32)) else (0 : Int32)).toInt64) + (1 : Int64)) * (((if (p4 &&& (1 : Int32)) = (0 : Int32) then (p0 &&& (2147483647 : Int32)) else (0 : Int32)).toInt64) + (1 : Int64))).toInt32), oI ((((p3.toInt64) &&& (2147483647 : Int64)) - ((p3.toInt64) &&& (2147483647 : Int64)) / (((if (p4 &&& (4 : Int32)) = (0 : Int32) then (p2 &&& (2147483647 : Int32)) else (0 : Int32)).toInt64) + (1 : Int64)) * (((if (p4 &&& (4 : Int32)) = (0 : Int32) then (p2 &&& (2147483647 : Int32)) else (0 : Int32)).toInt64) + (1 : Int64))).toInt32), .unset, .unset, .unset, .unset, .unset, .unset, .unset, .unset, .unset] []))
  refine own_via (fun t k => XS.iload X0.here hx rfl (hb hby at_62) rfl k) ?_
  show own_Go p e below _ (s₁.setTop (mkF m 64 #[oI p0, oI p1, oI p2, oI p3, oI p4, oI (if (p4 &&& (1 : Int32)) = (0 : Int32) then (p0 &&& (2147483647 : Int32)) else (0 : Int32)), oI (if (p4 &&& (4 : Int32)) = (0 : Int32) then (p2 &&& (2147483647 : Int32)) else (0 : Int32)), oI ((((p1.toInt64) &&& (2147483647 : Int64)) - ((p1.toInt64) &&& (2147483647 : Int64)) / (((if (p4 &&& (1 : Int32)) = (0 : Int32) then (p0 &&& (2147483647 : Int32)) else (0 : Int32)).toInt64) + (1 : Int64)) * (((if (p4 &&& (1 : Int32)) = (0 : Int32) then (p0 &&& (2147483647 : Int32)) else (0 : Int32)).toInt64) + (1 : Int64))).toInt32), oI ((((p3.toInt64) &&& (2147483647 : Int64)) - ((p3.toInt64) &&& (2147483647 : Int64)) / (((if (p4 &&& (4 : Int32)) = (0 : Int32) then (p2 &&& (2147483647 : Int32)) else (0 : Int32)).toInt64) + (1 : Int64)) * (((if (p4 &&& (4 : Int32)) = (0 : Int32) then (p2 &&& (2147483647 : Int32)) else (0 : Int32)).toInt64) + (1 : Int64))).toInt32), .unset, .unset, .unset, .unset, .unset, .unset, .unset, .unset, .unset] [(.int p4)]))
  refine own_via (fun t k => XS.iconst X0.here hx rfl (hb hby at_64) k) ?_
  show own_Go p e below _ (s₁.setTop (mkF m 65 #[oI p0, oI p1, oI p2, oI p3, oI p4, oI (if (p4 &&& (1 : Int32)) = (0 : Int32) then (p0 &&& (2147483647 : Int32)) else (0 : Int32)), oI (if (p4 &&& (4 : Int32)) = (0 : Int32) then (p2 &&& (2147483647 : Int32)) else (0 : Int32)), oI ((((p1.toInt64) &&& (2147483647 : Int64)) - ((p1.toInt64) &&& (2147483647 : Int64)) / (((if (p4 &&& (1 : Int32)) = (0 : Int32) then (p0 &&& (2147483647 : Int32)) else (0 : Int32)).toInt64) + (1 : Int64)) * (((if (p4 &&& (1 : Int32)) = (0 : Int32) then (p0 &&& (2147483647 : Int32)) else (0 : Int32)).toInt64) + (1 : Int64))).toInt32), oI ((((p3.toInt64) &&& (2147483647 : Int64)) - ((p3.toInt64) &&& (2147483647 : Int64)) / (((if (p4 &&& (4 : Int32)) = (0 : Int32) then (p2 &&& (2147483647 : Int32)) else (0 : Int32)).toInt64) + (1 : Int64)) * (((if (p4 &&& (4 : Int32)) = (0 : Int32) then (p2 &&& (2147483647 : Int32)) else (0 : Int32)).toInt64) + (1 : Int64))).toInt32), .unset, .unset, .unset, .unset, .unset, .unset, .unset, .unset, .unset] [(.int (2 : Int32)), (.int p4)]))
  refine own_via (fun t k => XS.iand X0.here hx rfl (hb hby at_65) rfl k) ?_
  show own_Go p e below _ (s₁.setTop (mkF m 66 #[oI p0, oI p1, oI p2, oI p3, oI p4, oI (if (p4 &&& (1 : Int32)) = (0 : Int32) then (p0 &&& (2147483647 : Int32)) else (0 : Int32)), oI (if (p4 &&& (4 : Int32)) = (0 : Int32) then (p2 &&& (2147483647 : Int32)) else (0 : Int32)), oI ((((p1.toInt64) &&& (2147483647 : Int64)) - ((p1.toInt64) &&& (2147483647 : Int64)) / (((if (p4 &&& (1 : Int32)) = (0 : Int32) then (p0 &&& (2147483647 : Int32)) else (0 : Int32)).toInt64) + (1 : Int64)) * (((if (p4 &&& (1 : Int32)) = (0 : Int32) then (p0 &&& (2147483647 : Int32)) else (0 : Int32)).toInt64) + (1 : Int64))).toInt32), oI ((((p3.toInt64) &&& (2147483647 : Int64)) - ((p3.toInt64) &&& (2147483647 : Int64)) / (((if (p4 &&& (4 : Int32)) = (0 : Int32) then (p2 &&& (2147483647 : Int32)) else (0 : Int32)).toInt64) + (1 : Int64)) * (((if (p4 &&& (4 : Int32)) = (0 : Int32) then (p2 &&& (2147483647 : Int32)) else (0 : Int32)).toInt64) + (1 : Int64))).toInt32), .unset, .unset, .unset, .unset, .unset, .unset, .unset, .unset, .unset] [(.int (p4 &&& (2 : Int32)))]))
  have jn6 : ∀ t, Steps p.tables e below (s₁.setTop (mkF m 73 #[oI p0, oI p1, oI p2, oI p3, oI p4, oI (if (p4 &&& (1 : Int32)) = (0 : Int32) then (p0 &&& (2147483647 : Int32)) else (0 : Int32)), oI (if (p4 &&& (4 : Int32)) = (0 : Int32) then (p2 &&& (2147483647 : Int32)) else (0 : Int32)), oI (if (p4 &&& (2 : Int32)) = (0 : Int32) then ((((p1.toInt64) &&& (2147483647 : Int64)) - ((p1.toInt64) &&& (2147483647 : Int64)) / (((if (p4 &&& (1 : Int32)) = (0 : Int32) then (p0 &&& (2147483647 : Int32)) else (0 : Int32)).toInt64) + (1 : Int64)) * (((if (p4 &&& (1 : Int32)) = (0 : Int32) then (p0 &&& (2147483647 : Int32)) else (0 : Int32)).toInt64) + (1 : Int64))).toInt32) else (if (p4 &&& (1 : Int32)) = (0 : Int32) then (p0 &&& (2147483647 : Int32)) else (0 : Int32))), oI ((((p3.toInt64) &&& (2147483647 : Int64)) - ((p3.toInt64) &&& (2147483647 : Int64)) / (((if (p4 &&& (4 : Int32)) = (0 : Int32) then (p2 &&& (2147483647 : Int32)) else (0 : Int32)).toInt64) + (1 : Int64)) * (((if (p4 &&& (4 : Int32)) = (0 : Int32) then (p2 &&& (2147483647 : Int32)) else (0 : Int32)).toInt64) + (1 : Int64))).toInt32), .unset, .unset, .unset, .unset, .unset, .unset, .unset, .unset, .unset] [])) t → Steps p.tables e below (s₁.setTop (mkF m 66 #[oI p0, oI p1, oI p2, oI p3, oI p4, oI (if (p4 &&& (1 : Int32)) = (0 : Int32) then (p0 &&& (2147483647 : Int32)) else (0 : Int32)), oI (if (p4 &&& (4 : Int32)) = (0 : Int32) then (p2 &&& (2147483647 : Int32)) else (0 : Int32)), oI ((((p1.toInt64) &&& (2147483647 : Int64)) - ((p1.toInt64) &&& (2147483647 : Int64)) / (((if (p4 &&& (1 : Int32)) = (0 : Int32) then (p0 &&& (2147483647 : Int32)) else (0 : Int32)).toInt64) + (1 : Int64)) * (((if (p4 &&& (1 : Int32)) = (0 : Int32) then (p0 &&& (2147483647 : Int32)) else (0 : Int32)).toInt64) + (1 : Int64))).toInt32), oI ((((p3.toInt64) &&& (2147483647 : Int64)) - ((p3.toInt64) &&& (2147483647 : Int64)) / (((if (p4 &&& (4 : Int32)) = (0 : Int32) then (p2 &&& (2147483647 : Int32)) else (0 : Int32)).toInt64) + (1 : Int64)) * (((if (p4 &&& (4 : Int32)) = (0 : Int32) then (p2 &&& (2147483647 : Int32)) else (0 : Int32)).toInt64) + (1 : Int64))).toInt32), .unset, .unset, .unset, .unset, .unset, .unset, .unset, .unset, .unset] [(.int (p4 &&& (2 : Int32)))])) t := by
    intro t k
    show Steps p.tables e below (s₁.setTop (mkF m 66 #[oI p0, oI p1, oI p2, oI p3, oI p4, oI (if (p4 &&& (1 : Int32)) = (0 : Int32) then (p0 &&& (2147483647 : Int32)) else (0 : Int32)), oI (if (p4 &&& (4 : Int32)) = (0 : Int32) then (p2 &&& (2147483647 : Int32)) else (0 : Int32)), oI ((((p1.toInt64) &&& (2147483647 : Int64)) - ((p1.toInt64) &&& (2147483647 : Int64)) / (((if (p4 &&& (1 : Int32)) = (0 : Int32) then (p0 &&& (2147483647 : Int32)) else (0 : Int32)).toInt64) + (1 : Int64)) * (((if (p4 &&& (1 : Int32)) = (0 : Int32) then (p0 &&& (2147483647 : Int32)) else (0 : Int32)).toInt64) + (1 : Int64))).toInt32), oI ((((p3.toInt64) &&& (2147483647 : Int64)) - ((p3.toInt64) &&& (2147483647 : Int64)) / (((if (p4 &&& (4 : Int32)) = (0 : Int32) then (p2 &&& (2147483647 : Int32)) else (0 : Int32)).toInt64) + (1 : Int64)) * (((if (p4 &&& (4 : Int32)) = (0 : Int32) then (p2 &&& (2147483647 : Int32)) else (0 : Int32)).toInt64) + (1 : Int64))).toInt32), .unset, .unset, .unset, .unset, .unset, .unset, .unset, .unset, .unset] [(.int (p4 &&& (2 : Int32)))])) t
    by_cases hc66_5 : (p4 &&& (2 : Int32)) = (0 : Int32)
    · refine XS.ifYes X0.here hx rfl (pc0 := 66) (pc' := 73) rfl (hb hby at_66) rfl ((if0 _ _).trans (teq hc66_5).1) (by decide) (by decide) ?_
      rw [if_pos hc66_5] at k
      exact k
    · refine XS.ifNo X0.here hx rfl (hb hby at_66) rfl ((if0 _ _).trans (feq hc66_5).1) ?_
      show Steps p.tables e below (s₁.setTop (mkF m 69 #[oI p0, oI p1, oI p2, oI p3, oI p4, oI (if (p4 &&& (1 : Int32)) = (0 : Int32) then (p0 &&& (2147483647 : Int32)) else (0 : Int32)), oI (if (p4 &&& (4 : Int32)) = (0 : Int32) then (p2 &&& (2147483647 : Int32)) else (0 : Int32)), oI ((((p1.toInt64) &&& (2147483647 : Int64)) - ((p1.toInt64) &&& (2147483647 : Int64)) / (((if (p4 &&& (1 : Int32)) = (0 : Int32) then (p0 &&& (2147483647 : Int32)) else (0 : Int32)).toInt64) + (1 : Int64)) * (((if (p4 &&& (1 : Int32)) = (0 : Int32) then (p0 &&& (2147483647 : Int32)) else (0 : Int32)).toInt64) + (1 : Int64))).toInt32), oI ((((p3.toInt64) &&& (2147483647 : Int64)) - ((p3.toInt64) &&& (2147483647 : Int64)) / (((if (p4 &&& (4 : Int32)) = (0 : Int32) then (p2 &&& (2147483647 : Int32)) else (0 : Int32)).toInt64) + (1 : Int64)) * (((if (p4 &&& (4 : Int32)) = (0 : Int32) then (p2 &&& (2147483647 : Int32)) else (0 : Int32)).toInt64) + (1 : Int64))).toInt32), .unset, .unset, .unset, .unset, .unset, .unset, .unset, .unset, .unset] [])) t
      refine XS.iload X0.here hx rfl (hb hby at_69) rfl ?_
      show Steps p.tables e below (s₁.setTop (mkF m 71 #[oI p0, oI p1, oI p2, oI p3, oI p4, oI (if (p4 &&& (1 : Int32)) = (0 : Int32) then (p0 &&& (2147483647 : Int32)) else (0 : Int32)), oI (if (p4 &&& (4 : Int32)) = (0 : Int32) then (p2 &&& (2147483647 : Int32)) else (0 : Int32)), oI ((((p1.toInt64) &&& (2147483647 : Int64)) - ((p1.toInt64) &&& (2147483647 : Int64)) / (((if (p4 &&& (1 : Int32)) = (0 : Int32) then (p0 &&& (2147483647 : Int32)) else (0 : Int32)).toInt64) + (1 : Int64)) * (((if (p4 &&& (1 : Int32)) = (0 : Int32) then (p0 &&& (2147483647 : Int32)) else (0 : Int32)).toInt64) + (1 : Int64))).toInt32), oI ((((p3.toInt64) &&& (2147483647 : Int64)) - ((p3.toInt64) &&& (2147483647 : Int64)) / (((if (p4 &&& (4 : Int32)) = (0 : Int32) then (p2 &&& (2147483647 : Int32)) else (0 : Int32)).toInt64) + (1 : Int64)) * (((if (p4 &&& (4 : Int32)) = (0 : Int32) then (p2 &&& (2147483647 : Int32)) else (0 : Int32)).toInt64) + (1 : Int64))).toInt32), .unset, .unset, .unset, .unset, .unset, .unset, .unset, .unset, .unset] [(.int (if (p4 &&& (1 : Int32)) = (0 : Int32) then (p0 &&& (2147483647 : Int32)) else (0 : Int32)))])) t
      refine XS.istore X0.here hx rfl (hb hby at_71) rfl (l' := #[oI p0, oI p1, oI p2, oI p3, oI p4, oI (if (p4 &&& (1 : Int32)) = (0 : Int32) then (p0 &&& (2147483647 : Int32)) else (0 : Int32)), oI (if (p4 &&& (4 : Int32)) = (0 : Int32) then (p2 &&& (2147483647 : Int32)) else (0 : Int32)), oI (if (p4 &&& (1 : Int32)) = (0 : Int32) then (p0 &&& (2147483647 : Int32)) else (0 : Int32)), oI ((((p3.toInt64) &&& (2147483647 : Int64)) - ((p3.toInt64) &&& (2147483647 : Int64)) / (((if (p4 &&& (4 : Int32)) = (0 : Int32) then (p2 &&& (2147483647 : Int32)) else (0 : Int32)).toInt64) + (1 : Int64)) * (((if (p4 &&& (4 : Int32)) = (0 : Int32) then (p2 &&& (2147483647 : Int32)) else (0 : Int32)).toInt64) + (1 : Int64))).toInt32), .unset, .unset, .unset, .unset, .unset, .unset, .unset, .unset, .unset]) rfl ?_
      rw [if_neg hc66_5] at k
      exact k
  refine own_via jn6 ?_
  show own_Go p e below _ (s₁.setTop (mkF m 73 #[oI p0, oI p1, oI p2, oI p3, oI p4, oI (if (p4 &&& (1 : Int32)) = (0 : Int32) then (p0 &&& (2147483647 : Int32)) else (0 : Int32)), oI (if (p4 &&& (4 : Int32)) = (0 : Int32) then (p2 &&& (2147483647 : Int32)) else (0 : Int32)), oI (if (p4 &&& (2 : Int32)) = (0 : Int32) then ((((p1.toInt64) &&& (2147483647 : Int64)) - ((p1.toInt64) &&& (2147483647 : Int64)) / (((if (p4 &&& (1 : Int32)) = (0 : Int32) then (p0 &&& (2147483647 : Int32)) else (0 : Int32)).toInt64) + (1 : Int64)) * (((if (p4 &&& (1 : Int32)) = (0 : Int32) then (p0 &&& (2147483647 : Int32)) else (0 : Int32)).toInt64) + (1 : Int64))).toInt32) else (if (p4 &&& (1 : Int32)) = (0 : Int32) then (p0 &&& (2147483647 : Int32)) else (0 : Int32))), oI ((((p3.toInt64) &&& (2147483647 : Int64)) - ((p3.toInt64) &&& (2147483647 : Int64)) / (((if (p4 &&& (4 : Int32)) = (0 : Int32) then (p2 &&& (2147483647 : Int32)) else (0 : Int32)).toInt64) + (1 : Int64)) * (((if (p4 &&& (4 : Int32)) = (0 : Int32) then (p2 &&& (2147483647 : Int32)) else (0 : Int32)).toInt64) + (1 : Int64))).toInt32), .unset, .unset, .unset, .unset, .unset, .unset, .unset, .unset, .unset] []))
  refine own_via (fun t k => XS.iload X0.here hx rfl (hb hby at_73) rfl k) ?_
  show own_Go p e below _ (s₁.setTop (mkF m 75 #[oI p0, oI p1, oI p2, oI p3, oI p4, oI (if (p4 &&& (1 : Int32)) = (0 : Int32) then (p0 &&& (2147483647 : Int32)) else (0 : Int32)), oI (if (p4 &&& (4 : Int32)) = (0 : Int32) then (p2 &&& (2147483647 : Int32)) else (0 : Int32)), oI (if (p4 &&& (2 : Int32)) = (0 : Int32) then ((((p1.toInt64) &&& (2147483647 : Int64)) - ((p1.toInt64) &&& (2147483647 : Int64)) / (((if (p4 &&& (1 : Int32)) = (0 : Int32) then (p0 &&& (2147483647 : Int32)) else (0 : Int32)).toInt64) + (1 : Int64)) * (((if (p4 &&& (1 : Int32)) = (0 : Int32) then (p0 &&& (2147483647 : Int32)) else (0 : Int32)).toInt64) + (1 : Int64))).toInt32) else (if (p4 &&& (1 : Int32)) = (0 : Int32) then (p0 &&& (2147483647 : Int32)) else (0 : Int32))), oI ((((p3.toInt64) &&& (2147483647 : Int64)) - ((p3.toInt64) &&& (2147483647 : Int64)) / (((if (p4 &&& (4 : Int32)) = (0 : Int32) then (p2 &&& (2147483647 : Int32)) else (0 : Int32)).toInt64) + (1 : Int64)) * (((if (p4 &&& (4 : Int32)) = (0 : Int32) then (p2 &&& (2147483647 : Int32)) else (0 : Int32)).toInt64) + (1 : Int64))).toInt32), .unset, .unset, .unset, .unset, .unset, .unset, .unset, .unset, .unset] [(.int p4)]))
  refine own_via (fun t k => XS.bipush X0.here hx rfl (hb hby at_75) k) ?_
  show own_Go p e below _ (s₁.setTop (mkF m 77 #[oI p0, oI p1, oI p2, oI p3, oI p4, oI (if (p4 &&& (1 : Int32)) = (0 : Int32) then (p0 &&& (2147483647 : Int32)) else (0 : Int32)), oI (if (p4 &&& (4 : Int32)) = (0 : Int32) then (p2 &&& (2147483647 : Int32)) else (0 : Int32)), oI (if (p4 &&& (2 : Int32)) = (0 : Int32) then ((((p1.toInt64) &&& (2147483647 : Int64)) - ((p1.toInt64) &&& (2147483647 : Int64)) / (((if (p4 &&& (1 : Int32)) = (0 : Int32) then (p0 &&& (2147483647 : Int32)) else (0 : Int32)).toInt64) + (1 : Int64)) * (((if (p4 &&& (1 : Int32)) = (0 : Int32) then (p0 &&& (2147483647 : Int32)) else (0 : Int32)).toInt64) + (1 : Int64))).toInt32) else (if (p4 &&& (1 : Int32)) = (0 : Int32) then (p0 &&& (2147483647 : Int32)) else (0 : Int32))), oI ((((p3.toInt64) &&& (2147483647 : Int64)) - ((p3.toInt64) &&& (2147483647 : Int64)) / (((if (p4 &&& (4 : Int32)) = (0 : Int32) then (p2 &&& (2147483647 : Int32)) else (0 : Int32)).toInt64) + (1 : Int64)) * (((if (p4 &&& (4 : Int32)) = (0 : Int32) then (p2 &&& (2147483647 : Int32)) else (0 : Int32)).toInt64) + (1 : Int64))).toInt32), .unset, .unset, .unset, .unset, .unset, .unset, .unset, .unset, .unset] [(.int (8 : Int32)), (.int p4)]))
  refine own_via (fun t k => XS.iand X0.here hx rfl (hb hby at_77) rfl k) ?_
  show own_Go p e below _ (s₁.setTop (mkF m 78 #[oI p0, oI p1, oI p2, oI p3, oI p4, oI (if (p4 &&& (1 : Int32)) = (0 : Int32) then (p0 &&& (2147483647 : Int32)) else (0 : Int32)), oI (if (p4 &&& (4 : Int32)) = (0 : Int32) then (p2 &&& (2147483647 : Int32)) else (0 : Int32)), oI (if (p4 &&& (2 : Int32)) = (0 : Int32) then ((((p1.toInt64) &&& (2147483647 : Int64)) - ((p1.toInt64) &&& (2147483647 : Int64)) / (((if (p4 &&& (1 : Int32)) = (0 : Int32) then (p0 &&& (2147483647 : Int32)) else (0 : Int32)).toInt64) + (1 : Int64)) * (((if (p4 &&& (1 : Int32)) = (0 : Int32) then (p0 &&& (2147483647 : Int32)) else (0 : Int32)).toInt64) + (1 : Int64))).toInt32) else (if (p4 &&& (1 : Int32)) = (0 : Int32) then (p0 &&& (2147483647 : Int32)) else (0 : Int32))), oI ((((p3.toInt64) &&& (2147483647 : Int64)) - ((p3.toInt64) &&& (2147483647 : Int64)) / (((if (p4 &&& (4 : Int32)) = (0 : Int32) then (p2 &&& (2147483647 : Int32)) else (0 : Int32)).toInt64) + (1 : Int64)) * (((if (p4 &&& (4 : Int32)) = (0 : Int32) then (p2 &&& (2147483647 : Int32)) else (0 : Int32)).toInt64) + (1 : Int64))).toInt32), .unset, .unset, .unset, .unset, .unset, .unset, .unset, .unset, .unset] [(.int (p4 &&& (8 : Int32)))]))
  have jn8 : ∀ t, Steps p.tables e below (s₁.setTop (mkF m 85 #[oI p0, oI p1, oI p2, oI p3, oI p4, oI (if (p4 &&& (1 : Int32)) = (0 : Int32) then (p0 &&& (2147483647 : Int32)) else (0 : Int32)), oI (if (p4 &&& (4 : Int32)) = (0 : Int32) then (p2 &&& (2147483647 : Int32)) else (0 : Int32)), oI (if (p4 &&& (2 : Int32)) = (0 : Int32) then ((((p1.toInt64) &&& (2147483647 : Int64)) - ((p1.toInt64) &&& (2147483647 : Int64)) / (((if (p4 &&& (1 : Int32)) = (0 : Int32) then (p0 &&& (2147483647 : Int32)) else (0 : Int32)).toInt64) + (1 : Int64)) * (((if (p4 &&& (1 : Int32)) = (0 : Int32) then (p0 &&& (2147483647 : Int32)) else (0 : Int32)).toInt64) + (1 : Int64))).toInt32) else (if (p4 &&& (1 : Int32)) = (0 : Int32) then (p0 &&& (2147483647 : Int32)) else (0 : Int32))), oI (if (p4 &&& (8 : Int32)) = (0 : Int32) then ((((p3.toInt64) &&& (2147483647 : Int64)) - ((p3.toInt64) &&& (2147483647 : Int64)) / (((if (p4 &&& (4 : Int32)) = (0 : Int32) then (p2 &&& (2147483647 : Int32)) else (0 : Int32)).toInt64) + (1 : Int64)) * (((if (p4 &&& (4 : Int32)) = (0 : Int32) then (p2 &&& (2147483647 : Int32)) else (0 : Int32)).toInt64) + (1 : Int64))).toInt32) else (if (p4 &&& (4 : Int32)) = (0 : Int32) then (p2 &&& (2147483647 : Int32)) else (0 : Int32))), .unset, .unset, .unset, .unset, .unset, .unset, .unset, .unset, .unset] [])) t → Steps p.tables e below (s₁.setTop (mkF m 78 #[oI p0, oI p1, oI p2, oI p3, oI p4, oI (if (p4 &&& (1 : Int32)) = (0 : Int32) then (p0 &&& (2147483647 : Int32)) else (0 : Int32)), oI (if (p4 &&& (4 : Int32)) = (0 : Int32) then (p2 &&& (2147483647 : Int32)) else (0 : Int32)), oI (if (p4 &&& (2 : Int32)) = (0 : Int32) then ((((p1.toInt64) &&& (2147483647 : Int64)) - ((p1.toInt64) &&& (2147483647 : Int64)) / (((if (p4 &&& (1 : Int32)) = (0 : Int32) then (p0 &&& (2147483647 : Int32)) else (0 : Int32)).toInt64) + (1 : Int64)) * (((if (p4 &&& (1 : Int32)) = (0 : Int32) then (p0 &&& (2147483647 : Int32)) else (0 : Int32)).toInt64) + (1 : Int64))).toInt32) else (if (p4 &&& (1 : Int32)) = (0 : Int32) then (p0 &&& (2147483647 : Int32)) else (0 : Int32))), oI ((((p3.toInt64) &&& (2147483647 : Int64)) - ((p3.toInt64) &&& (2147483647 : Int64)) / (((if (p4 &&& (4 : Int32)) = (0 : Int32) then (p2 &&& (2147483647 : Int32)) else (0 : Int32)).toInt64) + (1 : Int64)) * (((if (p4 &&& (4 : Int32)) = (0 : Int32) then (p2 &&& (2147483647 : Int32)) else (0 : Int32)).toInt64) + (1 : Int64))).toInt32), .unset, .unset, .unset, .unset, .unset, .unset, .unset, .unset, .unset] [(.int (p4 &&& (8 : Int32)))])) t := by
    intro t k
    show Steps p.tables e below (s₁.setTop (mkF m 78 #[oI p0, oI p1, oI p2, oI p3, oI p4, oI (if (p4 &&& (1 : Int32)) = (0 : Int32) then (p0 &&& (2147483647 : Int32)) else (0 : Int32)), oI (if (p4 &&& (4 : Int32)) = (0 : Int32) then (p2 &&& (2147483647 : Int32)) else (0 : Int32)), oI (if (p4 &&& (2 : Int32)) = (0 : Int32) then ((((p1.toInt64) &&& (2147483647 : Int64)) - ((p1.toInt64) &&& (2147483647 : Int64)) / (((if (p4 &&& (1 : Int32)) = (0 : Int32) then (p0 &&& (2147483647 : Int32)) else (0 : Int32)).toInt64) + (1 : Int64)) * (((if (p4 &&& (1 : Int32)) = (0 : Int32) then (p0 &&& (2147483647 : Int32)) else (0 : Int32)).toInt64) + (1 : Int64))).toInt32) else (if (p4 &&& (1 : Int32)) = (0 : Int32) then (p0 &&& (2147483647 : Int32)) else (0 : Int32))), oI ((((p3.toInt64) &&& (2147483647 : Int64)) - ((p3.toInt64) &&& (2147483647 : Int64)) / (((if (p4 &&& (4 : Int32)) = (0 : Int32) then (p2 &&& (2147483647 : Int32)) else (0 : Int32)).toInt64) + (1 : Int64)) * (((if (p4 &&& (4 : Int32)) = (0 : Int32) then (p2 &&& (2147483647 : Int32)) else (0 : Int32)).toInt64) + (1 : Int64))).toInt32), .unset, .unset, .unset, .unset, .unset, .unset, .unset, .unset, .unset] [(.int (p4 &&& (8 : Int32)))])) t
    by_cases hc78_7 : (p4 &&& (8 : Int32)) = (0 : Int32)
    · refine XS.ifYes X0.here hx rfl (pc0 := 78) (pc' := 85) rfl (hb hby at_78) rfl ((if0 _ _).trans (teq hc78_7).1) (by decide) (by decide) ?_
      rw [if_pos hc78_7] at k
      exact k
    · refine XS.ifNo X0.here hx rfl (hb hby at_78) rfl ((if0 _ _).trans (feq hc78_7).1) ?_
      show Steps p.tables e below (s₁.setTop (mkF m 81 #[oI p0, oI p1, oI p2, oI p3, oI p4, oI (if (p4 &&& (1 : Int32)) = (0 : Int32) then (p0 &&& (2147483647 : Int32)) else (0 : Int32)), oI (if (p4 &&& (4 : Int32)) = (0 : Int32) then (p2 &&& (2147483647 : Int32)) else (0 : Int32)), oI (if (p4 &&& (2 : Int32)) = (0 : Int32) then ((((p1.toInt64) &&& (2147483647 : Int64)) - ((p1.toInt64) &&& (2147483647 : Int64)) / (((if (p4 &&& (1 : Int32)) = (0 : Int32) then (p0 &&& (2147483647 : Int32)) else (0 : Int32)).toInt64) + (1 : Int64)) * (((if (p4 &&& (1 : Int32)) = (0 : Int32) then (p0 &&& (2147483647 : Int32)) else (0 : Int32)).toInt64) + (1 : Int64))).toInt32) else (if (p4 &&& (1 : Int32)) = (0 : Int32) then (p0 &&& (2147483647 : Int32)) else (0 : Int32))), oI ((((p3.toInt64) &&& (2147483647 : Int64)) - ((p3.toInt64) &&& (2147483647 : Int64)) / (((if (p4 &&& (4 : Int32)) = (0 : Int32) then (p2 &&& (2147483647 : Int32)) else (0 : Int32)).toInt64) + (1 : Int64)) * (((if (p4 &&& (4 : Int32)) = (0 : Int32) then (p2 &&& (2147483647 : Int32)) else (0 : Int32)).toInt64) + (1 : Int64))).toInt32), .unset, .unset, .unset, .unset, .unset, .unset, .unset, .unset, .unset] [])) t
      refine XS.iload X0.here hx rfl (hb hby at_81) rfl ?_
      show Steps p.tables e below (s₁.setTop (mkF m 83 #[oI p0, oI p1, oI p2, oI p3, oI p4, oI (if (p4 &&& (1 : Int32)) = (0 : Int32) then (p0 &&& (2147483647 : Int32)) else (0 : Int32)), oI (if (p4 &&& (4 : Int32)) = (0 : Int32) then (p2 &&& (2147483647 : Int32)) else (0 : Int32)), oI (if (p4 &&& (2 : Int32)) = (0 : Int32) then ((((p1.toInt64) &&& (2147483647 : Int64)) - ((p1.toInt64) &&& (2147483647 : Int64)) / (((if (p4 &&& (1 : Int32)) = (0 : Int32) then (p0 &&& (2147483647 : Int32)) else (0 : Int32)).toInt64) + (1 : Int64)) * (((if (p4 &&& (1 : Int32)) = (0 : Int32) then (p0 &&& (2147483647 : Int32)) else (0 : Int32)).toInt64) + (1 : Int64))).toInt32) else (if (p4 &&& (1 : Int32)) = (0 : Int32) then (p0 &&& (2147483647 : Int32)) else (0 : Int32))), oI ((((p3.toInt64) &&& (2147483647 : Int64)) - ((p3.toInt64) &&& (2147483647 : Int64)) / (((if (p4 &&& (4 : Int32)) = (0 : Int32) then (p2 &&& (2147483647 : Int32)) else (0 : Int32)).toInt64) + (1 : Int64)) * (((if (p4 &&& (4 : Int32)) = (0 : Int32) then (p2 &&& (2147483647 : Int32)) else (0 : Int32)).toInt64) + (1 : Int64))).toInt32), .unset, .unset, .unset, .unset, .unset, .unset, .unset, .unset, .unset] [(.int (if (p4 &&& (4 : Int32)) = (0 : Int32) then (p2 &&& (2147483647 : Int32)) else (0 : Int32)))])) t
      refine XS.istore X0.here hx rfl (hb hby at_83) rfl (l' := #[oI p0, oI p1, oI p2, oI p3, oI p4, oI (if (p4 &&& (1 : Int32)) = (0 : Int32) then (p0 &&& (2147483647 : Int32)) else (0 : Int32)), oI (if (p4 &&& (4 : Int32)) = (0 : Int32) then (p2 &&& (2147483647 : Int32)) else (0 : Int32)), oI (if (p4 &&& (2 : Int32)) = (0 : Int32) then ((((p1.toInt64) &&& (2147483647 : Int64)) - ((p1.toInt64) &&& (2147483647 : Int64)) / (((if (p4 &&& (1 : Int32)) = (0 : Int32) then (p0 &&& (2147483647 : Int32)) else (0 : Int32)).toInt64) + (1 : Int64)) * (((if (p4 &&& (1 : Int32)) = (0 : Int32) then (p0 &&& (2147483647 : Int32)) else (0 : Int32)).toInt64) + (1 : Int64))).toInt32) else (if (p4 &&& (1 : Int32)) = (0 : Int32) then (p0 &&& (2147483647 : Int32)) else (0 : Int32))), oI (if (p4 &&& (4 : Int32)) = (0 : Int32) then (p2 &&& (2147483647 : Int32)) else (0 : Int32)), .unset, .unset, .unset, .unset, .unset, .unset, .unset, .unset, .unset]) rfl ?_
      rw [if_neg hc78_7] at k
      exact k
  refine own_via jn8 ?_
  obtain ⟨hA0, hA1, hB0, hB1⟩ := own_rng p0 p1 p2 p3 p4
  generalize (if (p4 &&& (2 : Int32)) = (0 : Int32) then ((((p1.toInt64) &&& (2147483647 : Int64)) - ((p1.toInt64) &&& (2147483647 : Int64)) / (((if (p4 &&& (1 : Int32)) = (0 : Int32) then (p0 &&& (2147483647 : Int32)) else (0 : Int32)).toInt64) + (1 : Int64)) * (((if (p4 &&& (1 : Int32)) = (0 : Int32) then (p0 &&& (2147483647 : Int32)) else (0 : Int32)).toInt64) + (1 : Int64))).toInt32) else (if (p4 &&& (1 : Int32)) = (0 : Int32) then (p0 &&& (2147483647 : Int32)) else (0 : Int32))) = mA at hA0 hA1 hB0 hB1 ⊢
  generalize (if (p4 &&& (8 : Int32)) = (0 : Int32) then ((((p3.toInt64) &&& (2147483647 : Int64)) - ((p3.toInt64) &&& (2147483647 : Int64)) / (((if (p4 &&& (4 : Int32)) = (0 : Int32) then (p2 &&& (2147483647 : Int32)) else (0 : Int32)).toInt64) + (1 : Int64)) * (((if (p4 &&& (4 : Int32)) = (0 : Int32) then (p2 &&& (2147483647 : Int32)) else (0 : Int32)).toInt64) + (1 : Int64))).toInt32) else (if (p4 &&& (4 : Int32)) = (0 : Int32) then (p2 &&& (2147483647 : Int32)) else (0 : Int32))) = mB at hA0 hA1 hB0 hB1 ⊢
  generalize (if (p4 &&& (1 : Int32)) = (0 : Int32) then (p0 &&& (2147483647 : Int32)) else (0 : Int32)) = sA at hA0 hA1 hB0 hB1 ⊢
  generalize (if (p4 &&& (4 : Int32)) = (0 : Int32) then (p2 &&& (2147483647 : Int32)) else (0 : Int32)) = sB at hA0 hA1 hB0 hB1 ⊢
  show own_Go p e below _ (s₁.setTop (mkF m 85 #[oI p0, oI p1, oI p2, oI p3, oI p4, oI sA, oI sB, oI mA, oI mB, .unset, .unset, .unset, .unset, .unset, .unset, .unset, .unset, .unset] []))
  obtain ⟨T9, h9, X9, e9, E9, A9, D9, -, st9⟩ := newO X0 hx hZ hown (own_w hw 2) (own_w hw 3) (own_w hw 4) e0 (g := (mkF m 85 #[oI p0, oI p1, oI p2, oI p3, oI p4, oI sA, oI sB, oI mA, oI mB, .unset, .unset, .unset, .unset, .unset, .unset, .unset, .unset, .unset] [])) rfl (hb hby at_85) (by decide) (by decide)
  obtain ⟨a9, g9⟩ : ∃ z, z = h0.size := ⟨_, rfl⟩
  rw [← g9] at A9 D9 st9
  refine own_via st9 ?_
  have fr10 : n0 ≤ a9 := Nat.le_trans Z0 (Nat.le_of_eq g9.symm)
  have S11 := S_d.ext E9
  have Zs12 : n0 ≤ h9.size := Nat.le_trans Z0 E9.1
  have F13 : Fld Z h9 a9 "com/example/eurycleia/eurycleia/similarity/CopyReport" "sentencesA" "I" (.int (0 : Int32)) := D9 (Or.inr (own_w hw 41)) (ty := .int) (by decide)
  have F14 : Fld Z h9 a9 "com/example/eurycleia/eurycleia/similarity/CopyReport" "sentencesB" "I" (.int (0 : Int32)) := D9 (Or.inr (own_w hw 43)) (ty := .int) (by decide)
  have F15 : Fld Z h9 a9 "com/example/eurycleia/eurycleia/similarity/CopyReport" "matchedA" "I" (.int (0 : Int32)) := D9 (Or.inr (own_w hw 45)) (ty := .int) (by decide)
  have F16 : Fld Z h9 a9 "com/example/eurycleia/eurycleia/similarity/CopyReport" "matchedB" "I" (.int (0 : Int32)) := D9 (Or.inr (own_w hw 47)) (ty := .int) (by decide)
  have F17 : Fld Z h9 a9 "com/example/eurycleia/eurycleia/similarity/CopyReport" "bestMatches" "Ljava/util/List;" .null := D9 (Or.inr (own_w hw 49)) (ty := (.object "java/util/List")) (by decide)
  have F18 : Fld Z h9 a9 "com/example/eurycleia/eurycleia/similarity/CopyReport" "matches" "Ljava/util/List;" .null := D9 (Or.inr (own_w hw 51)) (ty := (.object "java/util/List")) (by decide)
  show own_Go p e below _ (T9.setTop (mkF m 88 #[oI p0, oI p1, oI p2, oI p3, oI p4, oI sA, oI sB, oI mA, oI mB, .unset, .unset, .unset, .unset, .unset, .unset, .unset, .unset, .unset] [(.ref a9)]))
  refine own_via (fun t k => XS.dup X9.here hx rfl (hb hby at_88) rfl rfl k) ?_
  show own_Go p e below _ (T9.setTop (mkF m 89 #[oI p0, oI p1, oI p2, oI p3, oI p4, oI sA, oI sB, oI mA, oI mB, .unset, .unset, .unset, .unset, .unset, .unset, .unset, .unset, .unset] [(.ref a9), (.ref a9)]))
  refine own_via (fun t k => XS.iload X9.here hx rfl (hb hby at_89) rfl k) ?_
  show own_Go p e below _ (T9.setTop (mkF m 91 #[oI p0, oI p1, oI p2, oI p3, oI p4, oI sA, oI sB, oI mA, oI mB, .unset, .unset, .unset, .unset, .unset, .unset, .unset, .unset, .unset] [(.int sA), (.ref a9), (.ref a9)]))
  refine own_via (fun t k => XS.iload X9.here hx rfl (hb hby at_91) rfl k) ?_
  show own_Go p e below _ (T9.setTop (mkF m 93 #[oI p0, oI p1, oI p2, oI p3, oI p4, oI sA, oI sB, oI mA, oI mB, .unset, .unset, .unset, .unset, .unset, .unset, .unset, .unset, .unset] [(.int sB), (.int sA), (.ref a9), (.ref a9)]))
  refine own_via (fun t k => XS.iload X9.here hx rfl (hb hby at_93) rfl k) ?_
  show own_Go p e below _ (T9.setTop (mkF m 95 #[oI p0, oI p1, oI p2, oI p3, oI p4, oI sA, oI sB, oI mA, oI mB, .unset, .unset, .unset, .unset, .unset, .unset, .unset, .unset, .unset] [(.int mA), (.int sB), (.int sA), (.ref a9), (.ref a9)]))
  refine own_via (fun t k => XS.iload X9.here hx rfl (hb hby at_95) rfl k) ?_
  show own_Go p e below _ (T9.setTop (mkF m 97 #[oI p0, oI p1, oI p2, oI p3, oI p4, oI sA, oI sB, oI mA, oI mB, .unset, .unset, .unset, .unset, .unset, .unset, .unset, .unset, .unset] [(.int mB), (.int mA), (.int sB), (.int sA), (.ref a9), (.ref a9)]))
  obtain ⟨T19, h19, X19, e19, E19, A19, D19, -, st19⟩ := newO X9 hx hZ hown (own_w hw 5) (own_w hw 6) (own_w hw 7) e9 (g := (mkF m 97 #[oI p0, oI p1, oI p2, oI p3, oI p4, oI sA, oI sB, oI mA, oI mB, .unset, .unset, .unset, .unset, .unset, .unset, .unset, .unset, .unset] [(.int mB), (.int mA), (.int sB), (.int sA), (.ref a9), (.ref a9)])) rfl (hb hby at_97) (by decide) (by decide)
  obtain ⟨a19, g19⟩ : ∃ z, z = h9.size := ⟨_, rfl⟩
  rw [← g19] at A19 D19 st19
  refine own_via st19 ?_
  have lt20 : a9 < a19 := Nat.lt_of_lt_of_le A9.lt (Nat.le_of_eq g19.symm)
  have fr21 : n0 ≤ a19 := Nat.le_trans Zs12 (Nat.le_of_eq g19.symm)
  have S22 := S11.ext E19
  have E23 := A9.ext E19
  have F24 := F13.ext E19
  have F25 := F14.ext E19
  have F26 := F15.ext E19
  have F27 := F16.ext E19
  have F28 := F17.ext E19
  have F29 := F18.ext E19
  have Zs30 : n0 ≤ h19.size := Nat.le_trans Zs12 E19.1
  have F31 : Fld Z h19 a19 "java/util/AbstractList" "modCount" "I" (.int (0 : Int32)) := D19 (Or.inl (own_w hw 27)) (ty := .int) (by decide)
  have F32 : Fld Z h19 a19 "java/util/ArrayList" "elementData" "[Ljava/lang/Object;" .null := D19 (Or.inl (own_w hw 30)) (ty := (.array (.object "java/lang/Object"))) (by decide)
  show own_Go p e below _ (T19.setTop (mkF m 100 #[oI p0, oI p1, oI p2, oI p3, oI p4, oI sA, oI sB, oI mA, oI mB, .unset, .unset, .unset, .unset, .unset, .unset, .unset, .unset, .unset] [(.ref a19), (.int mB), (.int mA), (.int sB), (.int sA), (.ref a9), (.ref a9)]))
  refine own_via (fun t k => XS.dup X19.here hx rfl (hb hby at_100) rfl rfl k) ?_
  show own_Go p e below _ (T19.setTop (mkF m 101 #[oI p0, oI p1, oI p2, oI p3, oI p4, oI sA, oI sB, oI mA, oI mB, .unset, .unset, .unset, .unset, .unset, .unset, .unset, .unset, .unset] [(.ref a19), (.ref a19), (.int mB), (.int mA), (.int sB), (.int sA), (.ref a9), (.ref a9)]))
  obtain ⟨_, _, ⟨T33, L33, k33, n33⟩, -, X33, ⟨Lc33, hQ33, l33, y33, z33⟩, st33⟩ := X19.specialBack hx (y := (⟨"java/util/ArrayList", "<init>", "()V"⟩ : MethodName)) rfl hown (mvT hZ (own_w hw 8)) (mvT hZ (own_w hw 9)) (mvT hZ (own_w hw 10)) (by decide) (backOf (W := 7) (rm1 l Z a0 hw [] a19 wd h19 n0 Zs30 fr21 A19 F31 F32 S22) hZ (own_w hw 10) (own_w hw 7) (by decide) (by decide)) (g := (mkF m 101 #[oI p0, oI p1, oI p2, oI p3, oI p4, oI sA, oI sB, oI mA, oI mB, .unset, .unset, .unset, .unset, .unset, .unset, .unset, .unset, .unset] [(.ref a19), (.ref a19), (.int mB), (.int mA), (.int sB), (.int sA), (.ref a9), (.ref a9)])) rfl (by rw [hml]; rfl) (Steps.refl _) (a := a19) (argsL := []) (rest := [(.ref a19), (.int mB), (.int mA), (.int sB), (.int sA), (.ref a9), (.ref a9)]) (lenOf pd_0_0 rfl) rfl (by show 2 * 0 + _ ≤ _; exact Nat.le_of_eq rfl) (hb hby at_101) (fun _ _ => ⟨rfl, e19, (by decide : 2 + 0 ≤ _), (by decide : 9 + 0 ≤ _)⟩)
  dsimp only [Pt.U, Pt.locs, Pt.cells, Pt.slots] at X33 l33 y33 z33 st33 hQ33
  subst l33 y33 z33
  obtain ⟨rfl, Nq33, Kc33, Sd33⟩ := hQ33
  have N34 := Fr.app N0 Nq33
  refine own_tr st33 ?_
  have E35 := E23.keep Kc33
  have F36 := F24.keep Kc33 (ninS (Nat.ne_of_lt lt20) nin0)
  have F37 := F25.keep Kc33 (ninS (Nat.ne_of_lt lt20) nin0)
  have F38 := F26.keep Kc33 (ninS (Nat.ne_of_lt lt20) nin0)
  have F39 := F27.keep Kc33 (ninS (Nat.ne_of_lt lt20) nin0)
  have F40 := F28.keep Kc33 (ninS (Nat.ne_of_lt lt20) nin0)
  have F41 := F29.keep Kc33 (ninS (Nat.ne_of_lt lt20) nin0)
  have E42 := A19.keep Kc33
  have Zs43 : n0 ≤ T33.heap.size := Nat.le_trans Zs30 Kc33.1
  show own_Go p e below _ (T33.setTop (mkF m 104 #[oI p0, oI p1, oI p2, oI p3, oI p4, oI sA, oI sB, oI mA, oI mB, .unset, .unset, .unset, .unset, .unset, .unset, .unset, .unset, .unset] [(.ref a19), (.int mB), (.int mA), (.int sB), (.int sA), (.ref a9), (.ref a9)]))
  obtain ⟨T44, h44, X44, e44, E44, A44, D44, -, st44⟩ := newO X33 hx hZ hown (own_w hw 5) (own_w hw 6) (own_w hw 7) rfl (g := (mkF m 104 #[oI p0, oI p1, oI p2, oI p3, oI p4, oI sA, oI sB, oI mA, oI mB, .unset, .unset, .unset, .unset, .unset, .unset, .unset, .unset, .unset] [(.ref a19), (.int mB), (.int mA), (.int sB), (.int sA), (.ref a9), (.ref a9)])) rfl (hb hby at_104) (by decide) (by decide)
  obtain ⟨a44, g44⟩ : ∃ z, z = T33.heap.size := ⟨_, rfl⟩
  rw [← g44] at A44 D44 st44
  refine own_via st44 ?_
  have lt45 : a9 < a44 := Nat.lt_of_lt_of_le E35.lt (Nat.le_of_eq g44.symm)
  have lt46 : a19 < a44 := Nat.lt_of_lt_of_le E42.lt (Nat.le_of_eq g44.symm)
  have fr47 : n0 ≤ a44 := Nat.le_trans Zs43 (Nat.le_of_eq g44.symm)
  have E48 := E35.ext E44
  have F49 := F36.ext E44
  have F50 := F37.ext E44
  have F51 := F38.ext E44
  have F52 := F39.ext E44
  have F53 := F40.ext E44
  have F54 := F41.ext E44
  have E55 := E42.ext E44
  have S56 := Sd33.ext E44
  have Zs57 : n0 ≤ h44.size := Nat.le_trans Zs43 E44.1
  have F58 : Fld Z h44 a44 "java/util/AbstractList" "modCount" "I" (.int (0 : Int32)) := D44 (Or.inl (own_w hw 27)) (ty := .int) (by decide)
  have F59 : Fld Z h44 a44 "java/util/ArrayList" "elementData" "[Ljava/lang/Object;" .null := D44 (Or.inl (own_w hw 30)) (ty := (.array (.object "java/lang/Object"))) (by decide)
  show own_Go p e below _ (T44.setTop (mkF m 107 #[oI p0, oI p1, oI p2, oI p3, oI p4, oI sA, oI sB, oI mA, oI mB, .unset, .unset, .unset, .unset, .unset, .unset, .unset, .unset, .unset] [(.ref a44), (.ref a19), (.int mB), (.int mA), (.int sB), (.int sA), (.ref a9), (.ref a9)]))
  refine own_via (fun t k => XS.dup X44.here hx rfl (hb hby at_107) rfl rfl k) ?_
  show own_Go p e below _ (T44.setTop (mkF m 108 #[oI p0, oI p1, oI p2, oI p3, oI p4, oI sA, oI sB, oI mA, oI mB, .unset, .unset, .unset, .unset, .unset, .unset, .unset, .unset, .unset] [(.ref a44), (.ref a44), (.ref a19), (.int mB), (.int mA), (.int sB), (.int sA), (.ref a9), (.ref a9)]))
  obtain ⟨_, _, ⟨T60, L60, k60, n60⟩, -, X60, ⟨Lc60, hQ60, l60, y60, z60⟩, st60⟩ := X44.specialBack hx (y := (⟨"java/util/ArrayList", "<init>", "()V"⟩ : MethodName)) rfl hown (mvT hZ (own_w hw 8)) (mvT hZ (own_w hw 9)) (mvT hZ (own_w hw 10)) (by decide) (backOf (W := 8) (rm1 l Z a0 hw [] a44 wd h44 n0 Zs57 fr47 A44 F58 F59 S56) hZ (own_w hw 10) (own_w hw 7) (by decide) (by decide)) (g := (mkF m 108 #[oI p0, oI p1, oI p2, oI p3, oI p4, oI sA, oI sB, oI mA, oI mB, .unset, .unset, .unset, .unset, .unset, .unset, .unset, .unset, .unset] [(.ref a44), (.ref a44), (.ref a19), (.int mB), (.int mA), (.int sB), (.int sA), (.ref a9), (.ref a9)])) rfl (by rw [hml]; rfl) (Steps.refl _) (a := a44) (argsL := []) (rest := [(.ref a44), (.ref a19), (.int mB), (.int mA), (.int sB), (.int sA), (.ref a9), (.ref a9)]) (lenOf pd_0_0 rfl) rfl (by show 2 * 0 + _ ≤ _; exact Nat.le_of_eq rfl) (hb hby at_108) (fun _ _ => ⟨rfl, e44, (by decide : 3 + 0 ≤ _), (by decide : 12 + 0 ≤ _)⟩)
  dsimp only [Pt.U, Pt.locs, Pt.cells, Pt.slots] at X60 l60 y60 z60 st60 hQ60
  subst l60 y60 z60
  obtain ⟨rfl, Nq60, Kc60, Sd60⟩ := hQ60
  have N61 := Fr.app N34 Nq60
  refine own_tr st60 ?_
  have E62 := E48.keep Kc60
  have F63 := F49.keep Kc60 (ninS (Nat.ne_of_lt lt45) nin0)
  have F64 := F50.keep Kc60 (ninS (Nat.ne_of_lt lt45) nin0)
  have F65 := F51.keep Kc60 (ninS (Nat.ne_of_lt lt45) nin0)
  have F66 := F52.keep Kc60 (ninS (Nat.ne_of_lt lt45) nin0)
  have F67 := F53.keep Kc60 (ninS (Nat.ne_of_lt lt45) nin0)
  have F68 := F54.keep Kc60 (ninS (Nat.ne_of_lt lt45) nin0)
  have E69 := E55.keep Kc60
  have E70 := A44.keep Kc60
  have Zs71 : n0 ≤ T60.heap.size := Nat.le_trans Zs57 Kc60.1
  show own_Go p e below _ (T60.setTop (mkF m 111 #[oI p0, oI p1, oI p2, oI p3, oI p4, oI sA, oI sB, oI mA, oI mB, .unset, .unset, .unset, .unset, .unset, .unset, .unset, .unset, .unset] [(.ref a44), (.ref a19), (.int mB), (.int mA), (.int sB), (.int sA), (.ref a9), (.ref a9)]))
  obtain ⟨_, _, ⟨T72, L72, k72, n72⟩, -, X72, ⟨Lc72, hQ72, l72, y72, z72⟩, st72⟩ := X60.specialBack hx (y := (⟨"com/example/eurycleia/eurycleia/similarity/CopyReport", "<init>", "(IIIILjava/util/List;Ljava/util/List;)V"⟩ : MethodName)) rfl hown (mvT hZ (own_w hw 31)) (mvT hZ (own_w hw 32)) (mvT hZ (own_w hw 33)) (by decide) (backOf (W := 1) (rm5 l Z a0 hw [] a9 sA sB mA mB a19 a44 T60.heap n0 Zs71 fr10 E62 F63 F64 F65 F66 F67 F68) hZ (own_w hw 33) (own_w hw 4) (by decide) (by decide)) (g := (mkF m 111 #[oI p0, oI p1, oI p2, oI p3, oI p4, oI sA, oI sB, oI mA, oI mB, .unset, .unset, .unset, .unset, .unset, .unset, .unset, .unset, .unset] [(.ref a44), (.ref a19), (.int mB), (.int mA), (.int sB), (.int sA), (.ref a9), (.ref a9)])) rfl (by rw [hml]; rfl) (Steps.refl _) (a := a9) (argsL := [(.int sA), (.int sB), (.int mA), (.int mB), (.ref a19), (.ref a44)]) (rest := [(.ref a9)]) (lenOf pd_0_1 rfl) rfl (by show 2 * 0 + _ ≤ _; exact Nat.le_of_eq rfl) (hb hby at_111) (fun _ _ => ⟨rfl, rfl, (by decide : 3 + 0 ≤ _), (by decide : 12 + 0 ≤ _)⟩)
  dsimp only [Pt.U, Pt.locs, Pt.cells, Pt.slots] at X72 l72 y72 z72 st72 hQ72
  subst l72 y72 z72
  obtain ⟨rfl, Nq72, Kc72, Fc0_72, Fc1_72, Fc2_72, Fc3_72⟩ := hQ72
  have N73 := Fr.app N61 Nq72
  refine own_tr st72 ?_
  have E74 := E62.keep Kc72
  have E75 := E69.keep Kc72
  have E76 := E70.keep Kc72
  have Zs77 : n0 ≤ T72.heap.size := Nat.le_trans Zs71 Kc72.1
  show own_Go p e below _ (T72.setTop (mkF m 114 #[oI p0, oI p1, oI p2, oI p3, oI p4, oI sA, oI sB, oI mA, oI mB, .unset, .unset, .unset, .unset, .unset, .unset, .unset, .unset, .unset] [(.ref a9)]))
  refine own_via (fun t k => XS.astore X72.here hx rfl (hb hby at_114) rfl rfl (l' := #[oI p0, oI p1, oI p2, oI p3, oI p4, oI sA, oI sB, oI mA, oI mB, oR a9, .unset, .unset, .unset, .unset, .unset, .unset, .unset, .unset]) rfl k) ?_
  show own_Go p e below _ (T72.setTop (mkF m 116 #[oI p0, oI p1, oI p2, oI p3, oI p4, oI sA, oI sB, oI mA, oI mB, oR a9, .unset, .unset, .unset, .unset, .unset, .unset, .unset, .unset] []))
  refine own_via (fun t k => XS.aload X72.here hx rfl (hb hby at_116) rfl rfl k) ?_
  show own_Go p e below _ (T72.setTop (mkF m 118 #[oI p0, oI p1, oI p2, oI p3, oI p4, oI sA, oI sB, oI mA, oI mB, oR a9, .unset, .unset, .unset, .unset, .unset, .unset, .unset, .unset] [(.ref a9)]))
  by_cases hc118_78 : ((sA.toInt64) * (sB.toInt64)) = (0 : Int64)
  · obtain ⟨cq79, kq79, qa79, qb79, qc79⟩ := isOf hZ rfl E74
    obtain ⟨_, _, ⟨T79, L79, k79, n79⟩, -, X79, ⟨Lc79, hQ79, l79, y79, z79⟩, st79⟩ := X72.virtualBack hx (y := (⟨"com/example/eurycleia/eurycleia/similarity/CopyReport", "oddsRatio", "()D"⟩ : MethodName)) (z := (⟨"com/example/eurycleia/eurycleia/similarity/CopyReport", "oddsRatio", "()D"⟩ : MethodName)) hown (mvT hZ (own_w hw 52)) (mvT hZ (own_w hw 53)) (notFace_of_selects (args := #[]) (mvT hZ (own_w hw 55))) (mvT hZ (own_w hw 55)) (mvT hZ (own_w hw 54)) (by decide) (backOf (W := 0) (rm7 l Z a0 hw [] a9 mA mB sA sB (FP.l2d (0 : Int64)) T72.heap n0 Zs77 Fc2_72 Fc3_72 Fc0_72 Fc1_72 (by unfold f7; rw [if_pos hc118_78])) hZ (own_w hw 56) (own_w hw 4) (by decide) (by decide)) qa79 qc79 (g := (mkF m 118 #[oI p0, oI p1, oI p2, oI p3, oI p4, oI sA, oI sB, oI mA, oI mB, oR a9, .unset, .unset, .unset, .unset, .unset, .unset, .unset, .unset] [(.ref a9)])) rfl (by rw [hml]; rfl) (Steps.refl _) (argsL := []) (rest := []) (lenOf pd_0_2 rfl) rfl (by show 2 * 0 + _ ≤ _; exact Nat.le_of_eq rfl) (hb hby at_118) (fun _ _ => ⟨rfl, rfl, (by decide : 3 + 0 ≤ _), (by decide : 12 + 0 ≤ _)⟩)
    dsimp only [Pt.U, Pt.locs, Pt.cells, Pt.slots] at X79 l79 y79 z79 st79 hQ79
    subst l79 y79 z79
    obtain ⟨rfl, Nq79, e79⟩ := hQ79
    have N80 := Fr.app N73 Nq79
    refine own_tr st79 ?_
    show own_Go p e below _ (T79.setTop (mkF m 121 #[oI p0, oI p1, oI p2, oI p3, oI p4, oI sA, oI sB, oI mA, oI mB, oR a9, .unset, .unset, .unset, .unset, .unset, .unset, .unset, .unset] [(.double (FP.l2d (0 : Int64)))]))
    refine own_via (fun t k => XS.dstore X79.here hx rfl (hb hby at_121) rfl (l' := #[oI p0, oI p1, oI p2, oI p3, oI p4, oI sA, oI sB, oI mA, oI mB, oR a9, oD (FP.l2d (0 : Int64)), .second, .unset, .unset, .unset, .unset, .unset, .unset]) rfl k) ?_
    show own_Go p e below _ (T79.setTop (mkF m 123 #[oI p0, oI p1, oI p2, oI p3, oI p4, oI sA, oI sB, oI mA, oI mB, oR a9, oD (FP.l2d (0 : Int64)), .second, .unset, .unset, .unset, .unset, .unset, .unset] []))
    refine own_via (fun t k => XS.iload X79.here hx rfl (hb hby at_123) rfl k) ?_
    show own_Go p e below _ (T79.setTop (mkF m 125 #[oI p0, oI p1, oI p2, oI p3, oI p4, oI sA, oI sB, oI mA, oI mB, oR a9, oD (FP.l2d (0 : Int64)), .second, .unset, .unset, .unset, .unset, .unset, .unset] [(.int sA)]))
    by_cases hc125_81 : sA = (0 : Int32)
    · refine own_via (fun t k => XS.ifYes X79.here hx rfl (pc0 := 125) (pc' := 133) rfl (hb hby at_125) rfl ((if0 _ _).trans (teq hc125_81).1) (by decide) (by decide) k) ?_
      show own_Go p e below _ (T79.setTop (mkF m 133 #[oI p0, oI p1, oI p2, oI p3, oI p4, oI sA, oI sB, oI mA, oI mB, oR a9, oD (FP.l2d (0 : Int64)), .second, .unset, .unset, .unset, .unset, .unset, .unset] []))
      refine own_via (fun t k => XS.dconst0 X79.here hx rfl (hb hby at_133) (v := (FP.l2d (0 : Int64))) own_dconst0 k) ?_
      show own_Go p e below _ (T79.setTop (mkF m 134 #[oI p0, oI p1, oI p2, oI p3, oI p4, oI sA, oI sB, oI mA, oI mB, oR a9, oD (FP.l2d (0 : Int64)), .second, .unset, .unset, .unset, .unset, .unset, .unset] [(.double (FP.l2d (0 : Int64)))]))
      refine own_via (fun t k => XS.dstore X79.here hx rfl (hb hby at_134) rfl (l' := #[oI p0, oI p1, oI p2, oI p3, oI p4, oI sA, oI sB, oI mA, oI mB, oR a9, oD (FP.l2d (0 : Int64)), .second, oD (FP.l2d (0 : Int64)), .second, .unset, .unset, .unset, .unset]) rfl k) ?_
      show own_Go p e below _ (T79.setTop (mkF m 136 #[oI p0, oI p1, oI p2, oI p3, oI p4, oI sA, oI sB, oI mA, oI mB, oR a9, oD (FP.l2d (0 : Int64)), .second, oD (FP.l2d (0 : Int64)), .second, .unset, .unset, .unset, .unset] []))
      refine own_via (fun t k => XS.goto X79.here hx rfl (pc0 := 136) (pc' := 202) rfl (hb hby at_136) (by decide) (by decide) k) ?_
      show own_Go p e below _ (T79.setTop (mkF m 202 #[oI p0, oI p1, oI p2, oI p3, oI p4, oI sA, oI sB, oI mA, oI mB, oR a9, oD (FP.l2d (0 : Int64)), .second, oD (FP.l2d (0 : Int64)), .second, .unset, .unset, .unset, .unset] []))
      refine own_via (fun t k => XS.dload X79.here hx rfl (hb hby at_202) rfl k) ?_
      show own_Go p e below _ (T79.setTop (mkF m 204 #[oI p0, oI p1, oI p2, oI p3, oI p4, oI sA, oI sB, oI mA, oI mB, oR a9, oD (FP.l2d (0 : Int64)), .second, oD (FP.l2d (0 : Int64)), .second, .unset, .unset, .unset, .unset] [(.double (FP.l2d (0 : Int64)))]))
      refine own_via (fun t k => XS.dload X79.here hx rfl (hb hby at_204) rfl k) ?_
      show own_Go p e below _ (T79.setTop (mkF m 206 #[oI p0, oI p1, oI p2, oI p3, oI p4, oI sA, oI sB, oI mA, oI mB, oR a9, oD (FP.l2d (0 : Int64)), .second, oD (FP.l2d (0 : Int64)), .second, .unset, .unset, .unset, .unset] [(.double (FP.l2d (0 : Int64))), (.double (FP.l2d (0 : Int64)))]))
      refine own_via (fun t k => XS.dcmpS X79.here hx rfl (hb hby at_206) rfl (dcmpV_self (l2d_fin _).noNaN .l) k) ?_
      show own_Go p e below _ (T79.setTop (mkF m 207 #[oI p0, oI p1, oI p2, oI p3, oI p4, oI sA, oI sB, oI mA, oI mB, oR a9, oD (FP.l2d (0 : Int64)), .second, oD (FP.l2d (0 : Int64)), .second, .unset, .unset, .unset, .unset] [(.int (0 : Int32))]))
      refine own_via (fun t k => XS.ifNo X79.here hx rfl (hb hby at_207) rfl ((if0 _ _).trans (teq (by decide : (0 : Int32) = (0 : Int32))).2) k) ?_
      show own_Go p e below _ (T79.setTop (mkF m 210 #[oI p0, oI p1, oI p2, oI p3, oI p4, oI sA, oI sB, oI mA, oI mB, oR a9, oD (FP.l2d (0 : Int64)), .second, oD (FP.l2d (0 : Int64)), .second, .unset, .unset, .unset, .unset] []))
      refine own_via (fun t k => XS.iconst X79.here hx rfl (hb hby at_210) k) ?_
      show own_Go p e below _ (T79.setTop (mkF m 211 #[oI p0, oI p1, oI p2, oI p3, oI p4, oI sA, oI sB, oI mA, oI mB, oR a9, oD (FP.l2d (0 : Int64)), .second, oD (FP.l2d (0 : Int64)), .second, .unset, .unset, .unset, .unset] [(.int (1 : Int32))]))
      refine own_via (fun t k => XS.goto X79.here hx rfl (pc0 := 211) (pc' := 215) rfl (hb hby at_211) (by decide) (by decide) k) ?_
      show own_Go p e below _ (T79.setTop (mkF m 215 #[oI p0, oI p1, oI p2, oI p3, oI p4, oI sA, oI sB, oI mA, oI mB, oR a9, oD (FP.l2d (0 : Int64)), .second, oD (FP.l2d (0 : Int64)), .second, .unset, .unset, .unset, .unset] [(.int (1 : Int32))]))
      obtain ⟨fs, hr, hrun, hended, hW, hsame⟩ := X79.leave (v := some (.int (1 : Int32))) (fun h => by rw [Bd.returns] at h; cases h)
      refine ⟨_, _, retN X79 hx (t := .boolean) Bd.returns (by simp) (hb hby at_215) hr, hrun, hended, _, _, rfl, ?_, ⟨_, rfl⟩, hW, hsame.mono (by decide) (by decide)⟩
      show Q0 Z p0 p1 p2 p3 p4 wd h0 n0 _ T79.heap _
      rw [e79]
      exact ⟨rfl, N80⟩
    · refine own_via (fun t k => XS.ifNo X79.here hx rfl (hb hby at_125) rfl ((if0 _ _).trans (feq hc125_81).1) k) ?_
      show own_Go p e below _ (T79.setTop (mkF m 128 #[oI p0, oI p1, oI p2, oI p3, oI p4, oI sA, oI sB, oI mA, oI mB, oR a9, oD (FP.l2d (0 : Int64)), .second, .unset, .unset, .unset, .unset, .unset, .unset] []))
      refine own_via (fun t k => XS.iload X79.here hx rfl (hb hby at_128) rfl k) ?_
      show own_Go p e below _ (T79.setTop (mkF m 130 #[oI p0, oI p1, oI p2, oI p3, oI p4, oI sA, oI sB, oI mA, oI mB, oR a9, oD (FP.l2d (0 : Int64)), .second, .unset, .unset, .unset, .unset, .unset, .unset] [(.int sB)]))
      refine own_via (fun t k => XS.ifNo X79.here hx rfl (hb hby at_130) rfl ((if0 _ _).trans (teq (own_sb0 sA sB mA mB hA0 hA1 hB0 hB1 hc118_78 hc125_81)).2) k) ?_
      show own_Go p e below _ (T79.setTop (mkF m 133 #[oI p0, oI p1, oI p2, oI p3, oI p4, oI sA, oI sB, oI mA, oI mB, oR a9, oD (FP.l2d (0 : Int64)), .second, .unset, .unset, .unset, .unset, .unset, .unset] []))
      refine own_via (fun t k => XS.dconst0 X79.here hx rfl (hb hby at_133) (v := (FP.l2d (0 : Int64))) own_dconst0 k) ?_
      show own_Go p e below _ (T79.setTop (mkF m 134 #[oI p0, oI p1, oI p2, oI p3, oI p4, oI sA, oI sB, oI mA, oI mB, oR a9, oD (FP.l2d (0 : Int64)), .second, .unset, .unset, .unset, .unset, .unset, .unset] [(.double (FP.l2d (0 : Int64)))]))
      refine own_via (fun t k => XS.dstore X79.here hx rfl (hb hby at_134) rfl (l' := #[oI p0, oI p1, oI p2, oI p3, oI p4, oI sA, oI sB, oI mA, oI mB, oR a9, oD (FP.l2d (0 : Int64)), .second, oD (FP.l2d (0 : Int64)), .second, .unset, .unset, .unset, .unset]) rfl k) ?_
      show own_Go p e below _ (T79.setTop (mkF m 136 #[oI p0, oI p1, oI p2, oI p3, oI p4, oI sA, oI sB, oI mA, oI mB, oR a9, oD (FP.l2d (0 : Int64)), .second, oD (FP.l2d (0 : Int64)), .second, .unset, .unset, .unset, .unset] []))
      refine own_via (fun t k => XS.goto X79.here hx rfl (pc0 := 136) (pc' := 202) rfl (hb hby at_136) (by decide) (by decide) k) ?_
      show own_Go p e below _ (T79.setTop (mkF m 202 #[oI p0, oI p1, oI p2, oI p3, oI p4, oI sA, oI sB, oI mA, oI mB, oR a9, oD (FP.l2d (0 : Int64)), .second, oD (FP.l2d (0 : Int64)), .second, .unset, .unset, .unset, .unset] []))
      refine own_via (fun t k => XS.dload X79.here hx rfl (hb hby at_202) rfl k) ?_
      show own_Go p e below _ (T79.setTop (mkF m 204 #[oI p0, oI p1, oI p2, oI p3, oI p4, oI sA, oI sB, oI mA, oI mB, oR a9, oD (FP.l2d (0 : Int64)), .second, oD (FP.l2d (0 : Int64)), .second, .unset, .unset, .unset, .unset] [(.double (FP.l2d (0 : Int64)))]))
      refine own_via (fun t k => XS.dload X79.here hx rfl (hb hby at_204) rfl k) ?_
      show own_Go p e below _ (T79.setTop (mkF m 206 #[oI p0, oI p1, oI p2, oI p3, oI p4, oI sA, oI sB, oI mA, oI mB, oR a9, oD (FP.l2d (0 : Int64)), .second, oD (FP.l2d (0 : Int64)), .second, .unset, .unset, .unset, .unset] [(.double (FP.l2d (0 : Int64))), (.double (FP.l2d (0 : Int64)))]))
      refine own_via (fun t k => XS.dcmpS X79.here hx rfl (hb hby at_206) rfl (dcmpV_self (l2d_fin _).noNaN .l) k) ?_
      show own_Go p e below _ (T79.setTop (mkF m 207 #[oI p0, oI p1, oI p2, oI p3, oI p4, oI sA, oI sB, oI mA, oI mB, oR a9, oD (FP.l2d (0 : Int64)), .second, oD (FP.l2d (0 : Int64)), .second, .unset, .unset, .unset, .unset] [(.int (0 : Int32))]))
      refine own_via (fun t k => XS.ifNo X79.here hx rfl (hb hby at_207) rfl ((if0 _ _).trans (teq (by decide : (0 : Int32) = (0 : Int32))).2) k) ?_
      show own_Go p e below _ (T79.setTop (mkF m 210 #[oI p0, oI p1, oI p2, oI p3, oI p4, oI sA, oI sB, oI mA, oI mB, oR a9, oD (FP.l2d (0 : Int64)), .second, oD (FP.l2d (0 : Int64)), .second, .unset, .unset, .unset, .unset] []))
      refine own_via (fun t k => XS.iconst X79.here hx rfl (hb hby at_210) k) ?_
      show own_Go p e below _ (T79.setTop (mkF m 211 #[oI p0, oI p1, oI p2, oI p3, oI p4, oI sA, oI sB, oI mA, oI mB, oR a9, oD (FP.l2d (0 : Int64)), .second, oD (FP.l2d (0 : Int64)), .second, .unset, .unset, .unset, .unset] [(.int (1 : Int32))]))
      refine own_via (fun t k => XS.goto X79.here hx rfl (pc0 := 211) (pc' := 215) rfl (hb hby at_211) (by decide) (by decide) k) ?_
      show own_Go p e below _ (T79.setTop (mkF m 215 #[oI p0, oI p1, oI p2, oI p3, oI p4, oI sA, oI sB, oI mA, oI mB, oR a9, oD (FP.l2d (0 : Int64)), .second, oD (FP.l2d (0 : Int64)), .second, .unset, .unset, .unset, .unset] [(.int (1 : Int32))]))
      obtain ⟨fs, hr, hrun, hended, hW, hsame⟩ := X79.leave (v := some (.int (1 : Int32))) (fun h => by rw [Bd.returns] at h; cases h)
      refine ⟨_, _, retN X79 hx (t := .boolean) Bd.returns (by simp) (hb hby at_215) hr, hrun, hended, _, _, rfl, ?_, ⟨_, rfl⟩, hW, hsame.mono (by decide) (by decide)⟩
      show Q0 Z p0 p1 p2 p3 p4 wd h0 n0 _ T79.heap _
      rw [e79]
      exact ⟨rfl, N80⟩
  · by_cases hc118_84 : ((mA.toInt64) * (mB.toInt64)) = ((sA.toInt64) * (sB.toInt64))
    · obtain ⟨cq85, kq85, qa85, qb85, qc85⟩ := isOf hZ rfl E74
      obtain ⟨_, _, ⟨T85, L85, k85, n85⟩, -, X85, ⟨Lc85, hQ85, l85, y85, z85⟩, st85⟩ := X72.virtualBack hx (y := (⟨"com/example/eurycleia/eurycleia/similarity/CopyReport", "oddsRatio", "()D"⟩ : MethodName)) (z := (⟨"com/example/eurycleia/eurycleia/similarity/CopyReport", "oddsRatio", "()D"⟩ : MethodName)) hown (mvT hZ (own_w hw 52)) (mvT hZ (own_w hw 53)) (notFace_of_selects (args := #[]) (mvT hZ (own_w hw 55))) (mvT hZ (own_w hw 55)) (mvT hZ (own_w hw 54)) (by decide) (backOf (W := 0) (rm7 l Z a0 hw [] a9 mA mB sA sB (4636737291354636288 : UInt64) T72.heap n0 Zs77 Fc2_72 Fc3_72 Fc0_72 Fc1_72 (by unfold f7; rw [if_neg hc118_78, if_pos hc118_84])) hZ (own_w hw 56) (own_w hw 4) (by decide) (by decide)) qa85 qc85 (g := (mkF m 118 #[oI p0, oI p1, oI p2, oI p3, oI p4, oI sA, oI sB, oI mA, oI mB, oR a9, .unset, .unset, .unset, .unset, .unset, .unset, .unset, .unset] [(.ref a9)])) rfl (by rw [hml]; rfl) (Steps.refl _) (argsL := []) (rest := []) (lenOf pd_0_2 rfl) rfl (by show 2 * 0 + _ ≤ _; exact Nat.le_of_eq rfl) (hb hby at_118) (fun _ _ => ⟨rfl, rfl, (by decide : 3 + 0 ≤ _), (by decide : 12 + 0 ≤ _)⟩)
      dsimp only [Pt.U, Pt.locs, Pt.cells, Pt.slots] at X85 l85 y85 z85 st85 hQ85
      subst l85 y85 z85
      obtain ⟨rfl, Nq85, e85⟩ := hQ85
      have N86 := Fr.app N73 Nq85
      refine own_tr st85 ?_
      show own_Go p e below _ (T85.setTop (mkF m 121 #[oI p0, oI p1, oI p2, oI p3, oI p4, oI sA, oI sB, oI mA, oI mB, oR a9, .unset, .unset, .unset, .unset, .unset, .unset, .unset, .unset] [(.double (4636737291354636288 : UInt64))]))
      refine own_via (fun t k => XS.dstore X85.here hx rfl (hb hby at_121) rfl (l' := #[oI p0, oI p1, oI p2, oI p3, oI p4, oI sA, oI sB, oI mA, oI mB, oR a9, oD (4636737291354636288 : UInt64), .second, .unset, .unset, .unset, .unset, .unset, .unset]) rfl k) ?_
      show own_Go p e below _ (T85.setTop (mkF m 123 #[oI p0, oI p1, oI p2, oI p3, oI p4, oI sA, oI sB, oI mA, oI mB, oR a9, oD (4636737291354636288 : UInt64), .second, .unset, .unset, .unset, .unset, .unset, .unset] []))
      refine own_via (fun t k => XS.iload X85.here hx rfl (hb hby at_123) rfl k) ?_
      show own_Go p e below _ (T85.setTop (mkF m 125 #[oI p0, oI p1, oI p2, oI p3, oI p4, oI sA, oI sB, oI mA, oI mB, oR a9, oD (4636737291354636288 : UInt64), .second, .unset, .unset, .unset, .unset, .unset, .unset] [(.int sA)]))
      refine own_via (fun t k => XS.ifNo X85.here hx rfl (hb hby at_125) rfl ((if0 _ _).trans (feq (own_sa sA sB mA mB hA0 hA1 hB0 hB1 hc118_78)).1) k) ?_
      show own_Go p e below _ (T85.setTop (mkF m 128 #[oI p0, oI p1, oI p2, oI p3, oI p4, oI sA, oI sB, oI mA, oI mB, oR a9, oD (4636737291354636288 : UInt64), .second, .unset, .unset, .unset, .unset, .unset, .unset] []))
      refine own_via (fun t k => XS.iload X85.here hx rfl (hb hby at_128) rfl k) ?_
      show own_Go p e below _ (T85.setTop (mkF m 130 #[oI p0, oI p1, oI p2, oI p3, oI p4, oI sA, oI sB, oI mA, oI mB, oR a9, oD (4636737291354636288 : UInt64), .second, .unset, .unset, .unset, .unset, .unset, .unset] [(.int sB)]))
      refine own_via (fun t k => XS.ifYes X85.here hx rfl (pc0 := 130) (pc' := 139) rfl (hb hby at_130) rfl ((if0 _ _).trans (feq (own_sb sA sB mA mB hA0 hA1 hB0 hB1 hc118_78)).2) (by decide) (by decide) k) ?_
      show own_Go p e below _ (T85.setTop (mkF m 139 #[oI p0, oI p1, oI p2, oI p3, oI p4, oI sA, oI sB, oI mA, oI mB, oR a9, oD (4636737291354636288 : UInt64), .second, .unset, .unset, .unset, .unset, .unset, .unset] []))
      refine own_via (fun t k => XS.iload X85.here hx rfl (hb hby at_139) rfl k) ?_
      show own_Go p e below _ (T85.setTop (mkF m 141 #[oI p0, oI p1, oI p2, oI p3, oI p4, oI sA, oI sB, oI mA, oI mB, oR a9, oD (4636737291354636288 : UInt64), .second, .unset, .unset, .unset, .unset, .unset, .unset] [(.int mA)]))
      refine own_via (fun t k => XS.iload X85.here hx rfl (hb hby at_141) rfl k) ?_
      show own_Go p e below _ (T85.setTop (mkF m 143 #[oI p0, oI p1, oI p2, oI p3, oI p4, oI sA, oI sB, oI mA, oI mB, oR a9, oD (4636737291354636288 : UInt64), .second, .unset, .unset, .unset, .unset, .unset, .unset] [(.int sA), (.int mA)]))
      refine own_via (fun t k => XS.icmpNo X85.here hx rfl (hb hby at_143) rfl (teq (own_ma sA sB mA mB hA0 hA1 hB0 hB1 hc118_78 hc118_84)).2 k) ?_
      show own_Go p e below _ (T85.setTop (mkF m 146 #[oI p0, oI p1, oI p2, oI p3, oI p4, oI sA, oI sB, oI mA, oI mB, oR a9, oD (4636737291354636288 : UInt64), .second, .unset, .unset, .unset, .unset, .unset, .unset] []))
      refine own_via (fun t k => XS.iload X85.here hx rfl (hb hby at_146) rfl k) ?_
      show own_Go p e below _ (T85.setTop (mkF m 148 #[oI p0, oI p1, oI p2, oI p3, oI p4, oI sA, oI sB, oI mA, oI mB, oR a9, oD (4636737291354636288 : UInt64), .second, .unset, .unset, .unset, .unset, .unset, .unset] [(.int mB)]))
      refine own_via (fun t k => XS.iload X85.here hx rfl (hb hby at_148) rfl k) ?_
      show own_Go p e below _ (T85.setTop (mkF m 150 #[oI p0, oI p1, oI p2, oI p3, oI p4, oI sA, oI sB, oI mA, oI mB, oR a9, oD (4636737291354636288 : UInt64), .second, .unset, .unset, .unset, .unset, .unset, .unset] [(.int sB), (.int mB)]))
      refine own_via (fun t k => XS.icmpNo X85.here hx rfl (hb hby at_150) rfl (teq (own_mb sA sB mA mB hA0 hA1 hB0 hB1 hc118_78 hc118_84)).2 k) ?_
      show own_Go p e below _ (T85.setTop (mkF m 153 #[oI p0, oI p1, oI p2, oI p3, oI p4, oI sA, oI sB, oI mA, oI mB, oR a9, oD (4636737291354636288 : UInt64), .second, .unset, .unset, .unset, .unset, .unset, .unset] []))
      refine own_via (fun t k => X85.ldc2DoubleC hx hown (mvT hZ (own_w hw 58)) (g := (mkF m 153 #[oI p0, oI p1, oI p2, oI p3, oI p4, oI sA, oI sB, oI mA, oI mB, oR a9, oD (4636737291354636288 : UInt64), .second, .unset, .unset, .unset, .unset, .unset, .unset] [])) rfl (hb hby at_153) t k) ?_
      show own_Go p e below _ (T85.setTop (mkF m 156 #[oI p0, oI p1, oI p2, oI p3, oI p4, oI sA, oI sB, oI mA, oI mB, oR a9, oD (4636737291354636288 : UInt64), .second, .unset, .unset, .unset, .unset, .unset, .unset] [(.double (4636737291354636288 : UInt64))]))
      refine own_via (fun t k => XS.dstore X85.here hx rfl (hb hby at_156) rfl (l' := #[oI p0, oI p1, oI p2, oI p3, oI p4, oI sA, oI sB, oI mA, oI mB, oR a9, oD (4636737291354636288 : UInt64), .second, oD (4636737291354636288 : UInt64), .second, .unset, .unset, .unset, .unset]) rfl k) ?_
      show own_Go p e below _ (T85.setTop (mkF m 158 #[oI p0, oI p1, oI p2, oI p3, oI p4, oI sA, oI sB, oI mA, oI mB, oR a9, oD (4636737291354636288 : UInt64), .second, oD (4636737291354636288 : UInt64), .second, .unset, .unset, .unset, .unset] []))
      refine own_via (fun t k => XS.goto X85.here hx rfl (pc0 := 158) (pc' := 202) rfl (hb hby at_158) (by decide) (by decide) k) ?_
      show own_Go p e below _ (T85.setTop (mkF m 202 #[oI p0, oI p1, oI p2, oI p3, oI p4, oI sA, oI sB, oI mA, oI mB, oR a9, oD (4636737291354636288 : UInt64), .second, oD (4636737291354636288 : UInt64), .second, .unset, .unset, .unset, .unset] []))
      refine own_via (fun t k => XS.dload X85.here hx rfl (hb hby at_202) rfl k) ?_
      show own_Go p e below _ (T85.setTop (mkF m 204 #[oI p0, oI p1, oI p2, oI p3, oI p4, oI sA, oI sB, oI mA, oI mB, oR a9, oD (4636737291354636288 : UInt64), .second, oD (4636737291354636288 : UInt64), .second, .unset, .unset, .unset, .unset] [(.double (4636737291354636288 : UInt64))]))
      refine own_via (fun t k => XS.dload X85.here hx rfl (hb hby at_204) rfl k) ?_
      show own_Go p e below _ (T85.setTop (mkF m 206 #[oI p0, oI p1, oI p2, oI p3, oI p4, oI sA, oI sB, oI mA, oI mB, oR a9, oD (4636737291354636288 : UInt64), .second, oD (4636737291354636288 : UInt64), .second, .unset, .unset, .unset, .unset] [(.double (4636737291354636288 : UInt64)), (.double (4636737291354636288 : UInt64))]))
      refine own_via (fun t k => XS.dcmpS X85.here hx rfl (hb hby at_206) rfl (dcmpV_self own_hundred .l) k) ?_
      show own_Go p e below _ (T85.setTop (mkF m 207 #[oI p0, oI p1, oI p2, oI p3, oI p4, oI sA, oI sB, oI mA, oI mB, oR a9, oD (4636737291354636288 : UInt64), .second, oD (4636737291354636288 : UInt64), .second, .unset, .unset, .unset, .unset] [(.int (0 : Int32))]))
      refine own_via (fun t k => XS.ifNo X85.here hx rfl (hb hby at_207) rfl ((if0 _ _).trans (teq (by decide : (0 : Int32) = (0 : Int32))).2) k) ?_
      show own_Go p e below _ (T85.setTop (mkF m 210 #[oI p0, oI p1, oI p2, oI p3, oI p4, oI sA, oI sB, oI mA, oI mB, oR a9, oD (4636737291354636288 : UInt64), .second, oD (4636737291354636288 : UInt64), .second, .unset, .unset, .unset, .unset] []))
      refine own_via (fun t k => XS.iconst X85.here hx rfl (hb hby at_210) k) ?_
      show own_Go p e below _ (T85.setTop (mkF m 211 #[oI p0, oI p1, oI p2, oI p3, oI p4, oI sA, oI sB, oI mA, oI mB, oR a9, oD (4636737291354636288 : UInt64), .second, oD (4636737291354636288 : UInt64), .second, .unset, .unset, .unset, .unset] [(.int (1 : Int32))]))
      refine own_via (fun t k => XS.goto X85.here hx rfl (pc0 := 211) (pc' := 215) rfl (hb hby at_211) (by decide) (by decide) k) ?_
      show own_Go p e below _ (T85.setTop (mkF m 215 #[oI p0, oI p1, oI p2, oI p3, oI p4, oI sA, oI sB, oI mA, oI mB, oR a9, oD (4636737291354636288 : UInt64), .second, oD (4636737291354636288 : UInt64), .second, .unset, .unset, .unset, .unset] [(.int (1 : Int32))]))
      obtain ⟨fs, hr, hrun, hended, hW, hsame⟩ := X85.leave (v := some (.int (1 : Int32))) (fun h => by rw [Bd.returns] at h; cases h)
      refine ⟨_, _, retN X85 hx (t := .boolean) Bd.returns (by simp) (hb hby at_215) hr, hrun, hended, _, _, rfl, ?_, ⟨_, rfl⟩, hW, hsame.mono (by decide) (by decide)⟩
      show Q0 Z p0 p1 p2 p3 p4 wd h0 n0 _ T85.heap _
      rw [e85]
      exact ⟨rfl, N86⟩
    · obtain ⟨cq88, kq88, qa88, qb88, qc88⟩ := isOf hZ rfl E74
      obtain ⟨_, _, ⟨T88, L88, k88, n88⟩, -, X88, ⟨Lc88, hQ88, l88, y88, z88⟩, st88⟩ := X72.virtualBack hx (y := (⟨"com/example/eurycleia/eurycleia/similarity/CopyReport", "oddsRatio", "()D"⟩ : MethodName)) (z := (⟨"com/example/eurycleia/eurycleia/similarity/CopyReport", "oddsRatio", "()D"⟩ : MethodName)) hown (mvT hZ (own_w hw 52)) (mvT hZ (own_w hw 53)) (notFace_of_selects (args := #[]) (mvT hZ (own_w hw 55))) (mvT hZ (own_w hw 55)) (mvT hZ (own_w hw 54)) (by decide) (backOf (W := 0) (rm7 l Z a0 hw [] a9 mA mB sA sB (FP.ddiv (FP.l2d ((mA.toInt64) * (mB.toInt64))) (FP.l2d (((sA.toInt64) * (sB.toInt64)) - ((mA.toInt64) * (mB.toInt64))))) T72.heap n0 Zs77 Fc2_72 Fc3_72 Fc0_72 Fc1_72 (by unfold f7; rw [if_neg hc118_78, if_neg hc118_84])) hZ (own_w hw 56) (own_w hw 4) (by decide) (by decide)) qa88 qc88 (g := (mkF m 118 #[oI p0, oI p1, oI p2, oI p3, oI p4, oI sA, oI sB, oI mA, oI mB, oR a9, .unset, .unset, .unset, .unset, .unset, .unset, .unset, .unset] [(.ref a9)])) rfl (by rw [hml]; rfl) (Steps.refl _) (argsL := []) (rest := []) (lenOf pd_0_2 rfl) rfl (by show 2 * 0 + _ ≤ _; exact Nat.le_of_eq rfl) (hb hby at_118) (fun _ _ => ⟨rfl, rfl, (by decide : 3 + 0 ≤ _), (by decide : 12 + 0 ≤ _)⟩)
      dsimp only [Pt.U, Pt.locs, Pt.cells, Pt.slots] at X88 l88 y88 z88 st88 hQ88
      subst l88 y88 z88
      obtain ⟨rfl, Nq88, e88⟩ := hQ88
      have N89 := Fr.app N73 Nq88
      refine own_tr st88 ?_
      show own_Go p e below _ (T88.setTop (mkF m 121 #[oI p0, oI p1, oI p2, oI p3, oI p4, oI sA, oI sB, oI mA, oI mB, oR a9, .unset, .unset, .unset, .unset, .unset, .unset, .unset, .unset] [(.double (FP.ddiv (FP.l2d ((mA.toInt64) * (mB.toInt64))) (FP.l2d (((sA.toInt64) * (sB.toInt64)) - ((mA.toInt64) * (mB.toInt64))))))]))
      refine own_via (fun t k => XS.dstore X88.here hx rfl (hb hby at_121) rfl (l' := #[oI p0, oI p1, oI p2, oI p3, oI p4, oI sA, oI sB, oI mA, oI mB, oR a9, oD (FP.ddiv (FP.l2d ((mA.toInt64) * (mB.toInt64))) (FP.l2d (((sA.toInt64) * (sB.toInt64)) - ((mA.toInt64) * (mB.toInt64))))), .second, .unset, .unset, .unset, .unset, .unset, .unset]) rfl k) ?_
      show own_Go p e below _ (T88.setTop (mkF m 123 #[oI p0, oI p1, oI p2, oI p3, oI p4, oI sA, oI sB, oI mA, oI mB, oR a9, oD (FP.ddiv (FP.l2d ((mA.toInt64) * (mB.toInt64))) (FP.l2d (((sA.toInt64) * (sB.toInt64)) - ((mA.toInt64) * (mB.toInt64))))), .second, .unset, .unset, .unset, .unset, .unset, .unset] []))
      refine own_via (fun t k => XS.iload X88.here hx rfl (hb hby at_123) rfl k) ?_
      show own_Go p e below _ (T88.setTop (mkF m 125 #[oI p0, oI p1, oI p2, oI p3, oI p4, oI sA, oI sB, oI mA, oI mB, oR a9, oD (FP.ddiv (FP.l2d ((mA.toInt64) * (mB.toInt64))) (FP.l2d (((sA.toInt64) * (sB.toInt64)) - ((mA.toInt64) * (mB.toInt64))))), .second, .unset, .unset, .unset, .unset, .unset, .unset] [(.int sA)]))
      refine own_via (fun t k => XS.ifNo X88.here hx rfl (hb hby at_125) rfl ((if0 _ _).trans (feq (own_sa sA sB mA mB hA0 hA1 hB0 hB1 hc118_78)).1) k) ?_
      show own_Go p e below _ (T88.setTop (mkF m 128 #[oI p0, oI p1, oI p2, oI p3, oI p4, oI sA, oI sB, oI mA, oI mB, oR a9, oD (FP.ddiv (FP.l2d ((mA.toInt64) * (mB.toInt64))) (FP.l2d (((sA.toInt64) * (sB.toInt64)) - ((mA.toInt64) * (mB.toInt64))))), .second, .unset, .unset, .unset, .unset, .unset, .unset] []))
      refine own_via (fun t k => XS.iload X88.here hx rfl (hb hby at_128) rfl k) ?_
      show own_Go p e below _ (T88.setTop (mkF m 130 #[oI p0, oI p1, oI p2, oI p3, oI p4, oI sA, oI sB, oI mA, oI mB, oR a9, oD (FP.ddiv (FP.l2d ((mA.toInt64) * (mB.toInt64))) (FP.l2d (((sA.toInt64) * (sB.toInt64)) - ((mA.toInt64) * (mB.toInt64))))), .second, .unset, .unset, .unset, .unset, .unset, .unset] [(.int sB)]))
      refine own_via (fun t k => XS.ifYes X88.here hx rfl (pc0 := 130) (pc' := 139) rfl (hb hby at_130) rfl ((if0 _ _).trans (feq (own_sb sA sB mA mB hA0 hA1 hB0 hB1 hc118_78)).2) (by decide) (by decide) k) ?_
      show own_Go p e below _ (T88.setTop (mkF m 139 #[oI p0, oI p1, oI p2, oI p3, oI p4, oI sA, oI sB, oI mA, oI mB, oR a9, oD (FP.ddiv (FP.l2d ((mA.toInt64) * (mB.toInt64))) (FP.l2d (((sA.toInt64) * (sB.toInt64)) - ((mA.toInt64) * (mB.toInt64))))), .second, .unset, .unset, .unset, .unset, .unset, .unset] []))
      refine own_via (fun t k => XS.iload X88.here hx rfl (hb hby at_139) rfl k) ?_
      show own_Go p e below _ (T88.setTop (mkF m 141 #[oI p0, oI p1, oI p2, oI p3, oI p4, oI sA, oI sB, oI mA, oI mB, oR a9, oD (FP.ddiv (FP.l2d ((mA.toInt64) * (mB.toInt64))) (FP.l2d (((sA.toInt64) * (sB.toInt64)) - ((mA.toInt64) * (mB.toInt64))))), .second, .unset, .unset, .unset, .unset, .unset, .unset] [(.int mA)]))
      refine own_via (fun t k => XS.iload X88.here hx rfl (hb hby at_141) rfl k) ?_
      show own_Go p e below _ (T88.setTop (mkF m 143 #[oI p0, oI p1, oI p2, oI p3, oI p4, oI sA, oI sB, oI mA, oI mB, oR a9, oD (FP.ddiv (FP.l2d ((mA.toInt64) * (mB.toInt64))) (FP.l2d (((sA.toInt64) * (sB.toInt64)) - ((mA.toInt64) * (mB.toInt64))))), .second, .unset, .unset, .unset, .unset, .unset, .unset] [(.int sA), (.int mA)]))
      by_cases hc143_90 : mA = sA
      · refine own_via (fun t k => XS.icmpNo X88.here hx rfl (hb hby at_143) rfl (teq hc143_90).2 k) ?_
        show own_Go p e below _ (T88.setTop (mkF m 146 #[oI p0, oI p1, oI p2, oI p3, oI p4, oI sA, oI sB, oI mA, oI mB, oR a9, oD (FP.ddiv (FP.l2d ((mA.toInt64) * (mB.toInt64))) (FP.l2d (((sA.toInt64) * (sB.toInt64)) - ((mA.toInt64) * (mB.toInt64))))), .second, .unset, .unset, .unset, .unset, .unset, .unset] []))
        refine own_via (fun t k => XS.iload X88.here hx rfl (hb hby at_146) rfl k) ?_
        show own_Go p e below _ (T88.setTop (mkF m 148 #[oI p0, oI p1, oI p2, oI p3, oI p4, oI sA, oI sB, oI mA, oI mB, oR a9, oD (FP.ddiv (FP.l2d ((mA.toInt64) * (mB.toInt64))) (FP.l2d (((sA.toInt64) * (sB.toInt64)) - ((mA.toInt64) * (mB.toInt64))))), .second, .unset, .unset, .unset, .unset, .unset, .unset] [(.int mB)]))
        refine own_via (fun t k => XS.iload X88.here hx rfl (hb hby at_148) rfl k) ?_
        show own_Go p e below _ (T88.setTop (mkF m 150 #[oI p0, oI p1, oI p2, oI p3, oI p4, oI sA, oI sB, oI mA, oI mB, oR a9, oD (FP.ddiv (FP.l2d ((mA.toInt64) * (mB.toInt64))) (FP.l2d (((sA.toInt64) * (sB.toInt64)) - ((mA.toInt64) * (mB.toInt64))))), .second, .unset, .unset, .unset, .unset, .unset, .unset] [(.int sB), (.int mB)]))
        refine own_via (fun t k => XS.icmpYes X88.here hx rfl (pc0 := 150) (pc' := 161) rfl (hb hby at_150) rfl (feq (own_mbn sA sB mA mB hA0 hA1 hB0 hB1 hc118_84 hc143_90)).2 (by decide) (by decide) k) ?_
        show own_Go p e below _ (T88.setTop (mkF m 161 #[oI p0, oI p1, oI p2, oI p3, oI p4, oI sA, oI sB, oI mA, oI mB, oR a9, oD (FP.ddiv (FP.l2d ((mA.toInt64) * (mB.toInt64))) (FP.l2d (((sA.toInt64) * (sB.toInt64)) - ((mA.toInt64) * (mB.toInt64))))), .second, .unset, .unset, .unset, .unset, .unset, .unset] []))
        refine own_via (fun t k => XS.iload X88.here hx rfl (hb hby at_161) rfl k) ?_
        show own_Go p e below _ (T88.setTop (mkF m 163 #[oI p0, oI p1, oI p2, oI p3, oI p4, oI sA, oI sB, oI mA, oI mB, oR a9, oD (FP.ddiv (FP.l2d ((mA.toInt64) * (mB.toInt64))) (FP.l2d (((sA.toInt64) * (sB.toInt64)) - ((mA.toInt64) * (mB.toInt64))))), .second, .unset, .unset, .unset, .unset, .unset, .unset] [(.int mA)]))
        refine own_via (fun t k => XS.i2l X88.here hx rfl (hb hby at_163) rfl k) ?_
        show own_Go p e below _ (T88.setTop (mkF m 164 #[oI p0, oI p1, oI p2, oI p3, oI p4, oI sA, oI sB, oI mA, oI mB, oR a9, oD (FP.ddiv (FP.l2d ((mA.toInt64) * (mB.toInt64))) (FP.l2d (((sA.toInt64) * (sB.toInt64)) - ((mA.toInt64) * (mB.toInt64))))), .second, .unset, .unset, .unset, .unset, .unset, .unset] [(.long (mA.toInt64))]))
        refine own_via (fun t k => XS.iload X88.here hx rfl (hb hby at_164) rfl k) ?_
        show own_Go p e below _ (T88.setTop (mkF m 166 #[oI p0, oI p1, oI p2, oI p3, oI p4, oI sA, oI sB, oI mA, oI mB, oR a9, oD (FP.ddiv (FP.l2d ((mA.toInt64) * (mB.toInt64))) (FP.l2d (((sA.toInt64) * (sB.toInt64)) - ((mA.toInt64) * (mB.toInt64))))), .second, .unset, .unset, .unset, .unset, .unset, .unset] [(.int mB), (.long (mA.toInt64))]))
        refine own_via (fun t k => XS.i2l X88.here hx rfl (hb hby at_166) rfl k) ?_
        show own_Go p e below _ (T88.setTop (mkF m 167 #[oI p0, oI p1, oI p2, oI p3, oI p4, oI sA, oI sB, oI mA, oI mB, oR a9, oD (FP.ddiv (FP.l2d ((mA.toInt64) * (mB.toInt64))) (FP.l2d (((sA.toInt64) * (sB.toInt64)) - ((mA.toInt64) * (mB.toInt64))))), .second, .unset, .unset, .unset, .unset, .unset, .unset] [(.long (mB.toInt64)), (.long (mA.toInt64))]))
        refine own_via (fun t k => XS.lmul X88.here hx rfl (hb hby at_167) rfl k) ?_
        show own_Go p e below _ (T88.setTop (mkF m 168 #[oI p0, oI p1, oI p2, oI p3, oI p4, oI sA, oI sB, oI mA, oI mB, oR a9, oD (FP.ddiv (FP.l2d ((mA.toInt64) * (mB.toInt64))) (FP.l2d (((sA.toInt64) * (sB.toInt64)) - ((mA.toInt64) * (mB.toInt64))))), .second, .unset, .unset, .unset, .unset, .unset, .unset] [(.long ((mA.toInt64) * (mB.toInt64)))]))
        refine own_via (fun t k => XS.lstore X88.here hx rfl (hb hby at_168) rfl (l' := #[oI p0, oI p1, oI p2, oI p3, oI p4, oI sA, oI sB, oI mA, oI mB, oR a9, oD (FP.ddiv (FP.l2d ((mA.toInt64) * (mB.toInt64))) (FP.l2d (((sA.toInt64) * (sB.toInt64)) - ((mA.toInt64) * (mB.toInt64))))), .second, .unset, .unset, oJ ((mA.toInt64) * (mB.toInt64)), .second, .unset, .unset]) rfl k) ?_
        show own_Go p e below _ (T88.setTop (mkF m 170 #[oI p0, oI p1, oI p2, oI p3, oI p4, oI sA, oI sB, oI mA, oI mB, oR a9, oD (FP.ddiv (FP.l2d ((mA.toInt64) * (mB.toInt64))) (FP.l2d (((sA.toInt64) * (sB.toInt64)) - ((mA.toInt64) * (mB.toInt64))))), .second, .unset, .unset, oJ ((mA.toInt64) * (mB.toInt64)), .second, .unset, .unset] []))
        refine own_via (fun t k => XS.iload X88.here hx rfl (hb hby at_170) rfl k) ?_
        show own_Go p e below _ (T88.setTop (mkF m 172 #[oI p0, oI p1, oI p2, oI p3, oI p4, oI sA, oI sB, oI mA, oI mB, oR a9, oD (FP.ddiv (FP.l2d ((mA.toInt64) * (mB.toInt64))) (FP.l2d (((sA.toInt64) * (sB.toInt64)) - ((mA.toInt64) * (mB.toInt64))))), .second, .unset, .unset, oJ ((mA.toInt64) * (mB.toInt64)), .second, .unset, .unset] [(.int sA)]))
        refine own_via (fun t k => XS.iload X88.here hx rfl (hb hby at_172) rfl k) ?_
        show own_Go p e below _ (T88.setTop (mkF m 174 #[oI p0, oI p1, oI p2, oI p3, oI p4, oI sA, oI sB, oI mA, oI mB, oR a9, oD (FP.ddiv (FP.l2d ((mA.toInt64) * (mB.toInt64))) (FP.l2d (((sA.toInt64) * (sB.toInt64)) - ((mA.toInt64) * (mB.toInt64))))), .second, .unset, .unset, oJ ((mA.toInt64) * (mB.toInt64)), .second, .unset, .unset] [(.int mA), (.int sA)]))
        refine own_via (fun t k => XS.isub X88.here hx rfl (hb hby at_174) rfl k) ?_
        show own_Go p e below _ (T88.setTop (mkF m 175 #[oI p0, oI p1, oI p2, oI p3, oI p4, oI sA, oI sB, oI mA, oI mB, oR a9, oD (FP.ddiv (FP.l2d ((mA.toInt64) * (mB.toInt64))) (FP.l2d (((sA.toInt64) * (sB.toInt64)) - ((mA.toInt64) * (mB.toInt64))))), .second, .unset, .unset, oJ ((mA.toInt64) * (mB.toInt64)), .second, .unset, .unset] [(.int (sA - mA))]))
        refine own_via (fun t k => XS.i2l X88.here hx rfl (hb hby at_175) rfl k) ?_
        show own_Go p e below _ (T88.setTop (mkF m 176 #[oI p0, oI p1, oI p2, oI p3, oI p4, oI sA, oI sB, oI mA, oI mB, oR a9, oD (FP.ddiv (FP.l2d ((mA.toInt64) * (mB.toInt64))) (FP.l2d (((sA.toInt64) * (sB.toInt64)) - ((mA.toInt64) * (mB.toInt64))))), .second, .unset, .unset, oJ ((mA.toInt64) * (mB.toInt64)), .second, .unset, .unset] [(.long ((sA - mA).toInt64))]))
        refine own_via (fun t k => XS.iload X88.here hx rfl (hb hby at_176) rfl k) ?_
        show own_Go p e below _ (T88.setTop (mkF m 178 #[oI p0, oI p1, oI p2, oI p3, oI p4, oI sA, oI sB, oI mA, oI mB, oR a9, oD (FP.ddiv (FP.l2d ((mA.toInt64) * (mB.toInt64))) (FP.l2d (((sA.toInt64) * (sB.toInt64)) - ((mA.toInt64) * (mB.toInt64))))), .second, .unset, .unset, oJ ((mA.toInt64) * (mB.toInt64)), .second, .unset, .unset] [(.int sB), (.long ((sA - mA).toInt64))]))
        refine own_via (fun t k => XS.i2l X88.here hx rfl (hb hby at_178) rfl k) ?_
        show own_Go p e below _ (T88.setTop (mkF m 179 #[oI p0, oI p1, oI p2, oI p3, oI p4, oI sA, oI sB, oI mA, oI mB, oR a9, oD (FP.ddiv (FP.l2d ((mA.toInt64) * (mB.toInt64))) (FP.l2d (((sA.toInt64) * (sB.toInt64)) - ((mA.toInt64) * (mB.toInt64))))), .second, .unset, .unset, oJ ((mA.toInt64) * (mB.toInt64)), .second, .unset, .unset] [(.long (sB.toInt64)), (.long ((sA - mA).toInt64))]))
        refine own_via (fun t k => XS.lmul X88.here hx rfl (hb hby at_179) rfl k) ?_
        show own_Go p e below _ (T88.setTop (mkF m 180 #[oI p0, oI p1, oI p2, oI p3, oI p4, oI sA, oI sB, oI mA, oI mB, oR a9, oD (FP.ddiv (FP.l2d ((mA.toInt64) * (mB.toInt64))) (FP.l2d (((sA.toInt64) * (sB.toInt64)) - ((mA.toInt64) * (mB.toInt64))))), .second, .unset, .unset, oJ ((mA.toInt64) * (mB.toInt64)), .second, .unset, .unset] [(.long (((sA - mA).toInt64) * (sB.toInt64)))]))
        refine own_via (fun t k => XS.iload X88.here hx rfl (hb hby at_180) rfl k) ?_
        show own_Go p e below _ (T88.setTop (mkF m 182 #[oI p0, oI p1, oI p2, oI p3, oI p4, oI sA, oI sB, oI mA, oI mB, oR a9, oD (FP.ddiv (FP.l2d ((mA.toInt64) * (mB.toInt64))) (FP.l2d (((sA.toInt64) * (sB.toInt64)) - ((mA.toInt64) * (mB.toInt64))))), .second, .unset, .unset, oJ ((mA.toInt64) * (mB.toInt64)), .second, .unset, .unset] [(.int mA), (.long (((sA - mA).toInt64) * (sB.toInt64)))]))
        refine own_via (fun t k => XS.i2l X88.here hx rfl (hb hby at_182) rfl k) ?_
        show own_Go p e below _ (T88.setTop (mkF m 183 #[oI p0, oI p1, oI p2, oI p3, oI p4, oI sA, oI sB, oI mA, oI mB, oR a9, oD (FP.ddiv (FP.l2d ((mA.toInt64) * (mB.toInt64))) (FP.l2d (((sA.toInt64) * (sB.toInt64)) - ((mA.toInt64) * (mB.toInt64))))), .second, .unset, .unset, oJ ((mA.toInt64) * (mB.toInt64)), .second, .unset, .unset] [(.long (mA.toInt64)), (.long (((sA - mA).toInt64) * (sB.toInt64)))]))
        refine own_via (fun t k => XS.iload X88.here hx rfl (hb hby at_183) rfl k) ?_
        show own_Go p e below _ (T88.setTop (mkF m 185 #[oI p0, oI p1, oI p2, oI p3, oI p4, oI sA, oI sB, oI mA, oI mB, oR a9, oD (FP.ddiv (FP.l2d ((mA.toInt64) * (mB.toInt64))) (FP.l2d (((sA.toInt64) * (sB.toInt64)) - ((mA.toInt64) * (mB.toInt64))))), .second, .unset, .unset, oJ ((mA.toInt64) * (mB.toInt64)), .second, .unset, .unset] [(.int sB), (.long (mA.toInt64)), (.long (((sA - mA).toInt64) * (sB.toInt64)))]))
        refine own_via (fun t k => XS.iload X88.here hx rfl (hb hby at_185) rfl k) ?_
        show own_Go p e below _ (T88.setTop (mkF m 187 #[oI p0, oI p1, oI p2, oI p3, oI p4, oI sA, oI sB, oI mA, oI mB, oR a9, oD (FP.ddiv (FP.l2d ((mA.toInt64) * (mB.toInt64))) (FP.l2d (((sA.toInt64) * (sB.toInt64)) - ((mA.toInt64) * (mB.toInt64))))), .second, .unset, .unset, oJ ((mA.toInt64) * (mB.toInt64)), .second, .unset, .unset] [(.int mB), (.int sB), (.long (mA.toInt64)), (.long (((sA - mA).toInt64) * (sB.toInt64)))]))
        refine own_via (fun t k => XS.isub X88.here hx rfl (hb hby at_187) rfl k) ?_
        show own_Go p e below _ (T88.setTop (mkF m 188 #[oI p0, oI p1, oI p2, oI p3, oI p4, oI sA, oI sB, oI mA, oI mB, oR a9, oD (FP.ddiv (FP.l2d ((mA.toInt64) * (mB.toInt64))) (FP.l2d (((sA.toInt64) * (sB.toInt64)) - ((mA.toInt64) * (mB.toInt64))))), .second, .unset, .unset, oJ ((mA.toInt64) * (mB.toInt64)), .second, .unset, .unset] [(.int (sB - mB)), (.long (mA.toInt64)), (.long (((sA - mA).toInt64) * (sB.toInt64)))]))
        refine own_via (fun t k => XS.i2l X88.here hx rfl (hb hby at_188) rfl k) ?_
        show own_Go p e below _ (T88.setTop (mkF m 189 #[oI p0, oI p1, oI p2, oI p3, oI p4, oI sA, oI sB, oI mA, oI mB, oR a9, oD (FP.ddiv (FP.l2d ((mA.toInt64) * (mB.toInt64))) (FP.l2d (((sA.toInt64) * (sB.toInt64)) - ((mA.toInt64) * (mB.toInt64))))), .second, .unset, .unset, oJ ((mA.toInt64) * (mB.toInt64)), .second, .unset, .unset] [(.long ((sB - mB).toInt64)), (.long (mA.toInt64)), (.long (((sA - mA).toInt64) * (sB.toInt64)))]))
        refine own_via (fun t k => XS.lmul X88.here hx rfl (hb hby at_189) rfl k) ?_
        show own_Go p e below _ (T88.setTop (mkF m 190 #[oI p0, oI p1, oI p2, oI p3, oI p4, oI sA, oI sB, oI mA, oI mB, oR a9, oD (FP.ddiv (FP.l2d ((mA.toInt64) * (mB.toInt64))) (FP.l2d (((sA.toInt64) * (sB.toInt64)) - ((mA.toInt64) * (mB.toInt64))))), .second, .unset, .unset, oJ ((mA.toInt64) * (mB.toInt64)), .second, .unset, .unset] [(.long ((mA.toInt64) * ((sB - mB).toInt64))), (.long (((sA - mA).toInt64) * (sB.toInt64)))]))
        refine own_via (fun t k => XS.ladd X88.here hx rfl (hb hby at_190) rfl k) ?_
        show own_Go p e below _ (T88.setTop (mkF m 191 #[oI p0, oI p1, oI p2, oI p3, oI p4, oI sA, oI sB, oI mA, oI mB, oR a9, oD (FP.ddiv (FP.l2d ((mA.toInt64) * (mB.toInt64))) (FP.l2d (((sA.toInt64) * (sB.toInt64)) - ((mA.toInt64) * (mB.toInt64))))), .second, .unset, .unset, oJ ((mA.toInt64) * (mB.toInt64)), .second, .unset, .unset] [(.long ((((sA - mA).toInt64) * (sB.toInt64)) + ((mA.toInt64) * ((sB - mB).toInt64))))]))
        refine own_via (fun t k => XS.lstore X88.here hx rfl (hb hby at_191) rfl (l' := #[oI p0, oI p1, oI p2, oI p3, oI p4, oI sA, oI sB, oI mA, oI mB, oR a9, oD (FP.ddiv (FP.l2d ((mA.toInt64) * (mB.toInt64))) (FP.l2d (((sA.toInt64) * (sB.toInt64)) - ((mA.toInt64) * (mB.toInt64))))), .second, .unset, .unset, oJ ((mA.toInt64) * (mB.toInt64)), .second, oJ ((((sA - mA).toInt64) * (sB.toInt64)) + ((mA.toInt64) * ((sB - mB).toInt64))), .second]) rfl k) ?_
        show own_Go p e below _ (T88.setTop (mkF m 193 #[oI p0, oI p1, oI p2, oI p3, oI p4, oI sA, oI sB, oI mA, oI mB, oR a9, oD (FP.ddiv (FP.l2d ((mA.toInt64) * (mB.toInt64))) (FP.l2d (((sA.toInt64) * (sB.toInt64)) - ((mA.toInt64) * (mB.toInt64))))), .second, .unset, .unset, oJ ((mA.toInt64) * (mB.toInt64)), .second, oJ ((((sA - mA).toInt64) * (sB.toInt64)) + ((mA.toInt64) * ((sB - mB).toInt64))), .second] []))
        refine own_via (fun t k => XS.lload X88.here hx rfl (hb hby at_193) rfl k) ?_
        show own_Go p e below _ (T88.setTop (mkF m 195 #[oI p0, oI p1, oI p2, oI p3, oI p4, oI sA, oI sB, oI mA, oI mB, oR a9, oD (FP.ddiv (FP.l2d ((mA.toInt64) * (mB.toInt64))) (FP.l2d (((sA.toInt64) * (sB.toInt64)) - ((mA.toInt64) * (mB.toInt64))))), .second, .unset, .unset, oJ ((mA.toInt64) * (mB.toInt64)), .second, oJ ((((sA - mA).toInt64) * (sB.toInt64)) + ((mA.toInt64) * ((sB - mB).toInt64))), .second] [(.long ((mA.toInt64) * (mB.toInt64)))]))
        refine own_via (fun t k => XS.l2dS X88.here hx rfl (hb hby at_195) rfl rfl k) ?_
        show own_Go p e below _ (T88.setTop (mkF m 196 #[oI p0, oI p1, oI p2, oI p3, oI p4, oI sA, oI sB, oI mA, oI mB, oR a9, oD (FP.ddiv (FP.l2d ((mA.toInt64) * (mB.toInt64))) (FP.l2d (((sA.toInt64) * (sB.toInt64)) - ((mA.toInt64) * (mB.toInt64))))), .second, .unset, .unset, oJ ((mA.toInt64) * (mB.toInt64)), .second, oJ ((((sA - mA).toInt64) * (sB.toInt64)) + ((mA.toInt64) * ((sB - mB).toInt64))), .second] [(.double (FP.l2d ((mA.toInt64) * (mB.toInt64))))]))
        refine own_via (fun t k => XS.lload X88.here hx rfl (hb hby at_196) rfl k) ?_
        show own_Go p e below _ (T88.setTop (mkF m 198 #[oI p0, oI p1, oI p2, oI p3, oI p4, oI sA, oI sB, oI mA, oI mB, oR a9, oD (FP.ddiv (FP.l2d ((mA.toInt64) * (mB.toInt64))) (FP.l2d (((sA.toInt64) * (sB.toInt64)) - ((mA.toInt64) * (mB.toInt64))))), .second, .unset, .unset, oJ ((mA.toInt64) * (mB.toInt64)), .second, oJ ((((sA - mA).toInt64) * (sB.toInt64)) + ((mA.toInt64) * ((sB - mB).toInt64))), .second] [(.long ((((sA - mA).toInt64) * (sB.toInt64)) + ((mA.toInt64) * ((sB - mB).toInt64)))), (.double (FP.l2d ((mA.toInt64) * (mB.toInt64))))]))
        refine own_via (fun t k => XS.l2dS X88.here hx rfl (hb hby at_198) rfl rfl k) ?_
        show own_Go p e below _ (T88.setTop (mkF m 199 #[oI p0, oI p1, oI p2, oI p3, oI p4, oI sA, oI sB, oI mA, oI mB, oR a9, oD (FP.ddiv (FP.l2d ((mA.toInt64) * (mB.toInt64))) (FP.l2d (((sA.toInt64) * (sB.toInt64)) - ((mA.toInt64) * (mB.toInt64))))), .second, .unset, .unset, oJ ((mA.toInt64) * (mB.toInt64)), .second, oJ ((((sA - mA).toInt64) * (sB.toInt64)) + ((mA.toInt64) * ((sB - mB).toInt64))), .second] [(.double (FP.l2d ((((sA - mA).toInt64) * (sB.toInt64)) + ((mA.toInt64) * ((sB - mB).toInt64))))), (.double (FP.l2d ((mA.toInt64) * (mB.toInt64))))]))
        refine own_via (fun t k => XS.ddivS X88.here hx rfl (hb hby at_199) rfl (own_div (own_den sA sB mA mB hA0 hA1 hB0 hB1 hc118_84)) rfl k) ?_
        show own_Go p e below _ (T88.setTop (mkF m 200 #[oI p0, oI p1, oI p2, oI p3, oI p4, oI sA, oI sB, oI mA, oI mB, oR a9, oD (FP.ddiv (FP.l2d ((mA.toInt64) * (mB.toInt64))) (FP.l2d (((sA.toInt64) * (sB.toInt64)) - ((mA.toInt64) * (mB.toInt64))))), .second, .unset, .unset, oJ ((mA.toInt64) * (mB.toInt64)), .second, oJ ((((sA - mA).toInt64) * (sB.toInt64)) + ((mA.toInt64) * ((sB - mB).toInt64))), .second] [(.double (FP.ddiv (FP.l2d ((mA.toInt64) * (mB.toInt64))) (FP.l2d ((((sA - mA).toInt64) * (sB.toInt64)) + ((mA.toInt64) * ((sB - mB).toInt64))))))]))
        refine own_via (fun t k => XS.dstore X88.here hx rfl (hb hby at_200) rfl (l' := #[oI p0, oI p1, oI p2, oI p3, oI p4, oI sA, oI sB, oI mA, oI mB, oR a9, oD (FP.ddiv (FP.l2d ((mA.toInt64) * (mB.toInt64))) (FP.l2d (((sA.toInt64) * (sB.toInt64)) - ((mA.toInt64) * (mB.toInt64))))), .second, oD (FP.ddiv (FP.l2d ((mA.toInt64) * (mB.toInt64))) (FP.l2d ((((sA - mA).toInt64) * (sB.toInt64)) + ((mA.toInt64) * ((sB - mB).toInt64))))), .second, oJ ((mA.toInt64) * (mB.toInt64)), .second, oJ ((((sA - mA).toInt64) * (sB.toInt64)) + ((mA.toInt64) * ((sB - mB).toInt64))), .second]) rfl k) ?_
        show own_Go p e below _ (T88.setTop (mkF m 202 #[oI p0, oI p1, oI p2, oI p3, oI p4, oI sA, oI sB, oI mA, oI mB, oR a9, oD (FP.ddiv (FP.l2d ((mA.toInt64) * (mB.toInt64))) (FP.l2d (((sA.toInt64) * (sB.toInt64)) - ((mA.toInt64) * (mB.toInt64))))), .second, oD (FP.ddiv (FP.l2d ((mA.toInt64) * (mB.toInt64))) (FP.l2d ((((sA - mA).toInt64) * (sB.toInt64)) + ((mA.toInt64) * ((sB - mB).toInt64))))), .second, oJ ((mA.toInt64) * (mB.toInt64)), .second, oJ ((((sA - mA).toInt64) * (sB.toInt64)) + ((mA.toInt64) * ((sB - mB).toInt64))), .second] []))
        refine own_via (fun t k => XS.dload X88.here hx rfl (hb hby at_202) rfl k) ?_
        show own_Go p e below _ (T88.setTop (mkF m 204 #[oI p0, oI p1, oI p2, oI p3, oI p4, oI sA, oI sB, oI mA, oI mB, oR a9, oD (FP.ddiv (FP.l2d ((mA.toInt64) * (mB.toInt64))) (FP.l2d (((sA.toInt64) * (sB.toInt64)) - ((mA.toInt64) * (mB.toInt64))))), .second, oD (FP.ddiv (FP.l2d ((mA.toInt64) * (mB.toInt64))) (FP.l2d ((((sA - mA).toInt64) * (sB.toInt64)) + ((mA.toInt64) * ((sB - mB).toInt64))))), .second, oJ ((mA.toInt64) * (mB.toInt64)), .second, oJ ((((sA - mA).toInt64) * (sB.toInt64)) + ((mA.toInt64) * ((sB - mB).toInt64))), .second] [(.double (FP.ddiv (FP.l2d ((mA.toInt64) * (mB.toInt64))) (FP.l2d (((sA.toInt64) * (sB.toInt64)) - ((mA.toInt64) * (mB.toInt64))))))]))
        refine own_via (fun t k => XS.dload X88.here hx rfl (hb hby at_204) rfl k) ?_
        show own_Go p e below _ (T88.setTop (mkF m 206 #[oI p0, oI p1, oI p2, oI p3, oI p4, oI sA, oI sB, oI mA, oI mB, oR a9, oD (FP.ddiv (FP.l2d ((mA.toInt64) * (mB.toInt64))) (FP.l2d (((sA.toInt64) * (sB.toInt64)) - ((mA.toInt64) * (mB.toInt64))))), .second, oD (FP.ddiv (FP.l2d ((mA.toInt64) * (mB.toInt64))) (FP.l2d ((((sA - mA).toInt64) * (sB.toInt64)) + ((mA.toInt64) * ((sB - mB).toInt64))))), .second, oJ ((mA.toInt64) * (mB.toInt64)), .second, oJ ((((sA - mA).toInt64) * (sB.toInt64)) + ((mA.toInt64) * ((sB - mB).toInt64))), .second] [(.double (FP.ddiv (FP.l2d ((mA.toInt64) * (mB.toInt64))) (FP.l2d ((((sA - mA).toInt64) * (sB.toInt64)) + ((mA.toInt64) * ((sB - mB).toInt64)))))), (.double (FP.ddiv (FP.l2d ((mA.toInt64) * (mB.toInt64))) (FP.l2d (((sA.toInt64) * (sB.toInt64)) - ((mA.toInt64) * (mB.toInt64))))))]))
        refine own_via (fun t k => XS.dcmpS X88.here hx rfl (hb hby at_206) rfl (dcmpV_eq (by rw [own_same sA sB mA mB hA0 hA1 hB0 hB1]) (own_div (own_sub0 hc118_84)) .l) k) ?_
        show own_Go p e below _ (T88.setTop (mkF m 207 #[oI p0, oI p1, oI p2, oI p3, oI p4, oI sA, oI sB, oI mA, oI mB, oR a9, oD (FP.ddiv (FP.l2d ((mA.toInt64) * (mB.toInt64))) (FP.l2d (((sA.toInt64) * (sB.toInt64)) - ((mA.toInt64) * (mB.toInt64))))), .second, oD (FP.ddiv (FP.l2d ((mA.toInt64) * (mB.toInt64))) (FP.l2d ((((sA - mA).toInt64) * (sB.toInt64)) + ((mA.toInt64) * ((sB - mB).toInt64))))), .second, oJ ((mA.toInt64) * (mB.toInt64)), .second, oJ ((((sA - mA).toInt64) * (sB.toInt64)) + ((mA.toInt64) * ((sB - mB).toInt64))), .second] [(.int (0 : Int32))]))
        refine own_via (fun t k => XS.ifNo X88.here hx rfl (hb hby at_207) rfl ((if0 _ _).trans (teq (by decide : (0 : Int32) = (0 : Int32))).2) k) ?_
        show own_Go p e below _ (T88.setTop (mkF m 210 #[oI p0, oI p1, oI p2, oI p3, oI p4, oI sA, oI sB, oI mA, oI mB, oR a9, oD (FP.ddiv (FP.l2d ((mA.toInt64) * (mB.toInt64))) (FP.l2d (((sA.toInt64) * (sB.toInt64)) - ((mA.toInt64) * (mB.toInt64))))), .second, oD (FP.ddiv (FP.l2d ((mA.toInt64) * (mB.toInt64))) (FP.l2d ((((sA - mA).toInt64) * (sB.toInt64)) + ((mA.toInt64) * ((sB - mB).toInt64))))), .second, oJ ((mA.toInt64) * (mB.toInt64)), .second, oJ ((((sA - mA).toInt64) * (sB.toInt64)) + ((mA.toInt64) * ((sB - mB).toInt64))), .second] []))
        refine own_via (fun t k => XS.iconst X88.here hx rfl (hb hby at_210) k) ?_
        show own_Go p e below _ (T88.setTop (mkF m 211 #[oI p0, oI p1, oI p2, oI p3, oI p4, oI sA, oI sB, oI mA, oI mB, oR a9, oD (FP.ddiv (FP.l2d ((mA.toInt64) * (mB.toInt64))) (FP.l2d (((sA.toInt64) * (sB.toInt64)) - ((mA.toInt64) * (mB.toInt64))))), .second, oD (FP.ddiv (FP.l2d ((mA.toInt64) * (mB.toInt64))) (FP.l2d ((((sA - mA).toInt64) * (sB.toInt64)) + ((mA.toInt64) * ((sB - mB).toInt64))))), .second, oJ ((mA.toInt64) * (mB.toInt64)), .second, oJ ((((sA - mA).toInt64) * (sB.toInt64)) + ((mA.toInt64) * ((sB - mB).toInt64))), .second] [(.int (1 : Int32))]))
        refine own_via (fun t k => XS.goto X88.here hx rfl (pc0 := 211) (pc' := 215) rfl (hb hby at_211) (by decide) (by decide) k) ?_
        show own_Go p e below _ (T88.setTop (mkF m 215 #[oI p0, oI p1, oI p2, oI p3, oI p4, oI sA, oI sB, oI mA, oI mB, oR a9, oD (FP.ddiv (FP.l2d ((mA.toInt64) * (mB.toInt64))) (FP.l2d (((sA.toInt64) * (sB.toInt64)) - ((mA.toInt64) * (mB.toInt64))))), .second, oD (FP.ddiv (FP.l2d ((mA.toInt64) * (mB.toInt64))) (FP.l2d ((((sA - mA).toInt64) * (sB.toInt64)) + ((mA.toInt64) * ((sB - mB).toInt64))))), .second, oJ ((mA.toInt64) * (mB.toInt64)), .second, oJ ((((sA - mA).toInt64) * (sB.toInt64)) + ((mA.toInt64) * ((sB - mB).toInt64))), .second] [(.int (1 : Int32))]))
        obtain ⟨fs, hr, hrun, hended, hW, hsame⟩ := X88.leave (v := some (.int (1 : Int32))) (fun h => by rw [Bd.returns] at h; cases h)
        refine ⟨_, _, retN X88 hx (t := .boolean) Bd.returns (by simp) (hb hby at_215) hr, hrun, hended, _, _, rfl, ?_, ⟨_, rfl⟩, hW, hsame.mono (by decide) (by decide)⟩
        show Q0 Z p0 p1 p2 p3 p4 wd h0 n0 _ T88.heap _
        rw [e88]
        exact ⟨rfl, N89⟩
      · refine own_via (fun t k => XS.icmpYes X88.here hx rfl (pc0 := 143) (pc' := 161) rfl (hb hby at_143) rfl (feq hc143_90).2 (by decide) (by decide) k) ?_
        show own_Go p e below _ (T88.setTop (mkF m 161 #[oI p0, oI p1, oI p2, oI p3, oI p4, oI sA, oI sB, oI mA, oI mB, oR a9, oD (FP.ddiv (FP.l2d ((mA.toInt64) * (mB.toInt64))) (FP.l2d (((sA.toInt64) * (sB.toInt64)) - ((mA.toInt64) * (mB.toInt64))))), .second, .unset, .unset, .unset, .unset, .unset, .unset] []))
        refine own_via (fun t k => XS.iload X88.here hx rfl (hb hby at_161) rfl k) ?_
        show own_Go p e below _ (T88.setTop (mkF m 163 #[oI p0, oI p1, oI p2, oI p3, oI p4, oI sA, oI sB, oI mA, oI mB, oR a9, oD (FP.ddiv (FP.l2d ((mA.toInt64) * (mB.toInt64))) (FP.l2d (((sA.toInt64) * (sB.toInt64)) - ((mA.toInt64) * (mB.toInt64))))), .second, .unset, .unset, .unset, .unset, .unset, .unset] [(.int mA)]))
        refine own_via (fun t k => XS.i2l X88.here hx rfl (hb hby at_163) rfl k) ?_
        show own_Go p e below _ (T88.setTop (mkF m 164 #[oI p0, oI p1, oI p2, oI p3, oI p4, oI sA, oI sB, oI mA, oI mB, oR a9, oD (FP.ddiv (FP.l2d ((mA.toInt64) * (mB.toInt64))) (FP.l2d (((sA.toInt64) * (sB.toInt64)) - ((mA.toInt64) * (mB.toInt64))))), .second, .unset, .unset, .unset, .unset, .unset, .unset] [(.long (mA.toInt64))]))
        refine own_via (fun t k => XS.iload X88.here hx rfl (hb hby at_164) rfl k) ?_
        show own_Go p e below _ (T88.setTop (mkF m 166 #[oI p0, oI p1, oI p2, oI p3, oI p4, oI sA, oI sB, oI mA, oI mB, oR a9, oD (FP.ddiv (FP.l2d ((mA.toInt64) * (mB.toInt64))) (FP.l2d (((sA.toInt64) * (sB.toInt64)) - ((mA.toInt64) * (mB.toInt64))))), .second, .unset, .unset, .unset, .unset, .unset, .unset] [(.int mB), (.long (mA.toInt64))]))
        refine own_via (fun t k => XS.i2l X88.here hx rfl (hb hby at_166) rfl k) ?_
        show own_Go p e below _ (T88.setTop (mkF m 167 #[oI p0, oI p1, oI p2, oI p3, oI p4, oI sA, oI sB, oI mA, oI mB, oR a9, oD (FP.ddiv (FP.l2d ((mA.toInt64) * (mB.toInt64))) (FP.l2d (((sA.toInt64) * (sB.toInt64)) - ((mA.toInt64) * (mB.toInt64))))), .second, .unset, .unset, .unset, .unset, .unset, .unset] [(.long (mB.toInt64)), (.long (mA.toInt64))]))
        refine own_via (fun t k => XS.lmul X88.here hx rfl (hb hby at_167) rfl k) ?_
        show own_Go p e below _ (T88.setTop (mkF m 168 #[oI p0, oI p1, oI p2, oI p3, oI p4, oI sA, oI sB, oI mA, oI mB, oR a9, oD (FP.ddiv (FP.l2d ((mA.toInt64) * (mB.toInt64))) (FP.l2d (((sA.toInt64) * (sB.toInt64)) - ((mA.toInt64) * (mB.toInt64))))), .second, .unset, .unset, .unset, .unset, .unset, .unset] [(.long ((mA.toInt64) * (mB.toInt64)))]))
        refine own_via (fun t k => XS.lstore X88.here hx rfl (hb hby at_168) rfl (l' := #[oI p0, oI p1, oI p2, oI p3, oI p4, oI sA, oI sB, oI mA, oI mB, oR a9, oD (FP.ddiv (FP.l2d ((mA.toInt64) * (mB.toInt64))) (FP.l2d (((sA.toInt64) * (sB.toInt64)) - ((mA.toInt64) * (mB.toInt64))))), .second, .unset, .unset, oJ ((mA.toInt64) * (mB.toInt64)), .second, .unset, .unset]) rfl k) ?_
        show own_Go p e below _ (T88.setTop (mkF m 170 #[oI p0, oI p1, oI p2, oI p3, oI p4, oI sA, oI sB, oI mA, oI mB, oR a9, oD (FP.ddiv (FP.l2d ((mA.toInt64) * (mB.toInt64))) (FP.l2d (((sA.toInt64) * (sB.toInt64)) - ((mA.toInt64) * (mB.toInt64))))), .second, .unset, .unset, oJ ((mA.toInt64) * (mB.toInt64)), .second, .unset, .unset] []))
        refine own_via (fun t k => XS.iload X88.here hx rfl (hb hby at_170) rfl k) ?_
        show own_Go p e below _ (T88.setTop (mkF m 172 #[oI p0, oI p1, oI p2, oI p3, oI p4, oI sA, oI sB, oI mA, oI mB, oR a9, oD (FP.ddiv (FP.l2d ((mA.toInt64) * (mB.toInt64))) (FP.l2d (((sA.toInt64) * (sB.toInt64)) - ((mA.toInt64) * (mB.toInt64))))), .second, .unset, .unset, oJ ((mA.toInt64) * (mB.toInt64)), .second, .unset, .unset] [(.int sA)]))
        refine own_via (fun t k => XS.iload X88.here hx rfl (hb hby at_172) rfl k) ?_
        show own_Go p e below _ (T88.setTop (mkF m 174 #[oI p0, oI p1, oI p2, oI p3, oI p4, oI sA, oI sB, oI mA, oI mB, oR a9, oD (FP.ddiv (FP.l2d ((mA.toInt64) * (mB.toInt64))) (FP.l2d (((sA.toInt64) * (sB.toInt64)) - ((mA.toInt64) * (mB.toInt64))))), .second, .unset, .unset, oJ ((mA.toInt64) * (mB.toInt64)), .second, .unset, .unset] [(.int mA), (.int sA)]))
        refine own_via (fun t k => XS.isub X88.here hx rfl (hb hby at_174) rfl k) ?_
        show own_Go p e below _ (T88.setTop (mkF m 175 #[oI p0, oI p1, oI p2, oI p3, oI p4, oI sA, oI sB, oI mA, oI mB, oR a9, oD (FP.ddiv (FP.l2d ((mA.toInt64) * (mB.toInt64))) (FP.l2d (((sA.toInt64) * (sB.toInt64)) - ((mA.toInt64) * (mB.toInt64))))), .second, .unset, .unset, oJ ((mA.toInt64) * (mB.toInt64)), .second, .unset, .unset] [(.int (sA - mA))]))
        refine own_via (fun t k => XS.i2l X88.here hx rfl (hb hby at_175) rfl k) ?_
        show own_Go p e below _ (T88.setTop (mkF m 176 #[oI p0, oI p1, oI p2, oI p3, oI p4, oI sA, oI sB, oI mA, oI mB, oR a9, oD (FP.ddiv (FP.l2d ((mA.toInt64) * (mB.toInt64))) (FP.l2d (((sA.toInt64) * (sB.toInt64)) - ((mA.toInt64) * (mB.toInt64))))), .second, .unset, .unset, oJ ((mA.toInt64) * (mB.toInt64)), .second, .unset, .unset] [(.long ((sA - mA).toInt64))]))
        refine own_via (fun t k => XS.iload X88.here hx rfl (hb hby at_176) rfl k) ?_
        show own_Go p e below _ (T88.setTop (mkF m 178 #[oI p0, oI p1, oI p2, oI p3, oI p4, oI sA, oI sB, oI mA, oI mB, oR a9, oD (FP.ddiv (FP.l2d ((mA.toInt64) * (mB.toInt64))) (FP.l2d (((sA.toInt64) * (sB.toInt64)) - ((mA.toInt64) * (mB.toInt64))))), .second, .unset, .unset, oJ ((mA.toInt64) * (mB.toInt64)), .second, .unset, .unset] [(.int sB), (.long ((sA - mA).toInt64))]))
        refine own_via (fun t k => XS.i2l X88.here hx rfl (hb hby at_178) rfl k) ?_
        show own_Go p e below _ (T88.setTop (mkF m 179 #[oI p0, oI p1, oI p2, oI p3, oI p4, oI sA, oI sB, oI mA, oI mB, oR a9, oD (FP.ddiv (FP.l2d ((mA.toInt64) * (mB.toInt64))) (FP.l2d (((sA.toInt64) * (sB.toInt64)) - ((mA.toInt64) * (mB.toInt64))))), .second, .unset, .unset, oJ ((mA.toInt64) * (mB.toInt64)), .second, .unset, .unset] [(.long (sB.toInt64)), (.long ((sA - mA).toInt64))]))
        refine own_via (fun t k => XS.lmul X88.here hx rfl (hb hby at_179) rfl k) ?_
        show own_Go p e below _ (T88.setTop (mkF m 180 #[oI p0, oI p1, oI p2, oI p3, oI p4, oI sA, oI sB, oI mA, oI mB, oR a9, oD (FP.ddiv (FP.l2d ((mA.toInt64) * (mB.toInt64))) (FP.l2d (((sA.toInt64) * (sB.toInt64)) - ((mA.toInt64) * (mB.toInt64))))), .second, .unset, .unset, oJ ((mA.toInt64) * (mB.toInt64)), .second, .unset, .unset] [(.long (((sA - mA).toInt64) * (sB.toInt64)))]))
        refine own_via (fun t k => XS.iload X88.here hx rfl (hb hby at_180) rfl k) ?_
        show own_Go p e below _ (T88.setTop (mkF m 182 #[oI p0, oI p1, oI p2, oI p3, oI p4, oI sA, oI sB, oI mA, oI mB, oR a9, oD (FP.ddiv (FP.l2d ((mA.toInt64) * (mB.toInt64))) (FP.l2d (((sA.toInt64) * (sB.toInt64)) - ((mA.toInt64) * (mB.toInt64))))), .second, .unset, .unset, oJ ((mA.toInt64) * (mB.toInt64)), .second, .unset, .unset] [(.int mA), (.long (((sA - mA).toInt64) * (sB.toInt64)))]))
        refine own_via (fun t k => XS.i2l X88.here hx rfl (hb hby at_182) rfl k) ?_
        show own_Go p e below _ (T88.setTop (mkF m 183 #[oI p0, oI p1, oI p2, oI p3, oI p4, oI sA, oI sB, oI mA, oI mB, oR a9, oD (FP.ddiv (FP.l2d ((mA.toInt64) * (mB.toInt64))) (FP.l2d (((sA.toInt64) * (sB.toInt64)) - ((mA.toInt64) * (mB.toInt64))))), .second, .unset, .unset, oJ ((mA.toInt64) * (mB.toInt64)), .second, .unset, .unset] [(.long (mA.toInt64)), (.long (((sA - mA).toInt64) * (sB.toInt64)))]))
        refine own_via (fun t k => XS.iload X88.here hx rfl (hb hby at_183) rfl k) ?_
        show own_Go p e below _ (T88.setTop (mkF m 185 #[oI p0, oI p1, oI p2, oI p3, oI p4, oI sA, oI sB, oI mA, oI mB, oR a9, oD (FP.ddiv (FP.l2d ((mA.toInt64) * (mB.toInt64))) (FP.l2d (((sA.toInt64) * (sB.toInt64)) - ((mA.toInt64) * (mB.toInt64))))), .second, .unset, .unset, oJ ((mA.toInt64) * (mB.toInt64)), .second, .unset, .unset] [(.int sB), (.long (mA.toInt64)), (.long (((sA - mA).toInt64) * (sB.toInt64)))]))
        refine own_via (fun t k => XS.iload X88.here hx rfl (hb hby at_185) rfl k) ?_
        show own_Go p e below _ (T88.setTop (mkF m 187 #[oI p0, oI p1, oI p2, oI p3, oI p4, oI sA, oI sB, oI mA, oI mB, oR a9, oD (FP.ddiv (FP.l2d ((mA.toInt64) * (mB.toInt64))) (FP.l2d (((sA.toInt64) * (sB.toInt64)) - ((mA.toInt64) * (mB.toInt64))))), .second, .unset, .unset, oJ ((mA.toInt64) * (mB.toInt64)), .second, .unset, .unset] [(.int mB), (.int sB), (.long (mA.toInt64)), (.long (((sA - mA).toInt64) * (sB.toInt64)))]))
        refine own_via (fun t k => XS.isub X88.here hx rfl (hb hby at_187) rfl k) ?_
        show own_Go p e below _ (T88.setTop (mkF m 188 #[oI p0, oI p1, oI p2, oI p3, oI p4, oI sA, oI sB, oI mA, oI mB, oR a9, oD (FP.ddiv (FP.l2d ((mA.toInt64) * (mB.toInt64))) (FP.l2d (((sA.toInt64) * (sB.toInt64)) - ((mA.toInt64) * (mB.toInt64))))), .second, .unset, .unset, oJ ((mA.toInt64) * (mB.toInt64)), .second, .unset, .unset] [(.int (sB - mB)), (.long (mA.toInt64)), (.long (((sA - mA).toInt64) * (sB.toInt64)))]))
        refine own_via (fun t k => XS.i2l X88.here hx rfl (hb hby at_188) rfl k) ?_
        show own_Go p e below _ (T88.setTop (mkF m 189 #[oI p0, oI p1, oI p2, oI p3, oI p4, oI sA, oI sB, oI mA, oI mB, oR a9, oD (FP.ddiv (FP.l2d ((mA.toInt64) * (mB.toInt64))) (FP.l2d (((sA.toInt64) * (sB.toInt64)) - ((mA.toInt64) * (mB.toInt64))))), .second, .unset, .unset, oJ ((mA.toInt64) * (mB.toInt64)), .second, .unset, .unset] [(.long ((sB - mB).toInt64)), (.long (mA.toInt64)), (.long (((sA - mA).toInt64) * (sB.toInt64)))]))
        refine own_via (fun t k => XS.lmul X88.here hx rfl (hb hby at_189) rfl k) ?_
        show own_Go p e below _ (T88.setTop (mkF m 190 #[oI p0, oI p1, oI p2, oI p3, oI p4, oI sA, oI sB, oI mA, oI mB, oR a9, oD (FP.ddiv (FP.l2d ((mA.toInt64) * (mB.toInt64))) (FP.l2d (((sA.toInt64) * (sB.toInt64)) - ((mA.toInt64) * (mB.toInt64))))), .second, .unset, .unset, oJ ((mA.toInt64) * (mB.toInt64)), .second, .unset, .unset] [(.long ((mA.toInt64) * ((sB - mB).toInt64))), (.long (((sA - mA).toInt64) * (sB.toInt64)))]))
        refine own_via (fun t k => XS.ladd X88.here hx rfl (hb hby at_190) rfl k) ?_
        show own_Go p e below _ (T88.setTop (mkF m 191 #[oI p0, oI p1, oI p2, oI p3, oI p4, oI sA, oI sB, oI mA, oI mB, oR a9, oD (FP.ddiv (FP.l2d ((mA.toInt64) * (mB.toInt64))) (FP.l2d (((sA.toInt64) * (sB.toInt64)) - ((mA.toInt64) * (mB.toInt64))))), .second, .unset, .unset, oJ ((mA.toInt64) * (mB.toInt64)), .second, .unset, .unset] [(.long ((((sA - mA).toInt64) * (sB.toInt64)) + ((mA.toInt64) * ((sB - mB).toInt64))))]))
        refine own_via (fun t k => XS.lstore X88.here hx rfl (hb hby at_191) rfl (l' := #[oI p0, oI p1, oI p2, oI p3, oI p4, oI sA, oI sB, oI mA, oI mB, oR a9, oD (FP.ddiv (FP.l2d ((mA.toInt64) * (mB.toInt64))) (FP.l2d (((sA.toInt64) * (sB.toInt64)) - ((mA.toInt64) * (mB.toInt64))))), .second, .unset, .unset, oJ ((mA.toInt64) * (mB.toInt64)), .second, oJ ((((sA - mA).toInt64) * (sB.toInt64)) + ((mA.toInt64) * ((sB - mB).toInt64))), .second]) rfl k) ?_
        show own_Go p e below _ (T88.setTop (mkF m 193 #[oI p0, oI p1, oI p2, oI p3, oI p4, oI sA, oI sB, oI mA, oI mB, oR a9, oD (FP.ddiv (FP.l2d ((mA.toInt64) * (mB.toInt64))) (FP.l2d (((sA.toInt64) * (sB.toInt64)) - ((mA.toInt64) * (mB.toInt64))))), .second, .unset, .unset, oJ ((mA.toInt64) * (mB.toInt64)), .second, oJ ((((sA - mA).toInt64) * (sB.toInt64)) + ((mA.toInt64) * ((sB - mB).toInt64))), .second] []))
        refine own_via (fun t k => XS.lload X88.here hx rfl (hb hby at_193) rfl k) ?_
        show own_Go p e below _ (T88.setTop (mkF m 195 #[oI p0, oI p1, oI p2, oI p3, oI p4, oI sA, oI sB, oI mA, oI mB, oR a9, oD (FP.ddiv (FP.l2d ((mA.toInt64) * (mB.toInt64))) (FP.l2d (((sA.toInt64) * (sB.toInt64)) - ((mA.toInt64) * (mB.toInt64))))), .second, .unset, .unset, oJ ((mA.toInt64) * (mB.toInt64)), .second, oJ ((((sA - mA).toInt64) * (sB.toInt64)) + ((mA.toInt64) * ((sB - mB).toInt64))), .second] [(.long ((mA.toInt64) * (mB.toInt64)))]))
        refine own_via (fun t k => XS.l2dS X88.here hx rfl (hb hby at_195) rfl rfl k) ?_
        show own_Go p e below _ (T88.setTop (mkF m 196 #[oI p0, oI p1, oI p2, oI p3, oI p4, oI sA, oI sB, oI mA, oI mB, oR a9, oD (FP.ddiv (FP.l2d ((mA.toInt64) * (mB.toInt64))) (FP.l2d (((sA.toInt64) * (sB.toInt64)) - ((mA.toInt64) * (mB.toInt64))))), .second, .unset, .unset, oJ ((mA.toInt64) * (mB.toInt64)), .second, oJ ((((sA - mA).toInt64) * (sB.toInt64)) + ((mA.toInt64) * ((sB - mB).toInt64))), .second] [(.double (FP.l2d ((mA.toInt64) * (mB.toInt64))))]))
        refine own_via (fun t k => XS.lload X88.here hx rfl (hb hby at_196) rfl k) ?_
        show own_Go p e below _ (T88.setTop (mkF m 198 #[oI p0, oI p1, oI p2, oI p3, oI p4, oI sA, oI sB, oI mA, oI mB, oR a9, oD (FP.ddiv (FP.l2d ((mA.toInt64) * (mB.toInt64))) (FP.l2d (((sA.toInt64) * (sB.toInt64)) - ((mA.toInt64) * (mB.toInt64))))), .second, .unset, .unset, oJ ((mA.toInt64) * (mB.toInt64)), .second, oJ ((((sA - mA).toInt64) * (sB.toInt64)) + ((mA.toInt64) * ((sB - mB).toInt64))), .second] [(.long ((((sA - mA).toInt64) * (sB.toInt64)) + ((mA.toInt64) * ((sB - mB).toInt64)))), (.double (FP.l2d ((mA.toInt64) * (mB.toInt64))))]))
        refine own_via (fun t k => XS.l2dS X88.here hx rfl (hb hby at_198) rfl rfl k) ?_
        show own_Go p e below _ (T88.setTop (mkF m 199 #[oI p0, oI p1, oI p2, oI p3, oI p4, oI sA, oI sB, oI mA, oI mB, oR a9, oD (FP.ddiv (FP.l2d ((mA.toInt64) * (mB.toInt64))) (FP.l2d (((sA.toInt64) * (sB.toInt64)) - ((mA.toInt64) * (mB.toInt64))))), .second, .unset, .unset, oJ ((mA.toInt64) * (mB.toInt64)), .second, oJ ((((sA - mA).toInt64) * (sB.toInt64)) + ((mA.toInt64) * ((sB - mB).toInt64))), .second] [(.double (FP.l2d ((((sA - mA).toInt64) * (sB.toInt64)) + ((mA.toInt64) * ((sB - mB).toInt64))))), (.double (FP.l2d ((mA.toInt64) * (mB.toInt64))))]))
        refine own_via (fun t k => XS.ddivS X88.here hx rfl (hb hby at_199) rfl (own_div (own_den sA sB mA mB hA0 hA1 hB0 hB1 hc118_84)) rfl k) ?_
        show own_Go p e below _ (T88.setTop (mkF m 200 #[oI p0, oI p1, oI p2, oI p3, oI p4, oI sA, oI sB, oI mA, oI mB, oR a9, oD (FP.ddiv (FP.l2d ((mA.toInt64) * (mB.toInt64))) (FP.l2d (((sA.toInt64) * (sB.toInt64)) - ((mA.toInt64) * (mB.toInt64))))), .second, .unset, .unset, oJ ((mA.toInt64) * (mB.toInt64)), .second, oJ ((((sA - mA).toInt64) * (sB.toInt64)) + ((mA.toInt64) * ((sB - mB).toInt64))), .second] [(.double (FP.ddiv (FP.l2d ((mA.toInt64) * (mB.toInt64))) (FP.l2d ((((sA - mA).toInt64) * (sB.toInt64)) + ((mA.toInt64) * ((sB - mB).toInt64))))))]))
        refine own_via (fun t k => XS.dstore X88.here hx rfl (hb hby at_200) rfl (l' := #[oI p0, oI p1, oI p2, oI p3, oI p4, oI sA, oI sB, oI mA, oI mB, oR a9, oD (FP.ddiv (FP.l2d ((mA.toInt64) * (mB.toInt64))) (FP.l2d (((sA.toInt64) * (sB.toInt64)) - ((mA.toInt64) * (mB.toInt64))))), .second, oD (FP.ddiv (FP.l2d ((mA.toInt64) * (mB.toInt64))) (FP.l2d ((((sA - mA).toInt64) * (sB.toInt64)) + ((mA.toInt64) * ((sB - mB).toInt64))))), .second, oJ ((mA.toInt64) * (mB.toInt64)), .second, oJ ((((sA - mA).toInt64) * (sB.toInt64)) + ((mA.toInt64) * ((sB - mB).toInt64))), .second]) rfl k) ?_
        show own_Go p e below _ (T88.setTop (mkF m 202 #[oI p0, oI p1, oI p2, oI p3, oI p4, oI sA, oI sB, oI mA, oI mB, oR a9, oD (FP.ddiv (FP.l2d ((mA.toInt64) * (mB.toInt64))) (FP.l2d (((sA.toInt64) * (sB.toInt64)) - ((mA.toInt64) * (mB.toInt64))))), .second, oD (FP.ddiv (FP.l2d ((mA.toInt64) * (mB.toInt64))) (FP.l2d ((((sA - mA).toInt64) * (sB.toInt64)) + ((mA.toInt64) * ((sB - mB).toInt64))))), .second, oJ ((mA.toInt64) * (mB.toInt64)), .second, oJ ((((sA - mA).toInt64) * (sB.toInt64)) + ((mA.toInt64) * ((sB - mB).toInt64))), .second] []))
        refine own_via (fun t k => XS.dload X88.here hx rfl (hb hby at_202) rfl k) ?_
        show own_Go p e below _ (T88.setTop (mkF m 204 #[oI p0, oI p1, oI p2, oI p3, oI p4, oI sA, oI sB, oI mA, oI mB, oR a9, oD (FP.ddiv (FP.l2d ((mA.toInt64) * (mB.toInt64))) (FP.l2d (((sA.toInt64) * (sB.toInt64)) - ((mA.toInt64) * (mB.toInt64))))), .second, oD (FP.ddiv (FP.l2d ((mA.toInt64) * (mB.toInt64))) (FP.l2d ((((sA - mA).toInt64) * (sB.toInt64)) + ((mA.toInt64) * ((sB - mB).toInt64))))), .second, oJ ((mA.toInt64) * (mB.toInt64)), .second, oJ ((((sA - mA).toInt64) * (sB.toInt64)) + ((mA.toInt64) * ((sB - mB).toInt64))), .second] [(.double (FP.ddiv (FP.l2d ((mA.toInt64) * (mB.toInt64))) (FP.l2d (((sA.toInt64) * (sB.toInt64)) - ((mA.toInt64) * (mB.toInt64))))))]))
        refine own_via (fun t k => XS.dload X88.here hx rfl (hb hby at_204) rfl k) ?_
        show own_Go p e below _ (T88.setTop (mkF m 206 #[oI p0, oI p1, oI p2, oI p3, oI p4, oI sA, oI sB, oI mA, oI mB, oR a9, oD (FP.ddiv (FP.l2d ((mA.toInt64) * (mB.toInt64))) (FP.l2d (((sA.toInt64) * (sB.toInt64)) - ((mA.toInt64) * (mB.toInt64))))), .second, oD (FP.ddiv (FP.l2d ((mA.toInt64) * (mB.toInt64))) (FP.l2d ((((sA - mA).toInt64) * (sB.toInt64)) + ((mA.toInt64) * ((sB - mB).toInt64))))), .second, oJ ((mA.toInt64) * (mB.toInt64)), .second, oJ ((((sA - mA).toInt64) * (sB.toInt64)) + ((mA.toInt64) * ((sB - mB).toInt64))), .second] [(.double (FP.ddiv (FP.l2d ((mA.toInt64) * (mB.toInt64))) (FP.l2d ((((sA - mA).toInt64) * (sB.toInt64)) + ((mA.toInt64) * ((sB - mB).toInt64)))))), (.double (FP.ddiv (FP.l2d ((mA.toInt64) * (mB.toInt64))) (FP.l2d (((sA.toInt64) * (sB.toInt64)) - ((mA.toInt64) * (mB.toInt64))))))]))
        refine own_via (fun t k => XS.dcmpS X88.here hx rfl (hb hby at_206) rfl (dcmpV_eq (by rw [own_same sA sB mA mB hA0 hA1 hB0 hB1]) (own_div (own_sub0 hc118_84)) .l) k) ?_
        show own_Go p e below _ (T88.setTop (mkF m 207 #[oI p0, oI p1, oI p2, oI p3, oI p4, oI sA, oI sB, oI mA, oI mB, oR a9, oD (FP.ddiv (FP.l2d ((mA.toInt64) * (mB.toInt64))) (FP.l2d (((sA.toInt64) * (sB.toInt64)) - ((mA.toInt64) * (mB.toInt64))))), .second, oD (FP.ddiv (FP.l2d ((mA.toInt64) * (mB.toInt64))) (FP.l2d ((((sA - mA).toInt64) * (sB.toInt64)) + ((mA.toInt64) * ((sB - mB).toInt64))))), .second, oJ ((mA.toInt64) * (mB.toInt64)), .second, oJ ((((sA - mA).toInt64) * (sB.toInt64)) + ((mA.toInt64) * ((sB - mB).toInt64))), .second] [(.int (0 : Int32))]))
        refine own_via (fun t k => XS.ifNo X88.here hx rfl (hb hby at_207) rfl ((if0 _ _).trans (teq (by decide : (0 : Int32) = (0 : Int32))).2) k) ?_
        show own_Go p e below _ (T88.setTop (mkF m 210 #[oI p0, oI p1, oI p2, oI p3, oI p4, oI sA, oI sB, oI mA, oI mB, oR a9, oD (FP.ddiv (FP.l2d ((mA.toInt64) * (mB.toInt64))) (FP.l2d (((sA.toInt64) * (sB.toInt64)) - ((mA.toInt64) * (mB.toInt64))))), .second, oD (FP.ddiv (FP.l2d ((mA.toInt64) * (mB.toInt64))) (FP.l2d ((((sA - mA).toInt64) * (sB.toInt64)) + ((mA.toInt64) * ((sB - mB).toInt64))))), .second, oJ ((mA.toInt64) * (mB.toInt64)), .second, oJ ((((sA - mA).toInt64) * (sB.toInt64)) + ((mA.toInt64) * ((sB - mB).toInt64))), .second] []))
        refine own_via (fun t k => XS.iconst X88.here hx rfl (hb hby at_210) k) ?_
        show own_Go p e below _ (T88.setTop (mkF m 211 #[oI p0, oI p1, oI p2, oI p3, oI p4, oI sA, oI sB, oI mA, oI mB, oR a9, oD (FP.ddiv (FP.l2d ((mA.toInt64) * (mB.toInt64))) (FP.l2d (((sA.toInt64) * (sB.toInt64)) - ((mA.toInt64) * (mB.toInt64))))), .second, oD (FP.ddiv (FP.l2d ((mA.toInt64) * (mB.toInt64))) (FP.l2d ((((sA - mA).toInt64) * (sB.toInt64)) + ((mA.toInt64) * ((sB - mB).toInt64))))), .second, oJ ((mA.toInt64) * (mB.toInt64)), .second, oJ ((((sA - mA).toInt64) * (sB.toInt64)) + ((mA.toInt64) * ((sB - mB).toInt64))), .second] [(.int (1 : Int32))]))
        refine own_via (fun t k => XS.goto X88.here hx rfl (pc0 := 211) (pc' := 215) rfl (hb hby at_211) (by decide) (by decide) k) ?_
        show own_Go p e below _ (T88.setTop (mkF m 215 #[oI p0, oI p1, oI p2, oI p3, oI p4, oI sA, oI sB, oI mA, oI mB, oR a9, oD (FP.ddiv (FP.l2d ((mA.toInt64) * (mB.toInt64))) (FP.l2d (((sA.toInt64) * (sB.toInt64)) - ((mA.toInt64) * (mB.toInt64))))), .second, oD (FP.ddiv (FP.l2d ((mA.toInt64) * (mB.toInt64))) (FP.l2d ((((sA - mA).toInt64) * (sB.toInt64)) + ((mA.toInt64) * ((sB - mB).toInt64))))), .second, oJ ((mA.toInt64) * (mB.toInt64)), .second, oJ ((((sA - mA).toInt64) * (sB.toInt64)) + ((mA.toInt64) * ((sB - mB).toInt64))), .second] [(.int (1 : Int32))]))
        obtain ⟨fs, hr, hrun, hended, hW, hsame⟩ := X88.leave (v := some (.int (1 : Int32))) (fun h => by rw [Bd.returns] at h; cases h)
        refine ⟨_, _, retN X88 hx (t := .boolean) Bd.returns (by simp) (hb hby at_215) hr, hrun, hended, _, _, rfl, ?_, ⟨_, rfl⟩, hW, hsame.mono (by decide) (by decide)⟩
        show Q0 Z p0 p1 p2 p3 p4 wd h0 n0 _ T88.heap _
        rw [e88]
        exact ⟨rfl, N89⟩
set_option maxRecDepth 65536 in
set_option maxHeartbeats 40000000 in
theorem comes_1 {Post : Tables → Env → Array Value → State → Outcome → State → Prop} (hpost : ∀ tb e args s v u, (limb_1_1.after args s (.returned v) u = true ∧ limb_1_2.after args s (.returned v) u = true ∧ True) → FrameEnd s (.returned v) u (Jvm.fieldLocs frame_1_writes args s ++ Jvm.arrayLocs frame_1_arrays args s ++ Jvm.staticLocs frame_1_statics s) 16 128 → Post tb e args s (.returned v) u) :
    ArmFor flags0 classFile x code maxLocals ret World_1 tables_1 room_1 Calls_1 rest_1 Pre_1 Post := by
  intro l hfl _ _ p e ha hc hk s m args below hf hA hF happ hP
  obtain ⟨hcalls, hrest, hpre⟩ := hP
  obtain ⟨-, -, -, hnamed, -, -, -, hat⟩ := (Spec.applies_iff hf).mp happ
  obtain ⟨hg, hn⟩ := and_e (Cond.before_iff.mp (show (Jvm.Cond.and given_1 narrow_1).before args s = true from hpre))
  obtain ⟨g1, g2⟩ := and_e hg
  obtain ⟨g3, g4⟩ := and_e g2
  obtain ⟨g5, g6⟩ := and_e g4
  obtain ⟨g7, g8⟩ := and_e g6
  obtain ⟨g9, g10⟩ := and_e g8
  obtain ⟨w0, w1, w2, w3, w4, rfl⟩ : ∃ w0 w1 w2 w3 w4 : Value, args = #[w0, w1, w2, w3, w4] := by
    have hs : args.size = 5 := by simpa [Cond.value, given_1] using g1
    obtain ⟨L⟩ := args
    match L, hs with
    | [w0, w1, w2, w3, w4], _ => exact ⟨w0, w1, w2, w3, w4, rfl⟩
  obtain ⟨hsets, hown0⟩ := atoms_of _ (rest_1_c_eq ▸ (show rest_1_c.before _ s = true from hrest))
  have hw := fun d (hd : d ∈ tables_1) => atoms_spec (ws := Jvm.Cond.code x code maxLocals ret :: tables_1) hat d (List.mem_cons_of_mem _ hd)
  obtain ⟨i0, ei0⟩ := is_v g3
  obtain rfl : w0 = (.int i0) := Option.some.inj ei0
  obtain ⟨i1, ei1⟩ := is_v g5
  obtain rfl : w1 = (.int i1) := Option.some.inj ei1
  obtain ⟨i2, ei2⟩ := is_v g7
  obtain rfl : w2 = (.int i2) := Option.some.inj ei2
  obtain ⟨i3, ei3⟩ := is_v g9
  obtain rfl : w3 = (.int i3) := Option.some.inj ei3
  obtain ⟨i4, ei4⟩ := is_v g10
  obtain rfl : w4 = (.int i4) := Option.some.inj ei4
  obtain ⟨wd, evd⟩ := arr_v (Cond.before_iff.mp (hsets _ (List.mem_of_getElem? (i := 6) rfl)))
  have S_d := Sta.start evd (Or.inr ⟨(own_w hw 7), (hsets _ (List.mem_of_getElem? (i := 2) rfl))⟩)
  obtain ⟨n, o, h1, h2, h3, _, L, rfl, ⟨rfl, N⟩, hq⟩ := rm0 l s _ hw tables_1 i0 i1 i2 i3 i4 wd s.heap s.heap.size (Nat.le_refl _) S_d p e ha hc hk s m _ below hf ((Spec.applies_iff_loose hf).mp happ).1 ⟨rfl, State.Warmed39.refl s, rfl⟩ trivial
  refine ⟨n, _, h1, h2, h3, hpost _ _ _ _ _ _ ⟨Cond.after_iff.mpr rfl, Cond.after_iff.mpr (eq_i res_at (Term.int_eval (1)) rfl), trivial⟩ ⟨hq.1, hq.2.1, (hq.2.2.sift fun y hy => Or.inr (N y hy)).mono (by decide) (by decide)⟩⟩
theorem main_1_1 : Claimed_1_1 := comes_1 fun _ _ _ _ _ _ h hF => ⟨h.1, hF⟩
theorem main_1_2 : Claimed_1_2 := comes_1 fun _ _ _ _ _ _ h hF => ⟨h.2.1, hF⟩
end Jvm.Pilot.@@N@@
namespace Jvm.Pilot.@@N@@
open Jvm Jvm.ClassFile Sem Op Lib Jvm.Free Jvm.Stand Jvm.Pilot.@@N@@.Jvm.D
/-! MADE BY PROGRAM (witnessworld.py) out of the Statement's table words and the real class files: 17 classes; the members and pool entries that the words name. The judged class is class 1, her method 1. -/
namespace start1
open Jvm.ClassFile
def u (s : String) : CpInfo := .utf8 (stringToUtf16 s)
/-- a pool by its gaps: so many unusable entries, then the entry; so many at the end -/
def gap : Nat → List CpInfo → List CpInfo
  | 0, r => r
  | n + 1, r => .unusable :: gap n r
def poolList (es : List (Nat × CpInfo)) (last : Nat) : List CpInfo := es.foldr (fun e r => gap e.1 (e.2 :: r)) (gap last [])
def pool (es : List (Nat × CpInfo)) (last : Nat) : Array CpInfo := ⟨poolList es last⟩
def fileOf (pool : Array CpInfo) (this : Nat) (attrs : Array Attribute := #[]) (ms : Array MethodInfo := #[]) (fl : Nat := 33) (sup : Nat := 0) (ifs : Array Nat := #[]) (fds : Array FieldInfo := #[]) : ClassFile where
  minorVersion := 0
  majorVersion := 65
  constantPool := pool
  accessFlags := fl
  thisClass := this
  superClass := sup
  interfaces := ifs
  fields := fds
  methods := ms
  attributes := attrs
def plain (name : String) (sup : Option ClassId) : Class where
  name := name
  kind := .ordinary
  loader := none
  accessFlags := 33
  super := sup
  interfaces := #[]
  cf := none
  fields := #[]
  methods := #[]
  instanceTypes := #[]
  staticTypes := #[]
  resolved := #[]
  callSites := []
  init := .initialized
  statics := none
  mirror := none

def pool0 : Array CpInfo := pool [(5, u "<init>"), (0, u "()V"), (1, .class_ 10), (1, u "java/lang/Object")] 113

def k0c0 : Code := { maxStack := 0, maxLocals := 1, code := object_method_1_code, exceptionTable := #[], attributes := #[] }
def k0m0 : Method := { name := "<init>", desc := "()V", sig := { parameters := [], returnType := none }, accessFlags := 1, code := some k0c0 }
/-- java/lang/Object -/
def k0 : Class := { plain "java/lang/Object" none with
  accessFlags := 33
  interfaces := #[]
  cf := some (fileOf pool0 8 #[] #[{ accessFlags := 1, nameIndex := 5, descriptorIndex := 6, attributes := #[] }] 33 0 #[] #[])
  fields := #[]
  methods := #[k0m0]
  instanceTypes := #[]
  staticTypes := #[]
  resolved := Array.replicate 124 none
  statics := none }

def pool1 : Array CpInfo := pool [(2, .class_ 4), (0, .nameAndType 5 6), (0, u "java/lang/Object"), (0, u "<init>"), (0, u "()V"), (0, .integer 2147483647), (0, .long 2147483647), (1, .class_ 11), (0, u "com/example/eurycleia/eurycleia/similarity/CopyReport"), (0, .class_ 13), (0, u "java/util/ArrayList"), (0, .methodref 12 3), (0, .methodref 10 16), (0, .nameAndType 5 17), (0, u "(IIIILjava/util/List;Ljava/util/List;)V"), (0, .methodref 10 19), (0, .nameAndType 20 21), (0, u "oddsRatio"), (0, u "()D"), (0, .double 4636737291354636288), (1, .class_ 25), (0, u "com/example/eurycleia/eurycleia/similarity/CopyReportOddsRatioPinLaw"), (2, u "law"), (0, u "(IIIII)Z")] 3

def k1m0 : Method := { name := "<init>", desc := "()V", sig := { parameters := [], returnType := none }, accessFlags := 1, code := none }
def k1c1 : Code := { maxStack := 9, maxLocals := 18, code := code, exceptionTable := #[], attributes := #[] }
def k1m1 : Method := { name := "law", desc := "(IIIII)Z", sig := { parameters := [.int, .int, .int, .int, .int], returnType := some .boolean }, accessFlags := 9, code := some k1c1 }
/-- com/example/eurycleia/eurycleia/similarity/CopyReportOddsRatioPinLaw -/
def k1 : Class := { plain "com/example/eurycleia/eurycleia/similarity/CopyReportOddsRatioPinLaw" (some 0) with
  accessFlags := 49
  interfaces := #[]
  cf := some (fileOf pool1 24 #[] #[{ accessFlags := 1, nameIndex := 5, descriptorIndex := 6, attributes := #[] }, { accessFlags := 9, nameIndex := 28, descriptorIndex := 29, attributes := #[] }] 49 2 #[] #[])
  fields := #[]
  methods := #[k1m0, k1m1]
  instanceTypes := #[]
  staticTypes := #[]
  resolved := Array.replicate 33 none
  statics := none }

def pool2 : Array CpInfo := pool [(1, .methodref 2 3), (0, .class_ 4), (0, .nameAndType 5 6), (0, u "java/lang/Object"), (0, u "<init>"), (0, u "()V"), (0, .class_ 8), (0, u "java/lang/Record")] 13

def k2c0 : Code := { maxStack := 1, maxLocals := 1, code := jdk_30_method_1_code, exceptionTable := #[], attributes := #[] }
def k2m0 : Method := { name := "<init>", desc := "()V", sig := { parameters := [], returnType := none }, accessFlags := 4, code := some k2c0 }
/-- java/lang/Record -/
def k2 : Class := { plain "java/lang/Record" (some 0) with
  accessFlags := 1057
  interfaces := #[]
  cf := some (fileOf pool2 7 #[] #[{ accessFlags := 4, nameIndex := 5, descriptorIndex := 6, attributes := #[] }] 1057 2 #[] #[])
  fields := #[]
  methods := #[k2m0]
  instanceTypes := #[]
  staticTypes := #[]
  resolved := Array.replicate 22 none
  statics := none }

def pool3 : Array CpInfo := pool [(1, .methodref 2 3), (0, .class_ 4), (0, .nameAndType 5 6), (0, u "java/lang/Record"), (0, u "<init>"), (0, u "()V"), (0, .fieldref 8 9), (0, .class_ 10), (0, .nameAndType 11 12), (0, u "com/example/eurycleia/eurycleia/similarity/CopyReport"), (0, u "sentencesA"), (0, u "I"), (0, .fieldref 8 14), (0, .nameAndType 15 12), (0, u "sentencesB"), (0, .fieldref 8 17), (0, .nameAndType 18 12), (0, u "matchedA"), (0, .fieldref 8 20), (0, .nameAndType 21 12), (0, u "matchedB"), (0, .fieldref 8 23), (0, .nameAndType 24 25), (0, u "bestMatches"), (0, u "Ljava/util/List;"), (0, .fieldref 8 27), (0, .nameAndType 28 25), (0, u "matches"), (38, u "(IIIILjava/util/List;Ljava/util/List;)V"), (6, .double 4636737291354636288), (15, u "ODDS_OF_A_WHOLE_COPY"), (0, u "D"), (9, u "()D"), (1, u "oddsRatio")] 29

def k3c0 : Code := { maxStack := 2, maxLocals := 7, code := prog_13_method_1_code, exceptionTable := #[], attributes := #[] }
def k3m0 : Method := { name := "<init>", desc := "(IIIILjava/util/List;Ljava/util/List;)V", sig := { parameters := [.int, .int, .int, .int, (.object "java/util/List"), (.object "java/util/List")], returnType := none }, accessFlags := 1, code := some k3c0 }
def k3c1 : Code := { maxStack := 6, maxLocals := 7, code := prog_13_method_5_code, exceptionTable := #[], attributes := #[] }
def k3m1 : Method := { name := "oddsRatio", desc := "()D", sig := { parameters := [], returnType := some .double }, accessFlags := 1, code := some k3c1 }
/-- com/example/eurycleia/eurycleia/similarity/CopyReport -/
def k3 : Class := { plain "com/example/eurycleia/eurycleia/similarity/CopyReport" (some 2) with
  accessFlags := 49
  interfaces := #[]
  cf := some (fileOf pool3 8 #[] #[{ accessFlags := 1, nameIndex := 5, descriptorIndex := 67, attributes := #[] }, { accessFlags := 1, nameIndex := 103, descriptorIndex := 101, attributes := #[] }] 49 2 #[] #[{ accessFlags := 18, nameIndex := 11, descriptorIndex := 12, attributes := #[] }, { accessFlags := 18, nameIndex := 15, descriptorIndex := 12, attributes := #[] }, { accessFlags := 18, nameIndex := 18, descriptorIndex := 12, attributes := #[] }, { accessFlags := 18, nameIndex := 21, descriptorIndex := 12, attributes := #[] }, { accessFlags := 18, nameIndex := 24, descriptorIndex := 25, attributes := #[] }, { accessFlags := 18, nameIndex := 28, descriptorIndex := 25, attributes := #[] }, { accessFlags := 26, nameIndex := 90, descriptorIndex := 91, attributes := #[] }])
  fields := #[{ name := "sentencesA", type := .int, accessFlags := 18, slot := 0, constantValue := 0 }, { name := "sentencesB", type := .int, accessFlags := 18, slot := 1, constantValue := 0 }, { name := "matchedA", type := .int, accessFlags := 18, slot := 2, constantValue := 0 }, { name := "matchedB", type := .int, accessFlags := 18, slot := 3, constantValue := 0 }, { name := "bestMatches", type := (.object "java/util/List"), accessFlags := 18, slot := 4, constantValue := 0 }, { name := "matches", type := (.object "java/util/List"), accessFlags := 18, slot := 5, constantValue := 0 }, { name := "ODDS_OF_A_WHOLE_COPY", type := .double, accessFlags := 26, slot := 0, constantValue := 0 }]
  methods := #[k3m0, k3m1]
  instanceTypes := #[.int, .int, .int, .int, (.object "java/util/List"), (.object "java/util/List")]
  staticTypes := #[.double]
  resolved := Array.replicate 133 none
  statics := none }

def pool4 : Array CpInfo := pool [(8, .class_ 10), (1, u "java/lang/Iterable"), (24, .class_ 36), (0, u "java/lang/Object")] 25

/-- java/lang/Iterable -/
def k4 : Class := { plain "java/lang/Iterable" (some 0) with
  accessFlags := 1537
  interfaces := #[]
  cf := some (fileOf pool4 8 #[] #[] 1537 35 #[] #[])
  fields := #[]
  methods := #[]
  instanceTypes := #[]
  staticTypes := #[]
  resolved := Array.replicate 62 none
  statics := none }

def pool5 : Array CpInfo := pool [(10, .class_ 12), (1, u "java/util/Collection"), (47, .class_ 61), (0, u "java/lang/Object"), (0, .class_ 63), (0, u "java/lang/Iterable")] 51

/-- java/util/Collection -/
def k5 : Class := { plain "java/util/Collection" (some 0) with
  accessFlags := 1537
  interfaces := #[4]
  cf := some (fileOf pool5 10 #[] #[] 1537 60 #[62] #[])
  fields := #[]
  methods := #[]
  instanceTypes := #[]
  staticTypes := #[]
  resolved := Array.replicate 115 none
  statics := none }

def pool6 : Array CpInfo := pool [(1, .methodref 2 3), (0, .class_ 4), (0, .nameAndType 5 6), (0, u "java/lang/Object"), (0, u "<init>"), (0, u "()V"), (1, .class_ 10), (1, u "java/util/AbstractCollection"), (66, .class_ 78), (0, u "java/util/Collection")] 81

def k6c0 : Code := { maxStack := 1, maxLocals := 1, code := jdk_22_method_1_code, exceptionTable := #[], attributes := #[] }
def k6m0 : Method := { name := "<init>", desc := "()V", sig := { parameters := [], returnType := none }, accessFlags := 4, code := some k6c0 }
/-- java/util/AbstractCollection -/
def k6 : Class := { plain "java/util/AbstractCollection" (some 0) with
  accessFlags := 1057
  interfaces := #[5]
  cf := some (fileOf pool6 8 #[] #[{ accessFlags := 4, nameIndex := 5, descriptorIndex := 6, attributes := #[] }] 1057 2 #[77] #[])
  fields := #[]
  methods := #[k6m0]
  instanceTypes := #[]
  staticTypes := #[]
  resolved := Array.replicate 160 none
  statics := none }

def pool7 : Array CpInfo := pool [(8, .class_ 10), (1, u "java/util/SequencedCollection"), (15, .class_ 27), (0, u "java/lang/Object"), (0, .class_ 29), (0, u "java/util/Collection")] 27

/-- java/util/SequencedCollection -/
def k7 : Class := { plain "java/util/SequencedCollection" (some 0) with
  accessFlags := 1537
  interfaces := #[5]
  cf := some (fileOf pool7 8 #[] #[] 1537 26 #[28] #[])
  fields := #[]
  methods := #[]
  instanceTypes := #[]
  staticTypes := #[]
  resolved := Array.replicate 57 none
  statics := none }

def pool8 : Array CpInfo := pool [(8, .class_ 10), (1, u "java/util/List"), (92, .class_ 104), (0, u "java/lang/Object"), (15, .class_ 121), (0, u "java/util/SequencedCollection")] 129

/-- java/util/List -/
def k8 : Class := { plain "java/util/List" (some 0) with
  accessFlags := 1537
  interfaces := #[7]
  cf := some (fileOf pool8 8 #[] #[] 1537 103 #[120] #[])
  fields := #[]
  methods := #[]
  instanceTypes := #[]
  staticTypes := #[]
  resolved := Array.replicate 251 none
  statics := none }

def pool9 : Array CpInfo := pool [(1, .methodref 2 3), (0, .class_ 4), (0, .nameAndType 5 6), (0, u "java/util/AbstractCollection"), (0, u "<init>"), (0, u "()V"), (0, .fieldref 8 9), (0, .class_ 10), (0, .nameAndType 11 12), (0, u "java/util/AbstractList"), (0, u "modCount"), (0, u "I"), (64, .class_ 78), (0, u "java/util/AbstractList$Itr"), (3, .class_ 83), (0, u "java/util/AbstractList$ListItr"), (9, .class_ 94), (0, u "java/util/AbstractList$RandomAccessSubList"), (3, .class_ 99), (0, u "java/util/AbstractList$SubList"), (33, .class_ 134), (0, u "java/util/List"), (73, .class_ 209), (0, u "java/util/AbstractList$SubList$1"), (0, .class_ 211), (0, u "java/util/AbstractList$RandomAccessSpliterator")] 6

def k9c0 : Code := { maxStack := 2, maxLocals := 1, code := jdk_39_method_1_code, exceptionTable := #[], attributes := #[] }
def k9m0 : Method := { name := "<init>", desc := "()V", sig := { parameters := [], returnType := none }, accessFlags := 4, code := some k9c0 }
/-- java/util/AbstractList -/
def k9 : Class := { plain "java/util/AbstractList" (some 6) with
  accessFlags := 1057
  interfaces := #[8]
  cf := some (fileOf pool9 8 #[.nestMembers #[93, 98, 208, 210, 82, 77]] #[{ accessFlags := 4, nameIndex := 5, descriptorIndex := 6, attributes := #[] }] 1057 2 #[133] #[{ accessFlags := 132, nameIndex := 11, descriptorIndex := 12, attributes := #[] }])
  fields := #[{ name := "modCount", type := .int, accessFlags := 132, slot := 0, constantValue := 0 }]
  methods := #[k9m0]
  instanceTypes := #[.int]
  staticTypes := #[]
  resolved := Array.replicate 218 none
  statics := none }

def pool10 : Array CpInfo := pool [(1, .class_ 2), (0, u "java/util/RandomAccess"), (0, .class_ 4), (0, u "java/lang/Object")] 2

/-- java/util/RandomAccess -/
def k10 : Class := { plain "java/util/RandomAccess" (some 0) with
  accessFlags := 1537
  interfaces := #[]
  cf := some (fileOf pool10 1 #[] #[] 1537 3 #[] #[])
  fields := #[]
  methods := #[]
  instanceTypes := #[]
  staticTypes := #[]
  resolved := Array.replicate 7 none
  statics := none }

def pool11 : Array CpInfo := pool [(1, .class_ 2), (0, u "java/lang/Cloneable"), (0, .class_ 4), (0, u "java/lang/Object")] 2

/-- java/lang/Cloneable -/
def k11 : Class := { plain "java/lang/Cloneable" (some 0) with
  accessFlags := 1537
  interfaces := #[]
  cf := some (fileOf pool11 1 #[] #[] 1537 3 #[] #[])
  fields := #[]
  methods := #[]
  instanceTypes := #[]
  staticTypes := #[]
  resolved := Array.replicate 7 none
  statics := none }

def pool12 : Array CpInfo := pool [(1, .class_ 2), (0, u "java/io/Serializable"), (0, .class_ 4), (0, u "java/lang/Object")] 2

/-- java/io/Serializable -/
def k12 : Class := { plain "java/io/Serializable" (some 0) with
  accessFlags := 1537
  interfaces := #[]
  cf := some (fileOf pool12 1 #[] #[] 1537 3 #[] #[])
  fields := #[]
  methods := #[]
  instanceTypes := #[]
  staticTypes := #[]
  resolved := Array.replicate 7 none
  statics := none }

def pool13 : Array CpInfo := pool [(1, .methodref 2 3), (0, .class_ 4), (0, .nameAndType 5 6), (0, u "java/util/AbstractList"), (0, u "<init>"), (0, u "()V"), (2, .fieldref 10 11), (0, .class_ 12), (0, .nameAndType 13 14), (0, u "java/util/ArrayList"), (0, u "elementData"), (0, u "[Ljava/lang/Object;"), (2, u "EMPTY_ELEMENTDATA"), (21, .fieldref 10 40), (0, .nameAndType 41 14), (0, u "DEFAULTCAPACITY_EMPTY_ELEMENTDATA"), (8, u "size"), (0, u "I"), (96, .class_ 149), (0, u "java/util/List"), (112, .class_ 263), (0, u "java/util/ArrayList$ListItr"), (3, .class_ 268), (0, u "java/util/ArrayList$Itr"), (7, .class_ 277), (0, u "java/util/ArrayList$SubList"), (12, .class_ 291), (0, u "java/util/ArrayList$ArrayListSpliterator"), (37, .class_ 330), (0, u "java/util/RandomAccess"), (0, .class_ 332), (0, u "java/lang/Cloneable"), (0, .class_ 334), (0, u "java/io/Serializable"), (0, u "serialVersionUID"), (0, u "J"), (3, u "DEFAULT_CAPACITY"), (159, .class_ 501), (0, u "java/util/ArrayList$SubList$2"), (0, .class_ 503), (0, u "java/util/ArrayList$SubList$1")] 5

def k13c0 : Code := { maxStack := 2, maxLocals := 1, code := jdk_38_method_2_code, exceptionTable := #[], attributes := #[] }
def k13m0 : Method := { name := "<init>", desc := "()V", sig := { parameters := [], returnType := none }, accessFlags := 1, code := some k13c0 }
/-- java/util/ArrayList -/
def k13 : Class := { plain "java/util/ArrayList" (some 9) with
  accessFlags := 33
  interfaces := #[8, 10, 11, 12]
  cf := some (fileOf pool13 10 #[.nestMembers #[290, 276, 500, 502, 262, 267]] #[{ accessFlags := 1, nameIndex := 5, descriptorIndex := 6, attributes := #[] }] 33 2 #[148, 329, 331, 333] #[{ accessFlags := 26, nameIndex := 335, descriptorIndex := 336, attributes := #[] }, { accessFlags := 26, nameIndex := 340, descriptorIndex := 51, attributes := #[] }, { accessFlags := 26, nameIndex := 17, descriptorIndex := 14, attributes := #[] }, { accessFlags := 26, nameIndex := 41, descriptorIndex := 14, attributes := #[] }, { accessFlags := 128, nameIndex := 13, descriptorIndex := 14, attributes := #[] }, { accessFlags := 2, nameIndex := 50, descriptorIndex := 51, attributes := #[] }])
  fields := #[{ name := "serialVersionUID", type := .long, accessFlags := 26, slot := 0, constantValue := 0 }, { name := "DEFAULT_CAPACITY", type := .int, accessFlags := 26, slot := 1, constantValue := 0 }, { name := "EMPTY_ELEMENTDATA", type := (.array (.object "java/lang/Object")), accessFlags := 26, slot := 2, constantValue := 0 }, { name := "DEFAULTCAPACITY_EMPTY_ELEMENTDATA", type := (.array (.object "java/lang/Object")), accessFlags := 26, slot := 3, constantValue := 0 }, { name := "elementData", type := (.array (.object "java/lang/Object")), accessFlags := 128, slot := 1, constantValue := 0 }, { name := "size", type := .int, accessFlags := 2, slot := 2, constantValue := 0 }]
  methods := #[k13m0]
  instanceTypes := #[.int, (.array (.object "java/lang/Object")), .int]
  staticTypes := #[.long, .int, (.array (.object "java/lang/Object")), (.array (.object "java/lang/Object"))]
  resolved := Array.replicate 509 none
  statics := some 0 }

/-- the primitive byte -/
def k14 : Class := { plain "byte" none with kind := .primitive 'B', accessFlags := 0x411 }
/-- [B -/
def k15 : Class := { plain "[B" (some 0) with kind := .array 14 .byte, interfaces := #[11, 12], accessFlags := 1041 }

/-- [Ljava/lang/Object; -/
def k16 : Class := { plain "[Ljava/lang/Object;" (some 0) with kind := .array 0 (.object "java/lang/Object"), interfaces := #[11, 12], accessFlags := 1041 }

def heap : Heap := #[{ cls := 13, slots := #[.long 0, .int 0, .ref 1, .ref 2], vm := .statics 13 },
  { cls := 16, slots := #[], vm := .none },
  { cls := 16, slots := #[], vm := .none }]
def classes : Array Class := #[k0, k1, k2, k3, k4, k5, k6, k7, k8, k9, k10, k11, k12, k13, k14, k15, k16]
def interned : List (Array UInt16 × Addr) := []
def slotsUsed : Nat := 4
def theMethod : MethodId := ⟨1, 1⟩
def args0 : Array Value := #[.int 5, .int 3, .int 2, .int 65, .int 16]
def aboutOver (below : List Frame) : State where
  vm := { classes := classes, interned := interned.toArray }
  heap := heap
  slotsUsed := slotsUsed
  threads := #[{ frames := .invoking theMethod args0 :: below }]
def below0 : List Frame := [.native { method := ⟨0, 0⟩, args := #[] }]
def about1 : State := aboutOver below0
def p0 : Program := .bare "" "" ""
def e0 : Env := launch0.env 0 0 0
theorem w_frames : about1.frames = Frame.invoking theMethod args0 :: below0 := rfl
set_option maxRecDepth 65536 in
theorem w_args : argsFit about1.vm theMethod args0 = true := by decide +kernel
set_option maxRecDepth 65536 in
theorem w_heap : heapFits about1 = true := by decide +kernel
set_option maxRecDepth 65536 in
theorem w_runnable : about1.curStatus? = some .runnable := by decide +kernel
set_option maxRecDepth 65536 in
theorem w_alone : about1.alone = true := by decide +kernel
set_option maxRecDepth 65536 in
theorem w_named : about1.methodNamed? x = some theMethod := by decide +kernel
set_option maxRecDepth 65536 in
theorem w_hears : about1.hears theMethod below0 = true := by decide +kernel
set_option maxRecDepth 65536 in
theorem w_ripe : about1.ripe theMethod args0 below0 = true := by decide +kernel
theorem w_running : about1.status = .running := rfl
set_option maxRecDepth 65536 in
theorem w_room : about1.hasRoom e0.platform room_1 = true :=
  launch0.hasRoom_least _ room_1 (by decide +kernel) (by decide +kernel) (by decide +kernel) (by decide +kernel) (by decide +kernel) (by decide +kernel)
theorem allAtoms_all (ts : List Jvm.Cond) (a : Array Jvm.Value) (st : Jvm.State) : (allAtoms ts).before a st = ts.all (fun c => c.before a st) := by
  induction ts with
  | nil => rfl
  | cons c t ih =>
    show (Jvm.Cond.and c (allAtoms t)).before a st = _
    rw [Jvm.Cond.before_and, ih, List.all_cons]
def words1 : List Jvm.Cond := Jvm.Cond.code x code maxLocals ret :: tables_1
/-- a 'code' word, met by the world's own term for the bytes: nothing is compared byte by byte -/
theorem code_word {y : MethodName} {bytes : ByteArray} {mx : Nat} {rt : Option FieldType} {a : Array Value} {s : State} {m : MethodId} {meth : Method} {c : Code} (h1 : s.methodNamed? y = some m) (h2 : s.vm.method? m = some meth) (h3 : meth.code = some c) (h4 : c.code = bytes)
    (h5 : (c.maxLocals == mx && c.exceptionTable.isEmpty && decide (c.maxStack ≤ mostOperands) && decide (meth.sig.returnType = rt) && !meth.locks && decide (parseMethodDescriptor y.desc = some meth.sig)) = true) : (Jvm.Cond.code y bytes mx rt).before a s = true := by
  simp only [Bool.and_eq_true, beq_iff_eq, Bool.not_eq_true', decide_eq_true_eq] at h5
  obtain ⟨⟨⟨⟨⟨g1, g2⟩, g3⟩, g4⟩, g5⟩, g6⟩ := h5
  simp [Cond.before, Cond.holds, Cond.value, h1, h2, h3, h4, g1, g2, g3, g4, g5, g6]
def isCode : Jvm.Cond → Bool
  | .code _ _ _ _ => true
  | _ => false
theorem all_split {L : List Jvm.Cond} {P : Jvm.Cond → Bool} (h1 : L.all (fun c => isCode c || P c) = true) (h2 : ∀ c ∈ L.filter isCode, P c = true) : L.all P = true := by
  refine List.all_eq_true.mpr fun c hc => ?_
  have h := List.all_eq_true.mp h1 c hc
  rcases Bool.eq_false_or_eq_true (isCode c) with hi | hi
  · exact h2 c (List.mem_filter.mpr ⟨hc, hi⟩)
  · simpa [hi] using h
set_option maxRecDepth 65536 in
theorem w_c0 : (Jvm.Cond.code x code maxLocals ret).before args0 about1 = true := code_word (m := ⟨1, 1⟩) (meth := k1m1) (c := k1c1) (by decide +kernel) rfl rfl rfl (by decide +kernel)
set_option maxRecDepth 65536 in
theorem w_c1 : (Jvm.Cond.code ({ cls := "java/util/ArrayList", name := "<init>", desc := "()V" } : Jvm.MethodName) jdk_38_method_2_code (1 : Nat) (Option.none : Option Jvm.ClassFile.FieldType)).before args0 about1 = true := code_word (m := ⟨13, 0⟩) (meth := k13m0) (c := k13c0) (by decide +kernel) rfl rfl rfl (by decide +kernel)
set_option maxRecDepth 65536 in
theorem w_c2 : (Jvm.Cond.code ({ cls := "java/util/AbstractList", name := "<init>", desc := "()V" } : Jvm.MethodName) jdk_39_method_1_code (1 : Nat) (Option.none : Option Jvm.ClassFile.FieldType)).before args0 about1 = true := code_word (m := ⟨9, 0⟩) (meth := k9m0) (c := k9c0) (by decide +kernel) rfl rfl rfl (by decide +kernel)
set_option maxRecDepth 65536 in
theorem w_c3 : (Jvm.Cond.code ({ cls := "java/util/AbstractCollection", name := "<init>", desc := "()V" } : Jvm.MethodName) jdk_22_method_1_code (1 : Nat) (Option.none : Option Jvm.ClassFile.FieldType)).before args0 about1 = true := code_word (m := ⟨6, 0⟩) (meth := k6m0) (c := k6c0) (by decide +kernel) rfl rfl rfl (by decide +kernel)
set_option maxRecDepth 65536 in
theorem w_c4 : (Jvm.Cond.code ({ cls := "java/lang/Object", name := "<init>", desc := "()V" } : Jvm.MethodName) object_method_1_code (1 : Nat) (Option.none : Option Jvm.ClassFile.FieldType)).before args0 about1 = true := code_word (m := ⟨0, 0⟩) (meth := k0m0) (c := k0c0) (by decide +kernel) rfl rfl rfl (by decide +kernel)
set_option maxRecDepth 65536 in
theorem w_c5 : (Jvm.Cond.code ({ cls := "com/example/eurycleia/eurycleia/similarity/CopyReport", name := "<init>", desc := "(IIIILjava/util/List;Ljava/util/List;)V" } : Jvm.MethodName) prog_13_method_1_code (7 : Nat) (Option.none : Option Jvm.ClassFile.FieldType)).before args0 about1 = true := code_word (m := ⟨3, 0⟩) (meth := k3m0) (c := k3c0) (by decide +kernel) rfl rfl rfl (by decide +kernel)
set_option maxRecDepth 65536 in
theorem w_c6 : (Jvm.Cond.code ({ cls := "java/lang/Record", name := "<init>", desc := "()V" } : Jvm.MethodName) jdk_30_method_1_code (1 : Nat) (Option.none : Option Jvm.ClassFile.FieldType)).before args0 about1 = true := code_word (m := ⟨2, 0⟩) (meth := k2m0) (c := k2c0) (by decide +kernel) rfl rfl rfl (by decide +kernel)
set_option maxRecDepth 65536 in
theorem w_c7 : (Jvm.Cond.code ({ cls := "com/example/eurycleia/eurycleia/similarity/CopyReport", name := "oddsRatio", desc := "()D" } : Jvm.MethodName) prog_13_method_5_code (7 : Nat) (Option.some Jvm.ClassFile.FieldType.double)).before args0 about1 = true := code_word (m := ⟨3, 1⟩) (meth := k3m1) (c := k3c1) (by decide +kernel) rfl rfl rfl (by decide +kernel)
def codes1 : List Jvm.Cond := [Jvm.Cond.code x code maxLocals ret, Jvm.Cond.code ({ cls := "java/util/ArrayList", name := "<init>", desc := "()V" } : Jvm.MethodName) jdk_38_method_2_code (1 : Nat) (Option.none : Option Jvm.ClassFile.FieldType), Jvm.Cond.code ({ cls := "java/util/AbstractList", name := "<init>", desc := "()V" } : Jvm.MethodName) jdk_39_method_1_code (1 : Nat) (Option.none : Option Jvm.ClassFile.FieldType), Jvm.Cond.code ({ cls := "java/util/AbstractCollection", name := "<init>", desc := "()V" } : Jvm.MethodName) jdk_22_method_1_code (1 : Nat) (Option.none : Option Jvm.ClassFile.FieldType), Jvm.Cond.code ({ cls := "java/lang/Object", name := "<init>", desc := "()V" } : Jvm.MethodName) object_method_1_code (1 : Nat) (Option.none : Option Jvm.ClassFile.FieldType), Jvm.Cond.code ({ cls := "com/example/eurycleia/eurycleia/similarity/CopyReport", name := "<init>", desc := "(IIIILjava/util/List;Ljava/util/List;)V" } : Jvm.MethodName) prog_13_method_1_code (7 : Nat) (Option.none : Option Jvm.ClassFile.FieldType), Jvm.Cond.code ({ cls := "java/lang/Record", name := "<init>", desc := "()V" } : Jvm.MethodName) jdk_30_method_1_code (1 : Nat) (Option.none : Option Jvm.ClassFile.FieldType), Jvm.Cond.code ({ cls := "com/example/eurycleia/eurycleia/similarity/CopyReport", name := "oddsRatio", desc := "()D" } : Jvm.MethodName) prog_13_method_5_code (7 : Nat) (Option.some Jvm.ClassFile.FieldType.double)]
set_option maxRecDepth 65536 in
theorem codes_eq : words1.filter isCode = codes1 := rfl
theorem w_codes : ∀ c ∈ words1.filter isCode, c.before args0 about1 = true := by
  rw [codes_eq]
  intro c hc
  simp only [codes1, List.mem_cons, List.not_mem_nil, or_false] at hc
  rcases hc with rfl | rfl | rfl | rfl | rfl | rfl | rfl | rfl
  · exact w_c0
  · exact w_c1
  · exact w_c2
  · exact w_c3
  · exact w_c4
  · exact w_c5
  · exact w_c6
  · exact w_c7
set_option maxRecDepth 65536 in
theorem w_t1 : (words1.take 24).all (fun c => isCode c || c.before args0 about1) = true := by decide +kernel
set_option maxRecDepth 65536 in
theorem w_t2 : ((words1.drop 24).take 24).all (fun c => isCode c || c.before args0 about1) = true := by decide +kernel
set_option maxRecDepth 65536 in
theorem w_t3 : ((words1.drop 24).drop 24).all (fun c => isCode c || c.before args0 about1) = true := by decide +kernel
theorem w_tables : (allAtoms (Jvm.Cond.code x code maxLocals ret :: tables_1)).before args0 about1 = true := by
  rw [allAtoms_all]
  show words1.all (fun c => c.before args0 about1) = true
  refine all_split ?_ w_codes
  rw [← List.take_append_drop 24 words1, List.all_append, w_t1, ← List.take_append_drop 24 (words1.drop 24), List.all_append, w_t2, w_t3]
  rfl
set_option maxRecDepth 65536 in
theorem w_rest : rest_1_c.before args0 about1 = true := by decide +kernel
set_option maxRecDepth 65536 in
theorem w_case : (Jvm.Cond.and given_1 narrow_1).before args0 about1 = true := by decide +kernel
theorem w_applies : (headSpec (Jvm.Cond.code x code maxLocals ret :: tables_1) room_1).applies x e0.platform about1 = true :=
  (Spec.applies_iff w_frames).mpr ⟨w_running, w_runnable, w_alone, w_named, w_hears, w_ripe, w_room, w_tables⟩
theorem atStart : AtStart classFile x code maxLocals ret World_1 tables_1 room_1 Calls_1 rest_1 Pre_1 launch0 p0 e0 about1 theMethod args0 below0 :=
  ⟨lists_1, trivial, launch0.admits_env _ _ _, launch0.least_env, fairChoices_fair.cas, fairChoices_fair.clock, w_frames, w_args, w_heap, w_applies, trivial, w_rest, w_case⟩
end start1
theorem witness_1 : WitnessClaimed_1 := ⟨start1.p0, start1.e0, start1.about1, start1.theMethod, start1.args0, start1.below0, start1.atStart⟩
end Jvm.Pilot.@@N@@
