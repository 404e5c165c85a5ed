import JvmDerived
import JvmDerived.Pilot.@@N@@Statement
import JvmDerived.Pilot.@@N@@Code
set_option linter.unusedVariables false
set_option linter.unusedSimpArgs false
namespace Jvm.RoadKit
open Sem ClassFile Op Lib Jvm.Stand Jvm.Free Jvm.LawKit
section New
variable {p : Program} {l : Launch} {e : Env} {R : Room} {s : State} {m : MethodId} {args : Array Value} {below : List Frame} {meth : Method} {c : Code} {T : State} {locs : List Loc} {cells slots : Nat}
theorem retI (X : Stand p l e R s m args below meth c T locs cells slots) (hx : p.tables.exec = Jvm.exec) {pc : Nat} {Ls : Array Slot} {z : Int32} {rest : List Value} (hret : meth.sig.returnType = some .int) (hd : decode c.code pc = .ok (.ireturn, 1)) {fs : List Frame}
    (hl : ∀ (f : JFrame) (acts : List Action), f.method = m → f.locked = none → f.entered = [] → (doReturn e (T.setTop f) acts (some (.int z))).1 = T.setFrames fs) : Steps p.tables e below (T.setTop (mkF m pc Ls (.int z :: rest))) (T.setFrames fs) := by
  have hm' : T.vm.method? m = some meth := X.method'
  have hn : narrow .int (.int z) = .int z := rfl
  show Steps p.tables e below (T.setTop { method := m, pc := pc, locals := Ls, stack := _ :: rest, locked := none }) _
  jvm_step X.here [X.here.top, hx, hd, hm', hret, hn]
  first | (intro acts; rw [hl _ acts rfl rfl rfl]) | rw [hl _ _ rfl rfl rfl]
  exact Steps.refl _
end New
end Jvm.RoadKit
namespace Jvm.Pilot.@@N@@
open Jvm Jvm.FP Jvm.Free.Fl Jvm.ClassFile Sem Op Lib Jvm.Free Jvm.Stand Jvm.LawKit Jvm.RoadKit Bundle Jvm.Pilot.@@N@@.Jvm.D
theorem own_w {a0 : Array Value} {Z : State} (hw : ∀ d ∈ tables_1, d.before a0 Z = true) (k : Nat) {d : Jvm.Cond} (h : tables_1[k]? = some d := by rfl) : d.before a0 Z = true := hw _ (List.mem_of_getElem? h)
theorem own_neq {a b : Nat} (h : a < b ∨ b < a) : a ≠ b := by omega
abbrev oI (x : Int32) : Slot := .val (.int x)
abbrev oR (a : Addr) : Slot := .val (.ref a)
abbrev oJ (x : Int64) : Slot := .val (.long x)
abbrev oD (x : UInt64) : Slot := .val (.double x)
/-- from the state A the run comes to an end of which Q holds -/
def own_Go (p : Program) (e : Env) (below : List Frame) (Q : Outcome → State → Prop) (A : State) : Prop := ∃ s₂ o, Steps p.tables e below A s₂ ∧ s₂.status = .running ∧ Ended s₂ below o ∧ Q o s₂
theorem own_via {p : Program} {e : Env} {below : List Frame} {Q : Outcome → State → Prop} {A B : State} (h : ∀ t, Steps p.tables e below B t → Steps p.tables e below A t) (g : own_Go p e below Q B) : own_Go p e below Q A := by
  obtain ⟨s₂, o, h1, h2⟩ := g
  exact ⟨s₂, o, h _ h1, h2⟩
theorem own_tr {p : Program} {e : Env} {below : List Frame} {Q : Outcome → State → Prop} {A B : State} (h : Steps p.tables e below A B) (g : own_Go p e below Q B) : own_Go p e below Q A := by
  obtain ⟨s₂, o, h1, h2⟩ := g
  exact ⟨s₂, o, h.trans h1, h2⟩
/-- from the state A the run comes to a state B of which Φ holds -/
def own_Pc (p : Program) (e : Env) (below : List Frame) (Φ : State → Prop) (A : State) : Prop := ∃ B, (∀ t, Steps p.tables e below B t → Steps p.tables e below A t) ∧ Φ B
theorem own_pvia {p : Program} {e : Env} {below : List Frame} {Φ : State → Prop} {A B : State} (h : ∀ t, Steps p.tables e below B t → Steps p.tables e below A t) (g : own_Pc p e below Φ B) : own_Pc p e below Φ A := by
  obtain ⟨B', h1, h2⟩ := g
  exact ⟨B', fun t k => h t (h1 t k), h2⟩
theorem own_ptr {p : Program} {e : Env} {below : List Frame} {Φ : State → Prop} {A B : State} (h : Steps p.tables e below A B) (g : own_Pc p e below Φ B) : own_Pc p e below Φ A := own_pvia (fun t k => h.trans k) g
theorem own_start {p : Program} {e : Env} {below : List Frame} {Q : Outcome → State → Prop} {A : State} (h : own_Go p e below Q A) : ∃ s₂ o, Steps p.tables e below A s₂ ∧ s₂.status = .running ∧ Ended s₂ below o ∧ Q o s₂ := h
theorem own_dconst0 : FP.dconst0 = FP.l2d (0 : Int64) := by decide +kernel
theorem own_dconst1 : FP.dconst1 = FP.l2d (1 : Int64) := by decide +kernel
theorem own_b53i (x : Int32) : B53 x.toInt64 := by
  have h := rng32 x
  have e := c_i2l x
  constructor <;> omega
def f2 (p0 : Int32) : Int32 := (if (255 : Int32) < p0 then (0 : Int32) else (1 : Int32))
theorem d2_0 : decode jdk_43_method_3_code 0 = .ok (.iload_n 0, 1) := by decide +kernel
theorem d2_1 : decode jdk_43_method_3_code 1 = .ok (.sipush 255, 3) := by decide +kernel
theorem d2_4 : decode jdk_43_method_3_code 4 = .ok (.if_icmp .gt 7, 3) := by decide +kernel
theorem d2_7 : decode jdk_43_method_3_code 7 = .ok (.iconst 1, 1) := by decide +kernel
theorem d2_8 : decode jdk_43_method_3_code 8 = .ok (.goto 4, 3) := by decide +kernel
theorem d2_11 : decode jdk_43_method_3_code 11 = .ok (.iconst 0, 1) := by decide +kernel
theorem d2_12 : decode jdk_43_method_3_code 12 = .ok (.ireturn, 1) := by decide +kernel
theorem pn_2 : plainName "java/lang/StringLatin1" = true := by first | (simp [plainName, overriddenIn]; done) | decide +kernel
theorem ef_rm2 (m : MethodId) (q0 : Int32) : entryFrame m #[(.int q0)] 1 = mkF m 0 #[oI q0] [] := by first | (simp [entryFrame, mkF, argsToLocals, Value.category]; done) | rfl
def Q2 (Z : State) (p0 : Int32) (r : Int32) (h0 : Heap) (n0 : Nat) (v : Option Value) (h : Heap) (L : List Loc) : Prop := v = some (.int r) ∧ Fr n0 L ∧ h = h0
set_option maxRecDepth 65536 in
set_option maxHeartbeats 40000000 in
theorem rm2 (l : Launch) (Z : State) (a0 : Array Value) (hw : ∀ d ∈ tables_1, d.before a0 Z = true) (ws : List Jvm.Cond) (p0 : Int32) (r : Int32) (h0 : Heap) (n0 : Nat) (Z0 : n0 ≤ h0.size) (hr0 : (f2 p0) = r) :
    MetFree l (⟨"java/lang/StringLatin1", "canEncode", "(C)Z"⟩ : MethodName) (head1 (Jvm.Cond.code (⟨"java/lang/StringLatin1", "canEncode", "(C)Z"⟩ : MethodName) jdk_43_method_3_code 1 (some .boolean) :: ws) ({ frames := 0, cells := 0, slots := 0, locals := 0 } : Room)) (fun a U => a = #[(.int p0)] ∧ Z.Warmed39 U.vm ∧ U.heap = h0) (fun _ _ _ _ _ => True) (fun _ U o U' => ∃ v L, o = .returned v ∧ Q2 Z p0 r h0 n0 v U'.heap L ∧ FrameEnd U o U' L ({ frames := 0, cells := 0, slots := 0, locals := 0 } : Room).cells ({ frames := 0, cells := 0, slots := 0, locals := 0 } : Room).slots) := by
  refine MetFree.of_bodySF (plainFor_of_name pn_2) hisR ?_
  intro p e s m args below meth c s₁ Bd hml0 hP hK
  obtain ⟨rfl, hZ, hh⟩ := hP
  have hx := Bd.exec
  have hby := Bd.bytes
  have hml : c.maxLocals = 1 := hml0
  have hown : s.vm.findClass "java/lang/StringLatin1" = some m.cls := findClass_of_methodNamed Bd.named
  have hnm := (name_of_methodNamed Bd.named Bd.method).1
  have X0 : Stand p l e ({ frames := 0, cells := 0, slots := 0, locals := 0 } : Room) s m #[(.int p0)] below meth c s₁ [] 0 0 := Stand.of_body Bd
  have e0 : s₁.heap = h0 := by rw [← hh, Bd.state]; rfl
  have N0 := Fr.nil n0
  refine own_start ?_
  refine own_via (fun t k => castTop (ef_rm2 m p0) k) ?_
  show own_Go p e below _ (s₁.setTop (mkF m 0 #[oI p0] []))
  refine own_via (fun t kz => XS.iloadN X0.here hx rfl (hb hby d2_0) rfl kz) ?_
  show own_Go p e below _ (s₁.setTop (mkF m 1 #[oI p0] [(.int p0)]))
  refine own_via (fun t kz => XS.sipush X0.here hx rfl (hb hby d2_1) kz) ?_
  show own_Go p e below _ (s₁.setTop (mkF m 4 #[oI p0] [(.int (255 : Int32)), (.int p0)]))
  by_cases hc4_1 : (255 : Int32) < p0
  · refine own_via (fun t kz => XS.icmpYes X0.here hx rfl (pc0 := 4) (pc' := 11) rfl (hb hby d2_4) rfl (tlt hc4_1).2.2.1 (by decide) (by decide) kz) ?_
    show own_Go p e below _ (s₁.setTop (mkF m 11 #[oI p0] []))
    refine own_via (fun t kz => XS.iconst X0.here hx rfl (hb hby d2_11) kz) ?_
    show own_Go p e below _ (s₁.setTop (mkF m 12 #[oI p0] [(.int (0 : Int32))]))
    have hv : (f2 p0) = (0 : Int32) := by unfold f2; rw [if_pos hc4_1]
    obtain ⟨fs, hr, hrun, hended, hW, hsame⟩ := X0.leave (v := some (.int (0 : Int32))) (fun h => by rw [Bd.returns] at h; cases h)
    refine ⟨_, _, retN X0 hx (t := .boolean) Bd.returns (by simp) (hb hby d2_12) hr, hrun, hended, _, _, rfl, ?_, ⟨_, rfl⟩, hW, hsame.mono (by decide) (by decide)⟩
    show Q2 Z p0 r h0 n0 _ s₁.heap _
    rw [e0]
    exact ⟨by rw [← hr0, hv], N0, rfl⟩
  · refine own_via (fun t kz => XS.icmpNo X0.here hx rfl (hb hby d2_4) rfl (flt hc4_1).2.2.1 kz) ?_
    show own_Go p e below _ (s₁.setTop (mkF m 7 #[oI p0] []))
    refine own_via (fun t kz => XS.iconst X0.here hx rfl (hb hby d2_7) kz) ?_
    show own_Go p e below _ (s₁.setTop (mkF m 8 #[oI p0] [(.int (1 : Int32))]))
    refine own_via (fun t kz => XS.goto X0.here hx rfl (pc0 := 8) (pc' := 12) rfl (hb hby d2_8) (by decide) (by decide) kz) ?_
    show own_Go p e below _ (s₁.setTop (mkF m 12 #[oI p0] [(.int (1 : Int32))]))
    have hv : (f2 p0) = (1 : Int32) := by unfold f2; rw [if_neg hc4_1]
    obtain ⟨fs, hr, hrun, hended, hW, hsame⟩ := X0.leave (v := some (.int (1 : Int32))) (fun h => by rw [Bd.returns] at h; cases h)
    refine ⟨_, _, retN X0 hx (t := .boolean) Bd.returns (by simp) (hb hby d2_12) hr, hrun, hended, _, _, rfl, ?_, ⟨_, rfl⟩, hW, hsame.mono (by decide) (by decide)⟩
    show Q2 Z p0 r h0 n0 _ s₁.heap _
    rw [e0]
    exact ⟨by rw [← hr0, hv], N0, rfl⟩
theorem d3_0 : decode jdk_43_method_46_code 0 = .ok (.iconst 1, 1) := by decide +kernel
theorem d3_1 : decode jdk_43_method_46_code 1 = .ok (.newarray .byte, 2) := by decide +kernel
theorem d3_3 : decode jdk_43_method_46_code 3 = .ok (.dup, 1) := by decide +kernel
theorem d3_4 : decode jdk_43_method_46_code 4 = .ok (.iconst 0, 1) := by decide +kernel
theorem d3_5 : decode jdk_43_method_46_code 5 = .ok (.iload_n 0, 1) := by decide +kernel
theorem d3_6 : decode jdk_43_method_46_code 6 = .ok (.i2b, 1) := by decide +kernel
theorem d3_7 : decode jdk_43_method_46_code 7 = .ok (.bastore, 1) := by decide +kernel
theorem d3_8 : decode jdk_43_method_46_code 8 = .ok (.areturn, 1) := by decide +kernel
theorem ef_rm3 (m : MethodId) (q0 : Int32) : entryFrame m #[(.int q0)] 1 = mkF m 0 #[oI q0] [] := by first | (simp [entryFrame, mkF, argsToLocals, Value.category]; done) | rfl
def Q3 (Z : State) (p0 : Int32) (h0 : Heap) (n0 : Nat) (v : Option Value) (h : Heap) (L : List Loc) : Prop := v = some (.ref h0.size) ∧ Fr n0 L ∧ Keep h0 h [] ∧ h0.size < h.size
set_option maxRecDepth 65536 in
set_option maxHeartbeats 40000000 in
theorem rm3 (l : Launch) (Z : State) (a0 : Array Value) (hw : ∀ d ∈ tables_1, d.before a0 Z = true) (ws : List Jvm.Cond) (p0 : Int32) (h0 : Heap) (n0 : Nat) (Z0 : n0 ≤ h0.size) :
    MetFree l (⟨"java/lang/StringLatin1", "toBytes", "(C)[B"⟩ : MethodName) (head1 (Jvm.Cond.code (⟨"java/lang/StringLatin1", "toBytes", "(C)[B"⟩ : MethodName) jdk_43_method_46_code 1 (some (.array .byte)) :: ws) ({ frames := 0, cells := 1, slots := 1, locals := 0 } : Room)) (fun a U => a = #[(.int p0)] ∧ Z.Warmed39 U.vm ∧ U.heap = h0) (fun _ _ _ _ _ => True) (fun _ U o U' => ∃ v L, o = .returned v ∧ Q3 Z p0 h0 n0 v U'.heap L ∧ FrameEnd U o U' L ({ frames := 0, cells := 1, slots := 1, locals := 0 } : Room).cells ({ frames := 0, cells := 1, slots := 1, locals := 0 } : Room).slots) := by
  refine MetFree.of_bodySF (plainFor_of_name pn_2) hisR ?_
  intro p e s m args below meth c s₁ Bd hml0 hP hK
  obtain ⟨rfl, hZ, hh⟩ := hP
  have hx := Bd.exec
  have hby := Bd.bytes
  have hml : c.maxLocals = 1 := hml0
  have hown : s.vm.findClass "java/lang/StringLatin1" = some m.cls := findClass_of_methodNamed Bd.named
  have hnm := (name_of_methodNamed Bd.named Bd.method).1
  have X0 : Stand p l e ({ frames := 0, cells := 1, slots := 1, locals := 0 } : Room) s m #[(.int p0)] below meth c s₁ [] 0 0 := Stand.of_body Bd
  have e0 : s₁.heap = h0 := by rw [← hh, Bd.state]; rfl
  have N0 := Fr.nil n0
  refine own_start ?_
  refine own_via (fun t k => castTop (ef_rm3 m p0) k) ?_
  show own_Go p e below _ (s₁.setTop (mkF m 0 #[oI p0] []))
  refine own_via (fun t kz => XS.iconst X0.here hx rfl (hb hby d3_0) kz) ?_
  show own_Go p e below _ (s₁.setTop (mkF m 1 #[oI p0] [(.int (1 : Int32))]))
  obtain ⟨T1, h1, k1, X1, e1, E1, A1, st1⟩ := newP X0 hx hZ (aty := .byte) (own_w hw 16) e0 (g := (mkF m 1 #[oI p0] [(.int (1 : Int32))])) rfl (hb hby d3_1) rfl (by decide) (cap := 1) (by decide) (by decide) (by decide) (by decide)
  obtain ⟨a1, g1⟩ : ∃ z, z = h0.size := ⟨_, rfl⟩
  rw [← g1] at A1 st1
  refine own_via st1 ?_
  have fr2 : n0 ≤ a1 := Nat.le_trans Z0 (Nat.le_of_eq g1.symm)
  have hf3 : h0.size ≤ a1 := Nat.le_trans (Keep.refl h0 []).1 (Nat.le_of_eq g1.symm)
  have Zs4 : n0 ≤ h1.size := Nat.le_trans Z0 E1.1
  have K5 : Keep h0 h1 [] := (Keep.refl h0 []).ext E1
  have V6 : Arv Z h1 a1 k1 .byte (1 : Int32) [(.int (0 : Int32))] (.int (0 : Int32)) := (Arv.new A1 (by decide)).pad (pad_rep [] (.int (0 : Int32)) 1)
  show own_Go p e below _ (T1.setTop (mkF m 3 #[oI p0] [(.ref a1)]))
  refine own_via (fun t kz => XS.dup X1.here hx rfl (hb hby d3_3) rfl rfl kz) ?_
  show own_Go p e below _ (T1.setTop (mkF m 4 #[oI p0] [(.ref a1), (.ref a1)]))
  refine own_via (fun t kz => XS.iconst X1.here hx rfl (hb hby d3_4) kz) ?_
  show own_Go p e below _ (T1.setTop (mkF m 5 #[oI p0] [(.int (0 : Int32)), (.ref a1), (.ref a1)]))
  refine own_via (fun t kz => XS.iloadN X1.here hx rfl (hb hby d3_5) rfl kz) ?_
  show own_Go p e below _ (T1.setTop (mkF m 6 #[oI p0] [(.int p0), (.int (0 : Int32)), (.ref a1), (.ref a1)]))
  refine own_via (fun t kz => XS.i2b X1.here hx rfl (hb hby d3_6) rfl kz) ?_
  show own_Go p e below _ (T1.setTop (mkF m 7 #[oI p0] [(.int (p0.toInt8.toInt32)), (.int (0 : Int32)), (.ref a1), (.ref a1)]))
  obtain ⟨cl7, Ar7, kc7, Sz7, Nn7, Hs7, Gs7⟩ := id V6
  obtain ⟨T7, h7, X7, e7, W7, st7⟩ := stB X1 hx hZ e1 Ar7 (j := (0 : Int32)) (inb_of Sz7 ⟨by decide, by decide⟩) (g := (mkF m 7 #[oI p0] [(.int (p0.toInt8.toInt32)), (.int (0 : Int32)), (.ref a1), (.ref a1)])) rfl rfl (hb hby d3_7)
  refine own_via st7 ?_
  have na7 : nar .byte (p0.toInt8.toInt32) = (p0.toInt8.toInt32) := by simp only [nar, Int8.toInt8_toInt32]
  rw [na7] at W7
  have Zs8 : n0 ≤ h7.size := Nat.le_trans Zs4 (Keep.of_wr W7).1
  have N9 := Fr.snoc X7 N0 fr2
  have K10 : Keep h0 h7 [] := K5.wr W7 (Or.inr hf3)
  have V11 : Arv Z h7 a1 k1 .byte (1 : Int32) [(.int (p0.toInt8.toInt32))] (.int (0 : Int32)) := Arv.set Ar7 kc7 Sz7 Nn7 Hs7 Gs7 (fits_nar_byte _) W7 0 (by first | decide | (show 0 < 1; decide)) (by first | decide | (show 0 < 1; decide))
  show own_Go p e below _ (T7.setTop (mkF m 8 #[oI p0] [(.ref a1)]))
  obtain ⟨fs, hr, hrun, hended, hW, hsame⟩ := X7.leave (v := some (.ref a1)) (fun h => by rw [Bd.returns] at h; cases h)
  refine ⟨_, _, retOut X7 hx (i := .areturn) Bd.returns rfl (Or.inr (Or.inr (Or.inr (Or.inr ⟨rfl, rfl, rfl⟩)))) (hb hby d3_8) hr, hrun, hended, _, _, rfl, ?_, ⟨_, rfl⟩, hW, hsame.mono (by decide) (by decide)⟩
  show Q3 Z p0 h0 n0 _ T7.heap _
  rw [e7]
  exact ⟨by rw [g1], N9, K10, by rw [← g1]; exact V11.lt⟩
theorem d4_0 : decode jdk_42_method_151_code 0 = .ok (.aload_n 0, 1) := by decide +kernel
theorem d4_1 : decode jdk_42_method_151_code 1 = .ok (.invokespecial 1, 3) := by decide +kernel
theorem d4_4 : decode jdk_42_method_151_code 4 = .ok (.aload_n 0, 1) := by decide +kernel
theorem d4_5 : decode jdk_42_method_151_code 5 = .ok (.aload_n 1, 1) := by decide +kernel
theorem d4_6 : decode jdk_42_method_151_code 6 = .ok (.putfield 9, 3) := by decide +kernel
theorem d4_9 : decode jdk_42_method_151_code 9 = .ok (.aload_n 0, 1) := by decide +kernel
theorem d4_10 : decode jdk_42_method_151_code 10 = .ok (.iload_n 2, 1) := by decide +kernel
theorem d4_11 : decode jdk_42_method_151_code 11 = .ok (.putfield 15, 3) := by decide +kernel
theorem d4_14 : decode jdk_42_method_151_code 14 = .ok (.return_, 1) := by decide +kernel
theorem pn_4 : plainName "java/lang/String" = true := by first | (simp [plainName, overriddenIn]; done) | decide +kernel
theorem ef_rm4 (m : MethodId) (q0 : Addr) (q1 : Addr) (q2 : Int32) : entryFrame m #[(.ref q0), (.ref q1), (.int q2)] 3 = mkF m 0 #[oR q0, oR q1, oI q2] [] := by first | (simp [entryFrame, mkF, argsToLocals, Value.category]; done) | rfl
def Q4 (Z : State) (this : Addr) (p1 : Addr) (p2 : Int32) (h0 : Heap) (n0 : Nat) (v : Option Value) (h : Heap) (L : List Loc) : Prop := v = none ∧ Fr n0 L ∧ Keep h0 h [this]
set_option maxRecDepth 65536 in
set_option maxHeartbeats 40000000 in
theorem rm4 (l : Launch) (Z : State) (a0 : Array Value) (hw : ∀ d ∈ tables_1, d.before a0 Z = true) (ws : List Jvm.Cond) (this : Addr) (p1 : Addr) (p2 : Int32) (h0 : Heap) (n0 : Nat) (Z0 : n0 ≤ h0.size) (g_this : n0 ≤ this) (E_this : Exa Z h0 this "java/lang/String") (F_value : Fld Z h0 this "java/lang/String" "value" "[B" .null) (F_coder : Fld Z h0 this "java/lang/String" "coder" "B" (.int (0 : Int32))) (hn2 : narrow .byte (.int p2) = .int p2) (hf2 : fits .byte (.int p2) = true) :
    MetFree l (⟨"java/lang/String", "<init>", "([BB)V"⟩ : MethodName) (head1 (Jvm.Cond.code (⟨"java/lang/String", "<init>", "([BB)V"⟩ : MethodName) jdk_42_method_151_code 3 none :: ws) ({ frames := 1, cells := 0, slots := 0, locals := 12 } : Room)) (fun a U => a = #[(.ref this), (.ref p1), (.int p2)] ∧ Z.Warmed39 U.vm ∧ U.heap = h0) (fun _ _ _ _ _ => True) (fun _ U o U' => ∃ v L, o = .returned v ∧ Q4 Z this p1 p2 h0 n0 v U'.heap L ∧ FrameEnd U o U' L ({ frames := 1, cells := 0, slots := 0, locals := 12 } : Room).cells ({ frames := 1, cells := 0, slots := 0, locals := 12 } : Room).slots) := by
  refine MetFree.of_bodySF (plainFor_of_name pn_4) hisR ?_
  intro p e s m args below meth c s₁ Bd hml0 hP hK
  obtain ⟨rfl, hZ, hh⟩ := hP
  have hx := Bd.exec
  have hby := Bd.bytes
  have hml : c.maxLocals = 3 := hml0
  have hown : s.vm.findClass "java/lang/String" = some m.cls := findClass_of_methodNamed Bd.named
  have hnm := (name_of_methodNamed Bd.named Bd.method).1
  have X0 : Stand p l e ({ frames := 1, cells := 0, slots := 0, locals := 12 } : Room) s m #[(.ref this), (.ref p1), (.int p2)] below meth c s₁ [] 0 0 := Stand.of_body Bd
  have e0 : s₁.heap = h0 := by rw [← hh, Bd.state]; rfl
  have N0 := Fr.nil n0
  refine own_start ?_
  refine own_via (fun t k => castTop (ef_rm4 m this p1 p2) k) ?_
  show own_Go p e below _ (s₁.setTop (mkF m 0 #[oR this, oR p1, oI p2] []))
  refine own_via (fun t kz => XS.aloadN X0.here hx rfl (hb hby d4_0) rfl rfl kz) ?_
  show own_Go p e below _ (s₁.setTop (mkF m 1 #[oR this, oR p1, oI p2] [(.ref this)]))
  obtain ⟨T1, X1, e1, st1⟩ := initO X0 hx hZ hown (own_w hw 21) (own_w hw 22) (own_w hw 23) e0 (g := (mkF m 1 #[oR this, oR p1, oI p2] [(.ref this)])) rfl (by rw [hml]; rfl) rfl (hb hby d4_1) (by decide) (W := 0) (by show 2 * 0 + _ ≤ _; exact Nat.le_of_eq rfl) (by decide)
  refine own_via st1 ?_
  show own_Go p e below _ (T1.setTop (mkF m 4 #[oR this, oR p1, oI p2] []))
  refine own_via (fun t kz => XS.aloadN X1.here hx rfl (hb hby d4_4) rfl rfl kz) ?_
  show own_Go p e below _ (T1.setTop (mkF m 5 #[oR this, oR p1, oI p2] [(.ref this)]))
  refine own_via (fun t kz => XS.aloadN X1.here hx rfl (hb hby d4_5) rfl rfl kz) ?_
  show own_Go p e below _ (T1.setTop (mkF m 6 #[oR this, oR p1, oI p2] [(.ref p1), (.ref this)]))
  obtain ⟨T2, h2, X2, e2, W2, st2⟩ := putF X1 hx hZ hown (host := "") (Or.inl (own_w hw 24)) Via.refl e1 F_value E_this (Or.inr ⟨(own_w hw 25), rfl, hnm⟩) (own_w hw 12) (ty := (.array .byte)) (by decide) rfl rfl (g := (mkF m 6 #[oR this, oR p1, oI p2] [(.ref p1), (.ref this)])) rfl rfl (hb hby d4_6)
  refine own_via st2 ?_
  have E3 := E_this.wr W2
  have F4 := F_value.same W2
  have F5 := F_coder.other W2 (Or.inr (slot_ne (Or.inr (own_w hw 27)) (Or.inr (own_w hw 25)) (by decide) (t := .byte) (t' := (.array .byte)) (by decide) (by decide)))
  have Zs6 : n0 ≤ h2.size := Nat.le_trans Z0 (Keep.of_wr W2).1
  have N7 := Fr.snoc X2 N0 g_this
  have K8 : Keep h0 h2 [this] := (Keep.refl h0 [this]).wr W2 (Or.inl (List.mem_of_getElem? (i := 0) rfl))
  show own_Go p e below _ (T2.setTop (mkF m 9 #[oR this, oR p1, oI p2] []))
  refine own_via (fun t kz => XS.aloadN X2.here hx rfl (hb hby d4_9) rfl rfl kz) ?_
  show own_Go p e below _ (T2.setTop (mkF m 10 #[oR this, oR p1, oI p2] [(.ref this)]))
  refine own_via (fun t kz => XS.iloadN X2.here hx rfl (hb hby d4_10) rfl kz) ?_
  show own_Go p e below _ (T2.setTop (mkF m 11 #[oR this, oR p1, oI p2] [(.int p2), (.ref this)]))
  obtain ⟨T9, h9, X9, e9, W9, st9⟩ := putF X2 hx hZ hown (host := "") (Or.inl (own_w hw 26)) Via.refl e2 F5 E3 (Or.inr ⟨(own_w hw 27), rfl, hnm⟩) (own_w hw 12) (ty := .byte) (by decide) hn2 hf2 (g := (mkF m 11 #[oR this, oR p1, oI p2] [(.int p2), (.ref this)])) rfl rfl (hb hby d4_11)
  refine own_via st9 ?_
  have E10 := E3.wr W9
  have F11 := F4.other W9 (Or.inr (slot_ne (Or.inr (own_w hw 25)) (Or.inr (own_w hw 27)) (by decide) (t := (.array .byte)) (t' := .byte) (by decide) (by decide)))
  have F12 := F5.same W9
  have Zs13 : n0 ≤ h9.size := Nat.le_trans Zs6 (Keep.of_wr W9).1
  have N14 := Fr.snoc X9 N7 g_this
  have K15 : Keep h0 h9 [this] := K8.wr W9 (Or.inl (List.mem_of_getElem? (i := 0) rfl))
  show own_Go p e below _ (T9.setTop (mkF m 14 #[oR this, oR p1, oI p2] []))
  obtain ⟨fs, hr, hrun, hended, hW, hsame⟩ := X9.leave (v := none) (fun _ => rfl)
  refine ⟨_, _, X9.returnOut hx Bd.returns (hb hby d4_14) hr, hrun, hended, _, _, rfl, ?_, ⟨_, rfl⟩, hW, hsame.mono (by decide) (by decide)⟩
  show Q4 Z this p1 p2 h0 n0 _ T9.heap _
  rw [e9]
  exact ⟨rfl, N14, K15⟩
theorem d1_0 : decode jdk_42_method_139_code 0 = .ok (.getstatic 38, 3) := by decide +kernel
theorem d1_3 : decode jdk_42_method_139_code 3 = .ok (.ifCond .eq 23, 3) := by decide +kernel
theorem d1_6 : decode jdk_42_method_139_code 6 = .ok (.iload_n 0, 1) := by decide +kernel
theorem d1_7 : decode jdk_42_method_139_code 7 = .ok (.invokestatic 1015, 3) := by decide +kernel
theorem d1_10 : decode jdk_42_method_139_code 10 = .ok (.ifCond .eq 16, 3) := by decide +kernel
theorem d1_13 : decode jdk_42_method_139_code 13 = .ok (.new 10, 3) := by decide +kernel
theorem d1_16 : decode jdk_42_method_139_code 16 = .ok (.dup, 1) := by decide +kernel
theorem d1_17 : decode jdk_42_method_139_code 17 = .ok (.iload_n 0, 1) := by decide +kernel
theorem d1_18 : decode jdk_42_method_139_code 18 = .ok (.invokestatic 1018, 3) := by decide +kernel
theorem d1_21 : decode jdk_42_method_139_code 21 = .ok (.iconst 0, 1) := by decide +kernel
theorem d1_22 : decode jdk_42_method_139_code 22 = .ok (.invokespecial 209, 3) := by decide +kernel
theorem d1_25 : decode jdk_42_method_139_code 25 = .ok (.areturn, 1) := by decide +kernel
theorem pd_1_0 : parseMethodDescriptor "(C)Z" = some ⟨[.char], some .boolean⟩ := by decide +kernel
theorem pd_1_1 : parseMethodDescriptor "(C)[B" = some ⟨[.char], some (.array .byte)⟩ := by decide +kernel
theorem pd_1_2 : parseMethodDescriptor "([BB)V" = some ⟨[(.array .byte), .byte], none⟩ := by decide +kernel
theorem ef_rm1 (m : MethodId) (q0 : Int32) : entryFrame m #[(.int q0)] 1 = mkF m 0 #[oI q0] [] := by first | (simp [entryFrame, mkF, argsToLocals, Value.category]; done) | rfl
def Q1 (Z : State) (p0 : Int32) (wcs : Int32) (h0 : Heap) (n0 : Nat) (v : Option Value) (h : Heap) (L : List Loc) : Prop := v = some (.ref h0.size) ∧ Fr n0 L ∧ Keep h0 h [] ∧ h0.size < h.size
set_option maxRecDepth 65536 in
set_option maxHeartbeats 40000000 in
theorem rm1 (l : Launch) (Z : State) (a0 : Array Value) (hw : ∀ d ∈ tables_1, d.before a0 Z = true) (ws : List Jvm.Cond) (p0 : Int32) (wcs : Int32) (h0 : Heap) (n0 : Nat) (Z0 : n0 ≤ h0.size) (S_cs : Sta Z h0 "java/lang/String" "COMPACT_STRINGS" "Z" (.int wcs)) (hcs : ¬ (wcs = (0 : Int32))) (hp : ¬ ((255 : Int32) < p0)) (hf1 : f2 p0 = 1) :
    MetFree l (⟨"java/lang/String", "valueOf", "(C)Ljava/lang/String;"⟩ : MethodName) (head1 (Jvm.Cond.code (⟨"java/lang/String", "valueOf", "(C)Ljava/lang/String;"⟩ : MethodName) jdk_42_method_139_code 1 (some (.object "java/lang/String")) :: ws) ({ frames := 2, cells := 2, slots := 5, locals := 27 } : Room)) (fun a U => a = #[(.int p0)] ∧ Z.Warmed39 U.vm ∧ U.heap = h0) (fun _ _ _ _ _ => True) (fun _ U o U' => ∃ v L, o = .returned v ∧ Q1 Z p0 wcs h0 n0 v U'.heap L ∧ FrameEnd U o U' L ({ frames := 2, cells := 2, slots := 5, locals := 27 } : Room).cells ({ frames := 2, cells := 2, slots := 5, locals := 27 } : Room).slots) := by
  refine MetFree.of_bodySF (plainFor_of_name pn_4) hisR ?_
  intro p e s m args below meth c s₁ Bd hml0 hP hK
  obtain ⟨rfl, hZ, hh⟩ := hP
  have hx := Bd.exec
  have hby := Bd.bytes
  have hml : c.maxLocals = 1 := hml0
  have hown : s.vm.findClass "java/lang/String" = some m.cls := findClass_of_methodNamed Bd.named
  have hnm := (name_of_methodNamed Bd.named Bd.method).1
  have X0 : Stand p l e ({ frames := 2, cells := 2, slots := 5, locals := 27 } : Room) s m #[(.int p0)] below meth c s₁ [] 0 0 := Stand.of_body Bd
  have e0 : s₁.heap = h0 := by rw [← hh, Bd.state]; rfl
  have N0 := Fr.nil n0
  refine own_start ?_
  refine own_via (fun t k => castTop (ef_rm1 m p0) k) ?_
  show own_Go p e below _ (s₁.setTop (mkF m 0 #[oI p0] []))
  obtain ⟨T1, X1, e1, st1⟩ := getS2 X0 hx hZ hown (host := "") (Or.inl (own_w hw 6)) Via.refl e0 S_cs (g := (mkF m 0 #[oI p0] [])) rfl (hb hby d1_0)
  refine own_via st1 ?_
  show own_Go p e below _ (T1.setTop (mkF m 3 #[oI p0] [(.int wcs)]))
  refine own_via (fun t kz => XS.ifNo X1.here hx rfl (hb hby d1_3) rfl ((if0 _ _).trans (feq hcs).1) kz) ?_
  show own_Go p e below _ (T1.setTop (mkF m 6 #[oI p0] []))
  refine own_via (fun t kz => XS.iloadN X1.here hx rfl (hb hby d1_6) rfl kz) ?_
  show own_Go p e below _ (T1.setTop (mkF m 7 #[oI p0] [(.int p0)]))
  obtain ⟨_, _, ⟨T2, L2, k2, n2⟩, -, X2, ⟨Lc2, hQ2, l2, y2, z2⟩, st2⟩ := Jvm.LawKit.callS X1 hx (y := (⟨"java/lang/StringLatin1", "canEncode", "(C)Z"⟩ : MethodName)) hown (mvT hZ (own_w hw 7)) (mvT hZ (own_w hw 8)) (mvT hZ (own_w hw 9)) (mvT hZ (own_w hw 10)) (by decide) (backOf (W := 0) (rm2 l Z a0 hw [] p0 (f2 p0) h0 n0 Z0 rfl) hZ (own_w hw 10) (own_w hw 9) (by decide) (by decide)) (g := (mkF m 7 #[oI p0] [(.int p0)])) rfl (by rw [hml]; rfl) (argsL := [(.int p0)]) (rest := []) (lenOf pd_1_0 rfl) rfl (by show 2 * 0 + _ ≤ _; exact Nat.le_of_eq rfl) (hb hby d1_7) (fun _ _ => ⟨rfl, e1, (by decide : 0 + 0 ≤ _), (by decide : 0 + 0 ≤ _)⟩)
  dsimp only [Pt.U, Pt.locs, Pt.cells, Pt.slots] at X2 l2 y2 z2 st2 hQ2
  subst l2 y2 z2
  obtain ⟨rfl, Nq2, e2⟩ := hQ2
  have N3 := Fr.app N0 Nq2
  refine own_via st2 ?_
  show own_Go p e below _ (T2.setTop (mkF m 10 #[oI p0] [(.int (f2 p0))]))
  refine own_via (fun t kz => XS.ifNo X2.here hx rfl (hb hby d1_10) rfl ((if0 _ _).trans (feq (by rw [hf1]; decide : ¬ (f2 p0) = (0 : Int32))).1) kz) ?_
  show own_Go p e below _ (T2.setTop (mkF m 13 #[oI p0] []))
  obtain ⟨T4, h4, X4, e4, E4, A4, D4, -, st4⟩ := newO X2 hx hZ hown (own_w hw 11) (own_w hw 12) (own_w hw 4) e2 (g := (mkF m 13 #[oI p0] [])) rfl (hb hby d1_13) (by decide) (by decide)
  obtain ⟨a4, g4⟩ : ∃ z, z = h0.size := ⟨_, rfl⟩
  rw [← g4] at A4 D4 st4
  refine own_via st4 ?_
  have fr5 : n0 ≤ a4 := Nat.le_trans Z0 (Nat.le_of_eq g4.symm)
  have hf6 : h0.size ≤ a4 := Nat.le_trans (Keep.refl h0 []).1 (Nat.le_of_eq g4.symm)
  have S7 := S_cs.ext E4
  have Zs8 : n0 ≤ h4.size := Nat.le_trans Z0 E4.1
  have K9 : Keep h0 h4 [] := (Keep.refl h0 []).ext E4
  have F10 : Fld Z h4 a4 "java/lang/String" "value" "[B" .null := D4 (Or.inr (own_w hw 25)) (ty := (.array .byte)) (by decide)
  have F11 : Fld Z h4 a4 "java/lang/String" "coder" "B" (.int (0 : Int32)) := D4 (Or.inr (own_w hw 27)) (ty := .byte) (by decide)
  show own_Go p e below _ (T4.setTop (mkF m 16 #[oI p0] [(.ref a4)]))
  refine own_via (fun t kz => XS.dup X4.here hx rfl (hb hby d1_16) rfl rfl kz) ?_
  show own_Go p e below _ (T4.setTop (mkF m 17 #[oI p0] [(.ref a4), (.ref a4)]))
  refine own_via (fun t kz => XS.iloadN X4.here hx rfl (hb hby d1_17) rfl kz) ?_
  show own_Go p e below _ (T4.setTop (mkF m 18 #[oI p0] [(.int p0), (.ref a4), (.ref a4)]))
  obtain ⟨_, _, ⟨T12, L12, k12, n12⟩, -, X12, ⟨Lc12, hQ12, l12, y12, z12⟩, st12⟩ := Jvm.LawKit.callS X4 hx (y := (⟨"java/lang/StringLatin1", "toBytes", "(C)[B"⟩ : MethodName)) hown (mvT hZ (own_w hw 13)) (mvT hZ (own_w hw 14)) (mvT hZ (own_w hw 9)) (mvT hZ (own_w hw 15)) (by decide) (backOf (W := 2) (rm3 l Z a0 hw [] p0 h4 n0 Zs8 ) hZ (own_w hw 15) (own_w hw 9) (by decide) (by decide)) (g := (mkF m 18 #[oI p0] [(.int p0), (.ref a4), (.ref a4)])) rfl (by rw [hml]; rfl) (argsL := [(.int p0)]) (rest := [(.ref a4), (.ref a4)]) (lenOf pd_1_1 rfl) rfl (by show 2 * 0 + _ ≤ _; exact Nat.le_of_eq rfl) (hb hby d1_18) (fun _ _ => ⟨rfl, e4, (by decide : 1 + 1 ≤ _), (by decide : 4 + 1 ≤ _)⟩)
  dsimp only [Pt.U, Pt.locs, Pt.cells, Pt.slots] at X12 l12 y12 z12 st12 hQ12
  subst l12 y12 z12
  obtain ⟨rfl, Nq12, Kc12, sz12⟩ := hQ12
  have N13 := Fr.app N3 Nq12
  refine own_via st12 ?_
  obtain ⟨a12, g12⟩ : ∃ z, z = h4.size := ⟨_, rfl⟩
  rw [← g12]
  have lt14 : a4 < a12 := Nat.lt_of_lt_of_le A4.lt (Nat.le_of_eq g12.symm)
  have fr15 : n0 ≤ a12 := Nat.le_trans Zs8 (Nat.le_of_eq g12.symm)
  have hf16 : h0.size ≤ a12 := Nat.le_trans K9.1 (Nat.le_of_eq g12.symm)
  have E17 := A4.keep Kc12
  have F18 := F10.keep Kc12 nin0
  have F19 := F11.keep Kc12 nin0
  have Zs20 : n0 ≤ T12.heap.size := Nat.le_trans Zs8 Kc12.1
  have K21 : Keep h0 T12.heap [] := K9.trans Kc12 all0
  show own_Go p e below _ (T12.setTop (mkF m 21 #[oI p0] [(.ref a12), (.ref a4), (.ref a4)]))
  refine own_via (fun t kz => XS.iconst X12.here hx rfl (hb hby d1_21) kz) ?_
  show own_Go p e below _ (T12.setTop (mkF m 22 #[oI p0] [(.int (0 : Int32)), (.ref a12), (.ref a4), (.ref a4)]))
  obtain ⟨_, _, ⟨T22, L22, k22, n22⟩, -, X22, ⟨Lc22, hQ22, l22, y22, z22⟩, st22⟩ := X12.specialBack hx (y := (⟨"java/lang/String", "<init>", "([BB)V"⟩ : MethodName)) rfl hown (mvT hZ (own_w hw 17)) (mvT hZ (own_w hw 18)) (mvT hZ (own_w hw 20)) (by decide) (backOf (W := 1) (rm4 l Z a0 hw [] a4 a12 (0 : Int32) T12.heap n0 Zs20 fr5 E17 F18 F19 rfl rfl) hZ (own_w hw 20) (own_w hw 4) (by decide) (by decide)) (g := (mkF m 22 #[oI p0] [(.int (0 : Int32)), (.ref a12), (.ref a4), (.ref a4)])) rfl (by rw [hml]; rfl) (Steps.refl _) (a := a4) (argsL := [(.ref a12), (.int (0 : Int32))]) (rest := [(.ref a4)]) (lenOf pd_1_2 rfl) rfl (by show 2 * 0 + _ ≤ _; exact Nat.le_of_eq rfl) (hb hby d1_22) (fun _ _ => ⟨rfl, rfl, (by decide : 2 + 0 ≤ _), (by decide : 5 + 0 ≤ _)⟩)
  dsimp only [Pt.U, Pt.locs, Pt.cells, Pt.slots] at X22 l22 y22 z22 st22 hQ22
  subst l22 y22 z22
  obtain ⟨rfl, Nq22, Kc22⟩ := hQ22
  have N23 := Fr.app N13 Nq22
  refine own_tr st22 ?_
  have E24 := E17.keep Kc22
  have Zs25 : n0 ≤ T22.heap.size := Nat.le_trans Zs20 Kc22.1
  have K26 : Keep h0 T22.heap [] := K21.trans Kc22 (allS (Or.inr hf6) all0)
  show own_Go p e below _ (T22.setTop (mkF m 25 #[oI p0] [(.ref a4)]))
  obtain ⟨fs, hr, hrun, hended, hW, hsame⟩ := X22.leave (v := some (.ref a4)) (fun h => by rw [Bd.returns] at h; cases h)
  refine ⟨_, _, retOut X22 hx (i := .areturn) Bd.returns rfl (Or.inr (Or.inr (Or.inr (Or.inr ⟨rfl, rfl, rfl⟩)))) (hb hby d1_25) hr, hrun, hended, _, _, rfl, ?_, ⟨_, rfl⟩, hW, hsame.mono (by decide) (by decide)⟩
  show Q1 Z p0 wcs h0 n0 _ T22.heap _
  exact ⟨by rw [g4], N23, K26, by rw [← g4]; exact E24.lt⟩
theorem d7_0 : decode jdk_30_method_1_code 0 = .ok (.aload_n 0, 1) := by decide +kernel
theorem d7_1 : decode jdk_30_method_1_code 1 = .ok (.invokespecial 1, 3) := by decide +kernel
theorem d7_4 : decode jdk_30_method_1_code 4 = .ok (.return_, 1) := by decide +kernel
theorem pn_7 : plainName "java/lang/Record" = true := by first | (simp [plainName, overriddenIn]; done) | decide +kernel
theorem ef_rm7 (m : MethodId) (q0 : Addr) : entryFrame m #[(.ref q0)] 1 = mkF m 0 #[oR q0] [] := by first | (simp [entryFrame, mkF, argsToLocals, Value.category]; done) | rfl
def Q7 (Z : State) (this : Addr) (h0 : Heap) (n0 : Nat) (v : Option Value) (h : Heap) (L : List Loc) : Prop := v = none ∧ Fr n0 L ∧ h = h0
set_option maxRecDepth 65536 in
set_option maxHeartbeats 40000000 in
theorem rm7 (l : Launch) (Z : State) (a0 : Array Value) (hw : ∀ d ∈ tables_1, d.before a0 Z = true) (ws : List Jvm.Cond) (this : Addr) (h0 : Heap) (n0 : Nat) (Z0 : n0 ≤ h0.size) :
    MetFree l (⟨"java/lang/Record", "<init>", "()V"⟩ : MethodName) (head1 (Jvm.Cond.code (⟨"java/lang/Record", "<init>", "()V"⟩ : MethodName) jdk_30_method_1_code 1 none :: ws) ({ frames := 1, cells := 0, slots := 0, locals := 12 } : Room)) (fun a U => a = #[(.ref this)] ∧ Z.Warmed39 U.vm ∧ U.heap = h0) (fun _ _ _ _ _ => True) (fun _ U o U' => ∃ v L, o = .returned v ∧ Q7 Z this h0 n0 v U'.heap L ∧ FrameEnd U o U' L ({ frames := 1, cells := 0, slots := 0, locals := 12 } : Room).cells ({ frames := 1, cells := 0, slots := 0, locals := 12 } : Room).slots) := by
  refine MetFree.of_bodySF (plainFor_of_name pn_7) hisR ?_
  intro p e s m args below meth c s₁ Bd hml0 hP hK
  obtain ⟨rfl, hZ, hh⟩ := hP
  have hx := Bd.exec
  have hby := Bd.bytes
  have hml : c.maxLocals = 1 := hml0
  have hown : s.vm.findClass "java/lang/Record" = some m.cls := findClass_of_methodNamed Bd.named
  have hnm := (name_of_methodNamed Bd.named Bd.method).1
  have X0 : Stand p l e ({ frames := 1, cells := 0, slots := 0, locals := 12 } : Room) s m #[(.ref this)] below meth c s₁ [] 0 0 := Stand.of_body Bd
  have e0 : s₁.heap = h0 := by rw [← hh, Bd.state]; rfl
  have N0 := Fr.nil n0
  refine own_start ?_
  refine own_via (fun t k => castTop (ef_rm7 m this) k) ?_
  show own_Go p e below _ (s₁.setTop (mkF m 0 #[oR this] []))
  refine own_via (fun t kz => XS.aloadN X0.here hx rfl (hb hby d7_0) rfl rfl kz) ?_
  show own_Go p e below _ (s₁.setTop (mkF m 1 #[oR this] [(.ref this)]))
  obtain ⟨T1, X1, e1, st1⟩ := initO X0 hx hZ hown (own_w hw 39) (own_w hw 22) (own_w hw 23) e0 (g := (mkF m 1 #[oR this] [(.ref this)])) rfl (by rw [hml]; rfl) rfl (hb hby d7_1) (by decide) (W := 0) (by show 2 * 0 + _ ≤ _; exact Nat.le_of_eq rfl) (by decide)
  refine own_via st1 ?_
  show own_Go p e below _ (T1.setTop (mkF m 4 #[oR this] []))
  obtain ⟨fs, hr, hrun, hended, hW, hsame⟩ := X1.leave (v := none) (fun _ => rfl)
  refine ⟨_, _, X1.returnOut hx Bd.returns (hb hby d7_4) hr, hrun, hended, _, _, rfl, ?_, ⟨_, rfl⟩, hW, hsame.mono (by decide) (by decide)⟩
  show Q7 Z this h0 n0 _ T1.heap _
  rw [e1]
  exact ⟨rfl, N0, rfl⟩
theorem d6_0 : decode prog_7_method_1_code 0 = .ok (.aload_n 0, 1) := by decide +kernel
theorem d6_1 : decode prog_7_method_1_code 1 = .ok (.invokespecial 1, 3) := by decide +kernel
theorem d6_4 : decode prog_7_method_1_code 4 = .ok (.aload_n 0, 1) := by decide +kernel
theorem d6_5 : decode prog_7_method_1_code 5 = .ok (.aload_n 1, 1) := by decide +kernel
theorem d6_6 : decode prog_7_method_1_code 6 = .ok (.putfield 7, 3) := by decide +kernel
theorem d6_9 : decode prog_7_method_1_code 9 = .ok (.aload_n 0, 1) := by decide +kernel
theorem d6_10 : decode prog_7_method_1_code 10 = .ok (.iload_n 2, 1) := by decide +kernel
theorem d6_11 : decode prog_7_method_1_code 11 = .ok (.putfield 13, 3) := by decide +kernel
theorem d6_14 : decode prog_7_method_1_code 14 = .ok (.aload_n 0, 1) := by decide +kernel
theorem d6_15 : decode prog_7_method_1_code 15 = .ok (.iload_n 3, 1) := by decide +kernel
theorem d6_16 : decode prog_7_method_1_code 16 = .ok (.putfield 17, 3) := by decide +kernel
theorem d6_19 : decode prog_7_method_1_code 19 = .ok (.aload_n 0, 1) := by decide +kernel
theorem d6_20 : decode prog_7_method_1_code 20 = .ok (.iload 4, 2) := by decide +kernel
theorem d6_22 : decode prog_7_method_1_code 22 = .ok (.putfield 20, 3) := by decide +kernel
theorem d6_25 : decode prog_7_method_1_code 25 = .ok (.return_, 1) := by decide +kernel
theorem pn_6 : plainName "com/example/eurycleia/eurycleia/html/Block" = true := by first | (simp [plainName, overriddenIn]; done) | decide +kernel
theorem pd_6_0 : parseMethodDescriptor "()V" = some ⟨[], none⟩ := by decide +kernel
theorem ef_rm6 (m : MethodId) (q0 : Addr) (q1 : Addr) (q2 : Int32) (q3 : Int32) (q4 : Int32) : entryFrame m #[(.ref q0), (.ref q1), (.int q2), (.int q3), (.int q4)] 5 = mkF m 0 #[oR q0, oR q1, oI q2, oI q3, oI q4] [] := by first | (simp [entryFrame, mkF, argsToLocals, Value.category]; done) | rfl
def Q6 (Z : State) (this : Addr) (p1 : Addr) (p2 : Int32) (p3 : Int32) (p4 : Int32) (h0 : Heap) (n0 : Nat) (v : Option Value) (h : Heap) (L : List Loc) : Prop := v = none ∧ Fr n0 L ∧ Keep h0 h [this] ∧ Fld Z h this "com/example/eurycleia/eurycleia/html/Block" "chars" "I" (.int p2) ∧ Fld Z h this "com/example/eurycleia/eurycleia/html/Block" "linkChars" "I" (.int p3) ∧ Fld Z h this "com/example/eurycleia/eurycleia/html/Block" "inFurniture" "Z" (.int p4)
set_option maxRecDepth 65536 in
set_option maxHeartbeats 40000000 in
theorem rm6 (l : Launch) (Z : State) (a0 : Array Value) (hw : ∀ d ∈ tables_1, d.before a0 Z = true) (ws : List Jvm.Cond) (this : Addr) (p1 : Addr) (p2 : Int32) (p3 : Int32) (p4 : Int32) (h0 : Heap) (n0 : Nat) (Z0 : n0 ≤ h0.size) (g_this : n0 ≤ this) (E_this : Exa Z h0 this "com/example/eurycleia/eurycleia/html/Block") (F_text : Fld Z h0 this "com/example/eurycleia/eurycleia/html/Block" "text" "Ljava/lang/String;" .null) (F_chars : Fld Z h0 this "com/example/eurycleia/eurycleia/html/Block" "chars" "I" (.int (0 : Int32))) (F_linkChars : Fld Z h0 this "com/example/eurycleia/eurycleia/html/Block" "linkChars" "I" (.int (0 : Int32))) (F_inFurniture : Fld Z h0 this "com/example/eurycleia/eurycleia/html/Block" "inFurniture" "Z" (.int (0 : Int32))) (hn4 : narrow .boolean (.int p4) = .int p4) (hf4 : fits .boolean (.int p4) = true) :
    MetFree l (⟨"com/example/eurycleia/eurycleia/html/Block", "<init>", "(Ljava/lang/String;IIZ)V"⟩ : MethodName) (head1 (Jvm.Cond.code (⟨"com/example/eurycleia/eurycleia/html/Block", "<init>", "(Ljava/lang/String;IIZ)V"⟩ : MethodName) prog_7_method_1_code 5 none :: ws) ({ frames := 2, cells := 0, slots := 0, locals := 24 } : Room)) (fun a U => a = #[(.ref this), (.ref p1), (.int p2), (.int p3), (.int p4)] ∧ Z.Warmed39 U.vm ∧ U.heap = h0) (fun _ _ _ _ _ => True) (fun _ U o U' => ∃ v L, o = .returned v ∧ Q6 Z this p1 p2 p3 p4 h0 n0 v U'.heap L ∧ FrameEnd U o U' L ({ frames := 2, cells := 0, slots := 0, locals := 24 } : Room).cells ({ frames := 2, cells := 0, slots := 0, locals := 24 } : Room).slots) := by
  refine MetFree.of_bodySF (plainFor_of_name pn_6) hisR ?_
  intro p e s m args below meth c s₁ Bd hml0 hP hK
  obtain ⟨rfl, hZ, hh⟩ := hP
  have hx := Bd.exec
  have hby := Bd.bytes
  have hml : c.maxLocals = 5 := hml0
  have hown : s.vm.findClass "com/example/eurycleia/eurycleia/html/Block" = some m.cls := findClass_of_methodNamed Bd.named
  have hnm := (name_of_methodNamed Bd.named Bd.method).1
  have X0 : Stand p l e ({ frames := 2, cells := 0, slots := 0, locals := 24 } : Room) s m #[(.ref this), (.ref p1), (.int p2), (.int p3), (.int p4)] below meth c s₁ [] 0 0 := Stand.of_body Bd
  have e0 : s₁.heap = h0 := by rw [← hh, Bd.state]; rfl
  have N0 := Fr.nil n0
  refine own_start ?_
  refine own_via (fun t k => castTop (ef_rm6 m this p1 p2 p3 p4) k) ?_
  show own_Go p e below _ (s₁.setTop (mkF m 0 #[oR this, oR p1, oI p2, oI p3, oI p4] []))
  refine own_via (fun t kz => XS.aloadN X0.here hx rfl (hb hby d6_0) rfl rfl kz) ?_
  show own_Go p e below _ (s₁.setTop (mkF m 1 #[oR this, oR p1, oI p2, oI p3, oI p4] [(.ref this)]))
  obtain ⟨_, _, ⟨T1, L1, k1, n1⟩, -, X1, ⟨Lc1, hQ1, l1, y1, z1⟩, st1⟩ := X0.specialBack hx (y := (⟨"java/lang/Record", "<init>", "()V"⟩ : MethodName)) rfl hown (mvT hZ (own_w hw 34)) (mvT hZ (own_w hw 35)) (mvT hZ (own_w hw 38)) (by decide) (backOf (W := 0) (rm7 l Z a0 hw [] this h0 n0 Z0) hZ (own_w hw 38) (own_w hw 37) (by decide) (by decide)) (g := (mkF m 1 #[oR this, oR p1, oI p2, oI p3, oI p4] [(.ref this)])) rfl (by rw [hml]; rfl) (Steps.refl _) (a := this) (argsL := []) (rest := []) (lenOf pd_6_0 rfl) rfl (by show 2 * 0 + _ ≤ _; exact Nat.le_of_eq rfl) (hb hby d6_1) (fun _ _ => ⟨rfl, e0, (by decide : 0 + 0 ≤ _), (by decide : 0 + 0 ≤ _)⟩)
  dsimp only [Pt.U, Pt.locs, Pt.cells, Pt.slots] at X1 l1 y1 z1 st1 hQ1
  subst l1 y1 z1
  obtain ⟨rfl, Nq1, e1⟩ := hQ1
  have N2 := Fr.app N0 Nq1
  refine own_tr st1 ?_
  show own_Go p e below _ (T1.setTop (mkF m 4 #[oR this, oR p1, oI p2, oI p3, oI p4] []))
  refine own_via (fun t kz => XS.aloadN X1.here hx rfl (hb hby d6_4) rfl rfl kz) ?_
  show own_Go p e below _ (T1.setTop (mkF m 5 #[oR this, oR p1, oI p2, oI p3, oI p4] [(.ref this)]))
  refine own_via (fun t kz => XS.aloadN X1.here hx rfl (hb hby d6_5) rfl rfl kz) ?_
  show own_Go p e below _ (T1.setTop (mkF m 6 #[oR this, oR p1, oI p2, oI p3, oI p4] [(.ref p1), (.ref this)]))
  obtain ⟨T3, h3, X3, e3, W3, st3⟩ := putF X1 hx hZ hown (host := "") (Or.inl (own_w hw 40)) Via.refl e1 F_text E_this (Or.inr ⟨(own_w hw 41), rfl, hnm⟩) (own_w hw 29) (ty := (.object "java/lang/String")) (by decide) rfl rfl (g := (mkF m 6 #[oR this, oR p1, oI p2, oI p3, oI p4] [(.ref p1), (.ref this)])) rfl rfl (hb hby d6_6)
  refine own_via st3 ?_
  have E4 := E_this.wr W3
  have F5 := F_text.same W3
  have F6 := F_chars.other W3 (Or.inr (slot_ne (Or.inr (own_w hw 43)) (Or.inr (own_w hw 41)) (by decide) (t := .int) (t' := (.object "java/lang/String")) (by decide) (by decide)))
  have F7 := F_linkChars.other W3 (Or.inr (slot_ne (Or.inr (own_w hw 45)) (Or.inr (own_w hw 41)) (by decide) (t := .int) (t' := (.object "java/lang/String")) (by decide) (by decide)))
  have F8 := F_inFurniture.other W3 (Or.inr (slot_ne (Or.inr (own_w hw 47)) (Or.inr (own_w hw 41)) (by decide) (t := .boolean) (t' := (.object "java/lang/String")) (by decide) (by decide)))
  have Zs9 : n0 ≤ h3.size := Nat.le_trans Z0 (Keep.of_wr W3).1
  have N10 := Fr.snoc X3 N2 g_this
  have K11 : Keep h0 h3 [this] := (Keep.refl h0 [this]).wr W3 (Or.inl (List.mem_of_getElem? (i := 0) rfl))
  show own_Go p e below _ (T3.setTop (mkF m 9 #[oR this, oR p1, oI p2, oI p3, oI p4] []))
  refine own_via (fun t kz => XS.aloadN X3.here hx rfl (hb hby d6_9) rfl rfl kz) ?_
  show own_Go p e below _ (T3.setTop (mkF m 10 #[oR this, oR p1, oI p2, oI p3, oI p4] [(.ref this)]))
  refine own_via (fun t kz => XS.iloadN X3.here hx rfl (hb hby d6_10) rfl kz) ?_
  show own_Go p e below _ (T3.setTop (mkF m 11 #[oR this, oR p1, oI p2, oI p3, oI p4] [(.int p2), (.ref this)]))
  obtain ⟨T12, h12, X12, e12, W12, st12⟩ := putF X3 hx hZ hown (host := "") (Or.inl (own_w hw 42)) Via.refl e3 F6 E4 (Or.inr ⟨(own_w hw 43), rfl, hnm⟩) (own_w hw 29) (ty := .int) (by decide) rfl rfl (g := (mkF m 11 #[oR this, oR p1, oI p2, oI p3, oI p4] [(.int p2), (.ref this)])) rfl rfl (hb hby d6_11)
  refine own_via st12 ?_
  have E13 := E4.wr W12
  have F14 := F5.other W12 (Or.inr (slot_ne (Or.inr (own_w hw 41)) (Or.inr (own_w hw 43)) (by decide) (t := (.object "java/lang/String")) (t' := .int) (by decide) (by decide)))
  have F15 := F6.same W12
  have F16 := F7.other W12 (Or.inr (slot_ne (Or.inr (own_w hw 45)) (Or.inr (own_w hw 43)) (by decide) (t := .int) (t' := .int) (by decide) (by decide)))
  have F17 := F8.other W12 (Or.inr (slot_ne (Or.inr (own_w hw 47)) (Or.inr (own_w hw 43)) (by decide) (t := .boolean) (t' := .int) (by decide) (by decide)))
  have Zs18 : n0 ≤ h12.size := Nat.le_trans Zs9 (Keep.of_wr W12).1
  have N19 := Fr.snoc X12 N10 g_this
  have K20 : Keep h0 h12 [this] := K11.wr W12 (Or.inl (List.mem_of_getElem? (i := 0) rfl))
  show own_Go p e below _ (T12.setTop (mkF m 14 #[oR this, oR p1, oI p2, oI p3, oI p4] []))
  refine own_via (fun t kz => XS.aloadN X12.here hx rfl (hb hby d6_14) rfl rfl kz) ?_
  show own_Go p e below _ (T12.setTop (mkF m 15 #[oR this, oR p1, oI p2, oI p3, oI p4] [(.ref this)]))
  refine own_via (fun t kz => XS.iloadN X12.here hx rfl (hb hby d6_15) rfl kz) ?_
  show own_Go p e below _ (T12.setTop (mkF m 16 #[oR this, oR p1, oI p2, oI p3, oI p4] [(.int p3), (.ref this)]))
  obtain ⟨T21, h21, X21, e21, W21, st21⟩ := putF X12 hx hZ hown (host := "") (Or.inl (own_w hw 44)) Via.refl e12 F16 E13 (Or.inr ⟨(own_w hw 45), rfl, hnm⟩) (own_w hw 29) (ty := .int) (by decide) rfl rfl (g := (mkF m 16 #[oR this, oR p1, oI p2, oI p3, oI p4] [(.int p3), (.ref this)])) rfl rfl (hb hby d6_16)
  refine own_via st21 ?_
  have E22 := E13.wr W21
  have F23 := F14.other W21 (Or.inr (slot_ne (Or.inr (own_w hw 41)) (Or.inr (own_w hw 45)) (by decide) (t := (.object "java/lang/String")) (t' := .int) (by decide) (by decide)))
  have F24 := F15.other W21 (Or.inr (slot_ne (Or.inr (own_w hw 43)) (Or.inr (own_w hw 45)) (by decide) (t := .int) (t' := .int) (by decide) (by decide)))
  have F25 := F16.same W21
  have F26 := F17.other W21 (Or.inr (slot_ne (Or.inr (own_w hw 47)) (Or.inr (own_w hw 45)) (by decide) (t := .boolean) (t' := .int) (by decide) (by decide)))
  have Zs27 : n0 ≤ h21.size := Nat.le_trans Zs18 (Keep.of_wr W21).1
  have N28 := Fr.snoc X21 N19 g_this
  have K29 : Keep h0 h21 [this] := K20.wr W21 (Or.inl (List.mem_of_getElem? (i := 0) rfl))
  show own_Go p e below _ (T21.setTop (mkF m 19 #[oR this, oR p1, oI p2, oI p3, oI p4] []))
  refine own_via (fun t kz => XS.aloadN X21.here hx rfl (hb hby d6_19) rfl rfl kz) ?_
  show own_Go p e below _ (T21.setTop (mkF m 20 #[oR this, oR p1, oI p2, oI p3, oI p4] [(.ref this)]))
  refine own_via (fun t kz => XS.iload X21.here hx rfl (hb hby d6_20) rfl kz) ?_
  show own_Go p e below _ (T21.setTop (mkF m 22 #[oR this, oR p1, oI p2, oI p3, oI p4] [(.int p4), (.ref this)]))
  obtain ⟨T30, h30, X30, e30, W30, st30⟩ := putF X21 hx hZ hown (host := "") (Or.inl (own_w hw 46)) Via.refl e21 F26 E22 (Or.inr ⟨(own_w hw 47), rfl, hnm⟩) (own_w hw 29) (ty := .boolean) (by decide) hn4 hf4 (g := (mkF m 22 #[oR this, oR p1, oI p2, oI p3, oI p4] [(.int p4), (.ref this)])) rfl rfl (hb hby d6_22)
  refine own_via st30 ?_
  have E31 := E22.wr W30
  have F32 := F23.other W30 (Or.inr (slot_ne (Or.inr (own_w hw 41)) (Or.inr (own_w hw 47)) (by decide) (t := (.object "java/lang/String")) (t' := .boolean) (by decide) (by decide)))
  have F33 := F24.other W30 (Or.inr (slot_ne (Or.inr (own_w hw 43)) (Or.inr (own_w hw 47)) (by decide) (t := .int) (t' := .boolean) (by decide) (by decide)))
  have F34 := F25.other W30 (Or.inr (slot_ne (Or.inr (own_w hw 45)) (Or.inr (own_w hw 47)) (by decide) (t := .int) (t' := .boolean) (by decide) (by decide)))
  have F35 := F26.same W30
  have Zs36 : n0 ≤ h30.size := Nat.le_trans Zs27 (Keep.of_wr W30).1
  have N37 := Fr.snoc X30 N28 g_this
  have K38 : Keep h0 h30 [this] := K29.wr W30 (Or.inl (List.mem_of_getElem? (i := 0) rfl))
  show own_Go p e below _ (T30.setTop (mkF m 25 #[oR this, oR p1, oI p2, oI p3, oI p4] []))
  obtain ⟨fs, hr, hrun, hended, hW, hsame⟩ := X30.leave (v := none) (fun _ => rfl)
  refine ⟨_, _, X30.returnOut hx Bd.returns (hb hby d6_25) hr, hrun, hended, _, _, rfl, ?_, ⟨_, rfl⟩, hW, hsame.mono (by decide) (by decide)⟩
  show Q6 Z this p1 p2 p3 p4 h0 n0 _ T30.heap _
  rw [e30]
  exact ⟨rfl, N37, K38, F33, F34, F35⟩
def f8 (wc : Int32) (wl : Int32) (wf : Int32) : UInt64 := (if wf = (0 : Int32) then (FP.l2d ((wc - wl).toInt64)) else (FP.l2d ((-wc).toInt64)))
theorem d8_0 : decode prog_7_method_3_code 0 = .ok (.aload_n 0, 1) := by decide +kernel
theorem d8_1 : decode prog_7_method_3_code 1 = .ok (.getfield 20, 3) := by decide +kernel
theorem d8_4 : decode prog_7_method_3_code 4 = .ok (.ifCond .eq 12, 3) := by decide +kernel
theorem d8_7 : decode prog_7_method_3_code 7 = .ok (.aload_n 0, 1) := by decide +kernel
theorem d8_8 : decode prog_7_method_3_code 8 = .ok (.getfield 13, 3) := by decide +kernel
theorem d8_11 : decode prog_7_method_3_code 11 = .ok (.ineg, 1) := by decide +kernel
theorem d8_12 : decode prog_7_method_3_code 12 = .ok (.i2d, 1) := by decide +kernel
theorem d8_13 : decode prog_7_method_3_code 13 = .ok (.goto 13, 3) := by decide +kernel
theorem d8_16 : decode prog_7_method_3_code 16 = .ok (.aload_n 0, 1) := by decide +kernel
theorem d8_17 : decode prog_7_method_3_code 17 = .ok (.getfield 13, 3) := by decide +kernel
theorem d8_20 : decode prog_7_method_3_code 20 = .ok (.aload_n 0, 1) := by decide +kernel
theorem d8_21 : decode prog_7_method_3_code 21 = .ok (.getfield 17, 3) := by decide +kernel
theorem d8_24 : decode prog_7_method_3_code 24 = .ok (.isub, 1) := by decide +kernel
theorem d8_25 : decode prog_7_method_3_code 25 = .ok (.i2d, 1) := by decide +kernel
theorem d8_26 : decode prog_7_method_3_code 26 = .ok (.dreturn, 1) := by decide +kernel
theorem ef_rm8 (m : MethodId) (q0 : Addr) : entryFrame m #[(.ref q0)] 1 = mkF m 0 #[oR q0] [] := by first | (simp [entryFrame, mkF, argsToLocals, Value.category]; done) | rfl
def Q8 (Z : State) (this : Addr) (wc : Int32) (wl : Int32) (wf : Int32) (r : UInt64) (h0 : Heap) (n0 : Nat) (v : Option Value) (h : Heap) (L : List Loc) : Prop := v = some (.double r) ∧ Fr n0 L ∧ h = h0
set_option maxRecDepth 65536 in
set_option maxHeartbeats 40000000 in
theorem rm8 (l : Launch) (Z : State) (a0 : Array Value) (hw : ∀ d ∈ tables_1, d.before a0 Z = true) (ws : List Jvm.Cond) (this : Addr) (wc : Int32) (wl : Int32) (wf : Int32) (r : UInt64) (h0 : Heap) (n0 : Nat) (Z0 : n0 ≤ h0.size) (F_wc : Fld Z h0 this "com/example/eurycleia/eurycleia/html/Block" "chars" "I" (.int wc)) (F_wl : Fld Z h0 this "com/example/eurycleia/eurycleia/html/Block" "linkChars" "I" (.int wl)) (F_wf : Fld Z h0 this "com/example/eurycleia/eurycleia/html/Block" "inFurniture" "Z" (.int wf)) (hr0 : (f8 wc wl wf) = r) :
    MetFree l (⟨"com/example/eurycleia/eurycleia/html/Block", "weight", "()D"⟩ : MethodName) (head1 (Jvm.Cond.code (⟨"com/example/eurycleia/eurycleia/html/Block", "weight", "()D"⟩ : MethodName) prog_7_method_3_code 1 (some .double) :: ws) ({ frames := 0, cells := 0, slots := 0, locals := 0 } : Room)) (fun a U => a = #[(.ref this)] ∧ Z.Warmed39 U.vm ∧ U.heap = h0) (fun _ _ _ _ _ => True) (fun _ U o U' => ∃ v L, o = .returned v ∧ Q8 Z this wc wl wf r h0 n0 v U'.heap L ∧ FrameEnd U o U' L ({ frames := 0, cells := 0, slots := 0, locals := 0 } : Room).cells ({ frames := 0, cells := 0, slots := 0, locals := 0 } : Room).slots) := by
  refine MetFree.of_bodySF (plainFor_of_name pn_6) hisR ?_
  intro p e s m args below meth c s₁ Bd hml0 hP hK
  obtain ⟨rfl, hZ, hh⟩ := hP
  have hx := Bd.exec
  have hby := Bd.bytes
  have hml : c.maxLocals = 1 := hml0
  have hown : s.vm.findClass "com/example/eurycleia/eurycleia/html/Block" = some m.cls := findClass_of_methodNamed Bd.named
  have hnm := (name_of_methodNamed Bd.named Bd.method).1
  have X0 : Stand p l e ({ frames := 0, cells := 0, slots := 0, locals := 0 } : Room) s m #[(.ref this)] below meth c s₁ [] 0 0 := Stand.of_body Bd
  have e0 : s₁.heap = h0 := by rw [← hh, Bd.state]; rfl
  have N0 := Fr.nil n0
  refine own_start ?_
  refine own_via (fun t k => castTop (ef_rm8 m this) k) ?_
  show own_Go p e below _ (s₁.setTop (mkF m 0 #[oR this] []))
  refine own_via (fun t kz => XS.aloadN X0.here hx rfl (hb hby d8_0) rfl rfl kz) ?_
  show own_Go p e below _ (s₁.setTop (mkF m 1 #[oR this] [(.ref this)]))
  obtain ⟨T1, X1, e1, st1⟩ := getF X0 hx hZ hown (host := "") (Or.inl (own_w hw 46)) Via.refl e0 F_wf (g := (mkF m 1 #[oR this] [(.ref this)])) rfl rfl (hb hby d8_1)
  refine own_via st1 ?_
  show own_Go p e below _ (T1.setTop (mkF m 4 #[oR this] [(.int wf)]))
  by_cases hc4_2 : wf = (0 : Int32)
  · refine own_via (fun t kz => XS.ifYes X1.here hx rfl (pc0 := 4) (pc' := 16) rfl (hb hby d8_4) rfl ((if0 _ _).trans (teq hc4_2).1) (by decide) (by decide) kz) ?_
    show own_Go p e below _ (T1.setTop (mkF m 16 #[oR this] []))
    refine own_via (fun t kz => XS.aloadN X1.here hx rfl (hb hby d8_16) rfl rfl kz) ?_
    show own_Go p e below _ (T1.setTop (mkF m 17 #[oR this] [(.ref this)]))
    obtain ⟨T3, X3, e3, st3⟩ := getF X1 hx hZ hown (host := "") (Or.inl (own_w hw 42)) Via.refl e1 F_wc (g := (mkF m 17 #[oR this] [(.ref this)])) rfl rfl (hb hby d8_17)
    refine own_via st3 ?_
    show own_Go p e below _ (T3.setTop (mkF m 20 #[oR this] [(.int wc)]))
    refine own_via (fun t kz => XS.aloadN X3.here hx rfl (hb hby d8_20) rfl rfl kz) ?_
    show own_Go p e below _ (T3.setTop (mkF m 21 #[oR this] [(.ref this), (.int wc)]))
    obtain ⟨T4, X4, e4, st4⟩ := getF X3 hx hZ hown (host := "") (Or.inl (own_w hw 44)) Via.refl e3 F_wl (g := (mkF m 21 #[oR this] [(.ref this), (.int wc)])) rfl rfl (hb hby d8_21)
    refine own_via st4 ?_
    show own_Go p e below _ (T4.setTop (mkF m 24 #[oR this] [(.int wl), (.int wc)]))
    refine own_via (fun t kz => XS.isub X4.here hx rfl (hb hby d8_24) rfl kz) ?_
    show own_Go p e below _ (T4.setTop (mkF m 25 #[oR this] [(.int (wc - wl))]))
    refine own_via (fun t kz => XS.i2dS X4.here hx rfl (hb hby d8_25) rfl (i2d_w (wc - wl)) kz) ?_
    show own_Go p e below _ (T4.setTop (mkF m 26 #[oR this] [(.double (FP.l2d ((wc - wl).toInt64)))]))
    have hv : (f8 wc wl wf) = (FP.l2d ((wc - wl).toInt64)) := by unfold f8; rw [if_pos hc4_2]
    obtain ⟨fs, hr, hrun, hended, hW, hsame⟩ := X4.leave (v := some (.double (FP.l2d ((wc - wl).toInt64)))) (fun h => by rw [Bd.returns] at h; cases h)
    refine ⟨_, _, retOut X4 hx (i := .dreturn) Bd.returns rfl (Or.inr (Or.inr (Or.inl ⟨rfl, rfl, _, rfl⟩))) (hb hby d8_26) hr, hrun, hended, _, _, rfl, ?_, ⟨_, rfl⟩, hW, hsame.mono (by decide) (by decide)⟩
    show Q8 Z this wc wl wf r h0 n0 _ T4.heap _
    rw [e4]
    exact ⟨by rw [← hr0, hv], N0, rfl⟩
  · refine own_via (fun t kz => XS.ifNo X1.here hx rfl (hb hby d8_4) rfl ((if0 _ _).trans (feq hc4_2).1) kz) ?_
    show own_Go p e below _ (T1.setTop (mkF m 7 #[oR this] []))
    refine own_via (fun t kz => XS.aloadN X1.here hx rfl (hb hby d8_7) rfl rfl kz) ?_
    show own_Go p e below _ (T1.setTop (mkF m 8 #[oR this] [(.ref this)]))
    obtain ⟨T6, X6, e6, st6⟩ := getF X1 hx hZ hown (host := "") (Or.inl (own_w hw 42)) Via.refl e1 F_wc (g := (mkF m 8 #[oR this] [(.ref this)])) rfl rfl (hb hby d8_8)
    refine own_via st6 ?_
    show own_Go p e below _ (T6.setTop (mkF m 11 #[oR this] [(.int wc)]))
    refine own_via (fun t kz => XS.ineg X6.here hx rfl (hb hby d8_11) rfl kz) ?_
    show own_Go p e below _ (T6.setTop (mkF m 12 #[oR this] [(.int (-wc))]))
    refine own_via (fun t kz => XS.i2dS X6.here hx rfl (hb hby d8_12) rfl (i2d_w (-wc)) kz) ?_
    show own_Go p e below _ (T6.setTop (mkF m 13 #[oR this] [(.double (FP.l2d ((-wc).toInt64)))]))
    refine own_via (fun t kz => XS.goto X6.here hx rfl (pc0 := 13) (pc' := 26) rfl (hb hby d8_13) (by decide) (by decide) kz) ?_
    show own_Go p e below _ (T6.setTop (mkF m 26 #[oR this] [(.double (FP.l2d ((-wc).toInt64)))]))
    have hv : (f8 wc wl wf) = (FP.l2d ((-wc).toInt64)) := by unfold f8; rw [if_neg hc4_2]
    obtain ⟨fs, hr, hrun, hended, hW, hsame⟩ := X6.leave (v := some (.double (FP.l2d ((-wc).toInt64)))) (fun h => by rw [Bd.returns] at h; cases h)
    refine ⟨_, _, retOut X6 hx (i := .dreturn) Bd.returns rfl (Or.inr (Or.inr (Or.inl ⟨rfl, rfl, _, rfl⟩))) (hb hby d8_26) hr, hrun, hended, _, _, rfl, ?_, ⟨_, rfl⟩, hW, hsame.mono (by decide) (by decide)⟩
    show Q8 Z this wc wl wf r h0 n0 _ T6.heap _
    rw [e6]
    exact ⟨by rw [← hr0, hv], N0, rfl⟩
theorem own_b530 : B53 (0 : Int64) := by constructor <;> decide
theorem own_b53n (x : Int32) : B53 ((0 : Int64) - (x.toInt64)) := by
  have h := rng32 x
  have e := c_i2l x
  have q := c_lsub 0 x.toInt64
  have r := rng64 (0 - x.toInt64)
  simp only [Int64.reduceToInt] at q
  constructor <;> omega
theorem own_b53d {x y : Int32} : B53 ((x.toInt64) - (y.toInt64)) := by
  have h := rng32 x
  have e := c_i2l x
  have h' := rng32 y
  have e' := c_i2l y
  have q := c_lsub x.toInt64 y.toInt64
  have r := rng64 (x.toInt64 - y.toInt64)
  constructor <;> omega
theorem own_mask (x : Int32) : 0 ≤ (x &&& 2147483647).toInt := (c_and x 2147483647 (by decide)).1
theorem own_nz (p0 : Int32) : (((p0 &&& (2147483647 : Int32)).toInt64) + (1 : Int64)) ≠ 0 := fun h => by
  have a := own_mask p0
  have b := rng32 (p0 &&& 2147483647)
  have e := c_i2l (p0 &&& 2147483647)
  have q := c_ladd (p0 &&& 2147483647).toInt64 1
  have h' := congrArg Int64.toInt h
  simp only [Int64.reduceToInt] at q h'
  omega
theorem own_ch (x : Int32) : ¬ ((255 : Int32) < ((x &&& (255 : Int32)).toUInt32.toUInt16.toUInt32.toInt32)) := by
  rw [i2c_mask, Int32.lt_iff_toInt_lt]
  have h := (c_and x 255 (by decide)).2
  simp only [Int32.reduceToInt] at *
  omega
theorem own_ce (x : Int32) : f2 ((x &&& (255 : Int32)).toUInt32.toUInt16.toUInt32.toInt32) = 1 := by unfold f2; rw [if_neg (own_ch x)]
theorem own_ne0 {args : Array Value} {s : State} {t : Term} {x : Int32} (ev : t.eval args s none [] s = some (.int x)) (h : (Jvm.Cond.not (Jvm.Cond.eq t (Jvm.Term.int (0 : Int32)))).value args s none s [] = some true) : ¬ (x = (0 : Int32)) := by
  have e2 : (Term.int (0 : Int32)).eval args s none [] s = some (.int 0) := rfl
  simpa [Cond.value, ev, e2] using h
theorem own_lk (c : Int32) (hc : 0 ≤ c.toInt) (x : Int32) : 0 ≤ ((((x.toInt64) &&& (2147483647 : Int64)) - ((x.toInt64) &&& (2147483647 : Int64)) / ((c.toInt64) + (1 : Int64)) * ((c.toInt64) + (1 : Int64))).toInt32).toInt ∧ ((((x.toInt64) &&& (2147483647 : Int64)) - ((x.toInt64) &&& (2147483647 : Int64)) / ((c.toInt64) + (1 : Int64)) * ((c.toInt64) + (1 : Int64))).toInt32).toInt ≤ c.toInt := by
  have b := rng32 c
  have e := c_i2l c
  have q := c_ladd c.toInt64 1
  have r := rng64 (c.toInt64 + 1)
  have y := c_maskL x.toInt64 2147483647 31 (by decide) (by decide)
  generalize x.toInt64 &&& 2147483647 = w at *
  have d : (c.toInt64 + 1).toInt = c.toInt + 1 := by simp only [Int64.reduceToInt] at q; omega
  have z := (c_lrem w (c.toInt64 + 1) _ d).1 (by omega)
  have g := c_l2i (w - w / (c.toInt64 + 1) * (c.toInt64 + 1))
  have k := rng32 (w - w / (c.toInt64 + 1) * (c.toInt64 + 1)).toInt32
  rw [z] at g
  have m1 := Int.emod_nonneg w.toInt (show c.toInt + 1 ≠ 0 by omega)
  have m2 := Int.emod_lt_of_pos w.toInt (show 0 < c.toInt + 1 by omega)
  constructor <;> omega
theorem own_neg (c : Int32) (hc : 0 ≤ c.toInt) : ((-c).toInt64) = ((0 : Int64) - (c.toInt64)) := by
  apply Int64.toInt_inj.mp
  have b := rng32 c
  have e := c_i2l c
  have e2 := c_i2l (-c)
  have q := c_ineg c
  have b2 := rng32 (-c)
  have q2 := c_lsub 0 c.toInt64
  have r := rng64 (0 - c.toInt64)
  simp only [Int64.reduceToInt] at q2
  omega
theorem own_dif (c k : Int32) (hc : 0 ≤ c.toInt) (hk : 0 ≤ k.toInt) (hk2 : k.toInt ≤ c.toInt) : ((c - k).toInt64) = ((c.toInt64) - (k.toInt64)) ∧ ((c - k).toInt64).toInt = c.toInt - k.toInt := by
  have b := rng32 c
  have e := c_i2l c
  have e1 := c_i2l k
  have e2 := c_i2l (c - k)
  have q := c_isub c k
  have b2 := rng32 (c - k)
  have q2 := c_lsub c.toInt64 k.toInt64
  have r := rng64 (c.toInt64 - k.toInt64)
  refine ⟨Int64.toInt_inj.mp ?_, ?_⟩ <;> omega
def f0 (p0 : Int32) (p1 : Int32) (p2 : Int32) : Int32 := (if (p2 &&& (1 : Int32)) = (0 : Int32) then (if (((p0 &&& (2147483647 : Int32)) - ((((p1.toInt64) &&& (2147483647 : Int64)) - ((p1.toInt64) &&& (2147483647 : Int64)) / (((p0 &&& (2147483647 : Int32)).toInt64) + (1 : Int64)) * (((p0 &&& (2147483647 : Int32)).toInt64) + (1 : Int64))).toInt32)).toInt64) = (((p0 &&& (2147483647 : Int32)).toInt64) - (((((p1.toInt64) &&& (2147483647 : Int64)) - ((p1.toInt64) &&& (2147483647 : Int64)) / (((p0 &&& (2147483647 : Int32)).toInt64) + (1 : Int64)) * (((p0 &&& (2147483647 : Int32)).toInt64) + (1 : Int64))).toInt32).toInt64)) then (if (((p0 &&& (2147483647 : Int32)) - ((((p1.toInt64) &&& (2147483647 : Int64)) - ((p1.toInt64) &&& (2147483647 : Int64)) / (((p0 &&& (2147483647 : Int32)).toInt64) + (1 : Int64)) * (((p0 &&& (2147483647 : Int32)).toInt64) + (1 : Int64))).toInt32)).toInt64) < (0 : Int64) then (0 : Int32) else (if ((p0 &&& (2147483647 : Int32)).toInt64) < (((p0 &&& (2147483647 : Int32)) - ((((p1.toInt64) &&& (2147483647 : Int64)) - ((p1.toInt64) &&& (2147483647 : Int64)) / (((p0 &&& (2147483647 : Int32)).toInt64) + (1 : Int64)) * (((p0 &&& (2147483647 : Int32)).toInt64) + (1 : Int64))).toInt32)).toInt64) then (0 : Int32) else (1 : Int32))) else (0 : Int32)) else (if ((-(p0 &&& (2147483647 : Int32))).toInt64) = ((0 : Int64) - ((p0 &&& (2147483647 : Int32)).toInt64)) then (if (0 : Int64) < ((-(p0 &&& (2147483647 : Int32))).toInt64) then (0 : Int32) else (1 : Int32)) else (0 : Int32)))
theorem own_plain (p0 p1 p2 : Int32) : f0 p0 p1 p2 = 1 := by
  have hc := own_mask p0
  obtain ⟨k1, k2⟩ := own_lk _ hc p1
  have e := c_i2l (p0 &&& 2147483647)
  unfold f0
  generalize (p0 &&& (2147483647 : Int32)) = c at *
  generalize ((((p1.toInt64) &&& (2147483647 : Int64)) - ((p1.toInt64) &&& (2147483647 : Int64)) / ((c.toInt64) + (1 : Int64)) * ((c.toInt64) + (1 : Int64))).toInt32) = k at *
  obtain ⟨d1, d2⟩ := own_dif c k hc k1 k2
  have d3 := own_neg c hc
  have d4 : ((-c).toInt64).toInt = - c.toInt := by
    rw [d3]
    have q2 := c_lsub 0 c.toInt64
    have r := rng64 (0 - c.toInt64)
    have b := rng32 c
    simp only [Int64.reduceToInt] at q2
    omega
  have n1 : ¬ (0 : Int64) < ((-c).toInt64) := by rw [Int64.lt_iff_toInt_lt, d4]; simp only [Int64.reduceToInt]; omega
  have n2 : ¬ ((c - k).toInt64) < (0 : Int64) := by rw [Int64.lt_iff_toInt_lt, d2]; simp only [Int64.reduceToInt]; omega
  have n3 : ¬ (c.toInt64) < ((c - k).toInt64) := by rw [Int64.lt_iff_toInt_lt, d2, e]; omega
  simp only [if_pos d1, if_pos d3, if_neg n1, if_neg n2, if_neg n3, ite_self]
theorem pn_0 : plainName "com/example/eurycleia/eurycleia/html/BlockWeightPinLaw" = true := by first | (simp [plainName, overriddenIn]; done) | decide +kernel
theorem pd_0_0 : parseMethodDescriptor "(C)Ljava/lang/String;" = some ⟨[.char], some (.object "java/lang/String")⟩ := by decide +kernel
theorem pd_0_1 : parseMethodDescriptor "(Ljava/lang/String;IIZ)V" = some ⟨[(.object "java/lang/String"), .int, .int, .boolean], none⟩ := by decide +kernel
theorem pd_0_2 : parseMethodDescriptor "()D" = some ⟨[], some .double⟩ := by decide +kernel
theorem ef_rm0 (m : MethodId) (q0 : Int32) (q1 : Int32) (q2 : Int32) (q3 : Int32) : entryFrame m #[(.int q0), (.int q1), (.int q2), (.int q3)] maxLocals = mkF m 0 #[oI q0, oI q1, oI q2, oI q3, .unset, .unset, .unset, .unset, .unset, .unset, .unset, .unset, .unset, .unset, .unset] [] := by first | (simp [entryFrame, mkF, argsToLocals, Value.category, maxLocals]; done) | rfl
def Q0 (Z : State) (p0 : Int32) (p1 : Int32) (p2 : Int32) (p3 : Int32) (wcs : Int32) (h0 : Heap) (n0 : Nat) (v : Option Value) (h : Heap) (L : List Loc) : Prop := v = some (.int (1 : Int32)) ∧ Fr n0 L
set_option maxRecDepth 65536 in
set_option maxHeartbeats 40000000 in
theorem rm0 (l : Launch) (Z : State) (a0 : Array Value) (hw : ∀ d ∈ tables_1, d.before a0 Z = true) (ws : List Jvm.Cond) (p0 : Int32) (p1 : Int32) (p2 : Int32) (p3 : Int32) (wcs : Int32) (h0 : Heap) (n0 : Nat) (Z0 : n0 ≤ h0.size) (S_cs : Sta Z h0 "java/lang/String" "COMPACT_STRINGS" "Z" (.int wcs)) (hcs : ¬ (wcs = (0 : Int32))) :
    MetFree l x (head1 (Jvm.Cond.code x code maxLocals ret :: ws) room_1) (fun a U => a = #[(.int p0), (.int p1), (.int p2), (.int p3)] ∧ Z.Warmed39 U.vm ∧ U.heap = h0) (fun _ _ _ _ _ => True) (fun _ U o U' => ∃ v L, o = .returned v ∧ Q0 Z p0 p1 p2 p3 wcs h0 n0 v U'.heap L ∧ FrameEnd U o U' L room_1.cells room_1.slots) := by
  refine MetFree.of_bodySF (plainFor_of_name pn_0) hisR ?_
  intro p e s m args below meth c s₁ Bd hml0 hP hK
  obtain ⟨rfl, hZ, hh⟩ := hP
  have hx := Bd.exec
  have hby := Bd.bytes
  have hml : c.maxLocals = 15 := hml0
  have hown : s.vm.findClass "com/example/eurycleia/eurycleia/html/BlockWeightPinLaw" = some m.cls := findClass_of_methodNamed Bd.named
  have hnm := (name_of_methodNamed Bd.named Bd.method).1
  have X0 : Stand p l e room_1 s m #[(.int p0), (.int p1), (.int p2), (.int p3)] below meth c s₁ [] 0 0 := Stand.of_body Bd
  have e0 : s₁.heap = h0 := by rw [← hh, Bd.state]; rfl
  have N0 := Fr.nil n0
  refine own_start ?_
  refine own_via (fun t k => castTop (ef_rm0 m p0 p1 p2 p3) k) ?_
  show own_Go p e below _ (s₁.setTop (mkF m 0 #[oI p0, oI p1, oI p2, oI p3, .unset, .unset, .unset, .unset, .unset, .unset, .unset, .unset, .unset, .unset, .unset] []))
  refine own_via (fun t kz => XS.iloadN X0.here hx rfl (hb hby at_0) rfl kz) ?_
  show own_Go p e below _ (s₁.setTop (mkF m 1 #[oI p0, oI p1, oI p2, oI p3, .unset, .unset, .unset, .unset, .unset, .unset, .unset, .unset, .unset, .unset, .unset] [(.int p0)]))
  refine own_via (fun t kz => X0.ldcInt hx hown (mvT hZ (own_w hw 0)) (g := (mkF m 1 #[oI p0, oI p1, oI p2, oI p3, .unset, .unset, .unset, .unset, .unset, .unset, .unset, .unset, .unset, .unset, .unset] [(.int p0)])) rfl (hb hby at_1) t kz) ?_
  show own_Go p e below _ (s₁.setTop (mkF m 3 #[oI p0, oI p1, oI p2, oI p3, .unset, .unset, .unset, .unset, .unset, .unset, .unset, .unset, .unset, .unset, .unset] [(.int (2147483647 : Int32)), (.int p0)]))
  refine own_via (fun t kz => XS.iand X0.here hx rfl (hb hby at_3) rfl kz) ?_
  show own_Go p e below _ (s₁.setTop (mkF m 4 #[oI p0, oI p1, oI p2, oI p3, .unset, .unset, .unset, .unset, .unset, .unset, .unset, .unset, .unset, .unset, .unset] [(.int (p0 &&& (2147483647 : Int32)))]))
  refine own_via (fun t kz => XS.istore X0.here hx rfl (hb hby at_4) rfl (l' := #[oI p0, oI p1, oI p2, oI p3, oI (p0 &&& (2147483647 : Int32)), .unset, .unset, .unset, .unset, .unset, .unset, .unset, .unset, .unset, .unset]) rfl kz) ?_
  show own_Go p e below _ (s₁.setTop (mkF m 6 #[oI p0, oI p1, oI p2, oI p3, oI (p0 &&& (2147483647 : Int32)), .unset, .unset, .unset, .unset, .unset, .unset, .unset, .unset, .unset, .unset] []))
  refine own_via (fun t kz => XS.iloadN X0.here hx rfl (hb hby at_6) rfl kz) ?_
  show own_Go p e below _ (s₁.setTop (mkF m 7 #[oI p0, oI p1, oI p2, oI p3, oI (p0 &&& (2147483647 : Int32)), .unset, .unset, .unset, .unset, .unset, .unset, .unset, .unset, .unset, .unset] [(.int p1)]))
  refine own_via (fun t kz => XS.i2l X0.here hx rfl (hb hby at_7) rfl kz) ?_
  show own_Go p e below _ (s₁.setTop (mkF m 8 #[oI p0, oI p1, oI p2, oI p3, oI (p0 &&& (2147483647 : Int32)), .unset, .unset, .unset, .unset, .unset, .unset, .unset, .unset, .unset, .unset] [(.long (p1.toInt64))]))
  refine own_via (fun t kz => X0.ldc2Long hx hown (mvT hZ (own_w hw 1)) (g := (mkF m 8 #[oI p0, oI p1, oI p2, oI p3, oI (p0 &&& (2147483647 : Int32)), .unset, .unset, .unset, .unset, .unset, .unset, .unset, .unset, .unset, .unset] [(.long (p1.toInt64))])) rfl (hb hby at_8) t kz) ?_
  show own_Go p e below _ (s₁.setTop (mkF m 11 #[oI p0, oI p1, oI p2, oI p3, oI (p0 &&& (2147483647 : Int32)), .unset, .unset, .unset, .unset, .unset, .unset, .unset, .unset, .unset, .unset] [(.long (2147483647 : Int64)), (.long (p1.toInt64))]))
  refine own_via (fun t kz => XS.land X0.here hx rfl (hb hby at_11) rfl kz) ?_
  show own_Go p e below _ (s₁.setTop (mkF m 12 #[oI p0, oI p1, oI p2, oI p3, oI (p0 &&& (2147483647 : Int32)), .unset, .unset, .unset, .unset, .unset, .unset, .unset, .unset, .unset, .unset] [(.long ((p1.toInt64) &&& (2147483647 : Int64)))]))
  refine own_via (fun t kz => XS.iload X0.here hx rfl (hb hby at_12) rfl kz) ?_
  show own_Go p e below _ (s₁.setTop (mkF m 14 #[oI p0, oI p1, oI p2, oI p3, oI (p0 &&& (2147483647 : Int32)), .unset, .unset, .unset, .unset, .unset, .unset, .unset, .unset, .unset, .unset] [(.int (p0 &&& (2147483647 : Int32))), (.long ((p1.toInt64) &&& (2147483647 : Int64)))]))
  refine own_via (fun t kz => XS.i2l X0.here hx rfl (hb hby at_14) rfl kz) ?_
  show own_Go p e below _ (s₁.setTop (mkF m 15 #[oI p0, oI p1, oI p2, oI p3, oI (p0 &&& (2147483647 : Int32)), .unset, .unset, .unset, .unset, .unset, .unset, .unset, .unset, .unset, .unset] [(.long ((p0 &&& (2147483647 : Int32)).toInt64)), (.long ((p1.toInt64) &&& (2147483647 : Int64)))]))
  refine own_via (fun t kz => XS.lconst X0.here hx rfl (hb hby at_15) kz) ?_
  show own_Go p e below _ (s₁.setTop (mkF m 16 #[oI p0, oI p1, oI p2, oI p3, oI (p0 &&& (2147483647 : Int32)), .unset, .unset, .unset, .unset, .unset, .unset, .unset, .unset, .unset, .unset] [(.long (1 : Int64)), (.long ((p0 &&& (2147483647 : Int32)).toInt64)), (.long ((p1.toInt64) &&& (2147483647 : Int64)))]))
  refine own_via (fun t kz => XS.ladd X0.here hx rfl (hb hby at_16) rfl kz) ?_
  show own_Go p e below _ (s₁.setTop (mkF m 17 #[oI p0, oI p1, oI p2, oI p3, oI (p0 &&& (2147483647 : Int32)), .unset, .unset, .unset, .unset, .unset, .unset, .unset, .unset, .unset, .unset] [(.long (((p0 &&& (2147483647 : Int32)).toInt64) + (1 : Int64))), (.long ((p1.toInt64) &&& (2147483647 : Int64)))]))
  refine own_via (fun t kz => XS.lrem X0.here hx rfl (hb hby at_17) rfl (own_nz p0) kz) ?_
  show own_Go p e below _ (s₁.setTop (mkF m 18 #[oI p0, oI p1, oI p2, oI p3, oI (p0 &&& (2147483647 : Int32)), .unset, .unset, .unset, .unset, .unset, .unset, .unset, .unset, .unset, .unset] [(.long (((p1.toInt64) &&& (2147483647 : Int64)) - ((p1.toInt64) &&& (2147483647 : Int64)) / (((p0 &&& (2147483647 : Int32)).toInt64) + (1 : Int64)) * (((p0 &&& (2147483647 : Int32)).toInt64) + (1 : Int64))))]))
  refine own_via (fun t kz => XS.l2i X0.here hx rfl (hb hby at_18) rfl kz) ?_
  show own_Go p e below _ (s₁.setTop (mkF m 19 #[oI p0, oI p1, oI p2, oI p3, oI (p0 &&& (2147483647 : Int32)), .unset, .unset, .unset, .unset, .unset, .unset, .unset, .unset, .unset, .unset] [(.int ((((p1.toInt64) &&& (2147483647 : Int64)) - ((p1.toInt64) &&& (2147483647 : Int64)) / (((p0 &&& (2147483647 : Int32)).toInt64) + (1 : Int64)) * (((p0 &&& (2147483647 : Int32)).toInt64) + (1 : Int64))).toInt32))]))
  refine own_via (fun t kz => XS.istore X0.here hx rfl (hb hby at_19) rfl (l' := #[oI p0, oI p1, oI p2, oI p3, oI (p0 &&& (2147483647 : Int32)), oI ((((p1.toInt64) &&& (2147483647 : Int64)) - ((p1.toInt64) &&& (2147483647 : Int64)) / (((p0 &&& (2147483647 : Int32)).toInt64) + (1 : Int64)) * (((p0 &&& (2147483647 : Int32)).toInt64) + (1 : Int64))).toInt32), .unset, .unset, .unset, .unset, .unset, .unset, .unset, .unset, .unset]) rfl kz) ?_
  show own_Go p e below _ (s₁.setTop (mkF m 21 #[oI p0, oI p1, oI p2, oI p3, oI (p0 &&& (2147483647 : Int32)), oI ((((p1.toInt64) &&& (2147483647 : Int64)) - ((p1.toInt64) &&& (2147483647 : Int64)) / (((p0 &&& (2147483647 : Int32)).toInt64) + (1 : Int64)) * (((p0 &&& (2147483647 : Int32)).toInt64) + (1 : Int64))).toInt32), .unset, .unset, .unset, .unset, .unset, .unset, .unset, .unset, .unset] []))
  refine own_via (fun t kz => XS.iloadN X0.here hx rfl (hb hby at_21) rfl kz) ?_
  show own_Go p e below _ (s₁.setTop (mkF m 22 #[oI p0, oI p1, oI p2, oI p3, oI (p0 &&& (2147483647 : Int32)), oI ((((p1.toInt64) &&& (2147483647 : Int64)) - ((p1.toInt64) &&& (2147483647 : Int64)) / (((p0 &&& (2147483647 : Int32)).toInt64) + (1 : Int64)) * (((p0 &&& (2147483647 : Int32)).toInt64) + (1 : Int64))).toInt32), .unset, .unset, .unset, .unset, .unset, .unset, .unset, .unset, .unset] [(.int p2)]))
  refine own_via (fun t kz => XS.iconst X0.here hx rfl (hb hby at_22) kz) ?_
  show own_Go p e below _ (s₁.setTop (mkF m 23 #[oI p0, oI p1, oI p2, oI p3, oI (p0 &&& (2147483647 : Int32)), oI ((((p1.toInt64) &&& (2147483647 : Int64)) - ((p1.toInt64) &&& (2147483647 : Int64)) / (((p0 &&& (2147483647 : Int32)).toInt64) + (1 : Int64)) * (((p0 &&& (2147483647 : Int32)).toInt64) + (1 : Int64))).toInt32), .unset, .unset, .unset, .unset, .unset, .unset, .unset, .unset, .unset] [(.int (1 : Int32)), (.int p2)]))
  refine own_via (fun t kz => XS.iand X0.here hx rfl (hb hby at_23) rfl kz) ?_
  show own_Go p e below _ (s₁.setTop (mkF m 24 #[oI p0, oI p1, oI p2, oI p3, oI (p0 &&& (2147483647 : Int32)), oI ((((p1.toInt64) &&& (2147483647 : Int64)) - ((p1.toInt64) &&& (2147483647 : Int64)) / (((p0 &&& (2147483647 : Int32)).toInt64) + (1 : Int64)) * (((p0 &&& (2147483647 : Int32)).toInt64) + (1 : Int64))).toInt32), .unset, .unset, .unset, .unset, .unset, .unset, .unset, .unset, .unset] [(.int (p2 &&& (1 : Int32)))]))
  by_cases hc24_1 : (p2 &&& (1 : Int32)) = (0 : Int32)
  · refine own_via (fun t kz => XS.ifYes X0.here hx rfl (pc0 := 24) (pc' := 31) rfl (hb hby at_24) rfl ((if0 _ _).trans (teq hc24_1).1) (by decide) (by decide) kz) ?_
    show own_Go p e below _ (s₁.setTop (mkF m 31 #[oI p0, oI p1, oI p2, oI p3, oI (p0 &&& (2147483647 : Int32)), oI ((((p1.toInt64) &&& (2147483647 : Int64)) - ((p1.toInt64) &&& (2147483647 : Int64)) / (((p0 &&& (2147483647 : Int32)).toInt64) + (1 : Int64)) * (((p0 &&& (2147483647 : Int32)).toInt64) + (1 : Int64))).toInt32), .unset, .unset, .unset, .unset, .unset, .unset, .unset, .unset, .unset] []))
    refine own_via (fun t kz => XS.iconst X0.here hx rfl (hb hby at_31) kz) ?_
    show own_Go p e below _ (s₁.setTop (mkF m 32 #[oI p0, oI p1, oI p2, oI p3, oI (p0 &&& (2147483647 : Int32)), oI ((((p1.toInt64) &&& (2147483647 : Int64)) - ((p1.toInt64) &&& (2147483647 : Int64)) / (((p0 &&& (2147483647 : Int32)).toInt64) + (1 : Int64)) * (((p0 &&& (2147483647 : Int32)).toInt64) + (1 : Int64))).toInt32), .unset, .unset, .unset, .unset, .unset, .unset, .unset, .unset, .unset] [(.int (0 : Int32))]))
    refine own_via (fun t kz => XS.istore X0.here hx rfl (hb hby at_32) rfl (l' := #[oI p0, oI p1, oI p2, oI p3, oI (p0 &&& (2147483647 : Int32)), oI ((((p1.toInt64) &&& (2147483647 : Int64)) - ((p1.toInt64) &&& (2147483647 : Int64)) / (((p0 &&& (2147483647 : Int32)).toInt64) + (1 : Int64)) * (((p0 &&& (2147483647 : Int32)).toInt64) + (1 : Int64))).toInt32), oI (0 : Int32), .unset, .unset, .unset, .unset, .unset, .unset, .unset, .unset]) rfl kz) ?_
    show own_Go p e below _ (s₁.setTop (mkF m 34 #[oI p0, oI p1, oI p2, oI p3, oI (p0 &&& (2147483647 : Int32)), oI ((((p1.toInt64) &&& (2147483647 : Int64)) - ((p1.toInt64) &&& (2147483647 : Int64)) / (((p0 &&& (2147483647 : Int32)).toInt64) + (1 : Int64)) * (((p0 &&& (2147483647 : Int32)).toInt64) + (1 : Int64))).toInt32), oI (0 : Int32), .unset, .unset, .unset, .unset, .unset, .unset, .unset, .unset] []))
    refine own_via (fun t kz => XS.iloadN X0.here hx rfl (hb hby at_34) rfl kz) ?_
    show own_Go p e below _ (s₁.setTop (mkF m 35 #[oI p0, oI p1, oI p2, oI p3, oI (p0 &&& (2147483647 : Int32)), oI ((((p1.toInt64) &&& (2147483647 : Int64)) - ((p1.toInt64) &&& (2147483647 : Int64)) / (((p0 &&& (2147483647 : Int32)).toInt64) + (1 : Int64)) * (((p0 &&& (2147483647 : Int32)).toInt64) + (1 : Int64))).toInt32), oI (0 : Int32), .unset, .unset, .unset, .unset, .unset, .unset, .unset, .unset] [(.int p3)]))
    refine own_via (fun t kz => XS.sipush X0.here hx rfl (hb hby at_35) kz) ?_
    show own_Go p e below _ (s₁.setTop (mkF m 38 #[oI p0, oI p1, oI p2, oI p3, oI (p0 &&& (2147483647 : Int32)), oI ((((p1.toInt64) &&& (2147483647 : Int64)) - ((p1.toInt64) &&& (2147483647 : Int64)) / (((p0 &&& (2147483647 : Int32)).toInt64) + (1 : Int64)) * (((p0 &&& (2147483647 : Int32)).toInt64) + (1 : Int64))).toInt32), oI (0 : Int32), .unset, .unset, .unset, .unset, .unset, .unset, .unset, .unset] [(.int (255 : Int32)), (.int p3)]))
    refine own_via (fun t kz => XS.iand X0.here hx rfl (hb hby at_38) rfl kz) ?_
    show own_Go p e below _ (s₁.setTop (mkF m 39 #[oI p0, oI p1, oI p2, oI p3, oI (p0 &&& (2147483647 : Int32)), oI ((((p1.toInt64) &&& (2147483647 : Int64)) - ((p1.toInt64) &&& (2147483647 : Int64)) / (((p0 &&& (2147483647 : Int32)).toInt64) + (1 : Int64)) * (((p0 &&& (2147483647 : Int32)).toInt64) + (1 : Int64))).toInt32), oI (0 : Int32), .unset, .unset, .unset, .unset, .unset, .unset, .unset, .unset] [(.int (p3 &&& (255 : Int32)))]))
    refine own_via (fun t kz => XS.i2c X0.here hx rfl (hb hby at_39) rfl kz) ?_
    show own_Go p e below _ (s₁.setTop (mkF m 40 #[oI p0, oI p1, oI p2, oI p3, oI (p0 &&& (2147483647 : Int32)), oI ((((p1.toInt64) &&& (2147483647 : Int64)) - ((p1.toInt64) &&& (2147483647 : Int64)) / (((p0 &&& (2147483647 : Int32)).toInt64) + (1 : Int64)) * (((p0 &&& (2147483647 : Int32)).toInt64) + (1 : Int64))).toInt32), oI (0 : Int32), .unset, .unset, .unset, .unset, .unset, .unset, .unset, .unset] [(.int ((p3 &&& (255 : Int32)).toUInt32.toUInt16.toUInt32.toInt32))]))
    obtain ⟨_, _, ⟨T2, L2, k2, n2⟩, -, X2, ⟨Lc2, hQ2, l2, y2, z2⟩, st2⟩ := Jvm.LawKit.callS X0 hx (y := (⟨"java/lang/String", "valueOf", "(C)Ljava/lang/String;"⟩ : MethodName)) hown (mvT hZ (own_w hw 2)) (mvT hZ (own_w hw 3)) (mvT hZ (own_w hw 4)) (mvT hZ (own_w hw 5)) (by decide) (backOf (W := 0) (rm1 l Z a0 hw [] ((p3 &&& (255 : Int32)).toUInt32.toUInt16.toUInt32.toInt32) wcs h0 n0 Z0 S_cs hcs (own_ch p3) (own_ce p3)) hZ (own_w hw 5) (own_w hw 4) (by decide) (by decide)) (g := (mkF m 40 #[oI p0, oI p1, oI p2, oI p3, oI (p0 &&& (2147483647 : Int32)), oI ((((p1.toInt64) &&& (2147483647 : Int64)) - ((p1.toInt64) &&& (2147483647 : Int64)) / (((p0 &&& (2147483647 : Int32)).toInt64) + (1 : Int64)) * (((p0 &&& (2147483647 : Int32)).toInt64) + (1 : Int64))).toInt32), oI (0 : Int32), .unset, .unset, .unset, .unset, .unset, .unset, .unset, .unset] [(.int ((p3 &&& (255 : Int32)).toUInt32.toUInt16.toUInt32.toInt32))])) rfl (by rw [hml]; rfl) (argsL := [(.int ((p3 &&& (255 : Int32)).toUInt32.toUInt16.toUInt32.toInt32))]) (rest := []) (lenOf pd_0_0 rfl) rfl (by show 2 * 0 + _ ≤ _; exact Nat.le_of_eq rfl) (hb hby at_40) (fun _ _ => ⟨rfl, e0, (by decide : 0 + 2 ≤ _), (by decide : 0 + 5 ≤ _)⟩)
    dsimp only [Pt.U, Pt.locs, Pt.cells, Pt.slots] at X2 l2 y2 z2 st2 hQ2
    subst l2 y2 z2
    obtain ⟨rfl, Nq2, Kc2, sz2⟩ := hQ2
    have N3 := Fr.app N0 Nq2
    refine own_via st2 ?_
    obtain ⟨a2, g2⟩ : ∃ z, z = h0.size := ⟨_, rfl⟩
    rw [← g2]
    have fr4 : n0 ≤ a2 := Nat.le_trans Z0 (Nat.le_of_eq g2.symm)
    have Zs5 : n0 ≤ T2.heap.size := Nat.le_trans Z0 Kc2.1
    show own_Go p e below _ (T2.setTop (mkF m 43 #[oI p0, oI p1, oI p2, oI p3, oI (p0 &&& (2147483647 : Int32)), oI ((((p1.toInt64) &&& (2147483647 : Int64)) - ((p1.toInt64) &&& (2147483647 : Int64)) / (((p0 &&& (2147483647 : Int32)).toInt64) + (1 : Int64)) * (((p0 &&& (2147483647 : Int32)).toInt64) + (1 : Int64))).toInt32), oI (0 : Int32), .unset, .unset, .unset, .unset, .unset, .unset, .unset, .unset] [(.ref a2)]))
    refine own_via (fun t kz => XS.astore X2.here hx rfl (hb hby at_43) rfl rfl (l' := #[oI p0, oI p1, oI p2, oI p3, oI (p0 &&& (2147483647 : Int32)), oI ((((p1.toInt64) &&& (2147483647 : Int64)) - ((p1.toInt64) &&& (2147483647 : Int64)) / (((p0 &&& (2147483647 : Int32)).toInt64) + (1 : Int64)) * (((p0 &&& (2147483647 : Int32)).toInt64) + (1 : Int64))).toInt32), oI (0 : Int32), oR a2, .unset, .unset, .unset, .unset, .unset, .unset, .unset]) rfl kz) ?_
    show own_Go p e below _ (T2.setTop (mkF m 45 #[oI p0, oI p1, oI p2, oI p3, oI (p0 &&& (2147483647 : Int32)), oI ((((p1.toInt64) &&& (2147483647 : Int64)) - ((p1.toInt64) &&& (2147483647 : Int64)) / (((p0 &&& (2147483647 : Int32)).toInt64) + (1 : Int64)) * (((p0 &&& (2147483647 : Int32)).toInt64) + (1 : Int64))).toInt32), oI (0 : Int32), oR a2, .unset, .unset, .unset, .unset, .unset, .unset, .unset] []))
    obtain ⟨T6, h6, X6, e6, E6, A6, D6, -, st6⟩ := newO X2 hx hZ hown (own_w hw 28) (own_w hw 29) (own_w hw 30) rfl (g := (mkF m 45 #[oI p0, oI p1, oI p2, oI p3, oI (p0 &&& (2147483647 : Int32)), oI ((((p1.toInt64) &&& (2147483647 : Int64)) - ((p1.toInt64) &&& (2147483647 : Int64)) / (((p0 &&& (2147483647 : Int32)).toInt64) + (1 : Int64)) * (((p0 &&& (2147483647 : Int32)).toInt64) + (1 : Int64))).toInt32), oI (0 : Int32), oR a2, .unset, .unset, .unset, .unset, .unset, .unset, .unset] [])) rfl (hb hby at_45) (by decide) (by decide)
    obtain ⟨a6, g6⟩ : ∃ z, z = T2.heap.size := ⟨_, rfl⟩
    rw [← g6] at A6 D6 st6
    refine own_via st6 ?_
    have fr7 : n0 ≤ a6 := Nat.le_trans Zs5 (Nat.le_of_eq g6.symm)
    have Zs8 : n0 ≤ h6.size := Nat.le_trans Zs5 E6.1
    have F9 : Fld Z h6 a6 "com/example/eurycleia/eurycleia/html/Block" "text" "Ljava/lang/String;" .null := D6 (Or.inr (own_w hw 41)) (ty := (.object "java/lang/String")) (by decide)
    have F10 : Fld Z h6 a6 "com/example/eurycleia/eurycleia/html/Block" "chars" "I" (.int (0 : Int32)) := D6 (Or.inr (own_w hw 43)) (ty := .int) (by decide)
    have F11 : Fld Z h6 a6 "com/example/eurycleia/eurycleia/html/Block" "linkChars" "I" (.int (0 : Int32)) := D6 (Or.inr (own_w hw 45)) (ty := .int) (by decide)
    have F12 : Fld Z h6 a6 "com/example/eurycleia/eurycleia/html/Block" "inFurniture" "Z" (.int (0 : Int32)) := D6 (Or.inr (own_w hw 47)) (ty := .boolean) (by decide)
    show own_Go p e below _ (T6.setTop (mkF m 48 #[oI p0, oI p1, oI p2, oI p3, oI (p0 &&& (2147483647 : Int32)), oI ((((p1.toInt64) &&& (2147483647 : Int64)) - ((p1.toInt64) &&& (2147483647 : Int64)) / (((p0 &&& (2147483647 : Int32)).toInt64) + (1 : Int64)) * (((p0 &&& (2147483647 : Int32)).toInt64) + (1 : Int64))).toInt32), oI (0 : Int32), oR a2, .unset, .unset, .unset, .unset, .unset, .unset, .unset] [(.ref a6)]))
    refine own_via (fun t kz => XS.dup X6.here hx rfl (hb hby at_48) rfl rfl kz) ?_
    show own_Go p e below _ (T6.setTop (mkF m 49 #[oI p0, oI p1, oI p2, oI p3, oI (p0 &&& (2147483647 : Int32)), oI ((((p1.toInt64) &&& (2147483647 : Int64)) - ((p1.toInt64) &&& (2147483647 : Int64)) / (((p0 &&& (2147483647 : Int32)).toInt64) + (1 : Int64)) * (((p0 &&& (2147483647 : Int32)).toInt64) + (1 : Int64))).toInt32), oI (0 : Int32), oR a2, .unset, .unset, .unset, .unset, .unset, .unset, .unset] [(.ref a6), (.ref a6)]))
    refine own_via (fun t kz => XS.aload X6.here hx rfl (hb hby at_49) rfl rfl kz) ?_
    show own_Go p e below _ (T6.setTop (mkF m 51 #[oI p0, oI p1, oI p2, oI p3, oI (p0 &&& (2147483647 : Int32)), oI ((((p1.toInt64) &&& (2147483647 : Int64)) - ((p1.toInt64) &&& (2147483647 : Int64)) / (((p0 &&& (2147483647 : Int32)).toInt64) + (1 : Int64)) * (((p0 &&& (2147483647 : Int32)).toInt64) + (1 : Int64))).toInt32), oI (0 : Int32), oR a2, .unset, .unset, .unset, .unset, .unset, .unset, .unset] [(.ref a2), (.ref a6), (.ref a6)]))
    refine own_via (fun t kz => XS.iload X6.here hx rfl (hb hby at_51) rfl kz) ?_
    show own_Go p e below _ (T6.setTop (mkF m 53 #[oI p0, oI p1, oI p2, oI p3, oI (p0 &&& (2147483647 : Int32)), oI ((((p1.toInt64) &&& (2147483647 : Int64)) - ((p1.toInt64) &&& (2147483647 : Int64)) / (((p0 &&& (2147483647 : Int32)).toInt64) + (1 : Int64)) * (((p0 &&& (2147483647 : Int32)).toInt64) + (1 : Int64))).toInt32), oI (0 : Int32), oR a2, .unset, .unset, .unset, .unset, .unset, .unset, .unset] [(.int (p0 &&& (2147483647 : Int32))), (.ref a2), (.ref a6), (.ref a6)]))
    refine own_via (fun t kz => XS.iload X6.here hx rfl (hb hby at_53) rfl kz) ?_
    show own_Go p e below _ (T6.setTop (mkF m 55 #[oI p0, oI p1, oI p2, oI p3, oI (p0 &&& (2147483647 : Int32)), oI ((((p1.toInt64) &&& (2147483647 : Int64)) - ((p1.toInt64) &&& (2147483647 : Int64)) / (((p0 &&& (2147483647 : Int32)).toInt64) + (1 : Int64)) * (((p0 &&& (2147483647 : Int32)).toInt64) + (1 : Int64))).toInt32), oI (0 : Int32), oR a2, .unset, .unset, .unset, .unset, .unset, .unset, .unset] [(.int ((((p1.toInt64) &&& (2147483647 : Int64)) - ((p1.toInt64) &&& (2147483647 : Int64)) / (((p0 &&& (2147483647 : Int32)).toInt64) + (1 : Int64)) * (((p0 &&& (2147483647 : Int32)).toInt64) + (1 : Int64))).toInt32)), (.int (p0 &&& (2147483647 : Int32))), (.ref a2), (.ref a6), (.ref a6)]))
    refine own_via (fun t kz => XS.iload X6.here hx rfl (hb hby at_55) rfl kz) ?_
    show own_Go p e below _ (T6.setTop (mkF m 57 #[oI p0, oI p1, oI p2, oI p3, oI (p0 &&& (2147483647 : Int32)), oI ((((p1.toInt64) &&& (2147483647 : Int64)) - ((p1.toInt64) &&& (2147483647 : Int64)) / (((p0 &&& (2147483647 : Int32)).toInt64) + (1 : Int64)) * (((p0 &&& (2147483647 : Int32)).toInt64) + (1 : Int64))).toInt32), oI (0 : Int32), oR a2, .unset, .unset, .unset, .unset, .unset, .unset, .unset] [(.int (0 : Int32)), (.int ((((p1.toInt64) &&& (2147483647 : Int64)) - ((p1.toInt64) &&& (2147483647 : Int64)) / (((p0 &&& (2147483647 : Int32)).toInt64) + (1 : Int64)) * (((p0 &&& (2147483647 : Int32)).toInt64) + (1 : Int64))).toInt32)), (.int (p0 &&& (2147483647 : Int32))), (.ref a2), (.ref a6), (.ref a6)]))
    obtain ⟨_, _, ⟨T13, L13, k13, n13⟩, -, X13, ⟨Lc13, hQ13, l13, y13, z13⟩, st13⟩ := X6.specialBack hx (y := (⟨"com/example/eurycleia/eurycleia/html/Block", "<init>", "(Ljava/lang/String;IIZ)V"⟩ : MethodName)) rfl hown (mvT hZ (own_w hw 31)) (mvT hZ (own_w hw 32)) (mvT hZ (own_w hw 33)) (by decide) (backOf (W := 1) (rm6 l Z a0 hw [] a6 a2 (p0 &&& (2147483647 : Int32)) ((((p1.toInt64) &&& (2147483647 : Int64)) - ((p1.toInt64) &&& (2147483647 : Int64)) / (((p0 &&& (2147483647 : Int32)).toInt64) + (1 : Int64)) * (((p0 &&& (2147483647 : Int32)).toInt64) + (1 : Int64))).toInt32) (0 : Int32) h6 n0 Zs8 fr7 A6 F9 F10 F11 F12 rfl rfl) hZ (own_w hw 33) (own_w hw 30) (by decide) (by decide)) (g := (mkF m 57 #[oI p0, oI p1, oI p2, oI p3, oI (p0 &&& (2147483647 : Int32)), oI ((((p1.toInt64) &&& (2147483647 : Int64)) - ((p1.toInt64) &&& (2147483647 : Int64)) / (((p0 &&& (2147483647 : Int32)).toInt64) + (1 : Int64)) * (((p0 &&& (2147483647 : Int32)).toInt64) + (1 : Int64))).toInt32), oI (0 : Int32), oR a2, .unset, .unset, .unset, .unset, .unset, .unset, .unset] [(.int (0 : Int32)), (.int ((((p1.toInt64) &&& (2147483647 : Int64)) - ((p1.toInt64) &&& (2147483647 : Int64)) / (((p0 &&& (2147483647 : Int32)).toInt64) + (1 : Int64)) * (((p0 &&& (2147483647 : Int32)).toInt64) + (1 : Int64))).toInt32)), (.int (p0 &&& (2147483647 : Int32))), (.ref a2), (.ref a6), (.ref a6)])) rfl (by rw [hml]; rfl) (Steps.refl _) (a := a6) (argsL := [(.ref a2), (.int (p0 &&& (2147483647 : Int32))), (.int ((((p1.toInt64) &&& (2147483647 : Int64)) - ((p1.toInt64) &&& (2147483647 : Int64)) / (((p0 &&& (2147483647 : Int32)).toInt64) + (1 : Int64)) * (((p0 &&& (2147483647 : Int32)).toInt64) + (1 : Int64))).toInt32)), (.int (0 : Int32))]) (rest := [(.ref a6)]) (lenOf pd_0_1 rfl) rfl (by show 2 * 0 + _ ≤ _; exact Nat.le_of_eq rfl) (hb hby at_57) (fun _ _ => ⟨rfl, e6, (by decide : 3 + 0 ≤ _), (by decide : 9 + 0 ≤ _)⟩)
    dsimp only [Pt.U, Pt.locs, Pt.cells, Pt.slots] at X13 l13 y13 z13 st13 hQ13
    subst l13 y13 z13
    obtain ⟨rfl, Nq13, Kc13, Fc0_13, Fc1_13, Fc2_13⟩ := hQ13
    have N14 := Fr.app N3 Nq13
    refine own_tr st13 ?_
    have E15 := A6.keep Kc13
    have Zs16 : n0 ≤ T13.heap.size := Nat.le_trans Zs8 Kc13.1
    show own_Go p e below _ (T13.setTop (mkF m 60 #[oI p0, oI p1, oI p2, oI p3, oI (p0 &&& (2147483647 : Int32)), oI ((((p1.toInt64) &&& (2147483647 : Int64)) - ((p1.toInt64) &&& (2147483647 : Int64)) / (((p0 &&& (2147483647 : Int32)).toInt64) + (1 : Int64)) * (((p0 &&& (2147483647 : Int32)).toInt64) + (1 : Int64))).toInt32), oI (0 : Int32), oR a2, .unset, .unset, .unset, .unset, .unset, .unset, .unset] [(.ref a6)]))
    refine own_via (fun t kz => XS.astore X13.here hx rfl (hb hby at_60) rfl rfl (l' := #[oI p0, oI p1, oI p2, oI p3, oI (p0 &&& (2147483647 : Int32)), oI ((((p1.toInt64) &&& (2147483647 : Int64)) - ((p1.toInt64) &&& (2147483647 : Int64)) / (((p0 &&& (2147483647 : Int32)).toInt64) + (1 : Int64)) * (((p0 &&& (2147483647 : Int32)).toInt64) + (1 : Int64))).toInt32), oI (0 : Int32), oR a2, oR a6, .unset, .unset, .unset, .unset, .unset, .unset]) rfl kz) ?_
    show own_Go p e below _ (T13.setTop (mkF m 62 #[oI p0, oI p1, oI p2, oI p3, oI (p0 &&& (2147483647 : Int32)), oI ((((p1.toInt64) &&& (2147483647 : Int64)) - ((p1.toInt64) &&& (2147483647 : Int64)) / (((p0 &&& (2147483647 : Int32)).toInt64) + (1 : Int64)) * (((p0 &&& (2147483647 : Int32)).toInt64) + (1 : Int64))).toInt32), oI (0 : Int32), oR a2, oR a6, .unset, .unset, .unset, .unset, .unset, .unset] []))
    refine own_via (fun t kz => XS.aload X13.here hx rfl (hb hby at_62) rfl rfl kz) ?_
    show own_Go p e below _ (T13.setTop (mkF m 64 #[oI p0, oI p1, oI p2, oI p3, oI (p0 &&& (2147483647 : Int32)), oI ((((p1.toInt64) &&& (2147483647 : Int64)) - ((p1.toInt64) &&& (2147483647 : Int64)) / (((p0 &&& (2147483647 : Int32)).toInt64) + (1 : Int64)) * (((p0 &&& (2147483647 : Int32)).toInt64) + (1 : Int64))).toInt32), oI (0 : Int32), oR a2, oR a6, .unset, .unset, .unset, .unset, .unset, .unset] [(.ref a6)]))
    obtain ⟨cq17, kq17, qa17, qb17, qc17⟩ := isOf hZ rfl E15
    obtain ⟨_, _, ⟨T17, L17, k17, n17⟩, -, X17, ⟨Lc17, hQ17, l17, y17, z17⟩, st17⟩ := X13.virtualBack hx (y := (⟨"com/example/eurycleia/eurycleia/html/Block", "weight", "()D"⟩ : MethodName)) (z := (⟨"com/example/eurycleia/eurycleia/html/Block", "weight", "()D"⟩ : MethodName)) hown (mvT hZ (own_w hw 48)) (mvT hZ (own_w hw 49)) (notFace_of_selects (args := #[]) (mvT hZ (own_w hw 51))) (mvT hZ (own_w hw 51)) (mvT hZ (own_w hw 50)) (by decide) (backOf (W := 0) (rm8 l Z a0 hw [] a6 (p0 &&& (2147483647 : Int32)) ((((p1.toInt64) &&& (2147483647 : Int64)) - ((p1.toInt64) &&& (2147483647 : Int64)) / (((p0 &&& (2147483647 : Int32)).toInt64) + (1 : Int64)) * (((p0 &&& (2147483647 : Int32)).toInt64) + (1 : Int64))).toInt32) (0 : Int32) (FP.l2d (((p0 &&& (2147483647 : Int32)) - ((((p1.toInt64) &&& (2147483647 : Int64)) - ((p1.toInt64) &&& (2147483647 : Int64)) / (((p0 &&& (2147483647 : Int32)).toInt64) + (1 : Int64)) * (((p0 &&& (2147483647 : Int32)).toInt64) + (1 : Int64))).toInt32)).toInt64)) T13.heap n0 Zs16 Fc0_13 Fc1_13 Fc2_13 (by unfold f8; rw [if_pos (by decide : (0 : Int32) = (0 : Int32))])) hZ (own_w hw 52) (own_w hw 30) (by decide) (by decide)) qa17 qc17 (g := (mkF m 64 #[oI p0, oI p1, oI p2, oI p3, oI (p0 &&& (2147483647 : Int32)), oI ((((p1.toInt64) &&& (2147483647 : Int64)) - ((p1.toInt64) &&& (2147483647 : Int64)) / (((p0 &&& (2147483647 : Int32)).toInt64) + (1 : Int64)) * (((p0 &&& (2147483647 : Int32)).toInt64) + (1 : Int64))).toInt32), oI (0 : Int32), oR a2, oR a6, .unset, .unset, .unset, .unset, .unset, .unset] [(.ref a6)])) rfl (by rw [hml]; rfl) (Steps.refl _) (argsL := []) (rest := []) (lenOf pd_0_2 rfl) rfl (by show 2 * 0 + _ ≤ _; exact Nat.le_of_eq rfl) (hb hby at_64) (fun _ _ => ⟨rfl, rfl, (by decide : 3 + 0 ≤ _), (by decide : 9 + 0 ≤ _)⟩)
    dsimp only [Pt.U, Pt.locs, Pt.cells, Pt.slots] at X17 l17 y17 z17 st17 hQ17
    subst l17 y17 z17
    obtain ⟨rfl, Nq17, e17⟩ := hQ17
    have N18 := Fr.app N14 Nq17
    refine own_tr st17 ?_
    show own_Go p e below _ (T17.setTop (mkF m 67 #[oI p0, oI p1, oI p2, oI p3, oI (p0 &&& (2147483647 : Int32)), oI ((((p1.toInt64) &&& (2147483647 : Int64)) - ((p1.toInt64) &&& (2147483647 : Int64)) / (((p0 &&& (2147483647 : Int32)).toInt64) + (1 : Int64)) * (((p0 &&& (2147483647 : Int32)).toInt64) + (1 : Int64))).toInt32), oI (0 : Int32), oR a2, oR a6, .unset, .unset, .unset, .unset, .unset, .unset] [(.double (FP.l2d (((p0 &&& (2147483647 : Int32)) - ((((p1.toInt64) &&& (2147483647 : Int64)) - ((p1.toInt64) &&& (2147483647 : Int64)) / (((p0 &&& (2147483647 : Int32)).toInt64) + (1 : Int64)) * (((p0 &&& (2147483647 : Int32)).toInt64) + (1 : Int64))).toInt32)).toInt64)))]))
    refine own_via (fun t kz => XS.dstore X17.here hx rfl (hb hby at_67) rfl (l' := #[oI p0, oI p1, oI p2, oI p3, oI (p0 &&& (2147483647 : Int32)), oI ((((p1.toInt64) &&& (2147483647 : Int64)) - ((p1.toInt64) &&& (2147483647 : Int64)) / (((p0 &&& (2147483647 : Int32)).toInt64) + (1 : Int64)) * (((p0 &&& (2147483647 : Int32)).toInt64) + (1 : Int64))).toInt32), oI (0 : Int32), oR a2, oR a6, oD (FP.l2d (((p0 &&& (2147483647 : Int32)) - ((((p1.toInt64) &&& (2147483647 : Int64)) - ((p1.toInt64) &&& (2147483647 : Int64)) / (((p0 &&& (2147483647 : Int32)).toInt64) + (1 : Int64)) * (((p0 &&& (2147483647 : Int32)).toInt64) + (1 : Int64))).toInt32)).toInt64)), .second, .unset, .unset, .unset, .unset]) rfl kz) ?_
    show own_Go p e below _ (T17.setTop (mkF m 69 #[oI p0, oI p1, oI p2, oI p3, oI (p0 &&& (2147483647 : Int32)), oI ((((p1.toInt64) &&& (2147483647 : Int64)) - ((p1.toInt64) &&& (2147483647 : Int64)) / (((p0 &&& (2147483647 : Int32)).toInt64) + (1 : Int64)) * (((p0 &&& (2147483647 : Int32)).toInt64) + (1 : Int64))).toInt32), oI (0 : Int32), oR a2, oR a6, oD (FP.l2d (((p0 &&& (2147483647 : Int32)) - ((((p1.toInt64) &&& (2147483647 : Int64)) - ((p1.toInt64) &&& (2147483647 : Int64)) / (((p0 &&& (2147483647 : Int32)).toInt64) + (1 : Int64)) * (((p0 &&& (2147483647 : Int32)).toInt64) + (1 : Int64))).toInt32)).toInt64)), .second, .unset, .unset, .unset, .unset] []))
    refine own_via (fun t kz => XS.iload X17.here hx rfl (hb hby at_69) rfl kz) ?_
    show own_Go p e below _ (T17.setTop (mkF m 71 #[oI p0, oI p1, oI p2, oI p3, oI (p0 &&& (2147483647 : Int32)), oI ((((p1.toInt64) &&& (2147483647 : Int64)) - ((p1.toInt64) &&& (2147483647 : Int64)) / (((p0 &&& (2147483647 : Int32)).toInt64) + (1 : Int64)) * (((p0 &&& (2147483647 : Int32)).toInt64) + (1 : Int64))).toInt32), oI (0 : Int32), oR a2, oR a6, oD (FP.l2d (((p0 &&& (2147483647 : Int32)) - ((((p1.toInt64) &&& (2147483647 : Int64)) - ((p1.toInt64) &&& (2147483647 : Int64)) / (((p0 &&& (2147483647 : Int32)).toInt64) + (1 : Int64)) * (((p0 &&& (2147483647 : Int32)).toInt64) + (1 : Int64))).toInt32)).toInt64)), .second, .unset, .unset, .unset, .unset] [(.int (0 : Int32))]))
    refine own_via (fun t kz => XS.ifYes X17.here hx rfl (pc0 := 71) (pc' := 103) rfl (hb hby at_71) rfl ((if0 _ _).trans (teq (by decide : (0 : Int32) = (0 : Int32))).1) (by decide) (by decide) kz) ?_
    show own_Go p e below _ (T17.setTop (mkF m 103 #[oI p0, oI p1, oI p2, oI p3, oI (p0 &&& (2147483647 : Int32)), oI ((((p1.toInt64) &&& (2147483647 : Int64)) - ((p1.toInt64) &&& (2147483647 : Int64)) / (((p0 &&& (2147483647 : Int32)).toInt64) + (1 : Int64)) * (((p0 &&& (2147483647 : Int32)).toInt64) + (1 : Int64))).toInt32), oI (0 : Int32), oR a2, oR a6, oD (FP.l2d (((p0 &&& (2147483647 : Int32)) - ((((p1.toInt64) &&& (2147483647 : Int64)) - ((p1.toInt64) &&& (2147483647 : Int64)) / (((p0 &&& (2147483647 : Int32)).toInt64) + (1 : Int64)) * (((p0 &&& (2147483647 : Int32)).toInt64) + (1 : Int64))).toInt32)).toInt64)), .second, .unset, .unset, .unset, .unset] []))
    refine own_via (fun t kz => XS.iload X17.here hx rfl (hb hby at_103) rfl kz) ?_
    show own_Go p e below _ (T17.setTop (mkF m 105 #[oI p0, oI p1, oI p2, oI p3, oI (p0 &&& (2147483647 : Int32)), oI ((((p1.toInt64) &&& (2147483647 : Int64)) - ((p1.toInt64) &&& (2147483647 : Int64)) / (((p0 &&& (2147483647 : Int32)).toInt64) + (1 : Int64)) * (((p0 &&& (2147483647 : Int32)).toInt64) + (1 : Int64))).toInt32), oI (0 : Int32), oR a2, oR a6, oD (FP.l2d (((p0 &&& (2147483647 : Int32)) - ((((p1.toInt64) &&& (2147483647 : Int64)) - ((p1.toInt64) &&& (2147483647 : Int64)) / (((p0 &&& (2147483647 : Int32)).toInt64) + (1 : Int64)) * (((p0 &&& (2147483647 : Int32)).toInt64) + (1 : Int64))).toInt32)).toInt64)), .second, .unset, .unset, .unset, .unset] [(.int (p0 &&& (2147483647 : Int32)))]))
    refine own_via (fun t kz => XS.i2l X17.here hx rfl (hb hby at_105) rfl kz) ?_
    show own_Go p e below _ (T17.setTop (mkF m 106 #[oI p0, oI p1, oI p2, oI p3, oI (p0 &&& (2147483647 : Int32)), oI ((((p1.toInt64) &&& (2147483647 : Int64)) - ((p1.toInt64) &&& (2147483647 : Int64)) / (((p0 &&& (2147483647 : Int32)).toInt64) + (1 : Int64)) * (((p0 &&& (2147483647 : Int32)).toInt64) + (1 : Int64))).toInt32), oI (0 : Int32), oR a2, oR a6, oD (FP.l2d (((p0 &&& (2147483647 : Int32)) - ((((p1.toInt64) &&& (2147483647 : Int64)) - ((p1.toInt64) &&& (2147483647 : Int64)) / (((p0 &&& (2147483647 : Int32)).toInt64) + (1 : Int64)) * (((p0 &&& (2147483647 : Int32)).toInt64) + (1 : Int64))).toInt32)).toInt64)), .second, .unset, .unset, .unset, .unset] [(.long ((p0 &&& (2147483647 : Int32)).toInt64))]))
    refine own_via (fun t kz => XS.iload X17.here hx rfl (hb hby at_106) rfl kz) ?_
    show own_Go p e below _ (T17.setTop (mkF m 108 #[oI p0, oI p1, oI p2, oI p3, oI (p0 &&& (2147483647 : Int32)), oI ((((p1.toInt64) &&& (2147483647 : Int64)) - ((p1.toInt64) &&& (2147483647 : Int64)) / (((p0 &&& (2147483647 : Int32)).toInt64) + (1 : Int64)) * (((p0 &&& (2147483647 : Int32)).toInt64) + (1 : Int64))).toInt32), oI (0 : Int32), oR a2, oR a6, oD (FP.l2d (((p0 &&& (2147483647 : Int32)) - ((((p1.toInt64) &&& (2147483647 : Int64)) - ((p1.toInt64) &&& (2147483647 : Int64)) / (((p0 &&& (2147483647 : Int32)).toInt64) + (1 : Int64)) * (((p0 &&& (2147483647 : Int32)).toInt64) + (1 : Int64))).toInt32)).toInt64)), .second, .unset, .unset, .unset, .unset] [(.int ((((p1.toInt64) &&& (2147483647 : Int64)) - ((p1.toInt64) &&& (2147483647 : Int64)) / (((p0 &&& (2147483647 : Int32)).toInt64) + (1 : Int64)) * (((p0 &&& (2147483647 : Int32)).toInt64) + (1 : Int64))).toInt32)), (.long ((p0 &&& (2147483647 : Int32)).toInt64))]))
    refine own_via (fun t kz => XS.i2l X17.here hx rfl (hb hby at_108) rfl kz) ?_
    show own_Go p e below _ (T17.setTop (mkF m 109 #[oI p0, oI p1, oI p2, oI p3, oI (p0 &&& (2147483647 : Int32)), oI ((((p1.toInt64) &&& (2147483647 : Int64)) - ((p1.toInt64) &&& (2147483647 : Int64)) / (((p0 &&& (2147483647 : Int32)).toInt64) + (1 : Int64)) * (((p0 &&& (2147483647 : Int32)).toInt64) + (1 : Int64))).toInt32), oI (0 : Int32), oR a2, oR a6, oD (FP.l2d (((p0 &&& (2147483647 : Int32)) - ((((p1.toInt64) &&& (2147483647 : Int64)) - ((p1.toInt64) &&& (2147483647 : Int64)) / (((p0 &&& (2147483647 : Int32)).toInt64) + (1 : Int64)) * (((p0 &&& (2147483647 : Int32)).toInt64) + (1 : Int64))).toInt32)).toInt64)), .second, .unset, .unset, .unset, .unset] [(.long (((((p1.toInt64) &&& (2147483647 : Int64)) - ((p1.toInt64) &&& (2147483647 : Int64)) / (((p0 &&& (2147483647 : Int32)).toInt64) + (1 : Int64)) * (((p0 &&& (2147483647 : Int32)).toInt64) + (1 : Int64))).toInt32).toInt64)), (.long ((p0 &&& (2147483647 : Int32)).toInt64))]))
    refine own_via (fun t kz => XS.lsub X17.here hx rfl (hb hby at_109) rfl kz) ?_
    show own_Go p e below _ (T17.setTop (mkF m 110 #[oI p0, oI p1, oI p2, oI p3, oI (p0 &&& (2147483647 : Int32)), oI ((((p1.toInt64) &&& (2147483647 : Int64)) - ((p1.toInt64) &&& (2147483647 : Int64)) / (((p0 &&& (2147483647 : Int32)).toInt64) + (1 : Int64)) * (((p0 &&& (2147483647 : Int32)).toInt64) + (1 : Int64))).toInt32), oI (0 : Int32), oR a2, oR a6, oD (FP.l2d (((p0 &&& (2147483647 : Int32)) - ((((p1.toInt64) &&& (2147483647 : Int64)) - ((p1.toInt64) &&& (2147483647 : Int64)) / (((p0 &&& (2147483647 : Int32)).toInt64) + (1 : Int64)) * (((p0 &&& (2147483647 : Int32)).toInt64) + (1 : Int64))).toInt32)).toInt64)), .second, .unset, .unset, .unset, .unset] [(.long (((p0 &&& (2147483647 : Int32)).toInt64) - (((((p1.toInt64) &&& (2147483647 : Int64)) - ((p1.toInt64) &&& (2147483647 : Int64)) / (((p0 &&& (2147483647 : Int32)).toInt64) + (1 : Int64)) * (((p0 &&& (2147483647 : Int32)).toInt64) + (1 : Int64))).toInt32).toInt64)))]))
    refine own_via (fun t kz => XS.lstore X17.here hx rfl (hb hby at_110) rfl (l' := #[oI p0, oI p1, oI p2, oI p3, oI (p0 &&& (2147483647 : Int32)), oI ((((p1.toInt64) &&& (2147483647 : Int64)) - ((p1.toInt64) &&& (2147483647 : Int64)) / (((p0 &&& (2147483647 : Int32)).toInt64) + (1 : Int64)) * (((p0 &&& (2147483647 : Int32)).toInt64) + (1 : Int64))).toInt32), oI (0 : Int32), oR a2, oR a6, oD (FP.l2d (((p0 &&& (2147483647 : Int32)) - ((((p1.toInt64) &&& (2147483647 : Int64)) - ((p1.toInt64) &&& (2147483647 : Int64)) / (((p0 &&& (2147483647 : Int32)).toInt64) + (1 : Int64)) * (((p0 &&& (2147483647 : Int32)).toInt64) + (1 : Int64))).toInt32)).toInt64)), .second, oJ (((p0 &&& (2147483647 : Int32)).toInt64) - (((((p1.toInt64) &&& (2147483647 : Int64)) - ((p1.toInt64) &&& (2147483647 : Int64)) / (((p0 &&& (2147483647 : Int32)).toInt64) + (1 : Int64)) * (((p0 &&& (2147483647 : Int32)).toInt64) + (1 : Int64))).toInt32).toInt64)), .second, .unset, .unset]) rfl kz) ?_
    show own_Go p e below _ (T17.setTop (mkF m 112 #[oI p0, oI p1, oI p2, oI p3, oI (p0 &&& (2147483647 : Int32)), oI ((((p1.toInt64) &&& (2147483647 : Int64)) - ((p1.toInt64) &&& (2147483647 : Int64)) / (((p0 &&& (2147483647 : Int32)).toInt64) + (1 : Int64)) * (((p0 &&& (2147483647 : Int32)).toInt64) + (1 : Int64))).toInt32), oI (0 : Int32), oR a2, oR a6, oD (FP.l2d (((p0 &&& (2147483647 : Int32)) - ((((p1.toInt64) &&& (2147483647 : Int64)) - ((p1.toInt64) &&& (2147483647 : Int64)) / (((p0 &&& (2147483647 : Int32)).toInt64) + (1 : Int64)) * (((p0 &&& (2147483647 : Int32)).toInt64) + (1 : Int64))).toInt32)).toInt64)), .second, oJ (((p0 &&& (2147483647 : Int32)).toInt64) - (((((p1.toInt64) &&& (2147483647 : Int64)) - ((p1.toInt64) &&& (2147483647 : Int64)) / (((p0 &&& (2147483647 : Int32)).toInt64) + (1 : Int64)) * (((p0 &&& (2147483647 : Int32)).toInt64) + (1 : Int64))).toInt32).toInt64)), .second, .unset, .unset] []))
    refine own_via (fun t kz => XS.lload X17.here hx rfl (hb hby at_112) rfl kz) ?_
    show own_Go p e below _ (T17.setTop (mkF m 114 #[oI p0, oI p1, oI p2, oI p3, oI (p0 &&& (2147483647 : Int32)), oI ((((p1.toInt64) &&& (2147483647 : Int64)) - ((p1.toInt64) &&& (2147483647 : Int64)) / (((p0 &&& (2147483647 : Int32)).toInt64) + (1 : Int64)) * (((p0 &&& (2147483647 : Int32)).toInt64) + (1 : Int64))).toInt32), oI (0 : Int32), oR a2, oR a6, oD (FP.l2d (((p0 &&& (2147483647 : Int32)) - ((((p1.toInt64) &&& (2147483647 : Int64)) - ((p1.toInt64) &&& (2147483647 : Int64)) / (((p0 &&& (2147483647 : Int32)).toInt64) + (1 : Int64)) * (((p0 &&& (2147483647 : Int32)).toInt64) + (1 : Int64))).toInt32)).toInt64)), .second, oJ (((p0 &&& (2147483647 : Int32)).toInt64) - (((((p1.toInt64) &&& (2147483647 : Int64)) - ((p1.toInt64) &&& (2147483647 : Int64)) / (((p0 &&& (2147483647 : Int32)).toInt64) + (1 : Int64)) * (((p0 &&& (2147483647 : Int32)).toInt64) + (1 : Int64))).toInt32).toInt64)), .second, .unset, .unset] [(.long (((p0 &&& (2147483647 : Int32)).toInt64) - (((((p1.toInt64) &&& (2147483647 : Int64)) - ((p1.toInt64) &&& (2147483647 : Int64)) / (((p0 &&& (2147483647 : Int32)).toInt64) + (1 : Int64)) * (((p0 &&& (2147483647 : Int32)).toInt64) + (1 : Int64))).toInt32).toInt64)))]))
    refine own_via (fun t kz => XS.l2dS X17.here hx rfl (hb hby at_114) rfl rfl kz) ?_
    show own_Go p e below _ (T17.setTop (mkF m 115 #[oI p0, oI p1, oI p2, oI p3, oI (p0 &&& (2147483647 : Int32)), oI ((((p1.toInt64) &&& (2147483647 : Int64)) - ((p1.toInt64) &&& (2147483647 : Int64)) / (((p0 &&& (2147483647 : Int32)).toInt64) + (1 : Int64)) * (((p0 &&& (2147483647 : Int32)).toInt64) + (1 : Int64))).toInt32), oI (0 : Int32), oR a2, oR a6, oD (FP.l2d (((p0 &&& (2147483647 : Int32)) - ((((p1.toInt64) &&& (2147483647 : Int64)) - ((p1.toInt64) &&& (2147483647 : Int64)) / (((p0 &&& (2147483647 : Int32)).toInt64) + (1 : Int64)) * (((p0 &&& (2147483647 : Int32)).toInt64) + (1 : Int64))).toInt32)).toInt64)), .second, oJ (((p0 &&& (2147483647 : Int32)).toInt64) - (((((p1.toInt64) &&& (2147483647 : Int64)) - ((p1.toInt64) &&& (2147483647 : Int64)) / (((p0 &&& (2147483647 : Int32)).toInt64) + (1 : Int64)) * (((p0 &&& (2147483647 : Int32)).toInt64) + (1 : Int64))).toInt32).toInt64)), .second, .unset, .unset] [(.double (FP.l2d (((p0 &&& (2147483647 : Int32)).toInt64) - (((((p1.toInt64) &&& (2147483647 : Int64)) - ((p1.toInt64) &&& (2147483647 : Int64)) / (((p0 &&& (2147483647 : Int32)).toInt64) + (1 : Int64)) * (((p0 &&& (2147483647 : Int32)).toInt64) + (1 : Int64))).toInt32).toInt64))))]))
    refine own_via (fun t kz => XS.dstore X17.here hx rfl (hb hby at_115) rfl (l' := #[oI p0, oI p1, oI p2, oI p3, oI (p0 &&& (2147483647 : Int32)), oI ((((p1.toInt64) &&& (2147483647 : Int64)) - ((p1.toInt64) &&& (2147483647 : Int64)) / (((p0 &&& (2147483647 : Int32)).toInt64) + (1 : Int64)) * (((p0 &&& (2147483647 : Int32)).toInt64) + (1 : Int64))).toInt32), oI (0 : Int32), oR a2, oR a6, oD (FP.l2d (((p0 &&& (2147483647 : Int32)) - ((((p1.toInt64) &&& (2147483647 : Int64)) - ((p1.toInt64) &&& (2147483647 : Int64)) / (((p0 &&& (2147483647 : Int32)).toInt64) + (1 : Int64)) * (((p0 &&& (2147483647 : Int32)).toInt64) + (1 : Int64))).toInt32)).toInt64)), .second, oJ (((p0 &&& (2147483647 : Int32)).toInt64) - (((((p1.toInt64) &&& (2147483647 : Int64)) - ((p1.toInt64) &&& (2147483647 : Int64)) / (((p0 &&& (2147483647 : Int32)).toInt64) + (1 : Int64)) * (((p0 &&& (2147483647 : Int32)).toInt64) + (1 : Int64))).toInt32).toInt64)), .second, oD (FP.l2d (((p0 &&& (2147483647 : Int32)).toInt64) - (((((p1.toInt64) &&& (2147483647 : Int64)) - ((p1.toInt64) &&& (2147483647 : Int64)) / (((p0 &&& (2147483647 : Int32)).toInt64) + (1 : Int64)) * (((p0 &&& (2147483647 : Int32)).toInt64) + (1 : Int64))).toInt32).toInt64))), .second]) rfl kz) ?_
    show own_Go p e below _ (T17.setTop (mkF m 117 #[oI p0, oI p1, oI p2, oI p3, oI (p0 &&& (2147483647 : Int32)), oI ((((p1.toInt64) &&& (2147483647 : Int64)) - ((p1.toInt64) &&& (2147483647 : Int64)) / (((p0 &&& (2147483647 : Int32)).toInt64) + (1 : Int64)) * (((p0 &&& (2147483647 : Int32)).toInt64) + (1 : Int64))).toInt32), oI (0 : Int32), oR a2, oR a6, oD (FP.l2d (((p0 &&& (2147483647 : Int32)) - ((((p1.toInt64) &&& (2147483647 : Int64)) - ((p1.toInt64) &&& (2147483647 : Int64)) / (((p0 &&& (2147483647 : Int32)).toInt64) + (1 : Int64)) * (((p0 &&& (2147483647 : Int32)).toInt64) + (1 : Int64))).toInt32)).toInt64)), .second, oJ (((p0 &&& (2147483647 : Int32)).toInt64) - (((((p1.toInt64) &&& (2147483647 : Int64)) - ((p1.toInt64) &&& (2147483647 : Int64)) / (((p0 &&& (2147483647 : Int32)).toInt64) + (1 : Int64)) * (((p0 &&& (2147483647 : Int32)).toInt64) + (1 : Int64))).toInt32).toInt64)), .second, oD (FP.l2d (((p0 &&& (2147483647 : Int32)).toInt64) - (((((p1.toInt64) &&& (2147483647 : Int64)) - ((p1.toInt64) &&& (2147483647 : Int64)) / (((p0 &&& (2147483647 : Int32)).toInt64) + (1 : Int64)) * (((p0 &&& (2147483647 : Int32)).toInt64) + (1 : Int64))).toInt32).toInt64))), .second] []))
    refine own_via (fun t kz => XS.dload X17.here hx rfl (hb hby at_117) rfl kz) ?_
    show own_Go p e below _ (T17.setTop (mkF m 119 #[oI p0, oI p1, oI p2, oI p3, oI (p0 &&& (2147483647 : Int32)), oI ((((p1.toInt64) &&& (2147483647 : Int64)) - ((p1.toInt64) &&& (2147483647 : Int64)) / (((p0 &&& (2147483647 : Int32)).toInt64) + (1 : Int64)) * (((p0 &&& (2147483647 : Int32)).toInt64) + (1 : Int64))).toInt32), oI (0 : Int32), oR a2, oR a6, oD (FP.l2d (((p0 &&& (2147483647 : Int32)) - ((((p1.toInt64) &&& (2147483647 : Int64)) - ((p1.toInt64) &&& (2147483647 : Int64)) / (((p0 &&& (2147483647 : Int32)).toInt64) + (1 : Int64)) * (((p0 &&& (2147483647 : Int32)).toInt64) + (1 : Int64))).toInt32)).toInt64)), .second, oJ (((p0 &&& (2147483647 : Int32)).toInt64) - (((((p1.toInt64) &&& (2147483647 : Int64)) - ((p1.toInt64) &&& (2147483647 : Int64)) / (((p0 &&& (2147483647 : Int32)).toInt64) + (1 : Int64)) * (((p0 &&& (2147483647 : Int32)).toInt64) + (1 : Int64))).toInt32).toInt64)), .second, oD (FP.l2d (((p0 &&& (2147483647 : Int32)).toInt64) - (((((p1.toInt64) &&& (2147483647 : Int64)) - ((p1.toInt64) &&& (2147483647 : Int64)) / (((p0 &&& (2147483647 : Int32)).toInt64) + (1 : Int64)) * (((p0 &&& (2147483647 : Int32)).toInt64) + (1 : Int64))).toInt32).toInt64))), .second] [(.double (FP.l2d (((p0 &&& (2147483647 : Int32)) - ((((p1.toInt64) &&& (2147483647 : Int64)) - ((p1.toInt64) &&& (2147483647 : Int64)) / (((p0 &&& (2147483647 : Int32)).toInt64) + (1 : Int64)) * (((p0 &&& (2147483647 : Int32)).toInt64) + (1 : Int64))).toInt32)).toInt64)))]))
    refine own_via (fun t kz => XS.dload X17.here hx rfl (hb hby at_119) rfl kz) ?_
    show own_Go p e below _ (T17.setTop (mkF m 121 #[oI p0, oI p1, oI p2, oI p3, oI (p0 &&& (2147483647 : Int32)), oI ((((p1.toInt64) &&& (2147483647 : Int64)) - ((p1.toInt64) &&& (2147483647 : Int64)) / (((p0 &&& (2147483647 : Int32)).toInt64) + (1 : Int64)) * (((p0 &&& (2147483647 : Int32)).toInt64) + (1 : Int64))).toInt32), oI (0 : Int32), oR a2, oR a6, oD (FP.l2d (((p0 &&& (2147483647 : Int32)) - ((((p1.toInt64) &&& (2147483647 : Int64)) - ((p1.toInt64) &&& (2147483647 : Int64)) / (((p0 &&& (2147483647 : Int32)).toInt64) + (1 : Int64)) * (((p0 &&& (2147483647 : Int32)).toInt64) + (1 : Int64))).toInt32)).toInt64)), .second, oJ (((p0 &&& (2147483647 : Int32)).toInt64) - (((((p1.toInt64) &&& (2147483647 : Int64)) - ((p1.toInt64) &&& (2147483647 : Int64)) / (((p0 &&& (2147483647 : Int32)).toInt64) + (1 : Int64)) * (((p0 &&& (2147483647 : Int32)).toInt64) + (1 : Int64))).toInt32).toInt64)), .second, oD (FP.l2d (((p0 &&& (2147483647 : Int32)).toInt64) - (((((p1.toInt64) &&& (2147483647 : Int64)) - ((p1.toInt64) &&& (2147483647 : Int64)) / (((p0 &&& (2147483647 : Int32)).toInt64) + (1 : Int64)) * (((p0 &&& (2147483647 : Int32)).toInt64) + (1 : Int64))).toInt32).toInt64))), .second] [(.double (FP.l2d (((p0 &&& (2147483647 : Int32)).toInt64) - (((((p1.toInt64) &&& (2147483647 : Int64)) - ((p1.toInt64) &&& (2147483647 : Int64)) / (((p0 &&& (2147483647 : Int32)).toInt64) + (1 : Int64)) * (((p0 &&& (2147483647 : Int32)).toInt64) + (1 : Int64))).toInt32).toInt64)))), (.double (FP.l2d (((p0 &&& (2147483647 : Int32)) - ((((p1.toInt64) &&& (2147483647 : Int64)) - ((p1.toInt64) &&& (2147483647 : Int64)) / (((p0 &&& (2147483647 : Int32)).toInt64) + (1 : Int64)) * (((p0 &&& (2147483647 : Int32)).toInt64) + (1 : Int64))).toInt32)).toInt64)))]))
    refine own_via (fun t kz => XS.dcmpS X17.here hx rfl (hb hby at_121) rfl (dcmpV_w (own_b53i _) own_b53d .l) kz) ?_
    show own_Go p e below _ (T17.setTop (mkF m 122 #[oI p0, oI p1, oI p2, oI p3, oI (p0 &&& (2147483647 : Int32)), oI ((((p1.toInt64) &&& (2147483647 : Int64)) - ((p1.toInt64) &&& (2147483647 : Int64)) / (((p0 &&& (2147483647 : Int32)).toInt64) + (1 : Int64)) * (((p0 &&& (2147483647 : Int32)).toInt64) + (1 : Int64))).toInt32), oI (0 : Int32), oR a2, oR a6, oD (FP.l2d (((p0 &&& (2147483647 : Int32)) - ((((p1.toInt64) &&& (2147483647 : Int64)) - ((p1.toInt64) &&& (2147483647 : Int64)) / (((p0 &&& (2147483647 : Int32)).toInt64) + (1 : Int64)) * (((p0 &&& (2147483647 : Int32)).toInt64) + (1 : Int64))).toInt32)).toInt64)), .second, oJ (((p0 &&& (2147483647 : Int32)).toInt64) - (((((p1.toInt64) &&& (2147483647 : Int64)) - ((p1.toInt64) &&& (2147483647 : Int64)) / (((p0 &&& (2147483647 : Int32)).toInt64) + (1 : Int64)) * (((p0 &&& (2147483647 : Int32)).toInt64) + (1 : Int64))).toInt32).toInt64)), .second, oD (FP.l2d (((p0 &&& (2147483647 : Int32)).toInt64) - (((((p1.toInt64) &&& (2147483647 : Int64)) - ((p1.toInt64) &&& (2147483647 : Int64)) / (((p0 &&& (2147483647 : Int32)).toInt64) + (1 : Int64)) * (((p0 &&& (2147483647 : Int32)).toInt64) + (1 : Int64))).toInt32).toInt64))), .second] [(.int (lcmpW (((p0 &&& (2147483647 : Int32)) - ((((p1.toInt64) &&& (2147483647 : Int64)) - ((p1.toInt64) &&& (2147483647 : Int64)) / (((p0 &&& (2147483647 : Int32)).toInt64) + (1 : Int64)) * (((p0 &&& (2147483647 : Int32)).toInt64) + (1 : Int64))).toInt32)).toInt64) (((p0 &&& (2147483647 : Int32)).toInt64) - (((((p1.toInt64) &&& (2147483647 : Int64)) - ((p1.toInt64) &&& (2147483647 : Int64)) / (((p0 &&& (2147483647 : Int32)).toInt64) + (1 : Int64)) * (((p0 &&& (2147483647 : Int32)).toInt64) + (1 : Int64))).toInt32).toInt64))))]))
    by_cases hc122_19 : (((p0 &&& (2147483647 : Int32)) - ((((p1.toInt64) &&& (2147483647 : Int64)) - ((p1.toInt64) &&& (2147483647 : Int64)) / (((p0 &&& (2147483647 : Int32)).toInt64) + (1 : Int64)) * (((p0 &&& (2147483647 : Int32)).toInt64) + (1 : Int64))).toInt32)).toInt64) = (((p0 &&& (2147483647 : Int32)).toInt64) - (((((p1.toInt64) &&& (2147483647 : Int64)) - ((p1.toInt64) &&& (2147483647 : Int64)) / (((p0 &&& (2147483647 : Int32)).toInt64) + (1 : Int64)) * (((p0 &&& (2147483647 : Int32)).toInt64) + (1 : Int64))).toInt32).toInt64))
    · refine own_via (fun t kz => XS.ifNo X17.here hx rfl (hb hby at_122) rfl ((if0 _ _).trans (teq ((lw_eq _ _).mpr hc122_19)).2) kz) ?_
      show own_Go p e below _ (T17.setTop (mkF m 125 #[oI p0, oI p1, oI p2, oI p3, oI (p0 &&& (2147483647 : Int32)), oI ((((p1.toInt64) &&& (2147483647 : Int64)) - ((p1.toInt64) &&& (2147483647 : Int64)) / (((p0 &&& (2147483647 : Int32)).toInt64) + (1 : Int64)) * (((p0 &&& (2147483647 : Int32)).toInt64) + (1 : Int64))).toInt32), oI (0 : Int32), oR a2, oR a6, oD (FP.l2d (((p0 &&& (2147483647 : Int32)) - ((((p1.toInt64) &&& (2147483647 : Int64)) - ((p1.toInt64) &&& (2147483647 : Int64)) / (((p0 &&& (2147483647 : Int32)).toInt64) + (1 : Int64)) * (((p0 &&& (2147483647 : Int32)).toInt64) + (1 : Int64))).toInt32)).toInt64)), .second, oJ (((p0 &&& (2147483647 : Int32)).toInt64) - (((((p1.toInt64) &&& (2147483647 : Int64)) - ((p1.toInt64) &&& (2147483647 : Int64)) / (((p0 &&& (2147483647 : Int32)).toInt64) + (1 : Int64)) * (((p0 &&& (2147483647 : Int32)).toInt64) + (1 : Int64))).toInt32).toInt64)), .second, oD (FP.l2d (((p0 &&& (2147483647 : Int32)).toInt64) - (((((p1.toInt64) &&& (2147483647 : Int64)) - ((p1.toInt64) &&& (2147483647 : Int64)) / (((p0 &&& (2147483647 : Int32)).toInt64) + (1 : Int64)) * (((p0 &&& (2147483647 : Int32)).toInt64) + (1 : Int64))).toInt32).toInt64))), .second] []))
      refine own_via (fun t kz => XS.dload X17.here hx rfl (hb hby at_125) rfl kz) ?_
      show own_Go p e below _ (T17.setTop (mkF m 127 #[oI p0, oI p1, oI p2, oI p3, oI (p0 &&& (2147483647 : Int32)), oI ((((p1.toInt64) &&& (2147483647 : Int64)) - ((p1.toInt64) &&& (2147483647 : Int64)) / (((p0 &&& (2147483647 : Int32)).toInt64) + (1 : Int64)) * (((p0 &&& (2147483647 : Int32)).toInt64) + (1 : Int64))).toInt32), oI (0 : Int32), oR a2, oR a6, oD (FP.l2d (((p0 &&& (2147483647 : Int32)) - ((((p1.toInt64) &&& (2147483647 : Int64)) - ((p1.toInt64) &&& (2147483647 : Int64)) / (((p0 &&& (2147483647 : Int32)).toInt64) + (1 : Int64)) * (((p0 &&& (2147483647 : Int32)).toInt64) + (1 : Int64))).toInt32)).toInt64)), .second, oJ (((p0 &&& (2147483647 : Int32)).toInt64) - (((((p1.toInt64) &&& (2147483647 : Int64)) - ((p1.toInt64) &&& (2147483647 : Int64)) / (((p0 &&& (2147483647 : Int32)).toInt64) + (1 : Int64)) * (((p0 &&& (2147483647 : Int32)).toInt64) + (1 : Int64))).toInt32).toInt64)), .second, oD (FP.l2d (((p0 &&& (2147483647 : Int32)).toInt64) - (((((p1.toInt64) &&& (2147483647 : Int64)) - ((p1.toInt64) &&& (2147483647 : Int64)) / (((p0 &&& (2147483647 : Int32)).toInt64) + (1 : Int64)) * (((p0 &&& (2147483647 : Int32)).toInt64) + (1 : Int64))).toInt32).toInt64))), .second] [(.double (FP.l2d (((p0 &&& (2147483647 : Int32)) - ((((p1.toInt64) &&& (2147483647 : Int64)) - ((p1.toInt64) &&& (2147483647 : Int64)) / (((p0 &&& (2147483647 : Int32)).toInt64) + (1 : Int64)) * (((p0 &&& (2147483647 : Int32)).toInt64) + (1 : Int64))).toInt32)).toInt64)))]))
      refine own_via (fun t kz => XS.dconst0 X17.here hx rfl (hb hby at_127) (v := (FP.l2d (0 : Int64))) own_dconst0 kz) ?_
      show own_Go p e below _ (T17.setTop (mkF m 128 #[oI p0, oI p1, oI p2, oI p3, oI (p0 &&& (2147483647 : Int32)), oI ((((p1.toInt64) &&& (2147483647 : Int64)) - ((p1.toInt64) &&& (2147483647 : Int64)) / (((p0 &&& (2147483647 : Int32)).toInt64) + (1 : Int64)) * (((p0 &&& (2147483647 : Int32)).toInt64) + (1 : Int64))).toInt32), oI (0 : Int32), oR a2, oR a6, oD (FP.l2d (((p0 &&& (2147483647 : Int32)) - ((((p1.toInt64) &&& (2147483647 : Int64)) - ((p1.toInt64) &&& (2147483647 : Int64)) / (((p0 &&& (2147483647 : Int32)).toInt64) + (1 : Int64)) * (((p0 &&& (2147483647 : Int32)).toInt64) + (1 : Int64))).toInt32)).toInt64)), .second, oJ (((p0 &&& (2147483647 : Int32)).toInt64) - (((((p1.toInt64) &&& (2147483647 : Int64)) - ((p1.toInt64) &&& (2147483647 : Int64)) / (((p0 &&& (2147483647 : Int32)).toInt64) + (1 : Int64)) * (((p0 &&& (2147483647 : Int32)).toInt64) + (1 : Int64))).toInt32).toInt64)), .second, oD (FP.l2d (((p0 &&& (2147483647 : Int32)).toInt64) - (((((p1.toInt64) &&& (2147483647 : Int64)) - ((p1.toInt64) &&& (2147483647 : Int64)) / (((p0 &&& (2147483647 : Int32)).toInt64) + (1 : Int64)) * (((p0 &&& (2147483647 : Int32)).toInt64) + (1 : Int64))).toInt32).toInt64))), .second] [(.double (FP.l2d (0 : Int64))), (.double (FP.l2d (((p0 &&& (2147483647 : Int32)) - ((((p1.toInt64) &&& (2147483647 : Int64)) - ((p1.toInt64) &&& (2147483647 : Int64)) / (((p0 &&& (2147483647 : Int32)).toInt64) + (1 : Int64)) * (((p0 &&& (2147483647 : Int32)).toInt64) + (1 : Int64))).toInt32)).toInt64)))]))
      refine own_via (fun t kz => XS.dcmpS X17.here hx rfl (hb hby at_128) rfl (dcmpV_w (own_b53i _) own_b530 .g) kz) ?_
      show own_Go p e below _ (T17.setTop (mkF m 129 #[oI p0, oI p1, oI p2, oI p3, oI (p0 &&& (2147483647 : Int32)), oI ((((p1.toInt64) &&& (2147483647 : Int64)) - ((p1.toInt64) &&& (2147483647 : Int64)) / (((p0 &&& (2147483647 : Int32)).toInt64) + (1 : Int64)) * (((p0 &&& (2147483647 : Int32)).toInt64) + (1 : Int64))).toInt32), oI (0 : Int32), oR a2, oR a6, oD (FP.l2d (((p0 &&& (2147483647 : Int32)) - ((((p1.toInt64) &&& (2147483647 : Int64)) - ((p1.toInt64) &&& (2147483647 : Int64)) / (((p0 &&& (2147483647 : Int32)).toInt64) + (1 : Int64)) * (((p0 &&& (2147483647 : Int32)).toInt64) + (1 : Int64))).toInt32)).toInt64)), .second, oJ (((p0 &&& (2147483647 : Int32)).toInt64) - (((((p1.toInt64) &&& (2147483647 : Int64)) - ((p1.toInt64) &&& (2147483647 : Int64)) / (((p0 &&& (2147483647 : Int32)).toInt64) + (1 : Int64)) * (((p0 &&& (2147483647 : Int32)).toInt64) + (1 : Int64))).toInt32).toInt64)), .second, oD (FP.l2d (((p0 &&& (2147483647 : Int32)).toInt64) - (((((p1.toInt64) &&& (2147483647 : Int64)) - ((p1.toInt64) &&& (2147483647 : Int64)) / (((p0 &&& (2147483647 : Int32)).toInt64) + (1 : Int64)) * (((p0 &&& (2147483647 : Int32)).toInt64) + (1 : Int64))).toInt32).toInt64))), .second] [(.int (lcmpW (((p0 &&& (2147483647 : Int32)) - ((((p1.toInt64) &&& (2147483647 : Int64)) - ((p1.toInt64) &&& (2147483647 : Int64)) / (((p0 &&& (2147483647 : Int32)).toInt64) + (1 : Int64)) * (((p0 &&& (2147483647 : Int32)).toInt64) + (1 : Int64))).toInt32)).toInt64) (0 : Int64)))]))
      by_cases hc129_20 : (((p0 &&& (2147483647 : Int32)) - ((((p1.toInt64) &&& (2147483647 : Int64)) - ((p1.toInt64) &&& (2147483647 : Int64)) / (((p0 &&& (2147483647 : Int32)).toInt64) + (1 : Int64)) * (((p0 &&& (2147483647 : Int32)).toInt64) + (1 : Int64))).toInt32)).toInt64) < (0 : Int64)
      · refine own_via (fun t kz => XS.ifYes X17.here hx rfl (pc0 := 129) (pc' := 145) rfl (hb hby at_129) rfl ((if0 _ _).trans (tlt ((lw_lt _ _).mpr hc129_20)).1) (by decide) (by decide) kz) ?_
        show own_Go p e below _ (T17.setTop (mkF m 145 #[oI p0, oI p1, oI p2, oI p3, oI (p0 &&& (2147483647 : Int32)), oI ((((p1.toInt64) &&& (2147483647 : Int64)) - ((p1.toInt64) &&& (2147483647 : Int64)) / (((p0 &&& (2147483647 : Int32)).toInt64) + (1 : Int64)) * (((p0 &&& (2147483647 : Int32)).toInt64) + (1 : Int64))).toInt32), oI (0 : Int32), oR a2, oR a6, oD (FP.l2d (((p0 &&& (2147483647 : Int32)) - ((((p1.toInt64) &&& (2147483647 : Int64)) - ((p1.toInt64) &&& (2147483647 : Int64)) / (((p0 &&& (2147483647 : Int32)).toInt64) + (1 : Int64)) * (((p0 &&& (2147483647 : Int32)).toInt64) + (1 : Int64))).toInt32)).toInt64)), .second, oJ (((p0 &&& (2147483647 : Int32)).toInt64) - (((((p1.toInt64) &&& (2147483647 : Int64)) - ((p1.toInt64) &&& (2147483647 : Int64)) / (((p0 &&& (2147483647 : Int32)).toInt64) + (1 : Int64)) * (((p0 &&& (2147483647 : Int32)).toInt64) + (1 : Int64))).toInt32).toInt64)), .second, oD (FP.l2d (((p0 &&& (2147483647 : Int32)).toInt64) - (((((p1.toInt64) &&& (2147483647 : Int64)) - ((p1.toInt64) &&& (2147483647 : Int64)) / (((p0 &&& (2147483647 : Int32)).toInt64) + (1 : Int64)) * (((p0 &&& (2147483647 : Int32)).toInt64) + (1 : Int64))).toInt32).toInt64))), .second] []))
        refine own_via (fun t kz => XS.iconst X17.here hx rfl (hb hby at_145) kz) ?_
        show own_Go p e below _ (T17.setTop (mkF m 146 #[oI p0, oI p1, oI p2, oI p3, oI (p0 &&& (2147483647 : Int32)), oI ((((p1.toInt64) &&& (2147483647 : Int64)) - ((p1.toInt64) &&& (2147483647 : Int64)) / (((p0 &&& (2147483647 : Int32)).toInt64) + (1 : Int64)) * (((p0 &&& (2147483647 : Int32)).toInt64) + (1 : Int64))).toInt32), oI (0 : Int32), oR a2, oR a6, oD (FP.l2d (((p0 &&& (2147483647 : Int32)) - ((((p1.toInt64) &&& (2147483647 : Int64)) - ((p1.toInt64) &&& (2147483647 : Int64)) / (((p0 &&& (2147483647 : Int32)).toInt64) + (1 : Int64)) * (((p0 &&& (2147483647 : Int32)).toInt64) + (1 : Int64))).toInt32)).toInt64)), .second, oJ (((p0 &&& (2147483647 : Int32)).toInt64) - (((((p1.toInt64) &&& (2147483647 : Int64)) - ((p1.toInt64) &&& (2147483647 : Int64)) / (((p0 &&& (2147483647 : Int32)).toInt64) + (1 : Int64)) * (((p0 &&& (2147483647 : Int32)).toInt64) + (1 : Int64))).toInt32).toInt64)), .second, oD (FP.l2d (((p0 &&& (2147483647 : Int32)).toInt64) - (((((p1.toInt64) &&& (2147483647 : Int64)) - ((p1.toInt64) &&& (2147483647 : Int64)) / (((p0 &&& (2147483647 : Int32)).toInt64) + (1 : Int64)) * (((p0 &&& (2147483647 : Int32)).toInt64) + (1 : Int64))).toInt32).toInt64))), .second] [(.int (0 : Int32))]))
        have hv : f0 p0 p1 p2 = (0 : Int32) := by unfold f0; rw [if_pos hc24_1, if_pos hc122_19, if_pos hc129_20]
        exact absurd ((own_plain p0 p1 p2 ).symm.trans hv) (by decide)
      · refine own_via (fun t kz => XS.ifNo X17.here hx rfl (hb hby at_129) rfl ((if0 _ _).trans (flt (fun q => hc129_20 ((lw_lt _ _).mp q))).1) kz) ?_
        show own_Go p e below _ (T17.setTop (mkF m 132 #[oI p0, oI p1, oI p2, oI p3, oI (p0 &&& (2147483647 : Int32)), oI ((((p1.toInt64) &&& (2147483647 : Int64)) - ((p1.toInt64) &&& (2147483647 : Int64)) / (((p0 &&& (2147483647 : Int32)).toInt64) + (1 : Int64)) * (((p0 &&& (2147483647 : Int32)).toInt64) + (1 : Int64))).toInt32), oI (0 : Int32), oR a2, oR a6, oD (FP.l2d (((p0 &&& (2147483647 : Int32)) - ((((p1.toInt64) &&& (2147483647 : Int64)) - ((p1.toInt64) &&& (2147483647 : Int64)) / (((p0 &&& (2147483647 : Int32)).toInt64) + (1 : Int64)) * (((p0 &&& (2147483647 : Int32)).toInt64) + (1 : Int64))).toInt32)).toInt64)), .second, oJ (((p0 &&& (2147483647 : Int32)).toInt64) - (((((p1.toInt64) &&& (2147483647 : Int64)) - ((p1.toInt64) &&& (2147483647 : Int64)) / (((p0 &&& (2147483647 : Int32)).toInt64) + (1 : Int64)) * (((p0 &&& (2147483647 : Int32)).toInt64) + (1 : Int64))).toInt32).toInt64)), .second, oD (FP.l2d (((p0 &&& (2147483647 : Int32)).toInt64) - (((((p1.toInt64) &&& (2147483647 : Int64)) - ((p1.toInt64) &&& (2147483647 : Int64)) / (((p0 &&& (2147483647 : Int32)).toInt64) + (1 : Int64)) * (((p0 &&& (2147483647 : Int32)).toInt64) + (1 : Int64))).toInt32).toInt64))), .second] []))
        refine own_via (fun t kz => XS.dload X17.here hx rfl (hb hby at_132) rfl kz) ?_
        show own_Go p e below _ (T17.setTop (mkF m 134 #[oI p0, oI p1, oI p2, oI p3, oI (p0 &&& (2147483647 : Int32)), oI ((((p1.toInt64) &&& (2147483647 : Int64)) - ((p1.toInt64) &&& (2147483647 : Int64)) / (((p0 &&& (2147483647 : Int32)).toInt64) + (1 : Int64)) * (((p0 &&& (2147483647 : Int32)).toInt64) + (1 : Int64))).toInt32), oI (0 : Int32), oR a2, oR a6, oD (FP.l2d (((p0 &&& (2147483647 : Int32)) - ((((p1.toInt64) &&& (2147483647 : Int64)) - ((p1.toInt64) &&& (2147483647 : Int64)) / (((p0 &&& (2147483647 : Int32)).toInt64) + (1 : Int64)) * (((p0 &&& (2147483647 : Int32)).toInt64) + (1 : Int64))).toInt32)).toInt64)), .second, oJ (((p0 &&& (2147483647 : Int32)).toInt64) - (((((p1.toInt64) &&& (2147483647 : Int64)) - ((p1.toInt64) &&& (2147483647 : Int64)) / (((p0 &&& (2147483647 : Int32)).toInt64) + (1 : Int64)) * (((p0 &&& (2147483647 : Int32)).toInt64) + (1 : Int64))).toInt32).toInt64)), .second, oD (FP.l2d (((p0 &&& (2147483647 : Int32)).toInt64) - (((((p1.toInt64) &&& (2147483647 : Int64)) - ((p1.toInt64) &&& (2147483647 : Int64)) / (((p0 &&& (2147483647 : Int32)).toInt64) + (1 : Int64)) * (((p0 &&& (2147483647 : Int32)).toInt64) + (1 : Int64))).toInt32).toInt64))), .second] [(.double (FP.l2d (((p0 &&& (2147483647 : Int32)) - ((((p1.toInt64) &&& (2147483647 : Int64)) - ((p1.toInt64) &&& (2147483647 : Int64)) / (((p0 &&& (2147483647 : Int32)).toInt64) + (1 : Int64)) * (((p0 &&& (2147483647 : Int32)).toInt64) + (1 : Int64))).toInt32)).toInt64)))]))
        refine own_via (fun t kz => XS.iload X17.here hx rfl (hb hby at_134) rfl kz) ?_
        show own_Go p e below _ (T17.setTop (mkF m 136 #[oI p0, oI p1, oI p2, oI p3, oI (p0 &&& (2147483647 : Int32)), oI ((((p1.toInt64) &&& (2147483647 : Int64)) - ((p1.toInt64) &&& (2147483647 : Int64)) / (((p0 &&& (2147483647 : Int32)).toInt64) + (1 : Int64)) * (((p0 &&& (2147483647 : Int32)).toInt64) + (1 : Int64))).toInt32), oI (0 : Int32), oR a2, oR a6, oD (FP.l2d (((p0 &&& (2147483647 : Int32)) - ((((p1.toInt64) &&& (2147483647 : Int64)) - ((p1.toInt64) &&& (2147483647 : Int64)) / (((p0 &&& (2147483647 : Int32)).toInt64) + (1 : Int64)) * (((p0 &&& (2147483647 : Int32)).toInt64) + (1 : Int64))).toInt32)).toInt64)), .second, oJ (((p0 &&& (2147483647 : Int32)).toInt64) - (((((p1.toInt64) &&& (2147483647 : Int64)) - ((p1.toInt64) &&& (2147483647 : Int64)) / (((p0 &&& (2147483647 : Int32)).toInt64) + (1 : Int64)) * (((p0 &&& (2147483647 : Int32)).toInt64) + (1 : Int64))).toInt32).toInt64)), .second, oD (FP.l2d (((p0 &&& (2147483647 : Int32)).toInt64) - (((((p1.toInt64) &&& (2147483647 : Int64)) - ((p1.toInt64) &&& (2147483647 : Int64)) / (((p0 &&& (2147483647 : Int32)).toInt64) + (1 : Int64)) * (((p0 &&& (2147483647 : Int32)).toInt64) + (1 : Int64))).toInt32).toInt64))), .second] [(.int (p0 &&& (2147483647 : Int32))), (.double (FP.l2d (((p0 &&& (2147483647 : Int32)) - ((((p1.toInt64) &&& (2147483647 : Int64)) - ((p1.toInt64) &&& (2147483647 : Int64)) / (((p0 &&& (2147483647 : Int32)).toInt64) + (1 : Int64)) * (((p0 &&& (2147483647 : Int32)).toInt64) + (1 : Int64))).toInt32)).toInt64)))]))
        refine own_via (fun t kz => XS.i2dS X17.here hx rfl (hb hby at_136) rfl (i2d_w (p0 &&& (2147483647 : Int32))) kz) ?_
        show own_Go p e below _ (T17.setTop (mkF m 137 #[oI p0, oI p1, oI p2, oI p3, oI (p0 &&& (2147483647 : Int32)), oI ((((p1.toInt64) &&& (2147483647 : Int64)) - ((p1.toInt64) &&& (2147483647 : Int64)) / (((p0 &&& (2147483647 : Int32)).toInt64) + (1 : Int64)) * (((p0 &&& (2147483647 : Int32)).toInt64) + (1 : Int64))).toInt32), oI (0 : Int32), oR a2, oR a6, oD (FP.l2d (((p0 &&& (2147483647 : Int32)) - ((((p1.toInt64) &&& (2147483647 : Int64)) - ((p1.toInt64) &&& (2147483647 : Int64)) / (((p0 &&& (2147483647 : Int32)).toInt64) + (1 : Int64)) * (((p0 &&& (2147483647 : Int32)).toInt64) + (1 : Int64))).toInt32)).toInt64)), .second, oJ (((p0 &&& (2147483647 : Int32)).toInt64) - (((((p1.toInt64) &&& (2147483647 : Int64)) - ((p1.toInt64) &&& (2147483647 : Int64)) / (((p0 &&& (2147483647 : Int32)).toInt64) + (1 : Int64)) * (((p0 &&& (2147483647 : Int32)).toInt64) + (1 : Int64))).toInt32).toInt64)), .second, oD (FP.l2d (((p0 &&& (2147483647 : Int32)).toInt64) - (((((p1.toInt64) &&& (2147483647 : Int64)) - ((p1.toInt64) &&& (2147483647 : Int64)) / (((p0 &&& (2147483647 : Int32)).toInt64) + (1 : Int64)) * (((p0 &&& (2147483647 : Int32)).toInt64) + (1 : Int64))).toInt32).toInt64))), .second] [(.double (FP.l2d ((p0 &&& (2147483647 : Int32)).toInt64))), (.double (FP.l2d (((p0 &&& (2147483647 : Int32)) - ((((p1.toInt64) &&& (2147483647 : Int64)) - ((p1.toInt64) &&& (2147483647 : Int64)) / (((p0 &&& (2147483647 : Int32)).toInt64) + (1 : Int64)) * (((p0 &&& (2147483647 : Int32)).toInt64) + (1 : Int64))).toInt32)).toInt64)))]))
        refine own_via (fun t kz => XS.dcmpS X17.here hx rfl (hb hby at_137) rfl (dcmpV_w (own_b53i _) (own_b53i _) .g) kz) ?_
        show own_Go p e below _ (T17.setTop (mkF m 138 #[oI p0, oI p1, oI p2, oI p3, oI (p0 &&& (2147483647 : Int32)), oI ((((p1.toInt64) &&& (2147483647 : Int64)) - ((p1.toInt64) &&& (2147483647 : Int64)) / (((p0 &&& (2147483647 : Int32)).toInt64) + (1 : Int64)) * (((p0 &&& (2147483647 : Int32)).toInt64) + (1 : Int64))).toInt32), oI (0 : Int32), oR a2, oR a6, oD (FP.l2d (((p0 &&& (2147483647 : Int32)) - ((((p1.toInt64) &&& (2147483647 : Int64)) - ((p1.toInt64) &&& (2147483647 : Int64)) / (((p0 &&& (2147483647 : Int32)).toInt64) + (1 : Int64)) * (((p0 &&& (2147483647 : Int32)).toInt64) + (1 : Int64))).toInt32)).toInt64)), .second, oJ (((p0 &&& (2147483647 : Int32)).toInt64) - (((((p1.toInt64) &&& (2147483647 : Int64)) - ((p1.toInt64) &&& (2147483647 : Int64)) / (((p0 &&& (2147483647 : Int32)).toInt64) + (1 : Int64)) * (((p0 &&& (2147483647 : Int32)).toInt64) + (1 : Int64))).toInt32).toInt64)), .second, oD (FP.l2d (((p0 &&& (2147483647 : Int32)).toInt64) - (((((p1.toInt64) &&& (2147483647 : Int64)) - ((p1.toInt64) &&& (2147483647 : Int64)) / (((p0 &&& (2147483647 : Int32)).toInt64) + (1 : Int64)) * (((p0 &&& (2147483647 : Int32)).toInt64) + (1 : Int64))).toInt32).toInt64))), .second] [(.int (lcmpW (((p0 &&& (2147483647 : Int32)) - ((((p1.toInt64) &&& (2147483647 : Int64)) - ((p1.toInt64) &&& (2147483647 : Int64)) / (((p0 &&& (2147483647 : Int32)).toInt64) + (1 : Int64)) * (((p0 &&& (2147483647 : Int32)).toInt64) + (1 : Int64))).toInt32)).toInt64) ((p0 &&& (2147483647 : Int32)).toInt64)))]))
        by_cases hc138_21 : ((p0 &&& (2147483647 : Int32)).toInt64) < (((p0 &&& (2147483647 : Int32)) - ((((p1.toInt64) &&& (2147483647 : Int64)) - ((p1.toInt64) &&& (2147483647 : Int64)) / (((p0 &&& (2147483647 : Int32)).toInt64) + (1 : Int64)) * (((p0 &&& (2147483647 : Int32)).toInt64) + (1 : Int64))).toInt32)).toInt64)
        · refine own_via (fun t kz => XS.ifYes X17.here hx rfl (pc0 := 138) (pc' := 145) rfl (hb hby at_138) rfl ((if0 _ _).trans (tlt ((lw_gt _ _).mpr hc138_21)).2.2.1) (by decide) (by decide) kz) ?_
          show own_Go p e below _ (T17.setTop (mkF m 145 #[oI p0, oI p1, oI p2, oI p3, oI (p0 &&& (2147483647 : Int32)), oI ((((p1.toInt64) &&& (2147483647 : Int64)) - ((p1.toInt64) &&& (2147483647 : Int64)) / (((p0 &&& (2147483647 : Int32)).toInt64) + (1 : Int64)) * (((p0 &&& (2147483647 : Int32)).toInt64) + (1 : Int64))).toInt32), oI (0 : Int32), oR a2, oR a6, oD (FP.l2d (((p0 &&& (2147483647 : Int32)) - ((((p1.toInt64) &&& (2147483647 : Int64)) - ((p1.toInt64) &&& (2147483647 : Int64)) / (((p0 &&& (2147483647 : Int32)).toInt64) + (1 : Int64)) * (((p0 &&& (2147483647 : Int32)).toInt64) + (1 : Int64))).toInt32)).toInt64)), .second, oJ (((p0 &&& (2147483647 : Int32)).toInt64) - (((((p1.toInt64) &&& (2147483647 : Int64)) - ((p1.toInt64) &&& (2147483647 : Int64)) / (((p0 &&& (2147483647 : Int32)).toInt64) + (1 : Int64)) * (((p0 &&& (2147483647 : Int32)).toInt64) + (1 : Int64))).toInt32).toInt64)), .second, oD (FP.l2d (((p0 &&& (2147483647 : Int32)).toInt64) - (((((p1.toInt64) &&& (2147483647 : Int64)) - ((p1.toInt64) &&& (2147483647 : Int64)) / (((p0 &&& (2147483647 : Int32)).toInt64) + (1 : Int64)) * (((p0 &&& (2147483647 : Int32)).toInt64) + (1 : Int64))).toInt32).toInt64))), .second] []))
          refine own_via (fun t kz => XS.iconst X17.here hx rfl (hb hby at_145) kz) ?_
          show own_Go p e below _ (T17.setTop (mkF m 146 #[oI p0, oI p1, oI p2, oI p3, oI (p0 &&& (2147483647 : Int32)), oI ((((p1.toInt64) &&& (2147483647 : Int64)) - ((p1.toInt64) &&& (2147483647 : Int64)) / (((p0 &&& (2147483647 : Int32)).toInt64) + (1 : Int64)) * (((p0 &&& (2147483647 : Int32)).toInt64) + (1 : Int64))).toInt32), oI (0 : Int32), oR a2, oR a6, oD (FP.l2d (((p0 &&& (2147483647 : Int32)) - ((((p1.toInt64) &&& (2147483647 : Int64)) - ((p1.toInt64) &&& (2147483647 : Int64)) / (((p0 &&& (2147483647 : Int32)).toInt64) + (1 : Int64)) * (((p0 &&& (2147483647 : Int32)).toInt64) + (1 : Int64))).toInt32)).toInt64)), .second, oJ (((p0 &&& (2147483647 : Int32)).toInt64) - (((((p1.toInt64) &&& (2147483647 : Int64)) - ((p1.toInt64) &&& (2147483647 : Int64)) / (((p0 &&& (2147483647 : Int32)).toInt64) + (1 : Int64)) * (((p0 &&& (2147483647 : Int32)).toInt64) + (1 : Int64))).toInt32).toInt64)), .second, oD (FP.l2d (((p0 &&& (2147483647 : Int32)).toInt64) - (((((p1.toInt64) &&& (2147483647 : Int64)) - ((p1.toInt64) &&& (2147483647 : Int64)) / (((p0 &&& (2147483647 : Int32)).toInt64) + (1 : Int64)) * (((p0 &&& (2147483647 : Int32)).toInt64) + (1 : Int64))).toInt32).toInt64))), .second] [(.int (0 : Int32))]))
          have hv : f0 p0 p1 p2 = (0 : Int32) := by unfold f0; rw [if_pos hc24_1, if_pos hc122_19, if_neg hc129_20, if_pos hc138_21]
          exact absurd ((own_plain p0 p1 p2 ).symm.trans hv) (by decide)
        · refine own_via (fun t kz => XS.ifNo X17.here hx rfl (hb hby at_138) rfl ((if0 _ _).trans (flt (fun q => hc138_21 ((lw_gt _ _).mp q))).2.2.1) kz) ?_
          show own_Go p e below _ (T17.setTop (mkF m 141 #[oI p0, oI p1, oI p2, oI p3, oI (p0 &&& (2147483647 : Int32)), oI ((((p1.toInt64) &&& (2147483647 : Int64)) - ((p1.toInt64) &&& (2147483647 : Int64)) / (((p0 &&& (2147483647 : Int32)).toInt64) + (1 : Int64)) * (((p0 &&& (2147483647 : Int32)).toInt64) + (1 : Int64))).toInt32), oI (0 : Int32), oR a2, oR a6, oD (FP.l2d (((p0 &&& (2147483647 : Int32)) - ((((p1.toInt64) &&& (2147483647 : Int64)) - ((p1.toInt64) &&& (2147483647 : Int64)) / (((p0 &&& (2147483647 : Int32)).toInt64) + (1 : Int64)) * (((p0 &&& (2147483647 : Int32)).toInt64) + (1 : Int64))).toInt32)).toInt64)), .second, oJ (((p0 &&& (2147483647 : Int32)).toInt64) - (((((p1.toInt64) &&& (2147483647 : Int64)) - ((p1.toInt64) &&& (2147483647 : Int64)) / (((p0 &&& (2147483647 : Int32)).toInt64) + (1 : Int64)) * (((p0 &&& (2147483647 : Int32)).toInt64) + (1 : Int64))).toInt32).toInt64)), .second, oD (FP.l2d (((p0 &&& (2147483647 : Int32)).toInt64) - (((((p1.toInt64) &&& (2147483647 : Int64)) - ((p1.toInt64) &&& (2147483647 : Int64)) / (((p0 &&& (2147483647 : Int32)).toInt64) + (1 : Int64)) * (((p0 &&& (2147483647 : Int32)).toInt64) + (1 : Int64))).toInt32).toInt64))), .second] []))
          refine own_via (fun t kz => XS.iconst X17.here hx rfl (hb hby at_141) kz) ?_
          show own_Go p e below _ (T17.setTop (mkF m 142 #[oI p0, oI p1, oI p2, oI p3, oI (p0 &&& (2147483647 : Int32)), oI ((((p1.toInt64) &&& (2147483647 : Int64)) - ((p1.toInt64) &&& (2147483647 : Int64)) / (((p0 &&& (2147483647 : Int32)).toInt64) + (1 : Int64)) * (((p0 &&& (2147483647 : Int32)).toInt64) + (1 : Int64))).toInt32), oI (0 : Int32), oR a2, oR a6, oD (FP.l2d (((p0 &&& (2147483647 : Int32)) - ((((p1.toInt64) &&& (2147483647 : Int64)) - ((p1.toInt64) &&& (2147483647 : Int64)) / (((p0 &&& (2147483647 : Int32)).toInt64) + (1 : Int64)) * (((p0 &&& (2147483647 : Int32)).toInt64) + (1 : Int64))).toInt32)).toInt64)), .second, oJ (((p0 &&& (2147483647 : Int32)).toInt64) - (((((p1.toInt64) &&& (2147483647 : Int64)) - ((p1.toInt64) &&& (2147483647 : Int64)) / (((p0 &&& (2147483647 : Int32)).toInt64) + (1 : Int64)) * (((p0 &&& (2147483647 : Int32)).toInt64) + (1 : Int64))).toInt32).toInt64)), .second, oD (FP.l2d (((p0 &&& (2147483647 : Int32)).toInt64) - (((((p1.toInt64) &&& (2147483647 : Int64)) - ((p1.toInt64) &&& (2147483647 : Int64)) / (((p0 &&& (2147483647 : Int32)).toInt64) + (1 : Int64)) * (((p0 &&& (2147483647 : Int32)).toInt64) + (1 : Int64))).toInt32).toInt64))), .second] [(.int (1 : Int32))]))
          refine own_via (fun t kz => XS.goto X17.here hx rfl (pc0 := 142) (pc' := 146) rfl (hb hby at_142) (by decide) (by decide) kz) ?_
          show own_Go p e below _ (T17.setTop (mkF m 146 #[oI p0, oI p1, oI p2, oI p3, oI (p0 &&& (2147483647 : Int32)), oI ((((p1.toInt64) &&& (2147483647 : Int64)) - ((p1.toInt64) &&& (2147483647 : Int64)) / (((p0 &&& (2147483647 : Int32)).toInt64) + (1 : Int64)) * (((p0 &&& (2147483647 : Int32)).toInt64) + (1 : Int64))).toInt32), oI (0 : Int32), oR a2, oR a6, oD (FP.l2d (((p0 &&& (2147483647 : Int32)) - ((((p1.toInt64) &&& (2147483647 : Int64)) - ((p1.toInt64) &&& (2147483647 : Int64)) / (((p0 &&& (2147483647 : Int32)).toInt64) + (1 : Int64)) * (((p0 &&& (2147483647 : Int32)).toInt64) + (1 : Int64))).toInt32)).toInt64)), .second, oJ (((p0 &&& (2147483647 : Int32)).toInt64) - (((((p1.toInt64) &&& (2147483647 : Int64)) - ((p1.toInt64) &&& (2147483647 : Int64)) / (((p0 &&& (2147483647 : Int32)).toInt64) + (1 : Int64)) * (((p0 &&& (2147483647 : Int32)).toInt64) + (1 : Int64))).toInt32).toInt64)), .second, oD (FP.l2d (((p0 &&& (2147483647 : Int32)).toInt64) - (((((p1.toInt64) &&& (2147483647 : Int64)) - ((p1.toInt64) &&& (2147483647 : Int64)) / (((p0 &&& (2147483647 : Int32)).toInt64) + (1 : Int64)) * (((p0 &&& (2147483647 : Int32)).toInt64) + (1 : Int64))).toInt32).toInt64))), .second] [(.int (1 : Int32))]))
          have hv : f0 p0 p1 p2 = (1 : Int32) := by unfold f0; rw [if_pos hc24_1, if_pos hc122_19, if_neg hc129_20, if_neg hc138_21]
          obtain ⟨fs, hr, hrun, hended, hW, hsame⟩ := X17.leave (v := some (.int (1 : Int32))) (fun h => by rw [Bd.returns] at h; cases h)
          refine ⟨_, _, retN X17 hx (t := .boolean) Bd.returns (by simp) (hb hby at_146) hr, hrun, hended, _, _, rfl, ?_, ⟨_, rfl⟩, hW, hsame.mono (by decide) (by decide)⟩
          show Q0 Z p0 p1 p2 p3 wcs h0 n0 _ T17.heap _
          rw [e17]
          exact ⟨rfl, N18⟩
    · refine own_via (fun t kz => XS.ifYes X17.here hx rfl (pc0 := 122) (pc' := 145) rfl (hb hby at_122) rfl ((if0 _ _).trans (feq (fun q => hc122_19 ((lw_eq _ _).mp q))).2) (by decide) (by decide) kz) ?_
      show own_Go p e below _ (T17.setTop (mkF m 145 #[oI p0, oI p1, oI p2, oI p3, oI (p0 &&& (2147483647 : Int32)), oI ((((p1.toInt64) &&& (2147483647 : Int64)) - ((p1.toInt64) &&& (2147483647 : Int64)) / (((p0 &&& (2147483647 : Int32)).toInt64) + (1 : Int64)) * (((p0 &&& (2147483647 : Int32)).toInt64) + (1 : Int64))).toInt32), oI (0 : Int32), oR a2, oR a6, oD (FP.l2d (((p0 &&& (2147483647 : Int32)) - ((((p1.toInt64) &&& (2147483647 : Int64)) - ((p1.toInt64) &&& (2147483647 : Int64)) / (((p0 &&& (2147483647 : Int32)).toInt64) + (1 : Int64)) * (((p0 &&& (2147483647 : Int32)).toInt64) + (1 : Int64))).toInt32)).toInt64)), .second, oJ (((p0 &&& (2147483647 : Int32)).toInt64) - (((((p1.toInt64) &&& (2147483647 : Int64)) - ((p1.toInt64) &&& (2147483647 : Int64)) / (((p0 &&& (2147483647 : Int32)).toInt64) + (1 : Int64)) * (((p0 &&& (2147483647 : Int32)).toInt64) + (1 : Int64))).toInt32).toInt64)), .second, oD (FP.l2d (((p0 &&& (2147483647 : Int32)).toInt64) - (((((p1.toInt64) &&& (2147483647 : Int64)) - ((p1.toInt64) &&& (2147483647 : Int64)) / (((p0 &&& (2147483647 : Int32)).toInt64) + (1 : Int64)) * (((p0 &&& (2147483647 : Int32)).toInt64) + (1 : Int64))).toInt32).toInt64))), .second] []))
      refine own_via (fun t kz => XS.iconst X17.here hx rfl (hb hby at_145) kz) ?_
      show own_Go p e below _ (T17.setTop (mkF m 146 #[oI p0, oI p1, oI p2, oI p3, oI (p0 &&& (2147483647 : Int32)), oI ((((p1.toInt64) &&& (2147483647 : Int64)) - ((p1.toInt64) &&& (2147483647 : Int64)) / (((p0 &&& (2147483647 : Int32)).toInt64) + (1 : Int64)) * (((p0 &&& (2147483647 : Int32)).toInt64) + (1 : Int64))).toInt32), oI (0 : Int32), oR a2, oR a6, oD (FP.l2d (((p0 &&& (2147483647 : Int32)) - ((((p1.toInt64) &&& (2147483647 : Int64)) - ((p1.toInt64) &&& (2147483647 : Int64)) / (((p0 &&& (2147483647 : Int32)).toInt64) + (1 : Int64)) * (((p0 &&& (2147483647 : Int32)).toInt64) + (1 : Int64))).toInt32)).toInt64)), .second, oJ (((p0 &&& (2147483647 : Int32)).toInt64) - (((((p1.toInt64) &&& (2147483647 : Int64)) - ((p1.toInt64) &&& (2147483647 : Int64)) / (((p0 &&& (2147483647 : Int32)).toInt64) + (1 : Int64)) * (((p0 &&& (2147483647 : Int32)).toInt64) + (1 : Int64))).toInt32).toInt64)), .second, oD (FP.l2d (((p0 &&& (2147483647 : Int32)).toInt64) - (((((p1.toInt64) &&& (2147483647 : Int64)) - ((p1.toInt64) &&& (2147483647 : Int64)) / (((p0 &&& (2147483647 : Int32)).toInt64) + (1 : Int64)) * (((p0 &&& (2147483647 : Int32)).toInt64) + (1 : Int64))).toInt32).toInt64))), .second] [(.int (0 : Int32))]))
      have hv : f0 p0 p1 p2 = (0 : Int32) := by unfold f0; rw [if_pos hc24_1, if_neg hc122_19]
      exact absurd ((own_plain p0 p1 p2 ).symm.trans hv) (by decide)
  · refine own_via (fun t kz => XS.ifNo X0.here hx rfl (hb hby at_24) rfl ((if0 _ _).trans (feq hc24_1).1) kz) ?_
    show own_Go p e below _ (s₁.setTop (mkF m 27 #[oI p0, oI p1, oI p2, oI p3, oI (p0 &&& (2147483647 : Int32)), oI ((((p1.toInt64) &&& (2147483647 : Int64)) - ((p1.toInt64) &&& (2147483647 : Int64)) / (((p0 &&& (2147483647 : Int32)).toInt64) + (1 : Int64)) * (((p0 &&& (2147483647 : Int32)).toInt64) + (1 : Int64))).toInt32), .unset, .unset, .unset, .unset, .unset, .unset, .unset, .unset, .unset] []))
    refine own_via (fun t kz => XS.iconst X0.here hx rfl (hb hby at_27) kz) ?_
    show own_Go p e below _ (s₁.setTop (mkF m 28 #[oI p0, oI p1, oI p2, oI p3, oI (p0 &&& (2147483647 : Int32)), oI ((((p1.toInt64) &&& (2147483647 : Int64)) - ((p1.toInt64) &&& (2147483647 : Int64)) / (((p0 &&& (2147483647 : Int32)).toInt64) + (1 : Int64)) * (((p0 &&& (2147483647 : Int32)).toInt64) + (1 : Int64))).toInt32), .unset, .unset, .unset, .unset, .unset, .unset, .unset, .unset, .unset] [(.int (1 : Int32))]))
    refine own_via (fun t kz => XS.goto X0.here hx rfl (pc0 := 28) (pc' := 32) rfl (hb hby at_28) (by decide) (by decide) kz) ?_
    show own_Go p e below _ (s₁.setTop (mkF m 32 #[oI p0, oI p1, oI p2, oI p3, oI (p0 &&& (2147483647 : Int32)), oI ((((p1.toInt64) &&& (2147483647 : Int64)) - ((p1.toInt64) &&& (2147483647 : Int64)) / (((p0 &&& (2147483647 : Int32)).toInt64) + (1 : Int64)) * (((p0 &&& (2147483647 : Int32)).toInt64) + (1 : Int64))).toInt32), .unset, .unset, .unset, .unset, .unset, .unset, .unset, .unset, .unset] [(.int (1 : Int32))]))
    refine own_via (fun t kz => XS.istore X0.here hx rfl (hb hby at_32) rfl (l' := #[oI p0, oI p1, oI p2, oI p3, oI (p0 &&& (2147483647 : Int32)), oI ((((p1.toInt64) &&& (2147483647 : Int64)) - ((p1.toInt64) &&& (2147483647 : Int64)) / (((p0 &&& (2147483647 : Int32)).toInt64) + (1 : Int64)) * (((p0 &&& (2147483647 : Int32)).toInt64) + (1 : Int64))).toInt32), oI (1 : Int32), .unset, .unset, .unset, .unset, .unset, .unset, .unset, .unset]) rfl kz) ?_
    show own_Go p e below _ (s₁.setTop (mkF m 34 #[oI p0, oI p1, oI p2, oI p3, oI (p0 &&& (2147483647 : Int32)), oI ((((p1.toInt64) &&& (2147483647 : Int64)) - ((p1.toInt64) &&& (2147483647 : Int64)) / (((p0 &&& (2147483647 : Int32)).toInt64) + (1 : Int64)) * (((p0 &&& (2147483647 : Int32)).toInt64) + (1 : Int64))).toInt32), oI (1 : Int32), .unset, .unset, .unset, .unset, .unset, .unset, .unset, .unset] []))
    refine own_via (fun t kz => XS.iloadN X0.here hx rfl (hb hby at_34) rfl kz) ?_
    show own_Go p e below _ (s₁.setTop (mkF m 35 #[oI p0, oI p1, oI p2, oI p3, oI (p0 &&& (2147483647 : Int32)), oI ((((p1.toInt64) &&& (2147483647 : Int64)) - ((p1.toInt64) &&& (2147483647 : Int64)) / (((p0 &&& (2147483647 : Int32)).toInt64) + (1 : Int64)) * (((p0 &&& (2147483647 : Int32)).toInt64) + (1 : Int64))).toInt32), oI (1 : Int32), .unset, .unset, .unset, .unset, .unset, .unset, .unset, .unset] [(.int p3)]))
    refine own_via (fun t kz => XS.sipush X0.here hx rfl (hb hby at_35) kz) ?_
    show own_Go p e below _ (s₁.setTop (mkF m 38 #[oI p0, oI p1, oI p2, oI p3, oI (p0 &&& (2147483647 : Int32)), oI ((((p1.toInt64) &&& (2147483647 : Int64)) - ((p1.toInt64) &&& (2147483647 : Int64)) / (((p0 &&& (2147483647 : Int32)).toInt64) + (1 : Int64)) * (((p0 &&& (2147483647 : Int32)).toInt64) + (1 : Int64))).toInt32), oI (1 : Int32), .unset, .unset, .unset, .unset, .unset, .unset, .unset, .unset] [(.int (255 : Int32)), (.int p3)]))
    refine own_via (fun t kz => XS.iand X0.here hx rfl (hb hby at_38) rfl kz) ?_
    show own_Go p e below _ (s₁.setTop (mkF m 39 #[oI p0, oI p1, oI p2, oI p3, oI (p0 &&& (2147483647 : Int32)), oI ((((p1.toInt64) &&& (2147483647 : Int64)) - ((p1.toInt64) &&& (2147483647 : Int64)) / (((p0 &&& (2147483647 : Int32)).toInt64) + (1 : Int64)) * (((p0 &&& (2147483647 : Int32)).toInt64) + (1 : Int64))).toInt32), oI (1 : Int32), .unset, .unset, .unset, .unset, .unset, .unset, .unset, .unset] [(.int (p3 &&& (255 : Int32)))]))
    refine own_via (fun t kz => XS.i2c X0.here hx rfl (hb hby at_39) rfl kz) ?_
    show own_Go p e below _ (s₁.setTop (mkF m 40 #[oI p0, oI p1, oI p2, oI p3, oI (p0 &&& (2147483647 : Int32)), oI ((((p1.toInt64) &&& (2147483647 : Int64)) - ((p1.toInt64) &&& (2147483647 : Int64)) / (((p0 &&& (2147483647 : Int32)).toInt64) + (1 : Int64)) * (((p0 &&& (2147483647 : Int32)).toInt64) + (1 : Int64))).toInt32), oI (1 : Int32), .unset, .unset, .unset, .unset, .unset, .unset, .unset, .unset] [(.int ((p3 &&& (255 : Int32)).toUInt32.toUInt16.toUInt32.toInt32))]))
    obtain ⟨_, _, ⟨T23, L23, k23, n23⟩, -, X23, ⟨Lc23, hQ23, l23, y23, z23⟩, st23⟩ := Jvm.LawKit.callS X0 hx (y := (⟨"java/lang/String", "valueOf", "(C)Ljava/lang/String;"⟩ : MethodName)) hown (mvT hZ (own_w hw 2)) (mvT hZ (own_w hw 3)) (mvT hZ (own_w hw 4)) (mvT hZ (own_w hw 5)) (by decide) (backOf (W := 0) (rm1 l Z a0 hw [] ((p3 &&& (255 : Int32)).toUInt32.toUInt16.toUInt32.toInt32) wcs h0 n0 Z0 S_cs hcs (own_ch p3) (own_ce p3)) hZ (own_w hw 5) (own_w hw 4) (by decide) (by decide)) (g := (mkF m 40 #[oI p0, oI p1, oI p2, oI p3, oI (p0 &&& (2147483647 : Int32)), oI ((((p1.toInt64) &&& (2147483647 : Int64)) - ((p1.toInt64) &&& (2147483647 : Int64)) / (((p0 &&& (2147483647 : Int32)).toInt64) + (1 : Int64)) * (((p0 &&& (2147483647 : Int32)).toInt64) + (1 : Int64))).toInt32), oI (1 : Int32), .unset, .unset, .unset, .unset, .unset, .unset, .unset, .unset] [(.int ((p3 &&& (255 : Int32)).toUInt32.toUInt16.toUInt32.toInt32))])) rfl (by rw [hml]; rfl) (argsL := [(.int ((p3 &&& (255 : Int32)).toUInt32.toUInt16.toUInt32.toInt32))]) (rest := []) (lenOf pd_0_0 rfl) rfl (by show 2 * 0 + _ ≤ _; exact Nat.le_of_eq rfl) (hb hby at_40) (fun _ _ => ⟨rfl, e0, (by decide : 0 + 2 ≤ _), (by decide : 0 + 5 ≤ _)⟩)
    dsimp only [Pt.U, Pt.locs, Pt.cells, Pt.slots] at X23 l23 y23 z23 st23 hQ23
    subst l23 y23 z23
    obtain ⟨rfl, Nq23, Kc23, sz23⟩ := hQ23
    have N24 := Fr.app N0 Nq23
    refine own_via st23 ?_
    obtain ⟨a23, g23⟩ : ∃ z, z = h0.size := ⟨_, rfl⟩
    rw [← g23]
    have fr25 : n0 ≤ a23 := Nat.le_trans Z0 (Nat.le_of_eq g23.symm)
    have Zs26 : n0 ≤ T23.heap.size := Nat.le_trans Z0 Kc23.1
    show own_Go p e below _ (T23.setTop (mkF m 43 #[oI p0, oI p1, oI p2, oI p3, oI (p0 &&& (2147483647 : Int32)), oI ((((p1.toInt64) &&& (2147483647 : Int64)) - ((p1.toInt64) &&& (2147483647 : Int64)) / (((p0 &&& (2147483647 : Int32)).toInt64) + (1 : Int64)) * (((p0 &&& (2147483647 : Int32)).toInt64) + (1 : Int64))).toInt32), oI (1 : Int32), .unset, .unset, .unset, .unset, .unset, .unset, .unset, .unset] [(.ref a23)]))
    refine own_via (fun t kz => XS.astore X23.here hx rfl (hb hby at_43) rfl rfl (l' := #[oI p0, oI p1, oI p2, oI p3, oI (p0 &&& (2147483647 : Int32)), oI ((((p1.toInt64) &&& (2147483647 : Int64)) - ((p1.toInt64) &&& (2147483647 : Int64)) / (((p0 &&& (2147483647 : Int32)).toInt64) + (1 : Int64)) * (((p0 &&& (2147483647 : Int32)).toInt64) + (1 : Int64))).toInt32), oI (1 : Int32), oR a23, .unset, .unset, .unset, .unset, .unset, .unset, .unset]) rfl kz) ?_
    show own_Go p e below _ (T23.setTop (mkF m 45 #[oI p0, oI p1, oI p2, oI p3, oI (p0 &&& (2147483647 : Int32)), oI ((((p1.toInt64) &&& (2147483647 : Int64)) - ((p1.toInt64) &&& (2147483647 : Int64)) / (((p0 &&& (2147483647 : Int32)).toInt64) + (1 : Int64)) * (((p0 &&& (2147483647 : Int32)).toInt64) + (1 : Int64))).toInt32), oI (1 : Int32), oR a23, .unset, .unset, .unset, .unset, .unset, .unset, .unset] []))
    obtain ⟨T27, h27, X27, e27, E27, A27, D27, -, st27⟩ := newO X23 hx hZ hown (own_w hw 28) (own_w hw 29) (own_w hw 30) rfl (g := (mkF m 45 #[oI p0, oI p1, oI p2, oI p3, oI (p0 &&& (2147483647 : Int32)), oI ((((p1.toInt64) &&& (2147483647 : Int64)) - ((p1.toInt64) &&& (2147483647 : Int64)) / (((p0 &&& (2147483647 : Int32)).toInt64) + (1 : Int64)) * (((p0 &&& (2147483647 : Int32)).toInt64) + (1 : Int64))).toInt32), oI (1 : Int32), oR a23, .unset, .unset, .unset, .unset, .unset, .unset, .unset] [])) rfl (hb hby at_45) (by decide) (by decide)
    obtain ⟨a27, g27⟩ : ∃ z, z = T23.heap.size := ⟨_, rfl⟩
    rw [← g27] at A27 D27 st27
    refine own_via st27 ?_
    have fr28 : n0 ≤ a27 := Nat.le_trans Zs26 (Nat.le_of_eq g27.symm)
    have Zs29 : n0 ≤ h27.size := Nat.le_trans Zs26 E27.1
    have F30 : Fld Z h27 a27 "com/example/eurycleia/eurycleia/html/Block" "text" "Ljava/lang/String;" .null := D27 (Or.inr (own_w hw 41)) (ty := (.object "java/lang/String")) (by decide)
    have F31 : Fld Z h27 a27 "com/example/eurycleia/eurycleia/html/Block" "chars" "I" (.int (0 : Int32)) := D27 (Or.inr (own_w hw 43)) (ty := .int) (by decide)
    have F32 : Fld Z h27 a27 "com/example/eurycleia/eurycleia/html/Block" "linkChars" "I" (.int (0 : Int32)) := D27 (Or.inr (own_w hw 45)) (ty := .int) (by decide)
    have F33 : Fld Z h27 a27 "com/example/eurycleia/eurycleia/html/Block" "inFurniture" "Z" (.int (0 : Int32)) := D27 (Or.inr (own_w hw 47)) (ty := .boolean) (by decide)
    show own_Go p e below _ (T27.setTop (mkF m 48 #[oI p0, oI p1, oI p2, oI p3, oI (p0 &&& (2147483647 : Int32)), oI ((((p1.toInt64) &&& (2147483647 : Int64)) - ((p1.toInt64) &&& (2147483647 : Int64)) / (((p0 &&& (2147483647 : Int32)).toInt64) + (1 : Int64)) * (((p0 &&& (2147483647 : Int32)).toInt64) + (1 : Int64))).toInt32), oI (1 : Int32), oR a23, .unset, .unset, .unset, .unset, .unset, .unset, .unset] [(.ref a27)]))
    refine own_via (fun t kz => XS.dup X27.here hx rfl (hb hby at_48) rfl rfl kz) ?_
    show own_Go p e below _ (T27.setTop (mkF m 49 #[oI p0, oI p1, oI p2, oI p3, oI (p0 &&& (2147483647 : Int32)), oI ((((p1.toInt64) &&& (2147483647 : Int64)) - ((p1.toInt64) &&& (2147483647 : Int64)) / (((p0 &&& (2147483647 : Int32)).toInt64) + (1 : Int64)) * (((p0 &&& (2147483647 : Int32)).toInt64) + (1 : Int64))).toInt32), oI (1 : Int32), oR a23, .unset, .unset, .unset, .unset, .unset, .unset, .unset] [(.ref a27), (.ref a27)]))
    refine own_via (fun t kz => XS.aload X27.here hx rfl (hb hby at_49) rfl rfl kz) ?_
    show own_Go p e below _ (T27.setTop (mkF m 51 #[oI p0, oI p1, oI p2, oI p3, oI (p0 &&& (2147483647 : Int32)), oI ((((p1.toInt64) &&& (2147483647 : Int64)) - ((p1.toInt64) &&& (2147483647 : Int64)) / (((p0 &&& (2147483647 : Int32)).toInt64) + (1 : Int64)) * (((p0 &&& (2147483647 : Int32)).toInt64) + (1 : Int64))).toInt32), oI (1 : Int32), oR a23, .unset, .unset, .unset, .unset, .unset, .unset, .unset] [(.ref a23), (.ref a27), (.ref a27)]))
    refine own_via (fun t kz => XS.iload X27.here hx rfl (hb hby at_51) rfl kz) ?_
    show own_Go p e below _ (T27.setTop (mkF m 53 #[oI p0, oI p1, oI p2, oI p3, oI (p0 &&& (2147483647 : Int32)), oI ((((p1.toInt64) &&& (2147483647 : Int64)) - ((p1.toInt64) &&& (2147483647 : Int64)) / (((p0 &&& (2147483647 : Int32)).toInt64) + (1 : Int64)) * (((p0 &&& (2147483647 : Int32)).toInt64) + (1 : Int64))).toInt32), oI (1 : Int32), oR a23, .unset, .unset, .unset, .unset, .unset, .unset, .unset] [(.int (p0 &&& (2147483647 : Int32))), (.ref a23), (.ref a27), (.ref a27)]))
    refine own_via (fun t kz => XS.iload X27.here hx rfl (hb hby at_53) rfl kz) ?_
    show own_Go p e below _ (T27.setTop (mkF m 55 #[oI p0, oI p1, oI p2, oI p3, oI (p0 &&& (2147483647 : Int32)), oI ((((p1.toInt64) &&& (2147483647 : Int64)) - ((p1.toInt64) &&& (2147483647 : Int64)) / (((p0 &&& (2147483647 : Int32)).toInt64) + (1 : Int64)) * (((p0 &&& (2147483647 : Int32)).toInt64) + (1 : Int64))).toInt32), oI (1 : Int32), oR a23, .unset, .unset, .unset, .unset, .unset, .unset, .unset] [(.int ((((p1.toInt64) &&& (2147483647 : Int64)) - ((p1.toInt64) &&& (2147483647 : Int64)) / (((p0 &&& (2147483647 : Int32)).toInt64) + (1 : Int64)) * (((p0 &&& (2147483647 : Int32)).toInt64) + (1 : Int64))).toInt32)), (.int (p0 &&& (2147483647 : Int32))), (.ref a23), (.ref a27), (.ref a27)]))
    refine own_via (fun t kz => XS.iload X27.here hx rfl (hb hby at_55) rfl kz) ?_
    show own_Go p e below _ (T27.setTop (mkF m 57 #[oI p0, oI p1, oI p2, oI p3, oI (p0 &&& (2147483647 : Int32)), oI ((((p1.toInt64) &&& (2147483647 : Int64)) - ((p1.toInt64) &&& (2147483647 : Int64)) / (((p0 &&& (2147483647 : Int32)).toInt64) + (1 : Int64)) * (((p0 &&& (2147483647 : Int32)).toInt64) + (1 : Int64))).toInt32), oI (1 : Int32), oR a23, .unset, .unset, .unset, .unset, .unset, .unset, .unset] [(.int (1 : Int32)), (.int ((((p1.toInt64) &&& (2147483647 : Int64)) - ((p1.toInt64) &&& (2147483647 : Int64)) / (((p0 &&& (2147483647 : Int32)).toInt64) + (1 : Int64)) * (((p0 &&& (2147483647 : Int32)).toInt64) + (1 : Int64))).toInt32)), (.int (p0 &&& (2147483647 : Int32))), (.ref a23), (.ref a27), (.ref a27)]))
    obtain ⟨_, _, ⟨T34, L34, k34, n34⟩, -, X34, ⟨Lc34, hQ34, l34, y34, z34⟩, st34⟩ := X27.specialBack hx (y := (⟨"com/example/eurycleia/eurycleia/html/Block", "<init>", "(Ljava/lang/String;IIZ)V"⟩ : MethodName)) rfl hown (mvT hZ (own_w hw 31)) (mvT hZ (own_w hw 32)) (mvT hZ (own_w hw 33)) (by decide) (backOf (W := 1) (rm6 l Z a0 hw [] a27 a23 (p0 &&& (2147483647 : Int32)) ((((p1.toInt64) &&& (2147483647 : Int64)) - ((p1.toInt64) &&& (2147483647 : Int64)) / (((p0 &&& (2147483647 : Int32)).toInt64) + (1 : Int64)) * (((p0 &&& (2147483647 : Int32)).toInt64) + (1 : Int64))).toInt32) (1 : Int32) h27 n0 Zs29 fr28 A27 F30 F31 F32 F33 rfl rfl) hZ (own_w hw 33) (own_w hw 30) (by decide) (by decide)) (g := (mkF m 57 #[oI p0, oI p1, oI p2, oI p3, oI (p0 &&& (2147483647 : Int32)), oI ((((p1.toInt64) &&& (2147483647 : Int64)) - ((p1.toInt64) &&& (2147483647 : Int64)) / (((p0 &&& (2147483647 : Int32)).toInt64) + (1 : Int64)) * (((p0 &&& (2147483647 : Int32)).toInt64) + (1 : Int64))).toInt32), oI (1 : Int32), oR a23, .unset, .unset, .unset, .unset, .unset, .unset, .unset] [(.int (1 : Int32)), (.int ((((p1.toInt64) &&& (2147483647 : Int64)) - ((p1.toInt64) &&& (2147483647 : Int64)) / (((p0 &&& (2147483647 : Int32)).toInt64) + (1 : Int64)) * (((p0 &&& (2147483647 : Int32)).toInt64) + (1 : Int64))).toInt32)), (.int (p0 &&& (2147483647 : Int32))), (.ref a23), (.ref a27), (.ref a27)])) rfl (by rw [hml]; rfl) (Steps.refl _) (a := a27) (argsL := [(.ref a23), (.int (p0 &&& (2147483647 : Int32))), (.int ((((p1.toInt64) &&& (2147483647 : Int64)) - ((p1.toInt64) &&& (2147483647 : Int64)) / (((p0 &&& (2147483647 : Int32)).toInt64) + (1 : Int64)) * (((p0 &&& (2147483647 : Int32)).toInt64) + (1 : Int64))).toInt32)), (.int (1 : Int32))]) (rest := [(.ref a27)]) (lenOf pd_0_1 rfl) rfl (by show 2 * 0 + _ ≤ _; exact Nat.le_of_eq rfl) (hb hby at_57) (fun _ _ => ⟨rfl, e27, (by decide : 3 + 0 ≤ _), (by decide : 9 + 0 ≤ _)⟩)
    dsimp only [Pt.U, Pt.locs, Pt.cells, Pt.slots] at X34 l34 y34 z34 st34 hQ34
    subst l34 y34 z34
    obtain ⟨rfl, Nq34, Kc34, Fc0_34, Fc1_34, Fc2_34⟩ := hQ34
    have N35 := Fr.app N24 Nq34
    refine own_tr st34 ?_
    have E36 := A27.keep Kc34
    have Zs37 : n0 ≤ T34.heap.size := Nat.le_trans Zs29 Kc34.1
    show own_Go p e below _ (T34.setTop (mkF m 60 #[oI p0, oI p1, oI p2, oI p3, oI (p0 &&& (2147483647 : Int32)), oI ((((p1.toInt64) &&& (2147483647 : Int64)) - ((p1.toInt64) &&& (2147483647 : Int64)) / (((p0 &&& (2147483647 : Int32)).toInt64) + (1 : Int64)) * (((p0 &&& (2147483647 : Int32)).toInt64) + (1 : Int64))).toInt32), oI (1 : Int32), oR a23, .unset, .unset, .unset, .unset, .unset, .unset, .unset] [(.ref a27)]))
    refine own_via (fun t kz => XS.astore X34.here hx rfl (hb hby at_60) rfl rfl (l' := #[oI p0, oI p1, oI p2, oI p3, oI (p0 &&& (2147483647 : Int32)), oI ((((p1.toInt64) &&& (2147483647 : Int64)) - ((p1.toInt64) &&& (2147483647 : Int64)) / (((p0 &&& (2147483647 : Int32)).toInt64) + (1 : Int64)) * (((p0 &&& (2147483647 : Int32)).toInt64) + (1 : Int64))).toInt32), oI (1 : Int32), oR a23, oR a27, .unset, .unset, .unset, .unset, .unset, .unset]) rfl kz) ?_
    show own_Go p e below _ (T34.setTop (mkF m 62 #[oI p0, oI p1, oI p2, oI p3, oI (p0 &&& (2147483647 : Int32)), oI ((((p1.toInt64) &&& (2147483647 : Int64)) - ((p1.toInt64) &&& (2147483647 : Int64)) / (((p0 &&& (2147483647 : Int32)).toInt64) + (1 : Int64)) * (((p0 &&& (2147483647 : Int32)).toInt64) + (1 : Int64))).toInt32), oI (1 : Int32), oR a23, oR a27, .unset, .unset, .unset, .unset, .unset, .unset] []))
    refine own_via (fun t kz => XS.aload X34.here hx rfl (hb hby at_62) rfl rfl kz) ?_
    show own_Go p e below _ (T34.setTop (mkF m 64 #[oI p0, oI p1, oI p2, oI p3, oI (p0 &&& (2147483647 : Int32)), oI ((((p1.toInt64) &&& (2147483647 : Int64)) - ((p1.toInt64) &&& (2147483647 : Int64)) / (((p0 &&& (2147483647 : Int32)).toInt64) + (1 : Int64)) * (((p0 &&& (2147483647 : Int32)).toInt64) + (1 : Int64))).toInt32), oI (1 : Int32), oR a23, oR a27, .unset, .unset, .unset, .unset, .unset, .unset] [(.ref a27)]))
    obtain ⟨cq38, kq38, qa38, qb38, qc38⟩ := isOf hZ rfl E36
    obtain ⟨_, _, ⟨T38, L38, k38, n38⟩, -, X38, ⟨Lc38, hQ38, l38, y38, z38⟩, st38⟩ := X34.virtualBack hx (y := (⟨"com/example/eurycleia/eurycleia/html/Block", "weight", "()D"⟩ : MethodName)) (z := (⟨"com/example/eurycleia/eurycleia/html/Block", "weight", "()D"⟩ : MethodName)) hown (mvT hZ (own_w hw 48)) (mvT hZ (own_w hw 49)) (notFace_of_selects (args := #[]) (mvT hZ (own_w hw 51))) (mvT hZ (own_w hw 51)) (mvT hZ (own_w hw 50)) (by decide) (backOf (W := 0) (rm8 l Z a0 hw [] a27 (p0 &&& (2147483647 : Int32)) ((((p1.toInt64) &&& (2147483647 : Int64)) - ((p1.toInt64) &&& (2147483647 : Int64)) / (((p0 &&& (2147483647 : Int32)).toInt64) + (1 : Int64)) * (((p0 &&& (2147483647 : Int32)).toInt64) + (1 : Int64))).toInt32) (1 : Int32) (FP.l2d ((-(p0 &&& (2147483647 : Int32))).toInt64)) T34.heap n0 Zs37 Fc0_34 Fc1_34 Fc2_34 (by unfold f8; rw [if_neg (by decide : ¬ ((1 : Int32) = (0 : Int32)))])) hZ (own_w hw 52) (own_w hw 30) (by decide) (by decide)) qa38 qc38 (g := (mkF m 64 #[oI p0, oI p1, oI p2, oI p3, oI (p0 &&& (2147483647 : Int32)), oI ((((p1.toInt64) &&& (2147483647 : Int64)) - ((p1.toInt64) &&& (2147483647 : Int64)) / (((p0 &&& (2147483647 : Int32)).toInt64) + (1 : Int64)) * (((p0 &&& (2147483647 : Int32)).toInt64) + (1 : Int64))).toInt32), oI (1 : Int32), oR a23, oR a27, .unset, .unset, .unset, .unset, .unset, .unset] [(.ref a27)])) rfl (by rw [hml]; rfl) (Steps.refl _) (argsL := []) (rest := []) (lenOf pd_0_2 rfl) rfl (by show 2 * 0 + _ ≤ _; exact Nat.le_of_eq rfl) (hb hby at_64) (fun _ _ => ⟨rfl, rfl, (by decide : 3 + 0 ≤ _), (by decide : 9 + 0 ≤ _)⟩)
    dsimp only [Pt.U, Pt.locs, Pt.cells, Pt.slots] at X38 l38 y38 z38 st38 hQ38
    subst l38 y38 z38
    obtain ⟨rfl, Nq38, e38⟩ := hQ38
    have N39 := Fr.app N35 Nq38
    refine own_tr st38 ?_
    show own_Go p e below _ (T38.setTop (mkF m 67 #[oI p0, oI p1, oI p2, oI p3, oI (p0 &&& (2147483647 : Int32)), oI ((((p1.toInt64) &&& (2147483647 : Int64)) - ((p1.toInt64) &&& (2147483647 : Int64)) / (((p0 &&& (2147483647 : Int32)).toInt64) + (1 : Int64)) * (((p0 &&& (2147483647 : Int32)).toInt64) + (1 : Int64))).toInt32), oI (1 : Int32), oR a23, oR a27, .unset, .unset, .unset, .unset, .unset, .unset] [(.double (FP.l2d ((-(p0 &&& (2147483647 : Int32))).toInt64)))]))
    refine own_via (fun t kz => XS.dstore X38.here hx rfl (hb hby at_67) rfl (l' := #[oI p0, oI p1, oI p2, oI p3, oI (p0 &&& (2147483647 : Int32)), oI ((((p1.toInt64) &&& (2147483647 : Int64)) - ((p1.toInt64) &&& (2147483647 : Int64)) / (((p0 &&& (2147483647 : Int32)).toInt64) + (1 : Int64)) * (((p0 &&& (2147483647 : Int32)).toInt64) + (1 : Int64))).toInt32), oI (1 : Int32), oR a23, oR a27, oD (FP.l2d ((-(p0 &&& (2147483647 : Int32))).toInt64)), .second, .unset, .unset, .unset, .unset]) rfl kz) ?_
    show own_Go p e below _ (T38.setTop (mkF m 69 #[oI p0, oI p1, oI p2, oI p3, oI (p0 &&& (2147483647 : Int32)), oI ((((p1.toInt64) &&& (2147483647 : Int64)) - ((p1.toInt64) &&& (2147483647 : Int64)) / (((p0 &&& (2147483647 : Int32)).toInt64) + (1 : Int64)) * (((p0 &&& (2147483647 : Int32)).toInt64) + (1 : Int64))).toInt32), oI (1 : Int32), oR a23, oR a27, oD (FP.l2d ((-(p0 &&& (2147483647 : Int32))).toInt64)), .second, .unset, .unset, .unset, .unset] []))
    refine own_via (fun t kz => XS.iload X38.here hx rfl (hb hby at_69) rfl kz) ?_
    show own_Go p e below _ (T38.setTop (mkF m 71 #[oI p0, oI p1, oI p2, oI p3, oI (p0 &&& (2147483647 : Int32)), oI ((((p1.toInt64) &&& (2147483647 : Int64)) - ((p1.toInt64) &&& (2147483647 : Int64)) / (((p0 &&& (2147483647 : Int32)).toInt64) + (1 : Int64)) * (((p0 &&& (2147483647 : Int32)).toInt64) + (1 : Int64))).toInt32), oI (1 : Int32), oR a23, oR a27, oD (FP.l2d ((-(p0 &&& (2147483647 : Int32))).toInt64)), .second, .unset, .unset, .unset, .unset] [(.int (1 : Int32))]))
    refine own_via (fun t kz => XS.ifNo X38.here hx rfl (hb hby at_71) rfl ((if0 _ _).trans (feq (by decide : ¬ ((1 : Int32) = (0 : Int32)))).1) kz) ?_
    show own_Go p e below _ (T38.setTop (mkF m 74 #[oI p0, oI p1, oI p2, oI p3, oI (p0 &&& (2147483647 : Int32)), oI ((((p1.toInt64) &&& (2147483647 : Int64)) - ((p1.toInt64) &&& (2147483647 : Int64)) / (((p0 &&& (2147483647 : Int32)).toInt64) + (1 : Int64)) * (((p0 &&& (2147483647 : Int32)).toInt64) + (1 : Int64))).toInt32), oI (1 : Int32), oR a23, oR a27, oD (FP.l2d ((-(p0 &&& (2147483647 : Int32))).toInt64)), .second, .unset, .unset, .unset, .unset] []))
    refine own_via (fun t kz => XS.lconst X38.here hx rfl (hb hby at_74) kz) ?_
    show own_Go p e below _ (T38.setTop (mkF m 75 #[oI p0, oI p1, oI p2, oI p3, oI (p0 &&& (2147483647 : Int32)), oI ((((p1.toInt64) &&& (2147483647 : Int64)) - ((p1.toInt64) &&& (2147483647 : Int64)) / (((p0 &&& (2147483647 : Int32)).toInt64) + (1 : Int64)) * (((p0 &&& (2147483647 : Int32)).toInt64) + (1 : Int64))).toInt32), oI (1 : Int32), oR a23, oR a27, oD (FP.l2d ((-(p0 &&& (2147483647 : Int32))).toInt64)), .second, .unset, .unset, .unset, .unset] [(.long (0 : Int64))]))
    refine own_via (fun t kz => XS.iload X38.here hx rfl (hb hby at_75) rfl kz) ?_
    show own_Go p e below _ (T38.setTop (mkF m 77 #[oI p0, oI p1, oI p2, oI p3, oI (p0 &&& (2147483647 : Int32)), oI ((((p1.toInt64) &&& (2147483647 : Int64)) - ((p1.toInt64) &&& (2147483647 : Int64)) / (((p0 &&& (2147483647 : Int32)).toInt64) + (1 : Int64)) * (((p0 &&& (2147483647 : Int32)).toInt64) + (1 : Int64))).toInt32), oI (1 : Int32), oR a23, oR a27, oD (FP.l2d ((-(p0 &&& (2147483647 : Int32))).toInt64)), .second, .unset, .unset, .unset, .unset] [(.int (p0 &&& (2147483647 : Int32))), (.long (0 : Int64))]))
    refine own_via (fun t kz => XS.i2l X38.here hx rfl (hb hby at_77) rfl kz) ?_
    show own_Go p e below _ (T38.setTop (mkF m 78 #[oI p0, oI p1, oI p2, oI p3, oI (p0 &&& (2147483647 : Int32)), oI ((((p1.toInt64) &&& (2147483647 : Int64)) - ((p1.toInt64) &&& (2147483647 : Int64)) / (((p0 &&& (2147483647 : Int32)).toInt64) + (1 : Int64)) * (((p0 &&& (2147483647 : Int32)).toInt64) + (1 : Int64))).toInt32), oI (1 : Int32), oR a23, oR a27, oD (FP.l2d ((-(p0 &&& (2147483647 : Int32))).toInt64)), .second, .unset, .unset, .unset, .unset] [(.long ((p0 &&& (2147483647 : Int32)).toInt64)), (.long (0 : Int64))]))
    refine own_via (fun t kz => XS.lsub X38.here hx rfl (hb hby at_78) rfl kz) ?_
    show own_Go p e below _ (T38.setTop (mkF m 79 #[oI p0, oI p1, oI p2, oI p3, oI (p0 &&& (2147483647 : Int32)), oI ((((p1.toInt64) &&& (2147483647 : Int64)) - ((p1.toInt64) &&& (2147483647 : Int64)) / (((p0 &&& (2147483647 : Int32)).toInt64) + (1 : Int64)) * (((p0 &&& (2147483647 : Int32)).toInt64) + (1 : Int64))).toInt32), oI (1 : Int32), oR a23, oR a27, oD (FP.l2d ((-(p0 &&& (2147483647 : Int32))).toInt64)), .second, .unset, .unset, .unset, .unset] [(.long ((0 : Int64) - ((p0 &&& (2147483647 : Int32)).toInt64)))]))
    refine own_via (fun t kz => XS.l2dS X38.here hx rfl (hb hby at_79) rfl rfl kz) ?_
    show own_Go p e below _ (T38.setTop (mkF m 80 #[oI p0, oI p1, oI p2, oI p3, oI (p0 &&& (2147483647 : Int32)), oI ((((p1.toInt64) &&& (2147483647 : Int64)) - ((p1.toInt64) &&& (2147483647 : Int64)) / (((p0 &&& (2147483647 : Int32)).toInt64) + (1 : Int64)) * (((p0 &&& (2147483647 : Int32)).toInt64) + (1 : Int64))).toInt32), oI (1 : Int32), oR a23, oR a27, oD (FP.l2d ((-(p0 &&& (2147483647 : Int32))).toInt64)), .second, .unset, .unset, .unset, .unset] [(.double (FP.l2d ((0 : Int64) - ((p0 &&& (2147483647 : Int32)).toInt64))))]))
    refine own_via (fun t kz => XS.dstore X38.here hx rfl (hb hby at_80) rfl (l' := #[oI p0, oI p1, oI p2, oI p3, oI (p0 &&& (2147483647 : Int32)), oI ((((p1.toInt64) &&& (2147483647 : Int64)) - ((p1.toInt64) &&& (2147483647 : Int64)) / (((p0 &&& (2147483647 : Int32)).toInt64) + (1 : Int64)) * (((p0 &&& (2147483647 : Int32)).toInt64) + (1 : Int64))).toInt32), oI (1 : Int32), oR a23, oR a27, oD (FP.l2d ((-(p0 &&& (2147483647 : Int32))).toInt64)), .second, oD (FP.l2d ((0 : Int64) - ((p0 &&& (2147483647 : Int32)).toInt64))), .second, .unset, .unset]) rfl kz) ?_
    show own_Go p e below _ (T38.setTop (mkF m 82 #[oI p0, oI p1, oI p2, oI p3, oI (p0 &&& (2147483647 : Int32)), oI ((((p1.toInt64) &&& (2147483647 : Int64)) - ((p1.toInt64) &&& (2147483647 : Int64)) / (((p0 &&& (2147483647 : Int32)).toInt64) + (1 : Int64)) * (((p0 &&& (2147483647 : Int32)).toInt64) + (1 : Int64))).toInt32), oI (1 : Int32), oR a23, oR a27, oD (FP.l2d ((-(p0 &&& (2147483647 : Int32))).toInt64)), .second, oD (FP.l2d ((0 : Int64) - ((p0 &&& (2147483647 : Int32)).toInt64))), .second, .unset, .unset] []))
    refine own_via (fun t kz => XS.dload X38.here hx rfl (hb hby at_82) rfl kz) ?_
    show own_Go p e below _ (T38.setTop (mkF m 84 #[oI p0, oI p1, oI p2, oI p3, oI (p0 &&& (2147483647 : Int32)), oI ((((p1.toInt64) &&& (2147483647 : Int64)) - ((p1.toInt64) &&& (2147483647 : Int64)) / (((p0 &&& (2147483647 : Int32)).toInt64) + (1 : Int64)) * (((p0 &&& (2147483647 : Int32)).toInt64) + (1 : Int64))).toInt32), oI (1 : Int32), oR a23, oR a27, oD (FP.l2d ((-(p0 &&& (2147483647 : Int32))).toInt64)), .second, oD (FP.l2d ((0 : Int64) - ((p0 &&& (2147483647 : Int32)).toInt64))), .second, .unset, .unset] [(.double (FP.l2d ((-(p0 &&& (2147483647 : Int32))).toInt64)))]))
    refine own_via (fun t kz => XS.dload X38.here hx rfl (hb hby at_84) rfl kz) ?_
    show own_Go p e below _ (T38.setTop (mkF m 86 #[oI p0, oI p1, oI p2, oI p3, oI (p0 &&& (2147483647 : Int32)), oI ((((p1.toInt64) &&& (2147483647 : Int64)) - ((p1.toInt64) &&& (2147483647 : Int64)) / (((p0 &&& (2147483647 : Int32)).toInt64) + (1 : Int64)) * (((p0 &&& (2147483647 : Int32)).toInt64) + (1 : Int64))).toInt32), oI (1 : Int32), oR a23, oR a27, oD (FP.l2d ((-(p0 &&& (2147483647 : Int32))).toInt64)), .second, oD (FP.l2d ((0 : Int64) - ((p0 &&& (2147483647 : Int32)).toInt64))), .second, .unset, .unset] [(.double (FP.l2d ((0 : Int64) - ((p0 &&& (2147483647 : Int32)).toInt64)))), (.double (FP.l2d ((-(p0 &&& (2147483647 : Int32))).toInt64)))]))
    refine own_via (fun t kz => XS.dcmpS X38.here hx rfl (hb hby at_86) rfl (dcmpV_w (own_b53i _) (own_b53n (p0 &&& (2147483647 : Int32))) .l) kz) ?_
    show own_Go p e below _ (T38.setTop (mkF m 87 #[oI p0, oI p1, oI p2, oI p3, oI (p0 &&& (2147483647 : Int32)), oI ((((p1.toInt64) &&& (2147483647 : Int64)) - ((p1.toInt64) &&& (2147483647 : Int64)) / (((p0 &&& (2147483647 : Int32)).toInt64) + (1 : Int64)) * (((p0 &&& (2147483647 : Int32)).toInt64) + (1 : Int64))).toInt32), oI (1 : Int32), oR a23, oR a27, oD (FP.l2d ((-(p0 &&& (2147483647 : Int32))).toInt64)), .second, oD (FP.l2d ((0 : Int64) - ((p0 &&& (2147483647 : Int32)).toInt64))), .second, .unset, .unset] [(.int (lcmpW ((-(p0 &&& (2147483647 : Int32))).toInt64) ((0 : Int64) - ((p0 &&& (2147483647 : Int32)).toInt64))))]))
    by_cases hc87_40 : ((-(p0 &&& (2147483647 : Int32))).toInt64) = ((0 : Int64) - ((p0 &&& (2147483647 : Int32)).toInt64))
    · refine own_via (fun t kz => XS.ifNo X38.here hx rfl (hb hby at_87) rfl ((if0 _ _).trans (teq ((lw_eq _ _).mpr hc87_40)).2) kz) ?_
      show own_Go p e below _ (T38.setTop (mkF m 90 #[oI p0, oI p1, oI p2, oI p3, oI (p0 &&& (2147483647 : Int32)), oI ((((p1.toInt64) &&& (2147483647 : Int64)) - ((p1.toInt64) &&& (2147483647 : Int64)) / (((p0 &&& (2147483647 : Int32)).toInt64) + (1 : Int64)) * (((p0 &&& (2147483647 : Int32)).toInt64) + (1 : Int64))).toInt32), oI (1 : Int32), oR a23, oR a27, oD (FP.l2d ((-(p0 &&& (2147483647 : Int32))).toInt64)), .second, oD (FP.l2d ((0 : Int64) - ((p0 &&& (2147483647 : Int32)).toInt64))), .second, .unset, .unset] []))
      refine own_via (fun t kz => XS.dload X38.here hx rfl (hb hby at_90) rfl kz) ?_
      show own_Go p e below _ (T38.setTop (mkF m 92 #[oI p0, oI p1, oI p2, oI p3, oI (p0 &&& (2147483647 : Int32)), oI ((((p1.toInt64) &&& (2147483647 : Int64)) - ((p1.toInt64) &&& (2147483647 : Int64)) / (((p0 &&& (2147483647 : Int32)).toInt64) + (1 : Int64)) * (((p0 &&& (2147483647 : Int32)).toInt64) + (1 : Int64))).toInt32), oI (1 : Int32), oR a23, oR a27, oD (FP.l2d ((-(p0 &&& (2147483647 : Int32))).toInt64)), .second, oD (FP.l2d ((0 : Int64) - ((p0 &&& (2147483647 : Int32)).toInt64))), .second, .unset, .unset] [(.double (FP.l2d ((-(p0 &&& (2147483647 : Int32))).toInt64)))]))
      refine own_via (fun t kz => XS.dconst0 X38.here hx rfl (hb hby at_92) (v := (FP.l2d (0 : Int64))) own_dconst0 kz) ?_
      show own_Go p e below _ (T38.setTop (mkF m 93 #[oI p0, oI p1, oI p2, oI p3, oI (p0 &&& (2147483647 : Int32)), oI ((((p1.toInt64) &&& (2147483647 : Int64)) - ((p1.toInt64) &&& (2147483647 : Int64)) / (((p0 &&& (2147483647 : Int32)).toInt64) + (1 : Int64)) * (((p0 &&& (2147483647 : Int32)).toInt64) + (1 : Int64))).toInt32), oI (1 : Int32), oR a23, oR a27, oD (FP.l2d ((-(p0 &&& (2147483647 : Int32))).toInt64)), .second, oD (FP.l2d ((0 : Int64) - ((p0 &&& (2147483647 : Int32)).toInt64))), .second, .unset, .unset] [(.double (FP.l2d (0 : Int64))), (.double (FP.l2d ((-(p0 &&& (2147483647 : Int32))).toInt64)))]))
      refine own_via (fun t kz => XS.dcmpS X38.here hx rfl (hb hby at_93) rfl (dcmpV_w (own_b53i _) own_b530 .g) kz) ?_
      show own_Go p e below _ (T38.setTop (mkF m 94 #[oI p0, oI p1, oI p2, oI p3, oI (p0 &&& (2147483647 : Int32)), oI ((((p1.toInt64) &&& (2147483647 : Int64)) - ((p1.toInt64) &&& (2147483647 : Int64)) / (((p0 &&& (2147483647 : Int32)).toInt64) + (1 : Int64)) * (((p0 &&& (2147483647 : Int32)).toInt64) + (1 : Int64))).toInt32), oI (1 : Int32), oR a23, oR a27, oD (FP.l2d ((-(p0 &&& (2147483647 : Int32))).toInt64)), .second, oD (FP.l2d ((0 : Int64) - ((p0 &&& (2147483647 : Int32)).toInt64))), .second, .unset, .unset] [(.int (lcmpW ((-(p0 &&& (2147483647 : Int32))).toInt64) (0 : Int64)))]))
      by_cases hc94_41 : (0 : Int64) < ((-(p0 &&& (2147483647 : Int32))).toInt64)
      · refine own_via (fun t kz => XS.ifYes X38.here hx rfl (pc0 := 94) (pc' := 101) rfl (hb hby at_94) rfl ((if0 _ _).trans (tlt ((lw_gt _ _).mpr hc94_41)).2.2.1) (by decide) (by decide) kz) ?_
        show own_Go p e below _ (T38.setTop (mkF m 101 #[oI p0, oI p1, oI p2, oI p3, oI (p0 &&& (2147483647 : Int32)), oI ((((p1.toInt64) &&& (2147483647 : Int64)) - ((p1.toInt64) &&& (2147483647 : Int64)) / (((p0 &&& (2147483647 : Int32)).toInt64) + (1 : Int64)) * (((p0 &&& (2147483647 : Int32)).toInt64) + (1 : Int64))).toInt32), oI (1 : Int32), oR a23, oR a27, oD (FP.l2d ((-(p0 &&& (2147483647 : Int32))).toInt64)), .second, oD (FP.l2d ((0 : Int64) - ((p0 &&& (2147483647 : Int32)).toInt64))), .second, .unset, .unset] []))
        refine own_via (fun t kz => XS.iconst X38.here hx rfl (hb hby at_101) kz) ?_
        show own_Go p e below _ (T38.setTop (mkF m 102 #[oI p0, oI p1, oI p2, oI p3, oI (p0 &&& (2147483647 : Int32)), oI ((((p1.toInt64) &&& (2147483647 : Int64)) - ((p1.toInt64) &&& (2147483647 : Int64)) / (((p0 &&& (2147483647 : Int32)).toInt64) + (1 : Int64)) * (((p0 &&& (2147483647 : Int32)).toInt64) + (1 : Int64))).toInt32), oI (1 : Int32), oR a23, oR a27, oD (FP.l2d ((-(p0 &&& (2147483647 : Int32))).toInt64)), .second, oD (FP.l2d ((0 : Int64) - ((p0 &&& (2147483647 : Int32)).toInt64))), .second, .unset, .unset] [(.int (0 : Int32))]))
        have hv : f0 p0 p1 p2 = (0 : Int32) := by unfold f0; rw [if_neg hc24_1, if_pos hc87_40, if_pos hc94_41]
        exact absurd ((own_plain p0 p1 p2 ).symm.trans hv) (by decide)
      · refine own_via (fun t kz => XS.ifNo X38.here hx rfl (hb hby at_94) rfl ((if0 _ _).trans (flt (fun q => hc94_41 ((lw_gt _ _).mp q))).2.2.1) kz) ?_
        show own_Go p e below _ (T38.setTop (mkF m 97 #[oI p0, oI p1, oI p2, oI p3, oI (p0 &&& (2147483647 : Int32)), oI ((((p1.toInt64) &&& (2147483647 : Int64)) - ((p1.toInt64) &&& (2147483647 : Int64)) / (((p0 &&& (2147483647 : Int32)).toInt64) + (1 : Int64)) * (((p0 &&& (2147483647 : Int32)).toInt64) + (1 : Int64))).toInt32), oI (1 : Int32), oR a23, oR a27, oD (FP.l2d ((-(p0 &&& (2147483647 : Int32))).toInt64)), .second, oD (FP.l2d ((0 : Int64) - ((p0 &&& (2147483647 : Int32)).toInt64))), .second, .unset, .unset] []))
        refine own_via (fun t kz => XS.iconst X38.here hx rfl (hb hby at_97) kz) ?_
        show own_Go p e below _ (T38.setTop (mkF m 98 #[oI p0, oI p1, oI p2, oI p3, oI (p0 &&& (2147483647 : Int32)), oI ((((p1.toInt64) &&& (2147483647 : Int64)) - ((p1.toInt64) &&& (2147483647 : Int64)) / (((p0 &&& (2147483647 : Int32)).toInt64) + (1 : Int64)) * (((p0 &&& (2147483647 : Int32)).toInt64) + (1 : Int64))).toInt32), oI (1 : Int32), oR a23, oR a27, oD (FP.l2d ((-(p0 &&& (2147483647 : Int32))).toInt64)), .second, oD (FP.l2d ((0 : Int64) - ((p0 &&& (2147483647 : Int32)).toInt64))), .second, .unset, .unset] [(.int (1 : Int32))]))
        refine own_via (fun t kz => XS.goto X38.here hx rfl (pc0 := 98) (pc' := 102) rfl (hb hby at_98) (by decide) (by decide) kz) ?_
        show own_Go p e below _ (T38.setTop (mkF m 102 #[oI p0, oI p1, oI p2, oI p3, oI (p0 &&& (2147483647 : Int32)), oI ((((p1.toInt64) &&& (2147483647 : Int64)) - ((p1.toInt64) &&& (2147483647 : Int64)) / (((p0 &&& (2147483647 : Int32)).toInt64) + (1 : Int64)) * (((p0 &&& (2147483647 : Int32)).toInt64) + (1 : Int64))).toInt32), oI (1 : Int32), oR a23, oR a27, oD (FP.l2d ((-(p0 &&& (2147483647 : Int32))).toInt64)), .second, oD (FP.l2d ((0 : Int64) - ((p0 &&& (2147483647 : Int32)).toInt64))), .second, .unset, .unset] [(.int (1 : Int32))]))
        have hv : f0 p0 p1 p2 = (1 : Int32) := by unfold f0; rw [if_neg hc24_1, if_pos hc87_40, if_neg hc94_41]
        obtain ⟨fs, hr, hrun, hended, hW, hsame⟩ := X38.leave (v := some (.int (1 : Int32))) (fun h => by rw [Bd.returns] at h; cases h)
        refine ⟨_, _, retN X38 hx (t := .boolean) Bd.returns (by simp) (hb hby at_102) hr, hrun, hended, _, _, rfl, ?_, ⟨_, rfl⟩, hW, hsame.mono (by decide) (by decide)⟩
        show Q0 Z p0 p1 p2 p3 wcs h0 n0 _ T38.heap _
        rw [e38]
        exact ⟨rfl, N39⟩
    · refine own_via (fun t kz => XS.ifYes X38.here hx rfl (pc0 := 87) (pc' := 101) rfl (hb hby at_87) rfl ((if0 _ _).trans (feq (fun q => hc87_40 ((lw_eq _ _).mp q))).2) (by decide) (by decide) kz) ?_
      show own_Go p e below _ (T38.setTop (mkF m 101 #[oI p0, oI p1, oI p2, oI p3, oI (p0 &&& (2147483647 : Int32)), oI ((((p1.toInt64) &&& (2147483647 : Int64)) - ((p1.toInt64) &&& (2147483647 : Int64)) / (((p0 &&& (2147483647 : Int32)).toInt64) + (1 : Int64)) * (((p0 &&& (2147483647 : Int32)).toInt64) + (1 : Int64))).toInt32), oI (1 : Int32), oR a23, oR a27, oD (FP.l2d ((-(p0 &&& (2147483647 : Int32))).toInt64)), .second, oD (FP.l2d ((0 : Int64) - ((p0 &&& (2147483647 : Int32)).toInt64))), .second, .unset, .unset] []))
      refine own_via (fun t kz => XS.iconst X38.here hx rfl (hb hby at_101) kz) ?_
      show own_Go p e below _ (T38.setTop (mkF m 102 #[oI p0, oI p1, oI p2, oI p3, oI (p0 &&& (2147483647 : Int32)), oI ((((p1.toInt64) &&& (2147483647 : Int64)) - ((p1.toInt64) &&& (2147483647 : Int64)) / (((p0 &&& (2147483647 : Int32)).toInt64) + (1 : Int64)) * (((p0 &&& (2147483647 : Int32)).toInt64) + (1 : Int64))).toInt32), oI (1 : Int32), oR a23, oR a27, oD (FP.l2d ((-(p0 &&& (2147483647 : Int32))).toInt64)), .second, oD (FP.l2d ((0 : Int64) - ((p0 &&& (2147483647 : Int32)).toInt64))), .second, .unset, .unset] [(.int (0 : Int32))]))
      have hv : f0 p0 p1 p2 = (0 : Int32) := by unfold f0; rw [if_neg hc24_1, if_neg hc87_40]
      exact absurd ((own_plain p0 p1 p2 ).symm.trans hv) (by decide)
set_option maxRecDepth 65536 in
set_option maxHeartbeats 40000000 in
theorem comes_1 {Post : Tables → Env → Array Value → State → Outcome → State → Prop} (hpost : ∀ tb e args s v u, (limb_1_1.after args s (.returned v) u = true ∧ limb_1_2.after args s (.returned v) u = true ∧ True) → FrameEnd s (.returned v) u (Jvm.fieldLocs frame_1_writes args s ++ Jvm.arrayLocs frame_1_arrays args s ++ Jvm.staticLocs frame_1_statics s) 16 128 → Post tb e args s (.returned v) u) :
    ArmFor flags0 classFile x code maxLocals ret World_1 tables_1 room_1 Calls_1 rest_1 Pre_1 Post := by
  intro l hfl _ _ p e ha hc hk s m args below hf hA hF happ hP
  obtain ⟨hcalls, hrest, hpre⟩ := hP
  obtain ⟨-, -, -, hnamed, -, -, -, hat⟩ := (Spec.applies_iff hf).mp happ
  obtain ⟨hg, hn⟩ := and_e (Cond.before_iff.mp (show (Jvm.Cond.and given_1 narrow_1).before args s = true from hpre))
  obtain ⟨g1, g2⟩ := and_e hg
  obtain ⟨g3, g4⟩ := and_e g2
  obtain ⟨g5, g6⟩ := and_e g4
  obtain ⟨g7, g8⟩ := and_e g6
  obtain ⟨w0, w1, w2, w3, rfl⟩ : ∃ w0 w1 w2 w3 : Value, args = #[w0, w1, w2, w3] := by
    have hs : args.size = 4 := by simpa [Cond.value, given_1] using g1
    obtain ⟨L⟩ := args
    match L, hs with
    | [w0, w1, w2, w3], _ => exact ⟨w0, w1, w2, w3, rfl⟩
  obtain ⟨hsets, hown0⟩ := atoms_of _ (rest_1_c_eq ▸ (show rest_1_c.before _ s = true from hrest))
  have hw := fun d (hd : d ∈ tables_1) => atoms_spec (ws := Jvm.Cond.code x code maxLocals ret :: tables_1) hat d (List.mem_cons_of_mem _ hd)
  obtain ⟨i0, ei0⟩ := is_v g3
  obtain rfl : w0 = (.int i0) := Option.some.inj ei0
  obtain ⟨i1, ei1⟩ := is_v g5
  obtain rfl : w1 = (.int i1) := Option.some.inj ei1
  obtain ⟨i2, ei2⟩ := is_v g7
  obtain rfl : w2 = (.int i2) := Option.some.inj ei2
  obtain ⟨i3, ei3⟩ := is_v g8
  obtain rfl : w3 = (.int i3) := Option.some.inj ei3
  obtain ⟨vcs, evcs⟩ := is_v (Cond.before_iff.mp (hsets _ (List.mem_of_getElem? (i := 1) rfl)))
  have S_cs := Sta.start evcs (Or.inl (hsets _ (List.mem_of_getElem? (i := 0) rfl)))
  have hcs : ¬ (vcs = (0 : Int32)) := own_ne0 evcs (Cond.before_iff.mp (hsets _ (List.mem_of_getElem? (i := 2) rfl)))
  obtain ⟨n, o, h1, h2, h3, _, L, rfl, ⟨rfl, N⟩, hq⟩ := rm0 l s _ hw tables_1 i0 i1 i2 i3 vcs s.heap s.heap.size (Nat.le_refl _) S_cs hcs p e ha hc hk s m _ below hf ((Spec.applies_iff_loose hf).mp happ).1 ⟨rfl, State.Warmed39.refl s, rfl⟩ trivial
  refine ⟨n, _, h1, h2, h3, hpost _ _ _ _ _ _ ⟨Cond.after_iff.mpr rfl, Cond.after_iff.mpr (eq_i res_at (Term.int_eval (1)) rfl), trivial⟩ ⟨hq.1, hq.2.1, (hq.2.2.sift fun y hy => Or.inr (N y hy)).mono (by decide) (by decide)⟩⟩
theorem main_1_1 : Claimed_1_1 := comes_1 fun _ _ _ _ _ _ h hF => ⟨h.1, hF⟩
theorem main_1_2 : Claimed_1_2 := comes_1 fun _ _ _ _ _ _ h hF => ⟨h.2.1, hF⟩
end Jvm.Pilot.@@N@@
namespace Jvm.Pilot.@@N@@
open Jvm Jvm.ClassFile Sem Op Lib Jvm.Free Jvm.Stand Jvm.Pilot.@@N@@.Jvm.D
/-! MADE BY PROGRAM (witnessworld.py) out of the Statement's table words and the real class files: 18 classes; the members and pool entries that the words name. The judged class is class 1, her method 1. -/
namespace start1
open Jvm.ClassFile
def u (s : String) : CpInfo := .utf8 (stringToUtf16 s)
/-- a pool by its gaps: so many unusable entries, then the entry; so many at the end -/
def gap : Nat → List CpInfo → List CpInfo
  | 0, r => r
  | n + 1, r => .unusable :: gap n r
def poolList (es : List (Nat × CpInfo)) (last : Nat) : List CpInfo := es.foldr (fun e r => gap e.1 (e.2 :: r)) (gap last [])
def pool (es : List (Nat × CpInfo)) (last : Nat) : Array CpInfo := ⟨poolList es last⟩
def fileOf (pool : Array CpInfo) (this : Nat) (attrs : Array Attribute := #[]) (ms : Array MethodInfo := #[]) (fl : Nat := 33) (sup : Nat := 0) (ifs : Array Nat := #[]) (fds : Array FieldInfo := #[]) : ClassFile where
  minorVersion := 0
  majorVersion := 65
  constantPool := pool
  accessFlags := fl
  thisClass := this
  superClass := sup
  interfaces := ifs
  fields := fds
  methods := ms
  attributes := attrs
def plain (name : String) (sup : Option ClassId) : Class where
  name := name
  kind := .ordinary
  loader := none
  accessFlags := 33
  super := sup
  interfaces := #[]
  cf := none
  fields := #[]
  methods := #[]
  instanceTypes := #[]
  staticTypes := #[]
  resolved := #[]
  callSites := []
  init := .initialized
  statics := none
  mirror := none

def pool0 : Array CpInfo := pool [(5, u "<init>"), (0, u "()V"), (1, .class_ 10), (1, u "java/lang/Object")] 113

def k0c0 : Code := { maxStack := 0, maxLocals := 1, code := object_method_1_code, exceptionTable := #[], attributes := #[] }
def k0m0 : Method := { name := "<init>", desc := "()V", sig := { parameters := [], returnType := none }, accessFlags := 1, code := some k0c0 }
/-- java/lang/Object -/
def k0 : Class := { plain "java/lang/Object" none with
  accessFlags := 33
  interfaces := #[]
  cf := some (fileOf pool0 8 #[] #[{ accessFlags := 1, nameIndex := 5, descriptorIndex := 6, attributes := #[] }] 33 0 #[] #[])
  fields := #[]
  methods := #[k0m0]
  instanceTypes := #[]
  staticTypes := #[]
  resolved := Array.replicate 124 none
  statics := none }

def pool1 : Array CpInfo := pool [(2, .class_ 4), (1, u "java/lang/Object"), (0, u "<init>"), (0, u "()V"), (0, .integer 2147483647), (0, .long 2147483647), (1, .methodref 11 12), (0, .class_ 13), (0, .nameAndType 14 15), (0, u "java/lang/String"), (0, u "valueOf"), (0, u "(C)Ljava/lang/String;"), (0, .class_ 17), (0, u "com/example/eurycleia/eurycleia/html/Block"), (0, .methodref 16 19), (0, .nameAndType 5 20), (0, u "(Ljava/lang/String;IIZ)V"), (0, .methodref 16 22), (0, .nameAndType 23 24), (0, u "weight"), (0, u "()D"), (0, .class_ 26), (0, u "com/example/eurycleia/eurycleia/html/BlockWeightPinLaw"), (2, u "law"), (0, u "(IIII)Z")] 3

def k1m0 : Method := { name := "<init>", desc := "()V", sig := { parameters := [], returnType := none }, accessFlags := 1, code := none }
def k1c1 : Code := { maxStack := 6, maxLocals := 15, code := code, exceptionTable := #[], attributes := #[] }
def k1m1 : Method := { name := "law", desc := "(IIII)Z", sig := { parameters := [.int, .int, .int, .int], returnType := some .boolean }, accessFlags := 9, code := some k1c1 }
/-- com/example/eurycleia/eurycleia/html/BlockWeightPinLaw -/
def k1 : Class := { plain "com/example/eurycleia/eurycleia/html/BlockWeightPinLaw" (some 0) with
  accessFlags := 49
  interfaces := #[]
  cf := some (fileOf pool1 25 #[] #[{ accessFlags := 1, nameIndex := 5, descriptorIndex := 6, attributes := #[] }, { accessFlags := 9, nameIndex := 29, descriptorIndex := 30, attributes := #[] }] 49 2 #[] #[])
  fields := #[]
  methods := #[k1m0, k1m1]
  instanceTypes := #[]
  staticTypes := #[]
  resolved := Array.replicate 34 none
  statics := none }

def pool2 : Array CpInfo := pool [(1, .class_ 2), (0, u "java/io/Serializable"), (0, .class_ 4), (0, u "java/lang/Object")] 2

/-- java/io/Serializable -/
def k2 : Class := { plain "java/io/Serializable" (some 0) with
  accessFlags := 1537
  interfaces := #[]
  cf := some (fileOf pool2 1 #[] #[] 1537 3 #[] #[])
  fields := #[]
  methods := #[]
  instanceTypes := #[]
  staticTypes := #[]
  resolved := Array.replicate 7 none
  statics := none }

def pool3 : Array CpInfo := pool [(1, .class_ 2), (0, u "java/lang/Comparable"), (0, .class_ 4), (0, u "java/lang/Object")] 7

/-- java/lang/Comparable -/
def k3 : Class := { plain "java/lang/Comparable" (some 0) with
  accessFlags := 1537
  interfaces := #[]
  cf := some (fileOf pool3 1 #[] #[] 1537 3 #[] #[])
  fields := #[]
  methods := #[]
  instanceTypes := #[]
  staticTypes := #[]
  resolved := Array.replicate 12 none
  statics := none }

def pool4 : Array CpInfo := pool [(2, .class_ 4), (1, u "java/lang/CharSequence"), (42, .class_ 48), (0, u "java/lang/CharSequence$1CodePointIterator"), (10, .class_ 60), (0, u "java/lang/CharSequence$1CharIterator"), (5, .class_ 67), (0, u "java/lang/Object")] 63

/-- java/lang/CharSequence -/
def k4 : Class := { plain "java/lang/CharSequence" (some 0) with
  accessFlags := 1537
  interfaces := #[]
  cf := some (fileOf pool4 2 #[.nestMembers #[47, 59]] #[] 1537 66 #[] #[])
  fields := #[]
  methods := #[]
  instanceTypes := #[]
  staticTypes := #[]
  resolved := Array.replicate 131 none
  statics := none }

def pool5 : Array CpInfo := pool [(1, .class_ 2), (0, u "java/lang/constant/Constable"), (0, .class_ 4), (0, u "java/lang/Object")] 6

/-- java/lang/constant/Constable -/
def k5 : Class := { plain "java/lang/constant/Constable" (some 0) with
  accessFlags := 1537
  interfaces := #[]
  cf := some (fileOf pool5 1 #[] #[] 1537 3 #[] #[])
  fields := #[]
  methods := #[]
  instanceTypes := #[]
  staticTypes := #[]
  resolved := Array.replicate 11 none
  statics := none }

def pool6 : Array CpInfo := pool [(1, .class_ 2), (0, u "java/lang/constant/ConstantDesc"), (0, .class_ 4), (0, u "java/lang/Object")] 32

/-- java/lang/constant/ConstantDesc -/
def k6 : Class := { plain "java/lang/constant/ConstantDesc" (some 0) with
  accessFlags := 1537
  interfaces := #[]
  cf := some (fileOf pool6 1 #[] #[] 1537 3 #[] #[])
  fields := #[]
  methods := #[]
  instanceTypes := #[]
  staticTypes := #[]
  resolved := Array.replicate 37 none
  statics := none }

def pool7 : Array CpInfo := pool [(1, .methodref 2 3), (0, .class_ 4), (0, .nameAndType 5 6), (0, u "java/lang/Object"), (0, u "<init>"), (0, u "()V"), (2, .fieldref 10 11), (0, .class_ 12), (0, .nameAndType 13 14), (0, u "java/lang/String"), (0, u "value"), (0, u "[B"), (0, .fieldref 10 16), (0, .nameAndType 17 18), (0, u "coder"), (0, u "B"), (2, u "hash"), (0, u "I"), (2, u "hashIsZero"), (0, u "Z"), (11, .fieldref 10 39), (0, .nameAndType 40 26), (0, u "COMPACT_STRINGS"), (12, u "toBytes"), (53, .class_ 109), (1, u "java/lang/StringLatin1"), (99, .methodref 10 210), (0, .nameAndType 5 211), (0, u "([BB)V"), (157, u "(C)Z"), (205, .class_ 576), (0, u "java/lang/CharSequence"), (22, u "CASE_INSENSITIVE_ORDER"), (0, u "Ljava/util/Comparator;"), (181, u "valueOf"), (0, u "(C)Ljava/lang/String;"), (231, .methodref 107 1016), (0, .nameAndType 1017 369), (0, u "canEncode"), (0, .methodref 107 1019), (0, .nameAndType 53 1020), (0, u "(C)[B"), (80, u "serialPersistentFields"), (0, u "[Ljava/io/ObjectStreamField;"), (0, .class_ 1104), (0, u "java/lang/String$CaseInsensitiveComparator"), (1, .class_ 1107), (0, u "java/io/Serializable"), (0, .class_ 1109), (0, u "java/lang/Comparable"), (0, .class_ 1111), (0, u "java/lang/constant/Constable"), (0, .class_ 1113), (0, u "java/lang/constant/ConstantDesc"), (2, u "serialVersionUID"), (0, u "J"), (3, u "REPL"), (0, u "C"), (2, u "LATIN1"), (1, u "UTF16")] 323

def k7m0 : Method := { name := "<init>", desc := "()V", sig := { parameters := [], returnType := none }, accessFlags := 1, code := none }
def k7c1 : Code := { maxStack := 4, maxLocals := 1, code := jdk_42_method_139_code, exceptionTable := #[], attributes := #[] }
def k7m1 : Method := { name := "valueOf", desc := "(C)Ljava/lang/String;", sig := { parameters := [.char], returnType := some (.object "java/lang/String") }, accessFlags := 9, code := some k7c1 }
def k7c2 : Code := { maxStack := 2, maxLocals := 3, code := jdk_42_method_151_code, exceptionTable := #[], attributes := #[] }
def k7m2 : Method := { name := "<init>", desc := "([BB)V", sig := { parameters := [(.array .byte), .byte], returnType := none }, accessFlags := 0, code := some k7c2 }
/-- java/lang/String -/
def k7 : Class := { plain "java/lang/String" (some 0) with
  accessFlags := 49
  interfaces := #[2, 3, 4, 5, 6]
  cf := some (fileOf pool7 10 #[.nestMembers #[1103]] #[{ accessFlags := 1, nameIndex := 5, descriptorIndex := 6, attributes := #[] }, { accessFlags := 9, nameIndex := 782, descriptorIndex := 783, attributes := #[] }, { accessFlags := 0, nameIndex := 5, descriptorIndex := 211, attributes := #[] }] 49 2 #[1106, 1108, 575, 1110, 1112] #[{ accessFlags := 18, nameIndex := 13, descriptorIndex := 14, attributes := #[] }, { accessFlags := 18, nameIndex := 17, descriptorIndex := 18, attributes := #[] }, { accessFlags := 2, nameIndex := 21, descriptorIndex := 22, attributes := #[] }, { accessFlags := 2, nameIndex := 25, descriptorIndex := 26, attributes := #[] }, { accessFlags := 26, nameIndex := 1116, descriptorIndex := 1117, attributes := #[] }, { accessFlags := 24, nameIndex := 40, descriptorIndex := 26, attributes := #[] }, { accessFlags := 26, nameIndex := 1101, descriptorIndex := 1102, attributes := #[] }, { accessFlags := 26, nameIndex := 1121, descriptorIndex := 1122, attributes := #[] }, { accessFlags := 25, nameIndex := 599, descriptorIndex := 600, attributes := #[] }, { accessFlags := 24, nameIndex := 1125, descriptorIndex := 18, attributes := #[] }, { accessFlags := 24, nameIndex := 1127, descriptorIndex := 18, attributes := #[] }])
  fields := #[{ name := "value", type := (.array .byte), accessFlags := 18, slot := 0, constantValue := 0 }, { name := "coder", type := .byte, accessFlags := 18, slot := 1, constantValue := 0 }, { name := "hash", type := .int, accessFlags := 2, slot := 2, constantValue := 0 }, { name := "hashIsZero", type := .boolean, accessFlags := 2, slot := 3, constantValue := 0 }, { name := "serialVersionUID", type := .long, accessFlags := 26, slot := 0, constantValue := 0 }, { name := "COMPACT_STRINGS", type := .boolean, accessFlags := 24, slot := 1, constantValue := 0 }, { name := "serialPersistentFields", type := (.array (.object "java/io/ObjectStreamField")), accessFlags := 26, slot := 2, constantValue := 0 }, { name := "REPL", type := .char, accessFlags := 26, slot := 3, constantValue := 0 }, { name := "CASE_INSENSITIVE_ORDER", type := (.object "java/util/Comparator"), accessFlags := 25, slot := 4, constantValue := 0 }, { name := "LATIN1", type := .byte, accessFlags := 24, slot := 5, constantValue := 0 }, { name := "UTF16", type := .byte, accessFlags := 24, slot := 6, constantValue := 0 }]
  methods := #[k7m0, k7m1, k7m2]
  instanceTypes := #[(.array .byte), .byte, .int, .boolean]
  staticTypes := #[.long, .boolean, (.array (.object "java/io/ObjectStreamField")), .char, (.object "java/util/Comparator"), .byte, .byte]
  resolved := Array.replicate 1451 none
  statics := some 0 }

def pool8 : Array CpInfo := pool [(4, .class_ 6), (1, u "java/lang/Object"), (0, u "<init>"), (0, u "()V"), (5, .class_ 16), (1, u "java/lang/StringLatin1"), (73, u "canEncode"), (14, u "(C)Z"), (15, u "$assertionsDisabled"), (0, u "Z"), (98, .class_ 223), (1, u "java/lang/StringLatin1$LinesSpliterator"), (156, u "toBytes"), (1, u "(C)[B"), (7, .class_ 391), (0, u "java/lang/StringLatin1$CharsSpliterator")] 3

def k8m0 : Method := { name := "<init>", desc := "()V", sig := { parameters := [], returnType := none }, accessFlags := 0, code := none }
def k8c1 : Code := { maxStack := 2, maxLocals := 1, code := jdk_43_method_3_code, exceptionTable := #[], attributes := #[] }
def k8m1 : Method := { name := "canEncode", desc := "(C)Z", sig := { parameters := [.char], returnType := some .boolean }, accessFlags := 9, code := some k8c1 }
def k8c2 : Code := { maxStack := 4, maxLocals := 1, code := jdk_43_method_46_code, exceptionTable := #[], attributes := #[] }
def k8m2 : Method := { name := "toBytes", desc := "(C)[B", sig := { parameters := [.char], returnType := some (.array .byte) }, accessFlags := 9, code := some k8c2 }
/-- java/lang/StringLatin1 -/
def k8 : Class := { plain "java/lang/StringLatin1" (some 0) with
  accessFlags := 48
  interfaces := #[]
  cf := some (fileOf pool8 14 #[.nestMembers #[390, 221]] #[{ accessFlags := 0, nameIndex := 7, descriptorIndex := 8, attributes := #[] }, { accessFlags := 9, nameIndex := 90, descriptorIndex := 105, attributes := #[] }, { accessFlags := 9, nameIndex := 380, descriptorIndex := 382, attributes := #[] }] 48 4 #[] #[{ accessFlags := 4120, nameIndex := 121, descriptorIndex := 122, attributes := #[] }])
  fields := #[{ name := "$assertionsDisabled", type := .boolean, accessFlags := 4120, slot := 0, constantValue := 0 }]
  methods := #[k8m0, k8m1, k8m2]
  instanceTypes := #[]
  staticTypes := #[.boolean]
  resolved := Array.replicate 395 none
  statics := none }

def pool9 : Array CpInfo := pool [(1, .methodref 2 3), (0, .class_ 4), (0, .nameAndType 5 6), (0, u "java/lang/Object"), (0, u "<init>"), (0, u "()V"), (0, .class_ 8), (0, u "java/lang/Record")] 13

def k9c0 : Code := { maxStack := 1, maxLocals := 1, code := jdk_30_method_1_code, exceptionTable := #[], attributes := #[] }
def k9m0 : Method := { name := "<init>", desc := "()V", sig := { parameters := [], returnType := none }, accessFlags := 4, code := some k9c0 }
/-- java/lang/Record -/
def k9 : Class := { plain "java/lang/Record" (some 0) with
  accessFlags := 1057
  interfaces := #[]
  cf := some (fileOf pool9 7 #[] #[{ accessFlags := 4, nameIndex := 5, descriptorIndex := 6, attributes := #[] }] 1057 2 #[] #[])
  fields := #[]
  methods := #[k9m0]
  instanceTypes := #[]
  staticTypes := #[]
  resolved := Array.replicate 22 none
  statics := none }

def pool10 : Array CpInfo := pool [(1, .methodref 2 3), (0, .class_ 4), (0, .nameAndType 5 6), (0, u "java/lang/Record"), (0, u "<init>"), (0, u "()V"), (0, .fieldref 8 9), (0, .class_ 10), (0, .nameAndType 11 12), (0, u "com/example/eurycleia/eurycleia/html/Block"), (0, u "text"), (0, u "Ljava/lang/String;"), (0, .fieldref 8 14), (0, .nameAndType 15 16), (0, u "chars"), (0, u "I"), (0, .fieldref 8 18), (0, .nameAndType 19 16), (0, u "linkChars"), (0, .fieldref 8 21), (0, .nameAndType 22 23), (0, u "inFurniture"), (0, u "Z"), (12, u "(Ljava/lang/String;IIZ)V"), (6, u "weight"), (0, u "()D")] 26

def k10c0 : Code := { maxStack := 2, maxLocals := 5, code := prog_7_method_1_code, exceptionTable := #[], attributes := #[] }
def k10m0 : Method := { name := "<init>", desc := "(Ljava/lang/String;IIZ)V", sig := { parameters := [(.object "java/lang/String"), .int, .int, .boolean], returnType := none }, accessFlags := 0, code := some k10c0 }
def k10c1 : Code := { maxStack := 2, maxLocals := 1, code := prog_7_method_3_code, exceptionTable := #[], attributes := #[] }
def k10m1 : Method := { name := "weight", desc := "()D", sig := { parameters := [], returnType := some .double }, accessFlags := 0, code := some k10c1 }
/-- com/example/eurycleia/eurycleia/html/Block -/
def k10 : Class := { plain "com/example/eurycleia/eurycleia/html/Block" (some 9) with
  accessFlags := 48
  interfaces := #[]
  cf := some (fileOf pool10 8 #[] #[{ accessFlags := 0, nameIndex := 5, descriptorIndex := 36, attributes := #[] }, { accessFlags := 0, nameIndex := 43, descriptorIndex := 44, attributes := #[] }] 48 2 #[] #[{ accessFlags := 18, nameIndex := 11, descriptorIndex := 12, attributes := #[] }, { accessFlags := 18, nameIndex := 15, descriptorIndex := 16, attributes := #[] }, { accessFlags := 18, nameIndex := 19, descriptorIndex := 16, attributes := #[] }, { accessFlags := 18, nameIndex := 22, descriptorIndex := 23, attributes := #[] }])
  fields := #[{ name := "text", type := (.object "java/lang/String"), accessFlags := 18, slot := 0, constantValue := 0 }, { name := "chars", type := .int, accessFlags := 18, slot := 1, constantValue := 0 }, { name := "linkChars", type := .int, accessFlags := 18, slot := 2, constantValue := 0 }, { name := "inFurniture", type := .boolean, accessFlags := 18, slot := 3, constantValue := 0 }]
  methods := #[k10m0, k10m1]
  instanceTypes := #[(.object "java/lang/String"), .int, .int, .boolean]
  staticTypes := #[]
  resolved := Array.replicate 71 none
  statics := none }

def pool11 : Array CpInfo := pool [(2, .class_ 4), (1, u "java/lang/Object"), (0, u "<init>"), (0, u "()V"), (17, .class_ 26), (1, u "jdk/internal/util/Preconditions"), (28, .class_ 56), (0, u "jdk/internal/util/Preconditions$4"), (57, .class_ 115), (0, u "jdk/internal/util/Preconditions$1"), (7, u "SIOOBE_FORMATTER"), (0, u "Ljava/util/function/BiFunction;"), (0, .class_ 126), (0, u "jdk/internal/util/Preconditions$2"), (3, u "AIOOBE_FORMATTER"), (0, .class_ 132), (0, u "jdk/internal/util/Preconditions$3"), (3, u "IOOBE_FORMATTER")] 57

def k11m0 : Method := { name := "<init>", desc := "()V", sig := { parameters := [], returnType := none }, accessFlags := 1, code := none }
/-- jdk/internal/util/Preconditions -/
def k11 : Class := { plain "jdk/internal/util/Preconditions" (some 0) with
  accessFlags := 33
  interfaces := #[]
  cf := some (fileOf pool11 24 #[.nestMembers #[55, 131, 125, 114]] #[{ accessFlags := 1, nameIndex := 5, descriptorIndex := 6, attributes := #[] }] 33 2 #[] #[{ accessFlags := 25, nameIndex := 123, descriptorIndex := 124, attributes := #[] }, { accessFlags := 25, nameIndex := 130, descriptorIndex := 124, attributes := #[] }, { accessFlags := 25, nameIndex := 136, descriptorIndex := 124, attributes := #[] }])
  fields := #[{ name := "SIOOBE_FORMATTER", type := (.object "java/util/function/BiFunction"), accessFlags := 25, slot := 0, constantValue := 0 }, { name := "AIOOBE_FORMATTER", type := (.object "java/util/function/BiFunction"), accessFlags := 25, slot := 1, constantValue := 0 }, { name := "IOOBE_FORMATTER", type := (.object "java/util/function/BiFunction"), accessFlags := 25, slot := 2, constantValue := 0 }]
  methods := #[k11m0]
  instanceTypes := #[]
  staticTypes := #[(.object "java/util/function/BiFunction"), (.object "java/util/function/BiFunction"), (.object "java/util/function/BiFunction")]
  resolved := Array.replicate 194 none
  statics := some 1 }

def pool12 : Array CpInfo := pool [(9, u "<init>"), (6, .class_ 18), (1, u "java/lang/Object"), (0, u "()V"), (1, .class_ 23), (1, u "jdk/internal/util/ArraysSupport"), (0, u "LOG2_ARRAY_LONG_INDEX_SCALE"), (0, u "I"), (2, u "U"), (0, u "Ljdk/internal/misc/Unsafe;"), (8, u "BIG_ENDIAN"), (0, u "Z"), (8, u "LOG2_BYTE_BIT_SIZE"), (4, u "LOG2_ARRAY_INT_INDEX_SCALE"), (54, u "JLA"), (0, u "Ljdk/internal/access/JavaLangAccess;"), (11, u "LOG2_ARRAY_BOOLEAN_INDEX_SCALE"), (9, u "LOG2_ARRAY_BYTE_INDEX_SCALE"), (5, u "LOG2_ARRAY_CHAR_INDEX_SCALE"), (5, u "LOG2_ARRAY_SHORT_INDEX_SCALE"), (18, u "LOG2_ARRAY_FLOAT_INDEX_SCALE"), (24, u "LOG2_ARRAY_DOUBLE_INDEX_SCALE"), (89, u "T_BOOLEAN"), (2, u "T_CHAR"), (1, u "T_FLOAT"), (1, u "T_DOUBLE"), (1, u "T_BYTE"), (1, u "T_SHORT"), (1, u "T_INT"), (1, u "T_LONG"), (1, u "SOFT_MAX_ARRAY_LENGTH")] 83

def k12m0 : Method := { name := "<init>", desc := "()V", sig := { parameters := [], returnType := none }, accessFlags := 2, code := none }
/-- jdk/internal/util/ArraysSupport -/
def k12 : Class := { plain "jdk/internal/util/ArraysSupport" (some 0) with
  accessFlags := 33
  interfaces := #[]
  cf := some (fileOf pool12 21 #[] #[{ accessFlags := 2, nameIndex := 9, descriptorIndex := 19, attributes := #[] }] 33 16 #[] #[{ accessFlags := 24, nameIndex := 28, descriptorIndex := 29, attributes := #[] }, { accessFlags := 26, nameIndex := 38, descriptorIndex := 39, attributes := #[] }, { accessFlags := 25, nameIndex := 121, descriptorIndex := 25, attributes := #[] }, { accessFlags := 25, nameIndex := 131, descriptorIndex := 25, attributes := #[] }, { accessFlags := 25, nameIndex := 137, descriptorIndex := 25, attributes := #[] }, { accessFlags := 25, nameIndex := 143, descriptorIndex := 25, attributes := #[] }, { accessFlags := 25, nameIndex := 53, descriptorIndex := 25, attributes := #[] }, { accessFlags := 25, nameIndex := 24, descriptorIndex := 25, attributes := #[] }, { accessFlags := 25, nameIndex := 162, descriptorIndex := 25, attributes := #[] }, { accessFlags := 25, nameIndex := 187, descriptorIndex := 25, attributes := #[] }, { accessFlags := 26, nameIndex := 48, descriptorIndex := 25, attributes := #[] }, { accessFlags := 25, nameIndex := 277, descriptorIndex := 25, attributes := #[] }, { accessFlags := 25, nameIndex := 280, descriptorIndex := 25, attributes := #[] }, { accessFlags := 25, nameIndex := 282, descriptorIndex := 25, attributes := #[] }, { accessFlags := 25, nameIndex := 284, descriptorIndex := 25, attributes := #[] }, { accessFlags := 25, nameIndex := 286, descriptorIndex := 25, attributes := #[] }, { accessFlags := 25, nameIndex := 288, descriptorIndex := 25, attributes := #[] }, { accessFlags := 25, nameIndex := 290, descriptorIndex := 25, attributes := #[] }, { accessFlags := 25, nameIndex := 292, descriptorIndex := 25, attributes := #[] }, { accessFlags := 26, nameIndex := 108, descriptorIndex := 109, attributes := #[] }, { accessFlags := 25, nameIndex := 294, descriptorIndex := 25, attributes := #[] }])
  fields := #[{ name := "U", type := (.object "jdk/internal/misc/Unsafe"), accessFlags := 24, slot := 0, constantValue := 0 }, { name := "BIG_ENDIAN", type := .boolean, accessFlags := 26, slot := 1, constantValue := 0 }, { name := "LOG2_ARRAY_BOOLEAN_INDEX_SCALE", type := .int, accessFlags := 25, slot := 2, constantValue := 0 }, { name := "LOG2_ARRAY_BYTE_INDEX_SCALE", type := .int, accessFlags := 25, slot := 3, constantValue := 0 }, { name := "LOG2_ARRAY_CHAR_INDEX_SCALE", type := .int, accessFlags := 25, slot := 4, constantValue := 0 }, { name := "LOG2_ARRAY_SHORT_INDEX_SCALE", type := .int, accessFlags := 25, slot := 5, constantValue := 0 }, { name := "LOG2_ARRAY_INT_INDEX_SCALE", type := .int, accessFlags := 25, slot := 6, constantValue := 0 }, { name := "LOG2_ARRAY_LONG_INDEX_SCALE", type := .int, accessFlags := 25, slot := 7, constantValue := 0 }, { name := "LOG2_ARRAY_FLOAT_INDEX_SCALE", type := .int, accessFlags := 25, slot := 8, constantValue := 0 }, { name := "LOG2_ARRAY_DOUBLE_INDEX_SCALE", type := .int, accessFlags := 25, slot := 9, constantValue := 0 }, { name := "LOG2_BYTE_BIT_SIZE", type := .int, accessFlags := 26, slot := 10, constantValue := 0 }, { name := "T_BOOLEAN", type := .int, accessFlags := 25, slot := 11, constantValue := 0 }, { name := "T_CHAR", type := .int, accessFlags := 25, slot := 12, constantValue := 0 }, { name := "T_FLOAT", type := .int, accessFlags := 25, slot := 13, constantValue := 0 }, { name := "T_DOUBLE", type := .int, accessFlags := 25, slot := 14, constantValue := 0 }, { name := "T_BYTE", type := .int, accessFlags := 25, slot := 15, constantValue := 0 }, { name := "T_SHORT", type := .int, accessFlags := 25, slot := 16, constantValue := 0 }, { name := "T_INT", type := .int, accessFlags := 25, slot := 17, constantValue := 0 }, { name := "T_LONG", type := .int, accessFlags := 25, slot := 18, constantValue := 0 }, { name := "JLA", type := (.object "jdk/internal/access/JavaLangAccess"), accessFlags := 26, slot := 19, constantValue := 0 }, { name := "SOFT_MAX_ARRAY_LENGTH", type := .int, accessFlags := 25, slot := 20, constantValue := 0 }]
  methods := #[k12m0]
  instanceTypes := #[]
  staticTypes := #[(.object "jdk/internal/misc/Unsafe"), .boolean, .int, .int, .int, .int, .int, .int, .int, .int, .int, .int, .int, .int, .int, .int, .int, .int, .int, (.object "jdk/internal/access/JavaLangAccess"), .int]
  resolved := Array.replicate 378 none
  statics := none }

def pool13 : Array CpInfo := pool [(1, u "java/lang/Cloneable"), (0, .class_ 1), (0, u "java/lang/Object"), (0, .class_ 3)] 3

/-- java/lang/Cloneable -/
def k13 : Class := { plain "java/lang/Cloneable" (some 0) with
  accessFlags := 1537
  interfaces := #[]
  cf := some (fileOf pool13 2 #[] #[] 1537 4 #[] #[])
  fields := #[]
  methods := #[]
  instanceTypes := #[]
  staticTypes := #[]
  resolved := Array.replicate 8 none
  statics := none }

/-- the primitive byte -/
def k14 : Class := { plain "byte" none with kind := .primitive 'B', accessFlags := 0x411 }
/-- [B -/
def k15 : Class := { plain "[B" (some 0) with kind := .array 14 .byte, interfaces := #[13, 2], accessFlags := 1041 }

/-- the primitive int -/
def k16 : Class := { plain "int" none with kind := .primitive 'I', accessFlags := 0x411 }
/-- [I -/
def k17 : Class := { plain "[I" (some 0) with kind := .array 16 .int, interfaces := #[13, 2], accessFlags := 1041 }

def heap : Heap := #[{ cls := 7, slots := #[.long 0, .int 1, .null, .int 0, .null, .int 0, .int 0], vm := .statics 7 },
  { cls := 11, slots := #[.null, .null, .null], vm := .statics 11 }]
def classes : Array Class := #[k0, k1, k2, k3, k4, k5, k6, k7, k8, k9, k10, k11, k12, k13, k14, k15, k16, k17]
def interned : List (Array UInt16 × Addr) := []
def slotsUsed : Nat := 10
def theMethod : MethodId := ⟨1, 1⟩
def args0 : Array Value := #[.int 5, .int 3, .int 2, .int 65]
def aboutOver (below : List Frame) : State where
  vm := { classes := classes, interned := interned.toArray }
  heap := heap
  slotsUsed := slotsUsed
  threads := #[{ frames := .invoking theMethod args0 :: below }]
def below0 : List Frame := [.native { method := ⟨0, 0⟩, args := #[] }]
def about1 : State := aboutOver below0
def p0 : Program := .bare "" "" ""
def e0 : Env := launch0.env 0 0 0
theorem w_frames : about1.frames = Frame.invoking theMethod args0 :: below0 := rfl
set_option maxRecDepth 65536 in
theorem w_args : argsFit about1.vm theMethod args0 = true := by decide +kernel
set_option maxRecDepth 65536 in
theorem w_heap : heapFits about1 = true := by decide +kernel
set_option maxRecDepth 65536 in
theorem w_runnable : about1.curStatus? = some .runnable := by decide +kernel
set_option maxRecDepth 65536 in
theorem w_alone : about1.alone = true := by decide +kernel
set_option maxRecDepth 65536 in
theorem w_named : about1.methodNamed? x = some theMethod := by decide +kernel
set_option maxRecDepth 65536 in
theorem w_hears : about1.hears theMethod below0 = true := by decide +kernel
set_option maxRecDepth 65536 in
theorem w_ripe : about1.ripe theMethod args0 below0 = true := by decide +kernel
theorem w_running : about1.status = .running := rfl
set_option maxRecDepth 65536 in
theorem w_room : about1.hasRoom e0.platform room_1 = true :=
  launch0.hasRoom_least _ room_1 (by decide +kernel) (by decide +kernel) (by decide +kernel) (by decide +kernel) (by decide +kernel) (by decide +kernel)
theorem allAtoms_all (ts : List Jvm.Cond) (a : Array Jvm.Value) (st : Jvm.State) : (allAtoms ts).before a st = ts.all (fun c => c.before a st) := by
  induction ts with
  | nil => rfl
  | cons c t ih =>
    show (Jvm.Cond.and c (allAtoms t)).before a st = _
    rw [Jvm.Cond.before_and, ih, List.all_cons]
def words1 : List Jvm.Cond := Jvm.Cond.code x code maxLocals ret :: tables_1
/-- a 'code' word, met by the world's own term for the bytes: nothing is compared byte by byte -/
theorem code_word {y : MethodName} {bytes : ByteArray} {mx : Nat} {rt : Option FieldType} {a : Array Value} {s : State} {m : MethodId} {meth : Method} {c : Code} (h1 : s.methodNamed? y = some m) (h2 : s.vm.method? m = some meth) (h3 : meth.code = some c) (h4 : c.code = bytes)
    (h5 : (c.maxLocals == mx && c.exceptionTable.isEmpty && decide (c.maxStack ≤ mostOperands) && decide (meth.sig.returnType = rt) && !meth.locks && decide (parseMethodDescriptor y.desc = some meth.sig)) = true) : (Jvm.Cond.code y bytes mx rt).before a s = true := by
  simp only [Bool.and_eq_true, beq_iff_eq, Bool.not_eq_true', decide_eq_true_eq] at h5
  obtain ⟨⟨⟨⟨⟨g1, g2⟩, g3⟩, g4⟩, g5⟩, g6⟩ := h5
  simp [Cond.before, Cond.holds, Cond.value, h1, h2, h3, h4, g1, g2, g3, g4, g5, g6]
def isCode : Jvm.Cond → Bool
  | .code _ _ _ _ => true
  | _ => false
theorem all_split {L : List Jvm.Cond} {P : Jvm.Cond → Bool} (h1 : L.all (fun c => isCode c || P c) = true) (h2 : ∀ c ∈ L.filter isCode, P c = true) : L.all P = true := by
  refine List.all_eq_true.mpr fun c hc => ?_
  have h := List.all_eq_true.mp h1 c hc
  rcases Bool.eq_false_or_eq_true (isCode c) with hi | hi
  · exact h2 c (List.mem_filter.mpr ⟨hc, hi⟩)
  · simpa [hi] using h
set_option maxRecDepth 65536 in
theorem w_c0 : (Jvm.Cond.code x code maxLocals ret).before args0 about1 = true := code_word (m := ⟨1, 1⟩) (meth := k1m1) (c := k1c1) (by decide +kernel) rfl rfl rfl (by decide +kernel)
set_option maxRecDepth 65536 in
theorem w_c1 : (Jvm.Cond.code ({ cls := "java/lang/String", name := "valueOf", desc := "(C)Ljava/lang/String;" } : Jvm.MethodName) jdk_42_method_139_code (1 : Nat) (Option.some (Jvm.ClassFile.FieldType.object "java/lang/String"))).before args0 about1 = true := code_word (m := ⟨7, 1⟩) (meth := k7m1) (c := k7c1) (by decide +kernel) rfl rfl rfl (by decide +kernel)
set_option maxRecDepth 65536 in
theorem w_c2 : (Jvm.Cond.code ({ cls := "java/lang/StringLatin1", name := "canEncode", desc := "(C)Z" } : Jvm.MethodName) jdk_43_method_3_code (1 : Nat) (Option.some Jvm.ClassFile.FieldType.boolean)).before args0 about1 = true := code_word (m := ⟨8, 1⟩) (meth := k8m1) (c := k8c1) (by decide +kernel) rfl rfl rfl (by decide +kernel)
set_option maxRecDepth 65536 in
theorem w_c3 : (Jvm.Cond.code ({ cls := "java/lang/StringLatin1", name := "toBytes", desc := "(C)[B" } : Jvm.MethodName) jdk_43_method_46_code (1 : Nat) (Option.some (Jvm.ClassFile.FieldType.array Jvm.ClassFile.FieldType.byte))).before args0 about1 = true := code_word (m := ⟨8, 2⟩) (meth := k8m2) (c := k8c2) (by decide +kernel) rfl rfl rfl (by decide +kernel)
set_option maxRecDepth 65536 in
theorem w_c4 : (Jvm.Cond.code ({ cls := "java/lang/String", name := "<init>", desc := "([BB)V" } : Jvm.MethodName) jdk_42_method_151_code (3 : Nat) (Option.none : Option Jvm.ClassFile.FieldType)).before args0 about1 = true := code_word (m := ⟨7, 2⟩) (meth := k7m2) (c := k7c2) (by decide +kernel) rfl rfl rfl (by decide +kernel)
set_option maxRecDepth 65536 in
theorem w_c5 : (Jvm.Cond.code ({ cls := "java/lang/Object", name := "<init>", desc := "()V" } : Jvm.MethodName) object_method_1_code (1 : Nat) (Option.none : Option Jvm.ClassFile.FieldType)).before args0 about1 = true := code_word (m := ⟨0, 0⟩) (meth := k0m0) (c := k0c0) (by decide +kernel) rfl rfl rfl (by decide +kernel)
set_option maxRecDepth 65536 in
theorem w_c6 : (Jvm.Cond.code ({ cls := "com/example/eurycleia/eurycleia/html/Block", name := "<init>", desc := "(Ljava/lang/String;IIZ)V" } : Jvm.MethodName) prog_7_method_1_code (5 : Nat) (Option.none : Option Jvm.ClassFile.FieldType)).before args0 about1 = true := code_word (m := ⟨10, 0⟩) (meth := k10m0) (c := k10c0) (by decide +kernel) rfl rfl rfl (by decide +kernel)
set_option maxRecDepth 65536 in
theorem w_c7 : (Jvm.Cond.code ({ cls := "java/lang/Record", name := "<init>", desc := "()V" } : Jvm.MethodName) jdk_30_method_1_code (1 : Nat) (Option.none : Option Jvm.ClassFile.FieldType)).before args0 about1 = true := code_word (m := ⟨9, 0⟩) (meth := k9m0) (c := k9c0) (by decide +kernel) rfl rfl rfl (by decide +kernel)
set_option maxRecDepth 65536 in
theorem w_c8 : (Jvm.Cond.code ({ cls := "com/example/eurycleia/eurycleia/html/Block", name := "weight", desc := "()D" } : Jvm.MethodName) prog_7_method_3_code (1 : Nat) (Option.some Jvm.ClassFile.FieldType.double)).before args0 about1 = true := code_word (m := ⟨10, 1⟩) (meth := k10m1) (c := k10c1) (by decide +kernel) rfl rfl rfl (by decide +kernel)
def codes1 : List Jvm.Cond := [Jvm.Cond.code x code maxLocals ret, Jvm.Cond.code ({ cls := "java/lang/String", name := "valueOf", desc := "(C)Ljava/lang/String;" } : Jvm.MethodName) jdk_42_method_139_code (1 : Nat) (Option.some (Jvm.ClassFile.FieldType.object "java/lang/String")), Jvm.Cond.code ({ cls := "java/lang/StringLatin1", name := "canEncode", desc := "(C)Z" } : Jvm.MethodName) jdk_43_method_3_code (1 : Nat) (Option.some Jvm.ClassFile.FieldType.boolean), Jvm.Cond.code ({ cls := "java/lang/StringLatin1", name := "toBytes", desc := "(C)[B" } : Jvm.MethodName) jdk_43_method_46_code (1 : Nat) (Option.some (Jvm.ClassFile.FieldType.array Jvm.ClassFile.FieldType.byte)), Jvm.Cond.code ({ cls := "java/lang/String", name := "<init>", desc := "([BB)V" } : Jvm.MethodName) jdk_42_method_151_code (3 : Nat) (Option.none : Option Jvm.ClassFile.FieldType), Jvm.Cond.code ({ cls := "java/lang/Object", name := "<init>", desc := "()V" } : Jvm.MethodName) object_method_1_code (1 : Nat) (Option.none : Option Jvm.ClassFile.FieldType), Jvm.Cond.code ({ cls := "com/example/eurycleia/eurycleia/html/Block", name := "<init>", desc := "(Ljava/lang/String;IIZ)V" } : Jvm.MethodName) prog_7_method_1_code (5 : Nat) (Option.none : Option Jvm.ClassFile.FieldType), Jvm.Cond.code ({ cls := "java/lang/Record", name := "<init>", desc := "()V" } : Jvm.MethodName) jdk_30_method_1_code (1 : Nat) (Option.none : Option Jvm.ClassFile.FieldType), Jvm.Cond.code ({ cls := "com/example/eurycleia/eurycleia/html/Block", name := "weight", desc := "()D" } : Jvm.MethodName) prog_7_method_3_code (1 : Nat) (Option.some Jvm.ClassFile.FieldType.double)]
set_option maxRecDepth 65536 in
theorem codes_eq : words1.filter isCode = codes1 := rfl
theorem w_codes : ∀ c ∈ words1.filter isCode, c.before args0 about1 = true := by
  rw [codes_eq]
  intro c hc
  simp only [codes1, List.mem_cons, List.not_mem_nil, or_false] at hc
  rcases hc with rfl | rfl | rfl | rfl | rfl | rfl | rfl | rfl | rfl
  · exact w_c0
  · exact w_c1
  · exact w_c2
  · exact w_c3
  · exact w_c4
  · exact w_c5
  · exact w_c6
  · exact w_c7
  · exact w_c8
set_option maxRecDepth 65536 in
theorem w_t1 : (words1.take 24).all (fun c => isCode c || c.before args0 about1) = true := by decide +kernel
set_option maxRecDepth 65536 in
theorem w_t2 : ((words1.drop 24).take 24).all (fun c => isCode c || c.before args0 about1) = true := by decide +kernel
set_option maxRecDepth 65536 in
theorem w_t3 : ((words1.drop 24).drop 24).all (fun c => isCode c || c.before args0 about1) = true := by decide +kernel
theorem w_tables : (allAtoms (Jvm.Cond.code x code maxLocals ret :: tables_1)).before args0 about1 = true := by
  rw [allAtoms_all]
  show words1.all (fun c => c.before args0 about1) = true
  refine all_split ?_ w_codes
  rw [← List.take_append_drop 24 words1, List.all_append, w_t1, ← List.take_append_drop 24 (words1.drop 24), List.all_append, w_t2, w_t3]
  rfl
set_option maxRecDepth 65536 in
theorem w_rest : rest_1_c.before args0 about1 = true := by decide +kernel
set_option maxRecDepth 65536 in
theorem w_case : (Jvm.Cond.and given_1 narrow_1).before args0 about1 = true := by decide +kernel
theorem w_applies : (headSpec (Jvm.Cond.code x code maxLocals ret :: tables_1) room_1).applies x e0.platform about1 = true :=
  (Spec.applies_iff w_frames).mpr ⟨w_running, w_runnable, w_alone, w_named, w_hears, w_ripe, w_room, w_tables⟩
theorem atStart : AtStart classFile x code maxLocals ret World_1 tables_1 room_1 Calls_1 rest_1 Pre_1 launch0 p0 e0 about1 theMethod args0 below0 :=
  ⟨lists_1, trivial, launch0.admits_env _ _ _, launch0.least_env, fairChoices_fair.cas, fairChoices_fair.clock, w_frames, w_args, w_heap, w_applies, trivial, w_rest, w_case⟩
end start1
theorem witness_1 : WitnessClaimed_1 := ⟨start1.p0, start1.e0, start1.about1, start1.theMethod, start1.args0, start1.below0, start1.atStart⟩
end Jvm.Pilot.@@N@@
