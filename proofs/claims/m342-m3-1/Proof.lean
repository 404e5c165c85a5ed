import JvmDerived
import JvmDerived.Pilot.@@N@@Statement
import JvmDerived.Pilot.@@N@@Code
set_option linter.unusedVariables false
set_option linter.unusedSimpArgs false
namespace Jvm.RoadKit
open Sem ClassFile Op Lib Jvm.Stand Jvm.Free Jvm.LawKit
section New
variable {p : Program} {l : Launch} {e : Env} {R : Room} {s : State} {m : MethodId} {args : Array Value} {below : List Frame} {meth : Method} {c : Code} {T : State} {locs : List Loc} {cells slots : Nat}
theorem retI (X : Stand p l e R s m args below meth c T locs cells slots) (hx : p.tables.exec = Jvm.exec) {pc : Nat} {Ls : Array Slot} {z : Int32} {rest : List Value} (hret : meth.sig.returnType = some .int) (hd : decode c.code pc = .ok (.ireturn, 1)) {fs : List Frame}
    (hl : ∀ (f : JFrame) (acts : List Action), f.method = m → f.locked = none → f.entered = [] → (doReturn e (T.setTop f) acts (some (.int z))).1 = T.setFrames fs) : Steps p.tables e below (T.setTop (mkF m pc Ls (.int z :: rest))) (T.setFrames fs) := by
  have hm' : T.vm.method? m = some meth := X.method'
  have hn : narrow .int (.int z) = .int z := rfl
  show Steps p.tables e below (T.setTop { method := m, pc := pc, locals := Ls, stack := _ :: rest, locked := none }) _
  jvm_step X.here [X.here.top, hx, hd, hm', hret, hn]
  first | (intro acts; rw [hl _ acts rfl rfl rfl]) | rw [hl _ _ rfl rfl rfl]
  exact Steps.refl _
end New
end Jvm.RoadKit
namespace Jvm.Pilot.@@N@@
open Jvm Jvm.ClassFile Sem Op Lib Jvm.Free Jvm.Stand Jvm.LawKit Jvm.RoadKit Bundle Jvm.Pilot.@@N@@.Jvm.D
theorem own_w {a0 : Array Value} {Z : State} (hw : ∀ d ∈ tables_1, d.before a0 Z = true) (k : Nat) {d : Jvm.Cond} (h : tables_1[k]? = some d := by rfl) : d.before a0 Z = true := hw _ (List.mem_of_getElem? h)
theorem own_neq {a b : Nat} (h : a < b ∨ b < a) : a ≠ b := by omega
abbrev oI (x : Int32) : Slot := .val (.int x)
abbrev oR (a : Addr) : Slot := .val (.ref a)
abbrev oJ (x : Int64) : Slot := .val (.long x)
abbrev oD (x : UInt64) : Slot := .val (.double x)
/-- from the state A the run comes to an end of which Q holds -/
def own_Go (p : Program) (e : Env) (below : List Frame) (Q : Outcome → State → Prop) (A : State) : Prop := ∃ s₂ o, Steps p.tables e below A s₂ ∧ s₂.status = .running ∧ Ended s₂ below o ∧ Q o s₂
theorem own_via {p : Program} {e : Env} {below : List Frame} {Q : Outcome → State → Prop} {A B : State} (h : ∀ t, Steps p.tables e below B t → Steps p.tables e below A t) (g : own_Go p e below Q B) : own_Go p e below Q A := by
  obtain ⟨s₂, o, h1, h2⟩ := g
  exact ⟨s₂, o, h _ h1, h2⟩
theorem own_tr {p : Program} {e : Env} {below : List Frame} {Q : Outcome → State → Prop} {A B : State} (h : Steps p.tables e below A B) (g : own_Go p e below Q B) : own_Go p e below Q A := by
  obtain ⟨s₂, o, h1, h2⟩ := g
  exact ⟨s₂, o, h.trans h1, h2⟩
/-- from the state A the run comes to a state B of which Φ holds -/
def own_Pc (p : Program) (e : Env) (below : List Frame) (Φ : State → Prop) (A : State) : Prop := ∃ B, (∀ t, Steps p.tables e below B t → Steps p.tables e below A t) ∧ Φ B
theorem own_pvia {p : Program} {e : Env} {below : List Frame} {Φ : State → Prop} {A B : State} (h : ∀ t, Steps p.tables e below B t → Steps p.tables e below A t) (g : own_Pc p e below Φ B) : own_Pc p e below Φ A := by
  obtain ⟨B', h1, h2⟩ := g
  exact ⟨B', fun t k => h t (h1 t k), h2⟩
theorem own_ptr {p : Program} {e : Env} {below : List Frame} {Φ : State → Prop} {A B : State} (h : Steps p.tables e below A B) (g : own_Pc p e below Φ B) : own_Pc p e below Φ A := own_pvia (fun t k => h.trans k) g
theorem own_start {p : Program} {e : Env} {below : List Frame} {Q : Outcome → State → Prop} {A : State} (h : own_Go p e below Q A) : ∃ s₂ o, Steps p.tables e below A s₂ ∧ s₂.status = .running ∧ Ended s₂ below o ∧ Q o s₂ := h
theorem own_narb (x : Int32) : nar .byte (x.toInt8.toInt32) = x.toInt8.toInt32 := by simp only [nar, Int8.toInt8_toInt32]
def own_ch (c : Int32) : Prop := ¬ c < (0 : Int32) ∧ ¬ (65535 : Int32) < c
theorem own_ch_r {c : Int32} (h : own_ch c) : 0 ≤ c.toInt ∧ c.toInt ≤ 65535 := by
  obtain ⟨a, b⟩ := h
  simp only [Int32.lt_iff_toInt_lt, Int32.reduceToInt] at a b
  omega
theorem own_lat {c : Int32} (h : own_ch c) (h2 : ¬ (255 : Int32) < c) : ((c.toInt8.toInt32) &&& (255 : Int32)).toUInt32.toUInt16.toUInt32.toInt32 = c := by
  obtain ⟨a, b⟩ := own_ch_r h
  rw [Int32.lt_iff_toInt_lt] at h2
  have e1 := c_i2b c
  have e2 := c_mask (c.toInt8.toInt32) 255 8 (by decide) (by decide)
  have e3 := c_i2c ((c.toInt8.toInt32) &&& 255)
  simp only [Int32.reduceToInt] at h2
  exact Int32.toInt_inj.mp (by omega)
theorem own_utf {c : Int32} (h : own_ch c) : (((((c >>> ((0 : Int32) &&& 31)).toInt8.toInt32) &&& (255 : Int32)) <<< ((0 : Int32) &&& 31)) ||| ((((c >>> ((8 : Int32) &&& 31)).toInt8.toInt32) &&& (255 : Int32)) <<< ((8 : Int32) &&& 31))).toUInt32.toUInt16.toUInt32.toInt32 = c := by
  obtain ⟨a, b⟩ := own_ch_r h
  have s0 := c_ishr c 0 0 (by decide)
  have s8 := c_ishr c 8 8 (by decide)
  have e1 := c_i2b (c >>> ((0 : Int32) &&& 31))
  have e2 := c_i2b (c >>> ((8 : Int32) &&& 31))
  have m1 := c_mask ((c >>> ((0 : Int32) &&& 31)).toInt8.toInt32) 255 8 (by decide) (by decide)
  have m2 := c_mask ((c >>> ((8 : Int32) &&& 31)).toInt8.toInt32) 255 8 (by decide) (by decide)
  generalize ((c >>> ((0 : Int32) &&& 31)).toInt8.toInt32 &&& (255 : Int32)) = x at *
  generalize ((c >>> ((8 : Int32) &&& 31)).toInt8.toInt32 &&& (255 : Int32)) = y at *
  have l1 := c_ishl x 0 0 (by decide)
  have l2 := c_ishl y 8 8 (by decide)
  have r1 := rng32 (x <<< ((0 : Int32) &&& 31))
  have r2 := rng32 (y <<< ((8 : Int32) &&& 31))
  generalize (x <<< ((0 : Int32) &&& 31)) = u at *
  generalize (y <<< ((8 : Int32) &&& 31)) = v at *
  have o := c_or' u v 8 (by decide) 256 (by decide) (by omega) (by omega) (by omega)
  have ro := rng32 (u ||| v)
  have i := c_i2c (u ||| v)
  exact Int32.toInt_inj.mp (by omega)
theorem own_nch {c : Int32} (h : own_ch c) : narrow .char (.int c) = .int c := by
  obtain ⟨a, b⟩ := own_ch_r h
  have e := c_i2c c
  show Value.int (c.toUInt32.toUInt16.toUInt32.toInt32) = _
  exact congrArg Value.int (Int32.toInt_inj.mp (by omega))
theorem own_fch {c : Int32} (h : own_ch c) : fits .char (.int c) = true := by
  have q := fits_nar_char c
  have e := c_i2c c
  obtain ⟨a, b⟩ := own_ch_r h
  have z : nar .char c = c := by
    show c.toUInt32.toUInt16.toUInt32.toInt32 = c
    exact Int32.toInt_inj.mp (by omega)
  rw [z] at q; exact q
theorem own_ne0 {args : Array Value} {s : State} {t : Term} {x : Int32} (ev : t.eval args s none [] s = some (.int x)) (h : (Jvm.Cond.not (Jvm.Cond.eq t (Jvm.Term.int (0 : Int32)))).value args s none s [] = some true) : ¬ (x = (0 : Int32)) := by
  have e2 : (Term.int (0 : Int32)).eval args s none [] s = some (.int 0) := rfl
  simpa [Cond.value, ev, e2] using h
theorem own_seq {args : Array Value} {s : State} {t : Term} {k : Int32} (h : (Jvm.Cond.eq t (Jvm.Term.int k)).value args s none s [] = some true) : t.eval args s none [] s = some (.int k) := by
  have e2 : (Term.int k).eval args s none [] s = some (.int k) := rfl
  cases q : t.eval args s none [] s with
  | none => simp [Cond.value, q] at h
  | some v => cases v <;> simp [Cond.value, e2, q] at h ⊢; exact h
open Jvm.Free.XT (narrow_c)
def f20 (p0 : Int32) : Int32 := (p0 <<< ((1 : Int32) &&& 31))
theorem d20_0 : decode jdk_52_method_3_code 0 = .ok (.iload_n 0, 1) := by decide +kernel
theorem d20_1 : decode jdk_52_method_3_code 1 = .ok (.ifCond .ge 11, 3) := by decide +kernel
theorem d20_12 : decode jdk_52_method_3_code 12 = .ok (.iload_n 0, 1) := by decide +kernel
theorem d20_13 : decode jdk_52_method_3_code 13 = .ok (.ldc 20, 2) := by decide +kernel
theorem d20_15 : decode jdk_52_method_3_code 15 = .ok (.if_icmp .lt 40, 3) := by decide +kernel
theorem d20_55 : decode jdk_52_method_3_code 55 = .ok (.iload_n 0, 1) := by decide +kernel
theorem d20_56 : decode jdk_52_method_3_code 56 = .ok (.iconst 1, 1) := by decide +kernel
theorem d20_57 : decode jdk_52_method_3_code 57 = .ok (.ishl, 1) := by decide +kernel
theorem d20_58 : decode jdk_52_method_3_code 58 = .ok (.ireturn, 1) := by decide +kernel
theorem pn_20 : plainName "java/lang/StringUTF16" = true := by first | (simp [plainName, overriddenIn]; done) | decide +kernel
theorem ef_rm20 (m : MethodId) (q0 : Int32) : entryFrame m #[(.int q0)] 1 = mkF m 0 #[oI q0] [] := by first | (simp [entryFrame, mkF, argsToLocals, Value.category]; done) | rfl
def Q20 (Z : State) (p0 : Int32) (r : Int32) (h0 : Heap) (n0 : Nat) (v : Option Value) (h : Heap) (L : List Loc) : Prop := v = some (.int r) ∧ Fr n0 L ∧ h = h0
set_option maxRecDepth 65536 in
set_option maxHeartbeats 40000000 in
theorem rm20 (l : Launch) (Z : State) (a0 : Array Value) (hw : ∀ d ∈ tables_1, d.before a0 Z = true) (ws : List Jvm.Cond) (p0 : Int32) (r : Int32) (h0 : Heap) (n0 : Nat) (Z0 : n0 ≤ h0.size) (hn0 : ¬ (p0 < (0 : Int32))) (hn1 : p0 < (1073741823 : Int32)) (hr0 : (f20 p0) = r) :
    MetFree l (⟨"java/lang/StringUTF16", "newBytesLength", "(I)I"⟩ : MethodName) (head1 (Jvm.Cond.code (⟨"java/lang/StringUTF16", "newBytesLength", "(I)I"⟩ : MethodName) jdk_52_method_3_code 1 (some .int) :: ws) ({ frames := 0, cells := 0, slots := 0, locals := 0 } : Room)) (fun a U => a = #[(.int p0)] ∧ Z.Warmed39 U.vm ∧ U.heap = h0) (fun _ _ _ _ _ => True) (fun _ U o U' => ∃ v L, o = .returned v ∧ Q20 Z p0 r h0 n0 v U'.heap L ∧ FrameEnd U o U' L ({ frames := 0, cells := 0, slots := 0, locals := 0 } : Room).cells ({ frames := 0, cells := 0, slots := 0, locals := 0 } : Room).slots) := by
  refine MetFree.of_bodySF (plainFor_of_name pn_20) hisR ?_
  intro p e s m args below meth c s₁ Bd hml0 hP hK
  obtain ⟨rfl, hZ, hh⟩ := hP
  have hx := Bd.exec
  have hby := Bd.bytes
  have hml : c.maxLocals = 1 := hml0
  have hown : s.vm.findClass "java/lang/StringUTF16" = some m.cls := findClass_of_methodNamed Bd.named
  have hnm := (name_of_methodNamed Bd.named Bd.method).1
  have X0 : Stand p l e ({ frames := 0, cells := 0, slots := 0, locals := 0 } : Room) s m #[(.int p0)] below meth c s₁ [] 0 0 := Stand.of_body Bd
  have e0 : s₁.heap = h0 := by rw [← hh, Bd.state]; rfl
  have N0 := Fr.nil n0
  refine own_start ?_
  refine own_via (fun t k => castTop (ef_rm20 m p0) k) ?_
  show own_Go p e below _ (s₁.setTop (mkF m 0 #[oI p0] []))
  refine own_via (fun t kz => XS.iloadN X0.here hx rfl (hb hby d20_0) rfl kz) ?_
  show own_Go p e below _ (s₁.setTop (mkF m 1 #[oI p0] [(.int p0)]))
  refine own_via (fun t kz => XS.ifYes X0.here hx rfl (pc0 := 1) (pc' := 12) rfl (hb hby d20_1) rfl ((if0 _ _).trans (flt hn0).2.1) (by decide) (by decide) kz) ?_
  refine own_via (fun t kz => XS.iloadN X0.here hx rfl (hb hby d20_12) rfl kz) ?_
  show own_Go p e below _ (s₁.setTop (mkF m 13 #[oI p0] [(.int p0)]))
  refine own_via (fun t kz => X0.ldcInt hx hown (mvT hZ (own_w hw 106)) (g := (mkF m 13 #[oI p0] [(.int p0)])) rfl (hb hby d20_13) t kz) ?_
  show own_Go p e below _ (s₁.setTop (mkF m 15 #[oI p0] [(.int (1073741823 : Int32)), (.int p0)]))
  refine own_via (fun t kz => XS.icmpYes X0.here hx rfl (pc0 := 15) (pc' := 55) rfl (hb hby d20_15) rfl (tlt hn1).1 (by decide) (by decide) kz) ?_
  refine own_via (fun t kz => XS.iloadN X0.here hx rfl (hb hby d20_55) rfl kz) ?_
  refine own_via (fun t kz => XS.iconst X0.here hx rfl (hb hby d20_56) kz) ?_
  show own_Go p e below _ (s₁.setTop (mkF m 57 #[oI p0] [(.int (1 : Int32)), (.int p0)]))
  refine own_via (fun t kz => XS.ishl X0.here hx rfl (hb hby d20_57) rfl kz) ?_
  show own_Go p e below _ (s₁.setTop (mkF m 58 #[oI p0] [(.int (p0 <<< ((1 : Int32) &&& 31)))]))
  have hv : (f20 p0) = (p0 <<< ((1 : Int32) &&& 31)) := by unfold f20; rfl
  obtain ⟨fs, hr, hrun, hended, hW, hsame⟩ := X0.leave (v := some (.int (p0 <<< ((1 : Int32) &&& 31)))) (fun h => by rw [Bd.returns] at h; cases h)
  refine ⟨_, _, retI X0 hx Bd.returns (hb hby d20_58) hr, hrun, hended, _, _, rfl, ?_, ⟨_, rfl⟩, hW, hsame.mono (by decide) (by decide)⟩
  show Q20 Z p0 r h0 n0 _ s₁.heap _
  rw [e0]
  exact ⟨by rw [← hr0, hv], N0, rfl⟩
def f16 (p0 : Int32) : Int32 := p0
theorem d16_0 : decode jdk_41_method_11_code 0 = .ok (.iload_n 0, 1) := by decide +kernel
theorem d16_1 : decode jdk_41_method_11_code 1 = .ok (.ifCond .lt 8, 3) := by decide +kernel
theorem d16_4 : decode jdk_41_method_11_code 4 = .ok (.iload_n 0, 1) := by decide +kernel
theorem d16_5 : decode jdk_41_method_11_code 5 = .ok (.iload_n 1, 1) := by decide +kernel
theorem d16_6 : decode jdk_41_method_11_code 6 = .ok (.if_icmp .lt 10, 3) := by decide +kernel
theorem d16_16 : decode jdk_41_method_11_code 16 = .ok (.iload_n 0, 1) := by decide +kernel
theorem d16_17 : decode jdk_41_method_11_code 17 = .ok (.ireturn, 1) := by decide +kernel
theorem pn_16 : plainName "jdk/internal/util/Preconditions" = true := by first | (simp [plainName, overriddenIn]; done) | decide +kernel
theorem ef_rm16 (m : MethodId) (q0 : Int32) (q1 : Int32) (q2 : Value) (hq2 : q2.isRef = true) : entryFrame m #[(.int q0), (.int q1), q2] 3 = mkF m 0 #[oI q0, oI q1, .val q2] [] := by rcases ref_cases hq2 with rfl | ⟨_, rfl⟩ <;> (first | (simp [entryFrame, mkF, argsToLocals, Value.category]; done) | rfl)
def Q16 (Z : State) (p0 : Int32) (p1 : Int32) (p2 : Value) (r : Int32) (h0 : Heap) (n0 : Nat) (v : Option Value) (h : Heap) (L : List Loc) : Prop := v = some (.int r) ∧ Fr n0 L ∧ h = h0
set_option maxRecDepth 65536 in
set_option maxHeartbeats 40000000 in
theorem rm16 (l : Launch) (Z : State) (a0 : Array Value) (hw : ∀ d ∈ tables_1, d.before a0 Z = true) (ws : List Jvm.Cond) (p0 : Int32) (p1 : Int32) (p2 : Value) (r : Int32) (h0 : Heap) (n0 : Nat) (Z0 : n0 ≤ h0.size) (r_p2 : p2.isRef = true) (hq0 : ¬ (p0 < (0 : Int32))) (hq1 : p0 < p1) (hr0 : (f16 p0) = r) :
    MetFree l (⟨"jdk/internal/util/Preconditions", "checkIndex", "(IILjava/util/function/BiFunction;)I"⟩ : MethodName) (head1 (Jvm.Cond.code (⟨"jdk/internal/util/Preconditions", "checkIndex", "(IILjava/util/function/BiFunction;)I"⟩ : MethodName) jdk_41_method_11_code 3 (some .int) :: ws) ({ frames := 0, cells := 0, slots := 0, locals := 0 } : Room)) (fun a U => a = #[(.int p0), (.int p1), p2] ∧ Z.Warmed39 U.vm ∧ U.heap = h0) (fun _ _ _ _ _ => True) (fun _ U o U' => ∃ v L, o = .returned v ∧ Q16 Z p0 p1 p2 r h0 n0 v U'.heap L ∧ FrameEnd U o U' L ({ frames := 0, cells := 0, slots := 0, locals := 0 } : Room).cells ({ frames := 0, cells := 0, slots := 0, locals := 0 } : Room).slots) := by
  refine MetFree.of_bodySF (plainFor_of_name pn_16) hisR ?_
  intro p e s m args below meth c s₁ Bd hml0 hP hK
  obtain ⟨rfl, hZ, hh⟩ := hP
  have hx := Bd.exec
  have hby := Bd.bytes
  have hml : c.maxLocals = 3 := hml0
  have hown : s.vm.findClass "jdk/internal/util/Preconditions" = some m.cls := findClass_of_methodNamed Bd.named
  have hnm := (name_of_methodNamed Bd.named Bd.method).1
  have X0 : Stand p l e ({ frames := 0, cells := 0, slots := 0, locals := 0 } : Room) s m #[(.int p0), (.int p1), p2] below meth c s₁ [] 0 0 := Stand.of_body Bd
  have e0 : s₁.heap = h0 := by rw [← hh, Bd.state]; rfl
  have N0 := Fr.nil n0
  refine own_start ?_
  refine own_via (fun t k => castTop (ef_rm16 m p0 p1 p2 r_p2) k) ?_
  show own_Go p e below _ (s₁.setTop (mkF m 0 #[oI p0, oI p1, .val p2] []))
  refine own_via (fun t kz => XS.iloadN X0.here hx rfl (hb hby d16_0) rfl kz) ?_
  show own_Go p e below _ (s₁.setTop (mkF m 1 #[oI p0, oI p1, .val p2] [(.int p0)]))
  refine own_via (fun t kz => XS.ifNo X0.here hx rfl (hb hby d16_1) rfl ((if0 _ _).trans (flt hq0).1) kz) ?_
  refine own_via (fun t kz => XS.iloadN X0.here hx rfl (hb hby d16_4) rfl kz) ?_
  refine own_via (fun t kz => XS.iloadN X0.here hx rfl (hb hby d16_5) rfl kz) ?_
  show own_Go p e below _ (s₁.setTop (mkF m 6 #[oI p0, oI p1, .val p2] [(.int p1), (.int p0)]))
  refine own_via (fun t kz => XS.icmpYes X0.here hx rfl (pc0 := 6) (pc' := 16) rfl (hb hby d16_6) rfl (tlt hq1).1 (by decide) (by decide) kz) ?_
  refine own_via (fun t kz => XS.iloadN X0.here hx rfl (hb hby d16_16) rfl kz) ?_
  show own_Go p e below _ (s₁.setTop (mkF m 17 #[oI p0, oI p1, .val p2] [(.int p0)]))
  have hv : (f16 p0) = p0 := by unfold f16; rfl
  obtain ⟨fs, hr, hrun, hended, hW, hsame⟩ := X0.leave (v := some (.int p0)) (fun h => by rw [Bd.returns] at h; cases h)
  refine ⟨_, _, retI X0 hx Bd.returns (hb hby d16_17) hr, hrun, hended, _, _, rfl, ?_, ⟨_, rfl⟩, hW, hsame.mono (by decide) (by decide)⟩
  show Q16 Z p0 p1 p2 r h0 n0 _ s₁.heap _
  rw [e0]
  exact ⟨by rw [← hr0, hv], N0, rfl⟩
theorem d15_0 : decode jdk_42_method_155_code 0 = .ok (.iload_n 0, 1) := by decide +kernel
theorem d15_1 : decode jdk_42_method_155_code 1 = .ok (.iload_n 1, 1) := by decide +kernel
theorem d15_2 : decode jdk_42_method_155_code 2 = .ok (.getstatic 1053, 3) := by decide +kernel
theorem d15_5 : decode jdk_42_method_155_code 5 = .ok (.invokestatic 1059, 3) := by decide +kernel
theorem d15_8 : decode jdk_42_method_155_code 8 = .ok (.pop, 1) := by decide +kernel
theorem d15_9 : decode jdk_42_method_155_code 9 = .ok (.return_, 1) := by decide +kernel
theorem pn_15 : plainName "java/lang/String" = true := by first | (simp [plainName, overriddenIn]; done) | decide +kernel
theorem pd_15_0 : parseMethodDescriptor "(IILjava/util/function/BiFunction;)I" = some ⟨[.int, .int, (.object "java/util/function/BiFunction")], some .int⟩ := by decide +kernel
theorem ef_rm15 (m : MethodId) (q0 : Int32) (q1 : Int32) : entryFrame m #[(.int q0), (.int q1)] 2 = mkF m 0 #[oI q0, oI q1] [] := by first | (simp [entryFrame, mkF, argsToLocals, Value.category]; done) | rfl
def Q15 (Z : State) (p0 : Int32) (p1 : Int32) (wsf : Value) (h0 : Heap) (n0 : Nat) (v : Option Value) (h : Heap) (L : List Loc) : Prop := v = none ∧ Fr n0 L ∧ h = h0
set_option maxRecDepth 65536 in
set_option maxHeartbeats 40000000 in
theorem rm15 (l : Launch) (Z : State) (a0 : Array Value) (hw : ∀ d ∈ tables_1, d.before a0 Z = true) (ws : List Jvm.Cond) (p0 : Int32) (p1 : Int32) (wsf : Value) (h0 : Heap) (n0 : Nat) (Z0 : n0 ≤ h0.size) (rsf : wsf.isRef = true) (S_wsf : Sta Z h0 "jdk/internal/util/Preconditions" "SIOOBE_FORMATTER" "Ljava/util/function/BiFunction;" wsf) (hq0 : ¬ (p0 < (0 : Int32))) (hq1 : p0 < p1) :
    MetFree l (⟨"java/lang/String", "checkIndex", "(II)V"⟩ : MethodName) (head1 (Jvm.Cond.code (⟨"java/lang/String", "checkIndex", "(II)V"⟩ : MethodName) jdk_42_method_155_code 2 none :: ws) ({ frames := 1, cells := 0, slots := 0, locals := 14 } : Room)) (fun a U => a = #[(.int p0), (.int p1)] ∧ Z.Warmed39 U.vm ∧ U.heap = h0) (fun _ _ _ _ _ => True) (fun _ U o U' => ∃ v L, o = .returned v ∧ Q15 Z p0 p1 wsf h0 n0 v U'.heap L ∧ FrameEnd U o U' L ({ frames := 1, cells := 0, slots := 0, locals := 14 } : Room).cells ({ frames := 1, cells := 0, slots := 0, locals := 14 } : Room).slots) := by
  refine MetFree.of_bodySF (plainFor_of_name pn_15) hisR ?_
  intro p e s m args below meth c s₁ Bd hml0 hP hK
  obtain ⟨rfl, hZ, hh⟩ := hP
  have hx := Bd.exec
  have hby := Bd.bytes
  have hml : c.maxLocals = 2 := hml0
  have hown : s.vm.findClass "java/lang/String" = some m.cls := findClass_of_methodNamed Bd.named
  have hnm := (name_of_methodNamed Bd.named Bd.method).1
  have X0 : Stand p l e ({ frames := 1, cells := 0, slots := 0, locals := 14 } : Room) s m #[(.int p0), (.int p1)] below meth c s₁ [] 0 0 := Stand.of_body Bd
  have e0 : s₁.heap = h0 := by rw [← hh, Bd.state]; rfl
  have N0 := Fr.nil n0
  refine own_start ?_
  refine own_via (fun t k => castTop (ef_rm15 m p0 p1) k) ?_
  show own_Go p e below _ (s₁.setTop (mkF m 0 #[oI p0, oI p1] []))
  refine own_via (fun t kz => XS.iloadN X0.here hx rfl (hb hby d15_0) rfl kz) ?_
  refine own_via (fun t kz => XS.iloadN X0.here hx rfl (hb hby d15_1) rfl kz) ?_
  show own_Go p e below _ (s₁.setTop (mkF m 2 #[oI p0, oI p1] [(.int p1), (.int p0)]))
  obtain ⟨T1, X1, e1, st1⟩ := getS2 X0 hx hZ hown (host := "") (Or.inl (own_w hw 83)) Via.refl e0 S_wsf (g := (mkF m 2 #[oI p0, oI p1] [(.int p1), (.int p0)])) rfl (hb hby d15_2)
  refine own_via st1 ?_
  show own_Go p e below _ (T1.setTop (mkF m 5 #[oI p0, oI p1] [wsf, (.int p1), (.int p0)]))
  obtain ⟨_, _, ⟨T2, L2, k2, n2⟩, -, X2, ⟨Lc2, hQ2, l2, y2, z2⟩, st2⟩ := Jvm.LawKit.callS X1 hx (y := (⟨"jdk/internal/util/Preconditions", "checkIndex", "(IILjava/util/function/BiFunction;)I"⟩ : MethodName)) hown (mvT hZ (own_w hw 85)) (mvT hZ (own_w hw 86)) (mvT hZ (own_w hw 84)) (mvT hZ (own_w hw 87)) (by decide) (backOf (W := 0) (rm16 l Z a0 hw [] p0 p1 wsf p0 h0 n0 Z0 rsf hq0 hq1 rfl) hZ (own_w hw 87) (own_w hw 84) (by decide) (by decide)) (g := (mkF m 5 #[oI p0, oI p1] [wsf, (.int p1), (.int p0)])) rfl (by rw [hml]; rfl) (argsL := [(.int p0), (.int p1), wsf]) (rest := []) (lenOf pd_15_0 rfl) rfl (by show 2 * 0 + _ ≤ _; exact Nat.le_of_eq rfl) (hb hby d15_5) (fun _ _ => ⟨rfl, e1, (by decide : 0 + 0 ≤ _), (by decide : 0 + 0 ≤ _)⟩)
  dsimp only [Pt.U, Pt.locs, Pt.cells, Pt.slots] at X2 l2 y2 z2 st2 hQ2
  subst l2 y2 z2
  obtain ⟨rfl, Nq2, e2⟩ := hQ2
  have N3 := Fr.app N0 Nq2
  refine own_via st2 ?_
  show own_Go p e below _ (T2.setTop (mkF m 8 #[oI p0, oI p1] [(.int p0)]))
  refine own_via (fun t kz => XS.pop X2.here hx rfl (hb hby d15_8) rfl rfl kz) ?_
  show own_Go p e below _ (T2.setTop (mkF m 9 #[oI p0, oI p1] []))
  obtain ⟨fs, hr, hrun, hended, hW, hsame⟩ := X2.leave (v := none) (fun _ => rfl)
  refine ⟨_, _, X2.returnOut hx Bd.returns (hb hby d15_9) hr, hrun, hended, _, _, rfl, ?_, ⟨_, rfl⟩, hW, hsame.mono (by decide) (by decide)⟩
  show Q15 Z p0 p1 wsf h0 n0 _ T2.heap _
  rw [e2]
  exact ⟨rfl, N3, rfl⟩
def f11 (wco : Int32) : Int32 := wco
theorem d11_0 : decode jdk_42_method_152_code 0 = .ok (.getstatic 38, 3) := by decide +kernel
theorem d11_3 : decode jdk_42_method_152_code 3 = .ok (.ifCond .eq 10, 3) := by decide +kernel
theorem d11_6 : decode jdk_42_method_152_code 6 = .ok (.aload_n 0, 1) := by decide +kernel
theorem d11_7 : decode jdk_42_method_152_code 7 = .ok (.getfield 15, 3) := by decide +kernel
theorem d11_10 : decode jdk_42_method_152_code 10 = .ok (.goto 4, 3) := by decide +kernel
theorem d11_14 : decode jdk_42_method_152_code 14 = .ok (.ireturn, 1) := by decide +kernel
theorem ef_rm11 (m : MethodId) (q0 : Addr) : entryFrame m #[(.ref q0)] 1 = mkF m 0 #[oR q0] [] := by first | (simp [entryFrame, mkF, argsToLocals, Value.category]; done) | rfl
def Q11 (Z : State) (this : Addr) (wco : Int32) (wcs : Int32) (r : Int32) (h0 : Heap) (n0 : Nat) (v : Option Value) (h : Heap) (L : List Loc) : Prop := v = some (.int r) ∧ Fr n0 L ∧ h = h0
set_option maxRecDepth 65536 in
set_option maxHeartbeats 40000000 in
theorem rm11 (l : Launch) (Z : State) (a0 : Array Value) (hw : ∀ d ∈ tables_1, d.before a0 Z = true) (ws : List Jvm.Cond) (this : Addr) (wco : Int32) (wcs : Int32) (r : Int32) (h0 : Heap) (n0 : Nat) (Z0 : n0 ≤ h0.size) (hcs : ¬ (wcs = (0 : Int32))) (hnw : narrow .byte (.int wco) = .int wco) (F_wco : Fld Z h0 this "java/lang/String" "coder" "B" (.int wco)) (S_wcs : Sta Z h0 "java/lang/String" "COMPACT_STRINGS" "Z" (.int wcs)) (hr0 : (f11 wco) = r) :
    MetFree l (⟨"java/lang/String", "coder", "()B"⟩ : MethodName) (head1 (Jvm.Cond.code (⟨"java/lang/String", "coder", "()B"⟩ : MethodName) jdk_42_method_152_code 1 (some .byte) :: ws) ({ frames := 0, cells := 0, slots := 0, locals := 0 } : Room)) (fun a U => a = #[(.ref this)] ∧ Z.Warmed39 U.vm ∧ U.heap = h0) (fun _ _ _ _ _ => True) (fun _ U o U' => ∃ v L, o = .returned v ∧ Q11 Z this wco wcs r h0 n0 v U'.heap L ∧ FrameEnd U o U' L ({ frames := 0, cells := 0, slots := 0, locals := 0 } : Room).cells ({ frames := 0, cells := 0, slots := 0, locals := 0 } : Room).slots) := by
  refine MetFree.of_bodySF (plainFor_of_name pn_15) hisR ?_
  intro p e s m args below meth c s₁ Bd hml0 hP hK
  obtain ⟨rfl, hZ, hh⟩ := hP
  have hx := Bd.exec
  have hby := Bd.bytes
  have hml : c.maxLocals = 1 := hml0
  have hown : s.vm.findClass "java/lang/String" = some m.cls := findClass_of_methodNamed Bd.named
  have hnm := (name_of_methodNamed Bd.named Bd.method).1
  have X0 : Stand p l e ({ frames := 0, cells := 0, slots := 0, locals := 0 } : Room) s m #[(.ref this)] below meth c s₁ [] 0 0 := Stand.of_body Bd
  have e0 : s₁.heap = h0 := by rw [← hh, Bd.state]; rfl
  have N0 := Fr.nil n0
  refine own_start ?_
  refine own_via (fun t k => castTop (ef_rm11 m this) k) ?_
  show own_Go p e below _ (s₁.setTop (mkF m 0 #[oR this] []))
  obtain ⟨T1, X1, e1, st1⟩ := getS2 X0 hx hZ hown (host := "") (Or.inl (own_w hw 26)) Via.refl e0 S_wcs (g := (mkF m 0 #[oR this] [])) rfl (hb hby d11_0)
  refine own_via st1 ?_
  show own_Go p e below _ (T1.setTop (mkF m 3 #[oR this] [(.int wcs)]))
  refine own_via (fun t kz => XS.ifNo X1.here hx rfl (hb hby d11_3) rfl ((if0 _ _).trans (feq hcs).1) kz) ?_
  refine own_via (fun t kz => XS.aloadN X1.here hx rfl (hb hby d11_6) rfl rfl kz) ?_
  show own_Go p e below _ (T1.setTop (mkF m 7 #[oR this] [(.ref this)]))
  obtain ⟨T2, X2, e2, st2⟩ := getF X1 hx hZ hown (host := "") (Or.inl (own_w hw 38)) Via.refl e1 F_wco (g := (mkF m 7 #[oR this] [(.ref this)])) rfl rfl (hb hby d11_7)
  refine own_via st2 ?_
  refine own_via (fun t kz => XS.goto X2.here hx rfl (pc0 := 10) (pc' := 14) rfl (hb hby d11_10) (by decide) (by decide) kz) ?_
  show own_Go p e below _ (T2.setTop (mkF m 14 #[oR this] [(.int wco)]))
  have hv : (f11 wco) = wco := by unfold f11; rfl
  obtain ⟨fs, hr, hrun, hended, hW, hsame⟩ := X2.leave (v := some (.int wco)) (fun h => by rw [Bd.returns] at h; cases h)
  refine ⟨_, _, retOut X2 hx (i := .ireturn) Bd.returns (hnw) (Or.inl ⟨rfl, by simp, _, rfl⟩) (hb hby d11_14) hr, hrun, hended, _, _, rfl, ?_, ⟨_, rfl⟩, hW, hsame.mono (by decide) (by decide)⟩
  show Q11 Z this wco wcs r h0 n0 _ T2.heap _
  rw [e2]
  exact ⟨by rw [← hr0, hv], N0, rfl⟩
def f13 (wco : Int32) : Int32 := (if wco = (0 : Int32) then (1 : Int32) else (0 : Int32))
theorem d13_0 : decode jdk_42_method_154_code 0 = .ok (.getstatic 38, 3) := by decide +kernel
theorem d13_3 : decode jdk_42_method_154_code 3 = .ok (.ifCond .eq 14, 3) := by decide +kernel
theorem d13_6 : decode jdk_42_method_154_code 6 = .ok (.aload_n 0, 1) := by decide +kernel
theorem d13_7 : decode jdk_42_method_154_code 7 = .ok (.getfield 15, 3) := by decide +kernel
theorem d13_10 : decode jdk_42_method_154_code 10 = .ok (.ifCond .ne 7, 3) := by decide +kernel
theorem d13_13 : decode jdk_42_method_154_code 13 = .ok (.iconst 1, 1) := by decide +kernel
theorem d13_14 : decode jdk_42_method_154_code 14 = .ok (.goto 4, 3) := by decide +kernel
theorem d13_17 : decode jdk_42_method_154_code 17 = .ok (.iconst 0, 1) := by decide +kernel
theorem d13_18 : decode jdk_42_method_154_code 18 = .ok (.ireturn, 1) := by decide +kernel
theorem ef_rm13 (m : MethodId) (q0 : Addr) : entryFrame m #[(.ref q0)] 1 = mkF m 0 #[oR q0] [] := by first | (simp [entryFrame, mkF, argsToLocals, Value.category]; done) | rfl
def Q13 (Z : State) (this : Addr) (wco : Int32) (wcs : Int32) (r : Int32) (h0 : Heap) (n0 : Nat) (v : Option Value) (h : Heap) (L : List Loc) : Prop := v = some (.int r) ∧ Fr n0 L ∧ h = h0
set_option maxRecDepth 65536 in
set_option maxHeartbeats 40000000 in
theorem rm13 (l : Launch) (Z : State) (a0 : Array Value) (hw : ∀ d ∈ tables_1, d.before a0 Z = true) (ws : List Jvm.Cond) (this : Addr) (wco : Int32) (wcs : Int32) (r : Int32) (h0 : Heap) (n0 : Nat) (Z0 : n0 ≤ h0.size) (hcs : ¬ (wcs = (0 : Int32))) (F_wco : Fld Z h0 this "java/lang/String" "coder" "B" (.int wco)) (S_wcs : Sta Z h0 "java/lang/String" "COMPACT_STRINGS" "Z" (.int wcs)) (hr0 : (f13 wco) = r) :
    MetFree l (⟨"java/lang/String", "isLatin1", "()Z"⟩ : MethodName) (head1 (Jvm.Cond.code (⟨"java/lang/String", "isLatin1", "()Z"⟩ : MethodName) jdk_42_method_154_code 1 (some .boolean) :: ws) ({ frames := 0, cells := 0, slots := 0, locals := 0 } : Room)) (fun a U => a = #[(.ref this)] ∧ Z.Warmed39 U.vm ∧ U.heap = h0) (fun _ _ _ _ _ => True) (fun _ U o U' => ∃ v L, o = .returned v ∧ Q13 Z this wco wcs r h0 n0 v U'.heap L ∧ FrameEnd U o U' L ({ frames := 0, cells := 0, slots := 0, locals := 0 } : Room).cells ({ frames := 0, cells := 0, slots := 0, locals := 0 } : Room).slots) := by
  refine MetFree.of_bodySF (plainFor_of_name pn_15) hisR ?_
  intro p e s m args below meth c s₁ Bd hml0 hP hK
  obtain ⟨rfl, hZ, hh⟩ := hP
  have hx := Bd.exec
  have hby := Bd.bytes
  have hml : c.maxLocals = 1 := hml0
  have hown : s.vm.findClass "java/lang/String" = some m.cls := findClass_of_methodNamed Bd.named
  have hnm := (name_of_methodNamed Bd.named Bd.method).1
  have X0 : Stand p l e ({ frames := 0, cells := 0, slots := 0, locals := 0 } : Room) s m #[(.ref this)] below meth c s₁ [] 0 0 := Stand.of_body Bd
  have e0 : s₁.heap = h0 := by rw [← hh, Bd.state]; rfl
  have N0 := Fr.nil n0
  refine own_start ?_
  refine own_via (fun t k => castTop (ef_rm13 m this) k) ?_
  show own_Go p e below _ (s₁.setTop (mkF m 0 #[oR this] []))
  obtain ⟨T1, X1, e1, st1⟩ := getS2 X0 hx hZ hown (host := "") (Or.inl (own_w hw 26)) Via.refl e0 S_wcs (g := (mkF m 0 #[oR this] [])) rfl (hb hby d13_0)
  refine own_via st1 ?_
  show own_Go p e below _ (T1.setTop (mkF m 3 #[oR this] [(.int wcs)]))
  refine own_via (fun t kz => XS.ifNo X1.here hx rfl (hb hby d13_3) rfl ((if0 _ _).trans (feq hcs).1) kz) ?_
  refine own_via (fun t kz => XS.aloadN X1.here hx rfl (hb hby d13_6) rfl rfl kz) ?_
  show own_Go p e below _ (T1.setTop (mkF m 7 #[oR this] [(.ref this)]))
  obtain ⟨T2, X2, e2, st2⟩ := getF X1 hx hZ hown (host := "") (Or.inl (own_w hw 38)) Via.refl e1 F_wco (g := (mkF m 7 #[oR this] [(.ref this)])) rfl rfl (hb hby d13_7)
  refine own_via st2 ?_
  show own_Go p e below _ (T2.setTop (mkF m 10 #[oR this] [(.int wco)]))
  by_cases hc10_3 : wco = (0 : Int32)
  · refine own_via (fun t kz => XS.ifNo X2.here hx rfl (hb hby d13_10) rfl ((if0 _ _).trans (teq hc10_3).2) kz) ?_
    refine own_via (fun t kz => XS.iconst X2.here hx rfl (hb hby d13_13) kz) ?_
    refine own_via (fun t kz => XS.goto X2.here hx rfl (pc0 := 14) (pc' := 18) rfl (hb hby d13_14) (by decide) (by decide) kz) ?_
    show own_Go p e below _ (T2.setTop (mkF m 18 #[oR this] [(.int (1 : Int32))]))
    have hv : (f13 wco) = (1 : Int32) := by unfold f13; rw [if_pos hc10_3]
    obtain ⟨fs, hr, hrun, hended, hW, hsame⟩ := X2.leave (v := some (.int (1 : Int32))) (fun h => by rw [Bd.returns] at h; cases h)
    refine ⟨_, _, retN X2 hx (t := .boolean) Bd.returns (by simp) (hb hby d13_18) hr, hrun, hended, _, _, rfl, ?_, ⟨_, rfl⟩, hW, hsame.mono (by decide) (by decide)⟩
    show Q13 Z this wco wcs r h0 n0 _ T2.heap _
    rw [e2]
    exact ⟨by rw [← hr0, hv], N0, rfl⟩
  · refine own_via (fun t kz => XS.ifYes X2.here hx rfl (pc0 := 10) (pc' := 17) rfl (hb hby d13_10) rfl ((if0 _ _).trans (feq hc10_3).2) (by decide) (by decide) kz) ?_
    refine own_via (fun t kz => XS.iconst X2.here hx rfl (hb hby d13_17) kz) ?_
    show own_Go p e below _ (T2.setTop (mkF m 18 #[oR this] [(.int (0 : Int32))]))
    have hv : (f13 wco) = (0 : Int32) := by unfold f13; rw [if_neg hc10_3]
    obtain ⟨fs, hr, hrun, hended, hW, hsame⟩ := X2.leave (v := some (.int (0 : Int32))) (fun h => by rw [Bd.returns] at h; cases h)
    refine ⟨_, _, retN X2 hx (t := .boolean) Bd.returns (by simp) (hb hby d13_18) hr, hrun, hended, _, _, rfl, ?_, ⟨_, rfl⟩, hW, hsame.mono (by decide) (by decide)⟩
    show Q13 Z this wco wcs r h0 n0 _ T2.heap _
    rw [e2]
    exact ⟨by rw [← hr0, hv], N0, rfl⟩
def own_cnt6 (c0_ c1_ c2_ c3_ c4_ c5_ : Int32) : Int32 := if (255 : Int32) < c0_ then (0 : Int32) else if (255 : Int32) < c1_ then (1 : Int32) else if (255 : Int32) < c2_ then (2 : Int32) else if (255 : Int32) < c3_ then (3 : Int32) else if (255 : Int32) < c4_ then (4 : Int32) else if (255 : Int32) < c5_ then (5 : Int32) else (6 : Int32)
def fC6_6  : Int32 := (((((6 : Int32) - (6 : Int32)).toUInt32 >>> ((31 : Int32) &&& 31).toUInt32).toInt32).toInt8.toInt32)
theorem d8_0 : decode jdk_52_method_15_code 0 = .ok (.iload_n 1, 1) := by decide +kernel
theorem d8_1 : decode jdk_52_method_15_code 1 = .ok (.aload_n 0, 1) := by decide +kernel
theorem d8_2 : decode jdk_52_method_15_code 2 = .ok (.arraylength, 1) := by decide +kernel
theorem d8_3 : decode jdk_52_method_15_code 3 = .ok (.isub, 1) := by decide +kernel
theorem d8_4 : decode jdk_52_method_15_code 4 = .ok (.bipush 31, 2) := by decide +kernel
theorem d8_6 : decode jdk_52_method_15_code 6 = .ok (.iushr, 1) := by decide +kernel
theorem d8_7 : decode jdk_52_method_15_code 7 = .ok (.i2b, 1) := by decide +kernel
theorem d8_8 : decode jdk_52_method_15_code 8 = .ok (.ireturn, 1) := by decide +kernel
theorem ef_rmC6_6 (m : MethodId) (q0 : Addr) : entryFrame m #[(.ref q0), (.int (6 : Int32))] 2 = mkF m 0 #[oR q0, oI (6 : Int32)] [] := by first | (simp [entryFrame, mkF, argsToLocals, Value.category]; done) | rfl
def QC6_6 (Z : State) (p0 : Addr) (ka : ClassId) (b0_ : Int32) (b1_ : Int32) (b2_ : Int32) (b3_ : Int32) (b4_ : Int32) (b5_ : Int32) (r : Int32) (h0 : Heap) (n0 : Nat) (v : Option Value) (h : Heap) (L : List Loc) : Prop := v = some (.int r) ∧ Fr n0 L ∧ h = h0
set_option maxRecDepth 65536 in
set_option maxHeartbeats 40000000 in
theorem rmC6_6 (l : Launch) (Z : State) (a0 : Array Value) (hw : ∀ d ∈ tables_1, d.before a0 Z = true) (ws : List Jvm.Cond) (p0 : Addr) (ka : ClassId) (b0_ : Int32) (b1_ : Int32) (b2_ : Int32) (b3_ : Int32) (b4_ : Int32) (b5_ : Int32) (r : Int32) (h0 : Heap) (n0 : Nat) (Z0 : n0 ≤ h0.size) (V_p0 : Arv Z h0 p0 ka .byte (6 : Int32) [(.int b0_), (.int b1_), (.int b2_), (.int b3_), (.int b4_), (.int b5_)] (.int (0 : Int32))) (hr0 : fC6_6 = r) :
    MetFree l (⟨"java/lang/StringUTF16", "coderFromArrayLen", "([BI)B"⟩ : MethodName) (head1 (Jvm.Cond.code (⟨"java/lang/StringUTF16", "coderFromArrayLen", "([BI)B"⟩ : MethodName) jdk_52_method_15_code 2 (some .byte) :: ws) ({ frames := 0, cells := 0, slots := 0, locals := 0 } : Room)) (fun a U => a = #[(.ref p0), (.int (6 : Int32))] ∧ Z.Warmed39 U.vm ∧ U.heap = h0) (fun _ _ _ _ _ => True) (fun _ U o U' => ∃ v L, o = .returned v ∧ QC6_6 Z p0 ka b0_ b1_ b2_ b3_ b4_ b5_ r h0 n0 v U'.heap L ∧ FrameEnd U o U' L ({ frames := 0, cells := 0, slots := 0, locals := 0 } : Room).cells ({ frames := 0, cells := 0, slots := 0, locals := 0 } : Room).slots) := by
  refine MetFree.of_bodySF (plainFor_of_name pn_20) hisR ?_
  intro p e s m args below meth c s₁ Bd hml0 hP hK
  obtain ⟨rfl, hZ, hh⟩ := hP
  have hx := Bd.exec
  have hby := Bd.bytes
  have hml : c.maxLocals = 2 := hml0
  have hown : s.vm.findClass "java/lang/StringUTF16" = some m.cls := findClass_of_methodNamed Bd.named
  have hnm := (name_of_methodNamed Bd.named Bd.method).1
  have X0 : Stand p l e ({ frames := 0, cells := 0, slots := 0, locals := 0 } : Room) s m #[(.ref p0), (.int (6 : Int32))] below meth c s₁ [] 0 0 := Stand.of_body Bd
  have e0 : s₁.heap = h0 := by rw [← hh, Bd.state]; rfl
  have N0 := Fr.nil n0
  refine own_start ?_
  refine own_via (fun t k => castTop (ef_rmC6_6 m p0) k) ?_
  show own_Go p e below _ (s₁.setTop (mkF m 0 #[oR p0, oI (6 : Int32)] []))
  refine own_via (fun t kz => XS.iloadN X0.here hx rfl (hb hby d8_0) rfl kz) ?_
  refine own_via (fun t kz => XS.aloadN X0.here hx rfl (hb hby d8_1) rfl rfl kz) ?_
  show own_Go p e below _ (s₁.setTop (mkF m 2 #[oR p0, oI (6 : Int32)] [(.ref p0), (.int (6 : Int32))]))
  obtain ⟨cl1, Ar1, kc1, Sz1, Nn1, Hs1, Gs1⟩ := id V_p0
  refine own_via (fun t kz => X0.arraylength hx (by rw [e0]; exact Ar1.1) (State.isArrayOf_alike hZ.alike Ar1.2.1) (g := (mkF m 2 #[oR p0, oI (6 : Int32)] [(.ref p0), (.int (6 : Int32))])) rfl rfl (hb hby d8_2) t kz) ?_
  show own_Go p e below _ (s₁.setTop (mkF m 3 #[oR p0, oI (6 : Int32)] [(.int (cl1.slots.size.toInt32)), (.int (6 : Int32))]))
  rw [len_of Sz1 Nn1]
  show own_Go p e below _ (s₁.setTop (mkF m 3 #[oR p0, oI (6 : Int32)] [(.int (6 : Int32)), (.int (6 : Int32))]))
  refine own_via (fun t kz => XS.isub X0.here hx rfl (hb hby d8_3) rfl kz) ?_
  refine own_via (fun t kz => XS.bipush X0.here hx rfl (hb hby d8_4) kz) ?_
  show own_Go p e below _ (s₁.setTop (mkF m 6 #[oR p0, oI (6 : Int32)] [(.int (31 : Int32)), (.int ((6 : Int32) - (6 : Int32)))]))
  refine own_via (fun t kz => XS.iushr X0.here hx rfl (hb hby d8_6) rfl kz) ?_
  show own_Go p e below _ (s₁.setTop (mkF m 7 #[oR p0, oI (6 : Int32)] [(.int ((((6 : Int32) - (6 : Int32)).toUInt32 >>> ((31 : Int32) &&& 31).toUInt32).toInt32))]))
  refine own_via (fun t kz => XS.i2b X0.here hx rfl (hb hby d8_7) rfl kz) ?_
  show own_Go p e below _ (s₁.setTop (mkF m 8 #[oR p0, oI (6 : Int32)] [(.int (((((6 : Int32) - (6 : Int32)).toUInt32 >>> ((31 : Int32) &&& 31).toUInt32).toInt32).toInt8.toInt32))]))
  have hv : fC6_6 = (((((6 : Int32) - (6 : Int32)).toUInt32 >>> ((31 : Int32) &&& 31).toUInt32).toInt32).toInt8.toInt32) := by unfold fC6_6; rfl
  obtain ⟨fs, hr, hrun, hended, hW, hsame⟩ := X0.leave (v := some (.int (((((6 : Int32) - (6 : Int32)).toUInt32 >>> ((31 : Int32) &&& 31).toUInt32).toInt32).toInt8.toInt32))) (fun h => by rw [Bd.returns] at h; cases h)
  refine ⟨_, _, retOut X0 hx (i := .ireturn) Bd.returns (by decide) (Or.inl ⟨rfl, by simp, _, rfl⟩) (hb hby d8_8) hr, hrun, hended, _, _, rfl, ?_, ⟨_, rfl⟩, hW, hsame.mono (by decide) (by decide)⟩
  show QC6_6 Z p0 ka b0_ b1_ b2_ b3_ b4_ b5_ r h0 n0 _ s₁.heap _
  rw [e0]
  exact ⟨by rw [← hr0, hv], N0, rfl⟩
def fC6_12  : Int32 := (((((6 : Int32) - (12 : Int32)).toUInt32 >>> ((31 : Int32) &&& 31).toUInt32).toInt32).toInt8.toInt32)
theorem ef_rmC6_12 (m : MethodId) (q0 : Addr) : entryFrame m #[(.ref q0), (.int (6 : Int32))] 2 = mkF m 0 #[oR q0, oI (6 : Int32)] [] := by first | (simp [entryFrame, mkF, argsToLocals, Value.category]; done) | rfl
def QC6_12 (Z : State) (p0 : Addr) (ka : ClassId) (b0_ : Int32) (b1_ : Int32) (b2_ : Int32) (b3_ : Int32) (b4_ : Int32) (b5_ : Int32) (b6_ : Int32) (b7_ : Int32) (b8_ : Int32) (b9_ : Int32) (b10_ : Int32) (b11_ : Int32) (r : Int32) (h0 : Heap) (n0 : Nat) (v : Option Value) (h : Heap) (L : List Loc) : Prop := v = some (.int r) ∧ Fr n0 L ∧ h = h0
set_option maxRecDepth 65536 in
set_option maxHeartbeats 40000000 in
theorem rmC6_12 (l : Launch) (Z : State) (a0 : Array Value) (hw : ∀ d ∈ tables_1, d.before a0 Z = true) (ws : List Jvm.Cond) (p0 : Addr) (ka : ClassId) (b0_ : Int32) (b1_ : Int32) (b2_ : Int32) (b3_ : Int32) (b4_ : Int32) (b5_ : Int32) (b6_ : Int32) (b7_ : Int32) (b8_ : Int32) (b9_ : Int32) (b10_ : Int32) (b11_ : Int32) (r : Int32) (h0 : Heap) (n0 : Nat) (Z0 : n0 ≤ h0.size) (V_p0 : Arv Z h0 p0 ka .byte (12 : Int32) [(.int b0_), (.int b1_), (.int b2_), (.int b3_), (.int b4_), (.int b5_), (.int b6_), (.int b7_), (.int b8_), (.int b9_), (.int b10_), (.int b11_)] (.int (0 : Int32))) (hr0 : fC6_12 = r) :
    MetFree l (⟨"java/lang/StringUTF16", "coderFromArrayLen", "([BI)B"⟩ : MethodName) (head1 (Jvm.Cond.code (⟨"java/lang/StringUTF16", "coderFromArrayLen", "([BI)B"⟩ : MethodName) jdk_52_method_15_code 2 (some .byte) :: ws) ({ frames := 0, cells := 0, slots := 0, locals := 0 } : Room)) (fun a U => a = #[(.ref p0), (.int (6 : Int32))] ∧ Z.Warmed39 U.vm ∧ U.heap = h0) (fun _ _ _ _ _ => True) (fun _ U o U' => ∃ v L, o = .returned v ∧ QC6_12 Z p0 ka b0_ b1_ b2_ b3_ b4_ b5_ b6_ b7_ b8_ b9_ b10_ b11_ r h0 n0 v U'.heap L ∧ FrameEnd U o U' L ({ frames := 0, cells := 0, slots := 0, locals := 0 } : Room).cells ({ frames := 0, cells := 0, slots := 0, locals := 0 } : Room).slots) := by
  refine MetFree.of_bodySF (plainFor_of_name pn_20) hisR ?_
  intro p e s m args below meth c s₁ Bd hml0 hP hK
  obtain ⟨rfl, hZ, hh⟩ := hP
  have hx := Bd.exec
  have hby := Bd.bytes
  have hml : c.maxLocals = 2 := hml0
  have hown : s.vm.findClass "java/lang/StringUTF16" = some m.cls := findClass_of_methodNamed Bd.named
  have hnm := (name_of_methodNamed Bd.named Bd.method).1
  have X0 : Stand p l e ({ frames := 0, cells := 0, slots := 0, locals := 0 } : Room) s m #[(.ref p0), (.int (6 : Int32))] below meth c s₁ [] 0 0 := Stand.of_body Bd
  have e0 : s₁.heap = h0 := by rw [← hh, Bd.state]; rfl
  have N0 := Fr.nil n0
  refine own_start ?_
  refine own_via (fun t k => castTop (ef_rmC6_12 m p0) k) ?_
  show own_Go p e below _ (s₁.setTop (mkF m 0 #[oR p0, oI (6 : Int32)] []))
  refine own_via (fun t kz => XS.iloadN X0.here hx rfl (hb hby d8_0) rfl kz) ?_
  refine own_via (fun t kz => XS.aloadN X0.here hx rfl (hb hby d8_1) rfl rfl kz) ?_
  show own_Go p e below _ (s₁.setTop (mkF m 2 #[oR p0, oI (6 : Int32)] [(.ref p0), (.int (6 : Int32))]))
  obtain ⟨cl1, Ar1, kc1, Sz1, Nn1, Hs1, Gs1⟩ := id V_p0
  refine own_via (fun t kz => X0.arraylength hx (by rw [e0]; exact Ar1.1) (State.isArrayOf_alike hZ.alike Ar1.2.1) (g := (mkF m 2 #[oR p0, oI (6 : Int32)] [(.ref p0), (.int (6 : Int32))])) rfl rfl (hb hby d8_2) t kz) ?_
  show own_Go p e below _ (s₁.setTop (mkF m 3 #[oR p0, oI (6 : Int32)] [(.int (cl1.slots.size.toInt32)), (.int (6 : Int32))]))
  rw [len_of Sz1 Nn1]
  show own_Go p e below _ (s₁.setTop (mkF m 3 #[oR p0, oI (6 : Int32)] [(.int (12 : Int32)), (.int (6 : Int32))]))
  refine own_via (fun t kz => XS.isub X0.here hx rfl (hb hby d8_3) rfl kz) ?_
  refine own_via (fun t kz => XS.bipush X0.here hx rfl (hb hby d8_4) kz) ?_
  show own_Go p e below _ (s₁.setTop (mkF m 6 #[oR p0, oI (6 : Int32)] [(.int (31 : Int32)), (.int ((6 : Int32) - (12 : Int32)))]))
  refine own_via (fun t kz => XS.iushr X0.here hx rfl (hb hby d8_6) rfl kz) ?_
  show own_Go p e below _ (s₁.setTop (mkF m 7 #[oR p0, oI (6 : Int32)] [(.int ((((6 : Int32) - (12 : Int32)).toUInt32 >>> ((31 : Int32) &&& 31).toUInt32).toInt32))]))
  refine own_via (fun t kz => XS.i2b X0.here hx rfl (hb hby d8_7) rfl kz) ?_
  show own_Go p e below _ (s₁.setTop (mkF m 8 #[oR p0, oI (6 : Int32)] [(.int (((((6 : Int32) - (12 : Int32)).toUInt32 >>> ((31 : Int32) &&& 31).toUInt32).toInt32).toInt8.toInt32))]))
  have hv : fC6_12 = (((((6 : Int32) - (12 : Int32)).toUInt32 >>> ((31 : Int32) &&& 31).toUInt32).toInt32).toInt8.toInt32) := by unfold fC6_12; rfl
  obtain ⟨fs, hr, hrun, hended, hW, hsame⟩ := X0.leave (v := some (.int (((((6 : Int32) - (12 : Int32)).toUInt32 >>> ((31 : Int32) &&& 31).toUInt32).toInt32).toInt8.toInt32))) (fun h => by rw [Bd.returns] at h; cases h)
  refine ⟨_, _, retOut X0 hx (i := .ireturn) Bd.returns (by decide) (Or.inl ⟨rfl, by simp, _, rfl⟩) (hb hby d8_8) hr, hrun, hended, _, _, rfl, ?_, ⟨_, rfl⟩, hW, hsame.mono (by decide) (by decide)⟩
  show QC6_12 Z p0 ka b0_ b1_ b2_ b3_ b4_ b5_ b6_ b7_ b8_ b9_ b10_ b11_ r h0 n0 _ s₁.heap _
  rw [e0]
  exact ⟨by rw [← hr0, hv], N0, rfl⟩
theorem d7_0 : decode jdk_52_method_21_code 0 = .ok (.iconst 0, 1) := by decide +kernel
theorem d7_1 : decode jdk_52_method_21_code 1 = .ok (.istore 5, 2) := by decide +kernel
theorem d7_3 : decode jdk_52_method_21_code 3 = .ok (.iload 5, 2) := by decide +kernel
theorem d7_5 : decode jdk_52_method_21_code 5 = .ok (.iload 4, 2) := by decide +kernel
theorem d7_7 : decode jdk_52_method_21_code 7 = .ok (.if_icmp .ge 37, 3) := by decide +kernel
theorem d7_10 : decode jdk_52_method_21_code 10 = .ok (.aload_n 0, 1) := by decide +kernel
theorem d7_11 : decode jdk_52_method_21_code 11 = .ok (.iload_n 1, 1) := by decide +kernel
theorem d7_12 : decode jdk_52_method_21_code 12 = .ok (.caload, 1) := by decide +kernel
theorem d7_13 : decode jdk_52_method_21_code 13 = .ok (.istore 6, 2) := by decide +kernel
theorem d7_15 : decode jdk_52_method_21_code 15 = .ok (.iload 6, 2) := by decide +kernel
theorem d7_17 : decode jdk_52_method_21_code 17 = .ok (.sipush 255, 3) := by decide +kernel
theorem d7_20 : decode jdk_52_method_21_code 20 = .ok (.if_icmp .le 6, 3) := by decide +kernel
theorem d7_23 : decode jdk_52_method_21_code 23 = .ok (.iload 5, 2) := by decide +kernel
theorem d7_25 : decode jdk_52_method_21_code 25 = .ok (.ireturn, 1) := by decide +kernel
theorem d7_26 : decode jdk_52_method_21_code 26 = .ok (.aload_n 2, 1) := by decide +kernel
theorem d7_27 : decode jdk_52_method_21_code 27 = .ok (.iload_n 3, 1) := by decide +kernel
theorem d7_28 : decode jdk_52_method_21_code 28 = .ok (.iload 6, 2) := by decide +kernel
theorem d7_30 : decode jdk_52_method_21_code 30 = .ok (.i2b, 1) := by decide +kernel
theorem d7_31 : decode jdk_52_method_21_code 31 = .ok (.bastore, 1) := by decide +kernel
theorem d7_32 : decode jdk_52_method_21_code 32 = .ok (.iinc 1 1, 3) := by decide +kernel
theorem d7_35 : decode jdk_52_method_21_code 35 = .ok (.iinc 3 1, 3) := by decide +kernel
theorem d7_38 : decode jdk_52_method_21_code 38 = .ok (.iinc 5 1, 3) := by decide +kernel
theorem d7_41 : decode jdk_52_method_21_code 41 = .ok (.goto (-38), 3) := by decide +kernel
theorem d7_44 : decode jdk_52_method_21_code 44 = .ok (.iload 4, 2) := by decide +kernel
theorem d7_46 : decode jdk_52_method_21_code 46 = .ok (.ireturn, 1) := by decide +kernel
theorem ef_rmK6 (m : MethodId) (q0 : Addr) (q1 : Addr) : entryFrame m #[(.ref q0), (.int (0 : Int32)), (.ref q1), (.int (0 : Int32)), (.int (6 : Int32))] 7 = mkF m 0 #[oR q0, oI (0 : Int32), oR q1, oI (0 : Int32), oI (6 : Int32), .unset, .unset] [] := by first | (simp [entryFrame, mkF, argsToLocals, Value.category]; done) | rfl
def QK6 (Z : State) (p0 : Addr) (p2 : Addr) (kc : ClassId) (kb : ClassId) (c0_ : Int32) (c1_ : Int32) (c2_ : Int32) (c3_ : Int32) (c4_ : Int32) (c5_ : Int32) (r : Int32) (h0 : Heap) (n0 : Nat) (v : Option Value) (h : Heap) (L : List Loc) : Prop := v = some (.int r) ∧ Fr n0 L ∧ Keep h0 h [p2] ∧ ((¬ (255 : Int32) < c0_ ∧ ¬ (255 : Int32) < c1_ ∧ ¬ (255 : Int32) < c2_ ∧ ¬ (255 : Int32) < c3_ ∧ ¬ (255 : Int32) < c4_ ∧ ¬ (255 : Int32) < c5_) → Arv Z h p2 kb .byte (6 : Int32) [(.int (c0_.toInt8.toInt32)), (.int (c1_.toInt8.toInt32)), (.int (c2_.toInt8.toInt32)), (.int (c3_.toInt8.toInt32)), (.int (c4_.toInt8.toInt32)), (.int (c5_.toInt8.toInt32))] (.int (0 : Int32)))
set_option maxRecDepth 65536 in
set_option maxHeartbeats 40000000 in
theorem rmK6 (l : Launch) (Z : State) (a0 : Array Value) (hw : ∀ d ∈ tables_1, d.before a0 Z = true) (ws : List Jvm.Cond) (p0 : Addr) (p2 : Addr) (kc : ClassId) (kb : ClassId) (c0_ : Int32) (c1_ : Int32) (c2_ : Int32) (c3_ : Int32) (c4_ : Int32) (c5_ : Int32) (r : Int32) (h0 : Heap) (n0 : Nat) (Z0 : n0 ≤ h0.size) (g_p2 : n0 ≤ p2) (ne02 : p0 ≠ p2) (VC : Arv Z h0 p0 kc .char (6 : Int32) [(.int c0_), (.int c1_), (.int c2_), (.int c3_), (.int c4_), (.int c5_)] (.int (0 : Int32))) (VB : Arv Z h0 p2 kb .byte (6 : Int32) [(.int (0 : Int32)), (.int (0 : Int32)), (.int (0 : Int32)), (.int (0 : Int32)), (.int (0 : Int32)), (.int (0 : Int32))] (.int (0 : Int32))) (hr0 : own_cnt6 c0_ c1_ c2_ c3_ c4_ c5_ = r) :
    MetFree l (⟨"java/lang/StringUTF16", "compress", "([CI[BII)I"⟩ : MethodName) (head1 (Jvm.Cond.code (⟨"java/lang/StringUTF16", "compress", "([CI[BII)I"⟩ : MethodName) jdk_52_method_21_code 7 (some .int) :: ws) ({ frames := 0, cells := 0, slots := 0, locals := 0 } : Room)) (fun a U => a = #[(.ref p0), (.int (0 : Int32)), (.ref p2), (.int (0 : Int32)), (.int (6 : Int32))] ∧ Z.Warmed39 U.vm ∧ U.heap = h0) (fun _ _ _ _ _ => True) (fun _ U o U' => ∃ v L, o = .returned v ∧ QK6 Z p0 p2 kc kb c0_ c1_ c2_ c3_ c4_ c5_ r h0 n0 v U'.heap L ∧ FrameEnd U o U' L ({ frames := 0, cells := 0, slots := 0, locals := 0 } : Room).cells ({ frames := 0, cells := 0, slots := 0, locals := 0 } : Room).slots) := by
  refine MetFree.of_bodySF (plainFor_of_name pn_20) hisR ?_
  intro p e s m args below meth c s₁ Bd hml0 hP hK
  obtain ⟨rfl, hZ, hh⟩ := hP
  have hx := Bd.exec
  have hby := Bd.bytes
  have hml : c.maxLocals = 7 := hml0
  have hown : s.vm.findClass "java/lang/StringUTF16" = some m.cls := findClass_of_methodNamed Bd.named
  have hnm := (name_of_methodNamed Bd.named Bd.method).1
  have X0 : Stand p l e ({ frames := 0, cells := 0, slots := 0, locals := 0 } : Room) s m #[(.ref p0), (.int (0 : Int32)), (.ref p2), (.int (0 : Int32)), (.int (6 : Int32))] below meth c s₁ [] 0 0 := Stand.of_body Bd
  have e0 : s₁.heap = h0 := by rw [← hh, Bd.state]; rfl
  have N0 := Fr.nil n0
  refine own_start ?_
  refine own_via (fun t k => castTop (ef_rmK6 m p0 p2) k) ?_
  show own_Go p e below _ (s₁.setTop (mkF m 0 #[oR p0, oI (0 : Int32), oR p2, oI (0 : Int32), oI (6 : Int32), .unset, .unset] []))
  refine own_via (fun t kz => XS.iconst X0.here hx rfl (hb hby d7_0) kz) ?_
  refine own_via (fun t kz => XS.istore X0.here hx rfl (hb hby d7_1) rfl (l' := #[oR p0, oI (0 : Int32), oR p2, oI (0 : Int32), oI (6 : Int32), oI (0 : Int32), .unset]) rfl kz) ?_
  refine own_via (fun t kz => XS.iload X0.here hx rfl (hb hby d7_3) rfl kz) ?_
  refine own_via (fun t kz => XS.iload X0.here hx rfl (hb hby d7_5) rfl kz) ?_
  show own_Go p e below _ (s₁.setTop (mkF m 7 #[oR p0, oI (0 : Int32), oR p2, oI (0 : Int32), oI (6 : Int32), oI (0 : Int32), .unset] [(.int (6 : Int32)), (.int (0 : Int32))]))
  refine own_via (fun t kz => XS.icmpNo X0.here hx rfl (hb hby d7_7) rfl (tlt (by decide : (0 : Int32) < (6 : Int32))).2.1 kz) ?_
  refine own_via (fun t kz => XS.aloadN X0.here hx rfl (hb hby d7_10) rfl rfl kz) ?_
  refine own_via (fun t kz => XS.iloadN X0.here hx rfl (hb hby d7_11) rfl kz) ?_
  show own_Go p e below _ (s₁.setTop (mkF m 12 #[oR p0, oI (0 : Int32), oR p2, oI (0 : Int32), oI (6 : Int32), oI (0 : Int32), .unset] [(.int (0 : Int32)), (.ref p0)]))
  obtain ⟨cl1, Ar1, kc1, Sz1, Nn1, Hs1, Gs1⟩ := id VC
  have in1 := inb_of (j := (0 : Int32)) Sz1 ⟨by decide, by decide⟩
  have at1 : cl1.slots[((0 : Int32)).toNatClampNeg]? = some (.int c0_) := Hs1.at in1 rfl
  refine own_via (fun t kz => X0.caload hx (j := (0 : Int32)) (v := (.int c0_)) (by rw [e0]; exact Ar1.1) (State.isArrayOf_alike hZ.alike Ar1.2.1) Ar1.2.2 in1 at1 (g := (mkF m 12 #[oR p0, oI (0 : Int32), oR p2, oI (0 : Int32), oI (6 : Int32), oI (0 : Int32), .unset] [(.int (0 : Int32)), (.ref p0)])) rfl rfl (hb hby d7_12) t kz) ?_
  refine own_via (fun t kz => XS.istore X0.here hx rfl (hb hby d7_13) rfl (l' := #[oR p0, oI (0 : Int32), oR p2, oI (0 : Int32), oI (6 : Int32), oI (0 : Int32), oI c0_]) rfl kz) ?_
  refine own_via (fun t kz => XS.iload X0.here hx rfl (hb hby d7_15) rfl kz) ?_
  refine own_via (fun t kz => XS.sipush X0.here hx rfl (hb hby d7_17) kz) ?_
  show own_Go p e below _ (s₁.setTop (mkF m 20 #[oR p0, oI (0 : Int32), oR p2, oI (0 : Int32), oI (6 : Int32), oI (0 : Int32), oI c0_] [(.int (255 : Int32)), (.int c0_)]))
  by_cases hc20_2 : (255 : Int32) < c0_
  · refine own_via (fun t kz => XS.icmpNo X0.here hx rfl (hb hby d7_20) rfl (tlt hc20_2).2.2.2 kz) ?_
    refine own_via (fun t kz => XS.iload X0.here hx rfl (hb hby d7_23) rfl kz) ?_
    show own_Go p e below _ (s₁.setTop (mkF m 25 #[oR p0, oI (0 : Int32), oR p2, oI (0 : Int32), oI (6 : Int32), oI (0 : Int32), oI c0_] [(.int (0 : Int32))]))
    obtain ⟨fs, hr, hrun, hended, hW, hsame⟩ := X0.leave (v := some (.int (0 : Int32))) (fun h => by rw [Bd.returns] at h; cases h)
    refine ⟨_, _, retI X0 hx Bd.returns (hb hby d7_25) hr, hrun, hended, _, _, rfl, ?_, ⟨_, rfl⟩, hW, hsame.mono (by decide) (by decide)⟩
    show QK6 Z p0 p2 kc kb c0_ c1_ c2_ c3_ c4_ c5_ r h0 n0 _ s₁.heap _
    rw [e0]
    exact ⟨by rw [← hr0]; unfold own_cnt6; rw [if_pos hc20_2], N0, (Keep.refl h0 [p2]), fun hl => absurd hc20_2 hl.1⟩
  · refine own_via (fun t kz => XS.icmpYes X0.here hx rfl (pc0 := 20) (pc' := 26) rfl (hb hby d7_20) rfl (flt hc20_2).2.2.2 (by decide) (by decide) kz) ?_
    refine own_via (fun t kz => XS.aloadN X0.here hx rfl (hb hby d7_26) rfl rfl kz) ?_
    refine own_via (fun t kz => XS.iloadN X0.here hx rfl (hb hby d7_27) rfl kz) ?_
    refine own_via (fun t kz => XS.iload X0.here hx rfl (hb hby d7_28) rfl kz) ?_
    show own_Go p e below _ (s₁.setTop (mkF m 30 #[oR p0, oI (0 : Int32), oR p2, oI (0 : Int32), oI (6 : Int32), oI (0 : Int32), oI c0_] [(.int c0_), (.int (0 : Int32)), (.ref p2)]))
    refine own_via (fun t kz => XS.i2b X0.here hx rfl (hb hby d7_30) rfl kz) ?_
    show own_Go p e below _ (s₁.setTop (mkF m 31 #[oR p0, oI (0 : Int32), oR p2, oI (0 : Int32), oI (6 : Int32), oI (0 : Int32), oI c0_] [(.int (c0_.toInt8.toInt32)), (.int (0 : Int32)), (.ref p2)]))
    obtain ⟨cl4, Ar4, kc4, Sz4, Nn4, Hs4, Gs4⟩ := id VB
    obtain ⟨T4, h4, X4, e4, W4, st4⟩ := stB X0 hx hZ e0 Ar4 (j := (0 : Int32)) (inb_of Sz4 ⟨by decide, by decide⟩) (g := (mkF m 31 #[oR p0, oI (0 : Int32), oR p2, oI (0 : Int32), oI (6 : Int32), oI (0 : Int32), oI c0_] [(.int (c0_.toInt8.toInt32)), (.int (0 : Int32)), (.ref p2)])) rfl rfl (hb hby d7_31)
    refine own_via st4 ?_
    have na4 : nar .byte (c0_.toInt8.toInt32) = (c0_.toInt8.toInt32) := own_narb _
    rw [na4] at W4
    have V5 := VC.other W4 ne02
    have Zs6 : n0 ≤ h4.size := Nat.le_trans Z0 (Keep.of_wr W4).1
    have N7 := Fr.snoc X4 N0 g_p2
    have K8 : Keep h0 h4 [p2] := (Keep.refl h0 [p2]).wr W4 (Or.inl (List.mem_of_getElem? (i := 0) rfl))
    have V9 : Arv Z h4 p2 kb .byte (6 : Int32) [(.int (c0_.toInt8.toInt32)), (.int (0 : Int32)), (.int (0 : Int32)), (.int (0 : Int32)), (.int (0 : Int32)), (.int (0 : Int32))] (.int (0 : Int32)) := Arv.set Ar4 kc4 Sz4 Nn4 Hs4 Gs4 (fits_nar_byte _) W4 0 (by first | decide | (show 0 < 6; decide)) (by first | decide | (show 0 < 6; decide))
    show own_Go p e below _ (T4.setTop (mkF m 32 #[oR p0, oI (0 : Int32), oR p2, oI (0 : Int32), oI (6 : Int32), oI (0 : Int32), oI c0_] []))
    refine own_via (fun t kz => XS.iinc X4.here hx rfl (hb hby d7_32) rfl (l' := #[oR p0, oI (1 : Int32), oR p2, oI (0 : Int32), oI (6 : Int32), oI (0 : Int32), oI c0_]) rfl kz) ?_
    show own_Go p e below _ (T4.setTop (mkF m 35 #[oR p0, oI (1 : Int32), oR p2, oI (0 : Int32), oI (6 : Int32), oI (0 : Int32), oI c0_] []))
    refine own_via (fun t kz => XS.iinc X4.here hx rfl (hb hby d7_35) rfl (l' := #[oR p0, oI (1 : Int32), oR p2, oI (1 : Int32), oI (6 : Int32), oI (0 : Int32), oI c0_]) rfl kz) ?_
    show own_Go p e below _ (T4.setTop (mkF m 38 #[oR p0, oI (1 : Int32), oR p2, oI (1 : Int32), oI (6 : Int32), oI (0 : Int32), oI c0_] []))
    refine own_via (fun t kz => XS.iinc X4.here hx rfl (hb hby d7_38) rfl (l' := #[oR p0, oI (1 : Int32), oR p2, oI (1 : Int32), oI (6 : Int32), oI (1 : Int32), oI c0_]) rfl kz) ?_
    refine own_via (fun t kz => XS.goto X4.here hx rfl (pc0 := 41) (pc' := 3) rfl (hb hby d7_41) (by decide) (by decide) kz) ?_
    refine own_via (fun t kz => XS.iload X4.here hx rfl (hb hby d7_3) rfl kz) ?_
    refine own_via (fun t kz => XS.iload X4.here hx rfl (hb hby d7_5) rfl kz) ?_
    show own_Go p e below _ (T4.setTop (mkF m 7 #[oR p0, oI (1 : Int32), oR p2, oI (1 : Int32), oI (6 : Int32), oI (1 : Int32), oI c0_] [(.int (6 : Int32)), (.int (1 : Int32))]))
    refine own_via (fun t kz => XS.icmpNo X4.here hx rfl (hb hby d7_7) rfl (tlt (by decide : (1 : Int32) < (6 : Int32))).2.1 kz) ?_
    refine own_via (fun t kz => XS.aloadN X4.here hx rfl (hb hby d7_10) rfl rfl kz) ?_
    refine own_via (fun t kz => XS.iloadN X4.here hx rfl (hb hby d7_11) rfl kz) ?_
    show own_Go p e below _ (T4.setTop (mkF m 12 #[oR p0, oI (1 : Int32), oR p2, oI (1 : Int32), oI (6 : Int32), oI (1 : Int32), oI c0_] [(.int (1 : Int32)), (.ref p0)]))
    obtain ⟨cl10, Ar10, kc10, Sz10, Nn10, Hs10, Gs10⟩ := id V5
    have in10 := inb_of (j := (1 : Int32)) Sz10 ⟨by decide, by decide⟩
    have at10 : cl10.slots[((1 : Int32)).toNatClampNeg]? = some (.int c1_) := Hs10.at in10 rfl
    refine own_via (fun t kz => X4.caload hx (j := (1 : Int32)) (v := (.int c1_)) (by rw [e4]; exact Ar10.1) (State.isArrayOf_alike hZ.alike Ar10.2.1) Ar10.2.2 in10 at10 (g := (mkF m 12 #[oR p0, oI (1 : Int32), oR p2, oI (1 : Int32), oI (6 : Int32), oI (1 : Int32), oI c0_] [(.int (1 : Int32)), (.ref p0)])) rfl rfl (hb hby d7_12) t kz) ?_
    refine own_via (fun t kz => XS.istore X4.here hx rfl (hb hby d7_13) rfl (l' := #[oR p0, oI (1 : Int32), oR p2, oI (1 : Int32), oI (6 : Int32), oI (1 : Int32), oI c1_]) rfl kz) ?_
    refine own_via (fun t kz => XS.iload X4.here hx rfl (hb hby d7_15) rfl kz) ?_
    refine own_via (fun t kz => XS.sipush X4.here hx rfl (hb hby d7_17) kz) ?_
    show own_Go p e below _ (T4.setTop (mkF m 20 #[oR p0, oI (1 : Int32), oR p2, oI (1 : Int32), oI (6 : Int32), oI (1 : Int32), oI c1_] [(.int (255 : Int32)), (.int c1_)]))
    by_cases hc20_11 : (255 : Int32) < c1_
    · refine own_via (fun t kz => XS.icmpNo X4.here hx rfl (hb hby d7_20) rfl (tlt hc20_11).2.2.2 kz) ?_
      refine own_via (fun t kz => XS.iload X4.here hx rfl (hb hby d7_23) rfl kz) ?_
      show own_Go p e below _ (T4.setTop (mkF m 25 #[oR p0, oI (1 : Int32), oR p2, oI (1 : Int32), oI (6 : Int32), oI (1 : Int32), oI c1_] [(.int (1 : Int32))]))
      obtain ⟨fs, hr, hrun, hended, hW, hsame⟩ := X4.leave (v := some (.int (1 : Int32))) (fun h => by rw [Bd.returns] at h; cases h)
      refine ⟨_, _, retI X4 hx Bd.returns (hb hby d7_25) hr, hrun, hended, _, _, rfl, ?_, ⟨_, rfl⟩, hW, hsame.mono (by decide) (by decide)⟩
      show QK6 Z p0 p2 kc kb c0_ c1_ c2_ c3_ c4_ c5_ r h0 n0 _ T4.heap _
      rw [e4]
      exact ⟨by rw [← hr0]; unfold own_cnt6; rw [if_neg hc20_2, if_pos hc20_11], N7, K8, fun hl => absurd hc20_11 hl.2.1⟩
    · refine own_via (fun t kz => XS.icmpYes X4.here hx rfl (pc0 := 20) (pc' := 26) rfl (hb hby d7_20) rfl (flt hc20_11).2.2.2 (by decide) (by decide) kz) ?_
      refine own_via (fun t kz => XS.aloadN X4.here hx rfl (hb hby d7_26) rfl rfl kz) ?_
      refine own_via (fun t kz => XS.iloadN X4.here hx rfl (hb hby d7_27) rfl kz) ?_
      refine own_via (fun t kz => XS.iload X4.here hx rfl (hb hby d7_28) rfl kz) ?_
      show own_Go p e below _ (T4.setTop (mkF m 30 #[oR p0, oI (1 : Int32), oR p2, oI (1 : Int32), oI (6 : Int32), oI (1 : Int32), oI c1_] [(.int c1_), (.int (1 : Int32)), (.ref p2)]))
      refine own_via (fun t kz => XS.i2b X4.here hx rfl (hb hby d7_30) rfl kz) ?_
      show own_Go p e below _ (T4.setTop (mkF m 31 #[oR p0, oI (1 : Int32), oR p2, oI (1 : Int32), oI (6 : Int32), oI (1 : Int32), oI c1_] [(.int (c1_.toInt8.toInt32)), (.int (1 : Int32)), (.ref p2)]))
      obtain ⟨cl13, Ar13, kc13, Sz13, Nn13, Hs13, Gs13⟩ := id V9
      obtain ⟨T13, h13, X13, e13, W13, st13⟩ := stB X4 hx hZ e4 Ar13 (j := (1 : Int32)) (inb_of Sz13 ⟨by decide, by decide⟩) (g := (mkF m 31 #[oR p0, oI (1 : Int32), oR p2, oI (1 : Int32), oI (6 : Int32), oI (1 : Int32), oI c1_] [(.int (c1_.toInt8.toInt32)), (.int (1 : Int32)), (.ref p2)])) rfl rfl (hb hby d7_31)
      refine own_via st13 ?_
      have na13 : nar .byte (c1_.toInt8.toInt32) = (c1_.toInt8.toInt32) := own_narb _
      rw [na13] at W13
      have V14 := V5.other W13 ne02
      have Zs15 : n0 ≤ h13.size := Nat.le_trans Zs6 (Keep.of_wr W13).1
      have N16 := Fr.snoc X13 N7 g_p2
      have K17 : Keep h0 h13 [p2] := K8.wr W13 (Or.inl (List.mem_of_getElem? (i := 0) rfl))
      have V18 : Arv Z h13 p2 kb .byte (6 : Int32) [(.int (c0_.toInt8.toInt32)), (.int (c1_.toInt8.toInt32)), (.int (0 : Int32)), (.int (0 : Int32)), (.int (0 : Int32)), (.int (0 : Int32))] (.int (0 : Int32)) := Arv.set Ar13 kc13 Sz13 Nn13 Hs13 Gs13 (fits_nar_byte _) W13 1 (by first | decide | (show 1 < 6; decide)) (by first | decide | (show 1 < 6; decide))
      show own_Go p e below _ (T13.setTop (mkF m 32 #[oR p0, oI (1 : Int32), oR p2, oI (1 : Int32), oI (6 : Int32), oI (1 : Int32), oI c1_] []))
      refine own_via (fun t kz => XS.iinc X13.here hx rfl (hb hby d7_32) rfl (l' := #[oR p0, oI (2 : Int32), oR p2, oI (1 : Int32), oI (6 : Int32), oI (1 : Int32), oI c1_]) rfl kz) ?_
      show own_Go p e below _ (T13.setTop (mkF m 35 #[oR p0, oI (2 : Int32), oR p2, oI (1 : Int32), oI (6 : Int32), oI (1 : Int32), oI c1_] []))
      refine own_via (fun t kz => XS.iinc X13.here hx rfl (hb hby d7_35) rfl (l' := #[oR p0, oI (2 : Int32), oR p2, oI (2 : Int32), oI (6 : Int32), oI (1 : Int32), oI c1_]) rfl kz) ?_
      show own_Go p e below _ (T13.setTop (mkF m 38 #[oR p0, oI (2 : Int32), oR p2, oI (2 : Int32), oI (6 : Int32), oI (1 : Int32), oI c1_] []))
      refine own_via (fun t kz => XS.iinc X13.here hx rfl (hb hby d7_38) rfl (l' := #[oR p0, oI (2 : Int32), oR p2, oI (2 : Int32), oI (6 : Int32), oI (2 : Int32), oI c1_]) rfl kz) ?_
      refine own_via (fun t kz => XS.goto X13.here hx rfl (pc0 := 41) (pc' := 3) rfl (hb hby d7_41) (by decide) (by decide) kz) ?_
      refine own_via (fun t kz => XS.iload X13.here hx rfl (hb hby d7_3) rfl kz) ?_
      refine own_via (fun t kz => XS.iload X13.here hx rfl (hb hby d7_5) rfl kz) ?_
      show own_Go p e below _ (T13.setTop (mkF m 7 #[oR p0, oI (2 : Int32), oR p2, oI (2 : Int32), oI (6 : Int32), oI (2 : Int32), oI c1_] [(.int (6 : Int32)), (.int (2 : Int32))]))
      refine own_via (fun t kz => XS.icmpNo X13.here hx rfl (hb hby d7_7) rfl (tlt (by decide : (2 : Int32) < (6 : Int32))).2.1 kz) ?_
      refine own_via (fun t kz => XS.aloadN X13.here hx rfl (hb hby d7_10) rfl rfl kz) ?_
      refine own_via (fun t kz => XS.iloadN X13.here hx rfl (hb hby d7_11) rfl kz) ?_
      show own_Go p e below _ (T13.setTop (mkF m 12 #[oR p0, oI (2 : Int32), oR p2, oI (2 : Int32), oI (6 : Int32), oI (2 : Int32), oI c1_] [(.int (2 : Int32)), (.ref p0)]))
      obtain ⟨cl19, Ar19, kc19, Sz19, Nn19, Hs19, Gs19⟩ := id V14
      have in19 := inb_of (j := (2 : Int32)) Sz19 ⟨by decide, by decide⟩
      have at19 : cl19.slots[((2 : Int32)).toNatClampNeg]? = some (.int c2_) := Hs19.at in19 rfl
      refine own_via (fun t kz => X13.caload hx (j := (2 : Int32)) (v := (.int c2_)) (by rw [e13]; exact Ar19.1) (State.isArrayOf_alike hZ.alike Ar19.2.1) Ar19.2.2 in19 at19 (g := (mkF m 12 #[oR p0, oI (2 : Int32), oR p2, oI (2 : Int32), oI (6 : Int32), oI (2 : Int32), oI c1_] [(.int (2 : Int32)), (.ref p0)])) rfl rfl (hb hby d7_12) t kz) ?_
      refine own_via (fun t kz => XS.istore X13.here hx rfl (hb hby d7_13) rfl (l' := #[oR p0, oI (2 : Int32), oR p2, oI (2 : Int32), oI (6 : Int32), oI (2 : Int32), oI c2_]) rfl kz) ?_
      refine own_via (fun t kz => XS.iload X13.here hx rfl (hb hby d7_15) rfl kz) ?_
      refine own_via (fun t kz => XS.sipush X13.here hx rfl (hb hby d7_17) kz) ?_
      show own_Go p e below _ (T13.setTop (mkF m 20 #[oR p0, oI (2 : Int32), oR p2, oI (2 : Int32), oI (6 : Int32), oI (2 : Int32), oI c2_] [(.int (255 : Int32)), (.int c2_)]))
      by_cases hc20_20 : (255 : Int32) < c2_
      · refine own_via (fun t kz => XS.icmpNo X13.here hx rfl (hb hby d7_20) rfl (tlt hc20_20).2.2.2 kz) ?_
        refine own_via (fun t kz => XS.iload X13.here hx rfl (hb hby d7_23) rfl kz) ?_
        show own_Go p e below _ (T13.setTop (mkF m 25 #[oR p0, oI (2 : Int32), oR p2, oI (2 : Int32), oI (6 : Int32), oI (2 : Int32), oI c2_] [(.int (2 : Int32))]))
        obtain ⟨fs, hr, hrun, hended, hW, hsame⟩ := X13.leave (v := some (.int (2 : Int32))) (fun h => by rw [Bd.returns] at h; cases h)
        refine ⟨_, _, retI X13 hx Bd.returns (hb hby d7_25) hr, hrun, hended, _, _, rfl, ?_, ⟨_, rfl⟩, hW, hsame.mono (by decide) (by decide)⟩
        show QK6 Z p0 p2 kc kb c0_ c1_ c2_ c3_ c4_ c5_ r h0 n0 _ T13.heap _
        rw [e13]
        exact ⟨by rw [← hr0]; unfold own_cnt6; rw [if_neg hc20_2, if_neg hc20_11, if_pos hc20_20], N16, K17, fun hl => absurd hc20_20 hl.2.2.1⟩
      · refine own_via (fun t kz => XS.icmpYes X13.here hx rfl (pc0 := 20) (pc' := 26) rfl (hb hby d7_20) rfl (flt hc20_20).2.2.2 (by decide) (by decide) kz) ?_
        refine own_via (fun t kz => XS.aloadN X13.here hx rfl (hb hby d7_26) rfl rfl kz) ?_
        refine own_via (fun t kz => XS.iloadN X13.here hx rfl (hb hby d7_27) rfl kz) ?_
        refine own_via (fun t kz => XS.iload X13.here hx rfl (hb hby d7_28) rfl kz) ?_
        show own_Go p e below _ (T13.setTop (mkF m 30 #[oR p0, oI (2 : Int32), oR p2, oI (2 : Int32), oI (6 : Int32), oI (2 : Int32), oI c2_] [(.int c2_), (.int (2 : Int32)), (.ref p2)]))
        refine own_via (fun t kz => XS.i2b X13.here hx rfl (hb hby d7_30) rfl kz) ?_
        show own_Go p e below _ (T13.setTop (mkF m 31 #[oR p0, oI (2 : Int32), oR p2, oI (2 : Int32), oI (6 : Int32), oI (2 : Int32), oI c2_] [(.int (c2_.toInt8.toInt32)), (.int (2 : Int32)), (.ref p2)]))
        obtain ⟨cl22, Ar22, kc22, Sz22, Nn22, Hs22, Gs22⟩ := id V18
        obtain ⟨T22, h22, X22, e22, W22, st22⟩ := stB X13 hx hZ e13 Ar22 (j := (2 : Int32)) (inb_of Sz22 ⟨by decide, by decide⟩) (g := (mkF m 31 #[oR p0, oI (2 : Int32), oR p2, oI (2 : Int32), oI (6 : Int32), oI (2 : Int32), oI c2_] [(.int (c2_.toInt8.toInt32)), (.int (2 : Int32)), (.ref p2)])) rfl rfl (hb hby d7_31)
        refine own_via st22 ?_
        have na22 : nar .byte (c2_.toInt8.toInt32) = (c2_.toInt8.toInt32) := own_narb _
        rw [na22] at W22
        have V23 := V14.other W22 ne02
        have Zs24 : n0 ≤ h22.size := Nat.le_trans Zs15 (Keep.of_wr W22).1
        have N25 := Fr.snoc X22 N16 g_p2
        have K26 : Keep h0 h22 [p2] := K17.wr W22 (Or.inl (List.mem_of_getElem? (i := 0) rfl))
        have V27 : Arv Z h22 p2 kb .byte (6 : Int32) [(.int (c0_.toInt8.toInt32)), (.int (c1_.toInt8.toInt32)), (.int (c2_.toInt8.toInt32)), (.int (0 : Int32)), (.int (0 : Int32)), (.int (0 : Int32))] (.int (0 : Int32)) := Arv.set Ar22 kc22 Sz22 Nn22 Hs22 Gs22 (fits_nar_byte _) W22 2 (by first | decide | (show 2 < 6; decide)) (by first | decide | (show 2 < 6; decide))
        show own_Go p e below _ (T22.setTop (mkF m 32 #[oR p0, oI (2 : Int32), oR p2, oI (2 : Int32), oI (6 : Int32), oI (2 : Int32), oI c2_] []))
        refine own_via (fun t kz => XS.iinc X22.here hx rfl (hb hby d7_32) rfl (l' := #[oR p0, oI (3 : Int32), oR p2, oI (2 : Int32), oI (6 : Int32), oI (2 : Int32), oI c2_]) rfl kz) ?_
        show own_Go p e below _ (T22.setTop (mkF m 35 #[oR p0, oI (3 : Int32), oR p2, oI (2 : Int32), oI (6 : Int32), oI (2 : Int32), oI c2_] []))
        refine own_via (fun t kz => XS.iinc X22.here hx rfl (hb hby d7_35) rfl (l' := #[oR p0, oI (3 : Int32), oR p2, oI (3 : Int32), oI (6 : Int32), oI (2 : Int32), oI c2_]) rfl kz) ?_
        show own_Go p e below _ (T22.setTop (mkF m 38 #[oR p0, oI (3 : Int32), oR p2, oI (3 : Int32), oI (6 : Int32), oI (2 : Int32), oI c2_] []))
        refine own_via (fun t kz => XS.iinc X22.here hx rfl (hb hby d7_38) rfl (l' := #[oR p0, oI (3 : Int32), oR p2, oI (3 : Int32), oI (6 : Int32), oI (3 : Int32), oI c2_]) rfl kz) ?_
        refine own_via (fun t kz => XS.goto X22.here hx rfl (pc0 := 41) (pc' := 3) rfl (hb hby d7_41) (by decide) (by decide) kz) ?_
        refine own_via (fun t kz => XS.iload X22.here hx rfl (hb hby d7_3) rfl kz) ?_
        refine own_via (fun t kz => XS.iload X22.here hx rfl (hb hby d7_5) rfl kz) ?_
        show own_Go p e below _ (T22.setTop (mkF m 7 #[oR p0, oI (3 : Int32), oR p2, oI (3 : Int32), oI (6 : Int32), oI (3 : Int32), oI c2_] [(.int (6 : Int32)), (.int (3 : Int32))]))
        refine own_via (fun t kz => XS.icmpNo X22.here hx rfl (hb hby d7_7) rfl (tlt (by decide : (3 : Int32) < (6 : Int32))).2.1 kz) ?_
        refine own_via (fun t kz => XS.aloadN X22.here hx rfl (hb hby d7_10) rfl rfl kz) ?_
        refine own_via (fun t kz => XS.iloadN X22.here hx rfl (hb hby d7_11) rfl kz) ?_
        show own_Go p e below _ (T22.setTop (mkF m 12 #[oR p0, oI (3 : Int32), oR p2, oI (3 : Int32), oI (6 : Int32), oI (3 : Int32), oI c2_] [(.int (3 : Int32)), (.ref p0)]))
        obtain ⟨cl28, Ar28, kc28, Sz28, Nn28, Hs28, Gs28⟩ := id V23
        have in28 := inb_of (j := (3 : Int32)) Sz28 ⟨by decide, by decide⟩
        have at28 : cl28.slots[((3 : Int32)).toNatClampNeg]? = some (.int c3_) := Hs28.at in28 rfl
        refine own_via (fun t kz => X22.caload hx (j := (3 : Int32)) (v := (.int c3_)) (by rw [e22]; exact Ar28.1) (State.isArrayOf_alike hZ.alike Ar28.2.1) Ar28.2.2 in28 at28 (g := (mkF m 12 #[oR p0, oI (3 : Int32), oR p2, oI (3 : Int32), oI (6 : Int32), oI (3 : Int32), oI c2_] [(.int (3 : Int32)), (.ref p0)])) rfl rfl (hb hby d7_12) t kz) ?_
        refine own_via (fun t kz => XS.istore X22.here hx rfl (hb hby d7_13) rfl (l' := #[oR p0, oI (3 : Int32), oR p2, oI (3 : Int32), oI (6 : Int32), oI (3 : Int32), oI c3_]) rfl kz) ?_
        refine own_via (fun t kz => XS.iload X22.here hx rfl (hb hby d7_15) rfl kz) ?_
        refine own_via (fun t kz => XS.sipush X22.here hx rfl (hb hby d7_17) kz) ?_
        show own_Go p e below _ (T22.setTop (mkF m 20 #[oR p0, oI (3 : Int32), oR p2, oI (3 : Int32), oI (6 : Int32), oI (3 : Int32), oI c3_] [(.int (255 : Int32)), (.int c3_)]))
        by_cases hc20_29 : (255 : Int32) < c3_
        · refine own_via (fun t kz => XS.icmpNo X22.here hx rfl (hb hby d7_20) rfl (tlt hc20_29).2.2.2 kz) ?_
          refine own_via (fun t kz => XS.iload X22.here hx rfl (hb hby d7_23) rfl kz) ?_
          show own_Go p e below _ (T22.setTop (mkF m 25 #[oR p0, oI (3 : Int32), oR p2, oI (3 : Int32), oI (6 : Int32), oI (3 : Int32), oI c3_] [(.int (3 : Int32))]))
          obtain ⟨fs, hr, hrun, hended, hW, hsame⟩ := X22.leave (v := some (.int (3 : Int32))) (fun h => by rw [Bd.returns] at h; cases h)
          refine ⟨_, _, retI X22 hx Bd.returns (hb hby d7_25) hr, hrun, hended, _, _, rfl, ?_, ⟨_, rfl⟩, hW, hsame.mono (by decide) (by decide)⟩
          show QK6 Z p0 p2 kc kb c0_ c1_ c2_ c3_ c4_ c5_ r h0 n0 _ T22.heap _
          rw [e22]
          exact ⟨by rw [← hr0]; unfold own_cnt6; rw [if_neg hc20_2, if_neg hc20_11, if_neg hc20_20, if_pos hc20_29], N25, K26, fun hl => absurd hc20_29 hl.2.2.2.1⟩
        · refine own_via (fun t kz => XS.icmpYes X22.here hx rfl (pc0 := 20) (pc' := 26) rfl (hb hby d7_20) rfl (flt hc20_29).2.2.2 (by decide) (by decide) kz) ?_
          refine own_via (fun t kz => XS.aloadN X22.here hx rfl (hb hby d7_26) rfl rfl kz) ?_
          refine own_via (fun t kz => XS.iloadN X22.here hx rfl (hb hby d7_27) rfl kz) ?_
          refine own_via (fun t kz => XS.iload X22.here hx rfl (hb hby d7_28) rfl kz) ?_
          show own_Go p e below _ (T22.setTop (mkF m 30 #[oR p0, oI (3 : Int32), oR p2, oI (3 : Int32), oI (6 : Int32), oI (3 : Int32), oI c3_] [(.int c3_), (.int (3 : Int32)), (.ref p2)]))
          refine own_via (fun t kz => XS.i2b X22.here hx rfl (hb hby d7_30) rfl kz) ?_
          show own_Go p e below _ (T22.setTop (mkF m 31 #[oR p0, oI (3 : Int32), oR p2, oI (3 : Int32), oI (6 : Int32), oI (3 : Int32), oI c3_] [(.int (c3_.toInt8.toInt32)), (.int (3 : Int32)), (.ref p2)]))
          obtain ⟨cl31, Ar31, kc31, Sz31, Nn31, Hs31, Gs31⟩ := id V27
          obtain ⟨T31, h31, X31, e31, W31, st31⟩ := stB X22 hx hZ e22 Ar31 (j := (3 : Int32)) (inb_of Sz31 ⟨by decide, by decide⟩) (g := (mkF m 31 #[oR p0, oI (3 : Int32), oR p2, oI (3 : Int32), oI (6 : Int32), oI (3 : Int32), oI c3_] [(.int (c3_.toInt8.toInt32)), (.int (3 : Int32)), (.ref p2)])) rfl rfl (hb hby d7_31)
          refine own_via st31 ?_
          have na31 : nar .byte (c3_.toInt8.toInt32) = (c3_.toInt8.toInt32) := own_narb _
          rw [na31] at W31
          have V32 := V23.other W31 ne02
          have Zs33 : n0 ≤ h31.size := Nat.le_trans Zs24 (Keep.of_wr W31).1
          have N34 := Fr.snoc X31 N25 g_p2
          have K35 : Keep h0 h31 [p2] := K26.wr W31 (Or.inl (List.mem_of_getElem? (i := 0) rfl))
          have V36 : Arv Z h31 p2 kb .byte (6 : Int32) [(.int (c0_.toInt8.toInt32)), (.int (c1_.toInt8.toInt32)), (.int (c2_.toInt8.toInt32)), (.int (c3_.toInt8.toInt32)), (.int (0 : Int32)), (.int (0 : Int32))] (.int (0 : Int32)) := Arv.set Ar31 kc31 Sz31 Nn31 Hs31 Gs31 (fits_nar_byte _) W31 3 (by first | decide | (show 3 < 6; decide)) (by first | decide | (show 3 < 6; decide))
          show own_Go p e below _ (T31.setTop (mkF m 32 #[oR p0, oI (3 : Int32), oR p2, oI (3 : Int32), oI (6 : Int32), oI (3 : Int32), oI c3_] []))
          refine own_via (fun t kz => XS.iinc X31.here hx rfl (hb hby d7_32) rfl (l' := #[oR p0, oI (4 : Int32), oR p2, oI (3 : Int32), oI (6 : Int32), oI (3 : Int32), oI c3_]) rfl kz) ?_
          show own_Go p e below _ (T31.setTop (mkF m 35 #[oR p0, oI (4 : Int32), oR p2, oI (3 : Int32), oI (6 : Int32), oI (3 : Int32), oI c3_] []))
          refine own_via (fun t kz => XS.iinc X31.here hx rfl (hb hby d7_35) rfl (l' := #[oR p0, oI (4 : Int32), oR p2, oI (4 : Int32), oI (6 : Int32), oI (3 : Int32), oI c3_]) rfl kz) ?_
          show own_Go p e below _ (T31.setTop (mkF m 38 #[oR p0, oI (4 : Int32), oR p2, oI (4 : Int32), oI (6 : Int32), oI (3 : Int32), oI c3_] []))
          refine own_via (fun t kz => XS.iinc X31.here hx rfl (hb hby d7_38) rfl (l' := #[oR p0, oI (4 : Int32), oR p2, oI (4 : Int32), oI (6 : Int32), oI (4 : Int32), oI c3_]) rfl kz) ?_
          refine own_via (fun t kz => XS.goto X31.here hx rfl (pc0 := 41) (pc' := 3) rfl (hb hby d7_41) (by decide) (by decide) kz) ?_
          refine own_via (fun t kz => XS.iload X31.here hx rfl (hb hby d7_3) rfl kz) ?_
          refine own_via (fun t kz => XS.iload X31.here hx rfl (hb hby d7_5) rfl kz) ?_
          show own_Go p e below _ (T31.setTop (mkF m 7 #[oR p0, oI (4 : Int32), oR p2, oI (4 : Int32), oI (6 : Int32), oI (4 : Int32), oI c3_] [(.int (6 : Int32)), (.int (4 : Int32))]))
          refine own_via (fun t kz => XS.icmpNo X31.here hx rfl (hb hby d7_7) rfl (tlt (by decide : (4 : Int32) < (6 : Int32))).2.1 kz) ?_
          refine own_via (fun t kz => XS.aloadN X31.here hx rfl (hb hby d7_10) rfl rfl kz) ?_
          refine own_via (fun t kz => XS.iloadN X31.here hx rfl (hb hby d7_11) rfl kz) ?_
          show own_Go p e below _ (T31.setTop (mkF m 12 #[oR p0, oI (4 : Int32), oR p2, oI (4 : Int32), oI (6 : Int32), oI (4 : Int32), oI c3_] [(.int (4 : Int32)), (.ref p0)]))
          obtain ⟨cl37, Ar37, kc37, Sz37, Nn37, Hs37, Gs37⟩ := id V32
          have in37 := inb_of (j := (4 : Int32)) Sz37 ⟨by decide, by decide⟩
          have at37 : cl37.slots[((4 : Int32)).toNatClampNeg]? = some (.int c4_) := Hs37.at in37 rfl
          refine own_via (fun t kz => X31.caload hx (j := (4 : Int32)) (v := (.int c4_)) (by rw [e31]; exact Ar37.1) (State.isArrayOf_alike hZ.alike Ar37.2.1) Ar37.2.2 in37 at37 (g := (mkF m 12 #[oR p0, oI (4 : Int32), oR p2, oI (4 : Int32), oI (6 : Int32), oI (4 : Int32), oI c3_] [(.int (4 : Int32)), (.ref p0)])) rfl rfl (hb hby d7_12) t kz) ?_
          refine own_via (fun t kz => XS.istore X31.here hx rfl (hb hby d7_13) rfl (l' := #[oR p0, oI (4 : Int32), oR p2, oI (4 : Int32), oI (6 : Int32), oI (4 : Int32), oI c4_]) rfl kz) ?_
          refine own_via (fun t kz => XS.iload X31.here hx rfl (hb hby d7_15) rfl kz) ?_
          refine own_via (fun t kz => XS.sipush X31.here hx rfl (hb hby d7_17) kz) ?_
          show own_Go p e below _ (T31.setTop (mkF m 20 #[oR p0, oI (4 : Int32), oR p2, oI (4 : Int32), oI (6 : Int32), oI (4 : Int32), oI c4_] [(.int (255 : Int32)), (.int c4_)]))
          by_cases hc20_38 : (255 : Int32) < c4_
          · refine own_via (fun t kz => XS.icmpNo X31.here hx rfl (hb hby d7_20) rfl (tlt hc20_38).2.2.2 kz) ?_
            refine own_via (fun t kz => XS.iload X31.here hx rfl (hb hby d7_23) rfl kz) ?_
            show own_Go p e below _ (T31.setTop (mkF m 25 #[oR p0, oI (4 : Int32), oR p2, oI (4 : Int32), oI (6 : Int32), oI (4 : Int32), oI c4_] [(.int (4 : Int32))]))
            obtain ⟨fs, hr, hrun, hended, hW, hsame⟩ := X31.leave (v := some (.int (4 : Int32))) (fun h => by rw [Bd.returns] at h; cases h)
            refine ⟨_, _, retI X31 hx Bd.returns (hb hby d7_25) hr, hrun, hended, _, _, rfl, ?_, ⟨_, rfl⟩, hW, hsame.mono (by decide) (by decide)⟩
            show QK6 Z p0 p2 kc kb c0_ c1_ c2_ c3_ c4_ c5_ r h0 n0 _ T31.heap _
            rw [e31]
            exact ⟨by rw [← hr0]; unfold own_cnt6; rw [if_neg hc20_2, if_neg hc20_11, if_neg hc20_20, if_neg hc20_29, if_pos hc20_38], N34, K35, fun hl => absurd hc20_38 hl.2.2.2.2.1⟩
          · refine own_via (fun t kz => XS.icmpYes X31.here hx rfl (pc0 := 20) (pc' := 26) rfl (hb hby d7_20) rfl (flt hc20_38).2.2.2 (by decide) (by decide) kz) ?_
            refine own_via (fun t kz => XS.aloadN X31.here hx rfl (hb hby d7_26) rfl rfl kz) ?_
            refine own_via (fun t kz => XS.iloadN X31.here hx rfl (hb hby d7_27) rfl kz) ?_
            refine own_via (fun t kz => XS.iload X31.here hx rfl (hb hby d7_28) rfl kz) ?_
            show own_Go p e below _ (T31.setTop (mkF m 30 #[oR p0, oI (4 : Int32), oR p2, oI (4 : Int32), oI (6 : Int32), oI (4 : Int32), oI c4_] [(.int c4_), (.int (4 : Int32)), (.ref p2)]))
            refine own_via (fun t kz => XS.i2b X31.here hx rfl (hb hby d7_30) rfl kz) ?_
            show own_Go p e below _ (T31.setTop (mkF m 31 #[oR p0, oI (4 : Int32), oR p2, oI (4 : Int32), oI (6 : Int32), oI (4 : Int32), oI c4_] [(.int (c4_.toInt8.toInt32)), (.int (4 : Int32)), (.ref p2)]))
            obtain ⟨cl40, Ar40, kc40, Sz40, Nn40, Hs40, Gs40⟩ := id V36
            obtain ⟨T40, h40, X40, e40, W40, st40⟩ := stB X31 hx hZ e31 Ar40 (j := (4 : Int32)) (inb_of Sz40 ⟨by decide, by decide⟩) (g := (mkF m 31 #[oR p0, oI (4 : Int32), oR p2, oI (4 : Int32), oI (6 : Int32), oI (4 : Int32), oI c4_] [(.int (c4_.toInt8.toInt32)), (.int (4 : Int32)), (.ref p2)])) rfl rfl (hb hby d7_31)
            refine own_via st40 ?_
            have na40 : nar .byte (c4_.toInt8.toInt32) = (c4_.toInt8.toInt32) := own_narb _
            rw [na40] at W40
            have V41 := V32.other W40 ne02
            have Zs42 : n0 ≤ h40.size := Nat.le_trans Zs33 (Keep.of_wr W40).1
            have N43 := Fr.snoc X40 N34 g_p2
            have K44 : Keep h0 h40 [p2] := K35.wr W40 (Or.inl (List.mem_of_getElem? (i := 0) rfl))
            have V45 : Arv Z h40 p2 kb .byte (6 : Int32) [(.int (c0_.toInt8.toInt32)), (.int (c1_.toInt8.toInt32)), (.int (c2_.toInt8.toInt32)), (.int (c3_.toInt8.toInt32)), (.int (c4_.toInt8.toInt32)), (.int (0 : Int32))] (.int (0 : Int32)) := Arv.set Ar40 kc40 Sz40 Nn40 Hs40 Gs40 (fits_nar_byte _) W40 4 (by first | decide | (show 4 < 6; decide)) (by first | decide | (show 4 < 6; decide))
            show own_Go p e below _ (T40.setTop (mkF m 32 #[oR p0, oI (4 : Int32), oR p2, oI (4 : Int32), oI (6 : Int32), oI (4 : Int32), oI c4_] []))
            refine own_via (fun t kz => XS.iinc X40.here hx rfl (hb hby d7_32) rfl (l' := #[oR p0, oI (5 : Int32), oR p2, oI (4 : Int32), oI (6 : Int32), oI (4 : Int32), oI c4_]) rfl kz) ?_
            show own_Go p e below _ (T40.setTop (mkF m 35 #[oR p0, oI (5 : Int32), oR p2, oI (4 : Int32), oI (6 : Int32), oI (4 : Int32), oI c4_] []))
            refine own_via (fun t kz => XS.iinc X40.here hx rfl (hb hby d7_35) rfl (l' := #[oR p0, oI (5 : Int32), oR p2, oI (5 : Int32), oI (6 : Int32), oI (4 : Int32), oI c4_]) rfl kz) ?_
            show own_Go p e below _ (T40.setTop (mkF m 38 #[oR p0, oI (5 : Int32), oR p2, oI (5 : Int32), oI (6 : Int32), oI (4 : Int32), oI c4_] []))
            refine own_via (fun t kz => XS.iinc X40.here hx rfl (hb hby d7_38) rfl (l' := #[oR p0, oI (5 : Int32), oR p2, oI (5 : Int32), oI (6 : Int32), oI (5 : Int32), oI c4_]) rfl kz) ?_
            refine own_via (fun t kz => XS.goto X40.here hx rfl (pc0 := 41) (pc' := 3) rfl (hb hby d7_41) (by decide) (by decide) kz) ?_
            refine own_via (fun t kz => XS.iload X40.here hx rfl (hb hby d7_3) rfl kz) ?_
            refine own_via (fun t kz => XS.iload X40.here hx rfl (hb hby d7_5) rfl kz) ?_
            show own_Go p e below _ (T40.setTop (mkF m 7 #[oR p0, oI (5 : Int32), oR p2, oI (5 : Int32), oI (6 : Int32), oI (5 : Int32), oI c4_] [(.int (6 : Int32)), (.int (5 : Int32))]))
            refine own_via (fun t kz => XS.icmpNo X40.here hx rfl (hb hby d7_7) rfl (tlt (by decide : (5 : Int32) < (6 : Int32))).2.1 kz) ?_
            refine own_via (fun t kz => XS.aloadN X40.here hx rfl (hb hby d7_10) rfl rfl kz) ?_
            refine own_via (fun t kz => XS.iloadN X40.here hx rfl (hb hby d7_11) rfl kz) ?_
            show own_Go p e below _ (T40.setTop (mkF m 12 #[oR p0, oI (5 : Int32), oR p2, oI (5 : Int32), oI (6 : Int32), oI (5 : Int32), oI c4_] [(.int (5 : Int32)), (.ref p0)]))
            obtain ⟨cl46, Ar46, kc46, Sz46, Nn46, Hs46, Gs46⟩ := id V41
            have in46 := inb_of (j := (5 : Int32)) Sz46 ⟨by decide, by decide⟩
            have at46 : cl46.slots[((5 : Int32)).toNatClampNeg]? = some (.int c5_) := Hs46.at in46 rfl
            refine own_via (fun t kz => X40.caload hx (j := (5 : Int32)) (v := (.int c5_)) (by rw [e40]; exact Ar46.1) (State.isArrayOf_alike hZ.alike Ar46.2.1) Ar46.2.2 in46 at46 (g := (mkF m 12 #[oR p0, oI (5 : Int32), oR p2, oI (5 : Int32), oI (6 : Int32), oI (5 : Int32), oI c4_] [(.int (5 : Int32)), (.ref p0)])) rfl rfl (hb hby d7_12) t kz) ?_
            refine own_via (fun t kz => XS.istore X40.here hx rfl (hb hby d7_13) rfl (l' := #[oR p0, oI (5 : Int32), oR p2, oI (5 : Int32), oI (6 : Int32), oI (5 : Int32), oI c5_]) rfl kz) ?_
            refine own_via (fun t kz => XS.iload X40.here hx rfl (hb hby d7_15) rfl kz) ?_
            refine own_via (fun t kz => XS.sipush X40.here hx rfl (hb hby d7_17) kz) ?_
            show own_Go p e below _ (T40.setTop (mkF m 20 #[oR p0, oI (5 : Int32), oR p2, oI (5 : Int32), oI (6 : Int32), oI (5 : Int32), oI c5_] [(.int (255 : Int32)), (.int c5_)]))
            by_cases hc20_47 : (255 : Int32) < c5_
            · refine own_via (fun t kz => XS.icmpNo X40.here hx rfl (hb hby d7_20) rfl (tlt hc20_47).2.2.2 kz) ?_
              refine own_via (fun t kz => XS.iload X40.here hx rfl (hb hby d7_23) rfl kz) ?_
              show own_Go p e below _ (T40.setTop (mkF m 25 #[oR p0, oI (5 : Int32), oR p2, oI (5 : Int32), oI (6 : Int32), oI (5 : Int32), oI c5_] [(.int (5 : Int32))]))
              obtain ⟨fs, hr, hrun, hended, hW, hsame⟩ := X40.leave (v := some (.int (5 : Int32))) (fun h => by rw [Bd.returns] at h; cases h)
              refine ⟨_, _, retI X40 hx Bd.returns (hb hby d7_25) hr, hrun, hended, _, _, rfl, ?_, ⟨_, rfl⟩, hW, hsame.mono (by decide) (by decide)⟩
              show QK6 Z p0 p2 kc kb c0_ c1_ c2_ c3_ c4_ c5_ r h0 n0 _ T40.heap _
              rw [e40]
              exact ⟨by rw [← hr0]; unfold own_cnt6; rw [if_neg hc20_2, if_neg hc20_11, if_neg hc20_20, if_neg hc20_29, if_neg hc20_38, if_pos hc20_47], N43, K44, fun hl => absurd hc20_47 hl.2.2.2.2.2⟩
            · refine own_via (fun t kz => XS.icmpYes X40.here hx rfl (pc0 := 20) (pc' := 26) rfl (hb hby d7_20) rfl (flt hc20_47).2.2.2 (by decide) (by decide) kz) ?_
              refine own_via (fun t kz => XS.aloadN X40.here hx rfl (hb hby d7_26) rfl rfl kz) ?_
              refine own_via (fun t kz => XS.iloadN X40.here hx rfl (hb hby d7_27) rfl kz) ?_
              refine own_via (fun t kz => XS.iload X40.here hx rfl (hb hby d7_28) rfl kz) ?_
              show own_Go p e below _ (T40.setTop (mkF m 30 #[oR p0, oI (5 : Int32), oR p2, oI (5 : Int32), oI (6 : Int32), oI (5 : Int32), oI c5_] [(.int c5_), (.int (5 : Int32)), (.ref p2)]))
              refine own_via (fun t kz => XS.i2b X40.here hx rfl (hb hby d7_30) rfl kz) ?_
              show own_Go p e below _ (T40.setTop (mkF m 31 #[oR p0, oI (5 : Int32), oR p2, oI (5 : Int32), oI (6 : Int32), oI (5 : Int32), oI c5_] [(.int (c5_.toInt8.toInt32)), (.int (5 : Int32)), (.ref p2)]))
              obtain ⟨cl49, Ar49, kc49, Sz49, Nn49, Hs49, Gs49⟩ := id V45
              obtain ⟨T49, h49, X49, e49, W49, st49⟩ := stB X40 hx hZ e40 Ar49 (j := (5 : Int32)) (inb_of Sz49 ⟨by decide, by decide⟩) (g := (mkF m 31 #[oR p0, oI (5 : Int32), oR p2, oI (5 : Int32), oI (6 : Int32), oI (5 : Int32), oI c5_] [(.int (c5_.toInt8.toInt32)), (.int (5 : Int32)), (.ref p2)])) rfl rfl (hb hby d7_31)
              refine own_via st49 ?_
              have na49 : nar .byte (c5_.toInt8.toInt32) = (c5_.toInt8.toInt32) := own_narb _
              rw [na49] at W49
              have V50 := V41.other W49 ne02
              have Zs51 : n0 ≤ h49.size := Nat.le_trans Zs42 (Keep.of_wr W49).1
              have N52 := Fr.snoc X49 N43 g_p2
              have K53 : Keep h0 h49 [p2] := K44.wr W49 (Or.inl (List.mem_of_getElem? (i := 0) rfl))
              have V54 : Arv Z h49 p2 kb .byte (6 : Int32) [(.int (c0_.toInt8.toInt32)), (.int (c1_.toInt8.toInt32)), (.int (c2_.toInt8.toInt32)), (.int (c3_.toInt8.toInt32)), (.int (c4_.toInt8.toInt32)), (.int (c5_.toInt8.toInt32))] (.int (0 : Int32)) := Arv.set Ar49 kc49 Sz49 Nn49 Hs49 Gs49 (fits_nar_byte _) W49 5 (by first | decide | (show 5 < 6; decide)) (by first | decide | (show 5 < 6; decide))
              show own_Go p e below _ (T49.setTop (mkF m 32 #[oR p0, oI (5 : Int32), oR p2, oI (5 : Int32), oI (6 : Int32), oI (5 : Int32), oI c5_] []))
              refine own_via (fun t kz => XS.iinc X49.here hx rfl (hb hby d7_32) rfl (l' := #[oR p0, oI (6 : Int32), oR p2, oI (5 : Int32), oI (6 : Int32), oI (5 : Int32), oI c5_]) rfl kz) ?_
              show own_Go p e below _ (T49.setTop (mkF m 35 #[oR p0, oI (6 : Int32), oR p2, oI (5 : Int32), oI (6 : Int32), oI (5 : Int32), oI c5_] []))
              refine own_via (fun t kz => XS.iinc X49.here hx rfl (hb hby d7_35) rfl (l' := #[oR p0, oI (6 : Int32), oR p2, oI (6 : Int32), oI (6 : Int32), oI (5 : Int32), oI c5_]) rfl kz) ?_
              show own_Go p e below _ (T49.setTop (mkF m 38 #[oR p0, oI (6 : Int32), oR p2, oI (6 : Int32), oI (6 : Int32), oI (5 : Int32), oI c5_] []))
              refine own_via (fun t kz => XS.iinc X49.here hx rfl (hb hby d7_38) rfl (l' := #[oR p0, oI (6 : Int32), oR p2, oI (6 : Int32), oI (6 : Int32), oI (6 : Int32), oI c5_]) rfl kz) ?_
              refine own_via (fun t kz => XS.goto X49.here hx rfl (pc0 := 41) (pc' := 3) rfl (hb hby d7_41) (by decide) (by decide) kz) ?_
              refine own_via (fun t kz => XS.iload X49.here hx rfl (hb hby d7_3) rfl kz) ?_
              refine own_via (fun t kz => XS.iload X49.here hx rfl (hb hby d7_5) rfl kz) ?_
              show own_Go p e below _ (T49.setTop (mkF m 7 #[oR p0, oI (6 : Int32), oR p2, oI (6 : Int32), oI (6 : Int32), oI (6 : Int32), oI c5_] [(.int (6 : Int32)), (.int (6 : Int32))]))
              refine own_via (fun t kz => XS.icmpYes X49.here hx rfl (pc0 := 7) (pc' := 44) rfl (hb hby d7_7) rfl (flt (by decide : ¬ ((6 : Int32) < (6 : Int32)))).2.1 (by decide) (by decide) kz) ?_
              refine own_via (fun t kz => XS.iload X49.here hx rfl (hb hby d7_44) rfl kz) ?_
              show own_Go p e below _ (T49.setTop (mkF m 46 #[oR p0, oI (6 : Int32), oR p2, oI (6 : Int32), oI (6 : Int32), oI (6 : Int32), oI c5_] [(.int (6 : Int32))]))
              obtain ⟨fs, hr, hrun, hended, hW, hsame⟩ := X49.leave (v := some (.int (6 : Int32))) (fun h => by rw [Bd.returns] at h; cases h)
              refine ⟨_, _, retI X49 hx Bd.returns (hb hby d7_46) hr, hrun, hended, _, _, rfl, ?_, ⟨_, rfl⟩, hW, hsame.mono (by decide) (by decide)⟩
              show QK6 Z p0 p2 kc kb c0_ c1_ c2_ c3_ c4_ c5_ r h0 n0 _ T49.heap _
              rw [e49]
              exact ⟨by rw [← hr0]; unfold own_cnt6; rw [if_neg hc20_2, if_neg hc20_11, if_neg hc20_20, if_neg hc20_29, if_neg hc20_38, if_neg hc20_47], N52, K53, fun _ => V54⟩
theorem d21_0 : decode jdk_52_method_4_code 0 = .ok (.getstatic 44, 3) := by decide +kernel
theorem d21_3 : decode jdk_52_method_4_code 3 = .ok (.ifCond .ne 25, 3) := by decide +kernel
theorem d21_28 : decode jdk_52_method_4_code 28 = .ok (.iload_n 1, 1) := by decide +kernel
theorem d21_29 : decode jdk_52_method_4_code 29 = .ok (.iconst 1, 1) := by decide +kernel
theorem d21_30 : decode jdk_52_method_4_code 30 = .ok (.ishl, 1) := by decide +kernel
theorem d21_31 : decode jdk_52_method_4_code 31 = .ok (.istore_n 1, 1) := by decide +kernel
theorem d21_32 : decode jdk_52_method_4_code 32 = .ok (.aload_n 0, 1) := by decide +kernel
theorem d21_33 : decode jdk_52_method_4_code 33 = .ok (.iload_n 1, 1) := by decide +kernel
theorem d21_34 : decode jdk_52_method_4_code 34 = .ok (.iinc 1 1, 3) := by decide +kernel
theorem d21_37 : decode jdk_52_method_4_code 37 = .ok (.iload_n 2, 1) := by decide +kernel
theorem d21_38 : decode jdk_52_method_4_code 38 = .ok (.getstatic 59, 3) := by decide +kernel
theorem d21_41 : decode jdk_52_method_4_code 41 = .ok (.ishr, 1) := by decide +kernel
theorem d21_42 : decode jdk_52_method_4_code 42 = .ok (.i2b, 1) := by decide +kernel
theorem d21_43 : decode jdk_52_method_4_code 43 = .ok (.bastore, 1) := by decide +kernel
theorem d21_44 : decode jdk_52_method_4_code 44 = .ok (.aload_n 0, 1) := by decide +kernel
theorem d21_45 : decode jdk_52_method_4_code 45 = .ok (.iload_n 1, 1) := by decide +kernel
theorem d21_46 : decode jdk_52_method_4_code 46 = .ok (.iload_n 2, 1) := by decide +kernel
theorem d21_47 : decode jdk_52_method_4_code 47 = .ok (.getstatic 63, 3) := by decide +kernel
theorem d21_50 : decode jdk_52_method_4_code 50 = .ok (.ishr, 1) := by decide +kernel
theorem d21_51 : decode jdk_52_method_4_code 51 = .ok (.i2b, 1) := by decide +kernel
theorem d21_52 : decode jdk_52_method_4_code 52 = .ok (.bastore, 1) := by decide +kernel
theorem d21_53 : decode jdk_52_method_4_code 53 = .ok (.return_, 1) := by decide +kernel
theorem ef_rmP6_0 (m : MethodId) (q0 : Addr) (q1 : Int32) : entryFrame m #[(.ref q0), (.int (0 : Int32)), (.int q1)] 3 = mkF m 0 #[oR q0, oI (0 : Int32), oI q1] [] := by first | (simp [entryFrame, mkF, argsToLocals, Value.category]; done) | rfl
def QP6_0 (Z : State) (p0 : Addr) (p2 : Int32) (kb : ClassId) (b0_ : Int32) (b1_ : Int32) (b2_ : Int32) (b3_ : Int32) (b4_ : Int32) (b5_ : Int32) (b6_ : Int32) (b7_ : Int32) (b8_ : Int32) (b9_ : Int32) (b10_ : Int32) (b11_ : Int32) (h0 : Heap) (n0 : Nat) (v : Option Value) (h : Heap) (L : List Loc) : Prop := v = none ∧ Fr n0 L ∧ Keep h0 h [p0] ∧ Arv Z h p0 kb .byte (12 : Int32) [(.int ((p2 >>> ((0 : Int32) &&& 31)).toInt8.toInt32)), (.int ((p2 >>> ((8 : Int32) &&& 31)).toInt8.toInt32)), (.int b2_), (.int b3_), (.int b4_), (.int b5_), (.int b6_), (.int b7_), (.int b8_), (.int b9_), (.int b10_), (.int b11_)] (.int (0 : Int32))
set_option maxRecDepth 65536 in
set_option maxHeartbeats 40000000 in
theorem rmP6_0 (l : Launch) (Z : State) (a0 : Array Value) (hw : ∀ d ∈ tables_1, d.before a0 Z = true) (ws : List Jvm.Cond) (p0 : Addr) (p2 : Int32) (kb : ClassId) (b0_ : Int32) (b1_ : Int32) (b2_ : Int32) (b3_ : Int32) (b4_ : Int32) (b5_ : Int32) (b6_ : Int32) (b7_ : Int32) (b8_ : Int32) (b9_ : Int32) (b10_ : Int32) (b11_ : Int32) (h0 : Heap) (n0 : Nat) (Z0 : n0 ≤ h0.size) (g_p0 : n0 ≤ p0) (VB : Arv Z h0 p0 kb .byte (12 : Int32) [(.int b0_), (.int b1_), (.int b2_), (.int b3_), (.int b4_), (.int b5_), (.int b6_), (.int b7_), (.int b8_), (.int b9_), (.int b10_), (.int b11_)] (.int (0 : Int32))) (S_wad : Sta Z h0 "java/lang/StringUTF16" "$assertionsDisabled" "Z" (.int (1 : Int32))) (S_whi : Sta Z h0 "java/lang/StringUTF16" "HI_BYTE_SHIFT" "I" (.int (0 : Int32))) (S_wlo : Sta Z h0 "java/lang/StringUTF16" "LO_BYTE_SHIFT" "I" (.int (8 : Int32))) :
    MetFree l (⟨"java/lang/StringUTF16", "putChar", "([BII)V"⟩ : MethodName) (head1 (Jvm.Cond.code (⟨"java/lang/StringUTF16", "putChar", "([BII)V"⟩ : MethodName) jdk_52_method_4_code 3 none :: ws) ({ frames := 0, cells := 0, slots := 0, locals := 0 } : Room)) (fun a U => a = #[(.ref p0), (.int (0 : Int32)), (.int p2)] ∧ Z.Warmed39 U.vm ∧ U.heap = h0) (fun _ _ _ _ _ => True) (fun _ U o U' => ∃ v L, o = .returned v ∧ QP6_0 Z p0 p2 kb b0_ b1_ b2_ b3_ b4_ b5_ b6_ b7_ b8_ b9_ b10_ b11_ h0 n0 v U'.heap L ∧ FrameEnd U o U' L ({ frames := 0, cells := 0, slots := 0, locals := 0 } : Room).cells ({ frames := 0, cells := 0, slots := 0, locals := 0 } : Room).slots) := by
  refine MetFree.of_bodySF (plainFor_of_name pn_20) hisR ?_
  intro p e s m args below meth c s₁ Bd hml0 hP hK
  obtain ⟨rfl, hZ, hh⟩ := hP
  have hx := Bd.exec
  have hby := Bd.bytes
  have hml : c.maxLocals = 3 := hml0
  have hown : s.vm.findClass "java/lang/StringUTF16" = some m.cls := findClass_of_methodNamed Bd.named
  have hnm := (name_of_methodNamed Bd.named Bd.method).1
  have X0 : Stand p l e ({ frames := 0, cells := 0, slots := 0, locals := 0 } : Room) s m #[(.ref p0), (.int (0 : Int32)), (.int p2)] below meth c s₁ [] 0 0 := Stand.of_body Bd
  have e0 : s₁.heap = h0 := by rw [← hh, Bd.state]; rfl
  have N0 := Fr.nil n0
  refine own_start ?_
  refine own_via (fun t k => castTop (ef_rmP6_0 m p0 p2) k) ?_
  show own_Go p e below _ (s₁.setTop (mkF m 0 #[oR p0, oI (0 : Int32), oI p2] []))
  obtain ⟨T1, X1, e1, st1⟩ := getS2 X0 hx hZ hown (host := "") (Or.inl (own_w hw 110)) Via.refl e0 S_wad (g := (mkF m 0 #[oR p0, oI (0 : Int32), oI p2] [])) rfl (hb hby d21_0)
  refine own_via st1 ?_
  show own_Go p e below _ (T1.setTop (mkF m 3 #[oR p0, oI (0 : Int32), oI p2] [(.int (1 : Int32))]))
  refine own_via (fun t kz => XS.ifYes X1.here hx rfl (pc0 := 3) (pc' := 28) rfl (hb hby d21_3) rfl ((if0 _ _).trans (feq (by decide : ¬ ((1 : Int32) = (0 : Int32)))).2) (by decide) (by decide) kz) ?_
  refine own_via (fun t kz => XS.iloadN X1.here hx rfl (hb hby d21_28) rfl kz) ?_
  refine own_via (fun t kz => XS.iconst X1.here hx rfl (hb hby d21_29) kz) ?_
  show own_Go p e below _ (T1.setTop (mkF m 30 #[oR p0, oI (0 : Int32), oI p2] [(.int (1 : Int32)), (.int (0 : Int32))]))
  refine own_via (fun t kz => XS.ishl X1.here hx rfl (hb hby d21_30) rfl kz) ?_
  refine own_via (fun t kz => XS.istoreN X1.here hx rfl (hb hby d21_31) rfl (l' := #[oR p0, oI (0 : Int32), oI p2]) rfl kz) ?_
  refine own_via (fun t kz => XS.aloadN X1.here hx rfl (hb hby d21_32) rfl rfl kz) ?_
  refine own_via (fun t kz => XS.iloadN X1.here hx rfl (hb hby d21_33) rfl kz) ?_
  show own_Go p e below _ (T1.setTop (mkF m 34 #[oR p0, oI (0 : Int32), oI p2] [(.int (0 : Int32)), (.ref p0)]))
  refine own_via (fun t kz => XS.iinc X1.here hx rfl (hb hby d21_34) rfl (l' := #[oR p0, oI (1 : Int32), oI p2]) rfl kz) ?_
  refine own_via (fun t kz => XS.iloadN X1.here hx rfl (hb hby d21_37) rfl kz) ?_
  show own_Go p e below _ (T1.setTop (mkF m 38 #[oR p0, oI (1 : Int32), oI p2] [(.int p2), (.int (0 : Int32)), (.ref p0)]))
  obtain ⟨T2, X2, e2, st2⟩ := getS2 X1 hx hZ hown (host := "") (Or.inl (own_w hw 111)) Via.refl e1 S_whi (g := (mkF m 38 #[oR p0, oI (1 : Int32), oI p2] [(.int p2), (.int (0 : Int32)), (.ref p0)])) rfl (hb hby d21_38)
  refine own_via st2 ?_
  show own_Go p e below _ (T2.setTop (mkF m 41 #[oR p0, oI (1 : Int32), oI p2] [(.int (0 : Int32)), (.int p2), (.int (0 : Int32)), (.ref p0)]))
  refine own_via (fun t kz => XS.ishr X2.here hx rfl (hb hby d21_41) rfl kz) ?_
  show own_Go p e below _ (T2.setTop (mkF m 42 #[oR p0, oI (1 : Int32), oI p2] [(.int (p2 >>> ((0 : Int32) &&& 31))), (.int (0 : Int32)), (.ref p0)]))
  refine own_via (fun t kz => XS.i2b X2.here hx rfl (hb hby d21_42) rfl kz) ?_
  show own_Go p e below _ (T2.setTop (mkF m 43 #[oR p0, oI (1 : Int32), oI p2] [(.int ((p2 >>> ((0 : Int32) &&& 31)).toInt8.toInt32)), (.int (0 : Int32)), (.ref p0)]))
  obtain ⟨cl3, Ar3, kc3, Sz3, Nn3, Hs3, Gs3⟩ := id VB
  obtain ⟨T3, h3, X3, e3, W3, st3⟩ := stB X2 hx hZ e2 Ar3 (j := (0 : Int32)) (inb_of Sz3 ⟨by decide, by decide⟩) (g := (mkF m 43 #[oR p0, oI (1 : Int32), oI p2] [(.int ((p2 >>> ((0 : Int32) &&& 31)).toInt8.toInt32)), (.int (0 : Int32)), (.ref p0)])) rfl rfl (hb hby d21_43)
  refine own_via st3 ?_
  have na3 : nar .byte ((p2 >>> ((0 : Int32) &&& 31)).toInt8.toInt32) = ((p2 >>> ((0 : Int32) &&& 31)).toInt8.toInt32) := own_narb _
  rw [na3] at W3
  have S4 := S_wad.wr W3
  have S5 := S_whi.wr W3
  have S6 := S_wlo.wr W3
  have Zs7 : n0 ≤ h3.size := Nat.le_trans Z0 (Keep.of_wr W3).1
  have N8 := Fr.snoc X3 N0 g_p0
  have K9 : Keep h0 h3 [p0] := (Keep.refl h0 [p0]).wr W3 (Or.inl (List.mem_of_getElem? (i := 0) rfl))
  have V10 : Arv Z h3 p0 kb .byte (12 : Int32) [(.int ((p2 >>> ((0 : Int32) &&& 31)).toInt8.toInt32)), (.int b1_), (.int b2_), (.int b3_), (.int b4_), (.int b5_), (.int b6_), (.int b7_), (.int b8_), (.int b9_), (.int b10_), (.int b11_)] (.int (0 : Int32)) := Arv.set Ar3 kc3 Sz3 Nn3 Hs3 Gs3 (fits_nar_byte _) W3 0 (by first | decide | (show 0 < 12; decide)) (by first | decide | (show 0 < 12; decide))
  refine own_via (fun t kz => XS.aloadN X3.here hx rfl (hb hby d21_44) rfl rfl kz) ?_
  refine own_via (fun t kz => XS.iloadN X3.here hx rfl (hb hby d21_45) rfl kz) ?_
  refine own_via (fun t kz => XS.iloadN X3.here hx rfl (hb hby d21_46) rfl kz) ?_
  show own_Go p e below _ (T3.setTop (mkF m 47 #[oR p0, oI (1 : Int32), oI p2] [(.int p2), (.int (1 : Int32)), (.ref p0)]))
  obtain ⟨T11, X11, e11, st11⟩ := getS2 X3 hx hZ hown (host := "") (Or.inl (own_w hw 112)) Via.refl e3 S6 (g := (mkF m 47 #[oR p0, oI (1 : Int32), oI p2] [(.int p2), (.int (1 : Int32)), (.ref p0)])) rfl (hb hby d21_47)
  refine own_via st11 ?_
  show own_Go p e below _ (T11.setTop (mkF m 50 #[oR p0, oI (1 : Int32), oI p2] [(.int (8 : Int32)), (.int p2), (.int (1 : Int32)), (.ref p0)]))
  refine own_via (fun t kz => XS.ishr X11.here hx rfl (hb hby d21_50) rfl kz) ?_
  show own_Go p e below _ (T11.setTop (mkF m 51 #[oR p0, oI (1 : Int32), oI p2] [(.int (p2 >>> ((8 : Int32) &&& 31))), (.int (1 : Int32)), (.ref p0)]))
  refine own_via (fun t kz => XS.i2b X11.here hx rfl (hb hby d21_51) rfl kz) ?_
  show own_Go p e below _ (T11.setTop (mkF m 52 #[oR p0, oI (1 : Int32), oI p2] [(.int ((p2 >>> ((8 : Int32) &&& 31)).toInt8.toInt32)), (.int (1 : Int32)), (.ref p0)]))
  obtain ⟨cl12, Ar12, kc12, Sz12, Nn12, Hs12, Gs12⟩ := id V10
  obtain ⟨T12, h12, X12, e12, W12, st12⟩ := stB X11 hx hZ e11 Ar12 (j := (1 : Int32)) (inb_of Sz12 ⟨by decide, by decide⟩) (g := (mkF m 52 #[oR p0, oI (1 : Int32), oI p2] [(.int ((p2 >>> ((8 : Int32) &&& 31)).toInt8.toInt32)), (.int (1 : Int32)), (.ref p0)])) rfl rfl (hb hby d21_52)
  refine own_via st12 ?_
  have na12 : nar .byte ((p2 >>> ((8 : Int32) &&& 31)).toInt8.toInt32) = ((p2 >>> ((8 : Int32) &&& 31)).toInt8.toInt32) := own_narb _
  rw [na12] at W12
  have S13 := S4.wr W12
  have S14 := S5.wr W12
  have S15 := S6.wr W12
  have Zs16 : n0 ≤ h12.size := Nat.le_trans Zs7 (Keep.of_wr W12).1
  have N17 := Fr.snoc X12 N8 g_p0
  have K18 : Keep h0 h12 [p0] := K9.wr W12 (Or.inl (List.mem_of_getElem? (i := 0) rfl))
  have V19 : Arv Z h12 p0 kb .byte (12 : Int32) [(.int ((p2 >>> ((0 : Int32) &&& 31)).toInt8.toInt32)), (.int ((p2 >>> ((8 : Int32) &&& 31)).toInt8.toInt32)), (.int b2_), (.int b3_), (.int b4_), (.int b5_), (.int b6_), (.int b7_), (.int b8_), (.int b9_), (.int b10_), (.int b11_)] (.int (0 : Int32)) := Arv.set Ar12 kc12 Sz12 Nn12 Hs12 Gs12 (fits_nar_byte _) W12 1 (by first | decide | (show 1 < 12; decide)) (by first | decide | (show 1 < 12; decide))
  show own_Go p e below _ (T12.setTop (mkF m 53 #[oR p0, oI (1 : Int32), oI p2] []))
  obtain ⟨fs, hr, hrun, hended, hW, hsame⟩ := X12.leave (v := none) (fun _ => rfl)
  refine ⟨_, _, X12.returnOut hx Bd.returns (hb hby d21_53) hr, hrun, hended, _, _, rfl, ?_, ⟨_, rfl⟩, hW, hsame.mono (by decide) (by decide)⟩
  show QP6_0 Z p0 p2 kb b0_ b1_ b2_ b3_ b4_ b5_ b6_ b7_ b8_ b9_ b10_ b11_ h0 n0 _ T12.heap _
  rw [e12]
  exact ⟨rfl, N17, K18, V19⟩
theorem ef_rmP6_1 (m : MethodId) (q0 : Addr) (q1 : Int32) : entryFrame m #[(.ref q0), (.int (1 : Int32)), (.int q1)] 3 = mkF m 0 #[oR q0, oI (1 : Int32), oI q1] [] := by first | (simp [entryFrame, mkF, argsToLocals, Value.category]; done) | rfl
def QP6_1 (Z : State) (p0 : Addr) (p2 : Int32) (kb : ClassId) (b0_ : Int32) (b1_ : Int32) (b2_ : Int32) (b3_ : Int32) (b4_ : Int32) (b5_ : Int32) (b6_ : Int32) (b7_ : Int32) (b8_ : Int32) (b9_ : Int32) (b10_ : Int32) (b11_ : Int32) (h0 : Heap) (n0 : Nat) (v : Option Value) (h : Heap) (L : List Loc) : Prop := v = none ∧ Fr n0 L ∧ Keep h0 h [p0] ∧ Arv Z h p0 kb .byte (12 : Int32) [(.int b0_), (.int b1_), (.int ((p2 >>> ((0 : Int32) &&& 31)).toInt8.toInt32)), (.int ((p2 >>> ((8 : Int32) &&& 31)).toInt8.toInt32)), (.int b4_), (.int b5_), (.int b6_), (.int b7_), (.int b8_), (.int b9_), (.int b10_), (.int b11_)] (.int (0 : Int32))
set_option maxRecDepth 65536 in
set_option maxHeartbeats 40000000 in
theorem rmP6_1 (l : Launch) (Z : State) (a0 : Array Value) (hw : ∀ d ∈ tables_1, d.before a0 Z = true) (ws : List Jvm.Cond) (p0 : Addr) (p2 : Int32) (kb : ClassId) (b0_ : Int32) (b1_ : Int32) (b2_ : Int32) (b3_ : Int32) (b4_ : Int32) (b5_ : Int32) (b6_ : Int32) (b7_ : Int32) (b8_ : Int32) (b9_ : Int32) (b10_ : Int32) (b11_ : Int32) (h0 : Heap) (n0 : Nat) (Z0 : n0 ≤ h0.size) (g_p0 : n0 ≤ p0) (VB : Arv Z h0 p0 kb .byte (12 : Int32) [(.int b0_), (.int b1_), (.int b2_), (.int b3_), (.int b4_), (.int b5_), (.int b6_), (.int b7_), (.int b8_), (.int b9_), (.int b10_), (.int b11_)] (.int (0 : Int32))) (S_wad : Sta Z h0 "java/lang/StringUTF16" "$assertionsDisabled" "Z" (.int (1 : Int32))) (S_whi : Sta Z h0 "java/lang/StringUTF16" "HI_BYTE_SHIFT" "I" (.int (0 : Int32))) (S_wlo : Sta Z h0 "java/lang/StringUTF16" "LO_BYTE_SHIFT" "I" (.int (8 : Int32))) :
    MetFree l (⟨"java/lang/StringUTF16", "putChar", "([BII)V"⟩ : MethodName) (head1 (Jvm.Cond.code (⟨"java/lang/StringUTF16", "putChar", "([BII)V"⟩ : MethodName) jdk_52_method_4_code 3 none :: ws) ({ frames := 0, cells := 0, slots := 0, locals := 0 } : Room)) (fun a U => a = #[(.ref p0), (.int (1 : Int32)), (.int p2)] ∧ Z.Warmed39 U.vm ∧ U.heap = h0) (fun _ _ _ _ _ => True) (fun _ U o U' => ∃ v L, o = .returned v ∧ QP6_1 Z p0 p2 kb b0_ b1_ b2_ b3_ b4_ b5_ b6_ b7_ b8_ b9_ b10_ b11_ h0 n0 v U'.heap L ∧ FrameEnd U o U' L ({ frames := 0, cells := 0, slots := 0, locals := 0 } : Room).cells ({ frames := 0, cells := 0, slots := 0, locals := 0 } : Room).slots) := by
  refine MetFree.of_bodySF (plainFor_of_name pn_20) hisR ?_
  intro p e s m args below meth c s₁ Bd hml0 hP hK
  obtain ⟨rfl, hZ, hh⟩ := hP
  have hx := Bd.exec
  have hby := Bd.bytes
  have hml : c.maxLocals = 3 := hml0
  have hown : s.vm.findClass "java/lang/StringUTF16" = some m.cls := findClass_of_methodNamed Bd.named
  have hnm := (name_of_methodNamed Bd.named Bd.method).1
  have X0 : Stand p l e ({ frames := 0, cells := 0, slots := 0, locals := 0 } : Room) s m #[(.ref p0), (.int (1 : Int32)), (.int p2)] below meth c s₁ [] 0 0 := Stand.of_body Bd
  have e0 : s₁.heap = h0 := by rw [← hh, Bd.state]; rfl
  have N0 := Fr.nil n0
  refine own_start ?_
  refine own_via (fun t k => castTop (ef_rmP6_1 m p0 p2) k) ?_
  show own_Go p e below _ (s₁.setTop (mkF m 0 #[oR p0, oI (1 : Int32), oI p2] []))
  obtain ⟨T1, X1, e1, st1⟩ := getS2 X0 hx hZ hown (host := "") (Or.inl (own_w hw 110)) Via.refl e0 S_wad (g := (mkF m 0 #[oR p0, oI (1 : Int32), oI p2] [])) rfl (hb hby d21_0)
  refine own_via st1 ?_
  show own_Go p e below _ (T1.setTop (mkF m 3 #[oR p0, oI (1 : Int32), oI p2] [(.int (1 : Int32))]))
  refine own_via (fun t kz => XS.ifYes X1.here hx rfl (pc0 := 3) (pc' := 28) rfl (hb hby d21_3) rfl ((if0 _ _).trans (feq (by decide : ¬ ((1 : Int32) = (0 : Int32)))).2) (by decide) (by decide) kz) ?_
  refine own_via (fun t kz => XS.iloadN X1.here hx rfl (hb hby d21_28) rfl kz) ?_
  refine own_via (fun t kz => XS.iconst X1.here hx rfl (hb hby d21_29) kz) ?_
  show own_Go p e below _ (T1.setTop (mkF m 30 #[oR p0, oI (1 : Int32), oI p2] [(.int (1 : Int32)), (.int (1 : Int32))]))
  refine own_via (fun t kz => XS.ishl X1.here hx rfl (hb hby d21_30) rfl kz) ?_
  refine own_via (fun t kz => XS.istoreN X1.here hx rfl (hb hby d21_31) rfl (l' := #[oR p0, oI (2 : Int32), oI p2]) rfl kz) ?_
  refine own_via (fun t kz => XS.aloadN X1.here hx rfl (hb hby d21_32) rfl rfl kz) ?_
  refine own_via (fun t kz => XS.iloadN X1.here hx rfl (hb hby d21_33) rfl kz) ?_
  show own_Go p e below _ (T1.setTop (mkF m 34 #[oR p0, oI (2 : Int32), oI p2] [(.int (2 : Int32)), (.ref p0)]))
  refine own_via (fun t kz => XS.iinc X1.here hx rfl (hb hby d21_34) rfl (l' := #[oR p0, oI (3 : Int32), oI p2]) rfl kz) ?_
  refine own_via (fun t kz => XS.iloadN X1.here hx rfl (hb hby d21_37) rfl kz) ?_
  show own_Go p e below _ (T1.setTop (mkF m 38 #[oR p0, oI (3 : Int32), oI p2] [(.int p2), (.int (2 : Int32)), (.ref p0)]))
  obtain ⟨T2, X2, e2, st2⟩ := getS2 X1 hx hZ hown (host := "") (Or.inl (own_w hw 111)) Via.refl e1 S_whi (g := (mkF m 38 #[oR p0, oI (3 : Int32), oI p2] [(.int p2), (.int (2 : Int32)), (.ref p0)])) rfl (hb hby d21_38)
  refine own_via st2 ?_
  show own_Go p e below _ (T2.setTop (mkF m 41 #[oR p0, oI (3 : Int32), oI p2] [(.int (0 : Int32)), (.int p2), (.int (2 : Int32)), (.ref p0)]))
  refine own_via (fun t kz => XS.ishr X2.here hx rfl (hb hby d21_41) rfl kz) ?_
  show own_Go p e below _ (T2.setTop (mkF m 42 #[oR p0, oI (3 : Int32), oI p2] [(.int (p2 >>> ((0 : Int32) &&& 31))), (.int (2 : Int32)), (.ref p0)]))
  refine own_via (fun t kz => XS.i2b X2.here hx rfl (hb hby d21_42) rfl kz) ?_
  show own_Go p e below _ (T2.setTop (mkF m 43 #[oR p0, oI (3 : Int32), oI p2] [(.int ((p2 >>> ((0 : Int32) &&& 31)).toInt8.toInt32)), (.int (2 : Int32)), (.ref p0)]))
  obtain ⟨cl3, Ar3, kc3, Sz3, Nn3, Hs3, Gs3⟩ := id VB
  obtain ⟨T3, h3, X3, e3, W3, st3⟩ := stB X2 hx hZ e2 Ar3 (j := (2 : Int32)) (inb_of Sz3 ⟨by decide, by decide⟩) (g := (mkF m 43 #[oR p0, oI (3 : Int32), oI p2] [(.int ((p2 >>> ((0 : Int32) &&& 31)).toInt8.toInt32)), (.int (2 : Int32)), (.ref p0)])) rfl rfl (hb hby d21_43)
  refine own_via st3 ?_
  have na3 : nar .byte ((p2 >>> ((0 : Int32) &&& 31)).toInt8.toInt32) = ((p2 >>> ((0 : Int32) &&& 31)).toInt8.toInt32) := own_narb _
  rw [na3] at W3
  have S4 := S_wad.wr W3
  have S5 := S_whi.wr W3
  have S6 := S_wlo.wr W3
  have Zs7 : n0 ≤ h3.size := Nat.le_trans Z0 (Keep.of_wr W3).1
  have N8 := Fr.snoc X3 N0 g_p0
  have K9 : Keep h0 h3 [p0] := (Keep.refl h0 [p0]).wr W3 (Or.inl (List.mem_of_getElem? (i := 0) rfl))
  have V10 : Arv Z h3 p0 kb .byte (12 : Int32) [(.int b0_), (.int b1_), (.int ((p2 >>> ((0 : Int32) &&& 31)).toInt8.toInt32)), (.int b3_), (.int b4_), (.int b5_), (.int b6_), (.int b7_), (.int b8_), (.int b9_), (.int b10_), (.int b11_)] (.int (0 : Int32)) := Arv.set Ar3 kc3 Sz3 Nn3 Hs3 Gs3 (fits_nar_byte _) W3 2 (by first | decide | (show 2 < 12; decide)) (by first | decide | (show 2 < 12; decide))
  refine own_via (fun t kz => XS.aloadN X3.here hx rfl (hb hby d21_44) rfl rfl kz) ?_
  refine own_via (fun t kz => XS.iloadN X3.here hx rfl (hb hby d21_45) rfl kz) ?_
  refine own_via (fun t kz => XS.iloadN X3.here hx rfl (hb hby d21_46) rfl kz) ?_
  show own_Go p e below _ (T3.setTop (mkF m 47 #[oR p0, oI (3 : Int32), oI p2] [(.int p2), (.int (3 : Int32)), (.ref p0)]))
  obtain ⟨T11, X11, e11, st11⟩ := getS2 X3 hx hZ hown (host := "") (Or.inl (own_w hw 112)) Via.refl e3 S6 (g := (mkF m 47 #[oR p0, oI (3 : Int32), oI p2] [(.int p2), (.int (3 : Int32)), (.ref p0)])) rfl (hb hby d21_47)
  refine own_via st11 ?_
  show own_Go p e below _ (T11.setTop (mkF m 50 #[oR p0, oI (3 : Int32), oI p2] [(.int (8 : Int32)), (.int p2), (.int (3 : Int32)), (.ref p0)]))
  refine own_via (fun t kz => XS.ishr X11.here hx rfl (hb hby d21_50) rfl kz) ?_
  show own_Go p e below _ (T11.setTop (mkF m 51 #[oR p0, oI (3 : Int32), oI p2] [(.int (p2 >>> ((8 : Int32) &&& 31))), (.int (3 : Int32)), (.ref p0)]))
  refine own_via (fun t kz => XS.i2b X11.here hx rfl (hb hby d21_51) rfl kz) ?_
  show own_Go p e below _ (T11.setTop (mkF m 52 #[oR p0, oI (3 : Int32), oI p2] [(.int ((p2 >>> ((8 : Int32) &&& 31)).toInt8.toInt32)), (.int (3 : Int32)), (.ref p0)]))
  obtain ⟨cl12, Ar12, kc12, Sz12, Nn12, Hs12, Gs12⟩ := id V10
  obtain ⟨T12, h12, X12, e12, W12, st12⟩ := stB X11 hx hZ e11 Ar12 (j := (3 : Int32)) (inb_of Sz12 ⟨by decide, by decide⟩) (g := (mkF m 52 #[oR p0, oI (3 : Int32), oI p2] [(.int ((p2 >>> ((8 : Int32) &&& 31)).toInt8.toInt32)), (.int (3 : Int32)), (.ref p0)])) rfl rfl (hb hby d21_52)
  refine own_via st12 ?_
  have na12 : nar .byte ((p2 >>> ((8 : Int32) &&& 31)).toInt8.toInt32) = ((p2 >>> ((8 : Int32) &&& 31)).toInt8.toInt32) := own_narb _
  rw [na12] at W12
  have S13 := S4.wr W12
  have S14 := S5.wr W12
  have S15 := S6.wr W12
  have Zs16 : n0 ≤ h12.size := Nat.le_trans Zs7 (Keep.of_wr W12).1
  have N17 := Fr.snoc X12 N8 g_p0
  have K18 : Keep h0 h12 [p0] := K9.wr W12 (Or.inl (List.mem_of_getElem? (i := 0) rfl))
  have V19 : Arv Z h12 p0 kb .byte (12 : Int32) [(.int b0_), (.int b1_), (.int ((p2 >>> ((0 : Int32) &&& 31)).toInt8.toInt32)), (.int ((p2 >>> ((8 : Int32) &&& 31)).toInt8.toInt32)), (.int b4_), (.int b5_), (.int b6_), (.int b7_), (.int b8_), (.int b9_), (.int b10_), (.int b11_)] (.int (0 : Int32)) := Arv.set Ar12 kc12 Sz12 Nn12 Hs12 Gs12 (fits_nar_byte _) W12 3 (by first | decide | (show 3 < 12; decide)) (by first | decide | (show 3 < 12; decide))
  show own_Go p e below _ (T12.setTop (mkF m 53 #[oR p0, oI (3 : Int32), oI p2] []))
  obtain ⟨fs, hr, hrun, hended, hW, hsame⟩ := X12.leave (v := none) (fun _ => rfl)
  refine ⟨_, _, X12.returnOut hx Bd.returns (hb hby d21_53) hr, hrun, hended, _, _, rfl, ?_, ⟨_, rfl⟩, hW, hsame.mono (by decide) (by decide)⟩
  show QP6_1 Z p0 p2 kb b0_ b1_ b2_ b3_ b4_ b5_ b6_ b7_ b8_ b9_ b10_ b11_ h0 n0 _ T12.heap _
  rw [e12]
  exact ⟨rfl, N17, K18, V19⟩
theorem ef_rmP6_2 (m : MethodId) (q0 : Addr) (q1 : Int32) : entryFrame m #[(.ref q0), (.int (2 : Int32)), (.int q1)] 3 = mkF m 0 #[oR q0, oI (2 : Int32), oI q1] [] := by first | (simp [entryFrame, mkF, argsToLocals, Value.category]; done) | rfl
def QP6_2 (Z : State) (p0 : Addr) (p2 : Int32) (kb : ClassId) (b0_ : Int32) (b1_ : Int32) (b2_ : Int32) (b3_ : Int32) (b4_ : Int32) (b5_ : Int32) (b6_ : Int32) (b7_ : Int32) (b8_ : Int32) (b9_ : Int32) (b10_ : Int32) (b11_ : Int32) (h0 : Heap) (n0 : Nat) (v : Option Value) (h : Heap) (L : List Loc) : Prop := v = none ∧ Fr n0 L ∧ Keep h0 h [p0] ∧ Arv Z h p0 kb .byte (12 : Int32) [(.int b0_), (.int b1_), (.int b2_), (.int b3_), (.int ((p2 >>> ((0 : Int32) &&& 31)).toInt8.toInt32)), (.int ((p2 >>> ((8 : Int32) &&& 31)).toInt8.toInt32)), (.int b6_), (.int b7_), (.int b8_), (.int b9_), (.int b10_), (.int b11_)] (.int (0 : Int32))
set_option maxRecDepth 65536 in
set_option maxHeartbeats 40000000 in
theorem rmP6_2 (l : Launch) (Z : State) (a0 : Array Value) (hw : ∀ d ∈ tables_1, d.before a0 Z = true) (ws : List Jvm.Cond) (p0 : Addr) (p2 : Int32) (kb : ClassId) (b0_ : Int32) (b1_ : Int32) (b2_ : Int32) (b3_ : Int32) (b4_ : Int32) (b5_ : Int32) (b6_ : Int32) (b7_ : Int32) (b8_ : Int32) (b9_ : Int32) (b10_ : Int32) (b11_ : Int32) (h0 : Heap) (n0 : Nat) (Z0 : n0 ≤ h0.size) (g_p0 : n0 ≤ p0) (VB : Arv Z h0 p0 kb .byte (12 : Int32) [(.int b0_), (.int b1_), (.int b2_), (.int b3_), (.int b4_), (.int b5_), (.int b6_), (.int b7_), (.int b8_), (.int b9_), (.int b10_), (.int b11_)] (.int (0 : Int32))) (S_wad : Sta Z h0 "java/lang/StringUTF16" "$assertionsDisabled" "Z" (.int (1 : Int32))) (S_whi : Sta Z h0 "java/lang/StringUTF16" "HI_BYTE_SHIFT" "I" (.int (0 : Int32))) (S_wlo : Sta Z h0 "java/lang/StringUTF16" "LO_BYTE_SHIFT" "I" (.int (8 : Int32))) :
    MetFree l (⟨"java/lang/StringUTF16", "putChar", "([BII)V"⟩ : MethodName) (head1 (Jvm.Cond.code (⟨"java/lang/StringUTF16", "putChar", "([BII)V"⟩ : MethodName) jdk_52_method_4_code 3 none :: ws) ({ frames := 0, cells := 0, slots := 0, locals := 0 } : Room)) (fun a U => a = #[(.ref p0), (.int (2 : Int32)), (.int p2)] ∧ Z.Warmed39 U.vm ∧ U.heap = h0) (fun _ _ _ _ _ => True) (fun _ U o U' => ∃ v L, o = .returned v ∧ QP6_2 Z p0 p2 kb b0_ b1_ b2_ b3_ b4_ b5_ b6_ b7_ b8_ b9_ b10_ b11_ h0 n0 v U'.heap L ∧ FrameEnd U o U' L ({ frames := 0, cells := 0, slots := 0, locals := 0 } : Room).cells ({ frames := 0, cells := 0, slots := 0, locals := 0 } : Room).slots) := by
  refine MetFree.of_bodySF (plainFor_of_name pn_20) hisR ?_
  intro p e s m args below meth c s₁ Bd hml0 hP hK
  obtain ⟨rfl, hZ, hh⟩ := hP
  have hx := Bd.exec
  have hby := Bd.bytes
  have hml : c.maxLocals = 3 := hml0
  have hown : s.vm.findClass "java/lang/StringUTF16" = some m.cls := findClass_of_methodNamed Bd.named
  have hnm := (name_of_methodNamed Bd.named Bd.method).1
  have X0 : Stand p l e ({ frames := 0, cells := 0, slots := 0, locals := 0 } : Room) s m #[(.ref p0), (.int (2 : Int32)), (.int p2)] below meth c s₁ [] 0 0 := Stand.of_body Bd
  have e0 : s₁.heap = h0 := by rw [← hh, Bd.state]; rfl
  have N0 := Fr.nil n0
  refine own_start ?_
  refine own_via (fun t k => castTop (ef_rmP6_2 m p0 p2) k) ?_
  show own_Go p e below _ (s₁.setTop (mkF m 0 #[oR p0, oI (2 : Int32), oI p2] []))
  obtain ⟨T1, X1, e1, st1⟩ := getS2 X0 hx hZ hown (host := "") (Or.inl (own_w hw 110)) Via.refl e0 S_wad (g := (mkF m 0 #[oR p0, oI (2 : Int32), oI p2] [])) rfl (hb hby d21_0)
  refine own_via st1 ?_
  show own_Go p e below _ (T1.setTop (mkF m 3 #[oR p0, oI (2 : Int32), oI p2] [(.int (1 : Int32))]))
  refine own_via (fun t kz => XS.ifYes X1.here hx rfl (pc0 := 3) (pc' := 28) rfl (hb hby d21_3) rfl ((if0 _ _).trans (feq (by decide : ¬ ((1 : Int32) = (0 : Int32)))).2) (by decide) (by decide) kz) ?_
  refine own_via (fun t kz => XS.iloadN X1.here hx rfl (hb hby d21_28) rfl kz) ?_
  refine own_via (fun t kz => XS.iconst X1.here hx rfl (hb hby d21_29) kz) ?_
  show own_Go p e below _ (T1.setTop (mkF m 30 #[oR p0, oI (2 : Int32), oI p2] [(.int (1 : Int32)), (.int (2 : Int32))]))
  refine own_via (fun t kz => XS.ishl X1.here hx rfl (hb hby d21_30) rfl kz) ?_
  refine own_via (fun t kz => XS.istoreN X1.here hx rfl (hb hby d21_31) rfl (l' := #[oR p0, oI (4 : Int32), oI p2]) rfl kz) ?_
  refine own_via (fun t kz => XS.aloadN X1.here hx rfl (hb hby d21_32) rfl rfl kz) ?_
  refine own_via (fun t kz => XS.iloadN X1.here hx rfl (hb hby d21_33) rfl kz) ?_
  show own_Go p e below _ (T1.setTop (mkF m 34 #[oR p0, oI (4 : Int32), oI p2] [(.int (4 : Int32)), (.ref p0)]))
  refine own_via (fun t kz => XS.iinc X1.here hx rfl (hb hby d21_34) rfl (l' := #[oR p0, oI (5 : Int32), oI p2]) rfl kz) ?_
  refine own_via (fun t kz => XS.iloadN X1.here hx rfl (hb hby d21_37) rfl kz) ?_
  show own_Go p e below _ (T1.setTop (mkF m 38 #[oR p0, oI (5 : Int32), oI p2] [(.int p2), (.int (4 : Int32)), (.ref p0)]))
  obtain ⟨T2, X2, e2, st2⟩ := getS2 X1 hx hZ hown (host := "") (Or.inl (own_w hw 111)) Via.refl e1 S_whi (g := (mkF m 38 #[oR p0, oI (5 : Int32), oI p2] [(.int p2), (.int (4 : Int32)), (.ref p0)])) rfl (hb hby d21_38)
  refine own_via st2 ?_
  show own_Go p e below _ (T2.setTop (mkF m 41 #[oR p0, oI (5 : Int32), oI p2] [(.int (0 : Int32)), (.int p2), (.int (4 : Int32)), (.ref p0)]))
  refine own_via (fun t kz => XS.ishr X2.here hx rfl (hb hby d21_41) rfl kz) ?_
  show own_Go p e below _ (T2.setTop (mkF m 42 #[oR p0, oI (5 : Int32), oI p2] [(.int (p2 >>> ((0 : Int32) &&& 31))), (.int (4 : Int32)), (.ref p0)]))
  refine own_via (fun t kz => XS.i2b X2.here hx rfl (hb hby d21_42) rfl kz) ?_
  show own_Go p e below _ (T2.setTop (mkF m 43 #[oR p0, oI (5 : Int32), oI p2] [(.int ((p2 >>> ((0 : Int32) &&& 31)).toInt8.toInt32)), (.int (4 : Int32)), (.ref p0)]))
  obtain ⟨cl3, Ar3, kc3, Sz3, Nn3, Hs3, Gs3⟩ := id VB
  obtain ⟨T3, h3, X3, e3, W3, st3⟩ := stB X2 hx hZ e2 Ar3 (j := (4 : Int32)) (inb_of Sz3 ⟨by decide, by decide⟩) (g := (mkF m 43 #[oR p0, oI (5 : Int32), oI p2] [(.int ((p2 >>> ((0 : Int32) &&& 31)).toInt8.toInt32)), (.int (4 : Int32)), (.ref p0)])) rfl rfl (hb hby d21_43)
  refine own_via st3 ?_
  have na3 : nar .byte ((p2 >>> ((0 : Int32) &&& 31)).toInt8.toInt32) = ((p2 >>> ((0 : Int32) &&& 31)).toInt8.toInt32) := own_narb _
  rw [na3] at W3
  have S4 := S_wad.wr W3
  have S5 := S_whi.wr W3
  have S6 := S_wlo.wr W3
  have Zs7 : n0 ≤ h3.size := Nat.le_trans Z0 (Keep.of_wr W3).1
  have N8 := Fr.snoc X3 N0 g_p0
  have K9 : Keep h0 h3 [p0] := (Keep.refl h0 [p0]).wr W3 (Or.inl (List.mem_of_getElem? (i := 0) rfl))
  have V10 : Arv Z h3 p0 kb .byte (12 : Int32) [(.int b0_), (.int b1_), (.int b2_), (.int b3_), (.int ((p2 >>> ((0 : Int32) &&& 31)).toInt8.toInt32)), (.int b5_), (.int b6_), (.int b7_), (.int b8_), (.int b9_), (.int b10_), (.int b11_)] (.int (0 : Int32)) := Arv.set Ar3 kc3 Sz3 Nn3 Hs3 Gs3 (fits_nar_byte _) W3 4 (by first | decide | (show 4 < 12; decide)) (by first | decide | (show 4 < 12; decide))
  refine own_via (fun t kz => XS.aloadN X3.here hx rfl (hb hby d21_44) rfl rfl kz) ?_
  refine own_via (fun t kz => XS.iloadN X3.here hx rfl (hb hby d21_45) rfl kz) ?_
  refine own_via (fun t kz => XS.iloadN X3.here hx rfl (hb hby d21_46) rfl kz) ?_
  show own_Go p e below _ (T3.setTop (mkF m 47 #[oR p0, oI (5 : Int32), oI p2] [(.int p2), (.int (5 : Int32)), (.ref p0)]))
  obtain ⟨T11, X11, e11, st11⟩ := getS2 X3 hx hZ hown (host := "") (Or.inl (own_w hw 112)) Via.refl e3 S6 (g := (mkF m 47 #[oR p0, oI (5 : Int32), oI p2] [(.int p2), (.int (5 : Int32)), (.ref p0)])) rfl (hb hby d21_47)
  refine own_via st11 ?_
  show own_Go p e below _ (T11.setTop (mkF m 50 #[oR p0, oI (5 : Int32), oI p2] [(.int (8 : Int32)), (.int p2), (.int (5 : Int32)), (.ref p0)]))
  refine own_via (fun t kz => XS.ishr X11.here hx rfl (hb hby d21_50) rfl kz) ?_
  show own_Go p e below _ (T11.setTop (mkF m 51 #[oR p0, oI (5 : Int32), oI p2] [(.int (p2 >>> ((8 : Int32) &&& 31))), (.int (5 : Int32)), (.ref p0)]))
  refine own_via (fun t kz => XS.i2b X11.here hx rfl (hb hby d21_51) rfl kz) ?_
  show own_Go p e below _ (T11.setTop (mkF m 52 #[oR p0, oI (5 : Int32), oI p2] [(.int ((p2 >>> ((8 : Int32) &&& 31)).toInt8.toInt32)), (.int (5 : Int32)), (.ref p0)]))
  obtain ⟨cl12, Ar12, kc12, Sz12, Nn12, Hs12, Gs12⟩ := id V10
  obtain ⟨T12, h12, X12, e12, W12, st12⟩ := stB X11 hx hZ e11 Ar12 (j := (5 : Int32)) (inb_of Sz12 ⟨by decide, by decide⟩) (g := (mkF m 52 #[oR p0, oI (5 : Int32), oI p2] [(.int ((p2 >>> ((8 : Int32) &&& 31)).toInt8.toInt32)), (.int (5 : Int32)), (.ref p0)])) rfl rfl (hb hby d21_52)
  refine own_via st12 ?_
  have na12 : nar .byte ((p2 >>> ((8 : Int32) &&& 31)).toInt8.toInt32) = ((p2 >>> ((8 : Int32) &&& 31)).toInt8.toInt32) := own_narb _
  rw [na12] at W12
  have S13 := S4.wr W12
  have S14 := S5.wr W12
  have S15 := S6.wr W12
  have Zs16 : n0 ≤ h12.size := Nat.le_trans Zs7 (Keep.of_wr W12).1
  have N17 := Fr.snoc X12 N8 g_p0
  have K18 : Keep h0 h12 [p0] := K9.wr W12 (Or.inl (List.mem_of_getElem? (i := 0) rfl))
  have V19 : Arv Z h12 p0 kb .byte (12 : Int32) [(.int b0_), (.int b1_), (.int b2_), (.int b3_), (.int ((p2 >>> ((0 : Int32) &&& 31)).toInt8.toInt32)), (.int ((p2 >>> ((8 : Int32) &&& 31)).toInt8.toInt32)), (.int b6_), (.int b7_), (.int b8_), (.int b9_), (.int b10_), (.int b11_)] (.int (0 : Int32)) := Arv.set Ar12 kc12 Sz12 Nn12 Hs12 Gs12 (fits_nar_byte _) W12 5 (by first | decide | (show 5 < 12; decide)) (by first | decide | (show 5 < 12; decide))
  show own_Go p e below _ (T12.setTop (mkF m 53 #[oR p0, oI (5 : Int32), oI p2] []))
  obtain ⟨fs, hr, hrun, hended, hW, hsame⟩ := X12.leave (v := none) (fun _ => rfl)
  refine ⟨_, _, X12.returnOut hx Bd.returns (hb hby d21_53) hr, hrun, hended, _, _, rfl, ?_, ⟨_, rfl⟩, hW, hsame.mono (by decide) (by decide)⟩
  show QP6_2 Z p0 p2 kb b0_ b1_ b2_ b3_ b4_ b5_ b6_ b7_ b8_ b9_ b10_ b11_ h0 n0 _ T12.heap _
  rw [e12]
  exact ⟨rfl, N17, K18, V19⟩
theorem ef_rmP6_3 (m : MethodId) (q0 : Addr) (q1 : Int32) : entryFrame m #[(.ref q0), (.int (3 : Int32)), (.int q1)] 3 = mkF m 0 #[oR q0, oI (3 : Int32), oI q1] [] := by first | (simp [entryFrame, mkF, argsToLocals, Value.category]; done) | rfl
def QP6_3 (Z : State) (p0 : Addr) (p2 : Int32) (kb : ClassId) (b0_ : Int32) (b1_ : Int32) (b2_ : Int32) (b3_ : Int32) (b4_ : Int32) (b5_ : Int32) (b6_ : Int32) (b7_ : Int32) (b8_ : Int32) (b9_ : Int32) (b10_ : Int32) (b11_ : Int32) (h0 : Heap) (n0 : Nat) (v : Option Value) (h : Heap) (L : List Loc) : Prop := v = none ∧ Fr n0 L ∧ Keep h0 h [p0] ∧ Arv Z h p0 kb .byte (12 : Int32) [(.int b0_), (.int b1_), (.int b2_), (.int b3_), (.int b4_), (.int b5_), (.int ((p2 >>> ((0 : Int32) &&& 31)).toInt8.toInt32)), (.int ((p2 >>> ((8 : Int32) &&& 31)).toInt8.toInt32)), (.int b8_), (.int b9_), (.int b10_), (.int b11_)] (.int (0 : Int32))
set_option maxRecDepth 65536 in
set_option maxHeartbeats 40000000 in
theorem rmP6_3 (l : Launch) (Z : State) (a0 : Array Value) (hw : ∀ d ∈ tables_1, d.before a0 Z = true) (ws : List Jvm.Cond) (p0 : Addr) (p2 : Int32) (kb : ClassId) (b0_ : Int32) (b1_ : Int32) (b2_ : Int32) (b3_ : Int32) (b4_ : Int32) (b5_ : Int32) (b6_ : Int32) (b7_ : Int32) (b8_ : Int32) (b9_ : Int32) (b10_ : Int32) (b11_ : Int32) (h0 : Heap) (n0 : Nat) (Z0 : n0 ≤ h0.size) (g_p0 : n0 ≤ p0) (VB : Arv Z h0 p0 kb .byte (12 : Int32) [(.int b0_), (.int b1_), (.int b2_), (.int b3_), (.int b4_), (.int b5_), (.int b6_), (.int b7_), (.int b8_), (.int b9_), (.int b10_), (.int b11_)] (.int (0 : Int32))) (S_wad : Sta Z h0 "java/lang/StringUTF16" "$assertionsDisabled" "Z" (.int (1 : Int32))) (S_whi : Sta Z h0 "java/lang/StringUTF16" "HI_BYTE_SHIFT" "I" (.int (0 : Int32))) (S_wlo : Sta Z h0 "java/lang/StringUTF16" "LO_BYTE_SHIFT" "I" (.int (8 : Int32))) :
    MetFree l (⟨"java/lang/StringUTF16", "putChar", "([BII)V"⟩ : MethodName) (head1 (Jvm.Cond.code (⟨"java/lang/StringUTF16", "putChar", "([BII)V"⟩ : MethodName) jdk_52_method_4_code 3 none :: ws) ({ frames := 0, cells := 0, slots := 0, locals := 0 } : Room)) (fun a U => a = #[(.ref p0), (.int (3 : Int32)), (.int p2)] ∧ Z.Warmed39 U.vm ∧ U.heap = h0) (fun _ _ _ _ _ => True) (fun _ U o U' => ∃ v L, o = .returned v ∧ QP6_3 Z p0 p2 kb b0_ b1_ b2_ b3_ b4_ b5_ b6_ b7_ b8_ b9_ b10_ b11_ h0 n0 v U'.heap L ∧ FrameEnd U o U' L ({ frames := 0, cells := 0, slots := 0, locals := 0 } : Room).cells ({ frames := 0, cells := 0, slots := 0, locals := 0 } : Room).slots) := by
  refine MetFree.of_bodySF (plainFor_of_name pn_20) hisR ?_
  intro p e s m args below meth c s₁ Bd hml0 hP hK
  obtain ⟨rfl, hZ, hh⟩ := hP
  have hx := Bd.exec
  have hby := Bd.bytes
  have hml : c.maxLocals = 3 := hml0
  have hown : s.vm.findClass "java/lang/StringUTF16" = some m.cls := findClass_of_methodNamed Bd.named
  have hnm := (name_of_methodNamed Bd.named Bd.method).1
  have X0 : Stand p l e ({ frames := 0, cells := 0, slots := 0, locals := 0 } : Room) s m #[(.ref p0), (.int (3 : Int32)), (.int p2)] below meth c s₁ [] 0 0 := Stand.of_body Bd
  have e0 : s₁.heap = h0 := by rw [← hh, Bd.state]; rfl
  have N0 := Fr.nil n0
  refine own_start ?_
  refine own_via (fun t k => castTop (ef_rmP6_3 m p0 p2) k) ?_
  show own_Go p e below _ (s₁.setTop (mkF m 0 #[oR p0, oI (3 : Int32), oI p2] []))
  obtain ⟨T1, X1, e1, st1⟩ := getS2 X0 hx hZ hown (host := "") (Or.inl (own_w hw 110)) Via.refl e0 S_wad (g := (mkF m 0 #[oR p0, oI (3 : Int32), oI p2] [])) rfl (hb hby d21_0)
  refine own_via st1 ?_
  show own_Go p e below _ (T1.setTop (mkF m 3 #[oR p0, oI (3 : Int32), oI p2] [(.int (1 : Int32))]))
  refine own_via (fun t kz => XS.ifYes X1.here hx rfl (pc0 := 3) (pc' := 28) rfl (hb hby d21_3) rfl ((if0 _ _).trans (feq (by decide : ¬ ((1 : Int32) = (0 : Int32)))).2) (by decide) (by decide) kz) ?_
  refine own_via (fun t kz => XS.iloadN X1.here hx rfl (hb hby d21_28) rfl kz) ?_
  refine own_via (fun t kz => XS.iconst X1.here hx rfl (hb hby d21_29) kz) ?_
  show own_Go p e below _ (T1.setTop (mkF m 30 #[oR p0, oI (3 : Int32), oI p2] [(.int (1 : Int32)), (.int (3 : Int32))]))
  refine own_via (fun t kz => XS.ishl X1.here hx rfl (hb hby d21_30) rfl kz) ?_
  refine own_via (fun t kz => XS.istoreN X1.here hx rfl (hb hby d21_31) rfl (l' := #[oR p0, oI (6 : Int32), oI p2]) rfl kz) ?_
  refine own_via (fun t kz => XS.aloadN X1.here hx rfl (hb hby d21_32) rfl rfl kz) ?_
  refine own_via (fun t kz => XS.iloadN X1.here hx rfl (hb hby d21_33) rfl kz) ?_
  show own_Go p e below _ (T1.setTop (mkF m 34 #[oR p0, oI (6 : Int32), oI p2] [(.int (6 : Int32)), (.ref p0)]))
  refine own_via (fun t kz => XS.iinc X1.here hx rfl (hb hby d21_34) rfl (l' := #[oR p0, oI (7 : Int32), oI p2]) rfl kz) ?_
  refine own_via (fun t kz => XS.iloadN X1.here hx rfl (hb hby d21_37) rfl kz) ?_
  show own_Go p e below _ (T1.setTop (mkF m 38 #[oR p0, oI (7 : Int32), oI p2] [(.int p2), (.int (6 : Int32)), (.ref p0)]))
  obtain ⟨T2, X2, e2, st2⟩ := getS2 X1 hx hZ hown (host := "") (Or.inl (own_w hw 111)) Via.refl e1 S_whi (g := (mkF m 38 #[oR p0, oI (7 : Int32), oI p2] [(.int p2), (.int (6 : Int32)), (.ref p0)])) rfl (hb hby d21_38)
  refine own_via st2 ?_
  show own_Go p e below _ (T2.setTop (mkF m 41 #[oR p0, oI (7 : Int32), oI p2] [(.int (0 : Int32)), (.int p2), (.int (6 : Int32)), (.ref p0)]))
  refine own_via (fun t kz => XS.ishr X2.here hx rfl (hb hby d21_41) rfl kz) ?_
  show own_Go p e below _ (T2.setTop (mkF m 42 #[oR p0, oI (7 : Int32), oI p2] [(.int (p2 >>> ((0 : Int32) &&& 31))), (.int (6 : Int32)), (.ref p0)]))
  refine own_via (fun t kz => XS.i2b X2.here hx rfl (hb hby d21_42) rfl kz) ?_
  show own_Go p e below _ (T2.setTop (mkF m 43 #[oR p0, oI (7 : Int32), oI p2] [(.int ((p2 >>> ((0 : Int32) &&& 31)).toInt8.toInt32)), (.int (6 : Int32)), (.ref p0)]))
  obtain ⟨cl3, Ar3, kc3, Sz3, Nn3, Hs3, Gs3⟩ := id VB
  obtain ⟨T3, h3, X3, e3, W3, st3⟩ := stB X2 hx hZ e2 Ar3 (j := (6 : Int32)) (inb_of Sz3 ⟨by decide, by decide⟩) (g := (mkF m 43 #[oR p0, oI (7 : Int32), oI p2] [(.int ((p2 >>> ((0 : Int32) &&& 31)).toInt8.toInt32)), (.int (6 : Int32)), (.ref p0)])) rfl rfl (hb hby d21_43)
  refine own_via st3 ?_
  have na3 : nar .byte ((p2 >>> ((0 : Int32) &&& 31)).toInt8.toInt32) = ((p2 >>> ((0 : Int32) &&& 31)).toInt8.toInt32) := own_narb _
  rw [na3] at W3
  have S4 := S_wad.wr W3
  have S5 := S_whi.wr W3
  have S6 := S_wlo.wr W3
  have Zs7 : n0 ≤ h3.size := Nat.le_trans Z0 (Keep.of_wr W3).1
  have N8 := Fr.snoc X3 N0 g_p0
  have K9 : Keep h0 h3 [p0] := (Keep.refl h0 [p0]).wr W3 (Or.inl (List.mem_of_getElem? (i := 0) rfl))
  have V10 : Arv Z h3 p0 kb .byte (12 : Int32) [(.int b0_), (.int b1_), (.int b2_), (.int b3_), (.int b4_), (.int b5_), (.int ((p2 >>> ((0 : Int32) &&& 31)).toInt8.toInt32)), (.int b7_), (.int b8_), (.int b9_), (.int b10_), (.int b11_)] (.int (0 : Int32)) := Arv.set Ar3 kc3 Sz3 Nn3 Hs3 Gs3 (fits_nar_byte _) W3 6 (by first | decide | (show 6 < 12; decide)) (by first | decide | (show 6 < 12; decide))
  refine own_via (fun t kz => XS.aloadN X3.here hx rfl (hb hby d21_44) rfl rfl kz) ?_
  refine own_via (fun t kz => XS.iloadN X3.here hx rfl (hb hby d21_45) rfl kz) ?_
  refine own_via (fun t kz => XS.iloadN X3.here hx rfl (hb hby d21_46) rfl kz) ?_
  show own_Go p e below _ (T3.setTop (mkF m 47 #[oR p0, oI (7 : Int32), oI p2] [(.int p2), (.int (7 : Int32)), (.ref p0)]))
  obtain ⟨T11, X11, e11, st11⟩ := getS2 X3 hx hZ hown (host := "") (Or.inl (own_w hw 112)) Via.refl e3 S6 (g := (mkF m 47 #[oR p0, oI (7 : Int32), oI p2] [(.int p2), (.int (7 : Int32)), (.ref p0)])) rfl (hb hby d21_47)
  refine own_via st11 ?_
  show own_Go p e below _ (T11.setTop (mkF m 50 #[oR p0, oI (7 : Int32), oI p2] [(.int (8 : Int32)), (.int p2), (.int (7 : Int32)), (.ref p0)]))
  refine own_via (fun t kz => XS.ishr X11.here hx rfl (hb hby d21_50) rfl kz) ?_
  show own_Go p e below _ (T11.setTop (mkF m 51 #[oR p0, oI (7 : Int32), oI p2] [(.int (p2 >>> ((8 : Int32) &&& 31))), (.int (7 : Int32)), (.ref p0)]))
  refine own_via (fun t kz => XS.i2b X11.here hx rfl (hb hby d21_51) rfl kz) ?_
  show own_Go p e below _ (T11.setTop (mkF m 52 #[oR p0, oI (7 : Int32), oI p2] [(.int ((p2 >>> ((8 : Int32) &&& 31)).toInt8.toInt32)), (.int (7 : Int32)), (.ref p0)]))
  obtain ⟨cl12, Ar12, kc12, Sz12, Nn12, Hs12, Gs12⟩ := id V10
  obtain ⟨T12, h12, X12, e12, W12, st12⟩ := stB X11 hx hZ e11 Ar12 (j := (7 : Int32)) (inb_of Sz12 ⟨by decide, by decide⟩) (g := (mkF m 52 #[oR p0, oI (7 : Int32), oI p2] [(.int ((p2 >>> ((8 : Int32) &&& 31)).toInt8.toInt32)), (.int (7 : Int32)), (.ref p0)])) rfl rfl (hb hby d21_52)
  refine own_via st12 ?_
  have na12 : nar .byte ((p2 >>> ((8 : Int32) &&& 31)).toInt8.toInt32) = ((p2 >>> ((8 : Int32) &&& 31)).toInt8.toInt32) := own_narb _
  rw [na12] at W12
  have S13 := S4.wr W12
  have S14 := S5.wr W12
  have S15 := S6.wr W12
  have Zs16 : n0 ≤ h12.size := Nat.le_trans Zs7 (Keep.of_wr W12).1
  have N17 := Fr.snoc X12 N8 g_p0
  have K18 : Keep h0 h12 [p0] := K9.wr W12 (Or.inl (List.mem_of_getElem? (i := 0) rfl))
  have V19 : Arv Z h12 p0 kb .byte (12 : Int32) [(.int b0_), (.int b1_), (.int b2_), (.int b3_), (.int b4_), (.int b5_), (.int ((p2 >>> ((0 : Int32) &&& 31)).toInt8.toInt32)), (.int ((p2 >>> ((8 : Int32) &&& 31)).toInt8.toInt32)), (.int b8_), (.int b9_), (.int b10_), (.int b11_)] (.int (0 : Int32)) := Arv.set Ar12 kc12 Sz12 Nn12 Hs12 Gs12 (fits_nar_byte _) W12 7 (by first | decide | (show 7 < 12; decide)) (by first | decide | (show 7 < 12; decide))
  show own_Go p e below _ (T12.setTop (mkF m 53 #[oR p0, oI (7 : Int32), oI p2] []))
  obtain ⟨fs, hr, hrun, hended, hW, hsame⟩ := X12.leave (v := none) (fun _ => rfl)
  refine ⟨_, _, X12.returnOut hx Bd.returns (hb hby d21_53) hr, hrun, hended, _, _, rfl, ?_, ⟨_, rfl⟩, hW, hsame.mono (by decide) (by decide)⟩
  show QP6_3 Z p0 p2 kb b0_ b1_ b2_ b3_ b4_ b5_ b6_ b7_ b8_ b9_ b10_ b11_ h0 n0 _ T12.heap _
  rw [e12]
  exact ⟨rfl, N17, K18, V19⟩
theorem ef_rmP6_4 (m : MethodId) (q0 : Addr) (q1 : Int32) : entryFrame m #[(.ref q0), (.int (4 : Int32)), (.int q1)] 3 = mkF m 0 #[oR q0, oI (4 : Int32), oI q1] [] := by first | (simp [entryFrame, mkF, argsToLocals, Value.category]; done) | rfl
def QP6_4 (Z : State) (p0 : Addr) (p2 : Int32) (kb : ClassId) (b0_ : Int32) (b1_ : Int32) (b2_ : Int32) (b3_ : Int32) (b4_ : Int32) (b5_ : Int32) (b6_ : Int32) (b7_ : Int32) (b8_ : Int32) (b9_ : Int32) (b10_ : Int32) (b11_ : Int32) (h0 : Heap) (n0 : Nat) (v : Option Value) (h : Heap) (L : List Loc) : Prop := v = none ∧ Fr n0 L ∧ Keep h0 h [p0] ∧ Arv Z h p0 kb .byte (12 : Int32) [(.int b0_), (.int b1_), (.int b2_), (.int b3_), (.int b4_), (.int b5_), (.int b6_), (.int b7_), (.int ((p2 >>> ((0 : Int32) &&& 31)).toInt8.toInt32)), (.int ((p2 >>> ((8 : Int32) &&& 31)).toInt8.toInt32)), (.int b10_), (.int b11_)] (.int (0 : Int32))
set_option maxRecDepth 65536 in
set_option maxHeartbeats 40000000 in
theorem rmP6_4 (l : Launch) (Z : State) (a0 : Array Value) (hw : ∀ d ∈ tables_1, d.before a0 Z = true) (ws : List Jvm.Cond) (p0 : Addr) (p2 : Int32) (kb : ClassId) (b0_ : Int32) (b1_ : Int32) (b2_ : Int32) (b3_ : Int32) (b4_ : Int32) (b5_ : Int32) (b6_ : Int32) (b7_ : Int32) (b8_ : Int32) (b9_ : Int32) (b10_ : Int32) (b11_ : Int32) (h0 : Heap) (n0 : Nat) (Z0 : n0 ≤ h0.size) (g_p0 : n0 ≤ p0) (VB : Arv Z h0 p0 kb .byte (12 : Int32) [(.int b0_), (.int b1_), (.int b2_), (.int b3_), (.int b4_), (.int b5_), (.int b6_), (.int b7_), (.int b8_), (.int b9_), (.int b10_), (.int b11_)] (.int (0 : Int32))) (S_wad : Sta Z h0 "java/lang/StringUTF16" "$assertionsDisabled" "Z" (.int (1 : Int32))) (S_whi : Sta Z h0 "java/lang/StringUTF16" "HI_BYTE_SHIFT" "I" (.int (0 : Int32))) (S_wlo : Sta Z h0 "java/lang/StringUTF16" "LO_BYTE_SHIFT" "I" (.int (8 : Int32))) :
    MetFree l (⟨"java/lang/StringUTF16", "putChar", "([BII)V"⟩ : MethodName) (head1 (Jvm.Cond.code (⟨"java/lang/StringUTF16", "putChar", "([BII)V"⟩ : MethodName) jdk_52_method_4_code 3 none :: ws) ({ frames := 0, cells := 0, slots := 0, locals := 0 } : Room)) (fun a U => a = #[(.ref p0), (.int (4 : Int32)), (.int p2)] ∧ Z.Warmed39 U.vm ∧ U.heap = h0) (fun _ _ _ _ _ => True) (fun _ U o U' => ∃ v L, o = .returned v ∧ QP6_4 Z p0 p2 kb b0_ b1_ b2_ b3_ b4_ b5_ b6_ b7_ b8_ b9_ b10_ b11_ h0 n0 v U'.heap L ∧ FrameEnd U o U' L ({ frames := 0, cells := 0, slots := 0, locals := 0 } : Room).cells ({ frames := 0, cells := 0, slots := 0, locals := 0 } : Room).slots) := by
  refine MetFree.of_bodySF (plainFor_of_name pn_20) hisR ?_
  intro p e s m args below meth c s₁ Bd hml0 hP hK
  obtain ⟨rfl, hZ, hh⟩ := hP
  have hx := Bd.exec
  have hby := Bd.bytes
  have hml : c.maxLocals = 3 := hml0
  have hown : s.vm.findClass "java/lang/StringUTF16" = some m.cls := findClass_of_methodNamed Bd.named
  have hnm := (name_of_methodNamed Bd.named Bd.method).1
  have X0 : Stand p l e ({ frames := 0, cells := 0, slots := 0, locals := 0 } : Room) s m #[(.ref p0), (.int (4 : Int32)), (.int p2)] below meth c s₁ [] 0 0 := Stand.of_body Bd
  have e0 : s₁.heap = h0 := by rw [← hh, Bd.state]; rfl
  have N0 := Fr.nil n0
  refine own_start ?_
  refine own_via (fun t k => castTop (ef_rmP6_4 m p0 p2) k) ?_
  show own_Go p e below _ (s₁.setTop (mkF m 0 #[oR p0, oI (4 : Int32), oI p2] []))
  obtain ⟨T1, X1, e1, st1⟩ := getS2 X0 hx hZ hown (host := "") (Or.inl (own_w hw 110)) Via.refl e0 S_wad (g := (mkF m 0 #[oR p0, oI (4 : Int32), oI p2] [])) rfl (hb hby d21_0)
  refine own_via st1 ?_
  show own_Go p e below _ (T1.setTop (mkF m 3 #[oR p0, oI (4 : Int32), oI p2] [(.int (1 : Int32))]))
  refine own_via (fun t kz => XS.ifYes X1.here hx rfl (pc0 := 3) (pc' := 28) rfl (hb hby d21_3) rfl ((if0 _ _).trans (feq (by decide : ¬ ((1 : Int32) = (0 : Int32)))).2) (by decide) (by decide) kz) ?_
  refine own_via (fun t kz => XS.iloadN X1.here hx rfl (hb hby d21_28) rfl kz) ?_
  refine own_via (fun t kz => XS.iconst X1.here hx rfl (hb hby d21_29) kz) ?_
  show own_Go p e below _ (T1.setTop (mkF m 30 #[oR p0, oI (4 : Int32), oI p2] [(.int (1 : Int32)), (.int (4 : Int32))]))
  refine own_via (fun t kz => XS.ishl X1.here hx rfl (hb hby d21_30) rfl kz) ?_
  refine own_via (fun t kz => XS.istoreN X1.here hx rfl (hb hby d21_31) rfl (l' := #[oR p0, oI (8 : Int32), oI p2]) rfl kz) ?_
  refine own_via (fun t kz => XS.aloadN X1.here hx rfl (hb hby d21_32) rfl rfl kz) ?_
  refine own_via (fun t kz => XS.iloadN X1.here hx rfl (hb hby d21_33) rfl kz) ?_
  show own_Go p e below _ (T1.setTop (mkF m 34 #[oR p0, oI (8 : Int32), oI p2] [(.int (8 : Int32)), (.ref p0)]))
  refine own_via (fun t kz => XS.iinc X1.here hx rfl (hb hby d21_34) rfl (l' := #[oR p0, oI (9 : Int32), oI p2]) rfl kz) ?_
  refine own_via (fun t kz => XS.iloadN X1.here hx rfl (hb hby d21_37) rfl kz) ?_
  show own_Go p e below _ (T1.setTop (mkF m 38 #[oR p0, oI (9 : Int32), oI p2] [(.int p2), (.int (8 : Int32)), (.ref p0)]))
  obtain ⟨T2, X2, e2, st2⟩ := getS2 X1 hx hZ hown (host := "") (Or.inl (own_w hw 111)) Via.refl e1 S_whi (g := (mkF m 38 #[oR p0, oI (9 : Int32), oI p2] [(.int p2), (.int (8 : Int32)), (.ref p0)])) rfl (hb hby d21_38)
  refine own_via st2 ?_
  show own_Go p e below _ (T2.setTop (mkF m 41 #[oR p0, oI (9 : Int32), oI p2] [(.int (0 : Int32)), (.int p2), (.int (8 : Int32)), (.ref p0)]))
  refine own_via (fun t kz => XS.ishr X2.here hx rfl (hb hby d21_41) rfl kz) ?_
  show own_Go p e below _ (T2.setTop (mkF m 42 #[oR p0, oI (9 : Int32), oI p2] [(.int (p2 >>> ((0 : Int32) &&& 31))), (.int (8 : Int32)), (.ref p0)]))
  refine own_via (fun t kz => XS.i2b X2.here hx rfl (hb hby d21_42) rfl kz) ?_
  show own_Go p e below _ (T2.setTop (mkF m 43 #[oR p0, oI (9 : Int32), oI p2] [(.int ((p2 >>> ((0 : Int32) &&& 31)).toInt8.toInt32)), (.int (8 : Int32)), (.ref p0)]))
  obtain ⟨cl3, Ar3, kc3, Sz3, Nn3, Hs3, Gs3⟩ := id VB
  obtain ⟨T3, h3, X3, e3, W3, st3⟩ := stB X2 hx hZ e2 Ar3 (j := (8 : Int32)) (inb_of Sz3 ⟨by decide, by decide⟩) (g := (mkF m 43 #[oR p0, oI (9 : Int32), oI p2] [(.int ((p2 >>> ((0 : Int32) &&& 31)).toInt8.toInt32)), (.int (8 : Int32)), (.ref p0)])) rfl rfl (hb hby d21_43)
  refine own_via st3 ?_
  have na3 : nar .byte ((p2 >>> ((0 : Int32) &&& 31)).toInt8.toInt32) = ((p2 >>> ((0 : Int32) &&& 31)).toInt8.toInt32) := own_narb _
  rw [na3] at W3
  have S4 := S_wad.wr W3
  have S5 := S_whi.wr W3
  have S6 := S_wlo.wr W3
  have Zs7 : n0 ≤ h3.size := Nat.le_trans Z0 (Keep.of_wr W3).1
  have N8 := Fr.snoc X3 N0 g_p0
  have K9 : Keep h0 h3 [p0] := (Keep.refl h0 [p0]).wr W3 (Or.inl (List.mem_of_getElem? (i := 0) rfl))
  have V10 : Arv Z h3 p0 kb .byte (12 : Int32) [(.int b0_), (.int b1_), (.int b2_), (.int b3_), (.int b4_), (.int b5_), (.int b6_), (.int b7_), (.int ((p2 >>> ((0 : Int32) &&& 31)).toInt8.toInt32)), (.int b9_), (.int b10_), (.int b11_)] (.int (0 : Int32)) := Arv.set Ar3 kc3 Sz3 Nn3 Hs3 Gs3 (fits_nar_byte _) W3 8 (by first | decide | (show 8 < 12; decide)) (by first | decide | (show 8 < 12; decide))
  refine own_via (fun t kz => XS.aloadN X3.here hx rfl (hb hby d21_44) rfl rfl kz) ?_
  refine own_via (fun t kz => XS.iloadN X3.here hx rfl (hb hby d21_45) rfl kz) ?_
  refine own_via (fun t kz => XS.iloadN X3.here hx rfl (hb hby d21_46) rfl kz) ?_
  show own_Go p e below _ (T3.setTop (mkF m 47 #[oR p0, oI (9 : Int32), oI p2] [(.int p2), (.int (9 : Int32)), (.ref p0)]))
  obtain ⟨T11, X11, e11, st11⟩ := getS2 X3 hx hZ hown (host := "") (Or.inl (own_w hw 112)) Via.refl e3 S6 (g := (mkF m 47 #[oR p0, oI (9 : Int32), oI p2] [(.int p2), (.int (9 : Int32)), (.ref p0)])) rfl (hb hby d21_47)
  refine own_via st11 ?_
  show own_Go p e below _ (T11.setTop (mkF m 50 #[oR p0, oI (9 : Int32), oI p2] [(.int (8 : Int32)), (.int p2), (.int (9 : Int32)), (.ref p0)]))
  refine own_via (fun t kz => XS.ishr X11.here hx rfl (hb hby d21_50) rfl kz) ?_
  show own_Go p e below _ (T11.setTop (mkF m 51 #[oR p0, oI (9 : Int32), oI p2] [(.int (p2 >>> ((8 : Int32) &&& 31))), (.int (9 : Int32)), (.ref p0)]))
  refine own_via (fun t kz => XS.i2b X11.here hx rfl (hb hby d21_51) rfl kz) ?_
  show own_Go p e below _ (T11.setTop (mkF m 52 #[oR p0, oI (9 : Int32), oI p2] [(.int ((p2 >>> ((8 : Int32) &&& 31)).toInt8.toInt32)), (.int (9 : Int32)), (.ref p0)]))
  obtain ⟨cl12, Ar12, kc12, Sz12, Nn12, Hs12, Gs12⟩ := id V10
  obtain ⟨T12, h12, X12, e12, W12, st12⟩ := stB X11 hx hZ e11 Ar12 (j := (9 : Int32)) (inb_of Sz12 ⟨by decide, by decide⟩) (g := (mkF m 52 #[oR p0, oI (9 : Int32), oI p2] [(.int ((p2 >>> ((8 : Int32) &&& 31)).toInt8.toInt32)), (.int (9 : Int32)), (.ref p0)])) rfl rfl (hb hby d21_52)
  refine own_via st12 ?_
  have na12 : nar .byte ((p2 >>> ((8 : Int32) &&& 31)).toInt8.toInt32) = ((p2 >>> ((8 : Int32) &&& 31)).toInt8.toInt32) := own_narb _
  rw [na12] at W12
  have S13 := S4.wr W12
  have S14 := S5.wr W12
  have S15 := S6.wr W12
  have Zs16 : n0 ≤ h12.size := Nat.le_trans Zs7 (Keep.of_wr W12).1
  have N17 := Fr.snoc X12 N8 g_p0
  have K18 : Keep h0 h12 [p0] := K9.wr W12 (Or.inl (List.mem_of_getElem? (i := 0) rfl))
  have V19 : Arv Z h12 p0 kb .byte (12 : Int32) [(.int b0_), (.int b1_), (.int b2_), (.int b3_), (.int b4_), (.int b5_), (.int b6_), (.int b7_), (.int ((p2 >>> ((0 : Int32) &&& 31)).toInt8.toInt32)), (.int ((p2 >>> ((8 : Int32) &&& 31)).toInt8.toInt32)), (.int b10_), (.int b11_)] (.int (0 : Int32)) := Arv.set Ar12 kc12 Sz12 Nn12 Hs12 Gs12 (fits_nar_byte _) W12 9 (by first | decide | (show 9 < 12; decide)) (by first | decide | (show 9 < 12; decide))
  show own_Go p e below _ (T12.setTop (mkF m 53 #[oR p0, oI (9 : Int32), oI p2] []))
  obtain ⟨fs, hr, hrun, hended, hW, hsame⟩ := X12.leave (v := none) (fun _ => rfl)
  refine ⟨_, _, X12.returnOut hx Bd.returns (hb hby d21_53) hr, hrun, hended, _, _, rfl, ?_, ⟨_, rfl⟩, hW, hsame.mono (by decide) (by decide)⟩
  show QP6_4 Z p0 p2 kb b0_ b1_ b2_ b3_ b4_ b5_ b6_ b7_ b8_ b9_ b10_ b11_ h0 n0 _ T12.heap _
  rw [e12]
  exact ⟨rfl, N17, K18, V19⟩
theorem ef_rmP6_5 (m : MethodId) (q0 : Addr) (q1 : Int32) : entryFrame m #[(.ref q0), (.int (5 : Int32)), (.int q1)] 3 = mkF m 0 #[oR q0, oI (5 : Int32), oI q1] [] := by first | (simp [entryFrame, mkF, argsToLocals, Value.category]; done) | rfl
def QP6_5 (Z : State) (p0 : Addr) (p2 : Int32) (kb : ClassId) (b0_ : Int32) (b1_ : Int32) (b2_ : Int32) (b3_ : Int32) (b4_ : Int32) (b5_ : Int32) (b6_ : Int32) (b7_ : Int32) (b8_ : Int32) (b9_ : Int32) (b10_ : Int32) (b11_ : Int32) (h0 : Heap) (n0 : Nat) (v : Option Value) (h : Heap) (L : List Loc) : Prop := v = none ∧ Fr n0 L ∧ Keep h0 h [p0] ∧ Arv Z h p0 kb .byte (12 : Int32) [(.int b0_), (.int b1_), (.int b2_), (.int b3_), (.int b4_), (.int b5_), (.int b6_), (.int b7_), (.int b8_), (.int b9_), (.int ((p2 >>> ((0 : Int32) &&& 31)).toInt8.toInt32)), (.int ((p2 >>> ((8 : Int32) &&& 31)).toInt8.toInt32))] (.int (0 : Int32))
set_option maxRecDepth 65536 in
set_option maxHeartbeats 40000000 in
theorem rmP6_5 (l : Launch) (Z : State) (a0 : Array Value) (hw : ∀ d ∈ tables_1, d.before a0 Z = true) (ws : List Jvm.Cond) (p0 : Addr) (p2 : Int32) (kb : ClassId) (b0_ : Int32) (b1_ : Int32) (b2_ : Int32) (b3_ : Int32) (b4_ : Int32) (b5_ : Int32) (b6_ : Int32) (b7_ : Int32) (b8_ : Int32) (b9_ : Int32) (b10_ : Int32) (b11_ : Int32) (h0 : Heap) (n0 : Nat) (Z0 : n0 ≤ h0.size) (g_p0 : n0 ≤ p0) (VB : Arv Z h0 p0 kb .byte (12 : Int32) [(.int b0_), (.int b1_), (.int b2_), (.int b3_), (.int b4_), (.int b5_), (.int b6_), (.int b7_), (.int b8_), (.int b9_), (.int b10_), (.int b11_)] (.int (0 : Int32))) (S_wad : Sta Z h0 "java/lang/StringUTF16" "$assertionsDisabled" "Z" (.int (1 : Int32))) (S_whi : Sta Z h0 "java/lang/StringUTF16" "HI_BYTE_SHIFT" "I" (.int (0 : Int32))) (S_wlo : Sta Z h0 "java/lang/StringUTF16" "LO_BYTE_SHIFT" "I" (.int (8 : Int32))) :
    MetFree l (⟨"java/lang/StringUTF16", "putChar", "([BII)V"⟩ : MethodName) (head1 (Jvm.Cond.code (⟨"java/lang/StringUTF16", "putChar", "([BII)V"⟩ : MethodName) jdk_52_method_4_code 3 none :: ws) ({ frames := 0, cells := 0, slots := 0, locals := 0 } : Room)) (fun a U => a = #[(.ref p0), (.int (5 : Int32)), (.int p2)] ∧ Z.Warmed39 U.vm ∧ U.heap = h0) (fun _ _ _ _ _ => True) (fun _ U o U' => ∃ v L, o = .returned v ∧ QP6_5 Z p0 p2 kb b0_ b1_ b2_ b3_ b4_ b5_ b6_ b7_ b8_ b9_ b10_ b11_ h0 n0 v U'.heap L ∧ FrameEnd U o U' L ({ frames := 0, cells := 0, slots := 0, locals := 0 } : Room).cells ({ frames := 0, cells := 0, slots := 0, locals := 0 } : Room).slots) := by
  refine MetFree.of_bodySF (plainFor_of_name pn_20) hisR ?_
  intro p e s m args below meth c s₁ Bd hml0 hP hK
  obtain ⟨rfl, hZ, hh⟩ := hP
  have hx := Bd.exec
  have hby := Bd.bytes
  have hml : c.maxLocals = 3 := hml0
  have hown : s.vm.findClass "java/lang/StringUTF16" = some m.cls := findClass_of_methodNamed Bd.named
  have hnm := (name_of_methodNamed Bd.named Bd.method).1
  have X0 : Stand p l e ({ frames := 0, cells := 0, slots := 0, locals := 0 } : Room) s m #[(.ref p0), (.int (5 : Int32)), (.int p2)] below meth c s₁ [] 0 0 := Stand.of_body Bd
  have e0 : s₁.heap = h0 := by rw [← hh, Bd.state]; rfl
  have N0 := Fr.nil n0
  refine own_start ?_
  refine own_via (fun t k => castTop (ef_rmP6_5 m p0 p2) k) ?_
  show own_Go p e below _ (s₁.setTop (mkF m 0 #[oR p0, oI (5 : Int32), oI p2] []))
  obtain ⟨T1, X1, e1, st1⟩ := getS2 X0 hx hZ hown (host := "") (Or.inl (own_w hw 110)) Via.refl e0 S_wad (g := (mkF m 0 #[oR p0, oI (5 : Int32), oI p2] [])) rfl (hb hby d21_0)
  refine own_via st1 ?_
  show own_Go p e below _ (T1.setTop (mkF m 3 #[oR p0, oI (5 : Int32), oI p2] [(.int (1 : Int32))]))
  refine own_via (fun t kz => XS.ifYes X1.here hx rfl (pc0 := 3) (pc' := 28) rfl (hb hby d21_3) rfl ((if0 _ _).trans (feq (by decide : ¬ ((1 : Int32) = (0 : Int32)))).2) (by decide) (by decide) kz) ?_
  refine own_via (fun t kz => XS.iloadN X1.here hx rfl (hb hby d21_28) rfl kz) ?_
  refine own_via (fun t kz => XS.iconst X1.here hx rfl (hb hby d21_29) kz) ?_
  show own_Go p e below _ (T1.setTop (mkF m 30 #[oR p0, oI (5 : Int32), oI p2] [(.int (1 : Int32)), (.int (5 : Int32))]))
  refine own_via (fun t kz => XS.ishl X1.here hx rfl (hb hby d21_30) rfl kz) ?_
  refine own_via (fun t kz => XS.istoreN X1.here hx rfl (hb hby d21_31) rfl (l' := #[oR p0, oI (10 : Int32), oI p2]) rfl kz) ?_
  refine own_via (fun t kz => XS.aloadN X1.here hx rfl (hb hby d21_32) rfl rfl kz) ?_
  refine own_via (fun t kz => XS.iloadN X1.here hx rfl (hb hby d21_33) rfl kz) ?_
  show own_Go p e below _ (T1.setTop (mkF m 34 #[oR p0, oI (10 : Int32), oI p2] [(.int (10 : Int32)), (.ref p0)]))
  refine own_via (fun t kz => XS.iinc X1.here hx rfl (hb hby d21_34) rfl (l' := #[oR p0, oI (11 : Int32), oI p2]) rfl kz) ?_
  refine own_via (fun t kz => XS.iloadN X1.here hx rfl (hb hby d21_37) rfl kz) ?_
  show own_Go p e below _ (T1.setTop (mkF m 38 #[oR p0, oI (11 : Int32), oI p2] [(.int p2), (.int (10 : Int32)), (.ref p0)]))
  obtain ⟨T2, X2, e2, st2⟩ := getS2 X1 hx hZ hown (host := "") (Or.inl (own_w hw 111)) Via.refl e1 S_whi (g := (mkF m 38 #[oR p0, oI (11 : Int32), oI p2] [(.int p2), (.int (10 : Int32)), (.ref p0)])) rfl (hb hby d21_38)
  refine own_via st2 ?_
  show own_Go p e below _ (T2.setTop (mkF m 41 #[oR p0, oI (11 : Int32), oI p2] [(.int (0 : Int32)), (.int p2), (.int (10 : Int32)), (.ref p0)]))
  refine own_via (fun t kz => XS.ishr X2.here hx rfl (hb hby d21_41) rfl kz) ?_
  show own_Go p e below _ (T2.setTop (mkF m 42 #[oR p0, oI (11 : Int32), oI p2] [(.int (p2 >>> ((0 : Int32) &&& 31))), (.int (10 : Int32)), (.ref p0)]))
  refine own_via (fun t kz => XS.i2b X2.here hx rfl (hb hby d21_42) rfl kz) ?_
  show own_Go p e below _ (T2.setTop (mkF m 43 #[oR p0, oI (11 : Int32), oI p2] [(.int ((p2 >>> ((0 : Int32) &&& 31)).toInt8.toInt32)), (.int (10 : Int32)), (.ref p0)]))
  obtain ⟨cl3, Ar3, kc3, Sz3, Nn3, Hs3, Gs3⟩ := id VB
  obtain ⟨T3, h3, X3, e3, W3, st3⟩ := stB X2 hx hZ e2 Ar3 (j := (10 : Int32)) (inb_of Sz3 ⟨by decide, by decide⟩) (g := (mkF m 43 #[oR p0, oI (11 : Int32), oI p2] [(.int ((p2 >>> ((0 : Int32) &&& 31)).toInt8.toInt32)), (.int (10 : Int32)), (.ref p0)])) rfl rfl (hb hby d21_43)
  refine own_via st3 ?_
  have na3 : nar .byte ((p2 >>> ((0 : Int32) &&& 31)).toInt8.toInt32) = ((p2 >>> ((0 : Int32) &&& 31)).toInt8.toInt32) := own_narb _
  rw [na3] at W3
  have S4 := S_wad.wr W3
  have S5 := S_whi.wr W3
  have S6 := S_wlo.wr W3
  have Zs7 : n0 ≤ h3.size := Nat.le_trans Z0 (Keep.of_wr W3).1
  have N8 := Fr.snoc X3 N0 g_p0
  have K9 : Keep h0 h3 [p0] := (Keep.refl h0 [p0]).wr W3 (Or.inl (List.mem_of_getElem? (i := 0) rfl))
  have V10 : Arv Z h3 p0 kb .byte (12 : Int32) [(.int b0_), (.int b1_), (.int b2_), (.int b3_), (.int b4_), (.int b5_), (.int b6_), (.int b7_), (.int b8_), (.int b9_), (.int ((p2 >>> ((0 : Int32) &&& 31)).toInt8.toInt32)), (.int b11_)] (.int (0 : Int32)) := Arv.set Ar3 kc3 Sz3 Nn3 Hs3 Gs3 (fits_nar_byte _) W3 10 (by first | decide | (show 10 < 12; decide)) (by first | decide | (show 10 < 12; decide))
  refine own_via (fun t kz => XS.aloadN X3.here hx rfl (hb hby d21_44) rfl rfl kz) ?_
  refine own_via (fun t kz => XS.iloadN X3.here hx rfl (hb hby d21_45) rfl kz) ?_
  refine own_via (fun t kz => XS.iloadN X3.here hx rfl (hb hby d21_46) rfl kz) ?_
  show own_Go p e below _ (T3.setTop (mkF m 47 #[oR p0, oI (11 : Int32), oI p2] [(.int p2), (.int (11 : Int32)), (.ref p0)]))
  obtain ⟨T11, X11, e11, st11⟩ := getS2 X3 hx hZ hown (host := "") (Or.inl (own_w hw 112)) Via.refl e3 S6 (g := (mkF m 47 #[oR p0, oI (11 : Int32), oI p2] [(.int p2), (.int (11 : Int32)), (.ref p0)])) rfl (hb hby d21_47)
  refine own_via st11 ?_
  show own_Go p e below _ (T11.setTop (mkF m 50 #[oR p0, oI (11 : Int32), oI p2] [(.int (8 : Int32)), (.int p2), (.int (11 : Int32)), (.ref p0)]))
  refine own_via (fun t kz => XS.ishr X11.here hx rfl (hb hby d21_50) rfl kz) ?_
  show own_Go p e below _ (T11.setTop (mkF m 51 #[oR p0, oI (11 : Int32), oI p2] [(.int (p2 >>> ((8 : Int32) &&& 31))), (.int (11 : Int32)), (.ref p0)]))
  refine own_via (fun t kz => XS.i2b X11.here hx rfl (hb hby d21_51) rfl kz) ?_
  show own_Go p e below _ (T11.setTop (mkF m 52 #[oR p0, oI (11 : Int32), oI p2] [(.int ((p2 >>> ((8 : Int32) &&& 31)).toInt8.toInt32)), (.int (11 : Int32)), (.ref p0)]))
  obtain ⟨cl12, Ar12, kc12, Sz12, Nn12, Hs12, Gs12⟩ := id V10
  obtain ⟨T12, h12, X12, e12, W12, st12⟩ := stB X11 hx hZ e11 Ar12 (j := (11 : Int32)) (inb_of Sz12 ⟨by decide, by decide⟩) (g := (mkF m 52 #[oR p0, oI (11 : Int32), oI p2] [(.int ((p2 >>> ((8 : Int32) &&& 31)).toInt8.toInt32)), (.int (11 : Int32)), (.ref p0)])) rfl rfl (hb hby d21_52)
  refine own_via st12 ?_
  have na12 : nar .byte ((p2 >>> ((8 : Int32) &&& 31)).toInt8.toInt32) = ((p2 >>> ((8 : Int32) &&& 31)).toInt8.toInt32) := own_narb _
  rw [na12] at W12
  have S13 := S4.wr W12
  have S14 := S5.wr W12
  have S15 := S6.wr W12
  have Zs16 : n0 ≤ h12.size := Nat.le_trans Zs7 (Keep.of_wr W12).1
  have N17 := Fr.snoc X12 N8 g_p0
  have K18 : Keep h0 h12 [p0] := K9.wr W12 (Or.inl (List.mem_of_getElem? (i := 0) rfl))
  have V19 : Arv Z h12 p0 kb .byte (12 : Int32) [(.int b0_), (.int b1_), (.int b2_), (.int b3_), (.int b4_), (.int b5_), (.int b6_), (.int b7_), (.int b8_), (.int b9_), (.int ((p2 >>> ((0 : Int32) &&& 31)).toInt8.toInt32)), (.int ((p2 >>> ((8 : Int32) &&& 31)).toInt8.toInt32))] (.int (0 : Int32)) := Arv.set Ar12 kc12 Sz12 Nn12 Hs12 Gs12 (fits_nar_byte _) W12 11 (by first | decide | (show 11 < 12; decide)) (by first | decide | (show 11 < 12; decide))
  show own_Go p e below _ (T12.setTop (mkF m 53 #[oR p0, oI (11 : Int32), oI p2] []))
  obtain ⟨fs, hr, hrun, hended, hW, hsame⟩ := X12.leave (v := none) (fun _ => rfl)
  refine ⟨_, _, X12.returnOut hx Bd.returns (hb hby d21_53) hr, hrun, hended, _, _, rfl, ?_, ⟨_, rfl⟩, hW, hsame.mono (by decide) (by decide)⟩
  show QP6_5 Z p0 p2 kb b0_ b1_ b2_ b3_ b4_ b5_ b6_ b7_ b8_ b9_ b10_ b11_ h0 n0 _ T12.heap _
  rw [e12]
  exact ⟨rfl, N17, K18, V19⟩
theorem d19_0 : decode jdk_52_method_2_code 0 = .ok (.iload_n 0, 1) := by decide +kernel
theorem d19_1 : decode jdk_52_method_2_code 1 = .ok (.invokestatic 11, 3) := by decide +kernel
theorem d19_4 : decode jdk_52_method_2_code 4 = .ok (.newarray .byte, 2) := by decide +kernel
theorem d19_6 : decode jdk_52_method_2_code 6 = .ok (.areturn, 1) := by decide +kernel
theorem pd_19_0 : parseMethodDescriptor "(I)I" = some ⟨[.int], some .int⟩ := by decide +kernel
theorem ef_rmN6 (m : MethodId)  : entryFrame m #[(.int (6 : Int32))] 1 = mkF m 0 #[oI (6 : Int32)] [] := by first | (simp [entryFrame, mkF, argsToLocals, Value.category]; done) | rfl
def QN6 (Z : State)  (h0 : Heap) (n0 : Nat) (v : Option Value) (h : Heap) (L : List Loc) : Prop := v = some (.ref h0.size) ∧ Fr n0 L ∧ Keep h0 h [] ∧ ∃ kb, Arv Z h h0.size kb .byte (12 : Int32) [(.int (0 : Int32)), (.int (0 : Int32)), (.int (0 : Int32)), (.int (0 : Int32)), (.int (0 : Int32)), (.int (0 : Int32)), (.int (0 : Int32)), (.int (0 : Int32)), (.int (0 : Int32)), (.int (0 : Int32)), (.int (0 : Int32)), (.int (0 : Int32))] (.int (0 : Int32))
set_option maxRecDepth 65536 in
set_option maxHeartbeats 40000000 in
theorem rmN6 (l : Launch) (Z : State) (a0 : Array Value) (hw : ∀ d ∈ tables_1, d.before a0 Z = true) (ws : List Jvm.Cond)  (h0 : Heap) (n0 : Nat) (Z0 : n0 ≤ h0.size) :
    MetFree l (⟨"java/lang/StringUTF16", "newBytesFor", "(I)[B"⟩ : MethodName) (head1 (Jvm.Cond.code (⟨"java/lang/StringUTF16", "newBytesFor", "(I)[B"⟩ : MethodName) jdk_52_method_2_code 1 (some (.array .byte)) :: ws) ({ frames := 1, cells := 1, slots := 12, locals := 12 } : Room)) (fun a U => a = #[(.int (6 : Int32))] ∧ Z.Warmed39 U.vm ∧ U.heap = h0) (fun _ _ _ _ _ => True) (fun _ U o U' => ∃ v L, o = .returned v ∧ QN6 Z  h0 n0 v U'.heap L ∧ FrameEnd U o U' L ({ frames := 1, cells := 1, slots := 12, locals := 12 } : Room).cells ({ frames := 1, cells := 1, slots := 12, locals := 12 } : Room).slots) := by
  refine MetFree.of_bodySF (plainFor_of_name pn_20) hisR ?_
  intro p e s m args below meth c s₁ Bd hml0 hP hK
  obtain ⟨rfl, hZ, hh⟩ := hP
  have hx := Bd.exec
  have hby := Bd.bytes
  have hml : c.maxLocals = 1 := hml0
  have hown : s.vm.findClass "java/lang/StringUTF16" = some m.cls := findClass_of_methodNamed Bd.named
  have hnm := (name_of_methodNamed Bd.named Bd.method).1
  have X0 : Stand p l e ({ frames := 1, cells := 1, slots := 12, locals := 12 } : Room) s m #[(.int (6 : Int32))] below meth c s₁ [] 0 0 := Stand.of_body Bd
  have e0 : s₁.heap = h0 := by rw [← hh, Bd.state]; rfl
  have N0 := Fr.nil n0
  refine own_start ?_
  refine own_via (fun t k => castTop (ef_rmN6 m ) k) ?_
  show own_Go p e below _ (s₁.setTop (mkF m 0 #[oI (6 : Int32)] []))
  refine own_via (fun t kz => XS.iloadN X0.here hx rfl (hb hby d19_0) rfl kz) ?_
  show own_Go p e below _ (s₁.setTop (mkF m 1 #[oI (6 : Int32)] [(.int (6 : Int32))]))
  obtain ⟨_, _, ⟨T1, L1, k1, n1⟩, -, X1, ⟨Lc1, hQ1, l1, y1, z1⟩, st1⟩ := Jvm.LawKit.callS X0 hx (y := (⟨"java/lang/StringUTF16", "newBytesLength", "(I)I"⟩ : MethodName)) hown (mvT hZ (own_w hw 103)) (mvT hZ (own_w hw 104)) (mvT hZ (own_w hw 29)) (mvT hZ (own_w hw 105)) (by decide) (backOf (W := 0) (rm20 l Z a0 hw [] (6 : Int32) (12 : Int32) h0 n0 Z0 (by decide) (by decide) (by decide)) hZ (own_w hw 105) (own_w hw 29) (by decide) (by decide)) (g := (mkF m 1 #[oI (6 : Int32)] [(.int (6 : Int32))])) rfl (by rw [hml]; rfl) (argsL := [(.int (6 : Int32))]) (rest := []) (lenOf pd_19_0 rfl) rfl (by show 2 * 0 + _ ≤ _; exact Nat.le_of_eq rfl) (hb hby d19_1) (fun _ _ => ⟨rfl, e0, (by decide : 0 + 0 ≤ _), (by decide : 0 + 0 ≤ _)⟩)
  dsimp only [Pt.U, Pt.locs, Pt.cells, Pt.slots] at X1 l1 y1 z1 st1 hQ1
  subst l1 y1 z1
  obtain ⟨rfl, Nq1, e1⟩ := hQ1
  have N2 := Fr.app N0 Nq1
  refine own_via st1 ?_
  show own_Go p e below _ (T1.setTop (mkF m 4 #[oI (6 : Int32)] [(.int (12 : Int32))]))
  obtain ⟨T3, h3, k3, X3, e3, E3, A3, st3⟩ := newP X1 hx hZ (aty := .byte) (own_w hw 31) e1 (g := (mkF m 4 #[oI (6 : Int32)] [(.int (12 : Int32))])) rfl (hb hby d19_4) rfl (by decide) (cap := 12) (by decide) (by decide) (by decide) (by decide)
  obtain ⟨a3, g3⟩ : ∃ z, z = h0.size := ⟨_, rfl⟩
  rw [← g3] at A3 st3
  refine own_via st3 ?_
  have fr4 : n0 ≤ a3 := Nat.le_trans Z0 (Nat.le_of_eq g3.symm)
  have hf5 : h0.size ≤ a3 := Nat.le_trans (Keep.refl h0 []).1 (Nat.le_of_eq g3.symm)
  have Zs6 : n0 ≤ h3.size := Nat.le_trans Z0 E3.1
  have K7 : Keep h0 h3 [] := (Keep.refl h0 []).ext E3
  have V8 : Arv Z h3 a3 k3 .byte (12 : Int32) [(.int (0 : Int32)), (.int (0 : Int32)), (.int (0 : Int32)), (.int (0 : Int32)), (.int (0 : Int32)), (.int (0 : Int32)), (.int (0 : Int32)), (.int (0 : Int32)), (.int (0 : Int32)), (.int (0 : Int32)), (.int (0 : Int32)), (.int (0 : Int32))] (.int (0 : Int32)) := (Arv.new A3 (by decide)).pad (pad_rep [] (.int (0 : Int32)) 12)
  show own_Go p e below _ (T3.setTop (mkF m 6 #[oI (6 : Int32)] [(.ref a3)]))
  obtain ⟨fs, hr, hrun, hended, hW, hsame⟩ := X3.leave (v := some (.ref a3)) (fun h => by rw [Bd.returns] at h; cases h)
  refine ⟨_, _, retOut X3 hx (i := .areturn) Bd.returns rfl (Or.inr (Or.inr (Or.inr (Or.inr ⟨rfl, rfl, rfl⟩)))) (hb hby d19_6) hr, hrun, hended, _, _, rfl, ?_, ⟨_, rfl⟩, hW, hsame.mono (by decide) (by decide)⟩
  show QN6 Z  h0 n0 _ T3.heap _
  rw [e3]
  exact ⟨by rw [g3], N2, K7, _, by rw [← g3]; exact V8⟩
theorem d18_0 : decode jdk_52_method_14_code 0 = .ok (.iload_n 2, 1) := by decide +kernel
theorem d18_1 : decode jdk_52_method_14_code 1 = .ok (.invokestatic 107, 3) := by decide +kernel
theorem d18_4 : decode jdk_52_method_14_code 4 = .ok (.astore_n 3, 1) := by decide +kernel
theorem d18_5 : decode jdk_52_method_14_code 5 = .ok (.iconst 0, 1) := by decide +kernel
theorem d18_6 : decode jdk_52_method_14_code 6 = .ok (.istore 4, 2) := by decide +kernel
theorem d18_8 : decode jdk_52_method_14_code 8 = .ok (.iload 4, 2) := by decide +kernel
theorem d18_10 : decode jdk_52_method_14_code 10 = .ok (.iload_n 2, 1) := by decide +kernel
theorem d18_11 : decode jdk_52_method_14_code 11 = .ok (.if_icmp .ge 21, 3) := by decide +kernel
theorem d18_14 : decode jdk_52_method_14_code 14 = .ok (.aload_n 3, 1) := by decide +kernel
theorem d18_15 : decode jdk_52_method_14_code 15 = .ok (.iload 4, 2) := by decide +kernel
theorem d18_17 : decode jdk_52_method_14_code 17 = .ok (.aload_n 0, 1) := by decide +kernel
theorem d18_18 : decode jdk_52_method_14_code 18 = .ok (.iload_n 1, 1) := by decide +kernel
theorem d18_19 : decode jdk_52_method_14_code 19 = .ok (.caload, 1) := by decide +kernel
theorem d18_20 : decode jdk_52_method_14_code 20 = .ok (.invokestatic 111, 3) := by decide +kernel
theorem d18_23 : decode jdk_52_method_14_code 23 = .ok (.iinc 1 1, 3) := by decide +kernel
theorem d18_26 : decode jdk_52_method_14_code 26 = .ok (.iinc 4 1, 3) := by decide +kernel
theorem d18_29 : decode jdk_52_method_14_code 29 = .ok (.goto (-21), 3) := by decide +kernel
theorem d18_32 : decode jdk_52_method_14_code 32 = .ok (.aload_n 3, 1) := by decide +kernel
theorem d18_33 : decode jdk_52_method_14_code 33 = .ok (.areturn, 1) := by decide +kernel
theorem pd_18_0 : parseMethodDescriptor "(I)[B" = some ⟨[.int], some (.array .byte)⟩ := by decide +kernel
theorem pd_18_1 : parseMethodDescriptor "([BII)V" = some ⟨[(.array .byte), .int, .int], none⟩ := by decide +kernel
theorem ef_rmT6 (m : MethodId) (q0 : Addr) : entryFrame m #[(.ref q0), (.int (0 : Int32)), (.int (6 : Int32))] 5 = mkF m 0 #[oR q0, oI (0 : Int32), oI (6 : Int32), .unset, .unset] [] := by first | (simp [entryFrame, mkF, argsToLocals, Value.category]; done) | rfl
def QT6 (Z : State) (p0 : Addr) (kc : ClassId) (c0_ : Int32) (c1_ : Int32) (c2_ : Int32) (c3_ : Int32) (c4_ : Int32) (c5_ : Int32) (wcs : Int32) (wsf : Value) (h0 : Heap) (n0 : Nat) (v : Option Value) (h : Heap) (L : List Loc) : Prop := v = some (.ref h0.size) ∧ Fr n0 L ∧ Keep h0 h [] ∧ ∃ kb, Arv Z h h0.size kb .byte (12 : Int32) [(.int ((c0_ >>> ((0 : Int32) &&& 31)).toInt8.toInt32)), (.int ((c0_ >>> ((8 : Int32) &&& 31)).toInt8.toInt32)), (.int ((c1_ >>> ((0 : Int32) &&& 31)).toInt8.toInt32)), (.int ((c1_ >>> ((8 : Int32) &&& 31)).toInt8.toInt32)), (.int ((c2_ >>> ((0 : Int32) &&& 31)).toInt8.toInt32)), (.int ((c2_ >>> ((8 : Int32) &&& 31)).toInt8.toInt32)), (.int ((c3_ >>> ((0 : Int32) &&& 31)).toInt8.toInt32)), (.int ((c3_ >>> ((8 : Int32) &&& 31)).toInt8.toInt32)), (.int ((c4_ >>> ((0 : Int32) &&& 31)).toInt8.toInt32)), (.int ((c4_ >>> ((8 : Int32) &&& 31)).toInt8.toInt32)), (.int ((c5_ >>> ((0 : Int32) &&& 31)).toInt8.toInt32)), (.int ((c5_ >>> ((8 : Int32) &&& 31)).toInt8.toInt32))] (.int (0 : Int32))
set_option maxRecDepth 65536 in
set_option maxHeartbeats 40000000 in
theorem rmT6 (l : Launch) (Z : State) (a0 : Array Value) (hw : ∀ d ∈ tables_1, d.before a0 Z = true) (ws : List Jvm.Cond) (p0 : Addr) (kc : ClassId) (c0_ : Int32) (c1_ : Int32) (c2_ : Int32) (c3_ : Int32) (c4_ : Int32) (c5_ : Int32) (wcs : Int32) (wsf : Value) (h0 : Heap) (n0 : Nat) (Z0 : n0 ≤ h0.size) (VC : Arv Z h0 p0 kc .char (6 : Int32) [(.int c0_), (.int c1_), (.int c2_), (.int c3_), (.int c4_), (.int c5_)] (.int (0 : Int32))) (OLD : Old Z n0 h0) (hcs : ¬ (wcs = (0 : Int32))) (rsf : wsf.isRef = true) (B_wcs : Sta Z Z.heap "java/lang/String" "COMPACT_STRINGS" "Z" (.int wcs)) (B_wsf : Sta Z Z.heap "jdk/internal/util/Preconditions" "SIOOBE_FORMATTER" "Ljava/util/function/BiFunction;" wsf) (B_wad : Sta Z Z.heap "java/lang/StringUTF16" "$assertionsDisabled" "Z" (.int (1 : Int32))) (B_whi : Sta Z Z.heap "java/lang/StringUTF16" "HI_BYTE_SHIFT" "I" (.int (0 : Int32))) (B_wlo : Sta Z Z.heap "java/lang/StringUTF16" "LO_BYTE_SHIFT" "I" (.int (8 : Int32))) :
    MetFree l (⟨"java/lang/StringUTF16", "toBytes", "([CII)[B"⟩ : MethodName) (head1 (Jvm.Cond.code (⟨"java/lang/StringUTF16", "toBytes", "([CII)[B"⟩ : MethodName) jdk_52_method_14_code 5 (some (.array .byte)) :: ws) ({ frames := 2, cells := 1, slots := 12, locals := 24 } : Room)) (fun a U => a = #[(.ref p0), (.int (0 : Int32)), (.int (6 : Int32))] ∧ Z.Warmed39 U.vm ∧ U.heap = h0) (fun _ _ _ _ _ => True) (fun _ U o U' => ∃ v L, o = .returned v ∧ QT6 Z p0 kc c0_ c1_ c2_ c3_ c4_ c5_ wcs wsf h0 n0 v U'.heap L ∧ FrameEnd U o U' L ({ frames := 2, cells := 1, slots := 12, locals := 24 } : Room).cells ({ frames := 2, cells := 1, slots := 12, locals := 24 } : Room).slots) := by
  refine MetFree.of_bodySF (plainFor_of_name pn_20) hisR ?_
  intro p e s m args below meth c s₁ Bd hml0 hP hK
  obtain ⟨rfl, hZ, hh⟩ := hP
  have hx := Bd.exec
  have hby := Bd.bytes
  have hml : c.maxLocals = 5 := hml0
  have hown : s.vm.findClass "java/lang/StringUTF16" = some m.cls := findClass_of_methodNamed Bd.named
  have hnm := (name_of_methodNamed Bd.named Bd.method).1
  have X0 : Stand p l e ({ frames := 2, cells := 1, slots := 12, locals := 24 } : Room) s m #[(.ref p0), (.int (0 : Int32)), (.int (6 : Int32))] below meth c s₁ [] 0 0 := Stand.of_body Bd
  have e0 : s₁.heap = h0 := by rw [← hh, Bd.state]; rfl
  have N0 := Fr.nil n0
  refine own_start ?_
  refine own_via (fun t k => castTop (ef_rmT6 m p0) k) ?_
  show own_Go p e below _ (s₁.setTop (mkF m 0 #[oR p0, oI (0 : Int32), oI (6 : Int32), .unset, .unset] []))
  refine own_via (fun t kz => XS.iloadN X0.here hx rfl (hb hby d18_0) rfl kz) ?_
  show own_Go p e below _ (s₁.setTop (mkF m 1 #[oR p0, oI (0 : Int32), oI (6 : Int32), .unset, .unset] [(.int (6 : Int32))]))
  obtain ⟨_, _, ⟨T1, L1, k1, n1⟩, -, X1, ⟨Lc1, hQ1, l1, y1, z1⟩, st1⟩ := Jvm.LawKit.callS X0 hx (y := (⟨"java/lang/StringUTF16", "newBytesFor", "(I)[B"⟩ : MethodName)) hown (mvT hZ (own_w hw 100)) (mvT hZ (own_w hw 101)) (mvT hZ (own_w hw 29)) (mvT hZ (own_w hw 102)) (by decide) (backOf (W := 0) (rmN6 l Z a0 hw [] h0 n0 Z0) hZ (own_w hw 102) (own_w hw 29) (by decide) (by decide)) (g := (mkF m 1 #[oR p0, oI (0 : Int32), oI (6 : Int32), .unset, .unset] [(.int (6 : Int32))])) rfl (by rw [hml]; rfl) (argsL := [(.int (6 : Int32))]) (rest := []) (lenOf pd_18_0 rfl) rfl (by show 2 * 0 + _ ≤ _; exact Nat.le_of_eq rfl) (hb hby d18_1) (fun _ _ => ⟨rfl, e0, (by decide : 0 + 1 ≤ _), (by decide : 0 + 12 ≤ _)⟩)
  dsimp only [Pt.U, Pt.locs, Pt.cells, Pt.slots] at X1 l1 y1 z1 st1 hQ1
  subst l1 y1 z1
  obtain ⟨rfl, Nq1, Kc1, kb1, Vc1⟩ := hQ1
  have N2 := Fr.app N0 Nq1
  refine own_via st1 ?_
  obtain ⟨a1, g1⟩ : ∃ z, z = h0.size := ⟨_, rfl⟩
  rw [← g1] at Vc1 ⊢
  have lt3 : p0 < a1 := Nat.lt_of_lt_of_le VC.lt (Nat.le_of_eq g1.symm)
  have fr4 : n0 ≤ a1 := Nat.le_trans Z0 (Nat.le_of_eq g1.symm)
  have hf5 : h0.size ≤ a1 := Nat.le_trans (Keep.refl h0 []).1 (Nat.le_of_eq g1.symm)
  have O6 : Old Z n0 T1.heap := OLD.keep Kc1 all0
  have V7 := VC.keep Kc1 nin0
  have Zs8 : n0 ≤ T1.heap.size := Nat.le_trans Z0 Kc1.1
  have K9 : Keep h0 T1.heap [] := (Keep.refl h0 []).trans Kc1 all0
  refine own_via (fun t kz => XS.astoreN X1.here hx rfl (hb hby d18_4) rfl rfl (l' := #[oR p0, oI (0 : Int32), oI (6 : Int32), oR a1, .unset]) rfl kz) ?_
  refine own_via (fun t kz => XS.iconst X1.here hx rfl (hb hby d18_5) kz) ?_
  refine own_via (fun t kz => XS.istore X1.here hx rfl (hb hby d18_6) rfl (l' := #[oR p0, oI (0 : Int32), oI (6 : Int32), oR a1, oI (0 : Int32)]) rfl kz) ?_
  refine own_via (fun t kz => XS.iload X1.here hx rfl (hb hby d18_8) rfl kz) ?_
  refine own_via (fun t kz => XS.iloadN X1.here hx rfl (hb hby d18_10) rfl kz) ?_
  show own_Go p e below _ (T1.setTop (mkF m 11 #[oR p0, oI (0 : Int32), oI (6 : Int32), oR a1, oI (0 : Int32)] [(.int (6 : Int32)), (.int (0 : Int32))]))
  refine own_via (fun t kz => XS.icmpNo X1.here hx rfl (hb hby d18_11) rfl (tlt (by decide : (0 : Int32) < (6 : Int32))).2.1 kz) ?_
  refine own_via (fun t kz => XS.aloadN X1.here hx rfl (hb hby d18_14) rfl rfl kz) ?_
  refine own_via (fun t kz => XS.iload X1.here hx rfl (hb hby d18_15) rfl kz) ?_
  refine own_via (fun t kz => XS.aloadN X1.here hx rfl (hb hby d18_17) rfl rfl kz) ?_
  refine own_via (fun t kz => XS.iloadN X1.here hx rfl (hb hby d18_18) rfl kz) ?_
  show own_Go p e below _ (T1.setTop (mkF m 19 #[oR p0, oI (0 : Int32), oI (6 : Int32), oR a1, oI (0 : Int32)] [(.int (0 : Int32)), (.ref p0), (.int (0 : Int32)), (.ref a1)]))
  obtain ⟨cl10, Ar10, kc10, Sz10, Nn10, Hs10, Gs10⟩ := id V7
  have in10 := inb_of (j := (0 : Int32)) Sz10 ⟨by decide, by decide⟩
  have at10 : cl10.slots[((0 : Int32)).toNatClampNeg]? = some (.int c0_) := Hs10.at in10 rfl
  refine own_via (fun t kz => X1.caload hx (j := (0 : Int32)) (v := (.int c0_)) Ar10.1 (State.isArrayOf_alike hZ.alike Ar10.2.1) Ar10.2.2 in10 at10 (g := (mkF m 19 #[oR p0, oI (0 : Int32), oI (6 : Int32), oR a1, oI (0 : Int32)] [(.int (0 : Int32)), (.ref p0), (.int (0 : Int32)), (.ref a1)])) rfl rfl (hb hby d18_19) t kz) ?_
  show own_Go p e below _ (T1.setTop (mkF m 20 #[oR p0, oI (0 : Int32), oI (6 : Int32), oR a1, oI (0 : Int32)] [(.int c0_), (.int (0 : Int32)), (.ref a1)]))
  obtain ⟨_, _, ⟨T11, L11, k11, n11⟩, -, X11, ⟨Lc11, hQ11, l11, y11, z11⟩, st11⟩ := Jvm.LawKit.callS X1 hx (y := (⟨"java/lang/StringUTF16", "putChar", "([BII)V"⟩ : MethodName)) hown (mvT hZ (own_w hw 107)) (mvT hZ (own_w hw 108)) (mvT hZ (own_w hw 29)) (mvT hZ (own_w hw 109)) (by decide) (backOf (W := 0) (rmP6_0 l Z a0 hw [] a1 c0_ kb1 (0 : Int32) (0 : Int32) (0 : Int32) (0 : Int32) (0 : Int32) (0 : Int32) (0 : Int32) (0 : Int32) (0 : Int32) (0 : Int32) (0 : Int32) (0 : Int32) T1.heap n0 Zs8 fr4 Vc1 (B_wad.ext O6.2) (B_whi.ext O6.2) (B_wlo.ext O6.2)) hZ (own_w hw 109) (own_w hw 29) (by decide) (by decide)) (g := (mkF m 20 #[oR p0, oI (0 : Int32), oI (6 : Int32), oR a1, oI (0 : Int32)] [(.int c0_), (.int (0 : Int32)), (.ref a1)])) rfl (by rw [hml]; rfl) (argsL := [(.ref a1), (.int (0 : Int32)), (.int c0_)]) (rest := []) (lenOf pd_18_1 rfl) rfl (by show 2 * 0 + _ ≤ _; exact Nat.le_of_eq rfl) (hb hby d18_20) (fun _ _ => ⟨rfl, rfl, (by decide : 1 + 0 ≤ _), (by decide : 12 + 0 ≤ _)⟩)
  dsimp only [Pt.U, Pt.locs, Pt.cells, Pt.slots] at X11 l11 y11 z11 st11 hQ11
  subst l11 y11 z11
  obtain ⟨rfl, Nq11, Kc11, Vc11⟩ := hQ11
  have N12 := Fr.app N2 Nq11
  refine own_via st11 ?_
  have O13 : Old Z n0 T11.heap := O6.keep Kc11 (allS fr4 all0)
  have V14 := V7.keep Kc11 (ninS (Nat.ne_of_lt lt3) nin0)
  have Zs15 : n0 ≤ T11.heap.size := Nat.le_trans Zs8 Kc11.1
  have K16 : Keep h0 T11.heap [] := K9.trans Kc11 (allS (Or.inr hf5) all0)
  show own_Go p e below _ (T11.setTop (mkF m 23 #[oR p0, oI (0 : Int32), oI (6 : Int32), oR a1, oI (0 : Int32)] []))
  refine own_via (fun t kz => XS.iinc X11.here hx rfl (hb hby d18_23) rfl (l' := #[oR p0, oI (1 : Int32), oI (6 : Int32), oR a1, oI (0 : Int32)]) rfl kz) ?_
  show own_Go p e below _ (T11.setTop (mkF m 26 #[oR p0, oI (1 : Int32), oI (6 : Int32), oR a1, oI (0 : Int32)] []))
  refine own_via (fun t kz => XS.iinc X11.here hx rfl (hb hby d18_26) rfl (l' := #[oR p0, oI (1 : Int32), oI (6 : Int32), oR a1, oI (1 : Int32)]) rfl kz) ?_
  refine own_via (fun t kz => XS.goto X11.here hx rfl (pc0 := 29) (pc' := 8) rfl (hb hby d18_29) (by decide) (by decide) kz) ?_
  refine own_via (fun t kz => XS.iload X11.here hx rfl (hb hby d18_8) rfl kz) ?_
  refine own_via (fun t kz => XS.iloadN X11.here hx rfl (hb hby d18_10) rfl kz) ?_
  show own_Go p e below _ (T11.setTop (mkF m 11 #[oR p0, oI (1 : Int32), oI (6 : Int32), oR a1, oI (1 : Int32)] [(.int (6 : Int32)), (.int (1 : Int32))]))
  refine own_via (fun t kz => XS.icmpNo X11.here hx rfl (hb hby d18_11) rfl (tlt (by decide : (1 : Int32) < (6 : Int32))).2.1 kz) ?_
  refine own_via (fun t kz => XS.aloadN X11.here hx rfl (hb hby d18_14) rfl rfl kz) ?_
  refine own_via (fun t kz => XS.iload X11.here hx rfl (hb hby d18_15) rfl kz) ?_
  refine own_via (fun t kz => XS.aloadN X11.here hx rfl (hb hby d18_17) rfl rfl kz) ?_
  refine own_via (fun t kz => XS.iloadN X11.here hx rfl (hb hby d18_18) rfl kz) ?_
  show own_Go p e below _ (T11.setTop (mkF m 19 #[oR p0, oI (1 : Int32), oI (6 : Int32), oR a1, oI (1 : Int32)] [(.int (1 : Int32)), (.ref p0), (.int (1 : Int32)), (.ref a1)]))
  obtain ⟨cl17, Ar17, kc17, Sz17, Nn17, Hs17, Gs17⟩ := id V14
  have in17 := inb_of (j := (1 : Int32)) Sz17 ⟨by decide, by decide⟩
  have at17 : cl17.slots[((1 : Int32)).toNatClampNeg]? = some (.int c1_) := Hs17.at in17 rfl
  refine own_via (fun t kz => X11.caload hx (j := (1 : Int32)) (v := (.int c1_)) Ar17.1 (State.isArrayOf_alike hZ.alike Ar17.2.1) Ar17.2.2 in17 at17 (g := (mkF m 19 #[oR p0, oI (1 : Int32), oI (6 : Int32), oR a1, oI (1 : Int32)] [(.int (1 : Int32)), (.ref p0), (.int (1 : Int32)), (.ref a1)])) rfl rfl (hb hby d18_19) t kz) ?_
  show own_Go p e below _ (T11.setTop (mkF m 20 #[oR p0, oI (1 : Int32), oI (6 : Int32), oR a1, oI (1 : Int32)] [(.int c1_), (.int (1 : Int32)), (.ref a1)]))
  obtain ⟨_, _, ⟨T18, L18, k18, n18⟩, -, X18, ⟨Lc18, hQ18, l18, y18, z18⟩, st18⟩ := Jvm.LawKit.callS X11 hx (y := (⟨"java/lang/StringUTF16", "putChar", "([BII)V"⟩ : MethodName)) hown (mvT hZ (own_w hw 107)) (mvT hZ (own_w hw 108)) (mvT hZ (own_w hw 29)) (mvT hZ (own_w hw 109)) (by decide) (backOf (W := 0) (rmP6_1 l Z a0 hw [] a1 c1_ kb1 ((c0_ >>> ((0 : Int32) &&& 31)).toInt8.toInt32) ((c0_ >>> ((8 : Int32) &&& 31)).toInt8.toInt32) (0 : Int32) (0 : Int32) (0 : Int32) (0 : Int32) (0 : Int32) (0 : Int32) (0 : Int32) (0 : Int32) (0 : Int32) (0 : Int32) T11.heap n0 Zs15 fr4 Vc11 (B_wad.ext O13.2) (B_whi.ext O13.2) (B_wlo.ext O13.2)) hZ (own_w hw 109) (own_w hw 29) (by decide) (by decide)) (g := (mkF m 20 #[oR p0, oI (1 : Int32), oI (6 : Int32), oR a1, oI (1 : Int32)] [(.int c1_), (.int (1 : Int32)), (.ref a1)])) rfl (by rw [hml]; rfl) (argsL := [(.ref a1), (.int (1 : Int32)), (.int c1_)]) (rest := []) (lenOf pd_18_1 rfl) rfl (by show 2 * 0 + _ ≤ _; exact Nat.le_of_eq rfl) (hb hby d18_20) (fun _ _ => ⟨rfl, rfl, (by decide : 1 + 0 ≤ _), (by decide : 12 + 0 ≤ _)⟩)
  dsimp only [Pt.U, Pt.locs, Pt.cells, Pt.slots] at X18 l18 y18 z18 st18 hQ18
  subst l18 y18 z18
  obtain ⟨rfl, Nq18, Kc18, Vc18⟩ := hQ18
  have N19 := Fr.app N12 Nq18
  refine own_via st18 ?_
  have O20 : Old Z n0 T18.heap := O13.keep Kc18 (allS fr4 all0)
  have V21 := V14.keep Kc18 (ninS (Nat.ne_of_lt lt3) nin0)
  have Zs22 : n0 ≤ T18.heap.size := Nat.le_trans Zs15 Kc18.1
  have K23 : Keep h0 T18.heap [] := K16.trans Kc18 (allS (Or.inr hf5) all0)
  show own_Go p e below _ (T18.setTop (mkF m 23 #[oR p0, oI (1 : Int32), oI (6 : Int32), oR a1, oI (1 : Int32)] []))
  refine own_via (fun t kz => XS.iinc X18.here hx rfl (hb hby d18_23) rfl (l' := #[oR p0, oI (2 : Int32), oI (6 : Int32), oR a1, oI (1 : Int32)]) rfl kz) ?_
  show own_Go p e below _ (T18.setTop (mkF m 26 #[oR p0, oI (2 : Int32), oI (6 : Int32), oR a1, oI (1 : Int32)] []))
  refine own_via (fun t kz => XS.iinc X18.here hx rfl (hb hby d18_26) rfl (l' := #[oR p0, oI (2 : Int32), oI (6 : Int32), oR a1, oI (2 : Int32)]) rfl kz) ?_
  refine own_via (fun t kz => XS.goto X18.here hx rfl (pc0 := 29) (pc' := 8) rfl (hb hby d18_29) (by decide) (by decide) kz) ?_
  refine own_via (fun t kz => XS.iload X18.here hx rfl (hb hby d18_8) rfl kz) ?_
  refine own_via (fun t kz => XS.iloadN X18.here hx rfl (hb hby d18_10) rfl kz) ?_
  show own_Go p e below _ (T18.setTop (mkF m 11 #[oR p0, oI (2 : Int32), oI (6 : Int32), oR a1, oI (2 : Int32)] [(.int (6 : Int32)), (.int (2 : Int32))]))
  refine own_via (fun t kz => XS.icmpNo X18.here hx rfl (hb hby d18_11) rfl (tlt (by decide : (2 : Int32) < (6 : Int32))).2.1 kz) ?_
  refine own_via (fun t kz => XS.aloadN X18.here hx rfl (hb hby d18_14) rfl rfl kz) ?_
  refine own_via (fun t kz => XS.iload X18.here hx rfl (hb hby d18_15) rfl kz) ?_
  refine own_via (fun t kz => XS.aloadN X18.here hx rfl (hb hby d18_17) rfl rfl kz) ?_
  refine own_via (fun t kz => XS.iloadN X18.here hx rfl (hb hby d18_18) rfl kz) ?_
  show own_Go p e below _ (T18.setTop (mkF m 19 #[oR p0, oI (2 : Int32), oI (6 : Int32), oR a1, oI (2 : Int32)] [(.int (2 : Int32)), (.ref p0), (.int (2 : Int32)), (.ref a1)]))
  obtain ⟨cl24, Ar24, kc24, Sz24, Nn24, Hs24, Gs24⟩ := id V21
  have in24 := inb_of (j := (2 : Int32)) Sz24 ⟨by decide, by decide⟩
  have at24 : cl24.slots[((2 : Int32)).toNatClampNeg]? = some (.int c2_) := Hs24.at in24 rfl
  refine own_via (fun t kz => X18.caload hx (j := (2 : Int32)) (v := (.int c2_)) Ar24.1 (State.isArrayOf_alike hZ.alike Ar24.2.1) Ar24.2.2 in24 at24 (g := (mkF m 19 #[oR p0, oI (2 : Int32), oI (6 : Int32), oR a1, oI (2 : Int32)] [(.int (2 : Int32)), (.ref p0), (.int (2 : Int32)), (.ref a1)])) rfl rfl (hb hby d18_19) t kz) ?_
  show own_Go p e below _ (T18.setTop (mkF m 20 #[oR p0, oI (2 : Int32), oI (6 : Int32), oR a1, oI (2 : Int32)] [(.int c2_), (.int (2 : Int32)), (.ref a1)]))
  obtain ⟨_, _, ⟨T25, L25, k25, n25⟩, -, X25, ⟨Lc25, hQ25, l25, y25, z25⟩, st25⟩ := Jvm.LawKit.callS X18 hx (y := (⟨"java/lang/StringUTF16", "putChar", "([BII)V"⟩ : MethodName)) hown (mvT hZ (own_w hw 107)) (mvT hZ (own_w hw 108)) (mvT hZ (own_w hw 29)) (mvT hZ (own_w hw 109)) (by decide) (backOf (W := 0) (rmP6_2 l Z a0 hw [] a1 c2_ kb1 ((c0_ >>> ((0 : Int32) &&& 31)).toInt8.toInt32) ((c0_ >>> ((8 : Int32) &&& 31)).toInt8.toInt32) ((c1_ >>> ((0 : Int32) &&& 31)).toInt8.toInt32) ((c1_ >>> ((8 : Int32) &&& 31)).toInt8.toInt32) (0 : Int32) (0 : Int32) (0 : Int32) (0 : Int32) (0 : Int32) (0 : Int32) (0 : Int32) (0 : Int32) T18.heap n0 Zs22 fr4 Vc18 (B_wad.ext O20.2) (B_whi.ext O20.2) (B_wlo.ext O20.2)) hZ (own_w hw 109) (own_w hw 29) (by decide) (by decide)) (g := (mkF m 20 #[oR p0, oI (2 : Int32), oI (6 : Int32), oR a1, oI (2 : Int32)] [(.int c2_), (.int (2 : Int32)), (.ref a1)])) rfl (by rw [hml]; rfl) (argsL := [(.ref a1), (.int (2 : Int32)), (.int c2_)]) (rest := []) (lenOf pd_18_1 rfl) rfl (by show 2 * 0 + _ ≤ _; exact Nat.le_of_eq rfl) (hb hby d18_20) (fun _ _ => ⟨rfl, rfl, (by decide : 1 + 0 ≤ _), (by decide : 12 + 0 ≤ _)⟩)
  dsimp only [Pt.U, Pt.locs, Pt.cells, Pt.slots] at X25 l25 y25 z25 st25 hQ25
  subst l25 y25 z25
  obtain ⟨rfl, Nq25, Kc25, Vc25⟩ := hQ25
  have N26 := Fr.app N19 Nq25
  refine own_via st25 ?_
  have O27 : Old Z n0 T25.heap := O20.keep Kc25 (allS fr4 all0)
  have V28 := V21.keep Kc25 (ninS (Nat.ne_of_lt lt3) nin0)
  have Zs29 : n0 ≤ T25.heap.size := Nat.le_trans Zs22 Kc25.1
  have K30 : Keep h0 T25.heap [] := K23.trans Kc25 (allS (Or.inr hf5) all0)
  show own_Go p e below _ (T25.setTop (mkF m 23 #[oR p0, oI (2 : Int32), oI (6 : Int32), oR a1, oI (2 : Int32)] []))
  refine own_via (fun t kz => XS.iinc X25.here hx rfl (hb hby d18_23) rfl (l' := #[oR p0, oI (3 : Int32), oI (6 : Int32), oR a1, oI (2 : Int32)]) rfl kz) ?_
  show own_Go p e below _ (T25.setTop (mkF m 26 #[oR p0, oI (3 : Int32), oI (6 : Int32), oR a1, oI (2 : Int32)] []))
  refine own_via (fun t kz => XS.iinc X25.here hx rfl (hb hby d18_26) rfl (l' := #[oR p0, oI (3 : Int32), oI (6 : Int32), oR a1, oI (3 : Int32)]) rfl kz) ?_
  refine own_via (fun t kz => XS.goto X25.here hx rfl (pc0 := 29) (pc' := 8) rfl (hb hby d18_29) (by decide) (by decide) kz) ?_
  refine own_via (fun t kz => XS.iload X25.here hx rfl (hb hby d18_8) rfl kz) ?_
  refine own_via (fun t kz => XS.iloadN X25.here hx rfl (hb hby d18_10) rfl kz) ?_
  show own_Go p e below _ (T25.setTop (mkF m 11 #[oR p0, oI (3 : Int32), oI (6 : Int32), oR a1, oI (3 : Int32)] [(.int (6 : Int32)), (.int (3 : Int32))]))
  refine own_via (fun t kz => XS.icmpNo X25.here hx rfl (hb hby d18_11) rfl (tlt (by decide : (3 : Int32) < (6 : Int32))).2.1 kz) ?_
  refine own_via (fun t kz => XS.aloadN X25.here hx rfl (hb hby d18_14) rfl rfl kz) ?_
  refine own_via (fun t kz => XS.iload X25.here hx rfl (hb hby d18_15) rfl kz) ?_
  refine own_via (fun t kz => XS.aloadN X25.here hx rfl (hb hby d18_17) rfl rfl kz) ?_
  refine own_via (fun t kz => XS.iloadN X25.here hx rfl (hb hby d18_18) rfl kz) ?_
  show own_Go p e below _ (T25.setTop (mkF m 19 #[oR p0, oI (3 : Int32), oI (6 : Int32), oR a1, oI (3 : Int32)] [(.int (3 : Int32)), (.ref p0), (.int (3 : Int32)), (.ref a1)]))
  obtain ⟨cl31, Ar31, kc31, Sz31, Nn31, Hs31, Gs31⟩ := id V28
  have in31 := inb_of (j := (3 : Int32)) Sz31 ⟨by decide, by decide⟩
  have at31 : cl31.slots[((3 : Int32)).toNatClampNeg]? = some (.int c3_) := Hs31.at in31 rfl
  refine own_via (fun t kz => X25.caload hx (j := (3 : Int32)) (v := (.int c3_)) Ar31.1 (State.isArrayOf_alike hZ.alike Ar31.2.1) Ar31.2.2 in31 at31 (g := (mkF m 19 #[oR p0, oI (3 : Int32), oI (6 : Int32), oR a1, oI (3 : Int32)] [(.int (3 : Int32)), (.ref p0), (.int (3 : Int32)), (.ref a1)])) rfl rfl (hb hby d18_19) t kz) ?_
  show own_Go p e below _ (T25.setTop (mkF m 20 #[oR p0, oI (3 : Int32), oI (6 : Int32), oR a1, oI (3 : Int32)] [(.int c3_), (.int (3 : Int32)), (.ref a1)]))
  obtain ⟨_, _, ⟨T32, L32, k32, n32⟩, -, X32, ⟨Lc32, hQ32, l32, y32, z32⟩, st32⟩ := Jvm.LawKit.callS X25 hx (y := (⟨"java/lang/StringUTF16", "putChar", "([BII)V"⟩ : MethodName)) hown (mvT hZ (own_w hw 107)) (mvT hZ (own_w hw 108)) (mvT hZ (own_w hw 29)) (mvT hZ (own_w hw 109)) (by decide) (backOf (W := 0) (rmP6_3 l Z a0 hw [] a1 c3_ kb1 ((c0_ >>> ((0 : Int32) &&& 31)).toInt8.toInt32) ((c0_ >>> ((8 : Int32) &&& 31)).toInt8.toInt32) ((c1_ >>> ((0 : Int32) &&& 31)).toInt8.toInt32) ((c1_ >>> ((8 : Int32) &&& 31)).toInt8.toInt32) ((c2_ >>> ((0 : Int32) &&& 31)).toInt8.toInt32) ((c2_ >>> ((8 : Int32) &&& 31)).toInt8.toInt32) (0 : Int32) (0 : Int32) (0 : Int32) (0 : Int32) (0 : Int32) (0 : Int32) T25.heap n0 Zs29 fr4 Vc25 (B_wad.ext O27.2) (B_whi.ext O27.2) (B_wlo.ext O27.2)) hZ (own_w hw 109) (own_w hw 29) (by decide) (by decide)) (g := (mkF m 20 #[oR p0, oI (3 : Int32), oI (6 : Int32), oR a1, oI (3 : Int32)] [(.int c3_), (.int (3 : Int32)), (.ref a1)])) rfl (by rw [hml]; rfl) (argsL := [(.ref a1), (.int (3 : Int32)), (.int c3_)]) (rest := []) (lenOf pd_18_1 rfl) rfl (by show 2 * 0 + _ ≤ _; exact Nat.le_of_eq rfl) (hb hby d18_20) (fun _ _ => ⟨rfl, rfl, (by decide : 1 + 0 ≤ _), (by decide : 12 + 0 ≤ _)⟩)
  dsimp only [Pt.U, Pt.locs, Pt.cells, Pt.slots] at X32 l32 y32 z32 st32 hQ32
  subst l32 y32 z32
  obtain ⟨rfl, Nq32, Kc32, Vc32⟩ := hQ32
  have N33 := Fr.app N26 Nq32
  refine own_via st32 ?_
  have O34 : Old Z n0 T32.heap := O27.keep Kc32 (allS fr4 all0)
  have V35 := V28.keep Kc32 (ninS (Nat.ne_of_lt lt3) nin0)
  have Zs36 : n0 ≤ T32.heap.size := Nat.le_trans Zs29 Kc32.1
  have K37 : Keep h0 T32.heap [] := K30.trans Kc32 (allS (Or.inr hf5) all0)
  show own_Go p e below _ (T32.setTop (mkF m 23 #[oR p0, oI (3 : Int32), oI (6 : Int32), oR a1, oI (3 : Int32)] []))
  refine own_via (fun t kz => XS.iinc X32.here hx rfl (hb hby d18_23) rfl (l' := #[oR p0, oI (4 : Int32), oI (6 : Int32), oR a1, oI (3 : Int32)]) rfl kz) ?_
  show own_Go p e below _ (T32.setTop (mkF m 26 #[oR p0, oI (4 : Int32), oI (6 : Int32), oR a1, oI (3 : Int32)] []))
  refine own_via (fun t kz => XS.iinc X32.here hx rfl (hb hby d18_26) rfl (l' := #[oR p0, oI (4 : Int32), oI (6 : Int32), oR a1, oI (4 : Int32)]) rfl kz) ?_
  refine own_via (fun t kz => XS.goto X32.here hx rfl (pc0 := 29) (pc' := 8) rfl (hb hby d18_29) (by decide) (by decide) kz) ?_
  refine own_via (fun t kz => XS.iload X32.here hx rfl (hb hby d18_8) rfl kz) ?_
  refine own_via (fun t kz => XS.iloadN X32.here hx rfl (hb hby d18_10) rfl kz) ?_
  show own_Go p e below _ (T32.setTop (mkF m 11 #[oR p0, oI (4 : Int32), oI (6 : Int32), oR a1, oI (4 : Int32)] [(.int (6 : Int32)), (.int (4 : Int32))]))
  refine own_via (fun t kz => XS.icmpNo X32.here hx rfl (hb hby d18_11) rfl (tlt (by decide : (4 : Int32) < (6 : Int32))).2.1 kz) ?_
  refine own_via (fun t kz => XS.aloadN X32.here hx rfl (hb hby d18_14) rfl rfl kz) ?_
  refine own_via (fun t kz => XS.iload X32.here hx rfl (hb hby d18_15) rfl kz) ?_
  refine own_via (fun t kz => XS.aloadN X32.here hx rfl (hb hby d18_17) rfl rfl kz) ?_
  refine own_via (fun t kz => XS.iloadN X32.here hx rfl (hb hby d18_18) rfl kz) ?_
  show own_Go p e below _ (T32.setTop (mkF m 19 #[oR p0, oI (4 : Int32), oI (6 : Int32), oR a1, oI (4 : Int32)] [(.int (4 : Int32)), (.ref p0), (.int (4 : Int32)), (.ref a1)]))
  obtain ⟨cl38, Ar38, kc38, Sz38, Nn38, Hs38, Gs38⟩ := id V35
  have in38 := inb_of (j := (4 : Int32)) Sz38 ⟨by decide, by decide⟩
  have at38 : cl38.slots[((4 : Int32)).toNatClampNeg]? = some (.int c4_) := Hs38.at in38 rfl
  refine own_via (fun t kz => X32.caload hx (j := (4 : Int32)) (v := (.int c4_)) Ar38.1 (State.isArrayOf_alike hZ.alike Ar38.2.1) Ar38.2.2 in38 at38 (g := (mkF m 19 #[oR p0, oI (4 : Int32), oI (6 : Int32), oR a1, oI (4 : Int32)] [(.int (4 : Int32)), (.ref p0), (.int (4 : Int32)), (.ref a1)])) rfl rfl (hb hby d18_19) t kz) ?_
  show own_Go p e below _ (T32.setTop (mkF m 20 #[oR p0, oI (4 : Int32), oI (6 : Int32), oR a1, oI (4 : Int32)] [(.int c4_), (.int (4 : Int32)), (.ref a1)]))
  obtain ⟨_, _, ⟨T39, L39, k39, n39⟩, -, X39, ⟨Lc39, hQ39, l39, y39, z39⟩, st39⟩ := Jvm.LawKit.callS X32 hx (y := (⟨"java/lang/StringUTF16", "putChar", "([BII)V"⟩ : MethodName)) hown (mvT hZ (own_w hw 107)) (mvT hZ (own_w hw 108)) (mvT hZ (own_w hw 29)) (mvT hZ (own_w hw 109)) (by decide) (backOf (W := 0) (rmP6_4 l Z a0 hw [] a1 c4_ kb1 ((c0_ >>> ((0 : Int32) &&& 31)).toInt8.toInt32) ((c0_ >>> ((8 : Int32) &&& 31)).toInt8.toInt32) ((c1_ >>> ((0 : Int32) &&& 31)).toInt8.toInt32) ((c1_ >>> ((8 : Int32) &&& 31)).toInt8.toInt32) ((c2_ >>> ((0 : Int32) &&& 31)).toInt8.toInt32) ((c2_ >>> ((8 : Int32) &&& 31)).toInt8.toInt32) ((c3_ >>> ((0 : Int32) &&& 31)).toInt8.toInt32) ((c3_ >>> ((8 : Int32) &&& 31)).toInt8.toInt32) (0 : Int32) (0 : Int32) (0 : Int32) (0 : Int32) T32.heap n0 Zs36 fr4 Vc32 (B_wad.ext O34.2) (B_whi.ext O34.2) (B_wlo.ext O34.2)) hZ (own_w hw 109) (own_w hw 29) (by decide) (by decide)) (g := (mkF m 20 #[oR p0, oI (4 : Int32), oI (6 : Int32), oR a1, oI (4 : Int32)] [(.int c4_), (.int (4 : Int32)), (.ref a1)])) rfl (by rw [hml]; rfl) (argsL := [(.ref a1), (.int (4 : Int32)), (.int c4_)]) (rest := []) (lenOf pd_18_1 rfl) rfl (by show 2 * 0 + _ ≤ _; exact Nat.le_of_eq rfl) (hb hby d18_20) (fun _ _ => ⟨rfl, rfl, (by decide : 1 + 0 ≤ _), (by decide : 12 + 0 ≤ _)⟩)
  dsimp only [Pt.U, Pt.locs, Pt.cells, Pt.slots] at X39 l39 y39 z39 st39 hQ39
  subst l39 y39 z39
  obtain ⟨rfl, Nq39, Kc39, Vc39⟩ := hQ39
  have N40 := Fr.app N33 Nq39
  refine own_via st39 ?_
  have O41 : Old Z n0 T39.heap := O34.keep Kc39 (allS fr4 all0)
  have V42 := V35.keep Kc39 (ninS (Nat.ne_of_lt lt3) nin0)
  have Zs43 : n0 ≤ T39.heap.size := Nat.le_trans Zs36 Kc39.1
  have K44 : Keep h0 T39.heap [] := K37.trans Kc39 (allS (Or.inr hf5) all0)
  show own_Go p e below _ (T39.setTop (mkF m 23 #[oR p0, oI (4 : Int32), oI (6 : Int32), oR a1, oI (4 : Int32)] []))
  refine own_via (fun t kz => XS.iinc X39.here hx rfl (hb hby d18_23) rfl (l' := #[oR p0, oI (5 : Int32), oI (6 : Int32), oR a1, oI (4 : Int32)]) rfl kz) ?_
  show own_Go p e below _ (T39.setTop (mkF m 26 #[oR p0, oI (5 : Int32), oI (6 : Int32), oR a1, oI (4 : Int32)] []))
  refine own_via (fun t kz => XS.iinc X39.here hx rfl (hb hby d18_26) rfl (l' := #[oR p0, oI (5 : Int32), oI (6 : Int32), oR a1, oI (5 : Int32)]) rfl kz) ?_
  refine own_via (fun t kz => XS.goto X39.here hx rfl (pc0 := 29) (pc' := 8) rfl (hb hby d18_29) (by decide) (by decide) kz) ?_
  refine own_via (fun t kz => XS.iload X39.here hx rfl (hb hby d18_8) rfl kz) ?_
  refine own_via (fun t kz => XS.iloadN X39.here hx rfl (hb hby d18_10) rfl kz) ?_
  show own_Go p e below _ (T39.setTop (mkF m 11 #[oR p0, oI (5 : Int32), oI (6 : Int32), oR a1, oI (5 : Int32)] [(.int (6 : Int32)), (.int (5 : Int32))]))
  refine own_via (fun t kz => XS.icmpNo X39.here hx rfl (hb hby d18_11) rfl (tlt (by decide : (5 : Int32) < (6 : Int32))).2.1 kz) ?_
  refine own_via (fun t kz => XS.aloadN X39.here hx rfl (hb hby d18_14) rfl rfl kz) ?_
  refine own_via (fun t kz => XS.iload X39.here hx rfl (hb hby d18_15) rfl kz) ?_
  refine own_via (fun t kz => XS.aloadN X39.here hx rfl (hb hby d18_17) rfl rfl kz) ?_
  refine own_via (fun t kz => XS.iloadN X39.here hx rfl (hb hby d18_18) rfl kz) ?_
  show own_Go p e below _ (T39.setTop (mkF m 19 #[oR p0, oI (5 : Int32), oI (6 : Int32), oR a1, oI (5 : Int32)] [(.int (5 : Int32)), (.ref p0), (.int (5 : Int32)), (.ref a1)]))
  obtain ⟨cl45, Ar45, kc45, Sz45, Nn45, Hs45, Gs45⟩ := id V42
  have in45 := inb_of (j := (5 : Int32)) Sz45 ⟨by decide, by decide⟩
  have at45 : cl45.slots[((5 : Int32)).toNatClampNeg]? = some (.int c5_) := Hs45.at in45 rfl
  refine own_via (fun t kz => X39.caload hx (j := (5 : Int32)) (v := (.int c5_)) Ar45.1 (State.isArrayOf_alike hZ.alike Ar45.2.1) Ar45.2.2 in45 at45 (g := (mkF m 19 #[oR p0, oI (5 : Int32), oI (6 : Int32), oR a1, oI (5 : Int32)] [(.int (5 : Int32)), (.ref p0), (.int (5 : Int32)), (.ref a1)])) rfl rfl (hb hby d18_19) t kz) ?_
  show own_Go p e below _ (T39.setTop (mkF m 20 #[oR p0, oI (5 : Int32), oI (6 : Int32), oR a1, oI (5 : Int32)] [(.int c5_), (.int (5 : Int32)), (.ref a1)]))
  obtain ⟨_, _, ⟨T46, L46, k46, n46⟩, -, X46, ⟨Lc46, hQ46, l46, y46, z46⟩, st46⟩ := Jvm.LawKit.callS X39 hx (y := (⟨"java/lang/StringUTF16", "putChar", "([BII)V"⟩ : MethodName)) hown (mvT hZ (own_w hw 107)) (mvT hZ (own_w hw 108)) (mvT hZ (own_w hw 29)) (mvT hZ (own_w hw 109)) (by decide) (backOf (W := 0) (rmP6_5 l Z a0 hw [] a1 c5_ kb1 ((c0_ >>> ((0 : Int32) &&& 31)).toInt8.toInt32) ((c0_ >>> ((8 : Int32) &&& 31)).toInt8.toInt32) ((c1_ >>> ((0 : Int32) &&& 31)).toInt8.toInt32) ((c1_ >>> ((8 : Int32) &&& 31)).toInt8.toInt32) ((c2_ >>> ((0 : Int32) &&& 31)).toInt8.toInt32) ((c2_ >>> ((8 : Int32) &&& 31)).toInt8.toInt32) ((c3_ >>> ((0 : Int32) &&& 31)).toInt8.toInt32) ((c3_ >>> ((8 : Int32) &&& 31)).toInt8.toInt32) ((c4_ >>> ((0 : Int32) &&& 31)).toInt8.toInt32) ((c4_ >>> ((8 : Int32) &&& 31)).toInt8.toInt32) (0 : Int32) (0 : Int32) T39.heap n0 Zs43 fr4 Vc39 (B_wad.ext O41.2) (B_whi.ext O41.2) (B_wlo.ext O41.2)) hZ (own_w hw 109) (own_w hw 29) (by decide) (by decide)) (g := (mkF m 20 #[oR p0, oI (5 : Int32), oI (6 : Int32), oR a1, oI (5 : Int32)] [(.int c5_), (.int (5 : Int32)), (.ref a1)])) rfl (by rw [hml]; rfl) (argsL := [(.ref a1), (.int (5 : Int32)), (.int c5_)]) (rest := []) (lenOf pd_18_1 rfl) rfl (by show 2 * 0 + _ ≤ _; exact Nat.le_of_eq rfl) (hb hby d18_20) (fun _ _ => ⟨rfl, rfl, (by decide : 1 + 0 ≤ _), (by decide : 12 + 0 ≤ _)⟩)
  dsimp only [Pt.U, Pt.locs, Pt.cells, Pt.slots] at X46 l46 y46 z46 st46 hQ46
  subst l46 y46 z46
  obtain ⟨rfl, Nq46, Kc46, Vc46⟩ := hQ46
  have N47 := Fr.app N40 Nq46
  refine own_via st46 ?_
  have O48 : Old Z n0 T46.heap := O41.keep Kc46 (allS fr4 all0)
  have V49 := V42.keep Kc46 (ninS (Nat.ne_of_lt lt3) nin0)
  have Zs50 : n0 ≤ T46.heap.size := Nat.le_trans Zs43 Kc46.1
  have K51 : Keep h0 T46.heap [] := K44.trans Kc46 (allS (Or.inr hf5) all0)
  show own_Go p e below _ (T46.setTop (mkF m 23 #[oR p0, oI (5 : Int32), oI (6 : Int32), oR a1, oI (5 : Int32)] []))
  refine own_via (fun t kz => XS.iinc X46.here hx rfl (hb hby d18_23) rfl (l' := #[oR p0, oI (6 : Int32), oI (6 : Int32), oR a1, oI (5 : Int32)]) rfl kz) ?_
  show own_Go p e below _ (T46.setTop (mkF m 26 #[oR p0, oI (6 : Int32), oI (6 : Int32), oR a1, oI (5 : Int32)] []))
  refine own_via (fun t kz => XS.iinc X46.here hx rfl (hb hby d18_26) rfl (l' := #[oR p0, oI (6 : Int32), oI (6 : Int32), oR a1, oI (6 : Int32)]) rfl kz) ?_
  refine own_via (fun t kz => XS.goto X46.here hx rfl (pc0 := 29) (pc' := 8) rfl (hb hby d18_29) (by decide) (by decide) kz) ?_
  refine own_via (fun t kz => XS.iload X46.here hx rfl (hb hby d18_8) rfl kz) ?_
  refine own_via (fun t kz => XS.iloadN X46.here hx rfl (hb hby d18_10) rfl kz) ?_
  show own_Go p e below _ (T46.setTop (mkF m 11 #[oR p0, oI (6 : Int32), oI (6 : Int32), oR a1, oI (6 : Int32)] [(.int (6 : Int32)), (.int (6 : Int32))]))
  refine own_via (fun t kz => XS.icmpYes X46.here hx rfl (pc0 := 11) (pc' := 32) rfl (hb hby d18_11) rfl (flt (by decide : ¬ ((6 : Int32) < (6 : Int32)))).2.1 (by decide) (by decide) kz) ?_
  refine own_via (fun t kz => XS.aloadN X46.here hx rfl (hb hby d18_32) rfl rfl kz) ?_
  show own_Go p e below _ (T46.setTop (mkF m 33 #[oR p0, oI (6 : Int32), oI (6 : Int32), oR a1, oI (6 : Int32)] [(.ref a1)]))
  obtain ⟨fs, hr, hrun, hended, hW, hsame⟩ := X46.leave (v := some (.ref a1)) (fun h => by rw [Bd.returns] at h; cases h)
  refine ⟨_, _, retOut X46 hx (i := .areturn) Bd.returns rfl (Or.inr (Or.inr (Or.inr (Or.inr ⟨rfl, rfl, rfl⟩)))) (hb hby d18_33) hr, hrun, hended, _, _, rfl, ?_, ⟨_, rfl⟩, hW, hsame.mono (by decide) (by decide)⟩
  show QT6 Z p0 kc c0_ c1_ c2_ c3_ c4_ c5_ wcs wsf h0 n0 _ T46.heap _
  exact ⟨by rw [g1], N47, K51, _, by rw [← g1]; exact Vc46⟩
def fG6_0 (whi : Int32) (wlo : Int32) (b0_ : Int32) (b1_ : Int32) : Int32 := ((((b0_ &&& (255 : Int32)) <<< (whi &&& 31)) ||| ((b1_ &&& (255 : Int32)) <<< (wlo &&& 31))).toUInt32.toUInt16.toUInt32.toInt32)
theorem d22_0 : decode jdk_52_method_5_code 0 = .ok (.getstatic 44, 3) := by decide +kernel
theorem d22_3 : decode jdk_52_method_5_code 3 = .ok (.ifCond .ne 25, 3) := by decide +kernel
theorem d22_28 : decode jdk_52_method_5_code 28 = .ok (.iload_n 1, 1) := by decide +kernel
theorem d22_29 : decode jdk_52_method_5_code 29 = .ok (.iconst 1, 1) := by decide +kernel
theorem d22_30 : decode jdk_52_method_5_code 30 = .ok (.ishl, 1) := by decide +kernel
theorem d22_31 : decode jdk_52_method_5_code 31 = .ok (.istore_n 1, 1) := by decide +kernel
theorem d22_32 : decode jdk_52_method_5_code 32 = .ok (.aload_n 0, 1) := by decide +kernel
theorem d22_33 : decode jdk_52_method_5_code 33 = .ok (.iload_n 1, 1) := by decide +kernel
theorem d22_34 : decode jdk_52_method_5_code 34 = .ok (.iinc 1 1, 3) := by decide +kernel
theorem d22_37 : decode jdk_52_method_5_code 37 = .ok (.baload, 1) := by decide +kernel
theorem d22_38 : decode jdk_52_method_5_code 38 = .ok (.sipush 255, 3) := by decide +kernel
theorem d22_41 : decode jdk_52_method_5_code 41 = .ok (.iand, 1) := by decide +kernel
theorem d22_42 : decode jdk_52_method_5_code 42 = .ok (.getstatic 59, 3) := by decide +kernel
theorem d22_45 : decode jdk_52_method_5_code 45 = .ok (.ishl, 1) := by decide +kernel
theorem d22_46 : decode jdk_52_method_5_code 46 = .ok (.aload_n 0, 1) := by decide +kernel
theorem d22_47 : decode jdk_52_method_5_code 47 = .ok (.iload_n 1, 1) := by decide +kernel
theorem d22_48 : decode jdk_52_method_5_code 48 = .ok (.baload, 1) := by decide +kernel
theorem d22_49 : decode jdk_52_method_5_code 49 = .ok (.sipush 255, 3) := by decide +kernel
theorem d22_52 : decode jdk_52_method_5_code 52 = .ok (.iand, 1) := by decide +kernel
theorem d22_53 : decode jdk_52_method_5_code 53 = .ok (.getstatic 63, 3) := by decide +kernel
theorem d22_56 : decode jdk_52_method_5_code 56 = .ok (.ishl, 1) := by decide +kernel
theorem d22_57 : decode jdk_52_method_5_code 57 = .ok (.ior, 1) := by decide +kernel
theorem d22_58 : decode jdk_52_method_5_code 58 = .ok (.i2c, 1) := by decide +kernel
theorem d22_59 : decode jdk_52_method_5_code 59 = .ok (.ireturn, 1) := by decide +kernel
theorem ef_rmG6_0 (m : MethodId) (q0 : Addr) : entryFrame m #[(.ref q0), (.int (0 : Int32))] 2 = mkF m 0 #[oR q0, oI (0 : Int32)] [] := by first | (simp [entryFrame, mkF, argsToLocals, Value.category]; done) | rfl
def QG6_0 (Z : State) (p0 : Addr) (wad : Int32) (whi : Int32) (wlo : Int32) (ka : ClassId) (b0_ : Int32) (b1_ : Int32) (b2_ : Int32) (b3_ : Int32) (b4_ : Int32) (b5_ : Int32) (b6_ : Int32) (b7_ : Int32) (b8_ : Int32) (b9_ : Int32) (b10_ : Int32) (b11_ : Int32) (r : Int32) (h0 : Heap) (n0 : Nat) (v : Option Value) (h : Heap) (L : List Loc) : Prop := v = some (.int r) ∧ Fr n0 L ∧ h = h0
set_option maxRecDepth 65536 in
set_option maxHeartbeats 40000000 in
theorem rmG6_0 (l : Launch) (Z : State) (a0 : Array Value) (hw : ∀ d ∈ tables_1, d.before a0 Z = true) (ws : List Jvm.Cond) (p0 : Addr) (wad : Int32) (whi : Int32) (wlo : Int32) (ka : ClassId) (b0_ : Int32) (b1_ : Int32) (b2_ : Int32) (b3_ : Int32) (b4_ : Int32) (b5_ : Int32) (b6_ : Int32) (b7_ : Int32) (b8_ : Int32) (b9_ : Int32) (b10_ : Int32) (b11_ : Int32) (r : Int32) (h0 : Heap) (n0 : Nat) (Z0 : n0 ≤ h0.size) (hwad : wad = (1 : Int32)) (S_wad : Sta Z h0 "java/lang/StringUTF16" "$assertionsDisabled" "Z" (.int wad)) (S_whi : Sta Z h0 "java/lang/StringUTF16" "HI_BYTE_SHIFT" "I" (.int whi)) (S_wlo : Sta Z h0 "java/lang/StringUTF16" "LO_BYTE_SHIFT" "I" (.int wlo)) (V_p0 : Arv Z h0 p0 ka .byte (12 : Int32) [(.int b0_), (.int b1_), (.int b2_), (.int b3_), (.int b4_), (.int b5_), (.int b6_), (.int b7_), (.int b8_), (.int b9_), (.int b10_), (.int b11_)] (.int (0 : Int32))) (hr0 : (fG6_0 whi wlo b0_ b1_) = r) :
    MetFree l (⟨"java/lang/StringUTF16", "getChar", "([BI)C"⟩ : MethodName) (head1 (Jvm.Cond.code (⟨"java/lang/StringUTF16", "getChar", "([BI)C"⟩ : MethodName) jdk_52_method_5_code 2 (some .char) :: ws) ({ frames := 0, cells := 0, slots := 0, locals := 0 } : Room)) (fun a U => a = #[(.ref p0), (.int (0 : Int32))] ∧ Z.Warmed39 U.vm ∧ U.heap = h0) (fun _ _ _ _ _ => True) (fun _ U o U' => ∃ v L, o = .returned v ∧ QG6_0 Z p0 wad whi wlo ka b0_ b1_ b2_ b3_ b4_ b5_ b6_ b7_ b8_ b9_ b10_ b11_ r h0 n0 v U'.heap L ∧ FrameEnd U o U' L ({ frames := 0, cells := 0, slots := 0, locals := 0 } : Room).cells ({ frames := 0, cells := 0, slots := 0, locals := 0 } : Room).slots) := by
  refine MetFree.of_bodySF (plainFor_of_name pn_20) hisR ?_
  intro p e s m args below meth c s₁ Bd hml0 hP hK
  obtain ⟨rfl, hZ, hh⟩ := hP
  have hx := Bd.exec
  have hby := Bd.bytes
  have hml : c.maxLocals = 2 := hml0
  have hown : s.vm.findClass "java/lang/StringUTF16" = some m.cls := findClass_of_methodNamed Bd.named
  have hnm := (name_of_methodNamed Bd.named Bd.method).1
  have X0 : Stand p l e ({ frames := 0, cells := 0, slots := 0, locals := 0 } : Room) s m #[(.ref p0), (.int (0 : Int32))] below meth c s₁ [] 0 0 := Stand.of_body Bd
  have e0 : s₁.heap = h0 := by rw [← hh, Bd.state]; rfl
  have N0 := Fr.nil n0
  refine own_start ?_
  refine own_via (fun t k => castTop (ef_rmG6_0 m p0) k) ?_
  show own_Go p e below _ (s₁.setTop (mkF m 0 #[oR p0, oI (0 : Int32)] []))
  obtain ⟨T1, X1, e1, st1⟩ := getS2 X0 hx hZ hown (host := "") (Or.inl (own_w hw 110)) Via.refl e0 S_wad (g := (mkF m 0 #[oR p0, oI (0 : Int32)] [])) rfl (hb hby d22_0)
  refine own_via st1 ?_
  show own_Go p e below _ (T1.setTop (mkF m 3 #[oR p0, oI (0 : Int32)] [(.int wad)]))
  refine own_via (fun t kz => XS.ifYes X1.here hx rfl (pc0 := 3) (pc' := 28) rfl (hb hby d22_3) rfl ((if0 _ _).trans (feq (by rw [hwad]; decide : ¬ wad = (0 : Int32))).2) (by decide) (by decide) kz) ?_
  refine own_via (fun t kz => XS.iloadN X1.here hx rfl (hb hby d22_28) rfl kz) ?_
  refine own_via (fun t kz => XS.iconst X1.here hx rfl (hb hby d22_29) kz) ?_
  show own_Go p e below _ (T1.setTop (mkF m 30 #[oR p0, oI (0 : Int32)] [(.int (1 : Int32)), (.int (0 : Int32))]))
  refine own_via (fun t kz => XS.ishl X1.here hx rfl (hb hby d22_30) rfl kz) ?_
  refine own_via (fun t kz => XS.istoreN X1.here hx rfl (hb hby d22_31) rfl (l' := #[oR p0, oI (0 : Int32)]) rfl kz) ?_
  refine own_via (fun t kz => XS.aloadN X1.here hx rfl (hb hby d22_32) rfl rfl kz) ?_
  refine own_via (fun t kz => XS.iloadN X1.here hx rfl (hb hby d22_33) rfl kz) ?_
  show own_Go p e below _ (T1.setTop (mkF m 34 #[oR p0, oI (0 : Int32)] [(.int (0 : Int32)), (.ref p0)]))
  refine own_via (fun t kz => XS.iinc X1.here hx rfl (hb hby d22_34) rfl (l' := #[oR p0, oI (1 : Int32)]) rfl kz) ?_
  show own_Go p e below _ (T1.setTop (mkF m 37 #[oR p0, oI (1 : Int32)] [(.int (0 : Int32)), (.ref p0)]))
  obtain ⟨cl2, Ar2, kc2, Sz2, Nn2, Hs2, Gs2⟩ := id V_p0
  have in2 := inb_of (j := (0 : Int32)) Sz2 ⟨by decide, by decide⟩
  have at2 : cl2.slots[((0 : Int32)).toNatClampNeg]? = some (.int b0_) := Hs2.at in2 rfl
  refine own_via (fun t kz => X1.baloadBytes hx (j := (0 : Int32)) (v := (.int b0_)) (by rw [e1]; exact Ar2.1) (State.isArrayOf_alike hZ.alike Ar2.2.1) Ar2.2.2 in2 at2 (g := (mkF m 37 #[oR p0, oI (1 : Int32)] [(.int (0 : Int32)), (.ref p0)])) rfl rfl (hb hby d22_37) t kz) ?_
  refine own_via (fun t kz => XS.sipush X1.here hx rfl (hb hby d22_38) kz) ?_
  refine own_via (fun t kz => XS.iand X1.here hx rfl (hb hby d22_41) rfl kz) ?_
  show own_Go p e below _ (T1.setTop (mkF m 42 #[oR p0, oI (1 : Int32)] [(.int (b0_ &&& (255 : Int32)))]))
  obtain ⟨T3, X3, e3, st3⟩ := getS2 X1 hx hZ hown (host := "") (Or.inl (own_w hw 111)) Via.refl e1 S_whi (g := (mkF m 42 #[oR p0, oI (1 : Int32)] [(.int (b0_ &&& (255 : Int32)))])) rfl (hb hby d22_42)
  refine own_via st3 ?_
  show own_Go p e below _ (T3.setTop (mkF m 45 #[oR p0, oI (1 : Int32)] [(.int whi), (.int (b0_ &&& (255 : Int32)))]))
  refine own_via (fun t kz => XS.ishl X3.here hx rfl (hb hby d22_45) rfl kz) ?_
  refine own_via (fun t kz => XS.aloadN X3.here hx rfl (hb hby d22_46) rfl rfl kz) ?_
  refine own_via (fun t kz => XS.iloadN X3.here hx rfl (hb hby d22_47) rfl kz) ?_
  show own_Go p e below _ (T3.setTop (mkF m 48 #[oR p0, oI (1 : Int32)] [(.int (1 : Int32)), (.ref p0), (.int ((b0_ &&& (255 : Int32)) <<< (whi &&& 31)))]))
  obtain ⟨cl4, Ar4, kc4, Sz4, Nn4, Hs4, Gs4⟩ := id V_p0
  have in4 := inb_of (j := (1 : Int32)) Sz4 ⟨by decide, by decide⟩
  have at4 : cl4.slots[((1 : Int32)).toNatClampNeg]? = some (.int b1_) := Hs4.at in4 rfl
  refine own_via (fun t kz => X3.baloadBytes hx (j := (1 : Int32)) (v := (.int b1_)) (by rw [e3]; exact Ar4.1) (State.isArrayOf_alike hZ.alike Ar4.2.1) Ar4.2.2 in4 at4 (g := (mkF m 48 #[oR p0, oI (1 : Int32)] [(.int (1 : Int32)), (.ref p0), (.int ((b0_ &&& (255 : Int32)) <<< (whi &&& 31)))])) rfl rfl (hb hby d22_48) t kz) ?_
  refine own_via (fun t kz => XS.sipush X3.here hx rfl (hb hby d22_49) kz) ?_
  refine own_via (fun t kz => XS.iand X3.here hx rfl (hb hby d22_52) rfl kz) ?_
  show own_Go p e below _ (T3.setTop (mkF m 53 #[oR p0, oI (1 : Int32)] [(.int (b1_ &&& (255 : Int32))), (.int ((b0_ &&& (255 : Int32)) <<< (whi &&& 31)))]))
  obtain ⟨T5, X5, e5, st5⟩ := getS2 X3 hx hZ hown (host := "") (Or.inl (own_w hw 112)) Via.refl e3 S_wlo (g := (mkF m 53 #[oR p0, oI (1 : Int32)] [(.int (b1_ &&& (255 : Int32))), (.int ((b0_ &&& (255 : Int32)) <<< (whi &&& 31)))])) rfl (hb hby d22_53)
  refine own_via st5 ?_
  show own_Go p e below _ (T5.setTop (mkF m 56 #[oR p0, oI (1 : Int32)] [(.int wlo), (.int (b1_ &&& (255 : Int32))), (.int ((b0_ &&& (255 : Int32)) <<< (whi &&& 31)))]))
  refine own_via (fun t kz => XS.ishl X5.here hx rfl (hb hby d22_56) rfl kz) ?_
  show own_Go p e below _ (T5.setTop (mkF m 57 #[oR p0, oI (1 : Int32)] [(.int ((b1_ &&& (255 : Int32)) <<< (wlo &&& 31))), (.int ((b0_ &&& (255 : Int32)) <<< (whi &&& 31)))]))
  refine own_via (fun t kz => XS.ior X5.here hx rfl (hb hby d22_57) rfl kz) ?_
  show own_Go p e below _ (T5.setTop (mkF m 58 #[oR p0, oI (1 : Int32)] [(.int (((b0_ &&& (255 : Int32)) <<< (whi &&& 31)) ||| ((b1_ &&& (255 : Int32)) <<< (wlo &&& 31))))]))
  refine own_via (fun t kz => XS.i2c X5.here hx rfl (hb hby d22_58) rfl kz) ?_
  show own_Go p e below _ (T5.setTop (mkF m 59 #[oR p0, oI (1 : Int32)] [(.int ((((b0_ &&& (255 : Int32)) <<< (whi &&& 31)) ||| ((b1_ &&& (255 : Int32)) <<< (wlo &&& 31))).toUInt32.toUInt16.toUInt32.toInt32))]))
  have hv : (fG6_0 whi wlo b0_ b1_) = ((((b0_ &&& (255 : Int32)) <<< (whi &&& 31)) ||| ((b1_ &&& (255 : Int32)) <<< (wlo &&& 31))).toUInt32.toUInt16.toUInt32.toInt32) := by unfold fG6_0; rfl
  obtain ⟨fs, hr, hrun, hended, hW, hsame⟩ := X5.leave (v := some (.int ((((b0_ &&& (255 : Int32)) <<< (whi &&& 31)) ||| ((b1_ &&& (255 : Int32)) <<< (wlo &&& 31))).toUInt32.toUInt16.toUInt32.toInt32))) (fun h => by rw [Bd.returns] at h; cases h)
  refine ⟨_, _, retOut X5 hx (i := .ireturn) Bd.returns (narrow_c _) (Or.inl ⟨rfl, by simp, _, rfl⟩) (hb hby d22_59) hr, hrun, hended, _, _, rfl, ?_, ⟨_, rfl⟩, hW, hsame.mono (by decide) (by decide)⟩
  show QG6_0 Z p0 wad whi wlo ka b0_ b1_ b2_ b3_ b4_ b5_ b6_ b7_ b8_ b9_ b10_ b11_ r h0 n0 _ T5.heap _
  rw [e5]
  exact ⟨by rw [← hr0, hv], N0, rfl⟩
def fG6_1 (whi : Int32) (wlo : Int32) (b2_ : Int32) (b3_ : Int32) : Int32 := ((((b2_ &&& (255 : Int32)) <<< (whi &&& 31)) ||| ((b3_ &&& (255 : Int32)) <<< (wlo &&& 31))).toUInt32.toUInt16.toUInt32.toInt32)
theorem ef_rmG6_1 (m : MethodId) (q0 : Addr) : entryFrame m #[(.ref q0), (.int (1 : Int32))] 2 = mkF m 0 #[oR q0, oI (1 : Int32)] [] := by first | (simp [entryFrame, mkF, argsToLocals, Value.category]; done) | rfl
def QG6_1 (Z : State) (p0 : Addr) (wad : Int32) (whi : Int32) (wlo : Int32) (ka : ClassId) (b0_ : Int32) (b1_ : Int32) (b2_ : Int32) (b3_ : Int32) (b4_ : Int32) (b5_ : Int32) (b6_ : Int32) (b7_ : Int32) (b8_ : Int32) (b9_ : Int32) (b10_ : Int32) (b11_ : Int32) (r : Int32) (h0 : Heap) (n0 : Nat) (v : Option Value) (h : Heap) (L : List Loc) : Prop := v = some (.int r) ∧ Fr n0 L ∧ h = h0
set_option maxRecDepth 65536 in
set_option maxHeartbeats 40000000 in
theorem rmG6_1 (l : Launch) (Z : State) (a0 : Array Value) (hw : ∀ d ∈ tables_1, d.before a0 Z = true) (ws : List Jvm.Cond) (p0 : Addr) (wad : Int32) (whi : Int32) (wlo : Int32) (ka : ClassId) (b0_ : Int32) (b1_ : Int32) (b2_ : Int32) (b3_ : Int32) (b4_ : Int32) (b5_ : Int32) (b6_ : Int32) (b7_ : Int32) (b8_ : Int32) (b9_ : Int32) (b10_ : Int32) (b11_ : Int32) (r : Int32) (h0 : Heap) (n0 : Nat) (Z0 : n0 ≤ h0.size) (hwad : wad = (1 : Int32)) (S_wad : Sta Z h0 "java/lang/StringUTF16" "$assertionsDisabled" "Z" (.int wad)) (S_whi : Sta Z h0 "java/lang/StringUTF16" "HI_BYTE_SHIFT" "I" (.int whi)) (S_wlo : Sta Z h0 "java/lang/StringUTF16" "LO_BYTE_SHIFT" "I" (.int wlo)) (V_p0 : Arv Z h0 p0 ka .byte (12 : Int32) [(.int b0_), (.int b1_), (.int b2_), (.int b3_), (.int b4_), (.int b5_), (.int b6_), (.int b7_), (.int b8_), (.int b9_), (.int b10_), (.int b11_)] (.int (0 : Int32))) (hr0 : (fG6_1 whi wlo b2_ b3_) = r) :
    MetFree l (⟨"java/lang/StringUTF16", "getChar", "([BI)C"⟩ : MethodName) (head1 (Jvm.Cond.code (⟨"java/lang/StringUTF16", "getChar", "([BI)C"⟩ : MethodName) jdk_52_method_5_code 2 (some .char) :: ws) ({ frames := 0, cells := 0, slots := 0, locals := 0 } : Room)) (fun a U => a = #[(.ref p0), (.int (1 : Int32))] ∧ Z.Warmed39 U.vm ∧ U.heap = h0) (fun _ _ _ _ _ => True) (fun _ U o U' => ∃ v L, o = .returned v ∧ QG6_1 Z p0 wad whi wlo ka b0_ b1_ b2_ b3_ b4_ b5_ b6_ b7_ b8_ b9_ b10_ b11_ r h0 n0 v U'.heap L ∧ FrameEnd U o U' L ({ frames := 0, cells := 0, slots := 0, locals := 0 } : Room).cells ({ frames := 0, cells := 0, slots := 0, locals := 0 } : Room).slots) := by
  refine MetFree.of_bodySF (plainFor_of_name pn_20) hisR ?_
  intro p e s m args below meth c s₁ Bd hml0 hP hK
  obtain ⟨rfl, hZ, hh⟩ := hP
  have hx := Bd.exec
  have hby := Bd.bytes
  have hml : c.maxLocals = 2 := hml0
  have hown : s.vm.findClass "java/lang/StringUTF16" = some m.cls := findClass_of_methodNamed Bd.named
  have hnm := (name_of_methodNamed Bd.named Bd.method).1
  have X0 : Stand p l e ({ frames := 0, cells := 0, slots := 0, locals := 0 } : Room) s m #[(.ref p0), (.int (1 : Int32))] below meth c s₁ [] 0 0 := Stand.of_body Bd
  have e0 : s₁.heap = h0 := by rw [← hh, Bd.state]; rfl
  have N0 := Fr.nil n0
  refine own_start ?_
  refine own_via (fun t k => castTop (ef_rmG6_1 m p0) k) ?_
  show own_Go p e below _ (s₁.setTop (mkF m 0 #[oR p0, oI (1 : Int32)] []))
  obtain ⟨T1, X1, e1, st1⟩ := getS2 X0 hx hZ hown (host := "") (Or.inl (own_w hw 110)) Via.refl e0 S_wad (g := (mkF m 0 #[oR p0, oI (1 : Int32)] [])) rfl (hb hby d22_0)
  refine own_via st1 ?_
  show own_Go p e below _ (T1.setTop (mkF m 3 #[oR p0, oI (1 : Int32)] [(.int wad)]))
  refine own_via (fun t kz => XS.ifYes X1.here hx rfl (pc0 := 3) (pc' := 28) rfl (hb hby d22_3) rfl ((if0 _ _).trans (feq (by rw [hwad]; decide : ¬ wad = (0 : Int32))).2) (by decide) (by decide) kz) ?_
  refine own_via (fun t kz => XS.iloadN X1.here hx rfl (hb hby d22_28) rfl kz) ?_
  refine own_via (fun t kz => XS.iconst X1.here hx rfl (hb hby d22_29) kz) ?_
  show own_Go p e below _ (T1.setTop (mkF m 30 #[oR p0, oI (1 : Int32)] [(.int (1 : Int32)), (.int (1 : Int32))]))
  refine own_via (fun t kz => XS.ishl X1.here hx rfl (hb hby d22_30) rfl kz) ?_
  refine own_via (fun t kz => XS.istoreN X1.here hx rfl (hb hby d22_31) rfl (l' := #[oR p0, oI (2 : Int32)]) rfl kz) ?_
  refine own_via (fun t kz => XS.aloadN X1.here hx rfl (hb hby d22_32) rfl rfl kz) ?_
  refine own_via (fun t kz => XS.iloadN X1.here hx rfl (hb hby d22_33) rfl kz) ?_
  show own_Go p e below _ (T1.setTop (mkF m 34 #[oR p0, oI (2 : Int32)] [(.int (2 : Int32)), (.ref p0)]))
  refine own_via (fun t kz => XS.iinc X1.here hx rfl (hb hby d22_34) rfl (l' := #[oR p0, oI (3 : Int32)]) rfl kz) ?_
  show own_Go p e below _ (T1.setTop (mkF m 37 #[oR p0, oI (3 : Int32)] [(.int (2 : Int32)), (.ref p0)]))
  obtain ⟨cl2, Ar2, kc2, Sz2, Nn2, Hs2, Gs2⟩ := id V_p0
  have in2 := inb_of (j := (2 : Int32)) Sz2 ⟨by decide, by decide⟩
  have at2 : cl2.slots[((2 : Int32)).toNatClampNeg]? = some (.int b2_) := Hs2.at in2 rfl
  refine own_via (fun t kz => X1.baloadBytes hx (j := (2 : Int32)) (v := (.int b2_)) (by rw [e1]; exact Ar2.1) (State.isArrayOf_alike hZ.alike Ar2.2.1) Ar2.2.2 in2 at2 (g := (mkF m 37 #[oR p0, oI (3 : Int32)] [(.int (2 : Int32)), (.ref p0)])) rfl rfl (hb hby d22_37) t kz) ?_
  refine own_via (fun t kz => XS.sipush X1.here hx rfl (hb hby d22_38) kz) ?_
  refine own_via (fun t kz => XS.iand X1.here hx rfl (hb hby d22_41) rfl kz) ?_
  show own_Go p e below _ (T1.setTop (mkF m 42 #[oR p0, oI (3 : Int32)] [(.int (b2_ &&& (255 : Int32)))]))
  obtain ⟨T3, X3, e3, st3⟩ := getS2 X1 hx hZ hown (host := "") (Or.inl (own_w hw 111)) Via.refl e1 S_whi (g := (mkF m 42 #[oR p0, oI (3 : Int32)] [(.int (b2_ &&& (255 : Int32)))])) rfl (hb hby d22_42)
  refine own_via st3 ?_
  show own_Go p e below _ (T3.setTop (mkF m 45 #[oR p0, oI (3 : Int32)] [(.int whi), (.int (b2_ &&& (255 : Int32)))]))
  refine own_via (fun t kz => XS.ishl X3.here hx rfl (hb hby d22_45) rfl kz) ?_
  refine own_via (fun t kz => XS.aloadN X3.here hx rfl (hb hby d22_46) rfl rfl kz) ?_
  refine own_via (fun t kz => XS.iloadN X3.here hx rfl (hb hby d22_47) rfl kz) ?_
  show own_Go p e below _ (T3.setTop (mkF m 48 #[oR p0, oI (3 : Int32)] [(.int (3 : Int32)), (.ref p0), (.int ((b2_ &&& (255 : Int32)) <<< (whi &&& 31)))]))
  obtain ⟨cl4, Ar4, kc4, Sz4, Nn4, Hs4, Gs4⟩ := id V_p0
  have in4 := inb_of (j := (3 : Int32)) Sz4 ⟨by decide, by decide⟩
  have at4 : cl4.slots[((3 : Int32)).toNatClampNeg]? = some (.int b3_) := Hs4.at in4 rfl
  refine own_via (fun t kz => X3.baloadBytes hx (j := (3 : Int32)) (v := (.int b3_)) (by rw [e3]; exact Ar4.1) (State.isArrayOf_alike hZ.alike Ar4.2.1) Ar4.2.2 in4 at4 (g := (mkF m 48 #[oR p0, oI (3 : Int32)] [(.int (3 : Int32)), (.ref p0), (.int ((b2_ &&& (255 : Int32)) <<< (whi &&& 31)))])) rfl rfl (hb hby d22_48) t kz) ?_
  refine own_via (fun t kz => XS.sipush X3.here hx rfl (hb hby d22_49) kz) ?_
  refine own_via (fun t kz => XS.iand X3.here hx rfl (hb hby d22_52) rfl kz) ?_
  show own_Go p e below _ (T3.setTop (mkF m 53 #[oR p0, oI (3 : Int32)] [(.int (b3_ &&& (255 : Int32))), (.int ((b2_ &&& (255 : Int32)) <<< (whi &&& 31)))]))
  obtain ⟨T5, X5, e5, st5⟩ := getS2 X3 hx hZ hown (host := "") (Or.inl (own_w hw 112)) Via.refl e3 S_wlo (g := (mkF m 53 #[oR p0, oI (3 : Int32)] [(.int (b3_ &&& (255 : Int32))), (.int ((b2_ &&& (255 : Int32)) <<< (whi &&& 31)))])) rfl (hb hby d22_53)
  refine own_via st5 ?_
  show own_Go p e below _ (T5.setTop (mkF m 56 #[oR p0, oI (3 : Int32)] [(.int wlo), (.int (b3_ &&& (255 : Int32))), (.int ((b2_ &&& (255 : Int32)) <<< (whi &&& 31)))]))
  refine own_via (fun t kz => XS.ishl X5.here hx rfl (hb hby d22_56) rfl kz) ?_
  show own_Go p e below _ (T5.setTop (mkF m 57 #[oR p0, oI (3 : Int32)] [(.int ((b3_ &&& (255 : Int32)) <<< (wlo &&& 31))), (.int ((b2_ &&& (255 : Int32)) <<< (whi &&& 31)))]))
  refine own_via (fun t kz => XS.ior X5.here hx rfl (hb hby d22_57) rfl kz) ?_
  show own_Go p e below _ (T5.setTop (mkF m 58 #[oR p0, oI (3 : Int32)] [(.int (((b2_ &&& (255 : Int32)) <<< (whi &&& 31)) ||| ((b3_ &&& (255 : Int32)) <<< (wlo &&& 31))))]))
  refine own_via (fun t kz => XS.i2c X5.here hx rfl (hb hby d22_58) rfl kz) ?_
  show own_Go p e below _ (T5.setTop (mkF m 59 #[oR p0, oI (3 : Int32)] [(.int ((((b2_ &&& (255 : Int32)) <<< (whi &&& 31)) ||| ((b3_ &&& (255 : Int32)) <<< (wlo &&& 31))).toUInt32.toUInt16.toUInt32.toInt32))]))
  have hv : (fG6_1 whi wlo b2_ b3_) = ((((b2_ &&& (255 : Int32)) <<< (whi &&& 31)) ||| ((b3_ &&& (255 : Int32)) <<< (wlo &&& 31))).toUInt32.toUInt16.toUInt32.toInt32) := by unfold fG6_1; rfl
  obtain ⟨fs, hr, hrun, hended, hW, hsame⟩ := X5.leave (v := some (.int ((((b2_ &&& (255 : Int32)) <<< (whi &&& 31)) ||| ((b3_ &&& (255 : Int32)) <<< (wlo &&& 31))).toUInt32.toUInt16.toUInt32.toInt32))) (fun h => by rw [Bd.returns] at h; cases h)
  refine ⟨_, _, retOut X5 hx (i := .ireturn) Bd.returns (narrow_c _) (Or.inl ⟨rfl, by simp, _, rfl⟩) (hb hby d22_59) hr, hrun, hended, _, _, rfl, ?_, ⟨_, rfl⟩, hW, hsame.mono (by decide) (by decide)⟩
  show QG6_1 Z p0 wad whi wlo ka b0_ b1_ b2_ b3_ b4_ b5_ b6_ b7_ b8_ b9_ b10_ b11_ r h0 n0 _ T5.heap _
  rw [e5]
  exact ⟨by rw [← hr0, hv], N0, rfl⟩
def fG6_2 (whi : Int32) (wlo : Int32) (b4_ : Int32) (b5_ : Int32) : Int32 := ((((b4_ &&& (255 : Int32)) <<< (whi &&& 31)) ||| ((b5_ &&& (255 : Int32)) <<< (wlo &&& 31))).toUInt32.toUInt16.toUInt32.toInt32)
theorem ef_rmG6_2 (m : MethodId) (q0 : Addr) : entryFrame m #[(.ref q0), (.int (2 : Int32))] 2 = mkF m 0 #[oR q0, oI (2 : Int32)] [] := by first | (simp [entryFrame, mkF, argsToLocals, Value.category]; done) | rfl
def QG6_2 (Z : State) (p0 : Addr) (wad : Int32) (whi : Int32) (wlo : Int32) (ka : ClassId) (b0_ : Int32) (b1_ : Int32) (b2_ : Int32) (b3_ : Int32) (b4_ : Int32) (b5_ : Int32) (b6_ : Int32) (b7_ : Int32) (b8_ : Int32) (b9_ : Int32) (b10_ : Int32) (b11_ : Int32) (r : Int32) (h0 : Heap) (n0 : Nat) (v : Option Value) (h : Heap) (L : List Loc) : Prop := v = some (.int r) ∧ Fr n0 L ∧ h = h0
set_option maxRecDepth 65536 in
set_option maxHeartbeats 40000000 in
theorem rmG6_2 (l : Launch) (Z : State) (a0 : Array Value) (hw : ∀ d ∈ tables_1, d.before a0 Z = true) (ws : List Jvm.Cond) (p0 : Addr) (wad : Int32) (whi : Int32) (wlo : Int32) (ka : ClassId) (b0_ : Int32) (b1_ : Int32) (b2_ : Int32) (b3_ : Int32) (b4_ : Int32) (b5_ : Int32) (b6_ : Int32) (b7_ : Int32) (b8_ : Int32) (b9_ : Int32) (b10_ : Int32) (b11_ : Int32) (r : Int32) (h0 : Heap) (n0 : Nat) (Z0 : n0 ≤ h0.size) (hwad : wad = (1 : Int32)) (S_wad : Sta Z h0 "java/lang/StringUTF16" "$assertionsDisabled" "Z" (.int wad)) (S_whi : Sta Z h0 "java/lang/StringUTF16" "HI_BYTE_SHIFT" "I" (.int whi)) (S_wlo : Sta Z h0 "java/lang/StringUTF16" "LO_BYTE_SHIFT" "I" (.int wlo)) (V_p0 : Arv Z h0 p0 ka .byte (12 : Int32) [(.int b0_), (.int b1_), (.int b2_), (.int b3_), (.int b4_), (.int b5_), (.int b6_), (.int b7_), (.int b8_), (.int b9_), (.int b10_), (.int b11_)] (.int (0 : Int32))) (hr0 : (fG6_2 whi wlo b4_ b5_) = r) :
    MetFree l (⟨"java/lang/StringUTF16", "getChar", "([BI)C"⟩ : MethodName) (head1 (Jvm.Cond.code (⟨"java/lang/StringUTF16", "getChar", "([BI)C"⟩ : MethodName) jdk_52_method_5_code 2 (some .char) :: ws) ({ frames := 0, cells := 0, slots := 0, locals := 0 } : Room)) (fun a U => a = #[(.ref p0), (.int (2 : Int32))] ∧ Z.Warmed39 U.vm ∧ U.heap = h0) (fun _ _ _ _ _ => True) (fun _ U o U' => ∃ v L, o = .returned v ∧ QG6_2 Z p0 wad whi wlo ka b0_ b1_ b2_ b3_ b4_ b5_ b6_ b7_ b8_ b9_ b10_ b11_ r h0 n0 v U'.heap L ∧ FrameEnd U o U' L ({ frames := 0, cells := 0, slots := 0, locals := 0 } : Room).cells ({ frames := 0, cells := 0, slots := 0, locals := 0 } : Room).slots) := by
  refine MetFree.of_bodySF (plainFor_of_name pn_20) hisR ?_
  intro p e s m args below meth c s₁ Bd hml0 hP hK
  obtain ⟨rfl, hZ, hh⟩ := hP
  have hx := Bd.exec
  have hby := Bd.bytes
  have hml : c.maxLocals = 2 := hml0
  have hown : s.vm.findClass "java/lang/StringUTF16" = some m.cls := findClass_of_methodNamed Bd.named
  have hnm := (name_of_methodNamed Bd.named Bd.method).1
  have X0 : Stand p l e ({ frames := 0, cells := 0, slots := 0, locals := 0 } : Room) s m #[(.ref p0), (.int (2 : Int32))] below meth c s₁ [] 0 0 := Stand.of_body Bd
  have e0 : s₁.heap = h0 := by rw [← hh, Bd.state]; rfl
  have N0 := Fr.nil n0
  refine own_start ?_
  refine own_via (fun t k => castTop (ef_rmG6_2 m p0) k) ?_
  show own_Go p e below _ (s₁.setTop (mkF m 0 #[oR p0, oI (2 : Int32)] []))
  obtain ⟨T1, X1, e1, st1⟩ := getS2 X0 hx hZ hown (host := "") (Or.inl (own_w hw 110)) Via.refl e0 S_wad (g := (mkF m 0 #[oR p0, oI (2 : Int32)] [])) rfl (hb hby d22_0)
  refine own_via st1 ?_
  show own_Go p e below _ (T1.setTop (mkF m 3 #[oR p0, oI (2 : Int32)] [(.int wad)]))
  refine own_via (fun t kz => XS.ifYes X1.here hx rfl (pc0 := 3) (pc' := 28) rfl (hb hby d22_3) rfl ((if0 _ _).trans (feq (by rw [hwad]; decide : ¬ wad = (0 : Int32))).2) (by decide) (by decide) kz) ?_
  refine own_via (fun t kz => XS.iloadN X1.here hx rfl (hb hby d22_28) rfl kz) ?_
  refine own_via (fun t kz => XS.iconst X1.here hx rfl (hb hby d22_29) kz) ?_
  show own_Go p e below _ (T1.setTop (mkF m 30 #[oR p0, oI (2 : Int32)] [(.int (1 : Int32)), (.int (2 : Int32))]))
  refine own_via (fun t kz => XS.ishl X1.here hx rfl (hb hby d22_30) rfl kz) ?_
  refine own_via (fun t kz => XS.istoreN X1.here hx rfl (hb hby d22_31) rfl (l' := #[oR p0, oI (4 : Int32)]) rfl kz) ?_
  refine own_via (fun t kz => XS.aloadN X1.here hx rfl (hb hby d22_32) rfl rfl kz) ?_
  refine own_via (fun t kz => XS.iloadN X1.here hx rfl (hb hby d22_33) rfl kz) ?_
  show own_Go p e below _ (T1.setTop (mkF m 34 #[oR p0, oI (4 : Int32)] [(.int (4 : Int32)), (.ref p0)]))
  refine own_via (fun t kz => XS.iinc X1.here hx rfl (hb hby d22_34) rfl (l' := #[oR p0, oI (5 : Int32)]) rfl kz) ?_
  show own_Go p e below _ (T1.setTop (mkF m 37 #[oR p0, oI (5 : Int32)] [(.int (4 : Int32)), (.ref p0)]))
  obtain ⟨cl2, Ar2, kc2, Sz2, Nn2, Hs2, Gs2⟩ := id V_p0
  have in2 := inb_of (j := (4 : Int32)) Sz2 ⟨by decide, by decide⟩
  have at2 : cl2.slots[((4 : Int32)).toNatClampNeg]? = some (.int b4_) := Hs2.at in2 rfl
  refine own_via (fun t kz => X1.baloadBytes hx (j := (4 : Int32)) (v := (.int b4_)) (by rw [e1]; exact Ar2.1) (State.isArrayOf_alike hZ.alike Ar2.2.1) Ar2.2.2 in2 at2 (g := (mkF m 37 #[oR p0, oI (5 : Int32)] [(.int (4 : Int32)), (.ref p0)])) rfl rfl (hb hby d22_37) t kz) ?_
  refine own_via (fun t kz => XS.sipush X1.here hx rfl (hb hby d22_38) kz) ?_
  refine own_via (fun t kz => XS.iand X1.here hx rfl (hb hby d22_41) rfl kz) ?_
  show own_Go p e below _ (T1.setTop (mkF m 42 #[oR p0, oI (5 : Int32)] [(.int (b4_ &&& (255 : Int32)))]))
  obtain ⟨T3, X3, e3, st3⟩ := getS2 X1 hx hZ hown (host := "") (Or.inl (own_w hw 111)) Via.refl e1 S_whi (g := (mkF m 42 #[oR p0, oI (5 : Int32)] [(.int (b4_ &&& (255 : Int32)))])) rfl (hb hby d22_42)
  refine own_via st3 ?_
  show own_Go p e below _ (T3.setTop (mkF m 45 #[oR p0, oI (5 : Int32)] [(.int whi), (.int (b4_ &&& (255 : Int32)))]))
  refine own_via (fun t kz => XS.ishl X3.here hx rfl (hb hby d22_45) rfl kz) ?_
  refine own_via (fun t kz => XS.aloadN X3.here hx rfl (hb hby d22_46) rfl rfl kz) ?_
  refine own_via (fun t kz => XS.iloadN X3.here hx rfl (hb hby d22_47) rfl kz) ?_
  show own_Go p e below _ (T3.setTop (mkF m 48 #[oR p0, oI (5 : Int32)] [(.int (5 : Int32)), (.ref p0), (.int ((b4_ &&& (255 : Int32)) <<< (whi &&& 31)))]))
  obtain ⟨cl4, Ar4, kc4, Sz4, Nn4, Hs4, Gs4⟩ := id V_p0
  have in4 := inb_of (j := (5 : Int32)) Sz4 ⟨by decide, by decide⟩
  have at4 : cl4.slots[((5 : Int32)).toNatClampNeg]? = some (.int b5_) := Hs4.at in4 rfl
  refine own_via (fun t kz => X3.baloadBytes hx (j := (5 : Int32)) (v := (.int b5_)) (by rw [e3]; exact Ar4.1) (State.isArrayOf_alike hZ.alike Ar4.2.1) Ar4.2.2 in4 at4 (g := (mkF m 48 #[oR p0, oI (5 : Int32)] [(.int (5 : Int32)), (.ref p0), (.int ((b4_ &&& (255 : Int32)) <<< (whi &&& 31)))])) rfl rfl (hb hby d22_48) t kz) ?_
  refine own_via (fun t kz => XS.sipush X3.here hx rfl (hb hby d22_49) kz) ?_
  refine own_via (fun t kz => XS.iand X3.here hx rfl (hb hby d22_52) rfl kz) ?_
  show own_Go p e below _ (T3.setTop (mkF m 53 #[oR p0, oI (5 : Int32)] [(.int (b5_ &&& (255 : Int32))), (.int ((b4_ &&& (255 : Int32)) <<< (whi &&& 31)))]))
  obtain ⟨T5, X5, e5, st5⟩ := getS2 X3 hx hZ hown (host := "") (Or.inl (own_w hw 112)) Via.refl e3 S_wlo (g := (mkF m 53 #[oR p0, oI (5 : Int32)] [(.int (b5_ &&& (255 : Int32))), (.int ((b4_ &&& (255 : Int32)) <<< (whi &&& 31)))])) rfl (hb hby d22_53)
  refine own_via st5 ?_
  show own_Go p e below _ (T5.setTop (mkF m 56 #[oR p0, oI (5 : Int32)] [(.int wlo), (.int (b5_ &&& (255 : Int32))), (.int ((b4_ &&& (255 : Int32)) <<< (whi &&& 31)))]))
  refine own_via (fun t kz => XS.ishl X5.here hx rfl (hb hby d22_56) rfl kz) ?_
  show own_Go p e below _ (T5.setTop (mkF m 57 #[oR p0, oI (5 : Int32)] [(.int ((b5_ &&& (255 : Int32)) <<< (wlo &&& 31))), (.int ((b4_ &&& (255 : Int32)) <<< (whi &&& 31)))]))
  refine own_via (fun t kz => XS.ior X5.here hx rfl (hb hby d22_57) rfl kz) ?_
  show own_Go p e below _ (T5.setTop (mkF m 58 #[oR p0, oI (5 : Int32)] [(.int (((b4_ &&& (255 : Int32)) <<< (whi &&& 31)) ||| ((b5_ &&& (255 : Int32)) <<< (wlo &&& 31))))]))
  refine own_via (fun t kz => XS.i2c X5.here hx rfl (hb hby d22_58) rfl kz) ?_
  show own_Go p e below _ (T5.setTop (mkF m 59 #[oR p0, oI (5 : Int32)] [(.int ((((b4_ &&& (255 : Int32)) <<< (whi &&& 31)) ||| ((b5_ &&& (255 : Int32)) <<< (wlo &&& 31))).toUInt32.toUInt16.toUInt32.toInt32))]))
  have hv : (fG6_2 whi wlo b4_ b5_) = ((((b4_ &&& (255 : Int32)) <<< (whi &&& 31)) ||| ((b5_ &&& (255 : Int32)) <<< (wlo &&& 31))).toUInt32.toUInt16.toUInt32.toInt32) := by unfold fG6_2; rfl
  obtain ⟨fs, hr, hrun, hended, hW, hsame⟩ := X5.leave (v := some (.int ((((b4_ &&& (255 : Int32)) <<< (whi &&& 31)) ||| ((b5_ &&& (255 : Int32)) <<< (wlo &&& 31))).toUInt32.toUInt16.toUInt32.toInt32))) (fun h => by rw [Bd.returns] at h; cases h)
  refine ⟨_, _, retOut X5 hx (i := .ireturn) Bd.returns (narrow_c _) (Or.inl ⟨rfl, by simp, _, rfl⟩) (hb hby d22_59) hr, hrun, hended, _, _, rfl, ?_, ⟨_, rfl⟩, hW, hsame.mono (by decide) (by decide)⟩
  show QG6_2 Z p0 wad whi wlo ka b0_ b1_ b2_ b3_ b4_ b5_ b6_ b7_ b8_ b9_ b10_ b11_ r h0 n0 _ T5.heap _
  rw [e5]
  exact ⟨by rw [← hr0, hv], N0, rfl⟩
def fG6_3 (whi : Int32) (wlo : Int32) (b6_ : Int32) (b7_ : Int32) : Int32 := ((((b6_ &&& (255 : Int32)) <<< (whi &&& 31)) ||| ((b7_ &&& (255 : Int32)) <<< (wlo &&& 31))).toUInt32.toUInt16.toUInt32.toInt32)
theorem ef_rmG6_3 (m : MethodId) (q0 : Addr) : entryFrame m #[(.ref q0), (.int (3 : Int32))] 2 = mkF m 0 #[oR q0, oI (3 : Int32)] [] := by first | (simp [entryFrame, mkF, argsToLocals, Value.category]; done) | rfl
def QG6_3 (Z : State) (p0 : Addr) (wad : Int32) (whi : Int32) (wlo : Int32) (ka : ClassId) (b0_ : Int32) (b1_ : Int32) (b2_ : Int32) (b3_ : Int32) (b4_ : Int32) (b5_ : Int32) (b6_ : Int32) (b7_ : Int32) (b8_ : Int32) (b9_ : Int32) (b10_ : Int32) (b11_ : Int32) (r : Int32) (h0 : Heap) (n0 : Nat) (v : Option Value) (h : Heap) (L : List Loc) : Prop := v = some (.int r) ∧ Fr n0 L ∧ h = h0
set_option maxRecDepth 65536 in
set_option maxHeartbeats 40000000 in
theorem rmG6_3 (l : Launch) (Z : State) (a0 : Array Value) (hw : ∀ d ∈ tables_1, d.before a0 Z = true) (ws : List Jvm.Cond) (p0 : Addr) (wad : Int32) (whi : Int32) (wlo : Int32) (ka : ClassId) (b0_ : Int32) (b1_ : Int32) (b2_ : Int32) (b3_ : Int32) (b4_ : Int32) (b5_ : Int32) (b6_ : Int32) (b7_ : Int32) (b8_ : Int32) (b9_ : Int32) (b10_ : Int32) (b11_ : Int32) (r : Int32) (h0 : Heap) (n0 : Nat) (Z0 : n0 ≤ h0.size) (hwad : wad = (1 : Int32)) (S_wad : Sta Z h0 "java/lang/StringUTF16" "$assertionsDisabled" "Z" (.int wad)) (S_whi : Sta Z h0 "java/lang/StringUTF16" "HI_BYTE_SHIFT" "I" (.int whi)) (S_wlo : Sta Z h0 "java/lang/StringUTF16" "LO_BYTE_SHIFT" "I" (.int wlo)) (V_p0 : Arv Z h0 p0 ka .byte (12 : Int32) [(.int b0_), (.int b1_), (.int b2_), (.int b3_), (.int b4_), (.int b5_), (.int b6_), (.int b7_), (.int b8_), (.int b9_), (.int b10_), (.int b11_)] (.int (0 : Int32))) (hr0 : (fG6_3 whi wlo b6_ b7_) = r) :
    MetFree l (⟨"java/lang/StringUTF16", "getChar", "([BI)C"⟩ : MethodName) (head1 (Jvm.Cond.code (⟨"java/lang/StringUTF16", "getChar", "([BI)C"⟩ : MethodName) jdk_52_method_5_code 2 (some .char) :: ws) ({ frames := 0, cells := 0, slots := 0, locals := 0 } : Room)) (fun a U => a = #[(.ref p0), (.int (3 : Int32))] ∧ Z.Warmed39 U.vm ∧ U.heap = h0) (fun _ _ _ _ _ => True) (fun _ U o U' => ∃ v L, o = .returned v ∧ QG6_3 Z p0 wad whi wlo ka b0_ b1_ b2_ b3_ b4_ b5_ b6_ b7_ b8_ b9_ b10_ b11_ r h0 n0 v U'.heap L ∧ FrameEnd U o U' L ({ frames := 0, cells := 0, slots := 0, locals := 0 } : Room).cells ({ frames := 0, cells := 0, slots := 0, locals := 0 } : Room).slots) := by
  refine MetFree.of_bodySF (plainFor_of_name pn_20) hisR ?_
  intro p e s m args below meth c s₁ Bd hml0 hP hK
  obtain ⟨rfl, hZ, hh⟩ := hP
  have hx := Bd.exec
  have hby := Bd.bytes
  have hml : c.maxLocals = 2 := hml0
  have hown : s.vm.findClass "java/lang/StringUTF16" = some m.cls := findClass_of_methodNamed Bd.named
  have hnm := (name_of_methodNamed Bd.named Bd.method).1
  have X0 : Stand p l e ({ frames := 0, cells := 0, slots := 0, locals := 0 } : Room) s m #[(.ref p0), (.int (3 : Int32))] below meth c s₁ [] 0 0 := Stand.of_body Bd
  have e0 : s₁.heap = h0 := by rw [← hh, Bd.state]; rfl
  have N0 := Fr.nil n0
  refine own_start ?_
  refine own_via (fun t k => castTop (ef_rmG6_3 m p0) k) ?_
  show own_Go p e below _ (s₁.setTop (mkF m 0 #[oR p0, oI (3 : Int32)] []))
  obtain ⟨T1, X1, e1, st1⟩ := getS2 X0 hx hZ hown (host := "") (Or.inl (own_w hw 110)) Via.refl e0 S_wad (g := (mkF m 0 #[oR p0, oI (3 : Int32)] [])) rfl (hb hby d22_0)
  refine own_via st1 ?_
  show own_Go p e below _ (T1.setTop (mkF m 3 #[oR p0, oI (3 : Int32)] [(.int wad)]))
  refine own_via (fun t kz => XS.ifYes X1.here hx rfl (pc0 := 3) (pc' := 28) rfl (hb hby d22_3) rfl ((if0 _ _).trans (feq (by rw [hwad]; decide : ¬ wad = (0 : Int32))).2) (by decide) (by decide) kz) ?_
  refine own_via (fun t kz => XS.iloadN X1.here hx rfl (hb hby d22_28) rfl kz) ?_
  refine own_via (fun t kz => XS.iconst X1.here hx rfl (hb hby d22_29) kz) ?_
  show own_Go p e below _ (T1.setTop (mkF m 30 #[oR p0, oI (3 : Int32)] [(.int (1 : Int32)), (.int (3 : Int32))]))
  refine own_via (fun t kz => XS.ishl X1.here hx rfl (hb hby d22_30) rfl kz) ?_
  refine own_via (fun t kz => XS.istoreN X1.here hx rfl (hb hby d22_31) rfl (l' := #[oR p0, oI (6 : Int32)]) rfl kz) ?_
  refine own_via (fun t kz => XS.aloadN X1.here hx rfl (hb hby d22_32) rfl rfl kz) ?_
  refine own_via (fun t kz => XS.iloadN X1.here hx rfl (hb hby d22_33) rfl kz) ?_
  show own_Go p e below _ (T1.setTop (mkF m 34 #[oR p0, oI (6 : Int32)] [(.int (6 : Int32)), (.ref p0)]))
  refine own_via (fun t kz => XS.iinc X1.here hx rfl (hb hby d22_34) rfl (l' := #[oR p0, oI (7 : Int32)]) rfl kz) ?_
  show own_Go p e below _ (T1.setTop (mkF m 37 #[oR p0, oI (7 : Int32)] [(.int (6 : Int32)), (.ref p0)]))
  obtain ⟨cl2, Ar2, kc2, Sz2, Nn2, Hs2, Gs2⟩ := id V_p0
  have in2 := inb_of (j := (6 : Int32)) Sz2 ⟨by decide, by decide⟩
  have at2 : cl2.slots[((6 : Int32)).toNatClampNeg]? = some (.int b6_) := Hs2.at in2 rfl
  refine own_via (fun t kz => X1.baloadBytes hx (j := (6 : Int32)) (v := (.int b6_)) (by rw [e1]; exact Ar2.1) (State.isArrayOf_alike hZ.alike Ar2.2.1) Ar2.2.2 in2 at2 (g := (mkF m 37 #[oR p0, oI (7 : Int32)] [(.int (6 : Int32)), (.ref p0)])) rfl rfl (hb hby d22_37) t kz) ?_
  refine own_via (fun t kz => XS.sipush X1.here hx rfl (hb hby d22_38) kz) ?_
  refine own_via (fun t kz => XS.iand X1.here hx rfl (hb hby d22_41) rfl kz) ?_
  show own_Go p e below _ (T1.setTop (mkF m 42 #[oR p0, oI (7 : Int32)] [(.int (b6_ &&& (255 : Int32)))]))
  obtain ⟨T3, X3, e3, st3⟩ := getS2 X1 hx hZ hown (host := "") (Or.inl (own_w hw 111)) Via.refl e1 S_whi (g := (mkF m 42 #[oR p0, oI (7 : Int32)] [(.int (b6_ &&& (255 : Int32)))])) rfl (hb hby d22_42)
  refine own_via st3 ?_
  show own_Go p e below _ (T3.setTop (mkF m 45 #[oR p0, oI (7 : Int32)] [(.int whi), (.int (b6_ &&& (255 : Int32)))]))
  refine own_via (fun t kz => XS.ishl X3.here hx rfl (hb hby d22_45) rfl kz) ?_
  refine own_via (fun t kz => XS.aloadN X3.here hx rfl (hb hby d22_46) rfl rfl kz) ?_
  refine own_via (fun t kz => XS.iloadN X3.here hx rfl (hb hby d22_47) rfl kz) ?_
  show own_Go p e below _ (T3.setTop (mkF m 48 #[oR p0, oI (7 : Int32)] [(.int (7 : Int32)), (.ref p0), (.int ((b6_ &&& (255 : Int32)) <<< (whi &&& 31)))]))
  obtain ⟨cl4, Ar4, kc4, Sz4, Nn4, Hs4, Gs4⟩ := id V_p0
  have in4 := inb_of (j := (7 : Int32)) Sz4 ⟨by decide, by decide⟩
  have at4 : cl4.slots[((7 : Int32)).toNatClampNeg]? = some (.int b7_) := Hs4.at in4 rfl
  refine own_via (fun t kz => X3.baloadBytes hx (j := (7 : Int32)) (v := (.int b7_)) (by rw [e3]; exact Ar4.1) (State.isArrayOf_alike hZ.alike Ar4.2.1) Ar4.2.2 in4 at4 (g := (mkF m 48 #[oR p0, oI (7 : Int32)] [(.int (7 : Int32)), (.ref p0), (.int ((b6_ &&& (255 : Int32)) <<< (whi &&& 31)))])) rfl rfl (hb hby d22_48) t kz) ?_
  refine own_via (fun t kz => XS.sipush X3.here hx rfl (hb hby d22_49) kz) ?_
  refine own_via (fun t kz => XS.iand X3.here hx rfl (hb hby d22_52) rfl kz) ?_
  show own_Go p e below _ (T3.setTop (mkF m 53 #[oR p0, oI (7 : Int32)] [(.int (b7_ &&& (255 : Int32))), (.int ((b6_ &&& (255 : Int32)) <<< (whi &&& 31)))]))
  obtain ⟨T5, X5, e5, st5⟩ := getS2 X3 hx hZ hown (host := "") (Or.inl (own_w hw 112)) Via.refl e3 S_wlo (g := (mkF m 53 #[oR p0, oI (7 : Int32)] [(.int (b7_ &&& (255 : Int32))), (.int ((b6_ &&& (255 : Int32)) <<< (whi &&& 31)))])) rfl (hb hby d22_53)
  refine own_via st5 ?_
  show own_Go p e below _ (T5.setTop (mkF m 56 #[oR p0, oI (7 : Int32)] [(.int wlo), (.int (b7_ &&& (255 : Int32))), (.int ((b6_ &&& (255 : Int32)) <<< (whi &&& 31)))]))
  refine own_via (fun t kz => XS.ishl X5.here hx rfl (hb hby d22_56) rfl kz) ?_
  show own_Go p e below _ (T5.setTop (mkF m 57 #[oR p0, oI (7 : Int32)] [(.int ((b7_ &&& (255 : Int32)) <<< (wlo &&& 31))), (.int ((b6_ &&& (255 : Int32)) <<< (whi &&& 31)))]))
  refine own_via (fun t kz => XS.ior X5.here hx rfl (hb hby d22_57) rfl kz) ?_
  show own_Go p e below _ (T5.setTop (mkF m 58 #[oR p0, oI (7 : Int32)] [(.int (((b6_ &&& (255 : Int32)) <<< (whi &&& 31)) ||| ((b7_ &&& (255 : Int32)) <<< (wlo &&& 31))))]))
  refine own_via (fun t kz => XS.i2c X5.here hx rfl (hb hby d22_58) rfl kz) ?_
  show own_Go p e below _ (T5.setTop (mkF m 59 #[oR p0, oI (7 : Int32)] [(.int ((((b6_ &&& (255 : Int32)) <<< (whi &&& 31)) ||| ((b7_ &&& (255 : Int32)) <<< (wlo &&& 31))).toUInt32.toUInt16.toUInt32.toInt32))]))
  have hv : (fG6_3 whi wlo b6_ b7_) = ((((b6_ &&& (255 : Int32)) <<< (whi &&& 31)) ||| ((b7_ &&& (255 : Int32)) <<< (wlo &&& 31))).toUInt32.toUInt16.toUInt32.toInt32) := by unfold fG6_3; rfl
  obtain ⟨fs, hr, hrun, hended, hW, hsame⟩ := X5.leave (v := some (.int ((((b6_ &&& (255 : Int32)) <<< (whi &&& 31)) ||| ((b7_ &&& (255 : Int32)) <<< (wlo &&& 31))).toUInt32.toUInt16.toUInt32.toInt32))) (fun h => by rw [Bd.returns] at h; cases h)
  refine ⟨_, _, retOut X5 hx (i := .ireturn) Bd.returns (narrow_c _) (Or.inl ⟨rfl, by simp, _, rfl⟩) (hb hby d22_59) hr, hrun, hended, _, _, rfl, ?_, ⟨_, rfl⟩, hW, hsame.mono (by decide) (by decide)⟩
  show QG6_3 Z p0 wad whi wlo ka b0_ b1_ b2_ b3_ b4_ b5_ b6_ b7_ b8_ b9_ b10_ b11_ r h0 n0 _ T5.heap _
  rw [e5]
  exact ⟨by rw [← hr0, hv], N0, rfl⟩
def fG6_4 (whi : Int32) (wlo : Int32) (b8_ : Int32) (b9_ : Int32) : Int32 := ((((b8_ &&& (255 : Int32)) <<< (whi &&& 31)) ||| ((b9_ &&& (255 : Int32)) <<< (wlo &&& 31))).toUInt32.toUInt16.toUInt32.toInt32)
theorem ef_rmG6_4 (m : MethodId) (q0 : Addr) : entryFrame m #[(.ref q0), (.int (4 : Int32))] 2 = mkF m 0 #[oR q0, oI (4 : Int32)] [] := by first | (simp [entryFrame, mkF, argsToLocals, Value.category]; done) | rfl
def QG6_4 (Z : State) (p0 : Addr) (wad : Int32) (whi : Int32) (wlo : Int32) (ka : ClassId) (b0_ : Int32) (b1_ : Int32) (b2_ : Int32) (b3_ : Int32) (b4_ : Int32) (b5_ : Int32) (b6_ : Int32) (b7_ : Int32) (b8_ : Int32) (b9_ : Int32) (b10_ : Int32) (b11_ : Int32) (r : Int32) (h0 : Heap) (n0 : Nat) (v : Option Value) (h : Heap) (L : List Loc) : Prop := v = some (.int r) ∧ Fr n0 L ∧ h = h0
set_option maxRecDepth 65536 in
set_option maxHeartbeats 40000000 in
theorem rmG6_4 (l : Launch) (Z : State) (a0 : Array Value) (hw : ∀ d ∈ tables_1, d.before a0 Z = true) (ws : List Jvm.Cond) (p0 : Addr) (wad : Int32) (whi : Int32) (wlo : Int32) (ka : ClassId) (b0_ : Int32) (b1_ : Int32) (b2_ : Int32) (b3_ : Int32) (b4_ : Int32) (b5_ : Int32) (b6_ : Int32) (b7_ : Int32) (b8_ : Int32) (b9_ : Int32) (b10_ : Int32) (b11_ : Int32) (r : Int32) (h0 : Heap) (n0 : Nat) (Z0 : n0 ≤ h0.size) (hwad : wad = (1 : Int32)) (S_wad : Sta Z h0 "java/lang/StringUTF16" "$assertionsDisabled" "Z" (.int wad)) (S_whi : Sta Z h0 "java/lang/StringUTF16" "HI_BYTE_SHIFT" "I" (.int whi)) (S_wlo : Sta Z h0 "java/lang/StringUTF16" "LO_BYTE_SHIFT" "I" (.int wlo)) (V_p0 : Arv Z h0 p0 ka .byte (12 : Int32) [(.int b0_), (.int b1_), (.int b2_), (.int b3_), (.int b4_), (.int b5_), (.int b6_), (.int b7_), (.int b8_), (.int b9_), (.int b10_), (.int b11_)] (.int (0 : Int32))) (hr0 : (fG6_4 whi wlo b8_ b9_) = r) :
    MetFree l (⟨"java/lang/StringUTF16", "getChar", "([BI)C"⟩ : MethodName) (head1 (Jvm.Cond.code (⟨"java/lang/StringUTF16", "getChar", "([BI)C"⟩ : MethodName) jdk_52_method_5_code 2 (some .char) :: ws) ({ frames := 0, cells := 0, slots := 0, locals := 0 } : Room)) (fun a U => a = #[(.ref p0), (.int (4 : Int32))] ∧ Z.Warmed39 U.vm ∧ U.heap = h0) (fun _ _ _ _ _ => True) (fun _ U o U' => ∃ v L, o = .returned v ∧ QG6_4 Z p0 wad whi wlo ka b0_ b1_ b2_ b3_ b4_ b5_ b6_ b7_ b8_ b9_ b10_ b11_ r h0 n0 v U'.heap L ∧ FrameEnd U o U' L ({ frames := 0, cells := 0, slots := 0, locals := 0 } : Room).cells ({ frames := 0, cells := 0, slots := 0, locals := 0 } : Room).slots) := by
  refine MetFree.of_bodySF (plainFor_of_name pn_20) hisR ?_
  intro p e s m args below meth c s₁ Bd hml0 hP hK
  obtain ⟨rfl, hZ, hh⟩ := hP
  have hx := Bd.exec
  have hby := Bd.bytes
  have hml : c.maxLocals = 2 := hml0
  have hown : s.vm.findClass "java/lang/StringUTF16" = some m.cls := findClass_of_methodNamed Bd.named
  have hnm := (name_of_methodNamed Bd.named Bd.method).1
  have X0 : Stand p l e ({ frames := 0, cells := 0, slots := 0, locals := 0 } : Room) s m #[(.ref p0), (.int (4 : Int32))] below meth c s₁ [] 0 0 := Stand.of_body Bd
  have e0 : s₁.heap = h0 := by rw [← hh, Bd.state]; rfl
  have N0 := Fr.nil n0
  refine own_start ?_
  refine own_via (fun t k => castTop (ef_rmG6_4 m p0) k) ?_
  show own_Go p e below _ (s₁.setTop (mkF m 0 #[oR p0, oI (4 : Int32)] []))
  obtain ⟨T1, X1, e1, st1⟩ := getS2 X0 hx hZ hown (host := "") (Or.inl (own_w hw 110)) Via.refl e0 S_wad (g := (mkF m 0 #[oR p0, oI (4 : Int32)] [])) rfl (hb hby d22_0)
  refine own_via st1 ?_
  show own_Go p e below _ (T1.setTop (mkF m 3 #[oR p0, oI (4 : Int32)] [(.int wad)]))
  refine own_via (fun t kz => XS.ifYes X1.here hx rfl (pc0 := 3) (pc' := 28) rfl (hb hby d22_3) rfl ((if0 _ _).trans (feq (by rw [hwad]; decide : ¬ wad = (0 : Int32))).2) (by decide) (by decide) kz) ?_
  refine own_via (fun t kz => XS.iloadN X1.here hx rfl (hb hby d22_28) rfl kz) ?_
  refine own_via (fun t kz => XS.iconst X1.here hx rfl (hb hby d22_29) kz) ?_
  show own_Go p e below _ (T1.setTop (mkF m 30 #[oR p0, oI (4 : Int32)] [(.int (1 : Int32)), (.int (4 : Int32))]))
  refine own_via (fun t kz => XS.ishl X1.here hx rfl (hb hby d22_30) rfl kz) ?_
  refine own_via (fun t kz => XS.istoreN X1.here hx rfl (hb hby d22_31) rfl (l' := #[oR p0, oI (8 : Int32)]) rfl kz) ?_
  refine own_via (fun t kz => XS.aloadN X1.here hx rfl (hb hby d22_32) rfl rfl kz) ?_
  refine own_via (fun t kz => XS.iloadN X1.here hx rfl (hb hby d22_33) rfl kz) ?_
  show own_Go p e below _ (T1.setTop (mkF m 34 #[oR p0, oI (8 : Int32)] [(.int (8 : Int32)), (.ref p0)]))
  refine own_via (fun t kz => XS.iinc X1.here hx rfl (hb hby d22_34) rfl (l' := #[oR p0, oI (9 : Int32)]) rfl kz) ?_
  show own_Go p e below _ (T1.setTop (mkF m 37 #[oR p0, oI (9 : Int32)] [(.int (8 : Int32)), (.ref p0)]))
  obtain ⟨cl2, Ar2, kc2, Sz2, Nn2, Hs2, Gs2⟩ := id V_p0
  have in2 := inb_of (j := (8 : Int32)) Sz2 ⟨by decide, by decide⟩
  have at2 : cl2.slots[((8 : Int32)).toNatClampNeg]? = some (.int b8_) := Hs2.at in2 rfl
  refine own_via (fun t kz => X1.baloadBytes hx (j := (8 : Int32)) (v := (.int b8_)) (by rw [e1]; exact Ar2.1) (State.isArrayOf_alike hZ.alike Ar2.2.1) Ar2.2.2 in2 at2 (g := (mkF m 37 #[oR p0, oI (9 : Int32)] [(.int (8 : Int32)), (.ref p0)])) rfl rfl (hb hby d22_37) t kz) ?_
  refine own_via (fun t kz => XS.sipush X1.here hx rfl (hb hby d22_38) kz) ?_
  refine own_via (fun t kz => XS.iand X1.here hx rfl (hb hby d22_41) rfl kz) ?_
  show own_Go p e below _ (T1.setTop (mkF m 42 #[oR p0, oI (9 : Int32)] [(.int (b8_ &&& (255 : Int32)))]))
  obtain ⟨T3, X3, e3, st3⟩ := getS2 X1 hx hZ hown (host := "") (Or.inl (own_w hw 111)) Via.refl e1 S_whi (g := (mkF m 42 #[oR p0, oI (9 : Int32)] [(.int (b8_ &&& (255 : Int32)))])) rfl (hb hby d22_42)
  refine own_via st3 ?_
  show own_Go p e below _ (T3.setTop (mkF m 45 #[oR p0, oI (9 : Int32)] [(.int whi), (.int (b8_ &&& (255 : Int32)))]))
  refine own_via (fun t kz => XS.ishl X3.here hx rfl (hb hby d22_45) rfl kz) ?_
  refine own_via (fun t kz => XS.aloadN X3.here hx rfl (hb hby d22_46) rfl rfl kz) ?_
  refine own_via (fun t kz => XS.iloadN X3.here hx rfl (hb hby d22_47) rfl kz) ?_
  show own_Go p e below _ (T3.setTop (mkF m 48 #[oR p0, oI (9 : Int32)] [(.int (9 : Int32)), (.ref p0), (.int ((b8_ &&& (255 : Int32)) <<< (whi &&& 31)))]))
  obtain ⟨cl4, Ar4, kc4, Sz4, Nn4, Hs4, Gs4⟩ := id V_p0
  have in4 := inb_of (j := (9 : Int32)) Sz4 ⟨by decide, by decide⟩
  have at4 : cl4.slots[((9 : Int32)).toNatClampNeg]? = some (.int b9_) := Hs4.at in4 rfl
  refine own_via (fun t kz => X3.baloadBytes hx (j := (9 : Int32)) (v := (.int b9_)) (by rw [e3]; exact Ar4.1) (State.isArrayOf_alike hZ.alike Ar4.2.1) Ar4.2.2 in4 at4 (g := (mkF m 48 #[oR p0, oI (9 : Int32)] [(.int (9 : Int32)), (.ref p0), (.int ((b8_ &&& (255 : Int32)) <<< (whi &&& 31)))])) rfl rfl (hb hby d22_48) t kz) ?_
  refine own_via (fun t kz => XS.sipush X3.here hx rfl (hb hby d22_49) kz) ?_
  refine own_via (fun t kz => XS.iand X3.here hx rfl (hb hby d22_52) rfl kz) ?_
  show own_Go p e below _ (T3.setTop (mkF m 53 #[oR p0, oI (9 : Int32)] [(.int (b9_ &&& (255 : Int32))), (.int ((b8_ &&& (255 : Int32)) <<< (whi &&& 31)))]))
  obtain ⟨T5, X5, e5, st5⟩ := getS2 X3 hx hZ hown (host := "") (Or.inl (own_w hw 112)) Via.refl e3 S_wlo (g := (mkF m 53 #[oR p0, oI (9 : Int32)] [(.int (b9_ &&& (255 : Int32))), (.int ((b8_ &&& (255 : Int32)) <<< (whi &&& 31)))])) rfl (hb hby d22_53)
  refine own_via st5 ?_
  show own_Go p e below _ (T5.setTop (mkF m 56 #[oR p0, oI (9 : Int32)] [(.int wlo), (.int (b9_ &&& (255 : Int32))), (.int ((b8_ &&& (255 : Int32)) <<< (whi &&& 31)))]))
  refine own_via (fun t kz => XS.ishl X5.here hx rfl (hb hby d22_56) rfl kz) ?_
  show own_Go p e below _ (T5.setTop (mkF m 57 #[oR p0, oI (9 : Int32)] [(.int ((b9_ &&& (255 : Int32)) <<< (wlo &&& 31))), (.int ((b8_ &&& (255 : Int32)) <<< (whi &&& 31)))]))
  refine own_via (fun t kz => XS.ior X5.here hx rfl (hb hby d22_57) rfl kz) ?_
  show own_Go p e below _ (T5.setTop (mkF m 58 #[oR p0, oI (9 : Int32)] [(.int (((b8_ &&& (255 : Int32)) <<< (whi &&& 31)) ||| ((b9_ &&& (255 : Int32)) <<< (wlo &&& 31))))]))
  refine own_via (fun t kz => XS.i2c X5.here hx rfl (hb hby d22_58) rfl kz) ?_
  show own_Go p e below _ (T5.setTop (mkF m 59 #[oR p0, oI (9 : Int32)] [(.int ((((b8_ &&& (255 : Int32)) <<< (whi &&& 31)) ||| ((b9_ &&& (255 : Int32)) <<< (wlo &&& 31))).toUInt32.toUInt16.toUInt32.toInt32))]))
  have hv : (fG6_4 whi wlo b8_ b9_) = ((((b8_ &&& (255 : Int32)) <<< (whi &&& 31)) ||| ((b9_ &&& (255 : Int32)) <<< (wlo &&& 31))).toUInt32.toUInt16.toUInt32.toInt32) := by unfold fG6_4; rfl
  obtain ⟨fs, hr, hrun, hended, hW, hsame⟩ := X5.leave (v := some (.int ((((b8_ &&& (255 : Int32)) <<< (whi &&& 31)) ||| ((b9_ &&& (255 : Int32)) <<< (wlo &&& 31))).toUInt32.toUInt16.toUInt32.toInt32))) (fun h => by rw [Bd.returns] at h; cases h)
  refine ⟨_, _, retOut X5 hx (i := .ireturn) Bd.returns (narrow_c _) (Or.inl ⟨rfl, by simp, _, rfl⟩) (hb hby d22_59) hr, hrun, hended, _, _, rfl, ?_, ⟨_, rfl⟩, hW, hsame.mono (by decide) (by decide)⟩
  show QG6_4 Z p0 wad whi wlo ka b0_ b1_ b2_ b3_ b4_ b5_ b6_ b7_ b8_ b9_ b10_ b11_ r h0 n0 _ T5.heap _
  rw [e5]
  exact ⟨by rw [← hr0, hv], N0, rfl⟩
def fG6_5 (whi : Int32) (wlo : Int32) (b10_ : Int32) (b11_ : Int32) : Int32 := ((((b10_ &&& (255 : Int32)) <<< (whi &&& 31)) ||| ((b11_ &&& (255 : Int32)) <<< (wlo &&& 31))).toUInt32.toUInt16.toUInt32.toInt32)
theorem ef_rmG6_5 (m : MethodId) (q0 : Addr) : entryFrame m #[(.ref q0), (.int (5 : Int32))] 2 = mkF m 0 #[oR q0, oI (5 : Int32)] [] := by first | (simp [entryFrame, mkF, argsToLocals, Value.category]; done) | rfl
def QG6_5 (Z : State) (p0 : Addr) (wad : Int32) (whi : Int32) (wlo : Int32) (ka : ClassId) (b0_ : Int32) (b1_ : Int32) (b2_ : Int32) (b3_ : Int32) (b4_ : Int32) (b5_ : Int32) (b6_ : Int32) (b7_ : Int32) (b8_ : Int32) (b9_ : Int32) (b10_ : Int32) (b11_ : Int32) (r : Int32) (h0 : Heap) (n0 : Nat) (v : Option Value) (h : Heap) (L : List Loc) : Prop := v = some (.int r) ∧ Fr n0 L ∧ h = h0
set_option maxRecDepth 65536 in
set_option maxHeartbeats 40000000 in
theorem rmG6_5 (l : Launch) (Z : State) (a0 : Array Value) (hw : ∀ d ∈ tables_1, d.before a0 Z = true) (ws : List Jvm.Cond) (p0 : Addr) (wad : Int32) (whi : Int32) (wlo : Int32) (ka : ClassId) (b0_ : Int32) (b1_ : Int32) (b2_ : Int32) (b3_ : Int32) (b4_ : Int32) (b5_ : Int32) (b6_ : Int32) (b7_ : Int32) (b8_ : Int32) (b9_ : Int32) (b10_ : Int32) (b11_ : Int32) (r : Int32) (h0 : Heap) (n0 : Nat) (Z0 : n0 ≤ h0.size) (hwad : wad = (1 : Int32)) (S_wad : Sta Z h0 "java/lang/StringUTF16" "$assertionsDisabled" "Z" (.int wad)) (S_whi : Sta Z h0 "java/lang/StringUTF16" "HI_BYTE_SHIFT" "I" (.int whi)) (S_wlo : Sta Z h0 "java/lang/StringUTF16" "LO_BYTE_SHIFT" "I" (.int wlo)) (V_p0 : Arv Z h0 p0 ka .byte (12 : Int32) [(.int b0_), (.int b1_), (.int b2_), (.int b3_), (.int b4_), (.int b5_), (.int b6_), (.int b7_), (.int b8_), (.int b9_), (.int b10_), (.int b11_)] (.int (0 : Int32))) (hr0 : (fG6_5 whi wlo b10_ b11_) = r) :
    MetFree l (⟨"java/lang/StringUTF16", "getChar", "([BI)C"⟩ : MethodName) (head1 (Jvm.Cond.code (⟨"java/lang/StringUTF16", "getChar", "([BI)C"⟩ : MethodName) jdk_52_method_5_code 2 (some .char) :: ws) ({ frames := 0, cells := 0, slots := 0, locals := 0 } : Room)) (fun a U => a = #[(.ref p0), (.int (5 : Int32))] ∧ Z.Warmed39 U.vm ∧ U.heap = h0) (fun _ _ _ _ _ => True) (fun _ U o U' => ∃ v L, o = .returned v ∧ QG6_5 Z p0 wad whi wlo ka b0_ b1_ b2_ b3_ b4_ b5_ b6_ b7_ b8_ b9_ b10_ b11_ r h0 n0 v U'.heap L ∧ FrameEnd U o U' L ({ frames := 0, cells := 0, slots := 0, locals := 0 } : Room).cells ({ frames := 0, cells := 0, slots := 0, locals := 0 } : Room).slots) := by
  refine MetFree.of_bodySF (plainFor_of_name pn_20) hisR ?_
  intro p e s m args below meth c s₁ Bd hml0 hP hK
  obtain ⟨rfl, hZ, hh⟩ := hP
  have hx := Bd.exec
  have hby := Bd.bytes
  have hml : c.maxLocals = 2 := hml0
  have hown : s.vm.findClass "java/lang/StringUTF16" = some m.cls := findClass_of_methodNamed Bd.named
  have hnm := (name_of_methodNamed Bd.named Bd.method).1
  have X0 : Stand p l e ({ frames := 0, cells := 0, slots := 0, locals := 0 } : Room) s m #[(.ref p0), (.int (5 : Int32))] below meth c s₁ [] 0 0 := Stand.of_body Bd
  have e0 : s₁.heap = h0 := by rw [← hh, Bd.state]; rfl
  have N0 := Fr.nil n0
  refine own_start ?_
  refine own_via (fun t k => castTop (ef_rmG6_5 m p0) k) ?_
  show own_Go p e below _ (s₁.setTop (mkF m 0 #[oR p0, oI (5 : Int32)] []))
  obtain ⟨T1, X1, e1, st1⟩ := getS2 X0 hx hZ hown (host := "") (Or.inl (own_w hw 110)) Via.refl e0 S_wad (g := (mkF m 0 #[oR p0, oI (5 : Int32)] [])) rfl (hb hby d22_0)
  refine own_via st1 ?_
  show own_Go p e below _ (T1.setTop (mkF m 3 #[oR p0, oI (5 : Int32)] [(.int wad)]))
  refine own_via (fun t kz => XS.ifYes X1.here hx rfl (pc0 := 3) (pc' := 28) rfl (hb hby d22_3) rfl ((if0 _ _).trans (feq (by rw [hwad]; decide : ¬ wad = (0 : Int32))).2) (by decide) (by decide) kz) ?_
  refine own_via (fun t kz => XS.iloadN X1.here hx rfl (hb hby d22_28) rfl kz) ?_
  refine own_via (fun t kz => XS.iconst X1.here hx rfl (hb hby d22_29) kz) ?_
  show own_Go p e below _ (T1.setTop (mkF m 30 #[oR p0, oI (5 : Int32)] [(.int (1 : Int32)), (.int (5 : Int32))]))
  refine own_via (fun t kz => XS.ishl X1.here hx rfl (hb hby d22_30) rfl kz) ?_
  refine own_via (fun t kz => XS.istoreN X1.here hx rfl (hb hby d22_31) rfl (l' := #[oR p0, oI (10 : Int32)]) rfl kz) ?_
  refine own_via (fun t kz => XS.aloadN X1.here hx rfl (hb hby d22_32) rfl rfl kz) ?_
  refine own_via (fun t kz => XS.iloadN X1.here hx rfl (hb hby d22_33) rfl kz) ?_
  show own_Go p e below _ (T1.setTop (mkF m 34 #[oR p0, oI (10 : Int32)] [(.int (10 : Int32)), (.ref p0)]))
  refine own_via (fun t kz => XS.iinc X1.here hx rfl (hb hby d22_34) rfl (l' := #[oR p0, oI (11 : Int32)]) rfl kz) ?_
  show own_Go p e below _ (T1.setTop (mkF m 37 #[oR p0, oI (11 : Int32)] [(.int (10 : Int32)), (.ref p0)]))
  obtain ⟨cl2, Ar2, kc2, Sz2, Nn2, Hs2, Gs2⟩ := id V_p0
  have in2 := inb_of (j := (10 : Int32)) Sz2 ⟨by decide, by decide⟩
  have at2 : cl2.slots[((10 : Int32)).toNatClampNeg]? = some (.int b10_) := Hs2.at in2 rfl
  refine own_via (fun t kz => X1.baloadBytes hx (j := (10 : Int32)) (v := (.int b10_)) (by rw [e1]; exact Ar2.1) (State.isArrayOf_alike hZ.alike Ar2.2.1) Ar2.2.2 in2 at2 (g := (mkF m 37 #[oR p0, oI (11 : Int32)] [(.int (10 : Int32)), (.ref p0)])) rfl rfl (hb hby d22_37) t kz) ?_
  refine own_via (fun t kz => XS.sipush X1.here hx rfl (hb hby d22_38) kz) ?_
  refine own_via (fun t kz => XS.iand X1.here hx rfl (hb hby d22_41) rfl kz) ?_
  show own_Go p e below _ (T1.setTop (mkF m 42 #[oR p0, oI (11 : Int32)] [(.int (b10_ &&& (255 : Int32)))]))
  obtain ⟨T3, X3, e3, st3⟩ := getS2 X1 hx hZ hown (host := "") (Or.inl (own_w hw 111)) Via.refl e1 S_whi (g := (mkF m 42 #[oR p0, oI (11 : Int32)] [(.int (b10_ &&& (255 : Int32)))])) rfl (hb hby d22_42)
  refine own_via st3 ?_
  show own_Go p e below _ (T3.setTop (mkF m 45 #[oR p0, oI (11 : Int32)] [(.int whi), (.int (b10_ &&& (255 : Int32)))]))
  refine own_via (fun t kz => XS.ishl X3.here hx rfl (hb hby d22_45) rfl kz) ?_
  refine own_via (fun t kz => XS.aloadN X3.here hx rfl (hb hby d22_46) rfl rfl kz) ?_
  refine own_via (fun t kz => XS.iloadN X3.here hx rfl (hb hby d22_47) rfl kz) ?_
  show own_Go p e below _ (T3.setTop (mkF m 48 #[oR p0, oI (11 : Int32)] [(.int (11 : Int32)), (.ref p0), (.int ((b10_ &&& (255 : Int32)) <<< (whi &&& 31)))]))
  obtain ⟨cl4, Ar4, kc4, Sz4, Nn4, Hs4, Gs4⟩ := id V_p0
  have in4 := inb_of (j := (11 : Int32)) Sz4 ⟨by decide, by decide⟩
  have at4 : cl4.slots[((11 : Int32)).toNatClampNeg]? = some (.int b11_) := Hs4.at in4 rfl
  refine own_via (fun t kz => X3.baloadBytes hx (j := (11 : Int32)) (v := (.int b11_)) (by rw [e3]; exact Ar4.1) (State.isArrayOf_alike hZ.alike Ar4.2.1) Ar4.2.2 in4 at4 (g := (mkF m 48 #[oR p0, oI (11 : Int32)] [(.int (11 : Int32)), (.ref p0), (.int ((b10_ &&& (255 : Int32)) <<< (whi &&& 31)))])) rfl rfl (hb hby d22_48) t kz) ?_
  refine own_via (fun t kz => XS.sipush X3.here hx rfl (hb hby d22_49) kz) ?_
  refine own_via (fun t kz => XS.iand X3.here hx rfl (hb hby d22_52) rfl kz) ?_
  show own_Go p e below _ (T3.setTop (mkF m 53 #[oR p0, oI (11 : Int32)] [(.int (b11_ &&& (255 : Int32))), (.int ((b10_ &&& (255 : Int32)) <<< (whi &&& 31)))]))
  obtain ⟨T5, X5, e5, st5⟩ := getS2 X3 hx hZ hown (host := "") (Or.inl (own_w hw 112)) Via.refl e3 S_wlo (g := (mkF m 53 #[oR p0, oI (11 : Int32)] [(.int (b11_ &&& (255 : Int32))), (.int ((b10_ &&& (255 : Int32)) <<< (whi &&& 31)))])) rfl (hb hby d22_53)
  refine own_via st5 ?_
  show own_Go p e below _ (T5.setTop (mkF m 56 #[oR p0, oI (11 : Int32)] [(.int wlo), (.int (b11_ &&& (255 : Int32))), (.int ((b10_ &&& (255 : Int32)) <<< (whi &&& 31)))]))
  refine own_via (fun t kz => XS.ishl X5.here hx rfl (hb hby d22_56) rfl kz) ?_
  show own_Go p e below _ (T5.setTop (mkF m 57 #[oR p0, oI (11 : Int32)] [(.int ((b11_ &&& (255 : Int32)) <<< (wlo &&& 31))), (.int ((b10_ &&& (255 : Int32)) <<< (whi &&& 31)))]))
  refine own_via (fun t kz => XS.ior X5.here hx rfl (hb hby d22_57) rfl kz) ?_
  show own_Go p e below _ (T5.setTop (mkF m 58 #[oR p0, oI (11 : Int32)] [(.int (((b10_ &&& (255 : Int32)) <<< (whi &&& 31)) ||| ((b11_ &&& (255 : Int32)) <<< (wlo &&& 31))))]))
  refine own_via (fun t kz => XS.i2c X5.here hx rfl (hb hby d22_58) rfl kz) ?_
  show own_Go p e below _ (T5.setTop (mkF m 59 #[oR p0, oI (11 : Int32)] [(.int ((((b10_ &&& (255 : Int32)) <<< (whi &&& 31)) ||| ((b11_ &&& (255 : Int32)) <<< (wlo &&& 31))).toUInt32.toUInt16.toUInt32.toInt32))]))
  have hv : (fG6_5 whi wlo b10_ b11_) = ((((b10_ &&& (255 : Int32)) <<< (whi &&& 31)) ||| ((b11_ &&& (255 : Int32)) <<< (wlo &&& 31))).toUInt32.toUInt16.toUInt32.toInt32) := by unfold fG6_5; rfl
  obtain ⟨fs, hr, hrun, hended, hW, hsame⟩ := X5.leave (v := some (.int ((((b10_ &&& (255 : Int32)) <<< (whi &&& 31)) ||| ((b11_ &&& (255 : Int32)) <<< (wlo &&& 31))).toUInt32.toUInt16.toUInt32.toInt32))) (fun h => by rw [Bd.returns] at h; cases h)
  refine ⟨_, _, retOut X5 hx (i := .ireturn) Bd.returns (narrow_c _) (Or.inl ⟨rfl, by simp, _, rfl⟩) (hb hby d22_59) hr, hrun, hended, _, _, rfl, ?_, ⟨_, rfl⟩, hW, hsame.mono (by decide) (by decide)⟩
  show QG6_5 Z p0 wad whi wlo ka b0_ b1_ b2_ b3_ b4_ b5_ b6_ b7_ b8_ b9_ b10_ b11_ r h0 n0 _ T5.heap _
  rw [e5]
  exact ⟨by rw [← hr0, hv], N0, rfl⟩
def own_rep6 (Z : State) (h : Heap) (r : Addr) (c0_ c1_ c2_ c3_ c4_ c5_ : Int32) : Prop := ((¬ (255 : Int32) < c0_ ∧ ¬ (255 : Int32) < c1_ ∧ ¬ (255 : Int32) < c2_ ∧ ¬ (255 : Int32) < c3_ ∧ ¬ (255 : Int32) < c4_ ∧ ¬ (255 : Int32) < c5_) ∧ ∃ kb : ClassId, Arv Z h r kb .byte (6 : Int32) [(.int (c0_.toInt8.toInt32)), (.int (c1_.toInt8.toInt32)), (.int (c2_.toInt8.toInt32)), (.int (c3_.toInt8.toInt32)), (.int (c4_.toInt8.toInt32)), (.int (c5_.toInt8.toInt32))] (.int (0 : Int32))) ∨ (∃ kb : ClassId, Arv Z h r kb .byte (12 : Int32) [(.int ((c0_ >>> ((0 : Int32) &&& 31)).toInt8.toInt32)), (.int ((c0_ >>> ((8 : Int32) &&& 31)).toInt8.toInt32)), (.int ((c1_ >>> ((0 : Int32) &&& 31)).toInt8.toInt32)), (.int ((c1_ >>> ((8 : Int32) &&& 31)).toInt8.toInt32)), (.int ((c2_ >>> ((0 : Int32) &&& 31)).toInt8.toInt32)), (.int ((c2_ >>> ((8 : Int32) &&& 31)).toInt8.toInt32)), (.int ((c3_ >>> ((0 : Int32) &&& 31)).toInt8.toInt32)), (.int ((c3_ >>> ((8 : Int32) &&& 31)).toInt8.toInt32)), (.int ((c4_ >>> ((0 : Int32) &&& 31)).toInt8.toInt32)), (.int ((c4_ >>> ((8 : Int32) &&& 31)).toInt8.toInt32)), (.int ((c5_ >>> ((0 : Int32) &&& 31)).toInt8.toInt32)), (.int ((c5_ >>> ((8 : Int32) &&& 31)).toInt8.toInt32))] (.int (0 : Int32)))
theorem d6_0 : decode jdk_52_method_16_code 0 = .ok (.iload_n 2, 1) := by decide +kernel
theorem d6_1 : decode jdk_52_method_16_code 1 = .ok (.newarray .byte, 2) := by decide +kernel
theorem d6_3 : decode jdk_52_method_16_code 3 = .ok (.astore_n 3, 1) := by decide +kernel
theorem d6_4 : decode jdk_52_method_16_code 4 = .ok (.aload_n 0, 1) := by decide +kernel
theorem d6_5 : decode jdk_52_method_16_code 5 = .ok (.iload_n 1, 1) := by decide +kernel
theorem d6_6 : decode jdk_52_method_16_code 6 = .ok (.aload_n 3, 1) := by decide +kernel
theorem d6_7 : decode jdk_52_method_16_code 7 = .ok (.iconst 0, 1) := by decide +kernel
theorem d6_8 : decode jdk_52_method_16_code 8 = .ok (.iload_n 2, 1) := by decide +kernel
theorem d6_9 : decode jdk_52_method_16_code 9 = .ok (.invokestatic 115, 3) := by decide +kernel
theorem d6_12 : decode jdk_52_method_16_code 12 = .ok (.istore 4, 2) := by decide +kernel
theorem d6_14 : decode jdk_52_method_16_code 14 = .ok (.iload 4, 2) := by decide +kernel
theorem d6_16 : decode jdk_52_method_16_code 16 = .ok (.iload_n 2, 1) := by decide +kernel
theorem d6_17 : decode jdk_52_method_16_code 17 = .ok (.if_icmp .eq 40, 3) := by decide +kernel
theorem d6_20 : decode jdk_52_method_16_code 20 = .ok (.aload_n 0, 1) := by decide +kernel
theorem d6_21 : decode jdk_52_method_16_code 21 = .ok (.iload_n 1, 1) := by decide +kernel
theorem d6_22 : decode jdk_52_method_16_code 22 = .ok (.iload_n 2, 1) := by decide +kernel
theorem d6_23 : decode jdk_52_method_16_code 23 = .ok (.invokestatic 119, 3) := by decide +kernel
theorem d6_26 : decode jdk_52_method_16_code 26 = .ok (.astore 5, 2) := by decide +kernel
theorem d6_28 : decode jdk_52_method_16_code 28 = .ok (.aload 5, 2) := by decide +kernel
theorem d6_30 : decode jdk_52_method_16_code 30 = .ok (.iload 4, 2) := by decide +kernel
theorem d6_32 : decode jdk_52_method_16_code 32 = .ok (.invokestatic 71, 3) := by decide +kernel
theorem d6_35 : decode jdk_52_method_16_code 35 = .ok (.sipush 255, 3) := by decide +kernel
theorem d6_38 : decode jdk_52_method_16_code 38 = .ok (.if_icmp .gt 16, 3) := by decide +kernel
theorem d6_54 : decode jdk_52_method_16_code 54 = .ok (.aload 5, 2) := by decide +kernel
theorem d6_56 : decode jdk_52_method_16_code 56 = .ok (.areturn, 1) := by decide +kernel
theorem d6_57 : decode jdk_52_method_16_code 57 = .ok (.aload_n 3, 1) := by decide +kernel
theorem d6_58 : decode jdk_52_method_16_code 58 = .ok (.areturn, 1) := by decide +kernel
theorem pd_6_0 : parseMethodDescriptor "([CI[BII)I" = some ⟨[(.array .char), .int, (.array .byte), .int, .int], some .int⟩ := by decide +kernel
theorem pd_6_1 : parseMethodDescriptor "([CII)[B" = some ⟨[(.array .char), .int, .int], some (.array .byte)⟩ := by decide +kernel
theorem pd_6_2 : parseMethodDescriptor "([BI)C" = some ⟨[(.array .byte), .int], some .char⟩ := by decide +kernel
theorem ef_rmB6 (m : MethodId) (q0 : Addr) : entryFrame m #[(.ref q0), (.int (0 : Int32)), (.int (6 : Int32))] 6 = mkF m 0 #[oR q0, oI (0 : Int32), oI (6 : Int32), .unset, .unset, .unset] [] := by first | (simp [entryFrame, mkF, argsToLocals, Value.category]; done) | rfl
def QB6 (Z : State) (p0 : Addr) (kc : ClassId) (c0_ : Int32) (c1_ : Int32) (c2_ : Int32) (c3_ : Int32) (c4_ : Int32) (c5_ : Int32) (wcs : Int32) (wsf : Value) (h0 : Heap) (n0 : Nat) (v : Option Value) (h : Heap) (L : List Loc) : Prop := ∃ r : Addr, v = some (.ref r) ∧ Fr n0 L ∧ Keep h0 h [] ∧ h0.size ≤ r ∧ own_rep6 Z h r c0_ c1_ c2_ c3_ c4_ c5_
set_option maxRecDepth 65536 in
set_option maxHeartbeats 40000000 in
theorem rmB6 (l : Launch) (Z : State) (a0 : Array Value) (hw : ∀ d ∈ tables_1, d.before a0 Z = true) (ws : List Jvm.Cond) (p0 : Addr) (kc : ClassId) (c0_ : Int32) (c1_ : Int32) (c2_ : Int32) (c3_ : Int32) (c4_ : Int32) (c5_ : Int32) (wcs : Int32) (wsf : Value) (h0 : Heap) (n0 : Nat) (Z0 : n0 ≤ h0.size) (VC : Arv Z h0 p0 kc .char (6 : Int32) [(.int c0_), (.int c1_), (.int c2_), (.int c3_), (.int c4_), (.int c5_)] (.int (0 : Int32))) (hc0 : own_ch c0_) (hc1 : own_ch c1_) (hc2 : own_ch c2_) (hc3 : own_ch c3_) (hc4 : own_ch c4_) (hc5 : own_ch c5_) (OLD : Old Z n0 h0) (hcs : ¬ (wcs = (0 : Int32))) (rsf : wsf.isRef = true) (B_wcs : Sta Z Z.heap "java/lang/String" "COMPACT_STRINGS" "Z" (.int wcs)) (B_wsf : Sta Z Z.heap "jdk/internal/util/Preconditions" "SIOOBE_FORMATTER" "Ljava/util/function/BiFunction;" wsf) (B_wad : Sta Z Z.heap "java/lang/StringUTF16" "$assertionsDisabled" "Z" (.int (1 : Int32))) (B_whi : Sta Z Z.heap "java/lang/StringUTF16" "HI_BYTE_SHIFT" "I" (.int (0 : Int32))) (B_wlo : Sta Z Z.heap "java/lang/StringUTF16" "LO_BYTE_SHIFT" "I" (.int (8 : Int32))) :
    MetFree l (⟨"java/lang/StringUTF16", "compress", "([CII)[B"⟩ : MethodName) (head1 (Jvm.Cond.code (⟨"java/lang/StringUTF16", "compress", "([CII)[B"⟩ : MethodName) jdk_52_method_16_code 6 (some (.array .byte)) :: ws) ({ frames := 3, cells := 2, slots := 18, locals := 40 } : Room)) (fun a U => a = #[(.ref p0), (.int (0 : Int32)), (.int (6 : Int32))] ∧ Z.Warmed39 U.vm ∧ U.heap = h0) (fun _ _ _ _ _ => True) (fun _ U o U' => ∃ v L, o = .returned v ∧ QB6 Z p0 kc c0_ c1_ c2_ c3_ c4_ c5_ wcs wsf h0 n0 v U'.heap L ∧ FrameEnd U o U' L ({ frames := 3, cells := 2, slots := 18, locals := 40 } : Room).cells ({ frames := 3, cells := 2, slots := 18, locals := 40 } : Room).slots) := by
  refine MetFree.of_bodySF (plainFor_of_name pn_20) hisR ?_
  intro p e s m args below meth c s₁ Bd hml0 hP hK
  obtain ⟨rfl, hZ, hh⟩ := hP
  have hx := Bd.exec
  have hby := Bd.bytes
  have hml : c.maxLocals = 6 := hml0
  have hown : s.vm.findClass "java/lang/StringUTF16" = some m.cls := findClass_of_methodNamed Bd.named
  have hnm := (name_of_methodNamed Bd.named Bd.method).1
  have X0 : Stand p l e ({ frames := 3, cells := 2, slots := 18, locals := 40 } : Room) s m #[(.ref p0), (.int (0 : Int32)), (.int (6 : Int32))] below meth c s₁ [] 0 0 := Stand.of_body Bd
  have e0 : s₁.heap = h0 := by rw [← hh, Bd.state]; rfl
  have N0 := Fr.nil n0
  refine own_start ?_
  refine own_via (fun t k => castTop (ef_rmB6 m p0) k) ?_
  show own_Go p e below _ (s₁.setTop (mkF m 0 #[oR p0, oI (0 : Int32), oI (6 : Int32), .unset, .unset, .unset] []))
  refine own_via (fun t kz => XS.iloadN X0.here hx rfl (hb hby d6_0) rfl kz) ?_
  show own_Go p e below _ (s₁.setTop (mkF m 1 #[oR p0, oI (0 : Int32), oI (6 : Int32), .unset, .unset, .unset] [(.int (6 : Int32))]))
  obtain ⟨T1, h1, k1, X1, e1, E1, A1, st1⟩ := newP X0 hx hZ (aty := .byte) (own_w hw 31) e0 (g := (mkF m 1 #[oR p0, oI (0 : Int32), oI (6 : Int32), .unset, .unset, .unset] [(.int (6 : Int32))])) rfl (hb hby d6_1) rfl (by decide) (cap := 6) (by decide) (by decide) (by decide) (by decide)
  obtain ⟨a1, g1⟩ : ∃ z, z = h0.size := ⟨_, rfl⟩
  rw [← g1] at A1 st1
  refine own_via st1 ?_
  have lt2 : p0 < a1 := Nat.lt_of_lt_of_le VC.lt (Nat.le_of_eq g1.symm)
  have fr3 : n0 ≤ a1 := Nat.le_trans Z0 (Nat.le_of_eq g1.symm)
  have hf4 : h0.size ≤ a1 := Nat.le_trans (Keep.refl h0 []).1 (Nat.le_of_eq g1.symm)
  have O5 : Old Z n0 h1 := OLD.ext E1
  have V6 := VC.ext E1
  have Zs7 : n0 ≤ h1.size := Nat.le_trans Z0 E1.1
  have K8 : Keep h0 h1 [] := (Keep.refl h0 []).ext E1
  have V9 : Arv Z h1 a1 k1 .byte (6 : Int32) [(.int (0 : Int32)), (.int (0 : Int32)), (.int (0 : Int32)), (.int (0 : Int32)), (.int (0 : Int32)), (.int (0 : Int32))] (.int (0 : Int32)) := (Arv.new A1 (by decide)).pad (pad_rep [] (.int (0 : Int32)) 6)
  refine own_via (fun t kz => XS.astoreN X1.here hx rfl (hb hby d6_3) rfl rfl (l' := #[oR p0, oI (0 : Int32), oI (6 : Int32), oR a1, .unset, .unset]) rfl kz) ?_
  refine own_via (fun t kz => XS.aloadN X1.here hx rfl (hb hby d6_4) rfl rfl kz) ?_
  refine own_via (fun t kz => XS.iloadN X1.here hx rfl (hb hby d6_5) rfl kz) ?_
  refine own_via (fun t kz => XS.aloadN X1.here hx rfl (hb hby d6_6) rfl rfl kz) ?_
  refine own_via (fun t kz => XS.iconst X1.here hx rfl (hb hby d6_7) kz) ?_
  show own_Go p e below _ (T1.setTop (mkF m 8 #[oR p0, oI (0 : Int32), oI (6 : Int32), oR a1, .unset, .unset] [(.int (0 : Int32)), (.ref a1), (.int (0 : Int32)), (.ref p0)]))
  refine own_via (fun t kz => XS.iloadN X1.here hx rfl (hb hby d6_8) rfl kz) ?_
  show own_Go p e below _ (T1.setTop (mkF m 9 #[oR p0, oI (0 : Int32), oI (6 : Int32), oR a1, .unset, .unset] [(.int (6 : Int32)), (.int (0 : Int32)), (.ref a1), (.int (0 : Int32)), (.ref p0)]))
  by_cases hc9_10 : (255 : Int32) < c0_
  · obtain ⟨_, _, ⟨T11, L11, k11, n11⟩, -, X11, ⟨Lc11, hQ11, l11, y11, z11⟩, st11⟩ := Jvm.LawKit.callS X1 hx (y := (⟨"java/lang/StringUTF16", "compress", "([CI[BII)I"⟩ : MethodName)) hown (mvT hZ (own_w hw 32)) (mvT hZ (own_w hw 33)) (mvT hZ (own_w hw 29)) (mvT hZ (own_w hw 34)) (by decide) (backOf (W := 0) (rmK6 l Z a0 hw [] p0 a1 kc k1 c0_ c1_ c2_ c3_ c4_ c5_ (0 : Int32) h1 n0 Zs7 fr3 (Nat.ne_of_lt lt2) V6 V9 (by unfold own_cnt6; rw [if_pos hc9_10])) hZ (own_w hw 34) (own_w hw 29) (by decide) (by decide)) (g := (mkF m 9 #[oR p0, oI (0 : Int32), oI (6 : Int32), oR a1, .unset, .unset] [(.int (6 : Int32)), (.int (0 : Int32)), (.ref a1), (.int (0 : Int32)), (.ref p0)])) rfl (by rw [hml]; rfl) (argsL := [(.ref p0), (.int (0 : Int32)), (.ref a1), (.int (0 : Int32)), (.int (6 : Int32))]) (rest := []) (lenOf pd_6_0 rfl) rfl (by show 2 * 0 + _ ≤ _; exact Nat.le_of_eq rfl) (hb hby d6_9) (fun _ _ => ⟨rfl, e1, (by decide : 1 + 0 ≤ _), (by decide : 6 + 0 ≤ _)⟩)
    dsimp only [Pt.U, Pt.locs, Pt.cells, Pt.slots] at X11 l11 y11 z11 st11 hQ11
    subst l11 y11 z11
    obtain ⟨rfl, Nq11, Kc11, Im11⟩ := hQ11
    have N12 := Fr.app N0 Nq11
    refine own_via st11 ?_
    have O13 : Old Z n0 T11.heap := O5.keep Kc11 (allS fr3 all0)
    have V14 := V6.keep Kc11 (ninS (Nat.ne_of_lt lt2) nin0)
    have Zs15 : n0 ≤ T11.heap.size := Nat.le_trans Zs7 Kc11.1
    have K16 : Keep h0 T11.heap [] := K8.trans Kc11 (allS (Or.inr hf4) all0)
    refine own_via (fun t kz => XS.istore X11.here hx rfl (hb hby d6_12) rfl (l' := #[oR p0, oI (0 : Int32), oI (6 : Int32), oR a1, oI (0 : Int32), .unset]) rfl kz) ?_
    refine own_via (fun t kz => XS.iload X11.here hx rfl (hb hby d6_14) rfl kz) ?_
    refine own_via (fun t kz => XS.iloadN X11.here hx rfl (hb hby d6_16) rfl kz) ?_
    show own_Go p e below _ (T11.setTop (mkF m 17 #[oR p0, oI (0 : Int32), oI (6 : Int32), oR a1, oI (0 : Int32), .unset] [(.int (6 : Int32)), (.int (0 : Int32))]))
    refine own_via (fun t kz => XS.icmpNo X11.here hx rfl (hb hby d6_17) rfl (feq (by decide : ¬ ((0 : Int32) = (6 : Int32)))).1 kz) ?_
    refine own_via (fun t kz => XS.aloadN X11.here hx rfl (hb hby d6_20) rfl rfl kz) ?_
    refine own_via (fun t kz => XS.iloadN X11.here hx rfl (hb hby d6_21) rfl kz) ?_
    refine own_via (fun t kz => XS.iloadN X11.here hx rfl (hb hby d6_22) rfl kz) ?_
    show own_Go p e below _ (T11.setTop (mkF m 23 #[oR p0, oI (0 : Int32), oI (6 : Int32), oR a1, oI (0 : Int32), .unset] [(.int (6 : Int32)), (.int (0 : Int32)), (.ref p0)]))
    obtain ⟨_, _, ⟨T17, L17, k17, n17⟩, -, X17, ⟨Lc17, hQ17, l17, y17, z17⟩, st17⟩ := Jvm.LawKit.callS X11 hx (y := (⟨"java/lang/StringUTF16", "toBytes", "([CII)[B"⟩ : MethodName)) hown (mvT hZ (own_w hw 97)) (mvT hZ (own_w hw 98)) (mvT hZ (own_w hw 29)) (mvT hZ (own_w hw 99)) (by decide) (backOf (W := 0) (rmT6 l Z a0 hw [] p0 kc c0_ c1_ c2_ c3_ c4_ c5_ wcs wsf T11.heap n0 Zs15 V14 O13 hcs rsf B_wcs B_wsf B_wad B_whi B_wlo) hZ (own_w hw 99) (own_w hw 29) (by decide) (by decide)) (g := (mkF m 23 #[oR p0, oI (0 : Int32), oI (6 : Int32), oR a1, oI (0 : Int32), .unset] [(.int (6 : Int32)), (.int (0 : Int32)), (.ref p0)])) rfl (by rw [hml]; rfl) (argsL := [(.ref p0), (.int (0 : Int32)), (.int (6 : Int32))]) (rest := []) (lenOf pd_6_1 rfl) rfl (by show 2 * 0 + _ ≤ _; exact Nat.le_of_eq rfl) (hb hby d6_23) (fun _ _ => ⟨rfl, rfl, (by decide : 1 + 1 ≤ _), (by decide : 6 + 12 ≤ _)⟩)
    dsimp only [Pt.U, Pt.locs, Pt.cells, Pt.slots] at X17 l17 y17 z17 st17 hQ17
    subst l17 y17 z17
    obtain ⟨rfl, Nq17, Kc17, kb17, Vc17⟩ := hQ17
    have N18 := Fr.app N12 Nq17
    refine own_via st17 ?_
    obtain ⟨a17, g17⟩ : ∃ z, z = T11.heap.size := ⟨_, rfl⟩
    rw [← g17] at Vc17 ⊢
    have lt19 : p0 < a17 := Nat.lt_of_lt_of_le V14.lt (Nat.le_of_eq g17.symm)
    have fr20 : n0 ≤ a17 := Nat.le_trans Zs15 (Nat.le_of_eq g17.symm)
    have hf21 : h0.size ≤ a17 := Nat.le_trans K16.1 (Nat.le_of_eq g17.symm)
    have O22 : Old Z n0 T17.heap := O13.keep Kc17 all0
    have V23 := V14.keep Kc17 nin0
    have Zs24 : n0 ≤ T17.heap.size := Nat.le_trans Zs15 Kc17.1
    have K25 : Keep h0 T17.heap [] := K16.trans Kc17 all0
    refine own_via (fun t kz => XS.astore X17.here hx rfl (hb hby d6_26) rfl rfl (l' := #[oR p0, oI (0 : Int32), oI (6 : Int32), oR a1, oI (0 : Int32), oR a17]) rfl kz) ?_
    refine own_via (fun t kz => XS.aload X17.here hx rfl (hb hby d6_28) rfl rfl kz) ?_
    refine own_via (fun t kz => XS.iload X17.here hx rfl (hb hby d6_30) rfl kz) ?_
    show own_Go p e below _ (T17.setTop (mkF m 32 #[oR p0, oI (0 : Int32), oI (6 : Int32), oR a1, oI (0 : Int32), oR a17] [(.int (0 : Int32)), (.ref a17)]))
    obtain ⟨_, _, ⟨T26, L26, k26, n26⟩, -, X26, ⟨Lc26, hQ26, l26, y26, z26⟩, st26⟩ := Jvm.LawKit.callS X17 hx (y := (⟨"java/lang/StringUTF16", "getChar", "([BI)C"⟩ : MethodName)) hown (mvT hZ (own_w hw 113)) (mvT hZ (own_w hw 114)) (mvT hZ (own_w hw 29)) (mvT hZ (own_w hw 115)) (by decide) (backOf (W := 0) (rmG6_0 l Z a0 hw [] a17 (1 : Int32) (0 : Int32) (8 : Int32) kb17 ((c0_ >>> ((0 : Int32) &&& 31)).toInt8.toInt32) ((c0_ >>> ((8 : Int32) &&& 31)).toInt8.toInt32) ((c1_ >>> ((0 : Int32) &&& 31)).toInt8.toInt32) ((c1_ >>> ((8 : Int32) &&& 31)).toInt8.toInt32) ((c2_ >>> ((0 : Int32) &&& 31)).toInt8.toInt32) ((c2_ >>> ((8 : Int32) &&& 31)).toInt8.toInt32) ((c3_ >>> ((0 : Int32) &&& 31)).toInt8.toInt32) ((c3_ >>> ((8 : Int32) &&& 31)).toInt8.toInt32) ((c4_ >>> ((0 : Int32) &&& 31)).toInt8.toInt32) ((c4_ >>> ((8 : Int32) &&& 31)).toInt8.toInt32) ((c5_ >>> ((0 : Int32) &&& 31)).toInt8.toInt32) ((c5_ >>> ((8 : Int32) &&& 31)).toInt8.toInt32) c0_ T17.heap n0 Zs24 rfl (B_wad.ext O22.2) (B_whi.ext O22.2) (B_wlo.ext O22.2) Vc17 (by unfold fG6_0; exact own_utf hc0)) hZ (own_w hw 115) (own_w hw 29) (by decide) (by decide)) (g := (mkF m 32 #[oR p0, oI (0 : Int32), oI (6 : Int32), oR a1, oI (0 : Int32), oR a17] [(.int (0 : Int32)), (.ref a17)])) rfl (by rw [hml]; rfl) (argsL := [(.ref a17), (.int (0 : Int32))]) (rest := []) (lenOf pd_6_2 rfl) rfl (by show 2 * 0 + _ ≤ _; exact Nat.le_of_eq rfl) (hb hby d6_32) (fun _ _ => ⟨rfl, rfl, (by decide : 2 + 0 ≤ _), (by decide : 18 + 0 ≤ _)⟩)
    dsimp only [Pt.U, Pt.locs, Pt.cells, Pt.slots] at X26 l26 y26 z26 st26 hQ26
    subst l26 y26 z26
    obtain ⟨rfl, Nq26, e26⟩ := hQ26
    have N27 := Fr.app N18 Nq26
    refine own_via st26 ?_
    refine own_via (fun t kz => XS.sipush X26.here hx rfl (hb hby d6_35) kz) ?_
    show own_Go p e below _ (T26.setTop (mkF m 38 #[oR p0, oI (0 : Int32), oI (6 : Int32), oR a1, oI (0 : Int32), oR a17] [(.int (255 : Int32)), (.int c0_)]))
    refine own_via (fun t kz => XS.icmpYes X26.here hx rfl (pc0 := 38) (pc' := 54) rfl (hb hby d6_38) rfl (tlt hc9_10).2.2.1 (by decide) (by decide) kz) ?_
    refine own_via (fun t kz => XS.aload X26.here hx rfl (hb hby d6_54) rfl rfl kz) ?_
    show own_Go p e below _ (T26.setTop (mkF m 56 #[oR p0, oI (0 : Int32), oI (6 : Int32), oR a1, oI (0 : Int32), oR a17] [(.ref a17)]))
    obtain ⟨fs, hr, hrun, hended, hW, hsame⟩ := X26.leave (v := some (.ref a17)) (fun h => by rw [Bd.returns] at h; cases h)
    refine ⟨_, _, retOut X26 hx (i := .areturn) Bd.returns rfl (Or.inr (Or.inr (Or.inr (Or.inr ⟨rfl, rfl, rfl⟩)))) (hb hby d6_56) hr, hrun, hended, _, _, rfl, ?_, ⟨_, rfl⟩, hW, hsame.mono (by decide) (by decide)⟩
    show QB6 Z p0 kc c0_ c1_ c2_ c3_ c4_ c5_ wcs wsf h0 n0 _ T26.heap _
    rw [e26]
    exact ⟨a17, rfl, N27, K25, hf21, Or.inr ⟨_, Vc17⟩⟩
  · by_cases hc9_29 : (255 : Int32) < c1_
    · obtain ⟨_, _, ⟨T30, L30, k30, n30⟩, -, X30, ⟨Lc30, hQ30, l30, y30, z30⟩, st30⟩ := Jvm.LawKit.callS X1 hx (y := (⟨"java/lang/StringUTF16", "compress", "([CI[BII)I"⟩ : MethodName)) hown (mvT hZ (own_w hw 32)) (mvT hZ (own_w hw 33)) (mvT hZ (own_w hw 29)) (mvT hZ (own_w hw 34)) (by decide) (backOf (W := 0) (rmK6 l Z a0 hw [] p0 a1 kc k1 c0_ c1_ c2_ c3_ c4_ c5_ (1 : Int32) h1 n0 Zs7 fr3 (Nat.ne_of_lt lt2) V6 V9 (by unfold own_cnt6; rw [if_neg hc9_10, if_pos hc9_29])) hZ (own_w hw 34) (own_w hw 29) (by decide) (by decide)) (g := (mkF m 9 #[oR p0, oI (0 : Int32), oI (6 : Int32), oR a1, .unset, .unset] [(.int (6 : Int32)), (.int (0 : Int32)), (.ref a1), (.int (0 : Int32)), (.ref p0)])) rfl (by rw [hml]; rfl) (argsL := [(.ref p0), (.int (0 : Int32)), (.ref a1), (.int (0 : Int32)), (.int (6 : Int32))]) (rest := []) (lenOf pd_6_0 rfl) rfl (by show 2 * 0 + _ ≤ _; exact Nat.le_of_eq rfl) (hb hby d6_9) (fun _ _ => ⟨rfl, e1, (by decide : 1 + 0 ≤ _), (by decide : 6 + 0 ≤ _)⟩)
      dsimp only [Pt.U, Pt.locs, Pt.cells, Pt.slots] at X30 l30 y30 z30 st30 hQ30
      subst l30 y30 z30
      obtain ⟨rfl, Nq30, Kc30, Im30⟩ := hQ30
      have N31 := Fr.app N0 Nq30
      refine own_via st30 ?_
      have O32 : Old Z n0 T30.heap := O5.keep Kc30 (allS fr3 all0)
      have V33 := V6.keep Kc30 (ninS (Nat.ne_of_lt lt2) nin0)
      have Zs34 : n0 ≤ T30.heap.size := Nat.le_trans Zs7 Kc30.1
      have K35 : Keep h0 T30.heap [] := K8.trans Kc30 (allS (Or.inr hf4) all0)
      refine own_via (fun t kz => XS.istore X30.here hx rfl (hb hby d6_12) rfl (l' := #[oR p0, oI (0 : Int32), oI (6 : Int32), oR a1, oI (1 : Int32), .unset]) rfl kz) ?_
      refine own_via (fun t kz => XS.iload X30.here hx rfl (hb hby d6_14) rfl kz) ?_
      refine own_via (fun t kz => XS.iloadN X30.here hx rfl (hb hby d6_16) rfl kz) ?_
      show own_Go p e below _ (T30.setTop (mkF m 17 #[oR p0, oI (0 : Int32), oI (6 : Int32), oR a1, oI (1 : Int32), .unset] [(.int (6 : Int32)), (.int (1 : Int32))]))
      refine own_via (fun t kz => XS.icmpNo X30.here hx rfl (hb hby d6_17) rfl (feq (by decide : ¬ ((1 : Int32) = (6 : Int32)))).1 kz) ?_
      refine own_via (fun t kz => XS.aloadN X30.here hx rfl (hb hby d6_20) rfl rfl kz) ?_
      refine own_via (fun t kz => XS.iloadN X30.here hx rfl (hb hby d6_21) rfl kz) ?_
      refine own_via (fun t kz => XS.iloadN X30.here hx rfl (hb hby d6_22) rfl kz) ?_
      show own_Go p e below _ (T30.setTop (mkF m 23 #[oR p0, oI (0 : Int32), oI (6 : Int32), oR a1, oI (1 : Int32), .unset] [(.int (6 : Int32)), (.int (0 : Int32)), (.ref p0)]))
      obtain ⟨_, _, ⟨T36, L36, k36, n36⟩, -, X36, ⟨Lc36, hQ36, l36, y36, z36⟩, st36⟩ := Jvm.LawKit.callS X30 hx (y := (⟨"java/lang/StringUTF16", "toBytes", "([CII)[B"⟩ : MethodName)) hown (mvT hZ (own_w hw 97)) (mvT hZ (own_w hw 98)) (mvT hZ (own_w hw 29)) (mvT hZ (own_w hw 99)) (by decide) (backOf (W := 0) (rmT6 l Z a0 hw [] p0 kc c0_ c1_ c2_ c3_ c4_ c5_ wcs wsf T30.heap n0 Zs34 V33 O32 hcs rsf B_wcs B_wsf B_wad B_whi B_wlo) hZ (own_w hw 99) (own_w hw 29) (by decide) (by decide)) (g := (mkF m 23 #[oR p0, oI (0 : Int32), oI (6 : Int32), oR a1, oI (1 : Int32), .unset] [(.int (6 : Int32)), (.int (0 : Int32)), (.ref p0)])) rfl (by rw [hml]; rfl) (argsL := [(.ref p0), (.int (0 : Int32)), (.int (6 : Int32))]) (rest := []) (lenOf pd_6_1 rfl) rfl (by show 2 * 0 + _ ≤ _; exact Nat.le_of_eq rfl) (hb hby d6_23) (fun _ _ => ⟨rfl, rfl, (by decide : 1 + 1 ≤ _), (by decide : 6 + 12 ≤ _)⟩)
      dsimp only [Pt.U, Pt.locs, Pt.cells, Pt.slots] at X36 l36 y36 z36 st36 hQ36
      subst l36 y36 z36
      obtain ⟨rfl, Nq36, Kc36, kb36, Vc36⟩ := hQ36
      have N37 := Fr.app N31 Nq36
      refine own_via st36 ?_
      obtain ⟨a36, g36⟩ : ∃ z, z = T30.heap.size := ⟨_, rfl⟩
      rw [← g36] at Vc36 ⊢
      have lt38 : p0 < a36 := Nat.lt_of_lt_of_le V33.lt (Nat.le_of_eq g36.symm)
      have fr39 : n0 ≤ a36 := Nat.le_trans Zs34 (Nat.le_of_eq g36.symm)
      have hf40 : h0.size ≤ a36 := Nat.le_trans K35.1 (Nat.le_of_eq g36.symm)
      have O41 : Old Z n0 T36.heap := O32.keep Kc36 all0
      have V42 := V33.keep Kc36 nin0
      have Zs43 : n0 ≤ T36.heap.size := Nat.le_trans Zs34 Kc36.1
      have K44 : Keep h0 T36.heap [] := K35.trans Kc36 all0
      refine own_via (fun t kz => XS.astore X36.here hx rfl (hb hby d6_26) rfl rfl (l' := #[oR p0, oI (0 : Int32), oI (6 : Int32), oR a1, oI (1 : Int32), oR a36]) rfl kz) ?_
      refine own_via (fun t kz => XS.aload X36.here hx rfl (hb hby d6_28) rfl rfl kz) ?_
      refine own_via (fun t kz => XS.iload X36.here hx rfl (hb hby d6_30) rfl kz) ?_
      show own_Go p e below _ (T36.setTop (mkF m 32 #[oR p0, oI (0 : Int32), oI (6 : Int32), oR a1, oI (1 : Int32), oR a36] [(.int (1 : Int32)), (.ref a36)]))
      obtain ⟨_, _, ⟨T45, L45, k45, n45⟩, -, X45, ⟨Lc45, hQ45, l45, y45, z45⟩, st45⟩ := Jvm.LawKit.callS X36 hx (y := (⟨"java/lang/StringUTF16", "getChar", "([BI)C"⟩ : MethodName)) hown (mvT hZ (own_w hw 113)) (mvT hZ (own_w hw 114)) (mvT hZ (own_w hw 29)) (mvT hZ (own_w hw 115)) (by decide) (backOf (W := 0) (rmG6_1 l Z a0 hw [] a36 (1 : Int32) (0 : Int32) (8 : Int32) kb36 ((c0_ >>> ((0 : Int32) &&& 31)).toInt8.toInt32) ((c0_ >>> ((8 : Int32) &&& 31)).toInt8.toInt32) ((c1_ >>> ((0 : Int32) &&& 31)).toInt8.toInt32) ((c1_ >>> ((8 : Int32) &&& 31)).toInt8.toInt32) ((c2_ >>> ((0 : Int32) &&& 31)).toInt8.toInt32) ((c2_ >>> ((8 : Int32) &&& 31)).toInt8.toInt32) ((c3_ >>> ((0 : Int32) &&& 31)).toInt8.toInt32) ((c3_ >>> ((8 : Int32) &&& 31)).toInt8.toInt32) ((c4_ >>> ((0 : Int32) &&& 31)).toInt8.toInt32) ((c4_ >>> ((8 : Int32) &&& 31)).toInt8.toInt32) ((c5_ >>> ((0 : Int32) &&& 31)).toInt8.toInt32) ((c5_ >>> ((8 : Int32) &&& 31)).toInt8.toInt32) c1_ T36.heap n0 Zs43 rfl (B_wad.ext O41.2) (B_whi.ext O41.2) (B_wlo.ext O41.2) Vc36 (by unfold fG6_1; exact own_utf hc1)) hZ (own_w hw 115) (own_w hw 29) (by decide) (by decide)) (g := (mkF m 32 #[oR p0, oI (0 : Int32), oI (6 : Int32), oR a1, oI (1 : Int32), oR a36] [(.int (1 : Int32)), (.ref a36)])) rfl (by rw [hml]; rfl) (argsL := [(.ref a36), (.int (1 : Int32))]) (rest := []) (lenOf pd_6_2 rfl) rfl (by show 2 * 0 + _ ≤ _; exact Nat.le_of_eq rfl) (hb hby d6_32) (fun _ _ => ⟨rfl, rfl, (by decide : 2 + 0 ≤ _), (by decide : 18 + 0 ≤ _)⟩)
      dsimp only [Pt.U, Pt.locs, Pt.cells, Pt.slots] at X45 l45 y45 z45 st45 hQ45
      subst l45 y45 z45
      obtain ⟨rfl, Nq45, e45⟩ := hQ45
      have N46 := Fr.app N37 Nq45
      refine own_via st45 ?_
      refine own_via (fun t kz => XS.sipush X45.here hx rfl (hb hby d6_35) kz) ?_
      show own_Go p e below _ (T45.setTop (mkF m 38 #[oR p0, oI (0 : Int32), oI (6 : Int32), oR a1, oI (1 : Int32), oR a36] [(.int (255 : Int32)), (.int c1_)]))
      refine own_via (fun t kz => XS.icmpYes X45.here hx rfl (pc0 := 38) (pc' := 54) rfl (hb hby d6_38) rfl (tlt hc9_29).2.2.1 (by decide) (by decide) kz) ?_
      refine own_via (fun t kz => XS.aload X45.here hx rfl (hb hby d6_54) rfl rfl kz) ?_
      show own_Go p e below _ (T45.setTop (mkF m 56 #[oR p0, oI (0 : Int32), oI (6 : Int32), oR a1, oI (1 : Int32), oR a36] [(.ref a36)]))
      obtain ⟨fs, hr, hrun, hended, hW, hsame⟩ := X45.leave (v := some (.ref a36)) (fun h => by rw [Bd.returns] at h; cases h)
      refine ⟨_, _, retOut X45 hx (i := .areturn) Bd.returns rfl (Or.inr (Or.inr (Or.inr (Or.inr ⟨rfl, rfl, rfl⟩)))) (hb hby d6_56) hr, hrun, hended, _, _, rfl, ?_, ⟨_, rfl⟩, hW, hsame.mono (by decide) (by decide)⟩
      show QB6 Z p0 kc c0_ c1_ c2_ c3_ c4_ c5_ wcs wsf h0 n0 _ T45.heap _
      rw [e45]
      exact ⟨a36, rfl, N46, K44, hf40, Or.inr ⟨_, Vc36⟩⟩
    · by_cases hc9_48 : (255 : Int32) < c2_
      · obtain ⟨_, _, ⟨T49, L49, k49, n49⟩, -, X49, ⟨Lc49, hQ49, l49, y49, z49⟩, st49⟩ := Jvm.LawKit.callS X1 hx (y := (⟨"java/lang/StringUTF16", "compress", "([CI[BII)I"⟩ : MethodName)) hown (mvT hZ (own_w hw 32)) (mvT hZ (own_w hw 33)) (mvT hZ (own_w hw 29)) (mvT hZ (own_w hw 34)) (by decide) (backOf (W := 0) (rmK6 l Z a0 hw [] p0 a1 kc k1 c0_ c1_ c2_ c3_ c4_ c5_ (2 : Int32) h1 n0 Zs7 fr3 (Nat.ne_of_lt lt2) V6 V9 (by unfold own_cnt6; rw [if_neg hc9_10, if_neg hc9_29, if_pos hc9_48])) hZ (own_w hw 34) (own_w hw 29) (by decide) (by decide)) (g := (mkF m 9 #[oR p0, oI (0 : Int32), oI (6 : Int32), oR a1, .unset, .unset] [(.int (6 : Int32)), (.int (0 : Int32)), (.ref a1), (.int (0 : Int32)), (.ref p0)])) rfl (by rw [hml]; rfl) (argsL := [(.ref p0), (.int (0 : Int32)), (.ref a1), (.int (0 : Int32)), (.int (6 : Int32))]) (rest := []) (lenOf pd_6_0 rfl) rfl (by show 2 * 0 + _ ≤ _; exact Nat.le_of_eq rfl) (hb hby d6_9) (fun _ _ => ⟨rfl, e1, (by decide : 1 + 0 ≤ _), (by decide : 6 + 0 ≤ _)⟩)
        dsimp only [Pt.U, Pt.locs, Pt.cells, Pt.slots] at X49 l49 y49 z49 st49 hQ49
        subst l49 y49 z49
        obtain ⟨rfl, Nq49, Kc49, Im49⟩ := hQ49
        have N50 := Fr.app N0 Nq49
        refine own_via st49 ?_
        have O51 : Old Z n0 T49.heap := O5.keep Kc49 (allS fr3 all0)
        have V52 := V6.keep Kc49 (ninS (Nat.ne_of_lt lt2) nin0)
        have Zs53 : n0 ≤ T49.heap.size := Nat.le_trans Zs7 Kc49.1
        have K54 : Keep h0 T49.heap [] := K8.trans Kc49 (allS (Or.inr hf4) all0)
        refine own_via (fun t kz => XS.istore X49.here hx rfl (hb hby d6_12) rfl (l' := #[oR p0, oI (0 : Int32), oI (6 : Int32), oR a1, oI (2 : Int32), .unset]) rfl kz) ?_
        refine own_via (fun t kz => XS.iload X49.here hx rfl (hb hby d6_14) rfl kz) ?_
        refine own_via (fun t kz => XS.iloadN X49.here hx rfl (hb hby d6_16) rfl kz) ?_
        show own_Go p e below _ (T49.setTop (mkF m 17 #[oR p0, oI (0 : Int32), oI (6 : Int32), oR a1, oI (2 : Int32), .unset] [(.int (6 : Int32)), (.int (2 : Int32))]))
        refine own_via (fun t kz => XS.icmpNo X49.here hx rfl (hb hby d6_17) rfl (feq (by decide : ¬ ((2 : Int32) = (6 : Int32)))).1 kz) ?_
        refine own_via (fun t kz => XS.aloadN X49.here hx rfl (hb hby d6_20) rfl rfl kz) ?_
        refine own_via (fun t kz => XS.iloadN X49.here hx rfl (hb hby d6_21) rfl kz) ?_
        refine own_via (fun t kz => XS.iloadN X49.here hx rfl (hb hby d6_22) rfl kz) ?_
        show own_Go p e below _ (T49.setTop (mkF m 23 #[oR p0, oI (0 : Int32), oI (6 : Int32), oR a1, oI (2 : Int32), .unset] [(.int (6 : Int32)), (.int (0 : Int32)), (.ref p0)]))
        obtain ⟨_, _, ⟨T55, L55, k55, n55⟩, -, X55, ⟨Lc55, hQ55, l55, y55, z55⟩, st55⟩ := Jvm.LawKit.callS X49 hx (y := (⟨"java/lang/StringUTF16", "toBytes", "([CII)[B"⟩ : MethodName)) hown (mvT hZ (own_w hw 97)) (mvT hZ (own_w hw 98)) (mvT hZ (own_w hw 29)) (mvT hZ (own_w hw 99)) (by decide) (backOf (W := 0) (rmT6 l Z a0 hw [] p0 kc c0_ c1_ c2_ c3_ c4_ c5_ wcs wsf T49.heap n0 Zs53 V52 O51 hcs rsf B_wcs B_wsf B_wad B_whi B_wlo) hZ (own_w hw 99) (own_w hw 29) (by decide) (by decide)) (g := (mkF m 23 #[oR p0, oI (0 : Int32), oI (6 : Int32), oR a1, oI (2 : Int32), .unset] [(.int (6 : Int32)), (.int (0 : Int32)), (.ref p0)])) rfl (by rw [hml]; rfl) (argsL := [(.ref p0), (.int (0 : Int32)), (.int (6 : Int32))]) (rest := []) (lenOf pd_6_1 rfl) rfl (by show 2 * 0 + _ ≤ _; exact Nat.le_of_eq rfl) (hb hby d6_23) (fun _ _ => ⟨rfl, rfl, (by decide : 1 + 1 ≤ _), (by decide : 6 + 12 ≤ _)⟩)
        dsimp only [Pt.U, Pt.locs, Pt.cells, Pt.slots] at X55 l55 y55 z55 st55 hQ55
        subst l55 y55 z55
        obtain ⟨rfl, Nq55, Kc55, kb55, Vc55⟩ := hQ55
        have N56 := Fr.app N50 Nq55
        refine own_via st55 ?_
        obtain ⟨a55, g55⟩ : ∃ z, z = T49.heap.size := ⟨_, rfl⟩
        rw [← g55] at Vc55 ⊢
        have lt57 : p0 < a55 := Nat.lt_of_lt_of_le V52.lt (Nat.le_of_eq g55.symm)
        have fr58 : n0 ≤ a55 := Nat.le_trans Zs53 (Nat.le_of_eq g55.symm)
        have hf59 : h0.size ≤ a55 := Nat.le_trans K54.1 (Nat.le_of_eq g55.symm)
        have O60 : Old Z n0 T55.heap := O51.keep Kc55 all0
        have V61 := V52.keep Kc55 nin0
        have Zs62 : n0 ≤ T55.heap.size := Nat.le_trans Zs53 Kc55.1
        have K63 : Keep h0 T55.heap [] := K54.trans Kc55 all0
        refine own_via (fun t kz => XS.astore X55.here hx rfl (hb hby d6_26) rfl rfl (l' := #[oR p0, oI (0 : Int32), oI (6 : Int32), oR a1, oI (2 : Int32), oR a55]) rfl kz) ?_
        refine own_via (fun t kz => XS.aload X55.here hx rfl (hb hby d6_28) rfl rfl kz) ?_
        refine own_via (fun t kz => XS.iload X55.here hx rfl (hb hby d6_30) rfl kz) ?_
        show own_Go p e below _ (T55.setTop (mkF m 32 #[oR p0, oI (0 : Int32), oI (6 : Int32), oR a1, oI (2 : Int32), oR a55] [(.int (2 : Int32)), (.ref a55)]))
        obtain ⟨_, _, ⟨T64, L64, k64, n64⟩, -, X64, ⟨Lc64, hQ64, l64, y64, z64⟩, st64⟩ := Jvm.LawKit.callS X55 hx (y := (⟨"java/lang/StringUTF16", "getChar", "([BI)C"⟩ : MethodName)) hown (mvT hZ (own_w hw 113)) (mvT hZ (own_w hw 114)) (mvT hZ (own_w hw 29)) (mvT hZ (own_w hw 115)) (by decide) (backOf (W := 0) (rmG6_2 l Z a0 hw [] a55 (1 : Int32) (0 : Int32) (8 : Int32) kb55 ((c0_ >>> ((0 : Int32) &&& 31)).toInt8.toInt32) ((c0_ >>> ((8 : Int32) &&& 31)).toInt8.toInt32) ((c1_ >>> ((0 : Int32) &&& 31)).toInt8.toInt32) ((c1_ >>> ((8 : Int32) &&& 31)).toInt8.toInt32) ((c2_ >>> ((0 : Int32) &&& 31)).toInt8.toInt32) ((c2_ >>> ((8 : Int32) &&& 31)).toInt8.toInt32) ((c3_ >>> ((0 : Int32) &&& 31)).toInt8.toInt32) ((c3_ >>> ((8 : Int32) &&& 31)).toInt8.toInt32) ((c4_ >>> ((0 : Int32) &&& 31)).toInt8.toInt32) ((c4_ >>> ((8 : Int32) &&& 31)).toInt8.toInt32) ((c5_ >>> ((0 : Int32) &&& 31)).toInt8.toInt32) ((c5_ >>> ((8 : Int32) &&& 31)).toInt8.toInt32) c2_ T55.heap n0 Zs62 rfl (B_wad.ext O60.2) (B_whi.ext O60.2) (B_wlo.ext O60.2) Vc55 (by unfold fG6_2; exact own_utf hc2)) hZ (own_w hw 115) (own_w hw 29) (by decide) (by decide)) (g := (mkF m 32 #[oR p0, oI (0 : Int32), oI (6 : Int32), oR a1, oI (2 : Int32), oR a55] [(.int (2 : Int32)), (.ref a55)])) rfl (by rw [hml]; rfl) (argsL := [(.ref a55), (.int (2 : Int32))]) (rest := []) (lenOf pd_6_2 rfl) rfl (by show 2 * 0 + _ ≤ _; exact Nat.le_of_eq rfl) (hb hby d6_32) (fun _ _ => ⟨rfl, rfl, (by decide : 2 + 0 ≤ _), (by decide : 18 + 0 ≤ _)⟩)
        dsimp only [Pt.U, Pt.locs, Pt.cells, Pt.slots] at X64 l64 y64 z64 st64 hQ64
        subst l64 y64 z64
        obtain ⟨rfl, Nq64, e64⟩ := hQ64
        have N65 := Fr.app N56 Nq64
        refine own_via st64 ?_
        refine own_via (fun t kz => XS.sipush X64.here hx rfl (hb hby d6_35) kz) ?_
        show own_Go p e below _ (T64.setTop (mkF m 38 #[oR p0, oI (0 : Int32), oI (6 : Int32), oR a1, oI (2 : Int32), oR a55] [(.int (255 : Int32)), (.int c2_)]))
        refine own_via (fun t kz => XS.icmpYes X64.here hx rfl (pc0 := 38) (pc' := 54) rfl (hb hby d6_38) rfl (tlt hc9_48).2.2.1 (by decide) (by decide) kz) ?_
        refine own_via (fun t kz => XS.aload X64.here hx rfl (hb hby d6_54) rfl rfl kz) ?_
        show own_Go p e below _ (T64.setTop (mkF m 56 #[oR p0, oI (0 : Int32), oI (6 : Int32), oR a1, oI (2 : Int32), oR a55] [(.ref a55)]))
        obtain ⟨fs, hr, hrun, hended, hW, hsame⟩ := X64.leave (v := some (.ref a55)) (fun h => by rw [Bd.returns] at h; cases h)
        refine ⟨_, _, retOut X64 hx (i := .areturn) Bd.returns rfl (Or.inr (Or.inr (Or.inr (Or.inr ⟨rfl, rfl, rfl⟩)))) (hb hby d6_56) hr, hrun, hended, _, _, rfl, ?_, ⟨_, rfl⟩, hW, hsame.mono (by decide) (by decide)⟩
        show QB6 Z p0 kc c0_ c1_ c2_ c3_ c4_ c5_ wcs wsf h0 n0 _ T64.heap _
        rw [e64]
        exact ⟨a55, rfl, N65, K63, hf59, Or.inr ⟨_, Vc55⟩⟩
      · by_cases hc9_67 : (255 : Int32) < c3_
        · obtain ⟨_, _, ⟨T68, L68, k68, n68⟩, -, X68, ⟨Lc68, hQ68, l68, y68, z68⟩, st68⟩ := Jvm.LawKit.callS X1 hx (y := (⟨"java/lang/StringUTF16", "compress", "([CI[BII)I"⟩ : MethodName)) hown (mvT hZ (own_w hw 32)) (mvT hZ (own_w hw 33)) (mvT hZ (own_w hw 29)) (mvT hZ (own_w hw 34)) (by decide) (backOf (W := 0) (rmK6 l Z a0 hw [] p0 a1 kc k1 c0_ c1_ c2_ c3_ c4_ c5_ (3 : Int32) h1 n0 Zs7 fr3 (Nat.ne_of_lt lt2) V6 V9 (by unfold own_cnt6; rw [if_neg hc9_10, if_neg hc9_29, if_neg hc9_48, if_pos hc9_67])) hZ (own_w hw 34) (own_w hw 29) (by decide) (by decide)) (g := (mkF m 9 #[oR p0, oI (0 : Int32), oI (6 : Int32), oR a1, .unset, .unset] [(.int (6 : Int32)), (.int (0 : Int32)), (.ref a1), (.int (0 : Int32)), (.ref p0)])) rfl (by rw [hml]; rfl) (argsL := [(.ref p0), (.int (0 : Int32)), (.ref a1), (.int (0 : Int32)), (.int (6 : Int32))]) (rest := []) (lenOf pd_6_0 rfl) rfl (by show 2 * 0 + _ ≤ _; exact Nat.le_of_eq rfl) (hb hby d6_9) (fun _ _ => ⟨rfl, e1, (by decide : 1 + 0 ≤ _), (by decide : 6 + 0 ≤ _)⟩)
          dsimp only [Pt.U, Pt.locs, Pt.cells, Pt.slots] at X68 l68 y68 z68 st68 hQ68
          subst l68 y68 z68
          obtain ⟨rfl, Nq68, Kc68, Im68⟩ := hQ68
          have N69 := Fr.app N0 Nq68
          refine own_via st68 ?_
          have O70 : Old Z n0 T68.heap := O5.keep Kc68 (allS fr3 all0)
          have V71 := V6.keep Kc68 (ninS (Nat.ne_of_lt lt2) nin0)
          have Zs72 : n0 ≤ T68.heap.size := Nat.le_trans Zs7 Kc68.1
          have K73 : Keep h0 T68.heap [] := K8.trans Kc68 (allS (Or.inr hf4) all0)
          refine own_via (fun t kz => XS.istore X68.here hx rfl (hb hby d6_12) rfl (l' := #[oR p0, oI (0 : Int32), oI (6 : Int32), oR a1, oI (3 : Int32), .unset]) rfl kz) ?_
          refine own_via (fun t kz => XS.iload X68.here hx rfl (hb hby d6_14) rfl kz) ?_
          refine own_via (fun t kz => XS.iloadN X68.here hx rfl (hb hby d6_16) rfl kz) ?_
          show own_Go p e below _ (T68.setTop (mkF m 17 #[oR p0, oI (0 : Int32), oI (6 : Int32), oR a1, oI (3 : Int32), .unset] [(.int (6 : Int32)), (.int (3 : Int32))]))
          refine own_via (fun t kz => XS.icmpNo X68.here hx rfl (hb hby d6_17) rfl (feq (by decide : ¬ ((3 : Int32) = (6 : Int32)))).1 kz) ?_
          refine own_via (fun t kz => XS.aloadN X68.here hx rfl (hb hby d6_20) rfl rfl kz) ?_
          refine own_via (fun t kz => XS.iloadN X68.here hx rfl (hb hby d6_21) rfl kz) ?_
          refine own_via (fun t kz => XS.iloadN X68.here hx rfl (hb hby d6_22) rfl kz) ?_
          show own_Go p e below _ (T68.setTop (mkF m 23 #[oR p0, oI (0 : Int32), oI (6 : Int32), oR a1, oI (3 : Int32), .unset] [(.int (6 : Int32)), (.int (0 : Int32)), (.ref p0)]))
          obtain ⟨_, _, ⟨T74, L74, k74, n74⟩, -, X74, ⟨Lc74, hQ74, l74, y74, z74⟩, st74⟩ := Jvm.LawKit.callS X68 hx (y := (⟨"java/lang/StringUTF16", "toBytes", "([CII)[B"⟩ : MethodName)) hown (mvT hZ (own_w hw 97)) (mvT hZ (own_w hw 98)) (mvT hZ (own_w hw 29)) (mvT hZ (own_w hw 99)) (by decide) (backOf (W := 0) (rmT6 l Z a0 hw [] p0 kc c0_ c1_ c2_ c3_ c4_ c5_ wcs wsf T68.heap n0 Zs72 V71 O70 hcs rsf B_wcs B_wsf B_wad B_whi B_wlo) hZ (own_w hw 99) (own_w hw 29) (by decide) (by decide)) (g := (mkF m 23 #[oR p0, oI (0 : Int32), oI (6 : Int32), oR a1, oI (3 : Int32), .unset] [(.int (6 : Int32)), (.int (0 : Int32)), (.ref p0)])) rfl (by rw [hml]; rfl) (argsL := [(.ref p0), (.int (0 : Int32)), (.int (6 : Int32))]) (rest := []) (lenOf pd_6_1 rfl) rfl (by show 2 * 0 + _ ≤ _; exact Nat.le_of_eq rfl) (hb hby d6_23) (fun _ _ => ⟨rfl, rfl, (by decide : 1 + 1 ≤ _), (by decide : 6 + 12 ≤ _)⟩)
          dsimp only [Pt.U, Pt.locs, Pt.cells, Pt.slots] at X74 l74 y74 z74 st74 hQ74
          subst l74 y74 z74
          obtain ⟨rfl, Nq74, Kc74, kb74, Vc74⟩ := hQ74
          have N75 := Fr.app N69 Nq74
          refine own_via st74 ?_
          obtain ⟨a74, g74⟩ : ∃ z, z = T68.heap.size := ⟨_, rfl⟩
          rw [← g74] at Vc74 ⊢
          have lt76 : p0 < a74 := Nat.lt_of_lt_of_le V71.lt (Nat.le_of_eq g74.symm)
          have fr77 : n0 ≤ a74 := Nat.le_trans Zs72 (Nat.le_of_eq g74.symm)
          have hf78 : h0.size ≤ a74 := Nat.le_trans K73.1 (Nat.le_of_eq g74.symm)
          have O79 : Old Z n0 T74.heap := O70.keep Kc74 all0
          have V80 := V71.keep Kc74 nin0
          have Zs81 : n0 ≤ T74.heap.size := Nat.le_trans Zs72 Kc74.1
          have K82 : Keep h0 T74.heap [] := K73.trans Kc74 all0
          refine own_via (fun t kz => XS.astore X74.here hx rfl (hb hby d6_26) rfl rfl (l' := #[oR p0, oI (0 : Int32), oI (6 : Int32), oR a1, oI (3 : Int32), oR a74]) rfl kz) ?_
          refine own_via (fun t kz => XS.aload X74.here hx rfl (hb hby d6_28) rfl rfl kz) ?_
          refine own_via (fun t kz => XS.iload X74.here hx rfl (hb hby d6_30) rfl kz) ?_
          show own_Go p e below _ (T74.setTop (mkF m 32 #[oR p0, oI (0 : Int32), oI (6 : Int32), oR a1, oI (3 : Int32), oR a74] [(.int (3 : Int32)), (.ref a74)]))
          obtain ⟨_, _, ⟨T83, L83, k83, n83⟩, -, X83, ⟨Lc83, hQ83, l83, y83, z83⟩, st83⟩ := Jvm.LawKit.callS X74 hx (y := (⟨"java/lang/StringUTF16", "getChar", "([BI)C"⟩ : MethodName)) hown (mvT hZ (own_w hw 113)) (mvT hZ (own_w hw 114)) (mvT hZ (own_w hw 29)) (mvT hZ (own_w hw 115)) (by decide) (backOf (W := 0) (rmG6_3 l Z a0 hw [] a74 (1 : Int32) (0 : Int32) (8 : Int32) kb74 ((c0_ >>> ((0 : Int32) &&& 31)).toInt8.toInt32) ((c0_ >>> ((8 : Int32) &&& 31)).toInt8.toInt32) ((c1_ >>> ((0 : Int32) &&& 31)).toInt8.toInt32) ((c1_ >>> ((8 : Int32) &&& 31)).toInt8.toInt32) ((c2_ >>> ((0 : Int32) &&& 31)).toInt8.toInt32) ((c2_ >>> ((8 : Int32) &&& 31)).toInt8.toInt32) ((c3_ >>> ((0 : Int32) &&& 31)).toInt8.toInt32) ((c3_ >>> ((8 : Int32) &&& 31)).toInt8.toInt32) ((c4_ >>> ((0 : Int32) &&& 31)).toInt8.toInt32) ((c4_ >>> ((8 : Int32) &&& 31)).toInt8.toInt32) ((c5_ >>> ((0 : Int32) &&& 31)).toInt8.toInt32) ((c5_ >>> ((8 : Int32) &&& 31)).toInt8.toInt32) c3_ T74.heap n0 Zs81 rfl (B_wad.ext O79.2) (B_whi.ext O79.2) (B_wlo.ext O79.2) Vc74 (by unfold fG6_3; exact own_utf hc3)) hZ (own_w hw 115) (own_w hw 29) (by decide) (by decide)) (g := (mkF m 32 #[oR p0, oI (0 : Int32), oI (6 : Int32), oR a1, oI (3 : Int32), oR a74] [(.int (3 : Int32)), (.ref a74)])) rfl (by rw [hml]; rfl) (argsL := [(.ref a74), (.int (3 : Int32))]) (rest := []) (lenOf pd_6_2 rfl) rfl (by show 2 * 0 + _ ≤ _; exact Nat.le_of_eq rfl) (hb hby d6_32) (fun _ _ => ⟨rfl, rfl, (by decide : 2 + 0 ≤ _), (by decide : 18 + 0 ≤ _)⟩)
          dsimp only [Pt.U, Pt.locs, Pt.cells, Pt.slots] at X83 l83 y83 z83 st83 hQ83
          subst l83 y83 z83
          obtain ⟨rfl, Nq83, e83⟩ := hQ83
          have N84 := Fr.app N75 Nq83
          refine own_via st83 ?_
          refine own_via (fun t kz => XS.sipush X83.here hx rfl (hb hby d6_35) kz) ?_
          show own_Go p e below _ (T83.setTop (mkF m 38 #[oR p0, oI (0 : Int32), oI (6 : Int32), oR a1, oI (3 : Int32), oR a74] [(.int (255 : Int32)), (.int c3_)]))
          refine own_via (fun t kz => XS.icmpYes X83.here hx rfl (pc0 := 38) (pc' := 54) rfl (hb hby d6_38) rfl (tlt hc9_67).2.2.1 (by decide) (by decide) kz) ?_
          refine own_via (fun t kz => XS.aload X83.here hx rfl (hb hby d6_54) rfl rfl kz) ?_
          show own_Go p e below _ (T83.setTop (mkF m 56 #[oR p0, oI (0 : Int32), oI (6 : Int32), oR a1, oI (3 : Int32), oR a74] [(.ref a74)]))
          obtain ⟨fs, hr, hrun, hended, hW, hsame⟩ := X83.leave (v := some (.ref a74)) (fun h => by rw [Bd.returns] at h; cases h)
          refine ⟨_, _, retOut X83 hx (i := .areturn) Bd.returns rfl (Or.inr (Or.inr (Or.inr (Or.inr ⟨rfl, rfl, rfl⟩)))) (hb hby d6_56) hr, hrun, hended, _, _, rfl, ?_, ⟨_, rfl⟩, hW, hsame.mono (by decide) (by decide)⟩
          show QB6 Z p0 kc c0_ c1_ c2_ c3_ c4_ c5_ wcs wsf h0 n0 _ T83.heap _
          rw [e83]
          exact ⟨a74, rfl, N84, K82, hf78, Or.inr ⟨_, Vc74⟩⟩
        · by_cases hc9_86 : (255 : Int32) < c4_
          · obtain ⟨_, _, ⟨T87, L87, k87, n87⟩, -, X87, ⟨Lc87, hQ87, l87, y87, z87⟩, st87⟩ := Jvm.LawKit.callS X1 hx (y := (⟨"java/lang/StringUTF16", "compress", "([CI[BII)I"⟩ : MethodName)) hown (mvT hZ (own_w hw 32)) (mvT hZ (own_w hw 33)) (mvT hZ (own_w hw 29)) (mvT hZ (own_w hw 34)) (by decide) (backOf (W := 0) (rmK6 l Z a0 hw [] p0 a1 kc k1 c0_ c1_ c2_ c3_ c4_ c5_ (4 : Int32) h1 n0 Zs7 fr3 (Nat.ne_of_lt lt2) V6 V9 (by unfold own_cnt6; rw [if_neg hc9_10, if_neg hc9_29, if_neg hc9_48, if_neg hc9_67, if_pos hc9_86])) hZ (own_w hw 34) (own_w hw 29) (by decide) (by decide)) (g := (mkF m 9 #[oR p0, oI (0 : Int32), oI (6 : Int32), oR a1, .unset, .unset] [(.int (6 : Int32)), (.int (0 : Int32)), (.ref a1), (.int (0 : Int32)), (.ref p0)])) rfl (by rw [hml]; rfl) (argsL := [(.ref p0), (.int (0 : Int32)), (.ref a1), (.int (0 : Int32)), (.int (6 : Int32))]) (rest := []) (lenOf pd_6_0 rfl) rfl (by show 2 * 0 + _ ≤ _; exact Nat.le_of_eq rfl) (hb hby d6_9) (fun _ _ => ⟨rfl, e1, (by decide : 1 + 0 ≤ _), (by decide : 6 + 0 ≤ _)⟩)
            dsimp only [Pt.U, Pt.locs, Pt.cells, Pt.slots] at X87 l87 y87 z87 st87 hQ87
            subst l87 y87 z87
            obtain ⟨rfl, Nq87, Kc87, Im87⟩ := hQ87
            have N88 := Fr.app N0 Nq87
            refine own_via st87 ?_
            have O89 : Old Z n0 T87.heap := O5.keep Kc87 (allS fr3 all0)
            have V90 := V6.keep Kc87 (ninS (Nat.ne_of_lt lt2) nin0)
            have Zs91 : n0 ≤ T87.heap.size := Nat.le_trans Zs7 Kc87.1
            have K92 : Keep h0 T87.heap [] := K8.trans Kc87 (allS (Or.inr hf4) all0)
            refine own_via (fun t kz => XS.istore X87.here hx rfl (hb hby d6_12) rfl (l' := #[oR p0, oI (0 : Int32), oI (6 : Int32), oR a1, oI (4 : Int32), .unset]) rfl kz) ?_
            refine own_via (fun t kz => XS.iload X87.here hx rfl (hb hby d6_14) rfl kz) ?_
            refine own_via (fun t kz => XS.iloadN X87.here hx rfl (hb hby d6_16) rfl kz) ?_
            show own_Go p e below _ (T87.setTop (mkF m 17 #[oR p0, oI (0 : Int32), oI (6 : Int32), oR a1, oI (4 : Int32), .unset] [(.int (6 : Int32)), (.int (4 : Int32))]))
            refine own_via (fun t kz => XS.icmpNo X87.here hx rfl (hb hby d6_17) rfl (feq (by decide : ¬ ((4 : Int32) = (6 : Int32)))).1 kz) ?_
            refine own_via (fun t kz => XS.aloadN X87.here hx rfl (hb hby d6_20) rfl rfl kz) ?_
            refine own_via (fun t kz => XS.iloadN X87.here hx rfl (hb hby d6_21) rfl kz) ?_
            refine own_via (fun t kz => XS.iloadN X87.here hx rfl (hb hby d6_22) rfl kz) ?_
            show own_Go p e below _ (T87.setTop (mkF m 23 #[oR p0, oI (0 : Int32), oI (6 : Int32), oR a1, oI (4 : Int32), .unset] [(.int (6 : Int32)), (.int (0 : Int32)), (.ref p0)]))
            obtain ⟨_, _, ⟨T93, L93, k93, n93⟩, -, X93, ⟨Lc93, hQ93, l93, y93, z93⟩, st93⟩ := Jvm.LawKit.callS X87 hx (y := (⟨"java/lang/StringUTF16", "toBytes", "([CII)[B"⟩ : MethodName)) hown (mvT hZ (own_w hw 97)) (mvT hZ (own_w hw 98)) (mvT hZ (own_w hw 29)) (mvT hZ (own_w hw 99)) (by decide) (backOf (W := 0) (rmT6 l Z a0 hw [] p0 kc c0_ c1_ c2_ c3_ c4_ c5_ wcs wsf T87.heap n0 Zs91 V90 O89 hcs rsf B_wcs B_wsf B_wad B_whi B_wlo) hZ (own_w hw 99) (own_w hw 29) (by decide) (by decide)) (g := (mkF m 23 #[oR p0, oI (0 : Int32), oI (6 : Int32), oR a1, oI (4 : Int32), .unset] [(.int (6 : Int32)), (.int (0 : Int32)), (.ref p0)])) rfl (by rw [hml]; rfl) (argsL := [(.ref p0), (.int (0 : Int32)), (.int (6 : Int32))]) (rest := []) (lenOf pd_6_1 rfl) rfl (by show 2 * 0 + _ ≤ _; exact Nat.le_of_eq rfl) (hb hby d6_23) (fun _ _ => ⟨rfl, rfl, (by decide : 1 + 1 ≤ _), (by decide : 6 + 12 ≤ _)⟩)
            dsimp only [Pt.U, Pt.locs, Pt.cells, Pt.slots] at X93 l93 y93 z93 st93 hQ93
            subst l93 y93 z93
            obtain ⟨rfl, Nq93, Kc93, kb93, Vc93⟩ := hQ93
            have N94 := Fr.app N88 Nq93
            refine own_via st93 ?_
            obtain ⟨a93, g93⟩ : ∃ z, z = T87.heap.size := ⟨_, rfl⟩
            rw [← g93] at Vc93 ⊢
            have lt95 : p0 < a93 := Nat.lt_of_lt_of_le V90.lt (Nat.le_of_eq g93.symm)
            have fr96 : n0 ≤ a93 := Nat.le_trans Zs91 (Nat.le_of_eq g93.symm)
            have hf97 : h0.size ≤ a93 := Nat.le_trans K92.1 (Nat.le_of_eq g93.symm)
            have O98 : Old Z n0 T93.heap := O89.keep Kc93 all0
            have V99 := V90.keep Kc93 nin0
            have Zs100 : n0 ≤ T93.heap.size := Nat.le_trans Zs91 Kc93.1
            have K101 : Keep h0 T93.heap [] := K92.trans Kc93 all0
            refine own_via (fun t kz => XS.astore X93.here hx rfl (hb hby d6_26) rfl rfl (l' := #[oR p0, oI (0 : Int32), oI (6 : Int32), oR a1, oI (4 : Int32), oR a93]) rfl kz) ?_
            refine own_via (fun t kz => XS.aload X93.here hx rfl (hb hby d6_28) rfl rfl kz) ?_
            refine own_via (fun t kz => XS.iload X93.here hx rfl (hb hby d6_30) rfl kz) ?_
            show own_Go p e below _ (T93.setTop (mkF m 32 #[oR p0, oI (0 : Int32), oI (6 : Int32), oR a1, oI (4 : Int32), oR a93] [(.int (4 : Int32)), (.ref a93)]))
            obtain ⟨_, _, ⟨T102, L102, k102, n102⟩, -, X102, ⟨Lc102, hQ102, l102, y102, z102⟩, st102⟩ := Jvm.LawKit.callS X93 hx (y := (⟨"java/lang/StringUTF16", "getChar", "([BI)C"⟩ : MethodName)) hown (mvT hZ (own_w hw 113)) (mvT hZ (own_w hw 114)) (mvT hZ (own_w hw 29)) (mvT hZ (own_w hw 115)) (by decide) (backOf (W := 0) (rmG6_4 l Z a0 hw [] a93 (1 : Int32) (0 : Int32) (8 : Int32) kb93 ((c0_ >>> ((0 : Int32) &&& 31)).toInt8.toInt32) ((c0_ >>> ((8 : Int32) &&& 31)).toInt8.toInt32) ((c1_ >>> ((0 : Int32) &&& 31)).toInt8.toInt32) ((c1_ >>> ((8 : Int32) &&& 31)).toInt8.toInt32) ((c2_ >>> ((0 : Int32) &&& 31)).toInt8.toInt32) ((c2_ >>> ((8 : Int32) &&& 31)).toInt8.toInt32) ((c3_ >>> ((0 : Int32) &&& 31)).toInt8.toInt32) ((c3_ >>> ((8 : Int32) &&& 31)).toInt8.toInt32) ((c4_ >>> ((0 : Int32) &&& 31)).toInt8.toInt32) ((c4_ >>> ((8 : Int32) &&& 31)).toInt8.toInt32) ((c5_ >>> ((0 : Int32) &&& 31)).toInt8.toInt32) ((c5_ >>> ((8 : Int32) &&& 31)).toInt8.toInt32) c4_ T93.heap n0 Zs100 rfl (B_wad.ext O98.2) (B_whi.ext O98.2) (B_wlo.ext O98.2) Vc93 (by unfold fG6_4; exact own_utf hc4)) hZ (own_w hw 115) (own_w hw 29) (by decide) (by decide)) (g := (mkF m 32 #[oR p0, oI (0 : Int32), oI (6 : Int32), oR a1, oI (4 : Int32), oR a93] [(.int (4 : Int32)), (.ref a93)])) rfl (by rw [hml]; rfl) (argsL := [(.ref a93), (.int (4 : Int32))]) (rest := []) (lenOf pd_6_2 rfl) rfl (by show 2 * 0 + _ ≤ _; exact Nat.le_of_eq rfl) (hb hby d6_32) (fun _ _ => ⟨rfl, rfl, (by decide : 2 + 0 ≤ _), (by decide : 18 + 0 ≤ _)⟩)
            dsimp only [Pt.U, Pt.locs, Pt.cells, Pt.slots] at X102 l102 y102 z102 st102 hQ102
            subst l102 y102 z102
            obtain ⟨rfl, Nq102, e102⟩ := hQ102
            have N103 := Fr.app N94 Nq102
            refine own_via st102 ?_
            refine own_via (fun t kz => XS.sipush X102.here hx rfl (hb hby d6_35) kz) ?_
            show own_Go p e below _ (T102.setTop (mkF m 38 #[oR p0, oI (0 : Int32), oI (6 : Int32), oR a1, oI (4 : Int32), oR a93] [(.int (255 : Int32)), (.int c4_)]))
            refine own_via (fun t kz => XS.icmpYes X102.here hx rfl (pc0 := 38) (pc' := 54) rfl (hb hby d6_38) rfl (tlt hc9_86).2.2.1 (by decide) (by decide) kz) ?_
            refine own_via (fun t kz => XS.aload X102.here hx rfl (hb hby d6_54) rfl rfl kz) ?_
            show own_Go p e below _ (T102.setTop (mkF m 56 #[oR p0, oI (0 : Int32), oI (6 : Int32), oR a1, oI (4 : Int32), oR a93] [(.ref a93)]))
            obtain ⟨fs, hr, hrun, hended, hW, hsame⟩ := X102.leave (v := some (.ref a93)) (fun h => by rw [Bd.returns] at h; cases h)
            refine ⟨_, _, retOut X102 hx (i := .areturn) Bd.returns rfl (Or.inr (Or.inr (Or.inr (Or.inr ⟨rfl, rfl, rfl⟩)))) (hb hby d6_56) hr, hrun, hended, _, _, rfl, ?_, ⟨_, rfl⟩, hW, hsame.mono (by decide) (by decide)⟩
            show QB6 Z p0 kc c0_ c1_ c2_ c3_ c4_ c5_ wcs wsf h0 n0 _ T102.heap _
            rw [e102]
            exact ⟨a93, rfl, N103, K101, hf97, Or.inr ⟨_, Vc93⟩⟩
          · by_cases hc9_105 : (255 : Int32) < c5_
            · obtain ⟨_, _, ⟨T106, L106, k106, n106⟩, -, X106, ⟨Lc106, hQ106, l106, y106, z106⟩, st106⟩ := Jvm.LawKit.callS X1 hx (y := (⟨"java/lang/StringUTF16", "compress", "([CI[BII)I"⟩ : MethodName)) hown (mvT hZ (own_w hw 32)) (mvT hZ (own_w hw 33)) (mvT hZ (own_w hw 29)) (mvT hZ (own_w hw 34)) (by decide) (backOf (W := 0) (rmK6 l Z a0 hw [] p0 a1 kc k1 c0_ c1_ c2_ c3_ c4_ c5_ (5 : Int32) h1 n0 Zs7 fr3 (Nat.ne_of_lt lt2) V6 V9 (by unfold own_cnt6; rw [if_neg hc9_10, if_neg hc9_29, if_neg hc9_48, if_neg hc9_67, if_neg hc9_86, if_pos hc9_105])) hZ (own_w hw 34) (own_w hw 29) (by decide) (by decide)) (g := (mkF m 9 #[oR p0, oI (0 : Int32), oI (6 : Int32), oR a1, .unset, .unset] [(.int (6 : Int32)), (.int (0 : Int32)), (.ref a1), (.int (0 : Int32)), (.ref p0)])) rfl (by rw [hml]; rfl) (argsL := [(.ref p0), (.int (0 : Int32)), (.ref a1), (.int (0 : Int32)), (.int (6 : Int32))]) (rest := []) (lenOf pd_6_0 rfl) rfl (by show 2 * 0 + _ ≤ _; exact Nat.le_of_eq rfl) (hb hby d6_9) (fun _ _ => ⟨rfl, e1, (by decide : 1 + 0 ≤ _), (by decide : 6 + 0 ≤ _)⟩)
              dsimp only [Pt.U, Pt.locs, Pt.cells, Pt.slots] at X106 l106 y106 z106 st106 hQ106
              subst l106 y106 z106
              obtain ⟨rfl, Nq106, Kc106, Im106⟩ := hQ106
              have N107 := Fr.app N0 Nq106
              refine own_via st106 ?_
              have O108 : Old Z n0 T106.heap := O5.keep Kc106 (allS fr3 all0)
              have V109 := V6.keep Kc106 (ninS (Nat.ne_of_lt lt2) nin0)
              have Zs110 : n0 ≤ T106.heap.size := Nat.le_trans Zs7 Kc106.1
              have K111 : Keep h0 T106.heap [] := K8.trans Kc106 (allS (Or.inr hf4) all0)
              refine own_via (fun t kz => XS.istore X106.here hx rfl (hb hby d6_12) rfl (l' := #[oR p0, oI (0 : Int32), oI (6 : Int32), oR a1, oI (5 : Int32), .unset]) rfl kz) ?_
              refine own_via (fun t kz => XS.iload X106.here hx rfl (hb hby d6_14) rfl kz) ?_
              refine own_via (fun t kz => XS.iloadN X106.here hx rfl (hb hby d6_16) rfl kz) ?_
              show own_Go p e below _ (T106.setTop (mkF m 17 #[oR p0, oI (0 : Int32), oI (6 : Int32), oR a1, oI (5 : Int32), .unset] [(.int (6 : Int32)), (.int (5 : Int32))]))
              refine own_via (fun t kz => XS.icmpNo X106.here hx rfl (hb hby d6_17) rfl (feq (by decide : ¬ ((5 : Int32) = (6 : Int32)))).1 kz) ?_
              refine own_via (fun t kz => XS.aloadN X106.here hx rfl (hb hby d6_20) rfl rfl kz) ?_
              refine own_via (fun t kz => XS.iloadN X106.here hx rfl (hb hby d6_21) rfl kz) ?_
              refine own_via (fun t kz => XS.iloadN X106.here hx rfl (hb hby d6_22) rfl kz) ?_
              show own_Go p e below _ (T106.setTop (mkF m 23 #[oR p0, oI (0 : Int32), oI (6 : Int32), oR a1, oI (5 : Int32), .unset] [(.int (6 : Int32)), (.int (0 : Int32)), (.ref p0)]))
              obtain ⟨_, _, ⟨T112, L112, k112, n112⟩, -, X112, ⟨Lc112, hQ112, l112, y112, z112⟩, st112⟩ := Jvm.LawKit.callS X106 hx (y := (⟨"java/lang/StringUTF16", "toBytes", "([CII)[B"⟩ : MethodName)) hown (mvT hZ (own_w hw 97)) (mvT hZ (own_w hw 98)) (mvT hZ (own_w hw 29)) (mvT hZ (own_w hw 99)) (by decide) (backOf (W := 0) (rmT6 l Z a0 hw [] p0 kc c0_ c1_ c2_ c3_ c4_ c5_ wcs wsf T106.heap n0 Zs110 V109 O108 hcs rsf B_wcs B_wsf B_wad B_whi B_wlo) hZ (own_w hw 99) (own_w hw 29) (by decide) (by decide)) (g := (mkF m 23 #[oR p0, oI (0 : Int32), oI (6 : Int32), oR a1, oI (5 : Int32), .unset] [(.int (6 : Int32)), (.int (0 : Int32)), (.ref p0)])) rfl (by rw [hml]; rfl) (argsL := [(.ref p0), (.int (0 : Int32)), (.int (6 : Int32))]) (rest := []) (lenOf pd_6_1 rfl) rfl (by show 2 * 0 + _ ≤ _; exact Nat.le_of_eq rfl) (hb hby d6_23) (fun _ _ => ⟨rfl, rfl, (by decide : 1 + 1 ≤ _), (by decide : 6 + 12 ≤ _)⟩)
              dsimp only [Pt.U, Pt.locs, Pt.cells, Pt.slots] at X112 l112 y112 z112 st112 hQ112
              subst l112 y112 z112
              obtain ⟨rfl, Nq112, Kc112, kb112, Vc112⟩ := hQ112
              have N113 := Fr.app N107 Nq112
              refine own_via st112 ?_
              obtain ⟨a112, g112⟩ : ∃ z, z = T106.heap.size := ⟨_, rfl⟩
              rw [← g112] at Vc112 ⊢
              have lt114 : p0 < a112 := Nat.lt_of_lt_of_le V109.lt (Nat.le_of_eq g112.symm)
              have fr115 : n0 ≤ a112 := Nat.le_trans Zs110 (Nat.le_of_eq g112.symm)
              have hf116 : h0.size ≤ a112 := Nat.le_trans K111.1 (Nat.le_of_eq g112.symm)
              have O117 : Old Z n0 T112.heap := O108.keep Kc112 all0
              have V118 := V109.keep Kc112 nin0
              have Zs119 : n0 ≤ T112.heap.size := Nat.le_trans Zs110 Kc112.1
              have K120 : Keep h0 T112.heap [] := K111.trans Kc112 all0
              refine own_via (fun t kz => XS.astore X112.here hx rfl (hb hby d6_26) rfl rfl (l' := #[oR p0, oI (0 : Int32), oI (6 : Int32), oR a1, oI (5 : Int32), oR a112]) rfl kz) ?_
              refine own_via (fun t kz => XS.aload X112.here hx rfl (hb hby d6_28) rfl rfl kz) ?_
              refine own_via (fun t kz => XS.iload X112.here hx rfl (hb hby d6_30) rfl kz) ?_
              show own_Go p e below _ (T112.setTop (mkF m 32 #[oR p0, oI (0 : Int32), oI (6 : Int32), oR a1, oI (5 : Int32), oR a112] [(.int (5 : Int32)), (.ref a112)]))
              obtain ⟨_, _, ⟨T121, L121, k121, n121⟩, -, X121, ⟨Lc121, hQ121, l121, y121, z121⟩, st121⟩ := Jvm.LawKit.callS X112 hx (y := (⟨"java/lang/StringUTF16", "getChar", "([BI)C"⟩ : MethodName)) hown (mvT hZ (own_w hw 113)) (mvT hZ (own_w hw 114)) (mvT hZ (own_w hw 29)) (mvT hZ (own_w hw 115)) (by decide) (backOf (W := 0) (rmG6_5 l Z a0 hw [] a112 (1 : Int32) (0 : Int32) (8 : Int32) kb112 ((c0_ >>> ((0 : Int32) &&& 31)).toInt8.toInt32) ((c0_ >>> ((8 : Int32) &&& 31)).toInt8.toInt32) ((c1_ >>> ((0 : Int32) &&& 31)).toInt8.toInt32) ((c1_ >>> ((8 : Int32) &&& 31)).toInt8.toInt32) ((c2_ >>> ((0 : Int32) &&& 31)).toInt8.toInt32) ((c2_ >>> ((8 : Int32) &&& 31)).toInt8.toInt32) ((c3_ >>> ((0 : Int32) &&& 31)).toInt8.toInt32) ((c3_ >>> ((8 : Int32) &&& 31)).toInt8.toInt32) ((c4_ >>> ((0 : Int32) &&& 31)).toInt8.toInt32) ((c4_ >>> ((8 : Int32) &&& 31)).toInt8.toInt32) ((c5_ >>> ((0 : Int32) &&& 31)).toInt8.toInt32) ((c5_ >>> ((8 : Int32) &&& 31)).toInt8.toInt32) c5_ T112.heap n0 Zs119 rfl (B_wad.ext O117.2) (B_whi.ext O117.2) (B_wlo.ext O117.2) Vc112 (by unfold fG6_5; exact own_utf hc5)) hZ (own_w hw 115) (own_w hw 29) (by decide) (by decide)) (g := (mkF m 32 #[oR p0, oI (0 : Int32), oI (6 : Int32), oR a1, oI (5 : Int32), oR a112] [(.int (5 : Int32)), (.ref a112)])) rfl (by rw [hml]; rfl) (argsL := [(.ref a112), (.int (5 : Int32))]) (rest := []) (lenOf pd_6_2 rfl) rfl (by show 2 * 0 + _ ≤ _; exact Nat.le_of_eq rfl) (hb hby d6_32) (fun _ _ => ⟨rfl, rfl, (by decide : 2 + 0 ≤ _), (by decide : 18 + 0 ≤ _)⟩)
              dsimp only [Pt.U, Pt.locs, Pt.cells, Pt.slots] at X121 l121 y121 z121 st121 hQ121
              subst l121 y121 z121
              obtain ⟨rfl, Nq121, e121⟩ := hQ121
              have N122 := Fr.app N113 Nq121
              refine own_via st121 ?_
              refine own_via (fun t kz => XS.sipush X121.here hx rfl (hb hby d6_35) kz) ?_
              show own_Go p e below _ (T121.setTop (mkF m 38 #[oR p0, oI (0 : Int32), oI (6 : Int32), oR a1, oI (5 : Int32), oR a112] [(.int (255 : Int32)), (.int c5_)]))
              refine own_via (fun t kz => XS.icmpYes X121.here hx rfl (pc0 := 38) (pc' := 54) rfl (hb hby d6_38) rfl (tlt hc9_105).2.2.1 (by decide) (by decide) kz) ?_
              refine own_via (fun t kz => XS.aload X121.here hx rfl (hb hby d6_54) rfl rfl kz) ?_
              show own_Go p e below _ (T121.setTop (mkF m 56 #[oR p0, oI (0 : Int32), oI (6 : Int32), oR a1, oI (5 : Int32), oR a112] [(.ref a112)]))
              obtain ⟨fs, hr, hrun, hended, hW, hsame⟩ := X121.leave (v := some (.ref a112)) (fun h => by rw [Bd.returns] at h; cases h)
              refine ⟨_, _, retOut X121 hx (i := .areturn) Bd.returns rfl (Or.inr (Or.inr (Or.inr (Or.inr ⟨rfl, rfl, rfl⟩)))) (hb hby d6_56) hr, hrun, hended, _, _, rfl, ?_, ⟨_, rfl⟩, hW, hsame.mono (by decide) (by decide)⟩
              show QB6 Z p0 kc c0_ c1_ c2_ c3_ c4_ c5_ wcs wsf h0 n0 _ T121.heap _
              rw [e121]
              exact ⟨a112, rfl, N122, K120, hf116, Or.inr ⟨_, Vc112⟩⟩
            · obtain ⟨_, _, ⟨T124, L124, k124, n124⟩, -, X124, ⟨Lc124, hQ124, l124, y124, z124⟩, st124⟩ := Jvm.LawKit.callS X1 hx (y := (⟨"java/lang/StringUTF16", "compress", "([CI[BII)I"⟩ : MethodName)) hown (mvT hZ (own_w hw 32)) (mvT hZ (own_w hw 33)) (mvT hZ (own_w hw 29)) (mvT hZ (own_w hw 34)) (by decide) (backOf (W := 0) (rmK6 l Z a0 hw [] p0 a1 kc k1 c0_ c1_ c2_ c3_ c4_ c5_ (6 : Int32) h1 n0 Zs7 fr3 (Nat.ne_of_lt lt2) V6 V9 (by unfold own_cnt6; rw [if_neg hc9_10, if_neg hc9_29, if_neg hc9_48, if_neg hc9_67, if_neg hc9_86, if_neg hc9_105])) hZ (own_w hw 34) (own_w hw 29) (by decide) (by decide)) (g := (mkF m 9 #[oR p0, oI (0 : Int32), oI (6 : Int32), oR a1, .unset, .unset] [(.int (6 : Int32)), (.int (0 : Int32)), (.ref a1), (.int (0 : Int32)), (.ref p0)])) rfl (by rw [hml]; rfl) (argsL := [(.ref p0), (.int (0 : Int32)), (.ref a1), (.int (0 : Int32)), (.int (6 : Int32))]) (rest := []) (lenOf pd_6_0 rfl) rfl (by show 2 * 0 + _ ≤ _; exact Nat.le_of_eq rfl) (hb hby d6_9) (fun _ _ => ⟨rfl, e1, (by decide : 1 + 0 ≤ _), (by decide : 6 + 0 ≤ _)⟩)
              dsimp only [Pt.U, Pt.locs, Pt.cells, Pt.slots] at X124 l124 y124 z124 st124 hQ124
              subst l124 y124 z124
              obtain ⟨rfl, Nq124, Kc124, Im124⟩ := hQ124
              have N125 := Fr.app N0 Nq124
              refine own_via st124 ?_
              have O126 : Old Z n0 T124.heap := O5.keep Kc124 (allS fr3 all0)
              have V127 := V6.keep Kc124 (ninS (Nat.ne_of_lt lt2) nin0)
              have Zs128 : n0 ≤ T124.heap.size := Nat.le_trans Zs7 Kc124.1
              have K129 : Keep h0 T124.heap [] := K8.trans Kc124 (allS (Or.inr hf4) all0)
              refine own_via (fun t kz => XS.istore X124.here hx rfl (hb hby d6_12) rfl (l' := #[oR p0, oI (0 : Int32), oI (6 : Int32), oR a1, oI (6 : Int32), .unset]) rfl kz) ?_
              refine own_via (fun t kz => XS.iload X124.here hx rfl (hb hby d6_14) rfl kz) ?_
              refine own_via (fun t kz => XS.iloadN X124.here hx rfl (hb hby d6_16) rfl kz) ?_
              show own_Go p e below _ (T124.setTop (mkF m 17 #[oR p0, oI (0 : Int32), oI (6 : Int32), oR a1, oI (6 : Int32), .unset] [(.int (6 : Int32)), (.int (6 : Int32))]))
              refine own_via (fun t kz => XS.icmpYes X124.here hx rfl (pc0 := 17) (pc' := 57) rfl (hb hby d6_17) rfl (teq (by decide : (6 : Int32) = (6 : Int32))).1 (by decide) (by decide) kz) ?_
              refine own_via (fun t kz => XS.aloadN X124.here hx rfl (hb hby d6_57) rfl rfl kz) ?_
              show own_Go p e below _ (T124.setTop (mkF m 58 #[oR p0, oI (0 : Int32), oI (6 : Int32), oR a1, oI (6 : Int32), .unset] [(.ref a1)]))
              obtain ⟨fs, hr, hrun, hended, hW, hsame⟩ := X124.leave (v := some (.ref a1)) (fun h => by rw [Bd.returns] at h; cases h)
              refine ⟨_, _, retOut X124 hx (i := .areturn) Bd.returns rfl (Or.inr (Or.inr (Or.inr (Or.inr ⟨rfl, rfl, rfl⟩)))) (hb hby d6_58) hr, hrun, hended, _, _, rfl, ?_, ⟨_, rfl⟩, hW, hsame.mono (by decide) (by decide)⟩
              show QB6 Z p0 kc c0_ c1_ c2_ c3_ c4_ c5_ wcs wsf h0 n0 _ T124.heap _
              exact ⟨a1, rfl, N125, K129, hf4, Or.inl ⟨⟨hc9_10, hc9_29, hc9_48, hc9_67, hc9_86, hc9_105⟩, _, (Im124 ⟨hc9_10, hc9_29, hc9_48, hc9_67, hc9_86, hc9_105⟩)⟩⟩
def own_Str6 (Z : State) (h : Heap) (n0 : Nat) (this : Addr) (c0_ c1_ c2_ c3_ c4_ c5_ : Int32) : Prop := ∃ (arr : Addr) (kb : ClassId), (n0 ≤ this ∧ @LT.lt Nat instLTNat this arr) ∧ Exa Z h this "java/lang/String" ∧ Fld Z h this "java/lang/String" "value" "[B" (.ref arr) ∧ (((¬ (255 : Int32) < c0_ ∧ ¬ (255 : Int32) < c1_ ∧ ¬ (255 : Int32) < c2_ ∧ ¬ (255 : Int32) < c3_ ∧ ¬ (255 : Int32) < c4_ ∧ ¬ (255 : Int32) < c5_) ∧ Fld Z h this "java/lang/String" "coder" "B" (.int (0 : Int32)) ∧ Arv Z h arr kb .byte (6 : Int32) [(.int (c0_.toInt8.toInt32)), (.int (c1_.toInt8.toInt32)), (.int (c2_.toInt8.toInt32)), (.int (c3_.toInt8.toInt32)), (.int (c4_.toInt8.toInt32)), (.int (c5_.toInt8.toInt32))] (.int (0 : Int32))) ∨ (Fld Z h this "java/lang/String" "coder" "B" (.int (1 : Int32)) ∧ Arv Z h arr kb .byte (12 : Int32) [(.int ((c0_ >>> ((0 : Int32) &&& 31)).toInt8.toInt32)), (.int ((c0_ >>> ((8 : Int32) &&& 31)).toInt8.toInt32)), (.int ((c1_ >>> ((0 : Int32) &&& 31)).toInt8.toInt32)), (.int ((c1_ >>> ((8 : Int32) &&& 31)).toInt8.toInt32)), (.int ((c2_ >>> ((0 : Int32) &&& 31)).toInt8.toInt32)), (.int ((c2_ >>> ((8 : Int32) &&& 31)).toInt8.toInt32)), (.int ((c3_ >>> ((0 : Int32) &&& 31)).toInt8.toInt32)), (.int ((c3_ >>> ((8 : Int32) &&& 31)).toInt8.toInt32)), (.int ((c4_ >>> ((0 : Int32) &&& 31)).toInt8.toInt32)), (.int ((c4_ >>> ((8 : Int32) &&& 31)).toInt8.toInt32)), (.int ((c5_ >>> ((0 : Int32) &&& 31)).toInt8.toInt32)), (.int ((c5_ >>> ((8 : Int32) &&& 31)).toInt8.toInt32))] (.int (0 : Int32))))
theorem d5_0 : decode jdk_42_method_149_code 0 = .ok (.aload_n 0, 1) := by decide +kernel
theorem d5_1 : decode jdk_42_method_149_code 1 = .ok (.invokespecial 1, 3) := by decide +kernel
theorem d5_4 : decode jdk_42_method_149_code 4 = .ok (.iload_n 3, 1) := by decide +kernel
theorem d5_5 : decode jdk_42_method_149_code 5 = .ok (.ifCond .ne 22, 3) := by decide +kernel
theorem d5_27 : decode jdk_42_method_149_code 27 = .ok (.getstatic 38, 3) := by decide +kernel
theorem d5_30 : decode jdk_42_method_149_code 30 = .ok (.ifCond .eq 28, 3) := by decide +kernel
theorem d5_33 : decode jdk_42_method_149_code 33 = .ok (.aload_n 1, 1) := by decide +kernel
theorem d5_34 : decode jdk_42_method_149_code 34 = .ok (.iload_n 2, 1) := by decide +kernel
theorem d5_35 : decode jdk_42_method_149_code 35 = .ok (.iload_n 3, 1) := by decide +kernel
theorem d5_36 : decode jdk_42_method_149_code 36 = .ok (.invokestatic 177, 3) := by decide +kernel
theorem d5_39 : decode jdk_42_method_149_code 39 = .ok (.astore 5, 2) := by decide +kernel
theorem d5_41 : decode jdk_42_method_149_code 41 = .ok (.aload_n 0, 1) := by decide +kernel
theorem d5_42 : decode jdk_42_method_149_code 42 = .ok (.aload 5, 2) := by decide +kernel
theorem d5_44 : decode jdk_42_method_149_code 44 = .ok (.iload_n 3, 1) := by decide +kernel
theorem d5_45 : decode jdk_42_method_149_code 45 = .ok (.invokestatic 47, 3) := by decide +kernel
theorem d5_48 : decode jdk_42_method_149_code 48 = .ok (.putfield 15, 3) := by decide +kernel
theorem d5_51 : decode jdk_42_method_149_code 51 = .ok (.aload_n 0, 1) := by decide +kernel
theorem d5_52 : decode jdk_42_method_149_code 52 = .ok (.aload 5, 2) := by decide +kernel
theorem d5_54 : decode jdk_42_method_149_code 54 = .ok (.putfield 9, 3) := by decide +kernel
theorem d5_57 : decode jdk_42_method_149_code 57 = .ok (.return_, 1) := by decide +kernel
theorem pd_5_0 : parseMethodDescriptor "([CII)[B" = some ⟨[(.array .char), .int, .int], some (.array .byte)⟩ := by decide +kernel
theorem pd_5_1 : parseMethodDescriptor "([BI)B" = some ⟨[(.array .byte), .int], some .byte⟩ := by decide +kernel
theorem ef_rmI4_6 (m : MethodId) (q0 : Addr) (q1 : Addr) : entryFrame m #[(.ref q0), (.ref q1), (.int (0 : Int32)), (.int (6 : Int32)), .null] 6 = mkF m 0 #[oR q0, oR q1, oI (0 : Int32), oI (6 : Int32), .val .null, .unset] [] := by first | (simp [entryFrame, mkF, argsToLocals, Value.category]; done) | rfl
def QI4_6 (Z : State) (this : Addr) (p1 : Addr) (kc : ClassId) (c0_ : Int32) (c1_ : Int32) (c2_ : Int32) (c3_ : Int32) (c4_ : Int32) (c5_ : Int32) (wcs : Int32) (wsf : Value) (h0 : Heap) (n0 : Nat) (v : Option Value) (h : Heap) (L : List Loc) : Prop := v = none ∧ Fr n0 L ∧ Keep h0 h [this] ∧ own_Str6 Z h n0 this c0_ c1_ c2_ c3_ c4_ c5_
set_option maxRecDepth 65536 in
set_option maxHeartbeats 40000000 in
theorem rmI4_6 (l : Launch) (Z : State) (a0 : Array Value) (hw : ∀ d ∈ tables_1, d.before a0 Z = true) (ws : List Jvm.Cond) (this : Addr) (p1 : Addr) (kc : ClassId) (c0_ : Int32) (c1_ : Int32) (c2_ : Int32) (c3_ : Int32) (c4_ : Int32) (c5_ : Int32) (wcs : Int32) (wsf : Value) (h0 : Heap) (n0 : Nat) (Z0 : n0 ≤ h0.size) (g_this : n0 ≤ this) (E_this : Exa Z h0 this "java/lang/String") (F_value : Fld Z h0 this "java/lang/String" "value" "[B" .null) (F_coder : Fld Z h0 this "java/lang/String" "coder" "B" (.int (0 : Int32))) (VC : Arv Z h0 p1 kc .char (6 : Int32) [(.int c0_), (.int c1_), (.int c2_), (.int c3_), (.int c4_), (.int c5_)] (.int (0 : Int32))) (nec : p1 ≠ this) (hc0 : own_ch c0_) (hc1 : own_ch c1_) (hc2 : own_ch c2_) (hc3 : own_ch c3_) (hc4 : own_ch c4_) (hc5 : own_ch c5_) (OLD : Old Z n0 h0) (hcs : ¬ (wcs = (0 : Int32))) (rsf : wsf.isRef = true) (B_wcs : Sta Z Z.heap "java/lang/String" "COMPACT_STRINGS" "Z" (.int wcs)) (B_wsf : Sta Z Z.heap "jdk/internal/util/Preconditions" "SIOOBE_FORMATTER" "Ljava/util/function/BiFunction;" wsf) (B_wad : Sta Z Z.heap "java/lang/StringUTF16" "$assertionsDisabled" "Z" (.int (1 : Int32))) (B_whi : Sta Z Z.heap "java/lang/StringUTF16" "HI_BYTE_SHIFT" "I" (.int (0 : Int32))) (B_wlo : Sta Z Z.heap "java/lang/StringUTF16" "LO_BYTE_SHIFT" "I" (.int (8 : Int32))) :
    MetFree l (⟨"java/lang/String", "<init>", "([CIILjava/lang/Void;)V"⟩ : MethodName) (head1 (Jvm.Cond.code (⟨"java/lang/String", "<init>", "([CIILjava/lang/Void;)V"⟩ : MethodName) jdk_42_method_149_code 6 none :: ws) ({ frames := 4, cells := 2, slots := 18, locals := 57 } : Room)) (fun a U => a = #[(.ref this), (.ref p1), (.int (0 : Int32)), (.int (6 : Int32)), .null] ∧ Z.Warmed39 U.vm ∧ U.heap = h0) (fun _ _ _ _ _ => True) (fun _ U o U' => ∃ v L, o = .returned v ∧ QI4_6 Z this p1 kc c0_ c1_ c2_ c3_ c4_ c5_ wcs wsf h0 n0 v U'.heap L ∧ FrameEnd U o U' L ({ frames := 4, cells := 2, slots := 18, locals := 57 } : Room).cells ({ frames := 4, cells := 2, slots := 18, locals := 57 } : Room).slots) := by
  refine MetFree.of_bodySF (plainFor_of_name pn_15) hisR ?_
  intro p e s m args below meth c s₁ Bd hml0 hP hK
  obtain ⟨rfl, hZ, hh⟩ := hP
  have hx := Bd.exec
  have hby := Bd.bytes
  have hml : c.maxLocals = 6 := hml0
  have hown : s.vm.findClass "java/lang/String" = some m.cls := findClass_of_methodNamed Bd.named
  have hnm := (name_of_methodNamed Bd.named Bd.method).1
  have X0 : Stand p l e ({ frames := 4, cells := 2, slots := 18, locals := 57 } : Room) s m #[(.ref this), (.ref p1), (.int (0 : Int32)), (.int (6 : Int32)), .null] below meth c s₁ [] 0 0 := Stand.of_body Bd
  have e0 : s₁.heap = h0 := by rw [← hh, Bd.state]; rfl
  have N0 := Fr.nil n0
  refine own_start ?_
  refine own_via (fun t k => castTop (ef_rmI4_6 m this p1) k) ?_
  show own_Go p e below _ (s₁.setTop (mkF m 0 #[oR this, oR p1, oI (0 : Int32), oI (6 : Int32), .val .null, .unset] []))
  refine own_via (fun t kz => XS.aloadN X0.here hx rfl (hb hby d5_0) rfl rfl kz) ?_
  show own_Go p e below _ (s₁.setTop (mkF m 1 #[oR this, oR p1, oI (0 : Int32), oI (6 : Int32), .val .null, .unset] [(.ref this)]))
  obtain ⟨T1, X1, e1, st1⟩ := initO X0 hx hZ hown (own_w hw 25) (own_w hw 13) (own_w hw 14) e0 (g := (mkF m 1 #[oR this, oR p1, oI (0 : Int32), oI (6 : Int32), .val .null, .unset] [(.ref this)])) rfl (by rw [hml]; rfl) rfl (hb hby d5_1) (by decide) (W := 0) (by show 2 * 0 + _ ≤ _; exact Nat.le_of_eq rfl) (by decide)
  refine own_via st1 ?_
  refine own_via (fun t kz => XS.iloadN X1.here hx rfl (hb hby d5_4) rfl kz) ?_
  show own_Go p e below _ (T1.setTop (mkF m 5 #[oR this, oR p1, oI (0 : Int32), oI (6 : Int32), .val .null, .unset] [(.int (6 : Int32))]))
  refine own_via (fun t kz => XS.ifYes X1.here hx rfl (pc0 := 5) (pc' := 27) rfl (hb hby d5_5) rfl ((if0 _ _).trans (feq (by decide : ¬ ((6 : Int32) = (0 : Int32)))).2) (by decide) (by decide) kz) ?_
  show own_Go p e below _ (T1.setTop (mkF m 27 #[oR this, oR p1, oI (0 : Int32), oI (6 : Int32), .val .null, .unset] []))
  obtain ⟨T2, X2, e2, st2⟩ := getS2 X1 hx hZ hown (host := "") (Or.inl (own_w hw 26)) Via.refl e1 (B_wcs.ext OLD.2) (g := (mkF m 27 #[oR this, oR p1, oI (0 : Int32), oI (6 : Int32), .val .null, .unset] [])) rfl (hb hby d5_27)
  refine own_via st2 ?_
  show own_Go p e below _ (T2.setTop (mkF m 30 #[oR this, oR p1, oI (0 : Int32), oI (6 : Int32), .val .null, .unset] [(.int wcs)]))
  refine own_via (fun t kz => XS.ifNo X2.here hx rfl (hb hby d5_30) rfl ((if0 _ _).trans (feq hcs).1) kz) ?_
  refine own_via (fun t kz => XS.aloadN X2.here hx rfl (hb hby d5_33) rfl rfl kz) ?_
  refine own_via (fun t kz => XS.iloadN X2.here hx rfl (hb hby d5_34) rfl kz) ?_
  refine own_via (fun t kz => XS.iloadN X2.here hx rfl (hb hby d5_35) rfl kz) ?_
  show own_Go p e below _ (T2.setTop (mkF m 36 #[oR this, oR p1, oI (0 : Int32), oI (6 : Int32), .val .null, .unset] [(.int (6 : Int32)), (.int (0 : Int32)), (.ref p1)]))
  obtain ⟨_, _, ⟨T3, L3, k3, n3⟩, -, X3, ⟨Lc3, hQ3, l3, y3, z3⟩, st3⟩ := Jvm.LawKit.callS X2 hx (y := (⟨"java/lang/StringUTF16", "compress", "([CII)[B"⟩ : MethodName)) hown (mvT hZ (own_w hw 27)) (mvT hZ (own_w hw 28)) (mvT hZ (own_w hw 29)) (mvT hZ (own_w hw 30)) (by decide) (backOf (W := 0) (rmB6 l Z a0 hw [] p1 kc c0_ c1_ c2_ c3_ c4_ c5_ wcs wsf h0 n0 Z0 VC hc0 hc1 hc2 hc3 hc4 hc5 OLD hcs rsf B_wcs B_wsf B_wad B_whi B_wlo) hZ (own_w hw 30) (own_w hw 29) (by decide) (by decide)) (g := (mkF m 36 #[oR this, oR p1, oI (0 : Int32), oI (6 : Int32), .val .null, .unset] [(.int (6 : Int32)), (.int (0 : Int32)), (.ref p1)])) rfl (by rw [hml]; rfl) (argsL := [(.ref p1), (.int (0 : Int32)), (.int (6 : Int32))]) (rest := []) (lenOf pd_5_0 rfl) rfl (by show 2 * 0 + _ ≤ _; exact Nat.le_of_eq rfl) (hb hby d5_36) (fun _ _ => ⟨rfl, e2, (by decide : 0 + 2 ≤ _), (by decide : 0 + 18 ≤ _)⟩)
  dsimp only [Pt.U, Pt.locs, Pt.cells, Pt.slots] at X3 l3 y3 z3 st3 hQ3
  subst l3 y3 z3
  obtain ⟨r3, rfl, Nq3, Kc3, ge3, Rep3⟩ := hQ3
  have N4 := Fr.app N0 Nq3
  refine own_via st3 ?_
  have lt5 : this < r3 := Nat.lt_of_lt_of_le E_this.lt ge3
  have lt6 : p1 < r3 := Nat.lt_of_lt_of_le VC.lt ge3
  have fr7 : n0 ≤ r3 := Nat.le_trans Z0 ge3
  have hf8 : h0.size ≤ r3 := Nat.le_trans (Keep.refl h0 [this]).1 ge3
  have O9 : Old Z n0 T3.heap := OLD.keep Kc3 all0
  have E10 := E_this.keep Kc3
  have F11 := F_value.keep Kc3 nin0
  have F12 := F_coder.keep Kc3 nin0
  have V13 := VC.keep Kc3 nin0
  have Zs14 : n0 ≤ T3.heap.size := Nat.le_trans Z0 Kc3.1
  have K15 : Keep h0 T3.heap [this] := (Keep.refl h0 [this]).trans Kc3 all0
  rcases Rep3 with ⟨hl3, kb3, Vr3⟩ | ⟨kb3, Vr3⟩
  · refine own_via (fun t kz => XS.astore X3.here hx rfl (hb hby d5_39) rfl rfl (l' := #[oR this, oR p1, oI (0 : Int32), oI (6 : Int32), .val .null, oR r3]) rfl kz) ?_
    refine own_via (fun t kz => XS.aloadN X3.here hx rfl (hb hby d5_41) rfl rfl kz) ?_
    refine own_via (fun t kz => XS.aload X3.here hx rfl (hb hby d5_42) rfl rfl kz) ?_
    refine own_via (fun t kz => XS.iloadN X3.here hx rfl (hb hby d5_44) rfl kz) ?_
    show own_Go p e below _ (T3.setTop (mkF m 45 #[oR this, oR p1, oI (0 : Int32), oI (6 : Int32), .val .null, oR r3] [(.int (6 : Int32)), (.ref r3), (.ref this)]))
    obtain ⟨_, _, ⟨T16, L16, k16, n16⟩, -, X16, ⟨Lc16, hQ16, l16, y16, z16⟩, st16⟩ := Jvm.LawKit.callS X3 hx (y := (⟨"java/lang/StringUTF16", "coderFromArrayLen", "([BI)B"⟩ : MethodName)) hown (mvT hZ (own_w hw 35)) (mvT hZ (own_w hw 36)) (mvT hZ (own_w hw 29)) (mvT hZ (own_w hw 37)) (by decide) (backOf (W := 1) (rmC6_6 l Z a0 hw [] r3 kb3 (c0_.toInt8.toInt32) (c1_.toInt8.toInt32) (c2_.toInt8.toInt32) (c3_.toInt8.toInt32) (c4_.toInt8.toInt32) (c5_.toInt8.toInt32) (0 : Int32) T3.heap n0 Zs14 Vr3 (by decide +kernel)) hZ (own_w hw 37) (own_w hw 29) (by decide) (by decide)) (g := (mkF m 45 #[oR this, oR p1, oI (0 : Int32), oI (6 : Int32), .val .null, oR r3] [(.int (6 : Int32)), (.ref r3), (.ref this)])) rfl (by rw [hml]; rfl) (argsL := [(.ref r3), (.int (6 : Int32))]) (rest := [(.ref this)]) (lenOf pd_5_1 rfl) rfl (by show 2 * 0 + _ ≤ _; exact Nat.le_of_eq rfl) (hb hby d5_45) (fun _ _ => ⟨rfl, rfl, (by decide : 2 + 0 ≤ _), (by decide : 18 + 0 ≤ _)⟩)
    dsimp only [Pt.U, Pt.locs, Pt.cells, Pt.slots] at X16 l16 y16 z16 st16 hQ16
    subst l16 y16 z16
    obtain ⟨rfl, Nq16, e16⟩ := hQ16
    have N17 := Fr.app N4 Nq16
    refine own_via st16 ?_
    show own_Go p e below _ (T16.setTop (mkF m 48 #[oR this, oR p1, oI (0 : Int32), oI (6 : Int32), .val .null, oR r3] [(.int (0 : Int32)), (.ref this)]))
    obtain ⟨T18, h18, X18, e18, W18, st18⟩ := putF X16 hx hZ hown (host := "") (Or.inl (own_w hw 38)) Via.refl e16 F12 E10 (Or.inr ⟨(own_w hw 39), rfl, hnm⟩) (own_w hw 16) (ty := .byte) (by decide) rfl rfl (g := (mkF m 48 #[oR this, oR p1, oI (0 : Int32), oI (6 : Int32), .val .null, oR r3] [(.int (0 : Int32)), (.ref this)])) rfl rfl (hb hby d5_48)
    refine own_via st18 ?_
    have O19 : Old Z n0 h18 := O9.wr W18 g_this
    have E20 := E10.wr W18
    have F21 := F11.other W18 (Or.inr (slot_ne (Or.inr (own_w hw 41)) (Or.inr (own_w hw 39)) (by decide) (t := (.array .byte)) (t' := .byte) (by decide) (by decide)))
    have F22 := F12.same W18
    have V23 := V13.other W18 nec
    have V24 := Vr3.other W18 (Ne.symm (Nat.ne_of_lt lt5))
    have Zs25 : n0 ≤ h18.size := Nat.le_trans Zs14 (Keep.of_wr W18).1
    have N26 := Fr.snoc X18 N17 g_this
    have K27 : Keep h0 h18 [this] := K15.wr W18 (Or.inl (List.mem_of_getElem? (i := 0) rfl))
    refine own_via (fun t kz => XS.aloadN X18.here hx rfl (hb hby d5_51) rfl rfl kz) ?_
    refine own_via (fun t kz => XS.aload X18.here hx rfl (hb hby d5_52) rfl rfl kz) ?_
    show own_Go p e below _ (T18.setTop (mkF m 54 #[oR this, oR p1, oI (0 : Int32), oI (6 : Int32), .val .null, oR r3] [(.ref r3), (.ref this)]))
    obtain ⟨T28, h28, X28, e28, W28, st28⟩ := putF X18 hx hZ hown (host := "") (Or.inl (own_w hw 40)) Via.refl e18 F21 E20 (Or.inr ⟨(own_w hw 41), rfl, hnm⟩) (own_w hw 16) (ty := (.array .byte)) (by decide) rfl rfl (g := (mkF m 54 #[oR this, oR p1, oI (0 : Int32), oI (6 : Int32), .val .null, oR r3] [(.ref r3), (.ref this)])) rfl rfl (hb hby d5_54)
    refine own_via st28 ?_
    have O29 : Old Z n0 h28 := O19.wr W28 g_this
    have E30 := E20.wr W28
    have F31 := F21.same W28
    have F32 := F22.other W28 (Or.inr (slot_ne (Or.inr (own_w hw 39)) (Or.inr (own_w hw 41)) (by decide) (t := .byte) (t' := (.array .byte)) (by decide) (by decide)))
    have V33 := V23.other W28 nec
    have V34 := V24.other W28 (Ne.symm (Nat.ne_of_lt lt5))
    have Zs35 : n0 ≤ h28.size := Nat.le_trans Zs25 (Keep.of_wr W28).1
    have N36 := Fr.snoc X28 N26 g_this
    have K37 : Keep h0 h28 [this] := K27.wr W28 (Or.inl (List.mem_of_getElem? (i := 0) rfl))
    show own_Go p e below _ (T28.setTop (mkF m 57 #[oR this, oR p1, oI (0 : Int32), oI (6 : Int32), .val .null, oR r3] []))
    obtain ⟨fs, hr, hrun, hended, hW, hsame⟩ := X28.leave (v := none) (fun _ => rfl)
    refine ⟨_, _, X28.returnOut hx Bd.returns (hb hby d5_57) hr, hrun, hended, _, _, rfl, ?_, ⟨_, rfl⟩, hW, hsame.mono (by decide) (by decide)⟩
    show QI4_6 Z this p1 kc c0_ c1_ c2_ c3_ c4_ c5_ wcs wsf h0 n0 _ T28.heap _
    rw [e28]
    exact ⟨rfl, N36, K37, r3, kb3, ⟨g_this, lt5⟩, E30, F31, Or.inl ⟨hl3, F32, V34⟩⟩
  · refine own_via (fun t kz => XS.astore X3.here hx rfl (hb hby d5_39) rfl rfl (l' := #[oR this, oR p1, oI (0 : Int32), oI (6 : Int32), .val .null, oR r3]) rfl kz) ?_
    refine own_via (fun t kz => XS.aloadN X3.here hx rfl (hb hby d5_41) rfl rfl kz) ?_
    refine own_via (fun t kz => XS.aload X3.here hx rfl (hb hby d5_42) rfl rfl kz) ?_
    refine own_via (fun t kz => XS.iloadN X3.here hx rfl (hb hby d5_44) rfl kz) ?_
    show own_Go p e below _ (T3.setTop (mkF m 45 #[oR this, oR p1, oI (0 : Int32), oI (6 : Int32), .val .null, oR r3] [(.int (6 : Int32)), (.ref r3), (.ref this)]))
    obtain ⟨_, _, ⟨T39, L39, k39, n39⟩, -, X39, ⟨Lc39, hQ39, l39, y39, z39⟩, st39⟩ := Jvm.LawKit.callS X3 hx (y := (⟨"java/lang/StringUTF16", "coderFromArrayLen", "([BI)B"⟩ : MethodName)) hown (mvT hZ (own_w hw 35)) (mvT hZ (own_w hw 36)) (mvT hZ (own_w hw 29)) (mvT hZ (own_w hw 37)) (by decide) (backOf (W := 1) (rmC6_12 l Z a0 hw [] r3 kb3 ((c0_ >>> ((0 : Int32) &&& 31)).toInt8.toInt32) ((c0_ >>> ((8 : Int32) &&& 31)).toInt8.toInt32) ((c1_ >>> ((0 : Int32) &&& 31)).toInt8.toInt32) ((c1_ >>> ((8 : Int32) &&& 31)).toInt8.toInt32) ((c2_ >>> ((0 : Int32) &&& 31)).toInt8.toInt32) ((c2_ >>> ((8 : Int32) &&& 31)).toInt8.toInt32) ((c3_ >>> ((0 : Int32) &&& 31)).toInt8.toInt32) ((c3_ >>> ((8 : Int32) &&& 31)).toInt8.toInt32) ((c4_ >>> ((0 : Int32) &&& 31)).toInt8.toInt32) ((c4_ >>> ((8 : Int32) &&& 31)).toInt8.toInt32) ((c5_ >>> ((0 : Int32) &&& 31)).toInt8.toInt32) ((c5_ >>> ((8 : Int32) &&& 31)).toInt8.toInt32) (1 : Int32) T3.heap n0 Zs14 Vr3 (by decide +kernel)) hZ (own_w hw 37) (own_w hw 29) (by decide) (by decide)) (g := (mkF m 45 #[oR this, oR p1, oI (0 : Int32), oI (6 : Int32), .val .null, oR r3] [(.int (6 : Int32)), (.ref r3), (.ref this)])) rfl (by rw [hml]; rfl) (argsL := [(.ref r3), (.int (6 : Int32))]) (rest := [(.ref this)]) (lenOf pd_5_1 rfl) rfl (by show 2 * 0 + _ ≤ _; exact Nat.le_of_eq rfl) (hb hby d5_45) (fun _ _ => ⟨rfl, rfl, (by decide : 2 + 0 ≤ _), (by decide : 18 + 0 ≤ _)⟩)
    dsimp only [Pt.U, Pt.locs, Pt.cells, Pt.slots] at X39 l39 y39 z39 st39 hQ39
    subst l39 y39 z39
    obtain ⟨rfl, Nq39, e39⟩ := hQ39
    have N40 := Fr.app N4 Nq39
    refine own_via st39 ?_
    show own_Go p e below _ (T39.setTop (mkF m 48 #[oR this, oR p1, oI (0 : Int32), oI (6 : Int32), .val .null, oR r3] [(.int (1 : Int32)), (.ref this)]))
    obtain ⟨T41, h41, X41, e41, W41, st41⟩ := putF X39 hx hZ hown (host := "") (Or.inl (own_w hw 38)) Via.refl e39 F12 E10 (Or.inr ⟨(own_w hw 39), rfl, hnm⟩) (own_w hw 16) (ty := .byte) (by decide) rfl rfl (g := (mkF m 48 #[oR this, oR p1, oI (0 : Int32), oI (6 : Int32), .val .null, oR r3] [(.int (1 : Int32)), (.ref this)])) rfl rfl (hb hby d5_48)
    refine own_via st41 ?_
    have O42 : Old Z n0 h41 := O9.wr W41 g_this
    have E43 := E10.wr W41
    have F44 := F11.other W41 (Or.inr (slot_ne (Or.inr (own_w hw 41)) (Or.inr (own_w hw 39)) (by decide) (t := (.array .byte)) (t' := .byte) (by decide) (by decide)))
    have F45 := F12.same W41
    have V46 := V13.other W41 nec
    have V47 := Vr3.other W41 (Ne.symm (Nat.ne_of_lt lt5))
    have Zs48 : n0 ≤ h41.size := Nat.le_trans Zs14 (Keep.of_wr W41).1
    have N49 := Fr.snoc X41 N40 g_this
    have K50 : Keep h0 h41 [this] := K15.wr W41 (Or.inl (List.mem_of_getElem? (i := 0) rfl))
    refine own_via (fun t kz => XS.aloadN X41.here hx rfl (hb hby d5_51) rfl rfl kz) ?_
    refine own_via (fun t kz => XS.aload X41.here hx rfl (hb hby d5_52) rfl rfl kz) ?_
    show own_Go p e below _ (T41.setTop (mkF m 54 #[oR this, oR p1, oI (0 : Int32), oI (6 : Int32), .val .null, oR r3] [(.ref r3), (.ref this)]))
    obtain ⟨T51, h51, X51, e51, W51, st51⟩ := putF X41 hx hZ hown (host := "") (Or.inl (own_w hw 40)) Via.refl e41 F44 E43 (Or.inr ⟨(own_w hw 41), rfl, hnm⟩) (own_w hw 16) (ty := (.array .byte)) (by decide) rfl rfl (g := (mkF m 54 #[oR this, oR p1, oI (0 : Int32), oI (6 : Int32), .val .null, oR r3] [(.ref r3), (.ref this)])) rfl rfl (hb hby d5_54)
    refine own_via st51 ?_
    have O52 : Old Z n0 h51 := O42.wr W51 g_this
    have E53 := E43.wr W51
    have F54 := F44.same W51
    have F55 := F45.other W51 (Or.inr (slot_ne (Or.inr (own_w hw 39)) (Or.inr (own_w hw 41)) (by decide) (t := .byte) (t' := (.array .byte)) (by decide) (by decide)))
    have V56 := V46.other W51 nec
    have V57 := V47.other W51 (Ne.symm (Nat.ne_of_lt lt5))
    have Zs58 : n0 ≤ h51.size := Nat.le_trans Zs48 (Keep.of_wr W51).1
    have N59 := Fr.snoc X51 N49 g_this
    have K60 : Keep h0 h51 [this] := K50.wr W51 (Or.inl (List.mem_of_getElem? (i := 0) rfl))
    show own_Go p e below _ (T51.setTop (mkF m 57 #[oR this, oR p1, oI (0 : Int32), oI (6 : Int32), .val .null, oR r3] []))
    obtain ⟨fs, hr, hrun, hended, hW, hsame⟩ := X51.leave (v := none) (fun _ => rfl)
    refine ⟨_, _, X51.returnOut hx Bd.returns (hb hby d5_57) hr, hrun, hended, _, _, rfl, ?_, ⟨_, rfl⟩, hW, hsame.mono (by decide) (by decide)⟩
    show QI4_6 Z this p1 kc c0_ c1_ c2_ c3_ c4_ c5_ wcs wsf h0 n0 _ T51.heap _
    rw [e51]
    exact ⟨rfl, N59, K60, r3, kb3, ⟨g_this, lt5⟩, E53, F54, Or.inr ⟨F55, V57⟩⟩
theorem d4_0 : decode jdk_42_method_3_code 0 = .ok (.aload_n 0, 1) := by decide +kernel
theorem d4_1 : decode jdk_42_method_3_code 1 = .ok (.aload_n 1, 1) := by decide +kernel
theorem d4_2 : decode jdk_42_method_3_code 2 = .ok (.iconst 0, 1) := by decide +kernel
theorem d4_3 : decode jdk_42_method_3_code 3 = .ok (.aload_n 1, 1) := by decide +kernel
theorem d4_4 : decode jdk_42_method_3_code 4 = .ok (.arraylength, 1) := by decide +kernel
theorem d4_5 : decode jdk_42_method_3_code 5 = .ok (.aconst_null, 1) := by decide +kernel
theorem d4_6 : decode jdk_42_method_3_code 6 = .ok (.invokespecial 27, 3) := by decide +kernel
theorem d4_9 : decode jdk_42_method_3_code 9 = .ok (.return_, 1) := by decide +kernel
theorem pd_4_0 : parseMethodDescriptor "([CIILjava/lang/Void;)V" = some ⟨[(.array .char), .int, .int, (.object "java/lang/Void")], none⟩ := by decide +kernel
theorem ef_rmI_6 (m : MethodId) (q0 : Addr) (q1 : Addr) : entryFrame m #[(.ref q0), (.ref q1)] 2 = mkF m 0 #[oR q0, oR q1] [] := by first | (simp [entryFrame, mkF, argsToLocals, Value.category]; done) | rfl
def QI_6 (Z : State) (this : Addr) (p1 : Addr) (kc : ClassId) (c0_ : Int32) (c1_ : Int32) (c2_ : Int32) (c3_ : Int32) (c4_ : Int32) (c5_ : Int32) (wcs : Int32) (wsf : Value) (h0 : Heap) (n0 : Nat) (v : Option Value) (h : Heap) (L : List Loc) : Prop := v = none ∧ Fr n0 L ∧ Keep h0 h [this] ∧ own_Str6 Z h n0 this c0_ c1_ c2_ c3_ c4_ c5_
set_option maxRecDepth 65536 in
set_option maxHeartbeats 40000000 in
theorem rmI_6 (l : Launch) (Z : State) (a0 : Array Value) (hw : ∀ d ∈ tables_1, d.before a0 Z = true) (ws : List Jvm.Cond) (this : Addr) (p1 : Addr) (kc : ClassId) (c0_ : Int32) (c1_ : Int32) (c2_ : Int32) (c3_ : Int32) (c4_ : Int32) (c5_ : Int32) (wcs : Int32) (wsf : Value) (h0 : Heap) (n0 : Nat) (Z0 : n0 ≤ h0.size) (g_this : n0 ≤ this) (E_this : Exa Z h0 this "java/lang/String") (F_value : Fld Z h0 this "java/lang/String" "value" "[B" .null) (F_coder : Fld Z h0 this "java/lang/String" "coder" "B" (.int (0 : Int32))) (VC : Arv Z h0 p1 kc .char (6 : Int32) [(.int c0_), (.int c1_), (.int c2_), (.int c3_), (.int c4_), (.int c5_)] (.int (0 : Int32))) (nec : p1 ≠ this) (hc0 : own_ch c0_) (hc1 : own_ch c1_) (hc2 : own_ch c2_) (hc3 : own_ch c3_) (hc4 : own_ch c4_) (hc5 : own_ch c5_) (OLD : Old Z n0 h0) (hcs : ¬ (wcs = (0 : Int32))) (rsf : wsf.isRef = true) (B_wcs : Sta Z Z.heap "java/lang/String" "COMPACT_STRINGS" "Z" (.int wcs)) (B_wsf : Sta Z Z.heap "jdk/internal/util/Preconditions" "SIOOBE_FORMATTER" "Ljava/util/function/BiFunction;" wsf) (B_wad : Sta Z Z.heap "java/lang/StringUTF16" "$assertionsDisabled" "Z" (.int (1 : Int32))) (B_whi : Sta Z Z.heap "java/lang/StringUTF16" "HI_BYTE_SHIFT" "I" (.int (0 : Int32))) (B_wlo : Sta Z Z.heap "java/lang/StringUTF16" "LO_BYTE_SHIFT" "I" (.int (8 : Int32))) :
    MetFree l (⟨"java/lang/String", "<init>", "([C)V"⟩ : MethodName) (head1 (Jvm.Cond.code (⟨"java/lang/String", "<init>", "([C)V"⟩ : MethodName) jdk_42_method_3_code 2 none :: ws) ({ frames := 5, cells := 2, slots := 18, locals := 74 } : Room)) (fun a U => a = #[(.ref this), (.ref p1)] ∧ Z.Warmed39 U.vm ∧ U.heap = h0) (fun _ _ _ _ _ => True) (fun _ U o U' => ∃ v L, o = .returned v ∧ QI_6 Z this p1 kc c0_ c1_ c2_ c3_ c4_ c5_ wcs wsf h0 n0 v U'.heap L ∧ FrameEnd U o U' L ({ frames := 5, cells := 2, slots := 18, locals := 74 } : Room).cells ({ frames := 5, cells := 2, slots := 18, locals := 74 } : Room).slots) := by
  refine MetFree.of_bodySF (plainFor_of_name pn_15) hisR ?_
  intro p e s m args below meth c s₁ Bd hml0 hP hK
  obtain ⟨rfl, hZ, hh⟩ := hP
  have hx := Bd.exec
  have hby := Bd.bytes
  have hml : c.maxLocals = 2 := hml0
  have hown : s.vm.findClass "java/lang/String" = some m.cls := findClass_of_methodNamed Bd.named
  have hnm := (name_of_methodNamed Bd.named Bd.method).1
  have X0 : Stand p l e ({ frames := 5, cells := 2, slots := 18, locals := 74 } : Room) s m #[(.ref this), (.ref p1)] below meth c s₁ [] 0 0 := Stand.of_body Bd
  have e0 : s₁.heap = h0 := by rw [← hh, Bd.state]; rfl
  have N0 := Fr.nil n0
  refine own_start ?_
  refine own_via (fun t k => castTop (ef_rmI_6 m this p1) k) ?_
  show own_Go p e below _ (s₁.setTop (mkF m 0 #[oR this, oR p1] []))
  refine own_via (fun t kz => XS.aloadN X0.here hx rfl (hb hby d4_0) rfl rfl kz) ?_
  refine own_via (fun t kz => XS.aloadN X0.here hx rfl (hb hby d4_1) rfl rfl kz) ?_
  refine own_via (fun t kz => XS.iconst X0.here hx rfl (hb hby d4_2) kz) ?_
  refine own_via (fun t kz => XS.aloadN X0.here hx rfl (hb hby d4_3) rfl rfl kz) ?_
  show own_Go p e below _ (s₁.setTop (mkF m 4 #[oR this, oR p1] [(.ref p1), (.int (0 : Int32)), (.ref p1), (.ref this)]))
  obtain ⟨cl1, Ar1, kc1, Sz1, Nn1, Hs1, Gs1⟩ := id VC
  refine own_via (fun t kz => X0.arraylength hx (by rw [e0]; exact Ar1.1) (State.isArrayOf_alike hZ.alike Ar1.2.1) (g := (mkF m 4 #[oR this, oR p1] [(.ref p1), (.int (0 : Int32)), (.ref p1), (.ref this)])) rfl rfl (hb hby d4_4) t kz) ?_
  show own_Go p e below _ (s₁.setTop (mkF m 5 #[oR this, oR p1] [(.int (cl1.slots.size.toInt32)), (.int (0 : Int32)), (.ref p1), (.ref this)]))
  rw [len_of Sz1 Nn1]
  show own_Go p e below _ (s₁.setTop (mkF m 5 #[oR this, oR p1] [(.int (6 : Int32)), (.int (0 : Int32)), (.ref p1), (.ref this)]))
  refine own_via (fun t kz => XS.aconstNull X0.here hx rfl (hb hby d4_5) kz) ?_
  show own_Go p e below _ (s₁.setTop (mkF m 6 #[oR this, oR p1] [.null, (.int (6 : Int32)), (.int (0 : Int32)), (.ref p1), (.ref this)]))
  obtain ⟨_, _, ⟨T2, L2, k2, n2⟩, -, X2, ⟨Lc2, hQ2, l2, y2, z2⟩, st2⟩ := X0.specialBack hx (y := (⟨"java/lang/String", "<init>", "([CIILjava/lang/Void;)V"⟩ : MethodName)) rfl hown (mvT hZ (own_w hw 21)) (mvT hZ (own_w hw 22)) (mvT hZ (own_w hw 24)) (by decide) (backOf (W := 0) (rmI4_6 l Z a0 hw [] this p1 kc c0_ c1_ c2_ c3_ c4_ c5_ wcs wsf h0 n0 Z0 g_this E_this F_value F_coder VC nec hc0 hc1 hc2 hc3 hc4 hc5 OLD hcs rsf B_wcs B_wsf B_wad B_whi B_wlo) hZ (own_w hw 24) (own_w hw 17) (by decide) (by decide)) (g := (mkF m 6 #[oR this, oR p1] [.null, (.int (6 : Int32)), (.int (0 : Int32)), (.ref p1), (.ref this)])) rfl (by rw [hml]; rfl) (Steps.refl _) (a := this) (argsL := [(.ref p1), (.int (0 : Int32)), (.int (6 : Int32)), .null]) (rest := []) (lenOf pd_4_0 rfl) rfl (by show 2 * 0 + _ ≤ _; exact Nat.le_of_eq rfl) (hb hby d4_6) (fun _ _ => ⟨rfl, e0, (by decide : 0 + 2 ≤ _), (by decide : 0 + 18 ≤ _)⟩)
  dsimp only [Pt.U, Pt.locs, Pt.cells, Pt.slots] at X2 l2 y2 z2 st2 hQ2
  subst l2 y2 z2
  obtain ⟨rfl, Nq2, Kc2, SR2⟩ := hQ2
  have N3 := Fr.app N0 Nq2
  refine own_tr st2 ?_
  have O4 : Old Z n0 T2.heap := OLD.keep Kc2 (allS g_this all0)
  have E5 := E_this.keep Kc2
  have V6 := VC.keep Kc2 (ninS nec nin0)
  have Zs7 : n0 ≤ T2.heap.size := Nat.le_trans Z0 Kc2.1
  have K8 : Keep h0 T2.heap [this] := (Keep.refl h0 [this]).trans Kc2 (allS (Or.inl (List.mem_of_getElem? (i := 0) rfl)) all0)
  show own_Go p e below _ (T2.setTop (mkF m 9 #[oR this, oR p1] []))
  obtain ⟨fs, hr, hrun, hended, hW, hsame⟩ := X2.leave (v := none) (fun _ => rfl)
  refine ⟨_, _, X2.returnOut hx Bd.returns (hb hby d4_9) hr, hrun, hended, _, _, rfl, ?_, ⟨_, rfl⟩, hW, hsame.mono (by decide) (by decide)⟩
  show QI_6 Z this p1 kc c0_ c1_ c2_ c3_ c4_ c5_ wcs wsf h0 n0 _ T2.heap _
  exact ⟨rfl, N3, K8, SR2⟩
theorem d10_0 : decode jdk_42_method_54_code 0 = .ok (.aload_n 0, 1) := by decide +kernel
theorem d10_1 : decode jdk_42_method_54_code 1 = .ok (.getfield 9, 3) := by decide +kernel
theorem d10_4 : decode jdk_42_method_54_code 4 = .ok (.arraylength, 1) := by decide +kernel
theorem d10_5 : decode jdk_42_method_54_code 5 = .ok (.aload_n 0, 1) := by decide +kernel
theorem d10_6 : decode jdk_42_method_54_code 6 = .ok (.invokevirtual 335, 3) := by decide +kernel
theorem d10_9 : decode jdk_42_method_54_code 9 = .ok (.ishr, 1) := by decide +kernel
theorem d10_10 : decode jdk_42_method_54_code 10 = .ok (.ireturn, 1) := by decide +kernel
theorem pd_10_0 : parseMethodDescriptor "()B" = some ⟨[], some .byte⟩ := by decide +kernel
theorem ef_rmL6 (m : MethodId) (q0 : Addr) : entryFrame m #[(.ref q0)] 1 = mkF m 0 #[oR q0] [] := by first | (simp [entryFrame, mkF, argsToLocals, Value.category]; done) | rfl
def QL6 (Z : State) (this : Addr) (c0_ : Int32) (c1_ : Int32) (c2_ : Int32) (c3_ : Int32) (c4_ : Int32) (c5_ : Int32) (wcs : Int32) (wsf : Value) (h0 : Heap) (n0 : Nat) (v : Option Value) (h : Heap) (L : List Loc) : Prop := v = some (.int (6 : Int32)) ∧ Fr n0 L ∧ h = h0
set_option maxRecDepth 65536 in
set_option maxHeartbeats 40000000 in
theorem rmL6 (l : Launch) (Z : State) (a0 : Array Value) (hw : ∀ d ∈ tables_1, d.before a0 Z = true) (ws : List Jvm.Cond) (this : Addr) (c0_ : Int32) (c1_ : Int32) (c2_ : Int32) (c3_ : Int32) (c4_ : Int32) (c5_ : Int32) (wcs : Int32) (wsf : Value) (h0 : Heap) (n0 : Nat) (Z0 : n0 ≤ h0.size) (SR : own_Str6 Z h0 n0 this c0_ c1_ c2_ c3_ c4_ c5_) (OLD : Old Z n0 h0) (hcs : ¬ (wcs = (0 : Int32))) (rsf : wsf.isRef = true) (B_wcs : Sta Z Z.heap "java/lang/String" "COMPACT_STRINGS" "Z" (.int wcs)) (B_wsf : Sta Z Z.heap "jdk/internal/util/Preconditions" "SIOOBE_FORMATTER" "Ljava/util/function/BiFunction;" wsf) (B_wad : Sta Z Z.heap "java/lang/StringUTF16" "$assertionsDisabled" "Z" (.int (1 : Int32))) (B_whi : Sta Z Z.heap "java/lang/StringUTF16" "HI_BYTE_SHIFT" "I" (.int (0 : Int32))) (B_wlo : Sta Z Z.heap "java/lang/StringUTF16" "LO_BYTE_SHIFT" "I" (.int (8 : Int32))) :
    MetFree l (⟨"java/lang/String", "length", "()I"⟩ : MethodName) (head1 (Jvm.Cond.code (⟨"java/lang/String", "length", "()I"⟩ : MethodName) jdk_42_method_54_code 1 (some .int) :: ws) ({ frames := 1, cells := 0, slots := 0, locals := 13 } : Room)) (fun a U => a = #[(.ref this)] ∧ Z.Warmed39 U.vm ∧ U.heap = h0) (fun _ _ _ _ _ => True) (fun _ U o U' => ∃ v L, o = .returned v ∧ QL6 Z this c0_ c1_ c2_ c3_ c4_ c5_ wcs wsf h0 n0 v U'.heap L ∧ FrameEnd U o U' L ({ frames := 1, cells := 0, slots := 0, locals := 13 } : Room).cells ({ frames := 1, cells := 0, slots := 0, locals := 13 } : Room).slots) := by
  refine MetFree.of_bodySF (plainFor_of_name pn_15) hisR ?_
  intro p e s m args below meth c s₁ Bd hml0 hP hK
  obtain ⟨rfl, hZ, hh⟩ := hP
  have hx := Bd.exec
  have hby := Bd.bytes
  have hml : c.maxLocals = 1 := hml0
  have hown : s.vm.findClass "java/lang/String" = some m.cls := findClass_of_methodNamed Bd.named
  have hnm := (name_of_methodNamed Bd.named Bd.method).1
  have X0 : Stand p l e ({ frames := 1, cells := 0, slots := 0, locals := 13 } : Room) s m #[(.ref this)] below meth c s₁ [] 0 0 := Stand.of_body Bd
  have e0 : s₁.heap = h0 := by rw [← hh, Bd.state]; rfl
  have N0 := Fr.nil n0
  refine own_start ?_
  refine own_via (fun t k => castTop (ef_rmL6 m this) k) ?_
  obtain ⟨arr, kb, ⟨ch0, ch1⟩, Eq, Fv, Rp⟩ := SR
  rcases Rp with ⟨hl, Fc, Va⟩ | ⟨Fc, Va⟩
  · show own_Go p e below _ (s₁.setTop (mkF m 0 #[oR this] []))
    refine own_via (fun t kz => XS.aloadN X0.here hx rfl (hb hby d10_0) rfl rfl kz) ?_
    show own_Go p e below _ (s₁.setTop (mkF m 1 #[oR this] [(.ref this)]))
    obtain ⟨T1, X1, e1, st1⟩ := getF X0 hx hZ hown (host := "") (Or.inl (own_w hw 40)) Via.refl e0 Fv (g := (mkF m 1 #[oR this] [(.ref this)])) rfl rfl (hb hby d10_1)
    refine own_via st1 ?_
    show own_Go p e below _ (T1.setTop (mkF m 4 #[oR this] [(.ref arr)]))
    obtain ⟨cl2, Ar2, kc2, Sz2, Nn2, Hs2, Gs2⟩ := id Va
    refine own_via (fun t kz => X1.arraylength hx (by rw [e1]; exact Ar2.1) (State.isArrayOf_alike hZ.alike Ar2.2.1) (g := (mkF m 4 #[oR this] [(.ref arr)])) rfl rfl (hb hby d10_4) t kz) ?_
    show own_Go p e below _ (T1.setTop (mkF m 5 #[oR this] [(.int (cl2.slots.size.toInt32))]))
    rw [len_of Sz2 Nn2]
    show own_Go p e below _ (T1.setTop (mkF m 5 #[oR this] [(.int (6 : Int32))]))
    refine own_via (fun t kz => XS.aloadN X1.here hx rfl (hb hby d10_5) rfl rfl kz) ?_
    show own_Go p e below _ (T1.setTop (mkF m 6 #[oR this] [(.ref this), (.int (6 : Int32))]))
    obtain ⟨cq3, kq3, qa3, qb3, qc3⟩ := isOf hZ e1 Eq
    obtain ⟨_, _, ⟨T3, L3, k3, n3⟩, -, X3, ⟨Lc3, hQ3, l3, y3, z3⟩, st3⟩ := X1.virtualBack hx (y := (⟨"java/lang/String", "coder", "()B"⟩ : MethodName)) (z := (⟨"java/lang/String", "coder", "()B"⟩ : MethodName)) hown (mvT hZ (own_w hw 56)) (mvT hZ (own_w hw 57)) (notFace_of_selects (args := #[]) (mvT hZ (own_w hw 59))) (mvT hZ (own_w hw 59)) (mvT hZ (own_w hw 58)) (by decide) (backOf (W := 1) (rm11 l Z a0 hw [] this (0 : Int32) wcs (0 : Int32) h0 n0 Z0 hcs rfl Fc (B_wcs.ext OLD.2) (by unfold f11; rfl)) hZ (own_w hw 60) (own_w hw 17) (by decide) (by decide)) qa3 qc3 (g := (mkF m 6 #[oR this] [(.ref this), (.int (6 : Int32))])) rfl (by rw [hml]; rfl) (Steps.refl _) (argsL := []) (rest := [(.int (6 : Int32))]) (lenOf pd_10_0 rfl) rfl (by show 2 * 0 + _ ≤ _; exact Nat.le_of_eq rfl) (hb hby d10_6) (fun _ _ => ⟨rfl, e1, (by decide : 0 + 0 ≤ _), (by decide : 0 + 0 ≤ _)⟩)
    dsimp only [Pt.U, Pt.locs, Pt.cells, Pt.slots] at X3 l3 y3 z3 st3 hQ3
    subst l3 y3 z3
    obtain ⟨rfl, Nq3, e3⟩ := hQ3
    have N4 := Fr.app N0 Nq3
    refine own_tr st3 ?_
    show own_Go p e below _ (T3.setTop (mkF m 9 #[oR this] [(.int (0 : Int32)), (.int (6 : Int32))]))
    refine own_via (fun t kz => XS.ishr X3.here hx rfl (hb hby d10_9) rfl kz) ?_
    show own_Go p e below _ (T3.setTop (mkF m 10 #[oR this] [(.int (6 : Int32))]))
    obtain ⟨fs, hr, hrun, hended, hW, hsame⟩ := X3.leave (v := some (.int (6 : Int32))) (fun h => by rw [Bd.returns] at h; cases h)
    refine ⟨_, _, retI X3 hx Bd.returns (hb hby d10_10) hr, hrun, hended, _, _, rfl, ?_, ⟨_, rfl⟩, hW, hsame.mono (by decide) (by decide)⟩
    show QL6 Z this c0_ c1_ c2_ c3_ c4_ c5_ wcs wsf h0 n0 _ T3.heap _
    rw [e3]
    exact ⟨rfl, N4, rfl⟩
  · show own_Go p e below _ (s₁.setTop (mkF m 0 #[oR this] []))
    refine own_via (fun t kz => XS.aloadN X0.here hx rfl (hb hby d10_0) rfl rfl kz) ?_
    show own_Go p e below _ (s₁.setTop (mkF m 1 #[oR this] [(.ref this)]))
    obtain ⟨T6, X6, e6, st6⟩ := getF X0 hx hZ hown (host := "") (Or.inl (own_w hw 40)) Via.refl e0 Fv (g := (mkF m 1 #[oR this] [(.ref this)])) rfl rfl (hb hby d10_1)
    refine own_via st6 ?_
    show own_Go p e below _ (T6.setTop (mkF m 4 #[oR this] [(.ref arr)]))
    obtain ⟨cl7, Ar7, kc7, Sz7, Nn7, Hs7, Gs7⟩ := id Va
    refine own_via (fun t kz => X6.arraylength hx (by rw [e6]; exact Ar7.1) (State.isArrayOf_alike hZ.alike Ar7.2.1) (g := (mkF m 4 #[oR this] [(.ref arr)])) rfl rfl (hb hby d10_4) t kz) ?_
    show own_Go p e below _ (T6.setTop (mkF m 5 #[oR this] [(.int (cl7.slots.size.toInt32))]))
    rw [len_of Sz7 Nn7]
    show own_Go p e below _ (T6.setTop (mkF m 5 #[oR this] [(.int (12 : Int32))]))
    refine own_via (fun t kz => XS.aloadN X6.here hx rfl (hb hby d10_5) rfl rfl kz) ?_
    show own_Go p e below _ (T6.setTop (mkF m 6 #[oR this] [(.ref this), (.int (12 : Int32))]))
    obtain ⟨cq8, kq8, qa8, qb8, qc8⟩ := isOf hZ e6 Eq
    obtain ⟨_, _, ⟨T8, L8, k8, n8⟩, -, X8, ⟨Lc8, hQ8, l8, y8, z8⟩, st8⟩ := X6.virtualBack hx (y := (⟨"java/lang/String", "coder", "()B"⟩ : MethodName)) (z := (⟨"java/lang/String", "coder", "()B"⟩ : MethodName)) hown (mvT hZ (own_w hw 56)) (mvT hZ (own_w hw 57)) (notFace_of_selects (args := #[]) (mvT hZ (own_w hw 59))) (mvT hZ (own_w hw 59)) (mvT hZ (own_w hw 58)) (by decide) (backOf (W := 1) (rm11 l Z a0 hw [] this (1 : Int32) wcs (1 : Int32) h0 n0 Z0 hcs rfl Fc (B_wcs.ext OLD.2) (by unfold f11; rfl)) hZ (own_w hw 60) (own_w hw 17) (by decide) (by decide)) qa8 qc8 (g := (mkF m 6 #[oR this] [(.ref this), (.int (12 : Int32))])) rfl (by rw [hml]; rfl) (Steps.refl _) (argsL := []) (rest := [(.int (12 : Int32))]) (lenOf pd_10_0 rfl) rfl (by show 2 * 0 + _ ≤ _; exact Nat.le_of_eq rfl) (hb hby d10_6) (fun _ _ => ⟨rfl, e6, (by decide : 0 + 0 ≤ _), (by decide : 0 + 0 ≤ _)⟩)
    dsimp only [Pt.U, Pt.locs, Pt.cells, Pt.slots] at X8 l8 y8 z8 st8 hQ8
    subst l8 y8 z8
    obtain ⟨rfl, Nq8, e8⟩ := hQ8
    have N9 := Fr.app N0 Nq8
    refine own_tr st8 ?_
    show own_Go p e below _ (T8.setTop (mkF m 9 #[oR this] [(.int (1 : Int32)), (.int (12 : Int32))]))
    refine own_via (fun t kz => XS.ishr X8.here hx rfl (hb hby d10_9) rfl kz) ?_
    show own_Go p e below _ (T8.setTop (mkF m 10 #[oR this] [(.int (6 : Int32))]))
    obtain ⟨fs, hr, hrun, hended, hW, hsame⟩ := X8.leave (v := some (.int (6 : Int32))) (fun h => by rw [Bd.returns] at h; cases h)
    refine ⟨_, _, retI X8 hx Bd.returns (hb hby d10_10) hr, hrun, hended, _, _, rfl, ?_, ⟨_, rfl⟩, hW, hsame.mono (by decide) (by decide)⟩
    show QL6 Z this c0_ c1_ c2_ c3_ c4_ c5_ wcs wsf h0 n0 _ T8.heap _
    rw [e8]
    exact ⟨rfl, N9, rfl⟩
def fU6  : Int32 := (6 : Int32)
theorem d25_0 : decode jdk_52_method_6_code 0 = .ok (.aload_n 0, 1) := by decide +kernel
theorem d25_1 : decode jdk_52_method_6_code 1 = .ok (.arraylength, 1) := by decide +kernel
theorem d25_2 : decode jdk_52_method_6_code 2 = .ok (.iconst 1, 1) := by decide +kernel
theorem d25_3 : decode jdk_52_method_6_code 3 = .ok (.ishr, 1) := by decide +kernel
theorem d25_4 : decode jdk_52_method_6_code 4 = .ok (.ireturn, 1) := by decide +kernel
theorem ef_rmU6 (m : MethodId) (q0 : Addr) : entryFrame m #[(.ref q0)] 1 = mkF m 0 #[oR q0] [] := by first | (simp [entryFrame, mkF, argsToLocals, Value.category]; done) | rfl
def QU6 (Z : State) (p0 : Addr) (ka : ClassId) (b0_ : Int32) (b1_ : Int32) (b2_ : Int32) (b3_ : Int32) (b4_ : Int32) (b5_ : Int32) (b6_ : Int32) (b7_ : Int32) (b8_ : Int32) (b9_ : Int32) (b10_ : Int32) (b11_ : Int32) (r : Int32) (h0 : Heap) (n0 : Nat) (v : Option Value) (h : Heap) (L : List Loc) : Prop := v = some (.int r) ∧ Fr n0 L ∧ h = h0
set_option maxRecDepth 65536 in
set_option maxHeartbeats 40000000 in
theorem rmU6 (l : Launch) (Z : State) (a0 : Array Value) (hw : ∀ d ∈ tables_1, d.before a0 Z = true) (ws : List Jvm.Cond) (p0 : Addr) (ka : ClassId) (b0_ : Int32) (b1_ : Int32) (b2_ : Int32) (b3_ : Int32) (b4_ : Int32) (b5_ : Int32) (b6_ : Int32) (b7_ : Int32) (b8_ : Int32) (b9_ : Int32) (b10_ : Int32) (b11_ : Int32) (r : Int32) (h0 : Heap) (n0 : Nat) (Z0 : n0 ≤ h0.size) (V_p0 : Arv Z h0 p0 ka .byte (12 : Int32) [(.int b0_), (.int b1_), (.int b2_), (.int b3_), (.int b4_), (.int b5_), (.int b6_), (.int b7_), (.int b8_), (.int b9_), (.int b10_), (.int b11_)] (.int (0 : Int32))) (hr0 : fU6 = r) :
    MetFree l (⟨"java/lang/StringUTF16", "length", "([B)I"⟩ : MethodName) (head1 (Jvm.Cond.code (⟨"java/lang/StringUTF16", "length", "([B)I"⟩ : MethodName) jdk_52_method_6_code 1 (some .int) :: ws) ({ frames := 0, cells := 0, slots := 0, locals := 0 } : Room)) (fun a U => a = #[(.ref p0)] ∧ Z.Warmed39 U.vm ∧ U.heap = h0) (fun _ _ _ _ _ => True) (fun _ U o U' => ∃ v L, o = .returned v ∧ QU6 Z p0 ka b0_ b1_ b2_ b3_ b4_ b5_ b6_ b7_ b8_ b9_ b10_ b11_ r h0 n0 v U'.heap L ∧ FrameEnd U o U' L ({ frames := 0, cells := 0, slots := 0, locals := 0 } : Room).cells ({ frames := 0, cells := 0, slots := 0, locals := 0 } : Room).slots) := by
  refine MetFree.of_bodySF (plainFor_of_name pn_20) hisR ?_
  intro p e s m args below meth c s₁ Bd hml0 hP hK
  obtain ⟨rfl, hZ, hh⟩ := hP
  have hx := Bd.exec
  have hby := Bd.bytes
  have hml : c.maxLocals = 1 := hml0
  have hown : s.vm.findClass "java/lang/StringUTF16" = some m.cls := findClass_of_methodNamed Bd.named
  have hnm := (name_of_methodNamed Bd.named Bd.method).1
  have X0 : Stand p l e ({ frames := 0, cells := 0, slots := 0, locals := 0 } : Room) s m #[(.ref p0)] below meth c s₁ [] 0 0 := Stand.of_body Bd
  have e0 : s₁.heap = h0 := by rw [← hh, Bd.state]; rfl
  have N0 := Fr.nil n0
  refine own_start ?_
  refine own_via (fun t k => castTop (ef_rmU6 m p0) k) ?_
  show own_Go p e below _ (s₁.setTop (mkF m 0 #[oR p0] []))
  refine own_via (fun t kz => XS.aloadN X0.here hx rfl (hb hby d25_0) rfl rfl kz) ?_
  show own_Go p e below _ (s₁.setTop (mkF m 1 #[oR p0] [(.ref p0)]))
  obtain ⟨cl1, Ar1, kc1, Sz1, Nn1, Hs1, Gs1⟩ := id V_p0
  refine own_via (fun t kz => X0.arraylength hx (by rw [e0]; exact Ar1.1) (State.isArrayOf_alike hZ.alike Ar1.2.1) (g := (mkF m 1 #[oR p0] [(.ref p0)])) rfl rfl (hb hby d25_1) t kz) ?_
  show own_Go p e below _ (s₁.setTop (mkF m 2 #[oR p0] [(.int (cl1.slots.size.toInt32))]))
  rw [len_of Sz1 Nn1]
  show own_Go p e below _ (s₁.setTop (mkF m 2 #[oR p0] [(.int (12 : Int32))]))
  refine own_via (fun t kz => XS.iconst X0.here hx rfl (hb hby d25_2) kz) ?_
  show own_Go p e below _ (s₁.setTop (mkF m 3 #[oR p0] [(.int (1 : Int32)), (.int (12 : Int32))]))
  refine own_via (fun t kz => XS.ishr X0.here hx rfl (hb hby d25_3) rfl kz) ?_
  show own_Go p e below _ (s₁.setTop (mkF m 4 #[oR p0] [(.int (6 : Int32))]))
  have hv : fU6 = (6 : Int32) := by unfold fU6; rfl
  obtain ⟨fs, hr, hrun, hended, hW, hsame⟩ := X0.leave (v := some (.int (6 : Int32))) (fun h => by rw [Bd.returns] at h; cases h)
  refine ⟨_, _, retI X0 hx Bd.returns (hb hby d25_4) hr, hrun, hended, _, _, rfl, ?_, ⟨_, rfl⟩, hW, hsame.mono (by decide) (by decide)⟩
  show QU6 Z p0 ka b0_ b1_ b2_ b3_ b4_ b5_ b6_ b7_ b8_ b9_ b10_ b11_ r h0 n0 _ s₁.heap _
  rw [e0]
  exact ⟨by rw [← hr0, hv], N0, rfl⟩
def fH6_0 (b0_ : Int32) : Int32 := ((b0_ &&& (255 : Int32)).toUInt32.toUInt16.toUInt32.toInt32)
theorem d14_0 : decode jdk_43_method_2_code 0 = .ok (.iload_n 1, 1) := by decide +kernel
theorem d14_1 : decode jdk_43_method_2_code 1 = .ok (.aload_n 0, 1) := by decide +kernel
theorem d14_2 : decode jdk_43_method_2_code 2 = .ok (.arraylength, 1) := by decide +kernel
theorem d14_3 : decode jdk_43_method_2_code 3 = .ok (.invokestatic 9, 3) := by decide +kernel
theorem d14_6 : decode jdk_43_method_2_code 6 = .ok (.aload_n 0, 1) := by decide +kernel
theorem d14_7 : decode jdk_43_method_2_code 7 = .ok (.iload_n 1, 1) := by decide +kernel
theorem d14_8 : decode jdk_43_method_2_code 8 = .ok (.baload, 1) := by decide +kernel
theorem d14_9 : decode jdk_43_method_2_code 9 = .ok (.sipush 255, 3) := by decide +kernel
theorem d14_12 : decode jdk_43_method_2_code 12 = .ok (.iand, 1) := by decide +kernel
theorem d14_13 : decode jdk_43_method_2_code 13 = .ok (.i2c, 1) := by decide +kernel
theorem d14_14 : decode jdk_43_method_2_code 14 = .ok (.ireturn, 1) := by decide +kernel
theorem pn_14 : plainName "java/lang/StringLatin1" = true := by first | (simp [plainName, overriddenIn]; done) | decide +kernel
theorem pd_14_0 : parseMethodDescriptor "(II)V" = some ⟨[.int, .int], none⟩ := by decide +kernel
theorem ef_rmH6_0 (m : MethodId) (q0 : Addr) : entryFrame m #[(.ref q0), (.int (0 : Int32))] 2 = mkF m 0 #[oR q0, oI (0 : Int32)] [] := by first | (simp [entryFrame, mkF, argsToLocals, Value.category]; done) | rfl
def QH6_0 (Z : State) (p0 : Addr) (wcs : Int32) (wsf : Value) (ka : ClassId) (b0_ : Int32) (b1_ : Int32) (b2_ : Int32) (b3_ : Int32) (b4_ : Int32) (b5_ : Int32) (r : Int32) (h0 : Heap) (n0 : Nat) (v : Option Value) (h : Heap) (L : List Loc) : Prop := v = some (.int r) ∧ Fr n0 L ∧ h = h0
set_option maxRecDepth 65536 in
set_option maxHeartbeats 40000000 in
theorem rmH6_0 (l : Launch) (Z : State) (a0 : Array Value) (hw : ∀ d ∈ tables_1, d.before a0 Z = true) (ws : List Jvm.Cond) (p0 : Addr) (wcs : Int32) (wsf : Value) (ka : ClassId) (b0_ : Int32) (b1_ : Int32) (b2_ : Int32) (b3_ : Int32) (b4_ : Int32) (b5_ : Int32) (r : Int32) (h0 : Heap) (n0 : Nat) (Z0 : n0 ≤ h0.size) (OLD : Old Z n0 h0) (hcs : ¬ (wcs = (0 : Int32))) (rsf : wsf.isRef = true) (B_wcs : Sta Z Z.heap "java/lang/String" "COMPACT_STRINGS" "Z" (.int wcs)) (B_wsf : Sta Z Z.heap "jdk/internal/util/Preconditions" "SIOOBE_FORMATTER" "Ljava/util/function/BiFunction;" wsf) (B_wad : Sta Z Z.heap "java/lang/StringUTF16" "$assertionsDisabled" "Z" (.int (1 : Int32))) (B_whi : Sta Z Z.heap "java/lang/StringUTF16" "HI_BYTE_SHIFT" "I" (.int (0 : Int32))) (B_wlo : Sta Z Z.heap "java/lang/StringUTF16" "LO_BYTE_SHIFT" "I" (.int (8 : Int32))) (V_p0 : Arv Z h0 p0 ka .byte (6 : Int32) [(.int b0_), (.int b1_), (.int b2_), (.int b3_), (.int b4_), (.int b5_)] (.int (0 : Int32))) (hr0 : (fH6_0 b0_) = r) :
    MetFree l (⟨"java/lang/StringLatin1", "charAt", "([BI)C"⟩ : MethodName) (head1 (Jvm.Cond.code (⟨"java/lang/StringLatin1", "charAt", "([BI)C"⟩ : MethodName) jdk_43_method_2_code 2 (some .char) :: ws) ({ frames := 2, cells := 0, slots := 0, locals := 27 } : Room)) (fun a U => a = #[(.ref p0), (.int (0 : Int32))] ∧ Z.Warmed39 U.vm ∧ U.heap = h0) (fun _ _ _ _ _ => True) (fun _ U o U' => ∃ v L, o = .returned v ∧ QH6_0 Z p0 wcs wsf ka b0_ b1_ b2_ b3_ b4_ b5_ r h0 n0 v U'.heap L ∧ FrameEnd U o U' L ({ frames := 2, cells := 0, slots := 0, locals := 27 } : Room).cells ({ frames := 2, cells := 0, slots := 0, locals := 27 } : Room).slots) := by
  refine MetFree.of_bodySF (plainFor_of_name pn_14) hisR ?_
  intro p e s m args below meth c s₁ Bd hml0 hP hK
  obtain ⟨rfl, hZ, hh⟩ := hP
  have hx := Bd.exec
  have hby := Bd.bytes
  have hml : c.maxLocals = 2 := hml0
  have hown : s.vm.findClass "java/lang/StringLatin1" = some m.cls := findClass_of_methodNamed Bd.named
  have hnm := (name_of_methodNamed Bd.named Bd.method).1
  have X0 : Stand p l e ({ frames := 2, cells := 0, slots := 0, locals := 27 } : Room) s m #[(.ref p0), (.int (0 : Int32))] below meth c s₁ [] 0 0 := Stand.of_body Bd
  have e0 : s₁.heap = h0 := by rw [← hh, Bd.state]; rfl
  have N0 := Fr.nil n0
  refine own_start ?_
  refine own_via (fun t k => castTop (ef_rmH6_0 m p0) k) ?_
  show own_Go p e below _ (s₁.setTop (mkF m 0 #[oR p0, oI (0 : Int32)] []))
  refine own_via (fun t kz => XS.iloadN X0.here hx rfl (hb hby d14_0) rfl kz) ?_
  refine own_via (fun t kz => XS.aloadN X0.here hx rfl (hb hby d14_1) rfl rfl kz) ?_
  show own_Go p e below _ (s₁.setTop (mkF m 2 #[oR p0, oI (0 : Int32)] [(.ref p0), (.int (0 : Int32))]))
  obtain ⟨cl1, Ar1, kc1, Sz1, Nn1, Hs1, Gs1⟩ := id V_p0
  refine own_via (fun t kz => X0.arraylength hx (by rw [e0]; exact Ar1.1) (State.isArrayOf_alike hZ.alike Ar1.2.1) (g := (mkF m 2 #[oR p0, oI (0 : Int32)] [(.ref p0), (.int (0 : Int32))])) rfl rfl (hb hby d14_2) t kz) ?_
  show own_Go p e below _ (s₁.setTop (mkF m 3 #[oR p0, oI (0 : Int32)] [(.int (cl1.slots.size.toInt32)), (.int (0 : Int32))]))
  rw [len_of Sz1 Nn1]
  show own_Go p e below _ (s₁.setTop (mkF m 3 #[oR p0, oI (0 : Int32)] [(.int (6 : Int32)), (.int (0 : Int32))]))
  obtain ⟨_, _, ⟨T2, L2, k2, n2⟩, -, X2, ⟨Lc2, hQ2, l2, y2, z2⟩, st2⟩ := Jvm.LawKit.callS X0 hx (y := (⟨"java/lang/String", "checkIndex", "(II)V"⟩ : MethodName)) hown (mvT hZ (own_w hw 80)) (mvT hZ (own_w hw 81)) (mvT hZ (own_w hw 17)) (mvT hZ (own_w hw 82)) (by decide) (backOf (W := 0) (rm15 l Z a0 hw [] (0 : Int32) (6 : Int32) wsf h0 n0 Z0 rsf (B_wsf.ext OLD.2) (by decide) (by decide)) hZ (own_w hw 82) (own_w hw 17) (by decide) (by decide)) (g := (mkF m 3 #[oR p0, oI (0 : Int32)] [(.int (6 : Int32)), (.int (0 : Int32))])) rfl (by rw [hml]; rfl) (argsL := [(.int (0 : Int32)), (.int (6 : Int32))]) (rest := []) (lenOf pd_14_0 rfl) rfl (by show 2 * 0 + _ ≤ _; exact Nat.le_of_eq rfl) (hb hby d14_3) (fun _ _ => ⟨rfl, e0, (by decide : 0 + 0 ≤ _), (by decide : 0 + 0 ≤ _)⟩)
  dsimp only [Pt.U, Pt.locs, Pt.cells, Pt.slots] at X2 l2 y2 z2 st2 hQ2
  subst l2 y2 z2
  obtain ⟨rfl, Nq2, e2⟩ := hQ2
  have N3 := Fr.app N0 Nq2
  refine own_via st2 ?_
  refine own_via (fun t kz => XS.aloadN X2.here hx rfl (hb hby d14_6) rfl rfl kz) ?_
  refine own_via (fun t kz => XS.iloadN X2.here hx rfl (hb hby d14_7) rfl kz) ?_
  show own_Go p e below _ (T2.setTop (mkF m 8 #[oR p0, oI (0 : Int32)] [(.int (0 : Int32)), (.ref p0)]))
  obtain ⟨cl4, Ar4, kc4, Sz4, Nn4, Hs4, Gs4⟩ := id V_p0
  have in4 := inb_of (j := (0 : Int32)) Sz4 ⟨by decide, by decide⟩
  have at4 : cl4.slots[((0 : Int32)).toNatClampNeg]? = some (.int b0_) := Hs4.at in4 rfl
  refine own_via (fun t kz => X2.baloadBytes hx (j := (0 : Int32)) (v := (.int b0_)) (by rw [e2]; exact Ar4.1) (State.isArrayOf_alike hZ.alike Ar4.2.1) Ar4.2.2 in4 at4 (g := (mkF m 8 #[oR p0, oI (0 : Int32)] [(.int (0 : Int32)), (.ref p0)])) rfl rfl (hb hby d14_8) t kz) ?_
  refine own_via (fun t kz => XS.sipush X2.here hx rfl (hb hby d14_9) kz) ?_
  refine own_via (fun t kz => XS.iand X2.here hx rfl (hb hby d14_12) rfl kz) ?_
  show own_Go p e below _ (T2.setTop (mkF m 13 #[oR p0, oI (0 : Int32)] [(.int (b0_ &&& (255 : Int32)))]))
  refine own_via (fun t kz => XS.i2c X2.here hx rfl (hb hby d14_13) rfl kz) ?_
  show own_Go p e below _ (T2.setTop (mkF m 14 #[oR p0, oI (0 : Int32)] [(.int ((b0_ &&& (255 : Int32)).toUInt32.toUInt16.toUInt32.toInt32))]))
  have hv : (fH6_0 b0_) = ((b0_ &&& (255 : Int32)).toUInt32.toUInt16.toUInt32.toInt32) := by unfold fH6_0; rfl
  obtain ⟨fs, hr, hrun, hended, hW, hsame⟩ := X2.leave (v := some (.int ((b0_ &&& (255 : Int32)).toUInt32.toUInt16.toUInt32.toInt32))) (fun h => by rw [Bd.returns] at h; cases h)
  refine ⟨_, _, retOut X2 hx (i := .ireturn) Bd.returns (narrow_c _) (Or.inl ⟨rfl, by simp, _, rfl⟩) (hb hby d14_14) hr, hrun, hended, _, _, rfl, ?_, ⟨_, rfl⟩, hW, hsame.mono (by decide) (by decide)⟩
  show QH6_0 Z p0 wcs wsf ka b0_ b1_ b2_ b3_ b4_ b5_ r h0 n0 _ T2.heap _
  rw [e2]
  exact ⟨by rw [← hr0, hv], N3, rfl⟩
theorem d24_0 : decode jdk_52_method_91_code 0 = .ok (.iload_n 0, 1) := by decide +kernel
theorem d24_1 : decode jdk_52_method_91_code 1 = .ok (.aload_n 1, 1) := by decide +kernel
theorem d24_2 : decode jdk_52_method_91_code 2 = .ok (.invokestatic 48, 3) := by decide +kernel
theorem d24_5 : decode jdk_52_method_91_code 5 = .ok (.invokestatic 414, 3) := by decide +kernel
theorem d24_8 : decode jdk_52_method_91_code 8 = .ok (.return_, 1) := by decide +kernel
theorem pd_24_0 : parseMethodDescriptor "([B)I" = some ⟨[(.array .byte)], some .int⟩ := by decide +kernel
theorem pd_24_1 : parseMethodDescriptor "(II)V" = some ⟨[.int, .int], none⟩ := by decide +kernel
theorem ef_rmX6_0 (m : MethodId) (q0 : Addr) : entryFrame m #[(.int (0 : Int32)), (.ref q0)] 2 = mkF m 0 #[oI (0 : Int32), oR q0] [] := by first | (simp [entryFrame, mkF, argsToLocals, Value.category]; done) | rfl
def QX6_0 (Z : State) (p1 : Addr) (kb : ClassId) (b0_ : Int32) (b1_ : Int32) (b2_ : Int32) (b3_ : Int32) (b4_ : Int32) (b5_ : Int32) (b6_ : Int32) (b7_ : Int32) (b8_ : Int32) (b9_ : Int32) (b10_ : Int32) (b11_ : Int32) (wcs : Int32) (wsf : Value) (h0 : Heap) (n0 : Nat) (v : Option Value) (h : Heap) (L : List Loc) : Prop := v = none ∧ Fr n0 L ∧ h = h0
set_option maxRecDepth 65536 in
set_option maxHeartbeats 40000000 in
theorem rmX6_0 (l : Launch) (Z : State) (a0 : Array Value) (hw : ∀ d ∈ tables_1, d.before a0 Z = true) (ws : List Jvm.Cond) (p1 : Addr) (kb : ClassId) (b0_ : Int32) (b1_ : Int32) (b2_ : Int32) (b3_ : Int32) (b4_ : Int32) (b5_ : Int32) (b6_ : Int32) (b7_ : Int32) (b8_ : Int32) (b9_ : Int32) (b10_ : Int32) (b11_ : Int32) (wcs : Int32) (wsf : Value) (h0 : Heap) (n0 : Nat) (Z0 : n0 ≤ h0.size) (VB : Arv Z h0 p1 kb .byte (12 : Int32) [(.int b0_), (.int b1_), (.int b2_), (.int b3_), (.int b4_), (.int b5_), (.int b6_), (.int b7_), (.int b8_), (.int b9_), (.int b10_), (.int b11_)] (.int (0 : Int32))) (OLD : Old Z n0 h0) (hcs : ¬ (wcs = (0 : Int32))) (rsf : wsf.isRef = true) (B_wcs : Sta Z Z.heap "java/lang/String" "COMPACT_STRINGS" "Z" (.int wcs)) (B_wsf : Sta Z Z.heap "jdk/internal/util/Preconditions" "SIOOBE_FORMATTER" "Ljava/util/function/BiFunction;" wsf) (B_wad : Sta Z Z.heap "java/lang/StringUTF16" "$assertionsDisabled" "Z" (.int (1 : Int32))) (B_whi : Sta Z Z.heap "java/lang/StringUTF16" "HI_BYTE_SHIFT" "I" (.int (0 : Int32))) (B_wlo : Sta Z Z.heap "java/lang/StringUTF16" "LO_BYTE_SHIFT" "I" (.int (8 : Int32))) :
    MetFree l (⟨"java/lang/StringUTF16", "checkIndex", "(I[B)V"⟩ : MethodName) (head1 (Jvm.Cond.code (⟨"java/lang/StringUTF16", "checkIndex", "(I[B)V"⟩ : MethodName) jdk_52_method_91_code 2 none :: ws) ({ frames := 2, cells := 0, slots := 0, locals := 27 } : Room)) (fun a U => a = #[(.int (0 : Int32)), (.ref p1)] ∧ Z.Warmed39 U.vm ∧ U.heap = h0) (fun _ _ _ _ _ => True) (fun _ U o U' => ∃ v L, o = .returned v ∧ QX6_0 Z p1 kb b0_ b1_ b2_ b3_ b4_ b5_ b6_ b7_ b8_ b9_ b10_ b11_ wcs wsf h0 n0 v U'.heap L ∧ FrameEnd U o U' L ({ frames := 2, cells := 0, slots := 0, locals := 27 } : Room).cells ({ frames := 2, cells := 0, slots := 0, locals := 27 } : Room).slots) := by
  refine MetFree.of_bodySF (plainFor_of_name pn_20) hisR ?_
  intro p e s m args below meth c s₁ Bd hml0 hP hK
  obtain ⟨rfl, hZ, hh⟩ := hP
  have hx := Bd.exec
  have hby := Bd.bytes
  have hml : c.maxLocals = 2 := hml0
  have hown : s.vm.findClass "java/lang/StringUTF16" = some m.cls := findClass_of_methodNamed Bd.named
  have hnm := (name_of_methodNamed Bd.named Bd.method).1
  have X0 : Stand p l e ({ frames := 2, cells := 0, slots := 0, locals := 27 } : Room) s m #[(.int (0 : Int32)), (.ref p1)] below meth c s₁ [] 0 0 := Stand.of_body Bd
  have e0 : s₁.heap = h0 := by rw [← hh, Bd.state]; rfl
  have N0 := Fr.nil n0
  refine own_start ?_
  refine own_via (fun t k => castTop (ef_rmX6_0 m p1) k) ?_
  show own_Go p e below _ (s₁.setTop (mkF m 0 #[oI (0 : Int32), oR p1] []))
  refine own_via (fun t kz => XS.iloadN X0.here hx rfl (hb hby d24_0) rfl kz) ?_
  refine own_via (fun t kz => XS.aloadN X0.here hx rfl (hb hby d24_1) rfl rfl kz) ?_
  show own_Go p e below _ (s₁.setTop (mkF m 2 #[oI (0 : Int32), oR p1] [(.ref p1), (.int (0 : Int32))]))
  obtain ⟨_, _, ⟨T1, L1, k1, n1⟩, -, X1, ⟨Lc1, hQ1, l1, y1, z1⟩, st1⟩ := Jvm.LawKit.callS X0 hx (y := (⟨"java/lang/StringUTF16", "length", "([B)I"⟩ : MethodName)) hown (mvT hZ (own_w hw 122)) (mvT hZ (own_w hw 123)) (mvT hZ (own_w hw 29)) (mvT hZ (own_w hw 124)) (by decide) (backOf (W := 1) (rmU6 l Z a0 hw [] p1 kb b0_ b1_ b2_ b3_ b4_ b5_ b6_ b7_ b8_ b9_ b10_ b11_ (6 : Int32) h0 n0 Z0 VB (by unfold fU6; rfl)) hZ (own_w hw 124) (own_w hw 29) (by decide) (by decide)) (g := (mkF m 2 #[oI (0 : Int32), oR p1] [(.ref p1), (.int (0 : Int32))])) rfl (by rw [hml]; rfl) (argsL := [(.ref p1)]) (rest := [(.int (0 : Int32))]) (lenOf pd_24_0 rfl) rfl (by show 2 * 0 + _ ≤ _; exact Nat.le_of_eq rfl) (hb hby d24_2) (fun _ _ => ⟨rfl, e0, (by decide : 0 + 0 ≤ _), (by decide : 0 + 0 ≤ _)⟩)
  dsimp only [Pt.U, Pt.locs, Pt.cells, Pt.slots] at X1 l1 y1 z1 st1 hQ1
  subst l1 y1 z1
  obtain ⟨rfl, Nq1, e1⟩ := hQ1
  have N2 := Fr.app N0 Nq1
  refine own_via st1 ?_
  show own_Go p e below _ (T1.setTop (mkF m 5 #[oI (0 : Int32), oR p1] [(.int (6 : Int32)), (.int (0 : Int32))]))
  obtain ⟨_, _, ⟨T3, L3, k3, n3⟩, -, X3, ⟨Lc3, hQ3, l3, y3, z3⟩, st3⟩ := Jvm.LawKit.callS X1 hx (y := (⟨"java/lang/String", "checkIndex", "(II)V"⟩ : MethodName)) hown (mvT hZ (own_w hw 125)) (mvT hZ (own_w hw 81)) (mvT hZ (own_w hw 17)) (mvT hZ (own_w hw 82)) (by decide) (backOf (W := 0) (rm15 l Z a0 hw [] (0 : Int32) (6 : Int32) wsf h0 n0 Z0 rsf (B_wsf.ext OLD.2) (by decide) (by decide)) hZ (own_w hw 82) (own_w hw 17) (by decide) (by decide)) (g := (mkF m 5 #[oI (0 : Int32), oR p1] [(.int (6 : Int32)), (.int (0 : Int32))])) rfl (by rw [hml]; rfl) (argsL := [(.int (0 : Int32)), (.int (6 : Int32))]) (rest := []) (lenOf pd_24_1 rfl) rfl (by show 2 * 0 + _ ≤ _; exact Nat.le_of_eq rfl) (hb hby d24_5) (fun _ _ => ⟨rfl, e1, (by decide : 0 + 0 ≤ _), (by decide : 0 + 0 ≤ _)⟩)
  dsimp only [Pt.U, Pt.locs, Pt.cells, Pt.slots] at X3 l3 y3 z3 st3 hQ3
  subst l3 y3 z3
  obtain ⟨rfl, Nq3, e3⟩ := hQ3
  have N4 := Fr.app N2 Nq3
  refine own_via st3 ?_
  show own_Go p e below _ (T3.setTop (mkF m 8 #[oI (0 : Int32), oR p1] []))
  obtain ⟨fs, hr, hrun, hended, hW, hsame⟩ := X3.leave (v := none) (fun _ => rfl)
  refine ⟨_, _, X3.returnOut hx Bd.returns (hb hby d24_8) hr, hrun, hended, _, _, rfl, ?_, ⟨_, rfl⟩, hW, hsame.mono (by decide) (by decide)⟩
  show QX6_0 Z p1 kb b0_ b1_ b2_ b3_ b4_ b5_ b6_ b7_ b8_ b9_ b10_ b11_ wcs wsf h0 n0 _ T3.heap _
  rw [e3]
  exact ⟨rfl, N4, rfl⟩
def fY6_0 (b0_ : Int32) (b1_ : Int32) : Int32 := ((((b0_ &&& (255 : Int32)) <<< ((0 : Int32) &&& 31)) ||| ((b1_ &&& (255 : Int32)) <<< ((8 : Int32) &&& 31))).toUInt32.toUInt16.toUInt32.toInt32)
theorem d23_0 : decode jdk_52_method_83_code 0 = .ok (.iload_n 1, 1) := by decide +kernel
theorem d23_1 : decode jdk_52_method_83_code 1 = .ok (.aload_n 0, 1) := by decide +kernel
theorem d23_2 : decode jdk_52_method_83_code 2 = .ok (.invokestatic 67, 3) := by decide +kernel
theorem d23_5 : decode jdk_52_method_83_code 5 = .ok (.aload_n 0, 1) := by decide +kernel
theorem d23_6 : decode jdk_52_method_83_code 6 = .ok (.iload_n 1, 1) := by decide +kernel
theorem d23_7 : decode jdk_52_method_83_code 7 = .ok (.invokestatic 71, 3) := by decide +kernel
theorem d23_10 : decode jdk_52_method_83_code 10 = .ok (.ireturn, 1) := by decide +kernel
theorem pd_23_0 : parseMethodDescriptor "(I[B)V" = some ⟨[.int, (.array .byte)], none⟩ := by decide +kernel
theorem pd_23_1 : parseMethodDescriptor "([BI)C" = some ⟨[(.array .byte), .int], some .char⟩ := by decide +kernel
theorem ef_rmY6_0 (m : MethodId) (q0 : Addr) : entryFrame m #[(.ref q0), (.int (0 : Int32))] 2 = mkF m 0 #[oR q0, oI (0 : Int32)] [] := by first | (simp [entryFrame, mkF, argsToLocals, Value.category]; done) | rfl
def QY6_0 (Z : State) (p0 : Addr) (wcs : Int32) (wsf : Value) (ka : ClassId) (b0_ : Int32) (b1_ : Int32) (b2_ : Int32) (b3_ : Int32) (b4_ : Int32) (b5_ : Int32) (b6_ : Int32) (b7_ : Int32) (b8_ : Int32) (b9_ : Int32) (b10_ : Int32) (b11_ : Int32) (r : Int32) (h0 : Heap) (n0 : Nat) (v : Option Value) (h : Heap) (L : List Loc) : Prop := v = some (.int r) ∧ Fr n0 L ∧ h = h0
set_option maxRecDepth 65536 in
set_option maxHeartbeats 40000000 in
theorem rmY6_0 (l : Launch) (Z : State) (a0 : Array Value) (hw : ∀ d ∈ tables_1, d.before a0 Z = true) (ws : List Jvm.Cond) (p0 : Addr) (wcs : Int32) (wsf : Value) (ka : ClassId) (b0_ : Int32) (b1_ : Int32) (b2_ : Int32) (b3_ : Int32) (b4_ : Int32) (b5_ : Int32) (b6_ : Int32) (b7_ : Int32) (b8_ : Int32) (b9_ : Int32) (b10_ : Int32) (b11_ : Int32) (r : Int32) (h0 : Heap) (n0 : Nat) (Z0 : n0 ≤ h0.size) (OLD : Old Z n0 h0) (hcs : ¬ (wcs = (0 : Int32))) (rsf : wsf.isRef = true) (B_wcs : Sta Z Z.heap "java/lang/String" "COMPACT_STRINGS" "Z" (.int wcs)) (B_wsf : Sta Z Z.heap "jdk/internal/util/Preconditions" "SIOOBE_FORMATTER" "Ljava/util/function/BiFunction;" wsf) (B_wad : Sta Z Z.heap "java/lang/StringUTF16" "$assertionsDisabled" "Z" (.int (1 : Int32))) (B_whi : Sta Z Z.heap "java/lang/StringUTF16" "HI_BYTE_SHIFT" "I" (.int (0 : Int32))) (B_wlo : Sta Z Z.heap "java/lang/StringUTF16" "LO_BYTE_SHIFT" "I" (.int (8 : Int32))) (V_p0 : Arv Z h0 p0 ka .byte (12 : Int32) [(.int b0_), (.int b1_), (.int b2_), (.int b3_), (.int b4_), (.int b5_), (.int b6_), (.int b7_), (.int b8_), (.int b9_), (.int b10_), (.int b11_)] (.int (0 : Int32))) (hr0 : (fY6_0 b0_ b1_) = r) :
    MetFree l (⟨"java/lang/StringUTF16", "charAt", "([BI)C"⟩ : MethodName) (head1 (Jvm.Cond.code (⟨"java/lang/StringUTF16", "charAt", "([BI)C"⟩ : MethodName) jdk_52_method_83_code 2 (some .char) :: ws) ({ frames := 3, cells := 0, slots := 0, locals := 40 } : Room)) (fun a U => a = #[(.ref p0), (.int (0 : Int32))] ∧ Z.Warmed39 U.vm ∧ U.heap = h0) (fun _ _ _ _ _ => True) (fun _ U o U' => ∃ v L, o = .returned v ∧ QY6_0 Z p0 wcs wsf ka b0_ b1_ b2_ b3_ b4_ b5_ b6_ b7_ b8_ b9_ b10_ b11_ r h0 n0 v U'.heap L ∧ FrameEnd U o U' L ({ frames := 3, cells := 0, slots := 0, locals := 40 } : Room).cells ({ frames := 3, cells := 0, slots := 0, locals := 40 } : Room).slots) := by
  refine MetFree.of_bodySF (plainFor_of_name pn_20) hisR ?_
  intro p e s m args below meth c s₁ Bd hml0 hP hK
  obtain ⟨rfl, hZ, hh⟩ := hP
  have hx := Bd.exec
  have hby := Bd.bytes
  have hml : c.maxLocals = 2 := hml0
  have hown : s.vm.findClass "java/lang/StringUTF16" = some m.cls := findClass_of_methodNamed Bd.named
  have hnm := (name_of_methodNamed Bd.named Bd.method).1
  have X0 : Stand p l e ({ frames := 3, cells := 0, slots := 0, locals := 40 } : Room) s m #[(.ref p0), (.int (0 : Int32))] below meth c s₁ [] 0 0 := Stand.of_body Bd
  have e0 : s₁.heap = h0 := by rw [← hh, Bd.state]; rfl
  have N0 := Fr.nil n0
  refine own_start ?_
  refine own_via (fun t k => castTop (ef_rmY6_0 m p0) k) ?_
  show own_Go p e below _ (s₁.setTop (mkF m 0 #[oR p0, oI (0 : Int32)] []))
  refine own_via (fun t kz => XS.iloadN X0.here hx rfl (hb hby d23_0) rfl kz) ?_
  refine own_via (fun t kz => XS.aloadN X0.here hx rfl (hb hby d23_1) rfl rfl kz) ?_
  show own_Go p e below _ (s₁.setTop (mkF m 2 #[oR p0, oI (0 : Int32)] [(.ref p0), (.int (0 : Int32))]))
  obtain ⟨_, _, ⟨T1, L1, k1, n1⟩, -, X1, ⟨Lc1, hQ1, l1, y1, z1⟩, st1⟩ := Jvm.LawKit.callS X0 hx (y := (⟨"java/lang/StringUTF16", "checkIndex", "(I[B)V"⟩ : MethodName)) hown (mvT hZ (own_w hw 119)) (mvT hZ (own_w hw 120)) (mvT hZ (own_w hw 29)) (mvT hZ (own_w hw 121)) (by decide) (backOf (W := 0) (rmX6_0 l Z a0 hw [] p0 ka b0_ b1_ b2_ b3_ b4_ b5_ b6_ b7_ b8_ b9_ b10_ b11_ wcs wsf h0 n0 Z0 V_p0 OLD hcs rsf B_wcs B_wsf B_wad B_whi B_wlo) hZ (own_w hw 121) (own_w hw 29) (by decide) (by decide)) (g := (mkF m 2 #[oR p0, oI (0 : Int32)] [(.ref p0), (.int (0 : Int32))])) rfl (by rw [hml]; rfl) (argsL := [(.int (0 : Int32)), (.ref p0)]) (rest := []) (lenOf pd_23_0 rfl) rfl (by show 2 * 0 + _ ≤ _; exact Nat.le_of_eq rfl) (hb hby d23_2) (fun _ _ => ⟨rfl, e0, (by decide : 0 + 0 ≤ _), (by decide : 0 + 0 ≤ _)⟩)
  dsimp only [Pt.U, Pt.locs, Pt.cells, Pt.slots] at X1 l1 y1 z1 st1 hQ1
  subst l1 y1 z1
  obtain ⟨rfl, Nq1, e1⟩ := hQ1
  have N2 := Fr.app N0 Nq1
  refine own_via st1 ?_
  refine own_via (fun t kz => XS.aloadN X1.here hx rfl (hb hby d23_5) rfl rfl kz) ?_
  refine own_via (fun t kz => XS.iloadN X1.here hx rfl (hb hby d23_6) rfl kz) ?_
  show own_Go p e below _ (T1.setTop (mkF m 7 #[oR p0, oI (0 : Int32)] [(.int (0 : Int32)), (.ref p0)]))
  obtain ⟨_, _, ⟨T3, L3, k3, n3⟩, -, X3, ⟨Lc3, hQ3, l3, y3, z3⟩, st3⟩ := Jvm.LawKit.callS X1 hx (y := (⟨"java/lang/StringUTF16", "getChar", "([BI)C"⟩ : MethodName)) hown (mvT hZ (own_w hw 113)) (mvT hZ (own_w hw 114)) (mvT hZ (own_w hw 29)) (mvT hZ (own_w hw 115)) (by decide) (backOf (W := 0) (rmG6_0 l Z a0 hw [] p0 (1 : Int32) (0 : Int32) (8 : Int32) ka b0_ b1_ b2_ b3_ b4_ b5_ b6_ b7_ b8_ b9_ b10_ b11_ ((((b0_ &&& (255 : Int32)) <<< ((0 : Int32) &&& 31)) ||| ((b1_ &&& (255 : Int32)) <<< ((8 : Int32) &&& 31))).toUInt32.toUInt16.toUInt32.toInt32) h0 n0 Z0 rfl (B_wad.ext OLD.2) (B_whi.ext OLD.2) (B_wlo.ext OLD.2) V_p0 (by unfold fG6_0; rfl)) hZ (own_w hw 115) (own_w hw 29) (by decide) (by decide)) (g := (mkF m 7 #[oR p0, oI (0 : Int32)] [(.int (0 : Int32)), (.ref p0)])) rfl (by rw [hml]; rfl) (argsL := [(.ref p0), (.int (0 : Int32))]) (rest := []) (lenOf pd_23_1 rfl) rfl (by show 2 * 0 + _ ≤ _; exact Nat.le_of_eq rfl) (hb hby d23_7) (fun _ _ => ⟨rfl, e1, (by decide : 0 + 0 ≤ _), (by decide : 0 + 0 ≤ _)⟩)
  dsimp only [Pt.U, Pt.locs, Pt.cells, Pt.slots] at X3 l3 y3 z3 st3 hQ3
  subst l3 y3 z3
  obtain ⟨rfl, Nq3, e3⟩ := hQ3
  have N4 := Fr.app N2 Nq3
  refine own_via st3 ?_
  show own_Go p e below _ (T3.setTop (mkF m 10 #[oR p0, oI (0 : Int32)] [(.int ((((b0_ &&& (255 : Int32)) <<< ((0 : Int32) &&& 31)) ||| ((b1_ &&& (255 : Int32)) <<< ((8 : Int32) &&& 31))).toUInt32.toUInt16.toUInt32.toInt32))]))
  have hv : (fY6_0 b0_ b1_) = ((((b0_ &&& (255 : Int32)) <<< ((0 : Int32) &&& 31)) ||| ((b1_ &&& (255 : Int32)) <<< ((8 : Int32) &&& 31))).toUInt32.toUInt16.toUInt32.toInt32) := by unfold fY6_0; rfl
  obtain ⟨fs, hr, hrun, hended, hW, hsame⟩ := X3.leave (v := some (.int ((((b0_ &&& (255 : Int32)) <<< ((0 : Int32) &&& 31)) ||| ((b1_ &&& (255 : Int32)) <<< ((8 : Int32) &&& 31))).toUInt32.toUInt16.toUInt32.toInt32))) (fun h => by rw [Bd.returns] at h; cases h)
  refine ⟨_, _, retOut X3 hx (i := .ireturn) Bd.returns (narrow_c _) (Or.inl ⟨rfl, by simp, _, rfl⟩) (hb hby d23_10) hr, hrun, hended, _, _, rfl, ?_, ⟨_, rfl⟩, hW, hsame.mono (by decide) (by decide)⟩
  show QY6_0 Z p0 wcs wsf ka b0_ b1_ b2_ b3_ b4_ b5_ b6_ b7_ b8_ b9_ b10_ b11_ r h0 n0 _ T3.heap _
  rw [e3]
  exact ⟨by rw [← hr0, hv], N4, rfl⟩
theorem d12_0 : decode jdk_42_method_56_code 0 = .ok (.aload_n 0, 1) := by decide +kernel
theorem d12_1 : decode jdk_42_method_56_code 1 = .ok (.invokevirtual 492, 3) := by decide +kernel
theorem d12_4 : decode jdk_42_method_56_code 4 = .ok (.ifCond .eq 12, 3) := by decide +kernel
theorem d12_7 : decode jdk_42_method_56_code 7 = .ok (.aload_n 0, 1) := by decide +kernel
theorem d12_8 : decode jdk_42_method_56_code 8 = .ok (.getfield 9, 3) := by decide +kernel
theorem d12_11 : decode jdk_42_method_56_code 11 = .ok (.iload_n 1, 1) := by decide +kernel
theorem d12_12 : decode jdk_42_method_56_code 12 = .ok (.invokestatic 495, 3) := by decide +kernel
theorem d12_15 : decode jdk_42_method_56_code 15 = .ok (.ireturn, 1) := by decide +kernel
theorem d12_16 : decode jdk_42_method_56_code 16 = .ok (.aload_n 0, 1) := by decide +kernel
theorem d12_17 : decode jdk_42_method_56_code 17 = .ok (.getfield 9, 3) := by decide +kernel
theorem d12_20 : decode jdk_42_method_56_code 20 = .ok (.iload_n 1, 1) := by decide +kernel
theorem d12_21 : decode jdk_42_method_56_code 21 = .ok (.invokestatic 498, 3) := by decide +kernel
theorem d12_24 : decode jdk_42_method_56_code 24 = .ok (.ireturn, 1) := by decide +kernel
theorem pd_12_0 : parseMethodDescriptor "()Z" = some ⟨[], some .boolean⟩ := by decide +kernel
theorem pd_12_1 : parseMethodDescriptor "([BI)C" = some ⟨[(.array .byte), .int], some .char⟩ := by decide +kernel
theorem ef_rmA6_0 (m : MethodId) (q0 : Addr) : entryFrame m #[(.ref q0), (.int (0 : Int32))] 2 = mkF m 0 #[oR q0, oI (0 : Int32)] [] := by first | (simp [entryFrame, mkF, argsToLocals, Value.category]; done) | rfl
def QA6_0 (Z : State) (this : Addr) (c0_ : Int32) (c1_ : Int32) (c2_ : Int32) (c3_ : Int32) (c4_ : Int32) (c5_ : Int32) (wcs : Int32) (wsf : Value) (h0 : Heap) (n0 : Nat) (v : Option Value) (h : Heap) (L : List Loc) : Prop := v = some (.int c0_) ∧ Fr n0 L ∧ h = h0
set_option maxRecDepth 65536 in
set_option maxHeartbeats 40000000 in
theorem rmA6_0 (l : Launch) (Z : State) (a0 : Array Value) (hw : ∀ d ∈ tables_1, d.before a0 Z = true) (ws : List Jvm.Cond) (this : Addr) (c0_ : Int32) (c1_ : Int32) (c2_ : Int32) (c3_ : Int32) (c4_ : Int32) (c5_ : Int32) (wcs : Int32) (wsf : Value) (h0 : Heap) (n0 : Nat) (Z0 : n0 ≤ h0.size) (SR : own_Str6 Z h0 n0 this c0_ c1_ c2_ c3_ c4_ c5_) (hc0 : own_ch c0_) (hc1 : own_ch c1_) (hc2 : own_ch c2_) (hc3 : own_ch c3_) (hc4 : own_ch c4_) (hc5 : own_ch c5_) (OLD : Old Z n0 h0) (hcs : ¬ (wcs = (0 : Int32))) (rsf : wsf.isRef = true) (B_wcs : Sta Z Z.heap "java/lang/String" "COMPACT_STRINGS" "Z" (.int wcs)) (B_wsf : Sta Z Z.heap "jdk/internal/util/Preconditions" "SIOOBE_FORMATTER" "Ljava/util/function/BiFunction;" wsf) (B_wad : Sta Z Z.heap "java/lang/StringUTF16" "$assertionsDisabled" "Z" (.int (1 : Int32))) (B_whi : Sta Z Z.heap "java/lang/StringUTF16" "HI_BYTE_SHIFT" "I" (.int (0 : Int32))) (B_wlo : Sta Z Z.heap "java/lang/StringUTF16" "LO_BYTE_SHIFT" "I" (.int (8 : Int32))) :
    MetFree l (⟨"java/lang/String", "charAt", "(I)C"⟩ : MethodName) (head1 (Jvm.Cond.code (⟨"java/lang/String", "charAt", "(I)C"⟩ : MethodName) jdk_42_method_56_code 2 (some .char) :: ws) ({ frames := 4, cells := 0, slots := 0, locals := 53 } : Room)) (fun a U => a = #[(.ref this), (.int (0 : Int32))] ∧ Z.Warmed39 U.vm ∧ U.heap = h0) (fun _ _ _ _ _ => True) (fun _ U o U' => ∃ v L, o = .returned v ∧ QA6_0 Z this c0_ c1_ c2_ c3_ c4_ c5_ wcs wsf h0 n0 v U'.heap L ∧ FrameEnd U o U' L ({ frames := 4, cells := 0, slots := 0, locals := 53 } : Room).cells ({ frames := 4, cells := 0, slots := 0, locals := 53 } : Room).slots) := by
  refine MetFree.of_bodySF (plainFor_of_name pn_15) hisR ?_
  intro p e s m args below meth c s₁ Bd hml0 hP hK
  obtain ⟨rfl, hZ, hh⟩ := hP
  have hx := Bd.exec
  have hby := Bd.bytes
  have hml : c.maxLocals = 2 := hml0
  have hown : s.vm.findClass "java/lang/String" = some m.cls := findClass_of_methodNamed Bd.named
  have hnm := (name_of_methodNamed Bd.named Bd.method).1
  have X0 : Stand p l e ({ frames := 4, cells := 0, slots := 0, locals := 53 } : Room) s m #[(.ref this), (.int (0 : Int32))] below meth c s₁ [] 0 0 := Stand.of_body Bd
  have e0 : s₁.heap = h0 := by rw [← hh, Bd.state]; rfl
  have N0 := Fr.nil n0
  refine own_start ?_
  refine own_via (fun t k => castTop (ef_rmA6_0 m this) k) ?_
  obtain ⟨arr, kb, ⟨ch0, ch1⟩, Eq, Fv, Rp⟩ := SR
  rcases Rp with ⟨hl, Fc, Va⟩ | ⟨Fc, Va⟩
  · show own_Go p e below _ (s₁.setTop (mkF m 0 #[oR this, oI (0 : Int32)] []))
    refine own_via (fun t kz => XS.aloadN X0.here hx rfl (hb hby d12_0) rfl rfl kz) ?_
    show own_Go p e below _ (s₁.setTop (mkF m 1 #[oR this, oI (0 : Int32)] [(.ref this)]))
    obtain ⟨cq1, kq1, qa1, qb1, qc1⟩ := isOf hZ e0 Eq
    obtain ⟨_, _, ⟨T1, L1, k1, n1⟩, -, X1, ⟨Lc1, hQ1, l1, y1, z1⟩, st1⟩ := X0.virtualBack hx (y := (⟨"java/lang/String", "isLatin1", "()Z"⟩ : MethodName)) (z := (⟨"java/lang/String", "isLatin1", "()Z"⟩ : MethodName)) hown (mvT hZ (own_w hw 71)) (mvT hZ (own_w hw 72)) (notFace_of_selects (args := #[]) (mvT hZ (own_w hw 74))) (mvT hZ (own_w hw 74)) (mvT hZ (own_w hw 73)) (by decide) (backOf (W := 0) (rm13 l Z a0 hw [] this (0 : Int32) wcs (1 : Int32) h0 n0 Z0 hcs Fc (B_wcs.ext OLD.2) (by unfold f13; rw [if_pos (by decide : (0 : Int32) = (0 : Int32))])) hZ (own_w hw 75) (own_w hw 17) (by decide) (by decide)) qa1 qc1 (g := (mkF m 1 #[oR this, oI (0 : Int32)] [(.ref this)])) rfl (by rw [hml]; rfl) (Steps.refl _) (argsL := []) (rest := []) (lenOf pd_12_0 rfl) rfl (by show 2 * 0 + _ ≤ _; exact Nat.le_of_eq rfl) (hb hby d12_1) (fun _ _ => ⟨rfl, e0, (by decide : 0 + 0 ≤ _), (by decide : 0 + 0 ≤ _)⟩)
    dsimp only [Pt.U, Pt.locs, Pt.cells, Pt.slots] at X1 l1 y1 z1 st1 hQ1
    subst l1 y1 z1
    obtain ⟨rfl, Nq1, e1⟩ := hQ1
    have N2 := Fr.app N0 Nq1
    refine own_tr st1 ?_
    show own_Go p e below _ (T1.setTop (mkF m 4 #[oR this, oI (0 : Int32)] [(.int (1 : Int32))]))
    refine own_via (fun t kz => XS.ifNo X1.here hx rfl (hb hby d12_4) rfl ((if0 _ _).trans (feq (by decide : ¬ ((1 : Int32) = (0 : Int32)))).1) kz) ?_
    refine own_via (fun t kz => XS.aloadN X1.here hx rfl (hb hby d12_7) rfl rfl kz) ?_
    show own_Go p e below _ (T1.setTop (mkF m 8 #[oR this, oI (0 : Int32)] [(.ref this)]))
    obtain ⟨T3, X3, e3, st3⟩ := getF X1 hx hZ hown (host := "") (Or.inl (own_w hw 40)) Via.refl e1 Fv (g := (mkF m 8 #[oR this, oI (0 : Int32)] [(.ref this)])) rfl rfl (hb hby d12_8)
    refine own_via st3 ?_
    refine own_via (fun t kz => XS.iloadN X3.here hx rfl (hb hby d12_11) rfl kz) ?_
    show own_Go p e below _ (T3.setTop (mkF m 12 #[oR this, oI (0 : Int32)] [(.int (0 : Int32)), (.ref arr)]))
    obtain ⟨_, _, ⟨T4, L4, k4, n4⟩, -, X4, ⟨Lc4, hQ4, l4, y4, z4⟩, st4⟩ := Jvm.LawKit.callS X3 hx (y := (⟨"java/lang/StringLatin1", "charAt", "([BI)C"⟩ : MethodName)) hown (mvT hZ (own_w hw 76)) (mvT hZ (own_w hw 77)) (mvT hZ (own_w hw 78)) (mvT hZ (own_w hw 79)) (by decide) (backOf (W := 0) (rmH6_0 l Z a0 hw [] arr wcs wsf kb (c0_.toInt8.toInt32) (c1_.toInt8.toInt32) (c2_.toInt8.toInt32) (c3_.toInt8.toInt32) (c4_.toInt8.toInt32) (c5_.toInt8.toInt32) c0_ h0 n0 Z0 OLD hcs rsf B_wcs B_wsf B_wad B_whi B_wlo Va (by unfold fH6_0; exact own_lat hc0 hl.1)) hZ (own_w hw 79) (own_w hw 78) (by decide) (by decide)) (g := (mkF m 12 #[oR this, oI (0 : Int32)] [(.int (0 : Int32)), (.ref arr)])) rfl (by rw [hml]; rfl) (argsL := [(.ref arr), (.int (0 : Int32))]) (rest := []) (lenOf pd_12_1 rfl) rfl (by show 2 * 0 + _ ≤ _; exact Nat.le_of_eq rfl) (hb hby d12_12) (fun _ _ => ⟨rfl, e3, (by decide : 0 + 0 ≤ _), (by decide : 0 + 0 ≤ _)⟩)
    dsimp only [Pt.U, Pt.locs, Pt.cells, Pt.slots] at X4 l4 y4 z4 st4 hQ4
    subst l4 y4 z4
    obtain ⟨rfl, Nq4, e4⟩ := hQ4
    have N5 := Fr.app N2 Nq4
    refine own_via st4 ?_
    show own_Go p e below _ (T4.setTop (mkF m 15 #[oR this, oI (0 : Int32)] [(.int c0_)]))
    obtain ⟨fs, hr, hrun, hended, hW, hsame⟩ := X4.leave (v := some (.int c0_)) (fun h => by rw [Bd.returns] at h; cases h)
    refine ⟨_, _, retOut X4 hx (i := .ireturn) Bd.returns (own_nch hc0) (Or.inl ⟨rfl, by simp, _, rfl⟩) (hb hby d12_15) hr, hrun, hended, _, _, rfl, ?_, ⟨_, rfl⟩, hW, hsame.mono (by decide) (by decide)⟩
    show QA6_0 Z this c0_ c1_ c2_ c3_ c4_ c5_ wcs wsf h0 n0 _ T4.heap _
    rw [e4]
    exact ⟨rfl, N5, rfl⟩
  · show own_Go p e below _ (s₁.setTop (mkF m 0 #[oR this, oI (0 : Int32)] []))
    refine own_via (fun t kz => XS.aloadN X0.here hx rfl (hb hby d12_0) rfl rfl kz) ?_
    show own_Go p e below _ (s₁.setTop (mkF m 1 #[oR this, oI (0 : Int32)] [(.ref this)]))
    obtain ⟨cq7, kq7, qa7, qb7, qc7⟩ := isOf hZ e0 Eq
    obtain ⟨_, _, ⟨T7, L7, k7, n7⟩, -, X7, ⟨Lc7, hQ7, l7, y7, z7⟩, st7⟩ := X0.virtualBack hx (y := (⟨"java/lang/String", "isLatin1", "()Z"⟩ : MethodName)) (z := (⟨"java/lang/String", "isLatin1", "()Z"⟩ : MethodName)) hown (mvT hZ (own_w hw 71)) (mvT hZ (own_w hw 72)) (notFace_of_selects (args := #[]) (mvT hZ (own_w hw 74))) (mvT hZ (own_w hw 74)) (mvT hZ (own_w hw 73)) (by decide) (backOf (W := 0) (rm13 l Z a0 hw [] this (1 : Int32) wcs (0 : Int32) h0 n0 Z0 hcs Fc (B_wcs.ext OLD.2) (by unfold f13; rw [if_neg (by decide : ¬ ((1 : Int32) = (0 : Int32)))])) hZ (own_w hw 75) (own_w hw 17) (by decide) (by decide)) qa7 qc7 (g := (mkF m 1 #[oR this, oI (0 : Int32)] [(.ref this)])) rfl (by rw [hml]; rfl) (Steps.refl _) (argsL := []) (rest := []) (lenOf pd_12_0 rfl) rfl (by show 2 * 0 + _ ≤ _; exact Nat.le_of_eq rfl) (hb hby d12_1) (fun _ _ => ⟨rfl, e0, (by decide : 0 + 0 ≤ _), (by decide : 0 + 0 ≤ _)⟩)
    dsimp only [Pt.U, Pt.locs, Pt.cells, Pt.slots] at X7 l7 y7 z7 st7 hQ7
    subst l7 y7 z7
    obtain ⟨rfl, Nq7, e7⟩ := hQ7
    have N8 := Fr.app N0 Nq7
    refine own_tr st7 ?_
    show own_Go p e below _ (T7.setTop (mkF m 4 #[oR this, oI (0 : Int32)] [(.int (0 : Int32))]))
    refine own_via (fun t kz => XS.ifYes X7.here hx rfl (pc0 := 4) (pc' := 16) rfl (hb hby d12_4) rfl ((if0 _ _).trans (teq (by decide : (0 : Int32) = (0 : Int32))).1) (by decide) (by decide) kz) ?_
    refine own_via (fun t kz => XS.aloadN X7.here hx rfl (hb hby d12_16) rfl rfl kz) ?_
    show own_Go p e below _ (T7.setTop (mkF m 17 #[oR this, oI (0 : Int32)] [(.ref this)]))
    obtain ⟨T9, X9, e9, st9⟩ := getF X7 hx hZ hown (host := "") (Or.inl (own_w hw 40)) Via.refl e7 Fv (g := (mkF m 17 #[oR this, oI (0 : Int32)] [(.ref this)])) rfl rfl (hb hby d12_17)
    refine own_via st9 ?_
    refine own_via (fun t kz => XS.iloadN X9.here hx rfl (hb hby d12_20) rfl kz) ?_
    show own_Go p e below _ (T9.setTop (mkF m 21 #[oR this, oI (0 : Int32)] [(.int (0 : Int32)), (.ref arr)]))
    obtain ⟨_, _, ⟨T10, L10, k10, n10⟩, -, X10, ⟨Lc10, hQ10, l10, y10, z10⟩, st10⟩ := Jvm.LawKit.callS X9 hx (y := (⟨"java/lang/StringUTF16", "charAt", "([BI)C"⟩ : MethodName)) hown (mvT hZ (own_w hw 116)) (mvT hZ (own_w hw 117)) (mvT hZ (own_w hw 29)) (mvT hZ (own_w hw 118)) (by decide) (backOf (W := 0) (rmY6_0 l Z a0 hw [] arr wcs wsf kb ((c0_ >>> ((0 : Int32) &&& 31)).toInt8.toInt32) ((c0_ >>> ((8 : Int32) &&& 31)).toInt8.toInt32) ((c1_ >>> ((0 : Int32) &&& 31)).toInt8.toInt32) ((c1_ >>> ((8 : Int32) &&& 31)).toInt8.toInt32) ((c2_ >>> ((0 : Int32) &&& 31)).toInt8.toInt32) ((c2_ >>> ((8 : Int32) &&& 31)).toInt8.toInt32) ((c3_ >>> ((0 : Int32) &&& 31)).toInt8.toInt32) ((c3_ >>> ((8 : Int32) &&& 31)).toInt8.toInt32) ((c4_ >>> ((0 : Int32) &&& 31)).toInt8.toInt32) ((c4_ >>> ((8 : Int32) &&& 31)).toInt8.toInt32) ((c5_ >>> ((0 : Int32) &&& 31)).toInt8.toInt32) ((c5_ >>> ((8 : Int32) &&& 31)).toInt8.toInt32) c0_ h0 n0 Z0 OLD hcs rsf B_wcs B_wsf B_wad B_whi B_wlo Va (by unfold fY6_0; exact own_utf hc0)) hZ (own_w hw 118) (own_w hw 29) (by decide) (by decide)) (g := (mkF m 21 #[oR this, oI (0 : Int32)] [(.int (0 : Int32)), (.ref arr)])) rfl (by rw [hml]; rfl) (argsL := [(.ref arr), (.int (0 : Int32))]) (rest := []) (lenOf pd_12_1 rfl) rfl (by show 2 * 0 + _ ≤ _; exact Nat.le_of_eq rfl) (hb hby d12_21) (fun _ _ => ⟨rfl, e9, (by decide : 0 + 0 ≤ _), (by decide : 0 + 0 ≤ _)⟩)
    dsimp only [Pt.U, Pt.locs, Pt.cells, Pt.slots] at X10 l10 y10 z10 st10 hQ10
    subst l10 y10 z10
    obtain ⟨rfl, Nq10, e10⟩ := hQ10
    have N11 := Fr.app N8 Nq10
    refine own_via st10 ?_
    show own_Go p e below _ (T10.setTop (mkF m 24 #[oR this, oI (0 : Int32)] [(.int c0_)]))
    obtain ⟨fs, hr, hrun, hended, hW, hsame⟩ := X10.leave (v := some (.int c0_)) (fun h => by rw [Bd.returns] at h; cases h)
    refine ⟨_, _, retOut X10 hx (i := .ireturn) Bd.returns (own_nch hc0) (Or.inl ⟨rfl, by simp, _, rfl⟩) (hb hby d12_24) hr, hrun, hended, _, _, rfl, ?_, ⟨_, rfl⟩, hW, hsame.mono (by decide) (by decide)⟩
    show QA6_0 Z this c0_ c1_ c2_ c3_ c4_ c5_ wcs wsf h0 n0 _ T10.heap _
    rw [e10]
    exact ⟨rfl, N11, rfl⟩
def fH6_1 (b1_ : Int32) : Int32 := ((b1_ &&& (255 : Int32)).toUInt32.toUInt16.toUInt32.toInt32)
theorem ef_rmH6_1 (m : MethodId) (q0 : Addr) : entryFrame m #[(.ref q0), (.int (1 : Int32))] 2 = mkF m 0 #[oR q0, oI (1 : Int32)] [] := by first | (simp [entryFrame, mkF, argsToLocals, Value.category]; done) | rfl
def QH6_1 (Z : State) (p0 : Addr) (wcs : Int32) (wsf : Value) (ka : ClassId) (b0_ : Int32) (b1_ : Int32) (b2_ : Int32) (b3_ : Int32) (b4_ : Int32) (b5_ : Int32) (r : Int32) (h0 : Heap) (n0 : Nat) (v : Option Value) (h : Heap) (L : List Loc) : Prop := v = some (.int r) ∧ Fr n0 L ∧ h = h0
set_option maxRecDepth 65536 in
set_option maxHeartbeats 40000000 in
theorem rmH6_1 (l : Launch) (Z : State) (a0 : Array Value) (hw : ∀ d ∈ tables_1, d.before a0 Z = true) (ws : List Jvm.Cond) (p0 : Addr) (wcs : Int32) (wsf : Value) (ka : ClassId) (b0_ : Int32) (b1_ : Int32) (b2_ : Int32) (b3_ : Int32) (b4_ : Int32) (b5_ : Int32) (r : Int32) (h0 : Heap) (n0 : Nat) (Z0 : n0 ≤ h0.size) (OLD : Old Z n0 h0) (hcs : ¬ (wcs = (0 : Int32))) (rsf : wsf.isRef = true) (B_wcs : Sta Z Z.heap "java/lang/String" "COMPACT_STRINGS" "Z" (.int wcs)) (B_wsf : Sta Z Z.heap "jdk/internal/util/Preconditions" "SIOOBE_FORMATTER" "Ljava/util/function/BiFunction;" wsf) (B_wad : Sta Z Z.heap "java/lang/StringUTF16" "$assertionsDisabled" "Z" (.int (1 : Int32))) (B_whi : Sta Z Z.heap "java/lang/StringUTF16" "HI_BYTE_SHIFT" "I" (.int (0 : Int32))) (B_wlo : Sta Z Z.heap "java/lang/StringUTF16" "LO_BYTE_SHIFT" "I" (.int (8 : Int32))) (V_p0 : Arv Z h0 p0 ka .byte (6 : Int32) [(.int b0_), (.int b1_), (.int b2_), (.int b3_), (.int b4_), (.int b5_)] (.int (0 : Int32))) (hr0 : (fH6_1 b1_) = r) :
    MetFree l (⟨"java/lang/StringLatin1", "charAt", "([BI)C"⟩ : MethodName) (head1 (Jvm.Cond.code (⟨"java/lang/StringLatin1", "charAt", "([BI)C"⟩ : MethodName) jdk_43_method_2_code 2 (some .char) :: ws) ({ frames := 2, cells := 0, slots := 0, locals := 27 } : Room)) (fun a U => a = #[(.ref p0), (.int (1 : Int32))] ∧ Z.Warmed39 U.vm ∧ U.heap = h0) (fun _ _ _ _ _ => True) (fun _ U o U' => ∃ v L, o = .returned v ∧ QH6_1 Z p0 wcs wsf ka b0_ b1_ b2_ b3_ b4_ b5_ r h0 n0 v U'.heap L ∧ FrameEnd U o U' L ({ frames := 2, cells := 0, slots := 0, locals := 27 } : Room).cells ({ frames := 2, cells := 0, slots := 0, locals := 27 } : Room).slots) := by
  refine MetFree.of_bodySF (plainFor_of_name pn_14) hisR ?_
  intro p e s m args below meth c s₁ Bd hml0 hP hK
  obtain ⟨rfl, hZ, hh⟩ := hP
  have hx := Bd.exec
  have hby := Bd.bytes
  have hml : c.maxLocals = 2 := hml0
  have hown : s.vm.findClass "java/lang/StringLatin1" = some m.cls := findClass_of_methodNamed Bd.named
  have hnm := (name_of_methodNamed Bd.named Bd.method).1
  have X0 : Stand p l e ({ frames := 2, cells := 0, slots := 0, locals := 27 } : Room) s m #[(.ref p0), (.int (1 : Int32))] below meth c s₁ [] 0 0 := Stand.of_body Bd
  have e0 : s₁.heap = h0 := by rw [← hh, Bd.state]; rfl
  have N0 := Fr.nil n0
  refine own_start ?_
  refine own_via (fun t k => castTop (ef_rmH6_1 m p0) k) ?_
  show own_Go p e below _ (s₁.setTop (mkF m 0 #[oR p0, oI (1 : Int32)] []))
  refine own_via (fun t kz => XS.iloadN X0.here hx rfl (hb hby d14_0) rfl kz) ?_
  refine own_via (fun t kz => XS.aloadN X0.here hx rfl (hb hby d14_1) rfl rfl kz) ?_
  show own_Go p e below _ (s₁.setTop (mkF m 2 #[oR p0, oI (1 : Int32)] [(.ref p0), (.int (1 : Int32))]))
  obtain ⟨cl1, Ar1, kc1, Sz1, Nn1, Hs1, Gs1⟩ := id V_p0
  refine own_via (fun t kz => X0.arraylength hx (by rw [e0]; exact Ar1.1) (State.isArrayOf_alike hZ.alike Ar1.2.1) (g := (mkF m 2 #[oR p0, oI (1 : Int32)] [(.ref p0), (.int (1 : Int32))])) rfl rfl (hb hby d14_2) t kz) ?_
  show own_Go p e below _ (s₁.setTop (mkF m 3 #[oR p0, oI (1 : Int32)] [(.int (cl1.slots.size.toInt32)), (.int (1 : Int32))]))
  rw [len_of Sz1 Nn1]
  show own_Go p e below _ (s₁.setTop (mkF m 3 #[oR p0, oI (1 : Int32)] [(.int (6 : Int32)), (.int (1 : Int32))]))
  obtain ⟨_, _, ⟨T2, L2, k2, n2⟩, -, X2, ⟨Lc2, hQ2, l2, y2, z2⟩, st2⟩ := Jvm.LawKit.callS X0 hx (y := (⟨"java/lang/String", "checkIndex", "(II)V"⟩ : MethodName)) hown (mvT hZ (own_w hw 80)) (mvT hZ (own_w hw 81)) (mvT hZ (own_w hw 17)) (mvT hZ (own_w hw 82)) (by decide) (backOf (W := 0) (rm15 l Z a0 hw [] (1 : Int32) (6 : Int32) wsf h0 n0 Z0 rsf (B_wsf.ext OLD.2) (by decide) (by decide)) hZ (own_w hw 82) (own_w hw 17) (by decide) (by decide)) (g := (mkF m 3 #[oR p0, oI (1 : Int32)] [(.int (6 : Int32)), (.int (1 : Int32))])) rfl (by rw [hml]; rfl) (argsL := [(.int (1 : Int32)), (.int (6 : Int32))]) (rest := []) (lenOf pd_14_0 rfl) rfl (by show 2 * 0 + _ ≤ _; exact Nat.le_of_eq rfl) (hb hby d14_3) (fun _ _ => ⟨rfl, e0, (by decide : 0 + 0 ≤ _), (by decide : 0 + 0 ≤ _)⟩)
  dsimp only [Pt.U, Pt.locs, Pt.cells, Pt.slots] at X2 l2 y2 z2 st2 hQ2
  subst l2 y2 z2
  obtain ⟨rfl, Nq2, e2⟩ := hQ2
  have N3 := Fr.app N0 Nq2
  refine own_via st2 ?_
  refine own_via (fun t kz => XS.aloadN X2.here hx rfl (hb hby d14_6) rfl rfl kz) ?_
  refine own_via (fun t kz => XS.iloadN X2.here hx rfl (hb hby d14_7) rfl kz) ?_
  show own_Go p e below _ (T2.setTop (mkF m 8 #[oR p0, oI (1 : Int32)] [(.int (1 : Int32)), (.ref p0)]))
  obtain ⟨cl4, Ar4, kc4, Sz4, Nn4, Hs4, Gs4⟩ := id V_p0
  have in4 := inb_of (j := (1 : Int32)) Sz4 ⟨by decide, by decide⟩
  have at4 : cl4.slots[((1 : Int32)).toNatClampNeg]? = some (.int b1_) := Hs4.at in4 rfl
  refine own_via (fun t kz => X2.baloadBytes hx (j := (1 : Int32)) (v := (.int b1_)) (by rw [e2]; exact Ar4.1) (State.isArrayOf_alike hZ.alike Ar4.2.1) Ar4.2.2 in4 at4 (g := (mkF m 8 #[oR p0, oI (1 : Int32)] [(.int (1 : Int32)), (.ref p0)])) rfl rfl (hb hby d14_8) t kz) ?_
  refine own_via (fun t kz => XS.sipush X2.here hx rfl (hb hby d14_9) kz) ?_
  refine own_via (fun t kz => XS.iand X2.here hx rfl (hb hby d14_12) rfl kz) ?_
  show own_Go p e below _ (T2.setTop (mkF m 13 #[oR p0, oI (1 : Int32)] [(.int (b1_ &&& (255 : Int32)))]))
  refine own_via (fun t kz => XS.i2c X2.here hx rfl (hb hby d14_13) rfl kz) ?_
  show own_Go p e below _ (T2.setTop (mkF m 14 #[oR p0, oI (1 : Int32)] [(.int ((b1_ &&& (255 : Int32)).toUInt32.toUInt16.toUInt32.toInt32))]))
  have hv : (fH6_1 b1_) = ((b1_ &&& (255 : Int32)).toUInt32.toUInt16.toUInt32.toInt32) := by unfold fH6_1; rfl
  obtain ⟨fs, hr, hrun, hended, hW, hsame⟩ := X2.leave (v := some (.int ((b1_ &&& (255 : Int32)).toUInt32.toUInt16.toUInt32.toInt32))) (fun h => by rw [Bd.returns] at h; cases h)
  refine ⟨_, _, retOut X2 hx (i := .ireturn) Bd.returns (narrow_c _) (Or.inl ⟨rfl, by simp, _, rfl⟩) (hb hby d14_14) hr, hrun, hended, _, _, rfl, ?_, ⟨_, rfl⟩, hW, hsame.mono (by decide) (by decide)⟩
  show QH6_1 Z p0 wcs wsf ka b0_ b1_ b2_ b3_ b4_ b5_ r h0 n0 _ T2.heap _
  rw [e2]
  exact ⟨by rw [← hr0, hv], N3, rfl⟩
theorem ef_rmX6_1 (m : MethodId) (q0 : Addr) : entryFrame m #[(.int (1 : Int32)), (.ref q0)] 2 = mkF m 0 #[oI (1 : Int32), oR q0] [] := by first | (simp [entryFrame, mkF, argsToLocals, Value.category]; done) | rfl
def QX6_1 (Z : State) (p1 : Addr) (kb : ClassId) (b0_ : Int32) (b1_ : Int32) (b2_ : Int32) (b3_ : Int32) (b4_ : Int32) (b5_ : Int32) (b6_ : Int32) (b7_ : Int32) (b8_ : Int32) (b9_ : Int32) (b10_ : Int32) (b11_ : Int32) (wcs : Int32) (wsf : Value) (h0 : Heap) (n0 : Nat) (v : Option Value) (h : Heap) (L : List Loc) : Prop := v = none ∧ Fr n0 L ∧ h = h0
set_option maxRecDepth 65536 in
set_option maxHeartbeats 40000000 in
theorem rmX6_1 (l : Launch) (Z : State) (a0 : Array Value) (hw : ∀ d ∈ tables_1, d.before a0 Z = true) (ws : List Jvm.Cond) (p1 : Addr) (kb : ClassId) (b0_ : Int32) (b1_ : Int32) (b2_ : Int32) (b3_ : Int32) (b4_ : Int32) (b5_ : Int32) (b6_ : Int32) (b7_ : Int32) (b8_ : Int32) (b9_ : Int32) (b10_ : Int32) (b11_ : Int32) (wcs : Int32) (wsf : Value) (h0 : Heap) (n0 : Nat) (Z0 : n0 ≤ h0.size) (VB : Arv Z h0 p1 kb .byte (12 : Int32) [(.int b0_), (.int b1_), (.int b2_), (.int b3_), (.int b4_), (.int b5_), (.int b6_), (.int b7_), (.int b8_), (.int b9_), (.int b10_), (.int b11_)] (.int (0 : Int32))) (OLD : Old Z n0 h0) (hcs : ¬ (wcs = (0 : Int32))) (rsf : wsf.isRef = true) (B_wcs : Sta Z Z.heap "java/lang/String" "COMPACT_STRINGS" "Z" (.int wcs)) (B_wsf : Sta Z Z.heap "jdk/internal/util/Preconditions" "SIOOBE_FORMATTER" "Ljava/util/function/BiFunction;" wsf) (B_wad : Sta Z Z.heap "java/lang/StringUTF16" "$assertionsDisabled" "Z" (.int (1 : Int32))) (B_whi : Sta Z Z.heap "java/lang/StringUTF16" "HI_BYTE_SHIFT" "I" (.int (0 : Int32))) (B_wlo : Sta Z Z.heap "java/lang/StringUTF16" "LO_BYTE_SHIFT" "I" (.int (8 : Int32))) :
    MetFree l (⟨"java/lang/StringUTF16", "checkIndex", "(I[B)V"⟩ : MethodName) (head1 (Jvm.Cond.code (⟨"java/lang/StringUTF16", "checkIndex", "(I[B)V"⟩ : MethodName) jdk_52_method_91_code 2 none :: ws) ({ frames := 2, cells := 0, slots := 0, locals := 27 } : Room)) (fun a U => a = #[(.int (1 : Int32)), (.ref p1)] ∧ Z.Warmed39 U.vm ∧ U.heap = h0) (fun _ _ _ _ _ => True) (fun _ U o U' => ∃ v L, o = .returned v ∧ QX6_1 Z p1 kb b0_ b1_ b2_ b3_ b4_ b5_ b6_ b7_ b8_ b9_ b10_ b11_ wcs wsf h0 n0 v U'.heap L ∧ FrameEnd U o U' L ({ frames := 2, cells := 0, slots := 0, locals := 27 } : Room).cells ({ frames := 2, cells := 0, slots := 0, locals := 27 } : Room).slots) := by
  refine MetFree.of_bodySF (plainFor_of_name pn_20) hisR ?_
  intro p e s m args below meth c s₁ Bd hml0 hP hK
  obtain ⟨rfl, hZ, hh⟩ := hP
  have hx := Bd.exec
  have hby := Bd.bytes
  have hml : c.maxLocals = 2 := hml0
  have hown : s.vm.findClass "java/lang/StringUTF16" = some m.cls := findClass_of_methodNamed Bd.named
  have hnm := (name_of_methodNamed Bd.named Bd.method).1
  have X0 : Stand p l e ({ frames := 2, cells := 0, slots := 0, locals := 27 } : Room) s m #[(.int (1 : Int32)), (.ref p1)] below meth c s₁ [] 0 0 := Stand.of_body Bd
  have e0 : s₁.heap = h0 := by rw [← hh, Bd.state]; rfl
  have N0 := Fr.nil n0
  refine own_start ?_
  refine own_via (fun t k => castTop (ef_rmX6_1 m p1) k) ?_
  show own_Go p e below _ (s₁.setTop (mkF m 0 #[oI (1 : Int32), oR p1] []))
  refine own_via (fun t kz => XS.iloadN X0.here hx rfl (hb hby d24_0) rfl kz) ?_
  refine own_via (fun t kz => XS.aloadN X0.here hx rfl (hb hby d24_1) rfl rfl kz) ?_
  show own_Go p e below _ (s₁.setTop (mkF m 2 #[oI (1 : Int32), oR p1] [(.ref p1), (.int (1 : Int32))]))
  obtain ⟨_, _, ⟨T1, L1, k1, n1⟩, -, X1, ⟨Lc1, hQ1, l1, y1, z1⟩, st1⟩ := Jvm.LawKit.callS X0 hx (y := (⟨"java/lang/StringUTF16", "length", "([B)I"⟩ : MethodName)) hown (mvT hZ (own_w hw 122)) (mvT hZ (own_w hw 123)) (mvT hZ (own_w hw 29)) (mvT hZ (own_w hw 124)) (by decide) (backOf (W := 1) (rmU6 l Z a0 hw [] p1 kb b0_ b1_ b2_ b3_ b4_ b5_ b6_ b7_ b8_ b9_ b10_ b11_ (6 : Int32) h0 n0 Z0 VB (by unfold fU6; rfl)) hZ (own_w hw 124) (own_w hw 29) (by decide) (by decide)) (g := (mkF m 2 #[oI (1 : Int32), oR p1] [(.ref p1), (.int (1 : Int32))])) rfl (by rw [hml]; rfl) (argsL := [(.ref p1)]) (rest := [(.int (1 : Int32))]) (lenOf pd_24_0 rfl) rfl (by show 2 * 0 + _ ≤ _; exact Nat.le_of_eq rfl) (hb hby d24_2) (fun _ _ => ⟨rfl, e0, (by decide : 0 + 0 ≤ _), (by decide : 0 + 0 ≤ _)⟩)
  dsimp only [Pt.U, Pt.locs, Pt.cells, Pt.slots] at X1 l1 y1 z1 st1 hQ1
  subst l1 y1 z1
  obtain ⟨rfl, Nq1, e1⟩ := hQ1
  have N2 := Fr.app N0 Nq1
  refine own_via st1 ?_
  show own_Go p e below _ (T1.setTop (mkF m 5 #[oI (1 : Int32), oR p1] [(.int (6 : Int32)), (.int (1 : Int32))]))
  obtain ⟨_, _, ⟨T3, L3, k3, n3⟩, -, X3, ⟨Lc3, hQ3, l3, y3, z3⟩, st3⟩ := Jvm.LawKit.callS X1 hx (y := (⟨"java/lang/String", "checkIndex", "(II)V"⟩ : MethodName)) hown (mvT hZ (own_w hw 125)) (mvT hZ (own_w hw 81)) (mvT hZ (own_w hw 17)) (mvT hZ (own_w hw 82)) (by decide) (backOf (W := 0) (rm15 l Z a0 hw [] (1 : Int32) (6 : Int32) wsf h0 n0 Z0 rsf (B_wsf.ext OLD.2) (by decide) (by decide)) hZ (own_w hw 82) (own_w hw 17) (by decide) (by decide)) (g := (mkF m 5 #[oI (1 : Int32), oR p1] [(.int (6 : Int32)), (.int (1 : Int32))])) rfl (by rw [hml]; rfl) (argsL := [(.int (1 : Int32)), (.int (6 : Int32))]) (rest := []) (lenOf pd_24_1 rfl) rfl (by show 2 * 0 + _ ≤ _; exact Nat.le_of_eq rfl) (hb hby d24_5) (fun _ _ => ⟨rfl, e1, (by decide : 0 + 0 ≤ _), (by decide : 0 + 0 ≤ _)⟩)
  dsimp only [Pt.U, Pt.locs, Pt.cells, Pt.slots] at X3 l3 y3 z3 st3 hQ3
  subst l3 y3 z3
  obtain ⟨rfl, Nq3, e3⟩ := hQ3
  have N4 := Fr.app N2 Nq3
  refine own_via st3 ?_
  show own_Go p e below _ (T3.setTop (mkF m 8 #[oI (1 : Int32), oR p1] []))
  obtain ⟨fs, hr, hrun, hended, hW, hsame⟩ := X3.leave (v := none) (fun _ => rfl)
  refine ⟨_, _, X3.returnOut hx Bd.returns (hb hby d24_8) hr, hrun, hended, _, _, rfl, ?_, ⟨_, rfl⟩, hW, hsame.mono (by decide) (by decide)⟩
  show QX6_1 Z p1 kb b0_ b1_ b2_ b3_ b4_ b5_ b6_ b7_ b8_ b9_ b10_ b11_ wcs wsf h0 n0 _ T3.heap _
  rw [e3]
  exact ⟨rfl, N4, rfl⟩
def fY6_1 (b2_ : Int32) (b3_ : Int32) : Int32 := ((((b2_ &&& (255 : Int32)) <<< ((0 : Int32) &&& 31)) ||| ((b3_ &&& (255 : Int32)) <<< ((8 : Int32) &&& 31))).toUInt32.toUInt16.toUInt32.toInt32)
theorem ef_rmY6_1 (m : MethodId) (q0 : Addr) : entryFrame m #[(.ref q0), (.int (1 : Int32))] 2 = mkF m 0 #[oR q0, oI (1 : Int32)] [] := by first | (simp [entryFrame, mkF, argsToLocals, Value.category]; done) | rfl
def QY6_1 (Z : State) (p0 : Addr) (wcs : Int32) (wsf : Value) (ka : ClassId) (b0_ : Int32) (b1_ : Int32) (b2_ : Int32) (b3_ : Int32) (b4_ : Int32) (b5_ : Int32) (b6_ : Int32) (b7_ : Int32) (b8_ : Int32) (b9_ : Int32) (b10_ : Int32) (b11_ : Int32) (r : Int32) (h0 : Heap) (n0 : Nat) (v : Option Value) (h : Heap) (L : List Loc) : Prop := v = some (.int r) ∧ Fr n0 L ∧ h = h0
set_option maxRecDepth 65536 in
set_option maxHeartbeats 40000000 in
theorem rmY6_1 (l : Launch) (Z : State) (a0 : Array Value) (hw : ∀ d ∈ tables_1, d.before a0 Z = true) (ws : List Jvm.Cond) (p0 : Addr) (wcs : Int32) (wsf : Value) (ka : ClassId) (b0_ : Int32) (b1_ : Int32) (b2_ : Int32) (b3_ : Int32) (b4_ : Int32) (b5_ : Int32) (b6_ : Int32) (b7_ : Int32) (b8_ : Int32) (b9_ : Int32) (b10_ : Int32) (b11_ : Int32) (r : Int32) (h0 : Heap) (n0 : Nat) (Z0 : n0 ≤ h0.size) (OLD : Old Z n0 h0) (hcs : ¬ (wcs = (0 : Int32))) (rsf : wsf.isRef = true) (B_wcs : Sta Z Z.heap "java/lang/String" "COMPACT_STRINGS" "Z" (.int wcs)) (B_wsf : Sta Z Z.heap "jdk/internal/util/Preconditions" "SIOOBE_FORMATTER" "Ljava/util/function/BiFunction;" wsf) (B_wad : Sta Z Z.heap "java/lang/StringUTF16" "$assertionsDisabled" "Z" (.int (1 : Int32))) (B_whi : Sta Z Z.heap "java/lang/StringUTF16" "HI_BYTE_SHIFT" "I" (.int (0 : Int32))) (B_wlo : Sta Z Z.heap "java/lang/StringUTF16" "LO_BYTE_SHIFT" "I" (.int (8 : Int32))) (V_p0 : Arv Z h0 p0 ka .byte (12 : Int32) [(.int b0_), (.int b1_), (.int b2_), (.int b3_), (.int b4_), (.int b5_), (.int b6_), (.int b7_), (.int b8_), (.int b9_), (.int b10_), (.int b11_)] (.int (0 : Int32))) (hr0 : (fY6_1 b2_ b3_) = r) :
    MetFree l (⟨"java/lang/StringUTF16", "charAt", "([BI)C"⟩ : MethodName) (head1 (Jvm.Cond.code (⟨"java/lang/StringUTF16", "charAt", "([BI)C"⟩ : MethodName) jdk_52_method_83_code 2 (some .char) :: ws) ({ frames := 3, cells := 0, slots := 0, locals := 40 } : Room)) (fun a U => a = #[(.ref p0), (.int (1 : Int32))] ∧ Z.Warmed39 U.vm ∧ U.heap = h0) (fun _ _ _ _ _ => True) (fun _ U o U' => ∃ v L, o = .returned v ∧ QY6_1 Z p0 wcs wsf ka b0_ b1_ b2_ b3_ b4_ b5_ b6_ b7_ b8_ b9_ b10_ b11_ r h0 n0 v U'.heap L ∧ FrameEnd U o U' L ({ frames := 3, cells := 0, slots := 0, locals := 40 } : Room).cells ({ frames := 3, cells := 0, slots := 0, locals := 40 } : Room).slots) := by
  refine MetFree.of_bodySF (plainFor_of_name pn_20) hisR ?_
  intro p e s m args below meth c s₁ Bd hml0 hP hK
  obtain ⟨rfl, hZ, hh⟩ := hP
  have hx := Bd.exec
  have hby := Bd.bytes
  have hml : c.maxLocals = 2 := hml0
  have hown : s.vm.findClass "java/lang/StringUTF16" = some m.cls := findClass_of_methodNamed Bd.named
  have hnm := (name_of_methodNamed Bd.named Bd.method).1
  have X0 : Stand p l e ({ frames := 3, cells := 0, slots := 0, locals := 40 } : Room) s m #[(.ref p0), (.int (1 : Int32))] below meth c s₁ [] 0 0 := Stand.of_body Bd
  have e0 : s₁.heap = h0 := by rw [← hh, Bd.state]; rfl
  have N0 := Fr.nil n0
  refine own_start ?_
  refine own_via (fun t k => castTop (ef_rmY6_1 m p0) k) ?_
  show own_Go p e below _ (s₁.setTop (mkF m 0 #[oR p0, oI (1 : Int32)] []))
  refine own_via (fun t kz => XS.iloadN X0.here hx rfl (hb hby d23_0) rfl kz) ?_
  refine own_via (fun t kz => XS.aloadN X0.here hx rfl (hb hby d23_1) rfl rfl kz) ?_
  show own_Go p e below _ (s₁.setTop (mkF m 2 #[oR p0, oI (1 : Int32)] [(.ref p0), (.int (1 : Int32))]))
  obtain ⟨_, _, ⟨T1, L1, k1, n1⟩, -, X1, ⟨Lc1, hQ1, l1, y1, z1⟩, st1⟩ := Jvm.LawKit.callS X0 hx (y := (⟨"java/lang/StringUTF16", "checkIndex", "(I[B)V"⟩ : MethodName)) hown (mvT hZ (own_w hw 119)) (mvT hZ (own_w hw 120)) (mvT hZ (own_w hw 29)) (mvT hZ (own_w hw 121)) (by decide) (backOf (W := 0) (rmX6_1 l Z a0 hw [] p0 ka b0_ b1_ b2_ b3_ b4_ b5_ b6_ b7_ b8_ b9_ b10_ b11_ wcs wsf h0 n0 Z0 V_p0 OLD hcs rsf B_wcs B_wsf B_wad B_whi B_wlo) hZ (own_w hw 121) (own_w hw 29) (by decide) (by decide)) (g := (mkF m 2 #[oR p0, oI (1 : Int32)] [(.ref p0), (.int (1 : Int32))])) rfl (by rw [hml]; rfl) (argsL := [(.int (1 : Int32)), (.ref p0)]) (rest := []) (lenOf pd_23_0 rfl) rfl (by show 2 * 0 + _ ≤ _; exact Nat.le_of_eq rfl) (hb hby d23_2) (fun _ _ => ⟨rfl, e0, (by decide : 0 + 0 ≤ _), (by decide : 0 + 0 ≤ _)⟩)
  dsimp only [Pt.U, Pt.locs, Pt.cells, Pt.slots] at X1 l1 y1 z1 st1 hQ1
  subst l1 y1 z1
  obtain ⟨rfl, Nq1, e1⟩ := hQ1
  have N2 := Fr.app N0 Nq1
  refine own_via st1 ?_
  refine own_via (fun t kz => XS.aloadN X1.here hx rfl (hb hby d23_5) rfl rfl kz) ?_
  refine own_via (fun t kz => XS.iloadN X1.here hx rfl (hb hby d23_6) rfl kz) ?_
  show own_Go p e below _ (T1.setTop (mkF m 7 #[oR p0, oI (1 : Int32)] [(.int (1 : Int32)), (.ref p0)]))
  obtain ⟨_, _, ⟨T3, L3, k3, n3⟩, -, X3, ⟨Lc3, hQ3, l3, y3, z3⟩, st3⟩ := Jvm.LawKit.callS X1 hx (y := (⟨"java/lang/StringUTF16", "getChar", "([BI)C"⟩ : MethodName)) hown (mvT hZ (own_w hw 113)) (mvT hZ (own_w hw 114)) (mvT hZ (own_w hw 29)) (mvT hZ (own_w hw 115)) (by decide) (backOf (W := 0) (rmG6_1 l Z a0 hw [] p0 (1 : Int32) (0 : Int32) (8 : Int32) ka b0_ b1_ b2_ b3_ b4_ b5_ b6_ b7_ b8_ b9_ b10_ b11_ ((((b2_ &&& (255 : Int32)) <<< ((0 : Int32) &&& 31)) ||| ((b3_ &&& (255 : Int32)) <<< ((8 : Int32) &&& 31))).toUInt32.toUInt16.toUInt32.toInt32) h0 n0 Z0 rfl (B_wad.ext OLD.2) (B_whi.ext OLD.2) (B_wlo.ext OLD.2) V_p0 (by unfold fG6_1; rfl)) hZ (own_w hw 115) (own_w hw 29) (by decide) (by decide)) (g := (mkF m 7 #[oR p0, oI (1 : Int32)] [(.int (1 : Int32)), (.ref p0)])) rfl (by rw [hml]; rfl) (argsL := [(.ref p0), (.int (1 : Int32))]) (rest := []) (lenOf pd_23_1 rfl) rfl (by show 2 * 0 + _ ≤ _; exact Nat.le_of_eq rfl) (hb hby d23_7) (fun _ _ => ⟨rfl, e1, (by decide : 0 + 0 ≤ _), (by decide : 0 + 0 ≤ _)⟩)
  dsimp only [Pt.U, Pt.locs, Pt.cells, Pt.slots] at X3 l3 y3 z3 st3 hQ3
  subst l3 y3 z3
  obtain ⟨rfl, Nq3, e3⟩ := hQ3
  have N4 := Fr.app N2 Nq3
  refine own_via st3 ?_
  show own_Go p e below _ (T3.setTop (mkF m 10 #[oR p0, oI (1 : Int32)] [(.int ((((b2_ &&& (255 : Int32)) <<< ((0 : Int32) &&& 31)) ||| ((b3_ &&& (255 : Int32)) <<< ((8 : Int32) &&& 31))).toUInt32.toUInt16.toUInt32.toInt32))]))
  have hv : (fY6_1 b2_ b3_) = ((((b2_ &&& (255 : Int32)) <<< ((0 : Int32) &&& 31)) ||| ((b3_ &&& (255 : Int32)) <<< ((8 : Int32) &&& 31))).toUInt32.toUInt16.toUInt32.toInt32) := by unfold fY6_1; rfl
  obtain ⟨fs, hr, hrun, hended, hW, hsame⟩ := X3.leave (v := some (.int ((((b2_ &&& (255 : Int32)) <<< ((0 : Int32) &&& 31)) ||| ((b3_ &&& (255 : Int32)) <<< ((8 : Int32) &&& 31))).toUInt32.toUInt16.toUInt32.toInt32))) (fun h => by rw [Bd.returns] at h; cases h)
  refine ⟨_, _, retOut X3 hx (i := .ireturn) Bd.returns (narrow_c _) (Or.inl ⟨rfl, by simp, _, rfl⟩) (hb hby d23_10) hr, hrun, hended, _, _, rfl, ?_, ⟨_, rfl⟩, hW, hsame.mono (by decide) (by decide)⟩
  show QY6_1 Z p0 wcs wsf ka b0_ b1_ b2_ b3_ b4_ b5_ b6_ b7_ b8_ b9_ b10_ b11_ r h0 n0 _ T3.heap _
  rw [e3]
  exact ⟨by rw [← hr0, hv], N4, rfl⟩
theorem ef_rmA6_1 (m : MethodId) (q0 : Addr) : entryFrame m #[(.ref q0), (.int (1 : Int32))] 2 = mkF m 0 #[oR q0, oI (1 : Int32)] [] := by first | (simp [entryFrame, mkF, argsToLocals, Value.category]; done) | rfl
def QA6_1 (Z : State) (this : Addr) (c0_ : Int32) (c1_ : Int32) (c2_ : Int32) (c3_ : Int32) (c4_ : Int32) (c5_ : Int32) (wcs : Int32) (wsf : Value) (h0 : Heap) (n0 : Nat) (v : Option Value) (h : Heap) (L : List Loc) : Prop := v = some (.int c1_) ∧ Fr n0 L ∧ h = h0
set_option maxRecDepth 65536 in
set_option maxHeartbeats 40000000 in
theorem rmA6_1 (l : Launch) (Z : State) (a0 : Array Value) (hw : ∀ d ∈ tables_1, d.before a0 Z = true) (ws : List Jvm.Cond) (this : Addr) (c0_ : Int32) (c1_ : Int32) (c2_ : Int32) (c3_ : Int32) (c4_ : Int32) (c5_ : Int32) (wcs : Int32) (wsf : Value) (h0 : Heap) (n0 : Nat) (Z0 : n0 ≤ h0.size) (SR : own_Str6 Z h0 n0 this c0_ c1_ c2_ c3_ c4_ c5_) (hc0 : own_ch c0_) (hc1 : own_ch c1_) (hc2 : own_ch c2_) (hc3 : own_ch c3_) (hc4 : own_ch c4_) (hc5 : own_ch c5_) (OLD : Old Z n0 h0) (hcs : ¬ (wcs = (0 : Int32))) (rsf : wsf.isRef = true) (B_wcs : Sta Z Z.heap "java/lang/String" "COMPACT_STRINGS" "Z" (.int wcs)) (B_wsf : Sta Z Z.heap "jdk/internal/util/Preconditions" "SIOOBE_FORMATTER" "Ljava/util/function/BiFunction;" wsf) (B_wad : Sta Z Z.heap "java/lang/StringUTF16" "$assertionsDisabled" "Z" (.int (1 : Int32))) (B_whi : Sta Z Z.heap "java/lang/StringUTF16" "HI_BYTE_SHIFT" "I" (.int (0 : Int32))) (B_wlo : Sta Z Z.heap "java/lang/StringUTF16" "LO_BYTE_SHIFT" "I" (.int (8 : Int32))) :
    MetFree l (⟨"java/lang/String", "charAt", "(I)C"⟩ : MethodName) (head1 (Jvm.Cond.code (⟨"java/lang/String", "charAt", "(I)C"⟩ : MethodName) jdk_42_method_56_code 2 (some .char) :: ws) ({ frames := 4, cells := 0, slots := 0, locals := 53 } : Room)) (fun a U => a = #[(.ref this), (.int (1 : Int32))] ∧ Z.Warmed39 U.vm ∧ U.heap = h0) (fun _ _ _ _ _ => True) (fun _ U o U' => ∃ v L, o = .returned v ∧ QA6_1 Z this c0_ c1_ c2_ c3_ c4_ c5_ wcs wsf h0 n0 v U'.heap L ∧ FrameEnd U o U' L ({ frames := 4, cells := 0, slots := 0, locals := 53 } : Room).cells ({ frames := 4, cells := 0, slots := 0, locals := 53 } : Room).slots) := by
  refine MetFree.of_bodySF (plainFor_of_name pn_15) hisR ?_
  intro p e s m args below meth c s₁ Bd hml0 hP hK
  obtain ⟨rfl, hZ, hh⟩ := hP
  have hx := Bd.exec
  have hby := Bd.bytes
  have hml : c.maxLocals = 2 := hml0
  have hown : s.vm.findClass "java/lang/String" = some m.cls := findClass_of_methodNamed Bd.named
  have hnm := (name_of_methodNamed Bd.named Bd.method).1
  have X0 : Stand p l e ({ frames := 4, cells := 0, slots := 0, locals := 53 } : Room) s m #[(.ref this), (.int (1 : Int32))] below meth c s₁ [] 0 0 := Stand.of_body Bd
  have e0 : s₁.heap = h0 := by rw [← hh, Bd.state]; rfl
  have N0 := Fr.nil n0
  refine own_start ?_
  refine own_via (fun t k => castTop (ef_rmA6_1 m this) k) ?_
  obtain ⟨arr, kb, ⟨ch0, ch1⟩, Eq, Fv, Rp⟩ := SR
  rcases Rp with ⟨hl, Fc, Va⟩ | ⟨Fc, Va⟩
  · show own_Go p e below _ (s₁.setTop (mkF m 0 #[oR this, oI (1 : Int32)] []))
    refine own_via (fun t kz => XS.aloadN X0.here hx rfl (hb hby d12_0) rfl rfl kz) ?_
    show own_Go p e below _ (s₁.setTop (mkF m 1 #[oR this, oI (1 : Int32)] [(.ref this)]))
    obtain ⟨cq1, kq1, qa1, qb1, qc1⟩ := isOf hZ e0 Eq
    obtain ⟨_, _, ⟨T1, L1, k1, n1⟩, -, X1, ⟨Lc1, hQ1, l1, y1, z1⟩, st1⟩ := X0.virtualBack hx (y := (⟨"java/lang/String", "isLatin1", "()Z"⟩ : MethodName)) (z := (⟨"java/lang/String", "isLatin1", "()Z"⟩ : MethodName)) hown (mvT hZ (own_w hw 71)) (mvT hZ (own_w hw 72)) (notFace_of_selects (args := #[]) (mvT hZ (own_w hw 74))) (mvT hZ (own_w hw 74)) (mvT hZ (own_w hw 73)) (by decide) (backOf (W := 0) (rm13 l Z a0 hw [] this (0 : Int32) wcs (1 : Int32) h0 n0 Z0 hcs Fc (B_wcs.ext OLD.2) (by unfold f13; rw [if_pos (by decide : (0 : Int32) = (0 : Int32))])) hZ (own_w hw 75) (own_w hw 17) (by decide) (by decide)) qa1 qc1 (g := (mkF m 1 #[oR this, oI (1 : Int32)] [(.ref this)])) rfl (by rw [hml]; rfl) (Steps.refl _) (argsL := []) (rest := []) (lenOf pd_12_0 rfl) rfl (by show 2 * 0 + _ ≤ _; exact Nat.le_of_eq rfl) (hb hby d12_1) (fun _ _ => ⟨rfl, e0, (by decide : 0 + 0 ≤ _), (by decide : 0 + 0 ≤ _)⟩)
    dsimp only [Pt.U, Pt.locs, Pt.cells, Pt.slots] at X1 l1 y1 z1 st1 hQ1
    subst l1 y1 z1
    obtain ⟨rfl, Nq1, e1⟩ := hQ1
    have N2 := Fr.app N0 Nq1
    refine own_tr st1 ?_
    show own_Go p e below _ (T1.setTop (mkF m 4 #[oR this, oI (1 : Int32)] [(.int (1 : Int32))]))
    refine own_via (fun t kz => XS.ifNo X1.here hx rfl (hb hby d12_4) rfl ((if0 _ _).trans (feq (by decide : ¬ ((1 : Int32) = (0 : Int32)))).1) kz) ?_
    refine own_via (fun t kz => XS.aloadN X1.here hx rfl (hb hby d12_7) rfl rfl kz) ?_
    show own_Go p e below _ (T1.setTop (mkF m 8 #[oR this, oI (1 : Int32)] [(.ref this)]))
    obtain ⟨T3, X3, e3, st3⟩ := getF X1 hx hZ hown (host := "") (Or.inl (own_w hw 40)) Via.refl e1 Fv (g := (mkF m 8 #[oR this, oI (1 : Int32)] [(.ref this)])) rfl rfl (hb hby d12_8)
    refine own_via st3 ?_
    refine own_via (fun t kz => XS.iloadN X3.here hx rfl (hb hby d12_11) rfl kz) ?_
    show own_Go p e below _ (T3.setTop (mkF m 12 #[oR this, oI (1 : Int32)] [(.int (1 : Int32)), (.ref arr)]))
    obtain ⟨_, _, ⟨T4, L4, k4, n4⟩, -, X4, ⟨Lc4, hQ4, l4, y4, z4⟩, st4⟩ := Jvm.LawKit.callS X3 hx (y := (⟨"java/lang/StringLatin1", "charAt", "([BI)C"⟩ : MethodName)) hown (mvT hZ (own_w hw 76)) (mvT hZ (own_w hw 77)) (mvT hZ (own_w hw 78)) (mvT hZ (own_w hw 79)) (by decide) (backOf (W := 0) (rmH6_1 l Z a0 hw [] arr wcs wsf kb (c0_.toInt8.toInt32) (c1_.toInt8.toInt32) (c2_.toInt8.toInt32) (c3_.toInt8.toInt32) (c4_.toInt8.toInt32) (c5_.toInt8.toInt32) c1_ h0 n0 Z0 OLD hcs rsf B_wcs B_wsf B_wad B_whi B_wlo Va (by unfold fH6_1; exact own_lat hc1 hl.2.1)) hZ (own_w hw 79) (own_w hw 78) (by decide) (by decide)) (g := (mkF m 12 #[oR this, oI (1 : Int32)] [(.int (1 : Int32)), (.ref arr)])) rfl (by rw [hml]; rfl) (argsL := [(.ref arr), (.int (1 : Int32))]) (rest := []) (lenOf pd_12_1 rfl) rfl (by show 2 * 0 + _ ≤ _; exact Nat.le_of_eq rfl) (hb hby d12_12) (fun _ _ => ⟨rfl, e3, (by decide : 0 + 0 ≤ _), (by decide : 0 + 0 ≤ _)⟩)
    dsimp only [Pt.U, Pt.locs, Pt.cells, Pt.slots] at X4 l4 y4 z4 st4 hQ4
    subst l4 y4 z4
    obtain ⟨rfl, Nq4, e4⟩ := hQ4
    have N5 := Fr.app N2 Nq4
    refine own_via st4 ?_
    show own_Go p e below _ (T4.setTop (mkF m 15 #[oR this, oI (1 : Int32)] [(.int c1_)]))
    obtain ⟨fs, hr, hrun, hended, hW, hsame⟩ := X4.leave (v := some (.int c1_)) (fun h => by rw [Bd.returns] at h; cases h)
    refine ⟨_, _, retOut X4 hx (i := .ireturn) Bd.returns (own_nch hc1) (Or.inl ⟨rfl, by simp, _, rfl⟩) (hb hby d12_15) hr, hrun, hended, _, _, rfl, ?_, ⟨_, rfl⟩, hW, hsame.mono (by decide) (by decide)⟩
    show QA6_1 Z this c0_ c1_ c2_ c3_ c4_ c5_ wcs wsf h0 n0 _ T4.heap _
    rw [e4]
    exact ⟨rfl, N5, rfl⟩
  · show own_Go p e below _ (s₁.setTop (mkF m 0 #[oR this, oI (1 : Int32)] []))
    refine own_via (fun t kz => XS.aloadN X0.here hx rfl (hb hby d12_0) rfl rfl kz) ?_
    show own_Go p e below _ (s₁.setTop (mkF m 1 #[oR this, oI (1 : Int32)] [(.ref this)]))
    obtain ⟨cq7, kq7, qa7, qb7, qc7⟩ := isOf hZ e0 Eq
    obtain ⟨_, _, ⟨T7, L7, k7, n7⟩, -, X7, ⟨Lc7, hQ7, l7, y7, z7⟩, st7⟩ := X0.virtualBack hx (y := (⟨"java/lang/String", "isLatin1", "()Z"⟩ : MethodName)) (z := (⟨"java/lang/String", "isLatin1", "()Z"⟩ : MethodName)) hown (mvT hZ (own_w hw 71)) (mvT hZ (own_w hw 72)) (notFace_of_selects (args := #[]) (mvT hZ (own_w hw 74))) (mvT hZ (own_w hw 74)) (mvT hZ (own_w hw 73)) (by decide) (backOf (W := 0) (rm13 l Z a0 hw [] this (1 : Int32) wcs (0 : Int32) h0 n0 Z0 hcs Fc (B_wcs.ext OLD.2) (by unfold f13; rw [if_neg (by decide : ¬ ((1 : Int32) = (0 : Int32)))])) hZ (own_w hw 75) (own_w hw 17) (by decide) (by decide)) qa7 qc7 (g := (mkF m 1 #[oR this, oI (1 : Int32)] [(.ref this)])) rfl (by rw [hml]; rfl) (Steps.refl _) (argsL := []) (rest := []) (lenOf pd_12_0 rfl) rfl (by show 2 * 0 + _ ≤ _; exact Nat.le_of_eq rfl) (hb hby d12_1) (fun _ _ => ⟨rfl, e0, (by decide : 0 + 0 ≤ _), (by decide : 0 + 0 ≤ _)⟩)
    dsimp only [Pt.U, Pt.locs, Pt.cells, Pt.slots] at X7 l7 y7 z7 st7 hQ7
    subst l7 y7 z7
    obtain ⟨rfl, Nq7, e7⟩ := hQ7
    have N8 := Fr.app N0 Nq7
    refine own_tr st7 ?_
    show own_Go p e below _ (T7.setTop (mkF m 4 #[oR this, oI (1 : Int32)] [(.int (0 : Int32))]))
    refine own_via (fun t kz => XS.ifYes X7.here hx rfl (pc0 := 4) (pc' := 16) rfl (hb hby d12_4) rfl ((if0 _ _).trans (teq (by decide : (0 : Int32) = (0 : Int32))).1) (by decide) (by decide) kz) ?_
    refine own_via (fun t kz => XS.aloadN X7.here hx rfl (hb hby d12_16) rfl rfl kz) ?_
    show own_Go p e below _ (T7.setTop (mkF m 17 #[oR this, oI (1 : Int32)] [(.ref this)]))
    obtain ⟨T9, X9, e9, st9⟩ := getF X7 hx hZ hown (host := "") (Or.inl (own_w hw 40)) Via.refl e7 Fv (g := (mkF m 17 #[oR this, oI (1 : Int32)] [(.ref this)])) rfl rfl (hb hby d12_17)
    refine own_via st9 ?_
    refine own_via (fun t kz => XS.iloadN X9.here hx rfl (hb hby d12_20) rfl kz) ?_
    show own_Go p e below _ (T9.setTop (mkF m 21 #[oR this, oI (1 : Int32)] [(.int (1 : Int32)), (.ref arr)]))
    obtain ⟨_, _, ⟨T10, L10, k10, n10⟩, -, X10, ⟨Lc10, hQ10, l10, y10, z10⟩, st10⟩ := Jvm.LawKit.callS X9 hx (y := (⟨"java/lang/StringUTF16", "charAt", "([BI)C"⟩ : MethodName)) hown (mvT hZ (own_w hw 116)) (mvT hZ (own_w hw 117)) (mvT hZ (own_w hw 29)) (mvT hZ (own_w hw 118)) (by decide) (backOf (W := 0) (rmY6_1 l Z a0 hw [] arr wcs wsf kb ((c0_ >>> ((0 : Int32) &&& 31)).toInt8.toInt32) ((c0_ >>> ((8 : Int32) &&& 31)).toInt8.toInt32) ((c1_ >>> ((0 : Int32) &&& 31)).toInt8.toInt32) ((c1_ >>> ((8 : Int32) &&& 31)).toInt8.toInt32) ((c2_ >>> ((0 : Int32) &&& 31)).toInt8.toInt32) ((c2_ >>> ((8 : Int32) &&& 31)).toInt8.toInt32) ((c3_ >>> ((0 : Int32) &&& 31)).toInt8.toInt32) ((c3_ >>> ((8 : Int32) &&& 31)).toInt8.toInt32) ((c4_ >>> ((0 : Int32) &&& 31)).toInt8.toInt32) ((c4_ >>> ((8 : Int32) &&& 31)).toInt8.toInt32) ((c5_ >>> ((0 : Int32) &&& 31)).toInt8.toInt32) ((c5_ >>> ((8 : Int32) &&& 31)).toInt8.toInt32) c1_ h0 n0 Z0 OLD hcs rsf B_wcs B_wsf B_wad B_whi B_wlo Va (by unfold fY6_1; exact own_utf hc1)) hZ (own_w hw 118) (own_w hw 29) (by decide) (by decide)) (g := (mkF m 21 #[oR this, oI (1 : Int32)] [(.int (1 : Int32)), (.ref arr)])) rfl (by rw [hml]; rfl) (argsL := [(.ref arr), (.int (1 : Int32))]) (rest := []) (lenOf pd_12_1 rfl) rfl (by show 2 * 0 + _ ≤ _; exact Nat.le_of_eq rfl) (hb hby d12_21) (fun _ _ => ⟨rfl, e9, (by decide : 0 + 0 ≤ _), (by decide : 0 + 0 ≤ _)⟩)
    dsimp only [Pt.U, Pt.locs, Pt.cells, Pt.slots] at X10 l10 y10 z10 st10 hQ10
    subst l10 y10 z10
    obtain ⟨rfl, Nq10, e10⟩ := hQ10
    have N11 := Fr.app N8 Nq10
    refine own_via st10 ?_
    show own_Go p e below _ (T10.setTop (mkF m 24 #[oR this, oI (1 : Int32)] [(.int c1_)]))
    obtain ⟨fs, hr, hrun, hended, hW, hsame⟩ := X10.leave (v := some (.int c1_)) (fun h => by rw [Bd.returns] at h; cases h)
    refine ⟨_, _, retOut X10 hx (i := .ireturn) Bd.returns (own_nch hc1) (Or.inl ⟨rfl, by simp, _, rfl⟩) (hb hby d12_24) hr, hrun, hended, _, _, rfl, ?_, ⟨_, rfl⟩, hW, hsame.mono (by decide) (by decide)⟩
    show QA6_1 Z this c0_ c1_ c2_ c3_ c4_ c5_ wcs wsf h0 n0 _ T10.heap _
    rw [e10]
    exact ⟨rfl, N11, rfl⟩
def fH6_2 (b2_ : Int32) : Int32 := ((b2_ &&& (255 : Int32)).toUInt32.toUInt16.toUInt32.toInt32)
theorem ef_rmH6_2 (m : MethodId) (q0 : Addr) : entryFrame m #[(.ref q0), (.int (2 : Int32))] 2 = mkF m 0 #[oR q0, oI (2 : Int32)] [] := by first | (simp [entryFrame, mkF, argsToLocals, Value.category]; done) | rfl
def QH6_2 (Z : State) (p0 : Addr) (wcs : Int32) (wsf : Value) (ka : ClassId) (b0_ : Int32) (b1_ : Int32) (b2_ : Int32) (b3_ : Int32) (b4_ : Int32) (b5_ : Int32) (r : Int32) (h0 : Heap) (n0 : Nat) (v : Option Value) (h : Heap) (L : List Loc) : Prop := v = some (.int r) ∧ Fr n0 L ∧ h = h0
set_option maxRecDepth 65536 in
set_option maxHeartbeats 40000000 in
theorem rmH6_2 (l : Launch) (Z : State) (a0 : Array Value) (hw : ∀ d ∈ tables_1, d.before a0 Z = true) (ws : List Jvm.Cond) (p0 : Addr) (wcs : Int32) (wsf : Value) (ka : ClassId) (b0_ : Int32) (b1_ : Int32) (b2_ : Int32) (b3_ : Int32) (b4_ : Int32) (b5_ : Int32) (r : Int32) (h0 : Heap) (n0 : Nat) (Z0 : n0 ≤ h0.size) (OLD : Old Z n0 h0) (hcs : ¬ (wcs = (0 : Int32))) (rsf : wsf.isRef = true) (B_wcs : Sta Z Z.heap "java/lang/String" "COMPACT_STRINGS" "Z" (.int wcs)) (B_wsf : Sta Z Z.heap "jdk/internal/util/Preconditions" "SIOOBE_FORMATTER" "Ljava/util/function/BiFunction;" wsf) (B_wad : Sta Z Z.heap "java/lang/StringUTF16" "$assertionsDisabled" "Z" (.int (1 : Int32))) (B_whi : Sta Z Z.heap "java/lang/StringUTF16" "HI_BYTE_SHIFT" "I" (.int (0 : Int32))) (B_wlo : Sta Z Z.heap "java/lang/StringUTF16" "LO_BYTE_SHIFT" "I" (.int (8 : Int32))) (V_p0 : Arv Z h0 p0 ka .byte (6 : Int32) [(.int b0_), (.int b1_), (.int b2_), (.int b3_), (.int b4_), (.int b5_)] (.int (0 : Int32))) (hr0 : (fH6_2 b2_) = r) :
    MetFree l (⟨"java/lang/StringLatin1", "charAt", "([BI)C"⟩ : MethodName) (head1 (Jvm.Cond.code (⟨"java/lang/StringLatin1", "charAt", "([BI)C"⟩ : MethodName) jdk_43_method_2_code 2 (some .char) :: ws) ({ frames := 2, cells := 0, slots := 0, locals := 27 } : Room)) (fun a U => a = #[(.ref p0), (.int (2 : Int32))] ∧ Z.Warmed39 U.vm ∧ U.heap = h0) (fun _ _ _ _ _ => True) (fun _ U o U' => ∃ v L, o = .returned v ∧ QH6_2 Z p0 wcs wsf ka b0_ b1_ b2_ b3_ b4_ b5_ r h0 n0 v U'.heap L ∧ FrameEnd U o U' L ({ frames := 2, cells := 0, slots := 0, locals := 27 } : Room).cells ({ frames := 2, cells := 0, slots := 0, locals := 27 } : Room).slots) := by
  refine MetFree.of_bodySF (plainFor_of_name pn_14) hisR ?_
  intro p e s m args below meth c s₁ Bd hml0 hP hK
  obtain ⟨rfl, hZ, hh⟩ := hP
  have hx := Bd.exec
  have hby := Bd.bytes
  have hml : c.maxLocals = 2 := hml0
  have hown : s.vm.findClass "java/lang/StringLatin1" = some m.cls := findClass_of_methodNamed Bd.named
  have hnm := (name_of_methodNamed Bd.named Bd.method).1
  have X0 : Stand p l e ({ frames := 2, cells := 0, slots := 0, locals := 27 } : Room) s m #[(.ref p0), (.int (2 : Int32))] below meth c s₁ [] 0 0 := Stand.of_body Bd
  have e0 : s₁.heap = h0 := by rw [← hh, Bd.state]; rfl
  have N0 := Fr.nil n0
  refine own_start ?_
  refine own_via (fun t k => castTop (ef_rmH6_2 m p0) k) ?_
  show own_Go p e below _ (s₁.setTop (mkF m 0 #[oR p0, oI (2 : Int32)] []))
  refine own_via (fun t kz => XS.iloadN X0.here hx rfl (hb hby d14_0) rfl kz) ?_
  refine own_via (fun t kz => XS.aloadN X0.here hx rfl (hb hby d14_1) rfl rfl kz) ?_
  show own_Go p e below _ (s₁.setTop (mkF m 2 #[oR p0, oI (2 : Int32)] [(.ref p0), (.int (2 : Int32))]))
  obtain ⟨cl1, Ar1, kc1, Sz1, Nn1, Hs1, Gs1⟩ := id V_p0
  refine own_via (fun t kz => X0.arraylength hx (by rw [e0]; exact Ar1.1) (State.isArrayOf_alike hZ.alike Ar1.2.1) (g := (mkF m 2 #[oR p0, oI (2 : Int32)] [(.ref p0), (.int (2 : Int32))])) rfl rfl (hb hby d14_2) t kz) ?_
  show own_Go p e below _ (s₁.setTop (mkF m 3 #[oR p0, oI (2 : Int32)] [(.int (cl1.slots.size.toInt32)), (.int (2 : Int32))]))
  rw [len_of Sz1 Nn1]
  show own_Go p e below _ (s₁.setTop (mkF m 3 #[oR p0, oI (2 : Int32)] [(.int (6 : Int32)), (.int (2 : Int32))]))
  obtain ⟨_, _, ⟨T2, L2, k2, n2⟩, -, X2, ⟨Lc2, hQ2, l2, y2, z2⟩, st2⟩ := Jvm.LawKit.callS X0 hx (y := (⟨"java/lang/String", "checkIndex", "(II)V"⟩ : MethodName)) hown (mvT hZ (own_w hw 80)) (mvT hZ (own_w hw 81)) (mvT hZ (own_w hw 17)) (mvT hZ (own_w hw 82)) (by decide) (backOf (W := 0) (rm15 l Z a0 hw [] (2 : Int32) (6 : Int32) wsf h0 n0 Z0 rsf (B_wsf.ext OLD.2) (by decide) (by decide)) hZ (own_w hw 82) (own_w hw 17) (by decide) (by decide)) (g := (mkF m 3 #[oR p0, oI (2 : Int32)] [(.int (6 : Int32)), (.int (2 : Int32))])) rfl (by rw [hml]; rfl) (argsL := [(.int (2 : Int32)), (.int (6 : Int32))]) (rest := []) (lenOf pd_14_0 rfl) rfl (by show 2 * 0 + _ ≤ _; exact Nat.le_of_eq rfl) (hb hby d14_3) (fun _ _ => ⟨rfl, e0, (by decide : 0 + 0 ≤ _), (by decide : 0 + 0 ≤ _)⟩)
  dsimp only [Pt.U, Pt.locs, Pt.cells, Pt.slots] at X2 l2 y2 z2 st2 hQ2
  subst l2 y2 z2
  obtain ⟨rfl, Nq2, e2⟩ := hQ2
  have N3 := Fr.app N0 Nq2
  refine own_via st2 ?_
  refine own_via (fun t kz => XS.aloadN X2.here hx rfl (hb hby d14_6) rfl rfl kz) ?_
  refine own_via (fun t kz => XS.iloadN X2.here hx rfl (hb hby d14_7) rfl kz) ?_
  show own_Go p e below _ (T2.setTop (mkF m 8 #[oR p0, oI (2 : Int32)] [(.int (2 : Int32)), (.ref p0)]))
  obtain ⟨cl4, Ar4, kc4, Sz4, Nn4, Hs4, Gs4⟩ := id V_p0
  have in4 := inb_of (j := (2 : Int32)) Sz4 ⟨by decide, by decide⟩
  have at4 : cl4.slots[((2 : Int32)).toNatClampNeg]? = some (.int b2_) := Hs4.at in4 rfl
  refine own_via (fun t kz => X2.baloadBytes hx (j := (2 : Int32)) (v := (.int b2_)) (by rw [e2]; exact Ar4.1) (State.isArrayOf_alike hZ.alike Ar4.2.1) Ar4.2.2 in4 at4 (g := (mkF m 8 #[oR p0, oI (2 : Int32)] [(.int (2 : Int32)), (.ref p0)])) rfl rfl (hb hby d14_8) t kz) ?_
  refine own_via (fun t kz => XS.sipush X2.here hx rfl (hb hby d14_9) kz) ?_
  refine own_via (fun t kz => XS.iand X2.here hx rfl (hb hby d14_12) rfl kz) ?_
  show own_Go p e below _ (T2.setTop (mkF m 13 #[oR p0, oI (2 : Int32)] [(.int (b2_ &&& (255 : Int32)))]))
  refine own_via (fun t kz => XS.i2c X2.here hx rfl (hb hby d14_13) rfl kz) ?_
  show own_Go p e below _ (T2.setTop (mkF m 14 #[oR p0, oI (2 : Int32)] [(.int ((b2_ &&& (255 : Int32)).toUInt32.toUInt16.toUInt32.toInt32))]))
  have hv : (fH6_2 b2_) = ((b2_ &&& (255 : Int32)).toUInt32.toUInt16.toUInt32.toInt32) := by unfold fH6_2; rfl
  obtain ⟨fs, hr, hrun, hended, hW, hsame⟩ := X2.leave (v := some (.int ((b2_ &&& (255 : Int32)).toUInt32.toUInt16.toUInt32.toInt32))) (fun h => by rw [Bd.returns] at h; cases h)
  refine ⟨_, _, retOut X2 hx (i := .ireturn) Bd.returns (narrow_c _) (Or.inl ⟨rfl, by simp, _, rfl⟩) (hb hby d14_14) hr, hrun, hended, _, _, rfl, ?_, ⟨_, rfl⟩, hW, hsame.mono (by decide) (by decide)⟩
  show QH6_2 Z p0 wcs wsf ka b0_ b1_ b2_ b3_ b4_ b5_ r h0 n0 _ T2.heap _
  rw [e2]
  exact ⟨by rw [← hr0, hv], N3, rfl⟩
theorem ef_rmX6_2 (m : MethodId) (q0 : Addr) : entryFrame m #[(.int (2 : Int32)), (.ref q0)] 2 = mkF m 0 #[oI (2 : Int32), oR q0] [] := by first | (simp [entryFrame, mkF, argsToLocals, Value.category]; done) | rfl
def QX6_2 (Z : State) (p1 : Addr) (kb : ClassId) (b0_ : Int32) (b1_ : Int32) (b2_ : Int32) (b3_ : Int32) (b4_ : Int32) (b5_ : Int32) (b6_ : Int32) (b7_ : Int32) (b8_ : Int32) (b9_ : Int32) (b10_ : Int32) (b11_ : Int32) (wcs : Int32) (wsf : Value) (h0 : Heap) (n0 : Nat) (v : Option Value) (h : Heap) (L : List Loc) : Prop := v = none ∧ Fr n0 L ∧ h = h0
set_option maxRecDepth 65536 in
set_option maxHeartbeats 40000000 in
theorem rmX6_2 (l : Launch) (Z : State) (a0 : Array Value) (hw : ∀ d ∈ tables_1, d.before a0 Z = true) (ws : List Jvm.Cond) (p1 : Addr) (kb : ClassId) (b0_ : Int32) (b1_ : Int32) (b2_ : Int32) (b3_ : Int32) (b4_ : Int32) (b5_ : Int32) (b6_ : Int32) (b7_ : Int32) (b8_ : Int32) (b9_ : Int32) (b10_ : Int32) (b11_ : Int32) (wcs : Int32) (wsf : Value) (h0 : Heap) (n0 : Nat) (Z0 : n0 ≤ h0.size) (VB : Arv Z h0 p1 kb .byte (12 : Int32) [(.int b0_), (.int b1_), (.int b2_), (.int b3_), (.int b4_), (.int b5_), (.int b6_), (.int b7_), (.int b8_), (.int b9_), (.int b10_), (.int b11_)] (.int (0 : Int32))) (OLD : Old Z n0 h0) (hcs : ¬ (wcs = (0 : Int32))) (rsf : wsf.isRef = true) (B_wcs : Sta Z Z.heap "java/lang/String" "COMPACT_STRINGS" "Z" (.int wcs)) (B_wsf : Sta Z Z.heap "jdk/internal/util/Preconditions" "SIOOBE_FORMATTER" "Ljava/util/function/BiFunction;" wsf) (B_wad : Sta Z Z.heap "java/lang/StringUTF16" "$assertionsDisabled" "Z" (.int (1 : Int32))) (B_whi : Sta Z Z.heap "java/lang/StringUTF16" "HI_BYTE_SHIFT" "I" (.int (0 : Int32))) (B_wlo : Sta Z Z.heap "java/lang/StringUTF16" "LO_BYTE_SHIFT" "I" (.int (8 : Int32))) :
    MetFree l (⟨"java/lang/StringUTF16", "checkIndex", "(I[B)V"⟩ : MethodName) (head1 (Jvm.Cond.code (⟨"java/lang/StringUTF16", "checkIndex", "(I[B)V"⟩ : MethodName) jdk_52_method_91_code 2 none :: ws) ({ frames := 2, cells := 0, slots := 0, locals := 27 } : Room)) (fun a U => a = #[(.int (2 : Int32)), (.ref p1)] ∧ Z.Warmed39 U.vm ∧ U.heap = h0) (fun _ _ _ _ _ => True) (fun _ U o U' => ∃ v L, o = .returned v ∧ QX6_2 Z p1 kb b0_ b1_ b2_ b3_ b4_ b5_ b6_ b7_ b8_ b9_ b10_ b11_ wcs wsf h0 n0 v U'.heap L ∧ FrameEnd U o U' L ({ frames := 2, cells := 0, slots := 0, locals := 27 } : Room).cells ({ frames := 2, cells := 0, slots := 0, locals := 27 } : Room).slots) := by
  refine MetFree.of_bodySF (plainFor_of_name pn_20) hisR ?_
  intro p e s m args below meth c s₁ Bd hml0 hP hK
  obtain ⟨rfl, hZ, hh⟩ := hP
  have hx := Bd.exec
  have hby := Bd.bytes
  have hml : c.maxLocals = 2 := hml0
  have hown : s.vm.findClass "java/lang/StringUTF16" = some m.cls := findClass_of_methodNamed Bd.named
  have hnm := (name_of_methodNamed Bd.named Bd.method).1
  have X0 : Stand p l e ({ frames := 2, cells := 0, slots := 0, locals := 27 } : Room) s m #[(.int (2 : Int32)), (.ref p1)] below meth c s₁ [] 0 0 := Stand.of_body Bd
  have e0 : s₁.heap = h0 := by rw [← hh, Bd.state]; rfl
  have N0 := Fr.nil n0
  refine own_start ?_
  refine own_via (fun t k => castTop (ef_rmX6_2 m p1) k) ?_
  show own_Go p e below _ (s₁.setTop (mkF m 0 #[oI (2 : Int32), oR p1] []))
  refine own_via (fun t kz => XS.iloadN X0.here hx rfl (hb hby d24_0) rfl kz) ?_
  refine own_via (fun t kz => XS.aloadN X0.here hx rfl (hb hby d24_1) rfl rfl kz) ?_
  show own_Go p e below _ (s₁.setTop (mkF m 2 #[oI (2 : Int32), oR p1] [(.ref p1), (.int (2 : Int32))]))
  obtain ⟨_, _, ⟨T1, L1, k1, n1⟩, -, X1, ⟨Lc1, hQ1, l1, y1, z1⟩, st1⟩ := Jvm.LawKit.callS X0 hx (y := (⟨"java/lang/StringUTF16", "length", "([B)I"⟩ : MethodName)) hown (mvT hZ (own_w hw 122)) (mvT hZ (own_w hw 123)) (mvT hZ (own_w hw 29)) (mvT hZ (own_w hw 124)) (by decide) (backOf (W := 1) (rmU6 l Z a0 hw [] p1 kb b0_ b1_ b2_ b3_ b4_ b5_ b6_ b7_ b8_ b9_ b10_ b11_ (6 : Int32) h0 n0 Z0 VB (by unfold fU6; rfl)) hZ (own_w hw 124) (own_w hw 29) (by decide) (by decide)) (g := (mkF m 2 #[oI (2 : Int32), oR p1] [(.ref p1), (.int (2 : Int32))])) rfl (by rw [hml]; rfl) (argsL := [(.ref p1)]) (rest := [(.int (2 : Int32))]) (lenOf pd_24_0 rfl) rfl (by show 2 * 0 + _ ≤ _; exact Nat.le_of_eq rfl) (hb hby d24_2) (fun _ _ => ⟨rfl, e0, (by decide : 0 + 0 ≤ _), (by decide : 0 + 0 ≤ _)⟩)
  dsimp only [Pt.U, Pt.locs, Pt.cells, Pt.slots] at X1 l1 y1 z1 st1 hQ1
  subst l1 y1 z1
  obtain ⟨rfl, Nq1, e1⟩ := hQ1
  have N2 := Fr.app N0 Nq1
  refine own_via st1 ?_
  show own_Go p e below _ (T1.setTop (mkF m 5 #[oI (2 : Int32), oR p1] [(.int (6 : Int32)), (.int (2 : Int32))]))
  obtain ⟨_, _, ⟨T3, L3, k3, n3⟩, -, X3, ⟨Lc3, hQ3, l3, y3, z3⟩, st3⟩ := Jvm.LawKit.callS X1 hx (y := (⟨"java/lang/String", "checkIndex", "(II)V"⟩ : MethodName)) hown (mvT hZ (own_w hw 125)) (mvT hZ (own_w hw 81)) (mvT hZ (own_w hw 17)) (mvT hZ (own_w hw 82)) (by decide) (backOf (W := 0) (rm15 l Z a0 hw [] (2 : Int32) (6 : Int32) wsf h0 n0 Z0 rsf (B_wsf.ext OLD.2) (by decide) (by decide)) hZ (own_w hw 82) (own_w hw 17) (by decide) (by decide)) (g := (mkF m 5 #[oI (2 : Int32), oR p1] [(.int (6 : Int32)), (.int (2 : Int32))])) rfl (by rw [hml]; rfl) (argsL := [(.int (2 : Int32)), (.int (6 : Int32))]) (rest := []) (lenOf pd_24_1 rfl) rfl (by show 2 * 0 + _ ≤ _; exact Nat.le_of_eq rfl) (hb hby d24_5) (fun _ _ => ⟨rfl, e1, (by decide : 0 + 0 ≤ _), (by decide : 0 + 0 ≤ _)⟩)
  dsimp only [Pt.U, Pt.locs, Pt.cells, Pt.slots] at X3 l3 y3 z3 st3 hQ3
  subst l3 y3 z3
  obtain ⟨rfl, Nq3, e3⟩ := hQ3
  have N4 := Fr.app N2 Nq3
  refine own_via st3 ?_
  show own_Go p e below _ (T3.setTop (mkF m 8 #[oI (2 : Int32), oR p1] []))
  obtain ⟨fs, hr, hrun, hended, hW, hsame⟩ := X3.leave (v := none) (fun _ => rfl)
  refine ⟨_, _, X3.returnOut hx Bd.returns (hb hby d24_8) hr, hrun, hended, _, _, rfl, ?_, ⟨_, rfl⟩, hW, hsame.mono (by decide) (by decide)⟩
  show QX6_2 Z p1 kb b0_ b1_ b2_ b3_ b4_ b5_ b6_ b7_ b8_ b9_ b10_ b11_ wcs wsf h0 n0 _ T3.heap _
  rw [e3]
  exact ⟨rfl, N4, rfl⟩
def fY6_2 (b4_ : Int32) (b5_ : Int32) : Int32 := ((((b4_ &&& (255 : Int32)) <<< ((0 : Int32) &&& 31)) ||| ((b5_ &&& (255 : Int32)) <<< ((8 : Int32) &&& 31))).toUInt32.toUInt16.toUInt32.toInt32)
theorem ef_rmY6_2 (m : MethodId) (q0 : Addr) : entryFrame m #[(.ref q0), (.int (2 : Int32))] 2 = mkF m 0 #[oR q0, oI (2 : Int32)] [] := by first | (simp [entryFrame, mkF, argsToLocals, Value.category]; done) | rfl
def QY6_2 (Z : State) (p0 : Addr) (wcs : Int32) (wsf : Value) (ka : ClassId) (b0_ : Int32) (b1_ : Int32) (b2_ : Int32) (b3_ : Int32) (b4_ : Int32) (b5_ : Int32) (b6_ : Int32) (b7_ : Int32) (b8_ : Int32) (b9_ : Int32) (b10_ : Int32) (b11_ : Int32) (r : Int32) (h0 : Heap) (n0 : Nat) (v : Option Value) (h : Heap) (L : List Loc) : Prop := v = some (.int r) ∧ Fr n0 L ∧ h = h0
set_option maxRecDepth 65536 in
set_option maxHeartbeats 40000000 in
theorem rmY6_2 (l : Launch) (Z : State) (a0 : Array Value) (hw : ∀ d ∈ tables_1, d.before a0 Z = true) (ws : List Jvm.Cond) (p0 : Addr) (wcs : Int32) (wsf : Value) (ka : ClassId) (b0_ : Int32) (b1_ : Int32) (b2_ : Int32) (b3_ : Int32) (b4_ : Int32) (b5_ : Int32) (b6_ : Int32) (b7_ : Int32) (b8_ : Int32) (b9_ : Int32) (b10_ : Int32) (b11_ : Int32) (r : Int32) (h0 : Heap) (n0 : Nat) (Z0 : n0 ≤ h0.size) (OLD : Old Z n0 h0) (hcs : ¬ (wcs = (0 : Int32))) (rsf : wsf.isRef = true) (B_wcs : Sta Z Z.heap "java/lang/String" "COMPACT_STRINGS" "Z" (.int wcs)) (B_wsf : Sta Z Z.heap "jdk/internal/util/Preconditions" "SIOOBE_FORMATTER" "Ljava/util/function/BiFunction;" wsf) (B_wad : Sta Z Z.heap "java/lang/StringUTF16" "$assertionsDisabled" "Z" (.int (1 : Int32))) (B_whi : Sta Z Z.heap "java/lang/StringUTF16" "HI_BYTE_SHIFT" "I" (.int (0 : Int32))) (B_wlo : Sta Z Z.heap "java/lang/StringUTF16" "LO_BYTE_SHIFT" "I" (.int (8 : Int32))) (V_p0 : Arv Z h0 p0 ka .byte (12 : Int32) [(.int b0_), (.int b1_), (.int b2_), (.int b3_), (.int b4_), (.int b5_), (.int b6_), (.int b7_), (.int b8_), (.int b9_), (.int b10_), (.int b11_)] (.int (0 : Int32))) (hr0 : (fY6_2 b4_ b5_) = r) :
    MetFree l (⟨"java/lang/StringUTF16", "charAt", "([BI)C"⟩ : MethodName) (head1 (Jvm.Cond.code (⟨"java/lang/StringUTF16", "charAt", "([BI)C"⟩ : MethodName) jdk_52_method_83_code 2 (some .char) :: ws) ({ frames := 3, cells := 0, slots := 0, locals := 40 } : Room)) (fun a U => a = #[(.ref p0), (.int (2 : Int32))] ∧ Z.Warmed39 U.vm ∧ U.heap = h0) (fun _ _ _ _ _ => True) (fun _ U o U' => ∃ v L, o = .returned v ∧ QY6_2 Z p0 wcs wsf ka b0_ b1_ b2_ b3_ b4_ b5_ b6_ b7_ b8_ b9_ b10_ b11_ r h0 n0 v U'.heap L ∧ FrameEnd U o U' L ({ frames := 3, cells := 0, slots := 0, locals := 40 } : Room).cells ({ frames := 3, cells := 0, slots := 0, locals := 40 } : Room).slots) := by
  refine MetFree.of_bodySF (plainFor_of_name pn_20) hisR ?_
  intro p e s m args below meth c s₁ Bd hml0 hP hK
  obtain ⟨rfl, hZ, hh⟩ := hP
  have hx := Bd.exec
  have hby := Bd.bytes
  have hml : c.maxLocals = 2 := hml0
  have hown : s.vm.findClass "java/lang/StringUTF16" = some m.cls := findClass_of_methodNamed Bd.named
  have hnm := (name_of_methodNamed Bd.named Bd.method).1
  have X0 : Stand p l e ({ frames := 3, cells := 0, slots := 0, locals := 40 } : Room) s m #[(.ref p0), (.int (2 : Int32))] below meth c s₁ [] 0 0 := Stand.of_body Bd
  have e0 : s₁.heap = h0 := by rw [← hh, Bd.state]; rfl
  have N0 := Fr.nil n0
  refine own_start ?_
  refine own_via (fun t k => castTop (ef_rmY6_2 m p0) k) ?_
  show own_Go p e below _ (s₁.setTop (mkF m 0 #[oR p0, oI (2 : Int32)] []))
  refine own_via (fun t kz => XS.iloadN X0.here hx rfl (hb hby d23_0) rfl kz) ?_
  refine own_via (fun t kz => XS.aloadN X0.here hx rfl (hb hby d23_1) rfl rfl kz) ?_
  show own_Go p e below _ (s₁.setTop (mkF m 2 #[oR p0, oI (2 : Int32)] [(.ref p0), (.int (2 : Int32))]))
  obtain ⟨_, _, ⟨T1, L1, k1, n1⟩, -, X1, ⟨Lc1, hQ1, l1, y1, z1⟩, st1⟩ := Jvm.LawKit.callS X0 hx (y := (⟨"java/lang/StringUTF16", "checkIndex", "(I[B)V"⟩ : MethodName)) hown (mvT hZ (own_w hw 119)) (mvT hZ (own_w hw 120)) (mvT hZ (own_w hw 29)) (mvT hZ (own_w hw 121)) (by decide) (backOf (W := 0) (rmX6_2 l Z a0 hw [] p0 ka b0_ b1_ b2_ b3_ b4_ b5_ b6_ b7_ b8_ b9_ b10_ b11_ wcs wsf h0 n0 Z0 V_p0 OLD hcs rsf B_wcs B_wsf B_wad B_whi B_wlo) hZ (own_w hw 121) (own_w hw 29) (by decide) (by decide)) (g := (mkF m 2 #[oR p0, oI (2 : Int32)] [(.ref p0), (.int (2 : Int32))])) rfl (by rw [hml]; rfl) (argsL := [(.int (2 : Int32)), (.ref p0)]) (rest := []) (lenOf pd_23_0 rfl) rfl (by show 2 * 0 + _ ≤ _; exact Nat.le_of_eq rfl) (hb hby d23_2) (fun _ _ => ⟨rfl, e0, (by decide : 0 + 0 ≤ _), (by decide : 0 + 0 ≤ _)⟩)
  dsimp only [Pt.U, Pt.locs, Pt.cells, Pt.slots] at X1 l1 y1 z1 st1 hQ1
  subst l1 y1 z1
  obtain ⟨rfl, Nq1, e1⟩ := hQ1
  have N2 := Fr.app N0 Nq1
  refine own_via st1 ?_
  refine own_via (fun t kz => XS.aloadN X1.here hx rfl (hb hby d23_5) rfl rfl kz) ?_
  refine own_via (fun t kz => XS.iloadN X1.here hx rfl (hb hby d23_6) rfl kz) ?_
  show own_Go p e below _ (T1.setTop (mkF m 7 #[oR p0, oI (2 : Int32)] [(.int (2 : Int32)), (.ref p0)]))
  obtain ⟨_, _, ⟨T3, L3, k3, n3⟩, -, X3, ⟨Lc3, hQ3, l3, y3, z3⟩, st3⟩ := Jvm.LawKit.callS X1 hx (y := (⟨"java/lang/StringUTF16", "getChar", "([BI)C"⟩ : MethodName)) hown (mvT hZ (own_w hw 113)) (mvT hZ (own_w hw 114)) (mvT hZ (own_w hw 29)) (mvT hZ (own_w hw 115)) (by decide) (backOf (W := 0) (rmG6_2 l Z a0 hw [] p0 (1 : Int32) (0 : Int32) (8 : Int32) ka b0_ b1_ b2_ b3_ b4_ b5_ b6_ b7_ b8_ b9_ b10_ b11_ ((((b4_ &&& (255 : Int32)) <<< ((0 : Int32) &&& 31)) ||| ((b5_ &&& (255 : Int32)) <<< ((8 : Int32) &&& 31))).toUInt32.toUInt16.toUInt32.toInt32) h0 n0 Z0 rfl (B_wad.ext OLD.2) (B_whi.ext OLD.2) (B_wlo.ext OLD.2) V_p0 (by unfold fG6_2; rfl)) hZ (own_w hw 115) (own_w hw 29) (by decide) (by decide)) (g := (mkF m 7 #[oR p0, oI (2 : Int32)] [(.int (2 : Int32)), (.ref p0)])) rfl (by rw [hml]; rfl) (argsL := [(.ref p0), (.int (2 : Int32))]) (rest := []) (lenOf pd_23_1 rfl) rfl (by show 2 * 0 + _ ≤ _; exact Nat.le_of_eq rfl) (hb hby d23_7) (fun _ _ => ⟨rfl, e1, (by decide : 0 + 0 ≤ _), (by decide : 0 + 0 ≤ _)⟩)
  dsimp only [Pt.U, Pt.locs, Pt.cells, Pt.slots] at X3 l3 y3 z3 st3 hQ3
  subst l3 y3 z3
  obtain ⟨rfl, Nq3, e3⟩ := hQ3
  have N4 := Fr.app N2 Nq3
  refine own_via st3 ?_
  show own_Go p e below _ (T3.setTop (mkF m 10 #[oR p0, oI (2 : Int32)] [(.int ((((b4_ &&& (255 : Int32)) <<< ((0 : Int32) &&& 31)) ||| ((b5_ &&& (255 : Int32)) <<< ((8 : Int32) &&& 31))).toUInt32.toUInt16.toUInt32.toInt32))]))
  have hv : (fY6_2 b4_ b5_) = ((((b4_ &&& (255 : Int32)) <<< ((0 : Int32) &&& 31)) ||| ((b5_ &&& (255 : Int32)) <<< ((8 : Int32) &&& 31))).toUInt32.toUInt16.toUInt32.toInt32) := by unfold fY6_2; rfl
  obtain ⟨fs, hr, hrun, hended, hW, hsame⟩ := X3.leave (v := some (.int ((((b4_ &&& (255 : Int32)) <<< ((0 : Int32) &&& 31)) ||| ((b5_ &&& (255 : Int32)) <<< ((8 : Int32) &&& 31))).toUInt32.toUInt16.toUInt32.toInt32))) (fun h => by rw [Bd.returns] at h; cases h)
  refine ⟨_, _, retOut X3 hx (i := .ireturn) Bd.returns (narrow_c _) (Or.inl ⟨rfl, by simp, _, rfl⟩) (hb hby d23_10) hr, hrun, hended, _, _, rfl, ?_, ⟨_, rfl⟩, hW, hsame.mono (by decide) (by decide)⟩
  show QY6_2 Z p0 wcs wsf ka b0_ b1_ b2_ b3_ b4_ b5_ b6_ b7_ b8_ b9_ b10_ b11_ r h0 n0 _ T3.heap _
  rw [e3]
  exact ⟨by rw [← hr0, hv], N4, rfl⟩
theorem ef_rmA6_2 (m : MethodId) (q0 : Addr) : entryFrame m #[(.ref q0), (.int (2 : Int32))] 2 = mkF m 0 #[oR q0, oI (2 : Int32)] [] := by first | (simp [entryFrame, mkF, argsToLocals, Value.category]; done) | rfl
def QA6_2 (Z : State) (this : Addr) (c0_ : Int32) (c1_ : Int32) (c2_ : Int32) (c3_ : Int32) (c4_ : Int32) (c5_ : Int32) (wcs : Int32) (wsf : Value) (h0 : Heap) (n0 : Nat) (v : Option Value) (h : Heap) (L : List Loc) : Prop := v = some (.int c2_) ∧ Fr n0 L ∧ h = h0
set_option maxRecDepth 65536 in
set_option maxHeartbeats 40000000 in
theorem rmA6_2 (l : Launch) (Z : State) (a0 : Array Value) (hw : ∀ d ∈ tables_1, d.before a0 Z = true) (ws : List Jvm.Cond) (this : Addr) (c0_ : Int32) (c1_ : Int32) (c2_ : Int32) (c3_ : Int32) (c4_ : Int32) (c5_ : Int32) (wcs : Int32) (wsf : Value) (h0 : Heap) (n0 : Nat) (Z0 : n0 ≤ h0.size) (SR : own_Str6 Z h0 n0 this c0_ c1_ c2_ c3_ c4_ c5_) (hc0 : own_ch c0_) (hc1 : own_ch c1_) (hc2 : own_ch c2_) (hc3 : own_ch c3_) (hc4 : own_ch c4_) (hc5 : own_ch c5_) (OLD : Old Z n0 h0) (hcs : ¬ (wcs = (0 : Int32))) (rsf : wsf.isRef = true) (B_wcs : Sta Z Z.heap "java/lang/String" "COMPACT_STRINGS" "Z" (.int wcs)) (B_wsf : Sta Z Z.heap "jdk/internal/util/Preconditions" "SIOOBE_FORMATTER" "Ljava/util/function/BiFunction;" wsf) (B_wad : Sta Z Z.heap "java/lang/StringUTF16" "$assertionsDisabled" "Z" (.int (1 : Int32))) (B_whi : Sta Z Z.heap "java/lang/StringUTF16" "HI_BYTE_SHIFT" "I" (.int (0 : Int32))) (B_wlo : Sta Z Z.heap "java/lang/StringUTF16" "LO_BYTE_SHIFT" "I" (.int (8 : Int32))) :
    MetFree l (⟨"java/lang/String", "charAt", "(I)C"⟩ : MethodName) (head1 (Jvm.Cond.code (⟨"java/lang/String", "charAt", "(I)C"⟩ : MethodName) jdk_42_method_56_code 2 (some .char) :: ws) ({ frames := 4, cells := 0, slots := 0, locals := 53 } : Room)) (fun a U => a = #[(.ref this), (.int (2 : Int32))] ∧ Z.Warmed39 U.vm ∧ U.heap = h0) (fun _ _ _ _ _ => True) (fun _ U o U' => ∃ v L, o = .returned v ∧ QA6_2 Z this c0_ c1_ c2_ c3_ c4_ c5_ wcs wsf h0 n0 v U'.heap L ∧ FrameEnd U o U' L ({ frames := 4, cells := 0, slots := 0, locals := 53 } : Room).cells ({ frames := 4, cells := 0, slots := 0, locals := 53 } : Room).slots) := by
  refine MetFree.of_bodySF (plainFor_of_name pn_15) hisR ?_
  intro p e s m args below meth c s₁ Bd hml0 hP hK
  obtain ⟨rfl, hZ, hh⟩ := hP
  have hx := Bd.exec
  have hby := Bd.bytes
  have hml : c.maxLocals = 2 := hml0
  have hown : s.vm.findClass "java/lang/String" = some m.cls := findClass_of_methodNamed Bd.named
  have hnm := (name_of_methodNamed Bd.named Bd.method).1
  have X0 : Stand p l e ({ frames := 4, cells := 0, slots := 0, locals := 53 } : Room) s m #[(.ref this), (.int (2 : Int32))] below meth c s₁ [] 0 0 := Stand.of_body Bd
  have e0 : s₁.heap = h0 := by rw [← hh, Bd.state]; rfl
  have N0 := Fr.nil n0
  refine own_start ?_
  refine own_via (fun t k => castTop (ef_rmA6_2 m this) k) ?_
  obtain ⟨arr, kb, ⟨ch0, ch1⟩, Eq, Fv, Rp⟩ := SR
  rcases Rp with ⟨hl, Fc, Va⟩ | ⟨Fc, Va⟩
  · show own_Go p e below _ (s₁.setTop (mkF m 0 #[oR this, oI (2 : Int32)] []))
    refine own_via (fun t kz => XS.aloadN X0.here hx rfl (hb hby d12_0) rfl rfl kz) ?_
    show own_Go p e below _ (s₁.setTop (mkF m 1 #[oR this, oI (2 : Int32)] [(.ref this)]))
    obtain ⟨cq1, kq1, qa1, qb1, qc1⟩ := isOf hZ e0 Eq
    obtain ⟨_, _, ⟨T1, L1, k1, n1⟩, -, X1, ⟨Lc1, hQ1, l1, y1, z1⟩, st1⟩ := X0.virtualBack hx (y := (⟨"java/lang/String", "isLatin1", "()Z"⟩ : MethodName)) (z := (⟨"java/lang/String", "isLatin1", "()Z"⟩ : MethodName)) hown (mvT hZ (own_w hw 71)) (mvT hZ (own_w hw 72)) (notFace_of_selects (args := #[]) (mvT hZ (own_w hw 74))) (mvT hZ (own_w hw 74)) (mvT hZ (own_w hw 73)) (by decide) (backOf (W := 0) (rm13 l Z a0 hw [] this (0 : Int32) wcs (1 : Int32) h0 n0 Z0 hcs Fc (B_wcs.ext OLD.2) (by unfold f13; rw [if_pos (by decide : (0 : Int32) = (0 : Int32))])) hZ (own_w hw 75) (own_w hw 17) (by decide) (by decide)) qa1 qc1 (g := (mkF m 1 #[oR this, oI (2 : Int32)] [(.ref this)])) rfl (by rw [hml]; rfl) (Steps.refl _) (argsL := []) (rest := []) (lenOf pd_12_0 rfl) rfl (by show 2 * 0 + _ ≤ _; exact Nat.le_of_eq rfl) (hb hby d12_1) (fun _ _ => ⟨rfl, e0, (by decide : 0 + 0 ≤ _), (by decide : 0 + 0 ≤ _)⟩)
    dsimp only [Pt.U, Pt.locs, Pt.cells, Pt.slots] at X1 l1 y1 z1 st1 hQ1
    subst l1 y1 z1
    obtain ⟨rfl, Nq1, e1⟩ := hQ1
    have N2 := Fr.app N0 Nq1
    refine own_tr st1 ?_
    show own_Go p e below _ (T1.setTop (mkF m 4 #[oR this, oI (2 : Int32)] [(.int (1 : Int32))]))
    refine own_via (fun t kz => XS.ifNo X1.here hx rfl (hb hby d12_4) rfl ((if0 _ _).trans (feq (by decide : ¬ ((1 : Int32) = (0 : Int32)))).1) kz) ?_
    refine own_via (fun t kz => XS.aloadN X1.here hx rfl (hb hby d12_7) rfl rfl kz) ?_
    show own_Go p e below _ (T1.setTop (mkF m 8 #[oR this, oI (2 : Int32)] [(.ref this)]))
    obtain ⟨T3, X3, e3, st3⟩ := getF X1 hx hZ hown (host := "") (Or.inl (own_w hw 40)) Via.refl e1 Fv (g := (mkF m 8 #[oR this, oI (2 : Int32)] [(.ref this)])) rfl rfl (hb hby d12_8)
    refine own_via st3 ?_
    refine own_via (fun t kz => XS.iloadN X3.here hx rfl (hb hby d12_11) rfl kz) ?_
    show own_Go p e below _ (T3.setTop (mkF m 12 #[oR this, oI (2 : Int32)] [(.int (2 : Int32)), (.ref arr)]))
    obtain ⟨_, _, ⟨T4, L4, k4, n4⟩, -, X4, ⟨Lc4, hQ4, l4, y4, z4⟩, st4⟩ := Jvm.LawKit.callS X3 hx (y := (⟨"java/lang/StringLatin1", "charAt", "([BI)C"⟩ : MethodName)) hown (mvT hZ (own_w hw 76)) (mvT hZ (own_w hw 77)) (mvT hZ (own_w hw 78)) (mvT hZ (own_w hw 79)) (by decide) (backOf (W := 0) (rmH6_2 l Z a0 hw [] arr wcs wsf kb (c0_.toInt8.toInt32) (c1_.toInt8.toInt32) (c2_.toInt8.toInt32) (c3_.toInt8.toInt32) (c4_.toInt8.toInt32) (c5_.toInt8.toInt32) c2_ h0 n0 Z0 OLD hcs rsf B_wcs B_wsf B_wad B_whi B_wlo Va (by unfold fH6_2; exact own_lat hc2 hl.2.2.1)) hZ (own_w hw 79) (own_w hw 78) (by decide) (by decide)) (g := (mkF m 12 #[oR this, oI (2 : Int32)] [(.int (2 : Int32)), (.ref arr)])) rfl (by rw [hml]; rfl) (argsL := [(.ref arr), (.int (2 : Int32))]) (rest := []) (lenOf pd_12_1 rfl) rfl (by show 2 * 0 + _ ≤ _; exact Nat.le_of_eq rfl) (hb hby d12_12) (fun _ _ => ⟨rfl, e3, (by decide : 0 + 0 ≤ _), (by decide : 0 + 0 ≤ _)⟩)
    dsimp only [Pt.U, Pt.locs, Pt.cells, Pt.slots] at X4 l4 y4 z4 st4 hQ4
    subst l4 y4 z4
    obtain ⟨rfl, Nq4, e4⟩ := hQ4
    have N5 := Fr.app N2 Nq4
    refine own_via st4 ?_
    show own_Go p e below _ (T4.setTop (mkF m 15 #[oR this, oI (2 : Int32)] [(.int c2_)]))
    obtain ⟨fs, hr, hrun, hended, hW, hsame⟩ := X4.leave (v := some (.int c2_)) (fun h => by rw [Bd.returns] at h; cases h)
    refine ⟨_, _, retOut X4 hx (i := .ireturn) Bd.returns (own_nch hc2) (Or.inl ⟨rfl, by simp, _, rfl⟩) (hb hby d12_15) hr, hrun, hended, _, _, rfl, ?_, ⟨_, rfl⟩, hW, hsame.mono (by decide) (by decide)⟩
    show QA6_2 Z this c0_ c1_ c2_ c3_ c4_ c5_ wcs wsf h0 n0 _ T4.heap _
    rw [e4]
    exact ⟨rfl, N5, rfl⟩
  · show own_Go p e below _ (s₁.setTop (mkF m 0 #[oR this, oI (2 : Int32)] []))
    refine own_via (fun t kz => XS.aloadN X0.here hx rfl (hb hby d12_0) rfl rfl kz) ?_
    show own_Go p e below _ (s₁.setTop (mkF m 1 #[oR this, oI (2 : Int32)] [(.ref this)]))
    obtain ⟨cq7, kq7, qa7, qb7, qc7⟩ := isOf hZ e0 Eq
    obtain ⟨_, _, ⟨T7, L7, k7, n7⟩, -, X7, ⟨Lc7, hQ7, l7, y7, z7⟩, st7⟩ := X0.virtualBack hx (y := (⟨"java/lang/String", "isLatin1", "()Z"⟩ : MethodName)) (z := (⟨"java/lang/String", "isLatin1", "()Z"⟩ : MethodName)) hown (mvT hZ (own_w hw 71)) (mvT hZ (own_w hw 72)) (notFace_of_selects (args := #[]) (mvT hZ (own_w hw 74))) (mvT hZ (own_w hw 74)) (mvT hZ (own_w hw 73)) (by decide) (backOf (W := 0) (rm13 l Z a0 hw [] this (1 : Int32) wcs (0 : Int32) h0 n0 Z0 hcs Fc (B_wcs.ext OLD.2) (by unfold f13; rw [if_neg (by decide : ¬ ((1 : Int32) = (0 : Int32)))])) hZ (own_w hw 75) (own_w hw 17) (by decide) (by decide)) qa7 qc7 (g := (mkF m 1 #[oR this, oI (2 : Int32)] [(.ref this)])) rfl (by rw [hml]; rfl) (Steps.refl _) (argsL := []) (rest := []) (lenOf pd_12_0 rfl) rfl (by show 2 * 0 + _ ≤ _; exact Nat.le_of_eq rfl) (hb hby d12_1) (fun _ _ => ⟨rfl, e0, (by decide : 0 + 0 ≤ _), (by decide : 0 + 0 ≤ _)⟩)
    dsimp only [Pt.U, Pt.locs, Pt.cells, Pt.slots] at X7 l7 y7 z7 st7 hQ7
    subst l7 y7 z7
    obtain ⟨rfl, Nq7, e7⟩ := hQ7
    have N8 := Fr.app N0 Nq7
    refine own_tr st7 ?_
    show own_Go p e below _ (T7.setTop (mkF m 4 #[oR this, oI (2 : Int32)] [(.int (0 : Int32))]))
    refine own_via (fun t kz => XS.ifYes X7.here hx rfl (pc0 := 4) (pc' := 16) rfl (hb hby d12_4) rfl ((if0 _ _).trans (teq (by decide : (0 : Int32) = (0 : Int32))).1) (by decide) (by decide) kz) ?_
    refine own_via (fun t kz => XS.aloadN X7.here hx rfl (hb hby d12_16) rfl rfl kz) ?_
    show own_Go p e below _ (T7.setTop (mkF m 17 #[oR this, oI (2 : Int32)] [(.ref this)]))
    obtain ⟨T9, X9, e9, st9⟩ := getF X7 hx hZ hown (host := "") (Or.inl (own_w hw 40)) Via.refl e7 Fv (g := (mkF m 17 #[oR this, oI (2 : Int32)] [(.ref this)])) rfl rfl (hb hby d12_17)
    refine own_via st9 ?_
    refine own_via (fun t kz => XS.iloadN X9.here hx rfl (hb hby d12_20) rfl kz) ?_
    show own_Go p e below _ (T9.setTop (mkF m 21 #[oR this, oI (2 : Int32)] [(.int (2 : Int32)), (.ref arr)]))
    obtain ⟨_, _, ⟨T10, L10, k10, n10⟩, -, X10, ⟨Lc10, hQ10, l10, y10, z10⟩, st10⟩ := Jvm.LawKit.callS X9 hx (y := (⟨"java/lang/StringUTF16", "charAt", "([BI)C"⟩ : MethodName)) hown (mvT hZ (own_w hw 116)) (mvT hZ (own_w hw 117)) (mvT hZ (own_w hw 29)) (mvT hZ (own_w hw 118)) (by decide) (backOf (W := 0) (rmY6_2 l Z a0 hw [] arr wcs wsf kb ((c0_ >>> ((0 : Int32) &&& 31)).toInt8.toInt32) ((c0_ >>> ((8 : Int32) &&& 31)).toInt8.toInt32) ((c1_ >>> ((0 : Int32) &&& 31)).toInt8.toInt32) ((c1_ >>> ((8 : Int32) &&& 31)).toInt8.toInt32) ((c2_ >>> ((0 : Int32) &&& 31)).toInt8.toInt32) ((c2_ >>> ((8 : Int32) &&& 31)).toInt8.toInt32) ((c3_ >>> ((0 : Int32) &&& 31)).toInt8.toInt32) ((c3_ >>> ((8 : Int32) &&& 31)).toInt8.toInt32) ((c4_ >>> ((0 : Int32) &&& 31)).toInt8.toInt32) ((c4_ >>> ((8 : Int32) &&& 31)).toInt8.toInt32) ((c5_ >>> ((0 : Int32) &&& 31)).toInt8.toInt32) ((c5_ >>> ((8 : Int32) &&& 31)).toInt8.toInt32) c2_ h0 n0 Z0 OLD hcs rsf B_wcs B_wsf B_wad B_whi B_wlo Va (by unfold fY6_2; exact own_utf hc2)) hZ (own_w hw 118) (own_w hw 29) (by decide) (by decide)) (g := (mkF m 21 #[oR this, oI (2 : Int32)] [(.int (2 : Int32)), (.ref arr)])) rfl (by rw [hml]; rfl) (argsL := [(.ref arr), (.int (2 : Int32))]) (rest := []) (lenOf pd_12_1 rfl) rfl (by show 2 * 0 + _ ≤ _; exact Nat.le_of_eq rfl) (hb hby d12_21) (fun _ _ => ⟨rfl, e9, (by decide : 0 + 0 ≤ _), (by decide : 0 + 0 ≤ _)⟩)
    dsimp only [Pt.U, Pt.locs, Pt.cells, Pt.slots] at X10 l10 y10 z10 st10 hQ10
    subst l10 y10 z10
    obtain ⟨rfl, Nq10, e10⟩ := hQ10
    have N11 := Fr.app N8 Nq10
    refine own_via st10 ?_
    show own_Go p e below _ (T10.setTop (mkF m 24 #[oR this, oI (2 : Int32)] [(.int c2_)]))
    obtain ⟨fs, hr, hrun, hended, hW, hsame⟩ := X10.leave (v := some (.int c2_)) (fun h => by rw [Bd.returns] at h; cases h)
    refine ⟨_, _, retOut X10 hx (i := .ireturn) Bd.returns (own_nch hc2) (Or.inl ⟨rfl, by simp, _, rfl⟩) (hb hby d12_24) hr, hrun, hended, _, _, rfl, ?_, ⟨_, rfl⟩, hW, hsame.mono (by decide) (by decide)⟩
    show QA6_2 Z this c0_ c1_ c2_ c3_ c4_ c5_ wcs wsf h0 n0 _ T10.heap _
    rw [e10]
    exact ⟨rfl, N11, rfl⟩
def fH6_3 (b3_ : Int32) : Int32 := ((b3_ &&& (255 : Int32)).toUInt32.toUInt16.toUInt32.toInt32)
theorem ef_rmH6_3 (m : MethodId) (q0 : Addr) : entryFrame m #[(.ref q0), (.int (3 : Int32))] 2 = mkF m 0 #[oR q0, oI (3 : Int32)] [] := by first | (simp [entryFrame, mkF, argsToLocals, Value.category]; done) | rfl
def QH6_3 (Z : State) (p0 : Addr) (wcs : Int32) (wsf : Value) (ka : ClassId) (b0_ : Int32) (b1_ : Int32) (b2_ : Int32) (b3_ : Int32) (b4_ : Int32) (b5_ : Int32) (r : Int32) (h0 : Heap) (n0 : Nat) (v : Option Value) (h : Heap) (L : List Loc) : Prop := v = some (.int r) ∧ Fr n0 L ∧ h = h0
set_option maxRecDepth 65536 in
set_option maxHeartbeats 40000000 in
theorem rmH6_3 (l : Launch) (Z : State) (a0 : Array Value) (hw : ∀ d ∈ tables_1, d.before a0 Z = true) (ws : List Jvm.Cond) (p0 : Addr) (wcs : Int32) (wsf : Value) (ka : ClassId) (b0_ : Int32) (b1_ : Int32) (b2_ : Int32) (b3_ : Int32) (b4_ : Int32) (b5_ : Int32) (r : Int32) (h0 : Heap) (n0 : Nat) (Z0 : n0 ≤ h0.size) (OLD : Old Z n0 h0) (hcs : ¬ (wcs = (0 : Int32))) (rsf : wsf.isRef = true) (B_wcs : Sta Z Z.heap "java/lang/String" "COMPACT_STRINGS" "Z" (.int wcs)) (B_wsf : Sta Z Z.heap "jdk/internal/util/Preconditions" "SIOOBE_FORMATTER" "Ljava/util/function/BiFunction;" wsf) (B_wad : Sta Z Z.heap "java/lang/StringUTF16" "$assertionsDisabled" "Z" (.int (1 : Int32))) (B_whi : Sta Z Z.heap "java/lang/StringUTF16" "HI_BYTE_SHIFT" "I" (.int (0 : Int32))) (B_wlo : Sta Z Z.heap "java/lang/StringUTF16" "LO_BYTE_SHIFT" "I" (.int (8 : Int32))) (V_p0 : Arv Z h0 p0 ka .byte (6 : Int32) [(.int b0_), (.int b1_), (.int b2_), (.int b3_), (.int b4_), (.int b5_)] (.int (0 : Int32))) (hr0 : (fH6_3 b3_) = r) :
    MetFree l (⟨"java/lang/StringLatin1", "charAt", "([BI)C"⟩ : MethodName) (head1 (Jvm.Cond.code (⟨"java/lang/StringLatin1", "charAt", "([BI)C"⟩ : MethodName) jdk_43_method_2_code 2 (some .char) :: ws) ({ frames := 2, cells := 0, slots := 0, locals := 27 } : Room)) (fun a U => a = #[(.ref p0), (.int (3 : Int32))] ∧ Z.Warmed39 U.vm ∧ U.heap = h0) (fun _ _ _ _ _ => True) (fun _ U o U' => ∃ v L, o = .returned v ∧ QH6_3 Z p0 wcs wsf ka b0_ b1_ b2_ b3_ b4_ b5_ r h0 n0 v U'.heap L ∧ FrameEnd U o U' L ({ frames := 2, cells := 0, slots := 0, locals := 27 } : Room).cells ({ frames := 2, cells := 0, slots := 0, locals := 27 } : Room).slots) := by
  refine MetFree.of_bodySF (plainFor_of_name pn_14) hisR ?_
  intro p e s m args below meth c s₁ Bd hml0 hP hK
  obtain ⟨rfl, hZ, hh⟩ := hP
  have hx := Bd.exec
  have hby := Bd.bytes
  have hml : c.maxLocals = 2 := hml0
  have hown : s.vm.findClass "java/lang/StringLatin1" = some m.cls := findClass_of_methodNamed Bd.named
  have hnm := (name_of_methodNamed Bd.named Bd.method).1
  have X0 : Stand p l e ({ frames := 2, cells := 0, slots := 0, locals := 27 } : Room) s m #[(.ref p0), (.int (3 : Int32))] below meth c s₁ [] 0 0 := Stand.of_body Bd
  have e0 : s₁.heap = h0 := by rw [← hh, Bd.state]; rfl
  have N0 := Fr.nil n0
  refine own_start ?_
  refine own_via (fun t k => castTop (ef_rmH6_3 m p0) k) ?_
  show own_Go p e below _ (s₁.setTop (mkF m 0 #[oR p0, oI (3 : Int32)] []))
  refine own_via (fun t kz => XS.iloadN X0.here hx rfl (hb hby d14_0) rfl kz) ?_
  refine own_via (fun t kz => XS.aloadN X0.here hx rfl (hb hby d14_1) rfl rfl kz) ?_
  show own_Go p e below _ (s₁.setTop (mkF m 2 #[oR p0, oI (3 : Int32)] [(.ref p0), (.int (3 : Int32))]))
  obtain ⟨cl1, Ar1, kc1, Sz1, Nn1, Hs1, Gs1⟩ := id V_p0
  refine own_via (fun t kz => X0.arraylength hx (by rw [e0]; exact Ar1.1) (State.isArrayOf_alike hZ.alike Ar1.2.1) (g := (mkF m 2 #[oR p0, oI (3 : Int32)] [(.ref p0), (.int (3 : Int32))])) rfl rfl (hb hby d14_2) t kz) ?_
  show own_Go p e below _ (s₁.setTop (mkF m 3 #[oR p0, oI (3 : Int32)] [(.int (cl1.slots.size.toInt32)), (.int (3 : Int32))]))
  rw [len_of Sz1 Nn1]
  show own_Go p e below _ (s₁.setTop (mkF m 3 #[oR p0, oI (3 : Int32)] [(.int (6 : Int32)), (.int (3 : Int32))]))
  obtain ⟨_, _, ⟨T2, L2, k2, n2⟩, -, X2, ⟨Lc2, hQ2, l2, y2, z2⟩, st2⟩ := Jvm.LawKit.callS X0 hx (y := (⟨"java/lang/String", "checkIndex", "(II)V"⟩ : MethodName)) hown (mvT hZ (own_w hw 80)) (mvT hZ (own_w hw 81)) (mvT hZ (own_w hw 17)) (mvT hZ (own_w hw 82)) (by decide) (backOf (W := 0) (rm15 l Z a0 hw [] (3 : Int32) (6 : Int32) wsf h0 n0 Z0 rsf (B_wsf.ext OLD.2) (by decide) (by decide)) hZ (own_w hw 82) (own_w hw 17) (by decide) (by decide)) (g := (mkF m 3 #[oR p0, oI (3 : Int32)] [(.int (6 : Int32)), (.int (3 : Int32))])) rfl (by rw [hml]; rfl) (argsL := [(.int (3 : Int32)), (.int (6 : Int32))]) (rest := []) (lenOf pd_14_0 rfl) rfl (by show 2 * 0 + _ ≤ _; exact Nat.le_of_eq rfl) (hb hby d14_3) (fun _ _ => ⟨rfl, e0, (by decide : 0 + 0 ≤ _), (by decide : 0 + 0 ≤ _)⟩)
  dsimp only [Pt.U, Pt.locs, Pt.cells, Pt.slots] at X2 l2 y2 z2 st2 hQ2
  subst l2 y2 z2
  obtain ⟨rfl, Nq2, e2⟩ := hQ2
  have N3 := Fr.app N0 Nq2
  refine own_via st2 ?_
  refine own_via (fun t kz => XS.aloadN X2.here hx rfl (hb hby d14_6) rfl rfl kz) ?_
  refine own_via (fun t kz => XS.iloadN X2.here hx rfl (hb hby d14_7) rfl kz) ?_
  show own_Go p e below _ (T2.setTop (mkF m 8 #[oR p0, oI (3 : Int32)] [(.int (3 : Int32)), (.ref p0)]))
  obtain ⟨cl4, Ar4, kc4, Sz4, Nn4, Hs4, Gs4⟩ := id V_p0
  have in4 := inb_of (j := (3 : Int32)) Sz4 ⟨by decide, by decide⟩
  have at4 : cl4.slots[((3 : Int32)).toNatClampNeg]? = some (.int b3_) := Hs4.at in4 rfl
  refine own_via (fun t kz => X2.baloadBytes hx (j := (3 : Int32)) (v := (.int b3_)) (by rw [e2]; exact Ar4.1) (State.isArrayOf_alike hZ.alike Ar4.2.1) Ar4.2.2 in4 at4 (g := (mkF m 8 #[oR p0, oI (3 : Int32)] [(.int (3 : Int32)), (.ref p0)])) rfl rfl (hb hby d14_8) t kz) ?_
  refine own_via (fun t kz => XS.sipush X2.here hx rfl (hb hby d14_9) kz) ?_
  refine own_via (fun t kz => XS.iand X2.here hx rfl (hb hby d14_12) rfl kz) ?_
  show own_Go p e below _ (T2.setTop (mkF m 13 #[oR p0, oI (3 : Int32)] [(.int (b3_ &&& (255 : Int32)))]))
  refine own_via (fun t kz => XS.i2c X2.here hx rfl (hb hby d14_13) rfl kz) ?_
  show own_Go p e below _ (T2.setTop (mkF m 14 #[oR p0, oI (3 : Int32)] [(.int ((b3_ &&& (255 : Int32)).toUInt32.toUInt16.toUInt32.toInt32))]))
  have hv : (fH6_3 b3_) = ((b3_ &&& (255 : Int32)).toUInt32.toUInt16.toUInt32.toInt32) := by unfold fH6_3; rfl
  obtain ⟨fs, hr, hrun, hended, hW, hsame⟩ := X2.leave (v := some (.int ((b3_ &&& (255 : Int32)).toUInt32.toUInt16.toUInt32.toInt32))) (fun h => by rw [Bd.returns] at h; cases h)
  refine ⟨_, _, retOut X2 hx (i := .ireturn) Bd.returns (narrow_c _) (Or.inl ⟨rfl, by simp, _, rfl⟩) (hb hby d14_14) hr, hrun, hended, _, _, rfl, ?_, ⟨_, rfl⟩, hW, hsame.mono (by decide) (by decide)⟩
  show QH6_3 Z p0 wcs wsf ka b0_ b1_ b2_ b3_ b4_ b5_ r h0 n0 _ T2.heap _
  rw [e2]
  exact ⟨by rw [← hr0, hv], N3, rfl⟩
theorem ef_rmX6_3 (m : MethodId) (q0 : Addr) : entryFrame m #[(.int (3 : Int32)), (.ref q0)] 2 = mkF m 0 #[oI (3 : Int32), oR q0] [] := by first | (simp [entryFrame, mkF, argsToLocals, Value.category]; done) | rfl
def QX6_3 (Z : State) (p1 : Addr) (kb : ClassId) (b0_ : Int32) (b1_ : Int32) (b2_ : Int32) (b3_ : Int32) (b4_ : Int32) (b5_ : Int32) (b6_ : Int32) (b7_ : Int32) (b8_ : Int32) (b9_ : Int32) (b10_ : Int32) (b11_ : Int32) (wcs : Int32) (wsf : Value) (h0 : Heap) (n0 : Nat) (v : Option Value) (h : Heap) (L : List Loc) : Prop := v = none ∧ Fr n0 L ∧ h = h0
set_option maxRecDepth 65536 in
set_option maxHeartbeats 40000000 in
theorem rmX6_3 (l : Launch) (Z : State) (a0 : Array Value) (hw : ∀ d ∈ tables_1, d.before a0 Z = true) (ws : List Jvm.Cond) (p1 : Addr) (kb : ClassId) (b0_ : Int32) (b1_ : Int32) (b2_ : Int32) (b3_ : Int32) (b4_ : Int32) (b5_ : Int32) (b6_ : Int32) (b7_ : Int32) (b8_ : Int32) (b9_ : Int32) (b10_ : Int32) (b11_ : Int32) (wcs : Int32) (wsf : Value) (h0 : Heap) (n0 : Nat) (Z0 : n0 ≤ h0.size) (VB : Arv Z h0 p1 kb .byte (12 : Int32) [(.int b0_), (.int b1_), (.int b2_), (.int b3_), (.int b4_), (.int b5_), (.int b6_), (.int b7_), (.int b8_), (.int b9_), (.int b10_), (.int b11_)] (.int (0 : Int32))) (OLD : Old Z n0 h0) (hcs : ¬ (wcs = (0 : Int32))) (rsf : wsf.isRef = true) (B_wcs : Sta Z Z.heap "java/lang/String" "COMPACT_STRINGS" "Z" (.int wcs)) (B_wsf : Sta Z Z.heap "jdk/internal/util/Preconditions" "SIOOBE_FORMATTER" "Ljava/util/function/BiFunction;" wsf) (B_wad : Sta Z Z.heap "java/lang/StringUTF16" "$assertionsDisabled" "Z" (.int (1 : Int32))) (B_whi : Sta Z Z.heap "java/lang/StringUTF16" "HI_BYTE_SHIFT" "I" (.int (0 : Int32))) (B_wlo : Sta Z Z.heap "java/lang/StringUTF16" "LO_BYTE_SHIFT" "I" (.int (8 : Int32))) :
    MetFree l (⟨"java/lang/StringUTF16", "checkIndex", "(I[B)V"⟩ : MethodName) (head1 (Jvm.Cond.code (⟨"java/lang/StringUTF16", "checkIndex", "(I[B)V"⟩ : MethodName) jdk_52_method_91_code 2 none :: ws) ({ frames := 2, cells := 0, slots := 0, locals := 27 } : Room)) (fun a U => a = #[(.int (3 : Int32)), (.ref p1)] ∧ Z.Warmed39 U.vm ∧ U.heap = h0) (fun _ _ _ _ _ => True) (fun _ U o U' => ∃ v L, o = .returned v ∧ QX6_3 Z p1 kb b0_ b1_ b2_ b3_ b4_ b5_ b6_ b7_ b8_ b9_ b10_ b11_ wcs wsf h0 n0 v U'.heap L ∧ FrameEnd U o U' L ({ frames := 2, cells := 0, slots := 0, locals := 27 } : Room).cells ({ frames := 2, cells := 0, slots := 0, locals := 27 } : Room).slots) := by
  refine MetFree.of_bodySF (plainFor_of_name pn_20) hisR ?_
  intro p e s m args below meth c s₁ Bd hml0 hP hK
  obtain ⟨rfl, hZ, hh⟩ := hP
  have hx := Bd.exec
  have hby := Bd.bytes
  have hml : c.maxLocals = 2 := hml0
  have hown : s.vm.findClass "java/lang/StringUTF16" = some m.cls := findClass_of_methodNamed Bd.named
  have hnm := (name_of_methodNamed Bd.named Bd.method).1
  have X0 : Stand p l e ({ frames := 2, cells := 0, slots := 0, locals := 27 } : Room) s m #[(.int (3 : Int32)), (.ref p1)] below meth c s₁ [] 0 0 := Stand.of_body Bd
  have e0 : s₁.heap = h0 := by rw [← hh, Bd.state]; rfl
  have N0 := Fr.nil n0
  refine own_start ?_
  refine own_via (fun t k => castTop (ef_rmX6_3 m p1) k) ?_
  show own_Go p e below _ (s₁.setTop (mkF m 0 #[oI (3 : Int32), oR p1] []))
  refine own_via (fun t kz => XS.iloadN X0.here hx rfl (hb hby d24_0) rfl kz) ?_
  refine own_via (fun t kz => XS.aloadN X0.here hx rfl (hb hby d24_1) rfl rfl kz) ?_
  show own_Go p e below _ (s₁.setTop (mkF m 2 #[oI (3 : Int32), oR p1] [(.ref p1), (.int (3 : Int32))]))
  obtain ⟨_, _, ⟨T1, L1, k1, n1⟩, -, X1, ⟨Lc1, hQ1, l1, y1, z1⟩, st1⟩ := Jvm.LawKit.callS X0 hx (y := (⟨"java/lang/StringUTF16", "length", "([B)I"⟩ : MethodName)) hown (mvT hZ (own_w hw 122)) (mvT hZ (own_w hw 123)) (mvT hZ (own_w hw 29)) (mvT hZ (own_w hw 124)) (by decide) (backOf (W := 1) (rmU6 l Z a0 hw [] p1 kb b0_ b1_ b2_ b3_ b4_ b5_ b6_ b7_ b8_ b9_ b10_ b11_ (6 : Int32) h0 n0 Z0 VB (by unfold fU6; rfl)) hZ (own_w hw 124) (own_w hw 29) (by decide) (by decide)) (g := (mkF m 2 #[oI (3 : Int32), oR p1] [(.ref p1), (.int (3 : Int32))])) rfl (by rw [hml]; rfl) (argsL := [(.ref p1)]) (rest := [(.int (3 : Int32))]) (lenOf pd_24_0 rfl) rfl (by show 2 * 0 + _ ≤ _; exact Nat.le_of_eq rfl) (hb hby d24_2) (fun _ _ => ⟨rfl, e0, (by decide : 0 + 0 ≤ _), (by decide : 0 + 0 ≤ _)⟩)
  dsimp only [Pt.U, Pt.locs, Pt.cells, Pt.slots] at X1 l1 y1 z1 st1 hQ1
  subst l1 y1 z1
  obtain ⟨rfl, Nq1, e1⟩ := hQ1
  have N2 := Fr.app N0 Nq1
  refine own_via st1 ?_
  show own_Go p e below _ (T1.setTop (mkF m 5 #[oI (3 : Int32), oR p1] [(.int (6 : Int32)), (.int (3 : Int32))]))
  obtain ⟨_, _, ⟨T3, L3, k3, n3⟩, -, X3, ⟨Lc3, hQ3, l3, y3, z3⟩, st3⟩ := Jvm.LawKit.callS X1 hx (y := (⟨"java/lang/String", "checkIndex", "(II)V"⟩ : MethodName)) hown (mvT hZ (own_w hw 125)) (mvT hZ (own_w hw 81)) (mvT hZ (own_w hw 17)) (mvT hZ (own_w hw 82)) (by decide) (backOf (W := 0) (rm15 l Z a0 hw [] (3 : Int32) (6 : Int32) wsf h0 n0 Z0 rsf (B_wsf.ext OLD.2) (by decide) (by decide)) hZ (own_w hw 82) (own_w hw 17) (by decide) (by decide)) (g := (mkF m 5 #[oI (3 : Int32), oR p1] [(.int (6 : Int32)), (.int (3 : Int32))])) rfl (by rw [hml]; rfl) (argsL := [(.int (3 : Int32)), (.int (6 : Int32))]) (rest := []) (lenOf pd_24_1 rfl) rfl (by show 2 * 0 + _ ≤ _; exact Nat.le_of_eq rfl) (hb hby d24_5) (fun _ _ => ⟨rfl, e1, (by decide : 0 + 0 ≤ _), (by decide : 0 + 0 ≤ _)⟩)
  dsimp only [Pt.U, Pt.locs, Pt.cells, Pt.slots] at X3 l3 y3 z3 st3 hQ3
  subst l3 y3 z3
  obtain ⟨rfl, Nq3, e3⟩ := hQ3
  have N4 := Fr.app N2 Nq3
  refine own_via st3 ?_
  show own_Go p e below _ (T3.setTop (mkF m 8 #[oI (3 : Int32), oR p1] []))
  obtain ⟨fs, hr, hrun, hended, hW, hsame⟩ := X3.leave (v := none) (fun _ => rfl)
  refine ⟨_, _, X3.returnOut hx Bd.returns (hb hby d24_8) hr, hrun, hended, _, _, rfl, ?_, ⟨_, rfl⟩, hW, hsame.mono (by decide) (by decide)⟩
  show QX6_3 Z p1 kb b0_ b1_ b2_ b3_ b4_ b5_ b6_ b7_ b8_ b9_ b10_ b11_ wcs wsf h0 n0 _ T3.heap _
  rw [e3]
  exact ⟨rfl, N4, rfl⟩
def fY6_3 (b6_ : Int32) (b7_ : Int32) : Int32 := ((((b6_ &&& (255 : Int32)) <<< ((0 : Int32) &&& 31)) ||| ((b7_ &&& (255 : Int32)) <<< ((8 : Int32) &&& 31))).toUInt32.toUInt16.toUInt32.toInt32)
theorem ef_rmY6_3 (m : MethodId) (q0 : Addr) : entryFrame m #[(.ref q0), (.int (3 : Int32))] 2 = mkF m 0 #[oR q0, oI (3 : Int32)] [] := by first | (simp [entryFrame, mkF, argsToLocals, Value.category]; done) | rfl
def QY6_3 (Z : State) (p0 : Addr) (wcs : Int32) (wsf : Value) (ka : ClassId) (b0_ : Int32) (b1_ : Int32) (b2_ : Int32) (b3_ : Int32) (b4_ : Int32) (b5_ : Int32) (b6_ : Int32) (b7_ : Int32) (b8_ : Int32) (b9_ : Int32) (b10_ : Int32) (b11_ : Int32) (r : Int32) (h0 : Heap) (n0 : Nat) (v : Option Value) (h : Heap) (L : List Loc) : Prop := v = some (.int r) ∧ Fr n0 L ∧ h = h0
set_option maxRecDepth 65536 in
set_option maxHeartbeats 40000000 in
theorem rmY6_3 (l : Launch) (Z : State) (a0 : Array Value) (hw : ∀ d ∈ tables_1, d.before a0 Z = true) (ws : List Jvm.Cond) (p0 : Addr) (wcs : Int32) (wsf : Value) (ka : ClassId) (b0_ : Int32) (b1_ : Int32) (b2_ : Int32) (b3_ : Int32) (b4_ : Int32) (b5_ : Int32) (b6_ : Int32) (b7_ : Int32) (b8_ : Int32) (b9_ : Int32) (b10_ : Int32) (b11_ : Int32) (r : Int32) (h0 : Heap) (n0 : Nat) (Z0 : n0 ≤ h0.size) (OLD : Old Z n0 h0) (hcs : ¬ (wcs = (0 : Int32))) (rsf : wsf.isRef = true) (B_wcs : Sta Z Z.heap "java/lang/String" "COMPACT_STRINGS" "Z" (.int wcs)) (B_wsf : Sta Z Z.heap "jdk/internal/util/Preconditions" "SIOOBE_FORMATTER" "Ljava/util/function/BiFunction;" wsf) (B_wad : Sta Z Z.heap "java/lang/StringUTF16" "$assertionsDisabled" "Z" (.int (1 : Int32))) (B_whi : Sta Z Z.heap "java/lang/StringUTF16" "HI_BYTE_SHIFT" "I" (.int (0 : Int32))) (B_wlo : Sta Z Z.heap "java/lang/StringUTF16" "LO_BYTE_SHIFT" "I" (.int (8 : Int32))) (V_p0 : Arv Z h0 p0 ka .byte (12 : Int32) [(.int b0_), (.int b1_), (.int b2_), (.int b3_), (.int b4_), (.int b5_), (.int b6_), (.int b7_), (.int b8_), (.int b9_), (.int b10_), (.int b11_)] (.int (0 : Int32))) (hr0 : (fY6_3 b6_ b7_) = r) :
    MetFree l (⟨"java/lang/StringUTF16", "charAt", "([BI)C"⟩ : MethodName) (head1 (Jvm.Cond.code (⟨"java/lang/StringUTF16", "charAt", "([BI)C"⟩ : MethodName) jdk_52_method_83_code 2 (some .char) :: ws) ({ frames := 3, cells := 0, slots := 0, locals := 40 } : Room)) (fun a U => a = #[(.ref p0), (.int (3 : Int32))] ∧ Z.Warmed39 U.vm ∧ U.heap = h0) (fun _ _ _ _ _ => True) (fun _ U o U' => ∃ v L, o = .returned v ∧ QY6_3 Z p0 wcs wsf ka b0_ b1_ b2_ b3_ b4_ b5_ b6_ b7_ b8_ b9_ b10_ b11_ r h0 n0 v U'.heap L ∧ FrameEnd U o U' L ({ frames := 3, cells := 0, slots := 0, locals := 40 } : Room).cells ({ frames := 3, cells := 0, slots := 0, locals := 40 } : Room).slots) := by
  refine MetFree.of_bodySF (plainFor_of_name pn_20) hisR ?_
  intro p e s m args below meth c s₁ Bd hml0 hP hK
  obtain ⟨rfl, hZ, hh⟩ := hP
  have hx := Bd.exec
  have hby := Bd.bytes
  have hml : c.maxLocals = 2 := hml0
  have hown : s.vm.findClass "java/lang/StringUTF16" = some m.cls := findClass_of_methodNamed Bd.named
  have hnm := (name_of_methodNamed Bd.named Bd.method).1
  have X0 : Stand p l e ({ frames := 3, cells := 0, slots := 0, locals := 40 } : Room) s m #[(.ref p0), (.int (3 : Int32))] below meth c s₁ [] 0 0 := Stand.of_body Bd
  have e0 : s₁.heap = h0 := by rw [← hh, Bd.state]; rfl
  have N0 := Fr.nil n0
  refine own_start ?_
  refine own_via (fun t k => castTop (ef_rmY6_3 m p0) k) ?_
  show own_Go p e below _ (s₁.setTop (mkF m 0 #[oR p0, oI (3 : Int32)] []))
  refine own_via (fun t kz => XS.iloadN X0.here hx rfl (hb hby d23_0) rfl kz) ?_
  refine own_via (fun t kz => XS.aloadN X0.here hx rfl (hb hby d23_1) rfl rfl kz) ?_
  show own_Go p e below _ (s₁.setTop (mkF m 2 #[oR p0, oI (3 : Int32)] [(.ref p0), (.int (3 : Int32))]))
  obtain ⟨_, _, ⟨T1, L1, k1, n1⟩, -, X1, ⟨Lc1, hQ1, l1, y1, z1⟩, st1⟩ := Jvm.LawKit.callS X0 hx (y := (⟨"java/lang/StringUTF16", "checkIndex", "(I[B)V"⟩ : MethodName)) hown (mvT hZ (own_w hw 119)) (mvT hZ (own_w hw 120)) (mvT hZ (own_w hw 29)) (mvT hZ (own_w hw 121)) (by decide) (backOf (W := 0) (rmX6_3 l Z a0 hw [] p0 ka b0_ b1_ b2_ b3_ b4_ b5_ b6_ b7_ b8_ b9_ b10_ b11_ wcs wsf h0 n0 Z0 V_p0 OLD hcs rsf B_wcs B_wsf B_wad B_whi B_wlo) hZ (own_w hw 121) (own_w hw 29) (by decide) (by decide)) (g := (mkF m 2 #[oR p0, oI (3 : Int32)] [(.ref p0), (.int (3 : Int32))])) rfl (by rw [hml]; rfl) (argsL := [(.int (3 : Int32)), (.ref p0)]) (rest := []) (lenOf pd_23_0 rfl) rfl (by show 2 * 0 + _ ≤ _; exact Nat.le_of_eq rfl) (hb hby d23_2) (fun _ _ => ⟨rfl, e0, (by decide : 0 + 0 ≤ _), (by decide : 0 + 0 ≤ _)⟩)
  dsimp only [Pt.U, Pt.locs, Pt.cells, Pt.slots] at X1 l1 y1 z1 st1 hQ1
  subst l1 y1 z1
  obtain ⟨rfl, Nq1, e1⟩ := hQ1
  have N2 := Fr.app N0 Nq1
  refine own_via st1 ?_
  refine own_via (fun t kz => XS.aloadN X1.here hx rfl (hb hby d23_5) rfl rfl kz) ?_
  refine own_via (fun t kz => XS.iloadN X1.here hx rfl (hb hby d23_6) rfl kz) ?_
  show own_Go p e below _ (T1.setTop (mkF m 7 #[oR p0, oI (3 : Int32)] [(.int (3 : Int32)), (.ref p0)]))
  obtain ⟨_, _, ⟨T3, L3, k3, n3⟩, -, X3, ⟨Lc3, hQ3, l3, y3, z3⟩, st3⟩ := Jvm.LawKit.callS X1 hx (y := (⟨"java/lang/StringUTF16", "getChar", "([BI)C"⟩ : MethodName)) hown (mvT hZ (own_w hw 113)) (mvT hZ (own_w hw 114)) (mvT hZ (own_w hw 29)) (mvT hZ (own_w hw 115)) (by decide) (backOf (W := 0) (rmG6_3 l Z a0 hw [] p0 (1 : Int32) (0 : Int32) (8 : Int32) ka b0_ b1_ b2_ b3_ b4_ b5_ b6_ b7_ b8_ b9_ b10_ b11_ ((((b6_ &&& (255 : Int32)) <<< ((0 : Int32) &&& 31)) ||| ((b7_ &&& (255 : Int32)) <<< ((8 : Int32) &&& 31))).toUInt32.toUInt16.toUInt32.toInt32) h0 n0 Z0 rfl (B_wad.ext OLD.2) (B_whi.ext OLD.2) (B_wlo.ext OLD.2) V_p0 (by unfold fG6_3; rfl)) hZ (own_w hw 115) (own_w hw 29) (by decide) (by decide)) (g := (mkF m 7 #[oR p0, oI (3 : Int32)] [(.int (3 : Int32)), (.ref p0)])) rfl (by rw [hml]; rfl) (argsL := [(.ref p0), (.int (3 : Int32))]) (rest := []) (lenOf pd_23_1 rfl) rfl (by show 2 * 0 + _ ≤ _; exact Nat.le_of_eq rfl) (hb hby d23_7) (fun _ _ => ⟨rfl, e1, (by decide : 0 + 0 ≤ _), (by decide : 0 + 0 ≤ _)⟩)
  dsimp only [Pt.U, Pt.locs, Pt.cells, Pt.slots] at X3 l3 y3 z3 st3 hQ3
  subst l3 y3 z3
  obtain ⟨rfl, Nq3, e3⟩ := hQ3
  have N4 := Fr.app N2 Nq3
  refine own_via st3 ?_
  show own_Go p e below _ (T3.setTop (mkF m 10 #[oR p0, oI (3 : Int32)] [(.int ((((b6_ &&& (255 : Int32)) <<< ((0 : Int32) &&& 31)) ||| ((b7_ &&& (255 : Int32)) <<< ((8 : Int32) &&& 31))).toUInt32.toUInt16.toUInt32.toInt32))]))
  have hv : (fY6_3 b6_ b7_) = ((((b6_ &&& (255 : Int32)) <<< ((0 : Int32) &&& 31)) ||| ((b7_ &&& (255 : Int32)) <<< ((8 : Int32) &&& 31))).toUInt32.toUInt16.toUInt32.toInt32) := by unfold fY6_3; rfl
  obtain ⟨fs, hr, hrun, hended, hW, hsame⟩ := X3.leave (v := some (.int ((((b6_ &&& (255 : Int32)) <<< ((0 : Int32) &&& 31)) ||| ((b7_ &&& (255 : Int32)) <<< ((8 : Int32) &&& 31))).toUInt32.toUInt16.toUInt32.toInt32))) (fun h => by rw [Bd.returns] at h; cases h)
  refine ⟨_, _, retOut X3 hx (i := .ireturn) Bd.returns (narrow_c _) (Or.inl ⟨rfl, by simp, _, rfl⟩) (hb hby d23_10) hr, hrun, hended, _, _, rfl, ?_, ⟨_, rfl⟩, hW, hsame.mono (by decide) (by decide)⟩
  show QY6_3 Z p0 wcs wsf ka b0_ b1_ b2_ b3_ b4_ b5_ b6_ b7_ b8_ b9_ b10_ b11_ r h0 n0 _ T3.heap _
  rw [e3]
  exact ⟨by rw [← hr0, hv], N4, rfl⟩
theorem ef_rmA6_3 (m : MethodId) (q0 : Addr) : entryFrame m #[(.ref q0), (.int (3 : Int32))] 2 = mkF m 0 #[oR q0, oI (3 : Int32)] [] := by first | (simp [entryFrame, mkF, argsToLocals, Value.category]; done) | rfl
def QA6_3 (Z : State) (this : Addr) (c0_ : Int32) (c1_ : Int32) (c2_ : Int32) (c3_ : Int32) (c4_ : Int32) (c5_ : Int32) (wcs : Int32) (wsf : Value) (h0 : Heap) (n0 : Nat) (v : Option Value) (h : Heap) (L : List Loc) : Prop := v = some (.int c3_) ∧ Fr n0 L ∧ h = h0
set_option maxRecDepth 65536 in
set_option maxHeartbeats 40000000 in
theorem rmA6_3 (l : Launch) (Z : State) (a0 : Array Value) (hw : ∀ d ∈ tables_1, d.before a0 Z = true) (ws : List Jvm.Cond) (this : Addr) (c0_ : Int32) (c1_ : Int32) (c2_ : Int32) (c3_ : Int32) (c4_ : Int32) (c5_ : Int32) (wcs : Int32) (wsf : Value) (h0 : Heap) (n0 : Nat) (Z0 : n0 ≤ h0.size) (SR : own_Str6 Z h0 n0 this c0_ c1_ c2_ c3_ c4_ c5_) (hc0 : own_ch c0_) (hc1 : own_ch c1_) (hc2 : own_ch c2_) (hc3 : own_ch c3_) (hc4 : own_ch c4_) (hc5 : own_ch c5_) (OLD : Old Z n0 h0) (hcs : ¬ (wcs = (0 : Int32))) (rsf : wsf.isRef = true) (B_wcs : Sta Z Z.heap "java/lang/String" "COMPACT_STRINGS" "Z" (.int wcs)) (B_wsf : Sta Z Z.heap "jdk/internal/util/Preconditions" "SIOOBE_FORMATTER" "Ljava/util/function/BiFunction;" wsf) (B_wad : Sta Z Z.heap "java/lang/StringUTF16" "$assertionsDisabled" "Z" (.int (1 : Int32))) (B_whi : Sta Z Z.heap "java/lang/StringUTF16" "HI_BYTE_SHIFT" "I" (.int (0 : Int32))) (B_wlo : Sta Z Z.heap "java/lang/StringUTF16" "LO_BYTE_SHIFT" "I" (.int (8 : Int32))) :
    MetFree l (⟨"java/lang/String", "charAt", "(I)C"⟩ : MethodName) (head1 (Jvm.Cond.code (⟨"java/lang/String", "charAt", "(I)C"⟩ : MethodName) jdk_42_method_56_code 2 (some .char) :: ws) ({ frames := 4, cells := 0, slots := 0, locals := 53 } : Room)) (fun a U => a = #[(.ref this), (.int (3 : Int32))] ∧ Z.Warmed39 U.vm ∧ U.heap = h0) (fun _ _ _ _ _ => True) (fun _ U o U' => ∃ v L, o = .returned v ∧ QA6_3 Z this c0_ c1_ c2_ c3_ c4_ c5_ wcs wsf h0 n0 v U'.heap L ∧ FrameEnd U o U' L ({ frames := 4, cells := 0, slots := 0, locals := 53 } : Room).cells ({ frames := 4, cells := 0, slots := 0, locals := 53 } : Room).slots) := by
  refine MetFree.of_bodySF (plainFor_of_name pn_15) hisR ?_
  intro p e s m args below meth c s₁ Bd hml0 hP hK
  obtain ⟨rfl, hZ, hh⟩ := hP
  have hx := Bd.exec
  have hby := Bd.bytes
  have hml : c.maxLocals = 2 := hml0
  have hown : s.vm.findClass "java/lang/String" = some m.cls := findClass_of_methodNamed Bd.named
  have hnm := (name_of_methodNamed Bd.named Bd.method).1
  have X0 : Stand p l e ({ frames := 4, cells := 0, slots := 0, locals := 53 } : Room) s m #[(.ref this), (.int (3 : Int32))] below meth c s₁ [] 0 0 := Stand.of_body Bd
  have e0 : s₁.heap = h0 := by rw [← hh, Bd.state]; rfl
  have N0 := Fr.nil n0
  refine own_start ?_
  refine own_via (fun t k => castTop (ef_rmA6_3 m this) k) ?_
  obtain ⟨arr, kb, ⟨ch0, ch1⟩, Eq, Fv, Rp⟩ := SR
  rcases Rp with ⟨hl, Fc, Va⟩ | ⟨Fc, Va⟩
  · show own_Go p e below _ (s₁.setTop (mkF m 0 #[oR this, oI (3 : Int32)] []))
    refine own_via (fun t kz => XS.aloadN X0.here hx rfl (hb hby d12_0) rfl rfl kz) ?_
    show own_Go p e below _ (s₁.setTop (mkF m 1 #[oR this, oI (3 : Int32)] [(.ref this)]))
    obtain ⟨cq1, kq1, qa1, qb1, qc1⟩ := isOf hZ e0 Eq
    obtain ⟨_, _, ⟨T1, L1, k1, n1⟩, -, X1, ⟨Lc1, hQ1, l1, y1, z1⟩, st1⟩ := X0.virtualBack hx (y := (⟨"java/lang/String", "isLatin1", "()Z"⟩ : MethodName)) (z := (⟨"java/lang/String", "isLatin1", "()Z"⟩ : MethodName)) hown (mvT hZ (own_w hw 71)) (mvT hZ (own_w hw 72)) (notFace_of_selects (args := #[]) (mvT hZ (own_w hw 74))) (mvT hZ (own_w hw 74)) (mvT hZ (own_w hw 73)) (by decide) (backOf (W := 0) (rm13 l Z a0 hw [] this (0 : Int32) wcs (1 : Int32) h0 n0 Z0 hcs Fc (B_wcs.ext OLD.2) (by unfold f13; rw [if_pos (by decide : (0 : Int32) = (0 : Int32))])) hZ (own_w hw 75) (own_w hw 17) (by decide) (by decide)) qa1 qc1 (g := (mkF m 1 #[oR this, oI (3 : Int32)] [(.ref this)])) rfl (by rw [hml]; rfl) (Steps.refl _) (argsL := []) (rest := []) (lenOf pd_12_0 rfl) rfl (by show 2 * 0 + _ ≤ _; exact Nat.le_of_eq rfl) (hb hby d12_1) (fun _ _ => ⟨rfl, e0, (by decide : 0 + 0 ≤ _), (by decide : 0 + 0 ≤ _)⟩)
    dsimp only [Pt.U, Pt.locs, Pt.cells, Pt.slots] at X1 l1 y1 z1 st1 hQ1
    subst l1 y1 z1
    obtain ⟨rfl, Nq1, e1⟩ := hQ1
    have N2 := Fr.app N0 Nq1
    refine own_tr st1 ?_
    show own_Go p e below _ (T1.setTop (mkF m 4 #[oR this, oI (3 : Int32)] [(.int (1 : Int32))]))
    refine own_via (fun t kz => XS.ifNo X1.here hx rfl (hb hby d12_4) rfl ((if0 _ _).trans (feq (by decide : ¬ ((1 : Int32) = (0 : Int32)))).1) kz) ?_
    refine own_via (fun t kz => XS.aloadN X1.here hx rfl (hb hby d12_7) rfl rfl kz) ?_
    show own_Go p e below _ (T1.setTop (mkF m 8 #[oR this, oI (3 : Int32)] [(.ref this)]))
    obtain ⟨T3, X3, e3, st3⟩ := getF X1 hx hZ hown (host := "") (Or.inl (own_w hw 40)) Via.refl e1 Fv (g := (mkF m 8 #[oR this, oI (3 : Int32)] [(.ref this)])) rfl rfl (hb hby d12_8)
    refine own_via st3 ?_
    refine own_via (fun t kz => XS.iloadN X3.here hx rfl (hb hby d12_11) rfl kz) ?_
    show own_Go p e below _ (T3.setTop (mkF m 12 #[oR this, oI (3 : Int32)] [(.int (3 : Int32)), (.ref arr)]))
    obtain ⟨_, _, ⟨T4, L4, k4, n4⟩, -, X4, ⟨Lc4, hQ4, l4, y4, z4⟩, st4⟩ := Jvm.LawKit.callS X3 hx (y := (⟨"java/lang/StringLatin1", "charAt", "([BI)C"⟩ : MethodName)) hown (mvT hZ (own_w hw 76)) (mvT hZ (own_w hw 77)) (mvT hZ (own_w hw 78)) (mvT hZ (own_w hw 79)) (by decide) (backOf (W := 0) (rmH6_3 l Z a0 hw [] arr wcs wsf kb (c0_.toInt8.toInt32) (c1_.toInt8.toInt32) (c2_.toInt8.toInt32) (c3_.toInt8.toInt32) (c4_.toInt8.toInt32) (c5_.toInt8.toInt32) c3_ h0 n0 Z0 OLD hcs rsf B_wcs B_wsf B_wad B_whi B_wlo Va (by unfold fH6_3; exact own_lat hc3 hl.2.2.2.1)) hZ (own_w hw 79) (own_w hw 78) (by decide) (by decide)) (g := (mkF m 12 #[oR this, oI (3 : Int32)] [(.int (3 : Int32)), (.ref arr)])) rfl (by rw [hml]; rfl) (argsL := [(.ref arr), (.int (3 : Int32))]) (rest := []) (lenOf pd_12_1 rfl) rfl (by show 2 * 0 + _ ≤ _; exact Nat.le_of_eq rfl) (hb hby d12_12) (fun _ _ => ⟨rfl, e3, (by decide : 0 + 0 ≤ _), (by decide : 0 + 0 ≤ _)⟩)
    dsimp only [Pt.U, Pt.locs, Pt.cells, Pt.slots] at X4 l4 y4 z4 st4 hQ4
    subst l4 y4 z4
    obtain ⟨rfl, Nq4, e4⟩ := hQ4
    have N5 := Fr.app N2 Nq4
    refine own_via st4 ?_
    show own_Go p e below _ (T4.setTop (mkF m 15 #[oR this, oI (3 : Int32)] [(.int c3_)]))
    obtain ⟨fs, hr, hrun, hended, hW, hsame⟩ := X4.leave (v := some (.int c3_)) (fun h => by rw [Bd.returns] at h; cases h)
    refine ⟨_, _, retOut X4 hx (i := .ireturn) Bd.returns (own_nch hc3) (Or.inl ⟨rfl, by simp, _, rfl⟩) (hb hby d12_15) hr, hrun, hended, _, _, rfl, ?_, ⟨_, rfl⟩, hW, hsame.mono (by decide) (by decide)⟩
    show QA6_3 Z this c0_ c1_ c2_ c3_ c4_ c5_ wcs wsf h0 n0 _ T4.heap _
    rw [e4]
    exact ⟨rfl, N5, rfl⟩
  · show own_Go p e below _ (s₁.setTop (mkF m 0 #[oR this, oI (3 : Int32)] []))
    refine own_via (fun t kz => XS.aloadN X0.here hx rfl (hb hby d12_0) rfl rfl kz) ?_
    show own_Go p e below _ (s₁.setTop (mkF m 1 #[oR this, oI (3 : Int32)] [(.ref this)]))
    obtain ⟨cq7, kq7, qa7, qb7, qc7⟩ := isOf hZ e0 Eq
    obtain ⟨_, _, ⟨T7, L7, k7, n7⟩, -, X7, ⟨Lc7, hQ7, l7, y7, z7⟩, st7⟩ := X0.virtualBack hx (y := (⟨"java/lang/String", "isLatin1", "()Z"⟩ : MethodName)) (z := (⟨"java/lang/String", "isLatin1", "()Z"⟩ : MethodName)) hown (mvT hZ (own_w hw 71)) (mvT hZ (own_w hw 72)) (notFace_of_selects (args := #[]) (mvT hZ (own_w hw 74))) (mvT hZ (own_w hw 74)) (mvT hZ (own_w hw 73)) (by decide) (backOf (W := 0) (rm13 l Z a0 hw [] this (1 : Int32) wcs (0 : Int32) h0 n0 Z0 hcs Fc (B_wcs.ext OLD.2) (by unfold f13; rw [if_neg (by decide : ¬ ((1 : Int32) = (0 : Int32)))])) hZ (own_w hw 75) (own_w hw 17) (by decide) (by decide)) qa7 qc7 (g := (mkF m 1 #[oR this, oI (3 : Int32)] [(.ref this)])) rfl (by rw [hml]; rfl) (Steps.refl _) (argsL := []) (rest := []) (lenOf pd_12_0 rfl) rfl (by show 2 * 0 + _ ≤ _; exact Nat.le_of_eq rfl) (hb hby d12_1) (fun _ _ => ⟨rfl, e0, (by decide : 0 + 0 ≤ _), (by decide : 0 + 0 ≤ _)⟩)
    dsimp only [Pt.U, Pt.locs, Pt.cells, Pt.slots] at X7 l7 y7 z7 st7 hQ7
    subst l7 y7 z7
    obtain ⟨rfl, Nq7, e7⟩ := hQ7
    have N8 := Fr.app N0 Nq7
    refine own_tr st7 ?_
    show own_Go p e below _ (T7.setTop (mkF m 4 #[oR this, oI (3 : Int32)] [(.int (0 : Int32))]))
    refine own_via (fun t kz => XS.ifYes X7.here hx rfl (pc0 := 4) (pc' := 16) rfl (hb hby d12_4) rfl ((if0 _ _).trans (teq (by decide : (0 : Int32) = (0 : Int32))).1) (by decide) (by decide) kz) ?_
    refine own_via (fun t kz => XS.aloadN X7.here hx rfl (hb hby d12_16) rfl rfl kz) ?_
    show own_Go p e below _ (T7.setTop (mkF m 17 #[oR this, oI (3 : Int32)] [(.ref this)]))
    obtain ⟨T9, X9, e9, st9⟩ := getF X7 hx hZ hown (host := "") (Or.inl (own_w hw 40)) Via.refl e7 Fv (g := (mkF m 17 #[oR this, oI (3 : Int32)] [(.ref this)])) rfl rfl (hb hby d12_17)
    refine own_via st9 ?_
    refine own_via (fun t kz => XS.iloadN X9.here hx rfl (hb hby d12_20) rfl kz) ?_
    show own_Go p e below _ (T9.setTop (mkF m 21 #[oR this, oI (3 : Int32)] [(.int (3 : Int32)), (.ref arr)]))
    obtain ⟨_, _, ⟨T10, L10, k10, n10⟩, -, X10, ⟨Lc10, hQ10, l10, y10, z10⟩, st10⟩ := Jvm.LawKit.callS X9 hx (y := (⟨"java/lang/StringUTF16", "charAt", "([BI)C"⟩ : MethodName)) hown (mvT hZ (own_w hw 116)) (mvT hZ (own_w hw 117)) (mvT hZ (own_w hw 29)) (mvT hZ (own_w hw 118)) (by decide) (backOf (W := 0) (rmY6_3 l Z a0 hw [] arr wcs wsf kb ((c0_ >>> ((0 : Int32) &&& 31)).toInt8.toInt32) ((c0_ >>> ((8 : Int32) &&& 31)).toInt8.toInt32) ((c1_ >>> ((0 : Int32) &&& 31)).toInt8.toInt32) ((c1_ >>> ((8 : Int32) &&& 31)).toInt8.toInt32) ((c2_ >>> ((0 : Int32) &&& 31)).toInt8.toInt32) ((c2_ >>> ((8 : Int32) &&& 31)).toInt8.toInt32) ((c3_ >>> ((0 : Int32) &&& 31)).toInt8.toInt32) ((c3_ >>> ((8 : Int32) &&& 31)).toInt8.toInt32) ((c4_ >>> ((0 : Int32) &&& 31)).toInt8.toInt32) ((c4_ >>> ((8 : Int32) &&& 31)).toInt8.toInt32) ((c5_ >>> ((0 : Int32) &&& 31)).toInt8.toInt32) ((c5_ >>> ((8 : Int32) &&& 31)).toInt8.toInt32) c3_ h0 n0 Z0 OLD hcs rsf B_wcs B_wsf B_wad B_whi B_wlo Va (by unfold fY6_3; exact own_utf hc3)) hZ (own_w hw 118) (own_w hw 29) (by decide) (by decide)) (g := (mkF m 21 #[oR this, oI (3 : Int32)] [(.int (3 : Int32)), (.ref arr)])) rfl (by rw [hml]; rfl) (argsL := [(.ref arr), (.int (3 : Int32))]) (rest := []) (lenOf pd_12_1 rfl) rfl (by show 2 * 0 + _ ≤ _; exact Nat.le_of_eq rfl) (hb hby d12_21) (fun _ _ => ⟨rfl, e9, (by decide : 0 + 0 ≤ _), (by decide : 0 + 0 ≤ _)⟩)
    dsimp only [Pt.U, Pt.locs, Pt.cells, Pt.slots] at X10 l10 y10 z10 st10 hQ10
    subst l10 y10 z10
    obtain ⟨rfl, Nq10, e10⟩ := hQ10
    have N11 := Fr.app N8 Nq10
    refine own_via st10 ?_
    show own_Go p e below _ (T10.setTop (mkF m 24 #[oR this, oI (3 : Int32)] [(.int c3_)]))
    obtain ⟨fs, hr, hrun, hended, hW, hsame⟩ := X10.leave (v := some (.int c3_)) (fun h => by rw [Bd.returns] at h; cases h)
    refine ⟨_, _, retOut X10 hx (i := .ireturn) Bd.returns (own_nch hc3) (Or.inl ⟨rfl, by simp, _, rfl⟩) (hb hby d12_24) hr, hrun, hended, _, _, rfl, ?_, ⟨_, rfl⟩, hW, hsame.mono (by decide) (by decide)⟩
    show QA6_3 Z this c0_ c1_ c2_ c3_ c4_ c5_ wcs wsf h0 n0 _ T10.heap _
    rw [e10]
    exact ⟨rfl, N11, rfl⟩
def fH6_4 (b4_ : Int32) : Int32 := ((b4_ &&& (255 : Int32)).toUInt32.toUInt16.toUInt32.toInt32)
theorem ef_rmH6_4 (m : MethodId) (q0 : Addr) : entryFrame m #[(.ref q0), (.int (4 : Int32))] 2 = mkF m 0 #[oR q0, oI (4 : Int32)] [] := by first | (simp [entryFrame, mkF, argsToLocals, Value.category]; done) | rfl
def QH6_4 (Z : State) (p0 : Addr) (wcs : Int32) (wsf : Value) (ka : ClassId) (b0_ : Int32) (b1_ : Int32) (b2_ : Int32) (b3_ : Int32) (b4_ : Int32) (b5_ : Int32) (r : Int32) (h0 : Heap) (n0 : Nat) (v : Option Value) (h : Heap) (L : List Loc) : Prop := v = some (.int r) ∧ Fr n0 L ∧ h = h0
set_option maxRecDepth 65536 in
set_option maxHeartbeats 40000000 in
theorem rmH6_4 (l : Launch) (Z : State) (a0 : Array Value) (hw : ∀ d ∈ tables_1, d.before a0 Z = true) (ws : List Jvm.Cond) (p0 : Addr) (wcs : Int32) (wsf : Value) (ka : ClassId) (b0_ : Int32) (b1_ : Int32) (b2_ : Int32) (b3_ : Int32) (b4_ : Int32) (b5_ : Int32) (r : Int32) (h0 : Heap) (n0 : Nat) (Z0 : n0 ≤ h0.size) (OLD : Old Z n0 h0) (hcs : ¬ (wcs = (0 : Int32))) (rsf : wsf.isRef = true) (B_wcs : Sta Z Z.heap "java/lang/String" "COMPACT_STRINGS" "Z" (.int wcs)) (B_wsf : Sta Z Z.heap "jdk/internal/util/Preconditions" "SIOOBE_FORMATTER" "Ljava/util/function/BiFunction;" wsf) (B_wad : Sta Z Z.heap "java/lang/StringUTF16" "$assertionsDisabled" "Z" (.int (1 : Int32))) (B_whi : Sta Z Z.heap "java/lang/StringUTF16" "HI_BYTE_SHIFT" "I" (.int (0 : Int32))) (B_wlo : Sta Z Z.heap "java/lang/StringUTF16" "LO_BYTE_SHIFT" "I" (.int (8 : Int32))) (V_p0 : Arv Z h0 p0 ka .byte (6 : Int32) [(.int b0_), (.int b1_), (.int b2_), (.int b3_), (.int b4_), (.int b5_)] (.int (0 : Int32))) (hr0 : (fH6_4 b4_) = r) :
    MetFree l (⟨"java/lang/StringLatin1", "charAt", "([BI)C"⟩ : MethodName) (head1 (Jvm.Cond.code (⟨"java/lang/StringLatin1", "charAt", "([BI)C"⟩ : MethodName) jdk_43_method_2_code 2 (some .char) :: ws) ({ frames := 2, cells := 0, slots := 0, locals := 27 } : Room)) (fun a U => a = #[(.ref p0), (.int (4 : Int32))] ∧ Z.Warmed39 U.vm ∧ U.heap = h0) (fun _ _ _ _ _ => True) (fun _ U o U' => ∃ v L, o = .returned v ∧ QH6_4 Z p0 wcs wsf ka b0_ b1_ b2_ b3_ b4_ b5_ r h0 n0 v U'.heap L ∧ FrameEnd U o U' L ({ frames := 2, cells := 0, slots := 0, locals := 27 } : Room).cells ({ frames := 2, cells := 0, slots := 0, locals := 27 } : Room).slots) := by
  refine MetFree.of_bodySF (plainFor_of_name pn_14) hisR ?_
  intro p e s m args below meth c s₁ Bd hml0 hP hK
  obtain ⟨rfl, hZ, hh⟩ := hP
  have hx := Bd.exec
  have hby := Bd.bytes
  have hml : c.maxLocals = 2 := hml0
  have hown : s.vm.findClass "java/lang/StringLatin1" = some m.cls := findClass_of_methodNamed Bd.named
  have hnm := (name_of_methodNamed Bd.named Bd.method).1
  have X0 : Stand p l e ({ frames := 2, cells := 0, slots := 0, locals := 27 } : Room) s m #[(.ref p0), (.int (4 : Int32))] below meth c s₁ [] 0 0 := Stand.of_body Bd
  have e0 : s₁.heap = h0 := by rw [← hh, Bd.state]; rfl
  have N0 := Fr.nil n0
  refine own_start ?_
  refine own_via (fun t k => castTop (ef_rmH6_4 m p0) k) ?_
  show own_Go p e below _ (s₁.setTop (mkF m 0 #[oR p0, oI (4 : Int32)] []))
  refine own_via (fun t kz => XS.iloadN X0.here hx rfl (hb hby d14_0) rfl kz) ?_
  refine own_via (fun t kz => XS.aloadN X0.here hx rfl (hb hby d14_1) rfl rfl kz) ?_
  show own_Go p e below _ (s₁.setTop (mkF m 2 #[oR p0, oI (4 : Int32)] [(.ref p0), (.int (4 : Int32))]))
  obtain ⟨cl1, Ar1, kc1, Sz1, Nn1, Hs1, Gs1⟩ := id V_p0
  refine own_via (fun t kz => X0.arraylength hx (by rw [e0]; exact Ar1.1) (State.isArrayOf_alike hZ.alike Ar1.2.1) (g := (mkF m 2 #[oR p0, oI (4 : Int32)] [(.ref p0), (.int (4 : Int32))])) rfl rfl (hb hby d14_2) t kz) ?_
  show own_Go p e below _ (s₁.setTop (mkF m 3 #[oR p0, oI (4 : Int32)] [(.int (cl1.slots.size.toInt32)), (.int (4 : Int32))]))
  rw [len_of Sz1 Nn1]
  show own_Go p e below _ (s₁.setTop (mkF m 3 #[oR p0, oI (4 : Int32)] [(.int (6 : Int32)), (.int (4 : Int32))]))
  obtain ⟨_, _, ⟨T2, L2, k2, n2⟩, -, X2, ⟨Lc2, hQ2, l2, y2, z2⟩, st2⟩ := Jvm.LawKit.callS X0 hx (y := (⟨"java/lang/String", "checkIndex", "(II)V"⟩ : MethodName)) hown (mvT hZ (own_w hw 80)) (mvT hZ (own_w hw 81)) (mvT hZ (own_w hw 17)) (mvT hZ (own_w hw 82)) (by decide) (backOf (W := 0) (rm15 l Z a0 hw [] (4 : Int32) (6 : Int32) wsf h0 n0 Z0 rsf (B_wsf.ext OLD.2) (by decide) (by decide)) hZ (own_w hw 82) (own_w hw 17) (by decide) (by decide)) (g := (mkF m 3 #[oR p0, oI (4 : Int32)] [(.int (6 : Int32)), (.int (4 : Int32))])) rfl (by rw [hml]; rfl) (argsL := [(.int (4 : Int32)), (.int (6 : Int32))]) (rest := []) (lenOf pd_14_0 rfl) rfl (by show 2 * 0 + _ ≤ _; exact Nat.le_of_eq rfl) (hb hby d14_3) (fun _ _ => ⟨rfl, e0, (by decide : 0 + 0 ≤ _), (by decide : 0 + 0 ≤ _)⟩)
  dsimp only [Pt.U, Pt.locs, Pt.cells, Pt.slots] at X2 l2 y2 z2 st2 hQ2
  subst l2 y2 z2
  obtain ⟨rfl, Nq2, e2⟩ := hQ2
  have N3 := Fr.app N0 Nq2
  refine own_via st2 ?_
  refine own_via (fun t kz => XS.aloadN X2.here hx rfl (hb hby d14_6) rfl rfl kz) ?_
  refine own_via (fun t kz => XS.iloadN X2.here hx rfl (hb hby d14_7) rfl kz) ?_
  show own_Go p e below _ (T2.setTop (mkF m 8 #[oR p0, oI (4 : Int32)] [(.int (4 : Int32)), (.ref p0)]))
  obtain ⟨cl4, Ar4, kc4, Sz4, Nn4, Hs4, Gs4⟩ := id V_p0
  have in4 := inb_of (j := (4 : Int32)) Sz4 ⟨by decide, by decide⟩
  have at4 : cl4.slots[((4 : Int32)).toNatClampNeg]? = some (.int b4_) := Hs4.at in4 rfl
  refine own_via (fun t kz => X2.baloadBytes hx (j := (4 : Int32)) (v := (.int b4_)) (by rw [e2]; exact Ar4.1) (State.isArrayOf_alike hZ.alike Ar4.2.1) Ar4.2.2 in4 at4 (g := (mkF m 8 #[oR p0, oI (4 : Int32)] [(.int (4 : Int32)), (.ref p0)])) rfl rfl (hb hby d14_8) t kz) ?_
  refine own_via (fun t kz => XS.sipush X2.here hx rfl (hb hby d14_9) kz) ?_
  refine own_via (fun t kz => XS.iand X2.here hx rfl (hb hby d14_12) rfl kz) ?_
  show own_Go p e below _ (T2.setTop (mkF m 13 #[oR p0, oI (4 : Int32)] [(.int (b4_ &&& (255 : Int32)))]))
  refine own_via (fun t kz => XS.i2c X2.here hx rfl (hb hby d14_13) rfl kz) ?_
  show own_Go p e below _ (T2.setTop (mkF m 14 #[oR p0, oI (4 : Int32)] [(.int ((b4_ &&& (255 : Int32)).toUInt32.toUInt16.toUInt32.toInt32))]))
  have hv : (fH6_4 b4_) = ((b4_ &&& (255 : Int32)).toUInt32.toUInt16.toUInt32.toInt32) := by unfold fH6_4; rfl
  obtain ⟨fs, hr, hrun, hended, hW, hsame⟩ := X2.leave (v := some (.int ((b4_ &&& (255 : Int32)).toUInt32.toUInt16.toUInt32.toInt32))) (fun h => by rw [Bd.returns] at h; cases h)
  refine ⟨_, _, retOut X2 hx (i := .ireturn) Bd.returns (narrow_c _) (Or.inl ⟨rfl, by simp, _, rfl⟩) (hb hby d14_14) hr, hrun, hended, _, _, rfl, ?_, ⟨_, rfl⟩, hW, hsame.mono (by decide) (by decide)⟩
  show QH6_4 Z p0 wcs wsf ka b0_ b1_ b2_ b3_ b4_ b5_ r h0 n0 _ T2.heap _
  rw [e2]
  exact ⟨by rw [← hr0, hv], N3, rfl⟩
theorem ef_rmX6_4 (m : MethodId) (q0 : Addr) : entryFrame m #[(.int (4 : Int32)), (.ref q0)] 2 = mkF m 0 #[oI (4 : Int32), oR q0] [] := by first | (simp [entryFrame, mkF, argsToLocals, Value.category]; done) | rfl
def QX6_4 (Z : State) (p1 : Addr) (kb : ClassId) (b0_ : Int32) (b1_ : Int32) (b2_ : Int32) (b3_ : Int32) (b4_ : Int32) (b5_ : Int32) (b6_ : Int32) (b7_ : Int32) (b8_ : Int32) (b9_ : Int32) (b10_ : Int32) (b11_ : Int32) (wcs : Int32) (wsf : Value) (h0 : Heap) (n0 : Nat) (v : Option Value) (h : Heap) (L : List Loc) : Prop := v = none ∧ Fr n0 L ∧ h = h0
set_option maxRecDepth 65536 in
set_option maxHeartbeats 40000000 in
theorem rmX6_4 (l : Launch) (Z : State) (a0 : Array Value) (hw : ∀ d ∈ tables_1, d.before a0 Z = true) (ws : List Jvm.Cond) (p1 : Addr) (kb : ClassId) (b0_ : Int32) (b1_ : Int32) (b2_ : Int32) (b3_ : Int32) (b4_ : Int32) (b5_ : Int32) (b6_ : Int32) (b7_ : Int32) (b8_ : Int32) (b9_ : Int32) (b10_ : Int32) (b11_ : Int32) (wcs : Int32) (wsf : Value) (h0 : Heap) (n0 : Nat) (Z0 : n0 ≤ h0.size) (VB : Arv Z h0 p1 kb .byte (12 : Int32) [(.int b0_), (.int b1_), (.int b2_), (.int b3_), (.int b4_), (.int b5_), (.int b6_), (.int b7_), (.int b8_), (.int b9_), (.int b10_), (.int b11_)] (.int (0 : Int32))) (OLD : Old Z n0 h0) (hcs : ¬ (wcs = (0 : Int32))) (rsf : wsf.isRef = true) (B_wcs : Sta Z Z.heap "java/lang/String" "COMPACT_STRINGS" "Z" (.int wcs)) (B_wsf : Sta Z Z.heap "jdk/internal/util/Preconditions" "SIOOBE_FORMATTER" "Ljava/util/function/BiFunction;" wsf) (B_wad : Sta Z Z.heap "java/lang/StringUTF16" "$assertionsDisabled" "Z" (.int (1 : Int32))) (B_whi : Sta Z Z.heap "java/lang/StringUTF16" "HI_BYTE_SHIFT" "I" (.int (0 : Int32))) (B_wlo : Sta Z Z.heap "java/lang/StringUTF16" "LO_BYTE_SHIFT" "I" (.int (8 : Int32))) :
    MetFree l (⟨"java/lang/StringUTF16", "checkIndex", "(I[B)V"⟩ : MethodName) (head1 (Jvm.Cond.code (⟨"java/lang/StringUTF16", "checkIndex", "(I[B)V"⟩ : MethodName) jdk_52_method_91_code 2 none :: ws) ({ frames := 2, cells := 0, slots := 0, locals := 27 } : Room)) (fun a U => a = #[(.int (4 : Int32)), (.ref p1)] ∧ Z.Warmed39 U.vm ∧ U.heap = h0) (fun _ _ _ _ _ => True) (fun _ U o U' => ∃ v L, o = .returned v ∧ QX6_4 Z p1 kb b0_ b1_ b2_ b3_ b4_ b5_ b6_ b7_ b8_ b9_ b10_ b11_ wcs wsf h0 n0 v U'.heap L ∧ FrameEnd U o U' L ({ frames := 2, cells := 0, slots := 0, locals := 27 } : Room).cells ({ frames := 2, cells := 0, slots := 0, locals := 27 } : Room).slots) := by
  refine MetFree.of_bodySF (plainFor_of_name pn_20) hisR ?_
  intro p e s m args below meth c s₁ Bd hml0 hP hK
  obtain ⟨rfl, hZ, hh⟩ := hP
  have hx := Bd.exec
  have hby := Bd.bytes
  have hml : c.maxLocals = 2 := hml0
  have hown : s.vm.findClass "java/lang/StringUTF16" = some m.cls := findClass_of_methodNamed Bd.named
  have hnm := (name_of_methodNamed Bd.named Bd.method).1
  have X0 : Stand p l e ({ frames := 2, cells := 0, slots := 0, locals := 27 } : Room) s m #[(.int (4 : Int32)), (.ref p1)] below meth c s₁ [] 0 0 := Stand.of_body Bd
  have e0 : s₁.heap = h0 := by rw [← hh, Bd.state]; rfl
  have N0 := Fr.nil n0
  refine own_start ?_
  refine own_via (fun t k => castTop (ef_rmX6_4 m p1) k) ?_
  show own_Go p e below _ (s₁.setTop (mkF m 0 #[oI (4 : Int32), oR p1] []))
  refine own_via (fun t kz => XS.iloadN X0.here hx rfl (hb hby d24_0) rfl kz) ?_
  refine own_via (fun t kz => XS.aloadN X0.here hx rfl (hb hby d24_1) rfl rfl kz) ?_
  show own_Go p e below _ (s₁.setTop (mkF m 2 #[oI (4 : Int32), oR p1] [(.ref p1), (.int (4 : Int32))]))
  obtain ⟨_, _, ⟨T1, L1, k1, n1⟩, -, X1, ⟨Lc1, hQ1, l1, y1, z1⟩, st1⟩ := Jvm.LawKit.callS X0 hx (y := (⟨"java/lang/StringUTF16", "length", "([B)I"⟩ : MethodName)) hown (mvT hZ (own_w hw 122)) (mvT hZ (own_w hw 123)) (mvT hZ (own_w hw 29)) (mvT hZ (own_w hw 124)) (by decide) (backOf (W := 1) (rmU6 l Z a0 hw [] p1 kb b0_ b1_ b2_ b3_ b4_ b5_ b6_ b7_ b8_ b9_ b10_ b11_ (6 : Int32) h0 n0 Z0 VB (by unfold fU6; rfl)) hZ (own_w hw 124) (own_w hw 29) (by decide) (by decide)) (g := (mkF m 2 #[oI (4 : Int32), oR p1] [(.ref p1), (.int (4 : Int32))])) rfl (by rw [hml]; rfl) (argsL := [(.ref p1)]) (rest := [(.int (4 : Int32))]) (lenOf pd_24_0 rfl) rfl (by show 2 * 0 + _ ≤ _; exact Nat.le_of_eq rfl) (hb hby d24_2) (fun _ _ => ⟨rfl, e0, (by decide : 0 + 0 ≤ _), (by decide : 0 + 0 ≤ _)⟩)
  dsimp only [Pt.U, Pt.locs, Pt.cells, Pt.slots] at X1 l1 y1 z1 st1 hQ1
  subst l1 y1 z1
  obtain ⟨rfl, Nq1, e1⟩ := hQ1
  have N2 := Fr.app N0 Nq1
  refine own_via st1 ?_
  show own_Go p e below _ (T1.setTop (mkF m 5 #[oI (4 : Int32), oR p1] [(.int (6 : Int32)), (.int (4 : Int32))]))
  obtain ⟨_, _, ⟨T3, L3, k3, n3⟩, -, X3, ⟨Lc3, hQ3, l3, y3, z3⟩, st3⟩ := Jvm.LawKit.callS X1 hx (y := (⟨"java/lang/String", "checkIndex", "(II)V"⟩ : MethodName)) hown (mvT hZ (own_w hw 125)) (mvT hZ (own_w hw 81)) (mvT hZ (own_w hw 17)) (mvT hZ (own_w hw 82)) (by decide) (backOf (W := 0) (rm15 l Z a0 hw [] (4 : Int32) (6 : Int32) wsf h0 n0 Z0 rsf (B_wsf.ext OLD.2) (by decide) (by decide)) hZ (own_w hw 82) (own_w hw 17) (by decide) (by decide)) (g := (mkF m 5 #[oI (4 : Int32), oR p1] [(.int (6 : Int32)), (.int (4 : Int32))])) rfl (by rw [hml]; rfl) (argsL := [(.int (4 : Int32)), (.int (6 : Int32))]) (rest := []) (lenOf pd_24_1 rfl) rfl (by show 2 * 0 + _ ≤ _; exact Nat.le_of_eq rfl) (hb hby d24_5) (fun _ _ => ⟨rfl, e1, (by decide : 0 + 0 ≤ _), (by decide : 0 + 0 ≤ _)⟩)
  dsimp only [Pt.U, Pt.locs, Pt.cells, Pt.slots] at X3 l3 y3 z3 st3 hQ3
  subst l3 y3 z3
  obtain ⟨rfl, Nq3, e3⟩ := hQ3
  have N4 := Fr.app N2 Nq3
  refine own_via st3 ?_
  show own_Go p e below _ (T3.setTop (mkF m 8 #[oI (4 : Int32), oR p1] []))
  obtain ⟨fs, hr, hrun, hended, hW, hsame⟩ := X3.leave (v := none) (fun _ => rfl)
  refine ⟨_, _, X3.returnOut hx Bd.returns (hb hby d24_8) hr, hrun, hended, _, _, rfl, ?_, ⟨_, rfl⟩, hW, hsame.mono (by decide) (by decide)⟩
  show QX6_4 Z p1 kb b0_ b1_ b2_ b3_ b4_ b5_ b6_ b7_ b8_ b9_ b10_ b11_ wcs wsf h0 n0 _ T3.heap _
  rw [e3]
  exact ⟨rfl, N4, rfl⟩
def fY6_4 (b8_ : Int32) (b9_ : Int32) : Int32 := ((((b8_ &&& (255 : Int32)) <<< ((0 : Int32) &&& 31)) ||| ((b9_ &&& (255 : Int32)) <<< ((8 : Int32) &&& 31))).toUInt32.toUInt16.toUInt32.toInt32)
theorem ef_rmY6_4 (m : MethodId) (q0 : Addr) : entryFrame m #[(.ref q0), (.int (4 : Int32))] 2 = mkF m 0 #[oR q0, oI (4 : Int32)] [] := by first | (simp [entryFrame, mkF, argsToLocals, Value.category]; done) | rfl
def QY6_4 (Z : State) (p0 : Addr) (wcs : Int32) (wsf : Value) (ka : ClassId) (b0_ : Int32) (b1_ : Int32) (b2_ : Int32) (b3_ : Int32) (b4_ : Int32) (b5_ : Int32) (b6_ : Int32) (b7_ : Int32) (b8_ : Int32) (b9_ : Int32) (b10_ : Int32) (b11_ : Int32) (r : Int32) (h0 : Heap) (n0 : Nat) (v : Option Value) (h : Heap) (L : List Loc) : Prop := v = some (.int r) ∧ Fr n0 L ∧ h = h0
set_option maxRecDepth 65536 in
set_option maxHeartbeats 40000000 in
theorem rmY6_4 (l : Launch) (Z : State) (a0 : Array Value) (hw : ∀ d ∈ tables_1, d.before a0 Z = true) (ws : List Jvm.Cond) (p0 : Addr) (wcs : Int32) (wsf : Value) (ka : ClassId) (b0_ : Int32) (b1_ : Int32) (b2_ : Int32) (b3_ : Int32) (b4_ : Int32) (b5_ : Int32) (b6_ : Int32) (b7_ : Int32) (b8_ : Int32) (b9_ : Int32) (b10_ : Int32) (b11_ : Int32) (r : Int32) (h0 : Heap) (n0 : Nat) (Z0 : n0 ≤ h0.size) (OLD : Old Z n0 h0) (hcs : ¬ (wcs = (0 : Int32))) (rsf : wsf.isRef = true) (B_wcs : Sta Z Z.heap "java/lang/String" "COMPACT_STRINGS" "Z" (.int wcs)) (B_wsf : Sta Z Z.heap "jdk/internal/util/Preconditions" "SIOOBE_FORMATTER" "Ljava/util/function/BiFunction;" wsf) (B_wad : Sta Z Z.heap "java/lang/StringUTF16" "$assertionsDisabled" "Z" (.int (1 : Int32))) (B_whi : Sta Z Z.heap "java/lang/StringUTF16" "HI_BYTE_SHIFT" "I" (.int (0 : Int32))) (B_wlo : Sta Z Z.heap "java/lang/StringUTF16" "LO_BYTE_SHIFT" "I" (.int (8 : Int32))) (V_p0 : Arv Z h0 p0 ka .byte (12 : Int32) [(.int b0_), (.int b1_), (.int b2_), (.int b3_), (.int b4_), (.int b5_), (.int b6_), (.int b7_), (.int b8_), (.int b9_), (.int b10_), (.int b11_)] (.int (0 : Int32))) (hr0 : (fY6_4 b8_ b9_) = r) :
    MetFree l (⟨"java/lang/StringUTF16", "charAt", "([BI)C"⟩ : MethodName) (head1 (Jvm.Cond.code (⟨"java/lang/StringUTF16", "charAt", "([BI)C"⟩ : MethodName) jdk_52_method_83_code 2 (some .char) :: ws) ({ frames := 3, cells := 0, slots := 0, locals := 40 } : Room)) (fun a U => a = #[(.ref p0), (.int (4 : Int32))] ∧ Z.Warmed39 U.vm ∧ U.heap = h0) (fun _ _ _ _ _ => True) (fun _ U o U' => ∃ v L, o = .returned v ∧ QY6_4 Z p0 wcs wsf ka b0_ b1_ b2_ b3_ b4_ b5_ b6_ b7_ b8_ b9_ b10_ b11_ r h0 n0 v U'.heap L ∧ FrameEnd U o U' L ({ frames := 3, cells := 0, slots := 0, locals := 40 } : Room).cells ({ frames := 3, cells := 0, slots := 0, locals := 40 } : Room).slots) := by
  refine MetFree.of_bodySF (plainFor_of_name pn_20) hisR ?_
  intro p e s m args below meth c s₁ Bd hml0 hP hK
  obtain ⟨rfl, hZ, hh⟩ := hP
  have hx := Bd.exec
  have hby := Bd.bytes
  have hml : c.maxLocals = 2 := hml0
  have hown : s.vm.findClass "java/lang/StringUTF16" = some m.cls := findClass_of_methodNamed Bd.named
  have hnm := (name_of_methodNamed Bd.named Bd.method).1
  have X0 : Stand p l e ({ frames := 3, cells := 0, slots := 0, locals := 40 } : Room) s m #[(.ref p0), (.int (4 : Int32))] below meth c s₁ [] 0 0 := Stand.of_body Bd
  have e0 : s₁.heap = h0 := by rw [← hh, Bd.state]; rfl
  have N0 := Fr.nil n0
  refine own_start ?_
  refine own_via (fun t k => castTop (ef_rmY6_4 m p0) k) ?_
  show own_Go p e below _ (s₁.setTop (mkF m 0 #[oR p0, oI (4 : Int32)] []))
  refine own_via (fun t kz => XS.iloadN X0.here hx rfl (hb hby d23_0) rfl kz) ?_
  refine own_via (fun t kz => XS.aloadN X0.here hx rfl (hb hby d23_1) rfl rfl kz) ?_
  show own_Go p e below _ (s₁.setTop (mkF m 2 #[oR p0, oI (4 : Int32)] [(.ref p0), (.int (4 : Int32))]))
  obtain ⟨_, _, ⟨T1, L1, k1, n1⟩, -, X1, ⟨Lc1, hQ1, l1, y1, z1⟩, st1⟩ := Jvm.LawKit.callS X0 hx (y := (⟨"java/lang/StringUTF16", "checkIndex", "(I[B)V"⟩ : MethodName)) hown (mvT hZ (own_w hw 119)) (mvT hZ (own_w hw 120)) (mvT hZ (own_w hw 29)) (mvT hZ (own_w hw 121)) (by decide) (backOf (W := 0) (rmX6_4 l Z a0 hw [] p0 ka b0_ b1_ b2_ b3_ b4_ b5_ b6_ b7_ b8_ b9_ b10_ b11_ wcs wsf h0 n0 Z0 V_p0 OLD hcs rsf B_wcs B_wsf B_wad B_whi B_wlo) hZ (own_w hw 121) (own_w hw 29) (by decide) (by decide)) (g := (mkF m 2 #[oR p0, oI (4 : Int32)] [(.ref p0), (.int (4 : Int32))])) rfl (by rw [hml]; rfl) (argsL := [(.int (4 : Int32)), (.ref p0)]) (rest := []) (lenOf pd_23_0 rfl) rfl (by show 2 * 0 + _ ≤ _; exact Nat.le_of_eq rfl) (hb hby d23_2) (fun _ _ => ⟨rfl, e0, (by decide : 0 + 0 ≤ _), (by decide : 0 + 0 ≤ _)⟩)
  dsimp only [Pt.U, Pt.locs, Pt.cells, Pt.slots] at X1 l1 y1 z1 st1 hQ1
  subst l1 y1 z1
  obtain ⟨rfl, Nq1, e1⟩ := hQ1
  have N2 := Fr.app N0 Nq1
  refine own_via st1 ?_
  refine own_via (fun t kz => XS.aloadN X1.here hx rfl (hb hby d23_5) rfl rfl kz) ?_
  refine own_via (fun t kz => XS.iloadN X1.here hx rfl (hb hby d23_6) rfl kz) ?_
  show own_Go p e below _ (T1.setTop (mkF m 7 #[oR p0, oI (4 : Int32)] [(.int (4 : Int32)), (.ref p0)]))
  obtain ⟨_, _, ⟨T3, L3, k3, n3⟩, -, X3, ⟨Lc3, hQ3, l3, y3, z3⟩, st3⟩ := Jvm.LawKit.callS X1 hx (y := (⟨"java/lang/StringUTF16", "getChar", "([BI)C"⟩ : MethodName)) hown (mvT hZ (own_w hw 113)) (mvT hZ (own_w hw 114)) (mvT hZ (own_w hw 29)) (mvT hZ (own_w hw 115)) (by decide) (backOf (W := 0) (rmG6_4 l Z a0 hw [] p0 (1 : Int32) (0 : Int32) (8 : Int32) ka b0_ b1_ b2_ b3_ b4_ b5_ b6_ b7_ b8_ b9_ b10_ b11_ ((((b8_ &&& (255 : Int32)) <<< ((0 : Int32) &&& 31)) ||| ((b9_ &&& (255 : Int32)) <<< ((8 : Int32) &&& 31))).toUInt32.toUInt16.toUInt32.toInt32) h0 n0 Z0 rfl (B_wad.ext OLD.2) (B_whi.ext OLD.2) (B_wlo.ext OLD.2) V_p0 (by unfold fG6_4; rfl)) hZ (own_w hw 115) (own_w hw 29) (by decide) (by decide)) (g := (mkF m 7 #[oR p0, oI (4 : Int32)] [(.int (4 : Int32)), (.ref p0)])) rfl (by rw [hml]; rfl) (argsL := [(.ref p0), (.int (4 : Int32))]) (rest := []) (lenOf pd_23_1 rfl) rfl (by show 2 * 0 + _ ≤ _; exact Nat.le_of_eq rfl) (hb hby d23_7) (fun _ _ => ⟨rfl, e1, (by decide : 0 + 0 ≤ _), (by decide : 0 + 0 ≤ _)⟩)
  dsimp only [Pt.U, Pt.locs, Pt.cells, Pt.slots] at X3 l3 y3 z3 st3 hQ3
  subst l3 y3 z3
  obtain ⟨rfl, Nq3, e3⟩ := hQ3
  have N4 := Fr.app N2 Nq3
  refine own_via st3 ?_
  show own_Go p e below _ (T3.setTop (mkF m 10 #[oR p0, oI (4 : Int32)] [(.int ((((b8_ &&& (255 : Int32)) <<< ((0 : Int32) &&& 31)) ||| ((b9_ &&& (255 : Int32)) <<< ((8 : Int32) &&& 31))).toUInt32.toUInt16.toUInt32.toInt32))]))
  have hv : (fY6_4 b8_ b9_) = ((((b8_ &&& (255 : Int32)) <<< ((0 : Int32) &&& 31)) ||| ((b9_ &&& (255 : Int32)) <<< ((8 : Int32) &&& 31))).toUInt32.toUInt16.toUInt32.toInt32) := by unfold fY6_4; rfl
  obtain ⟨fs, hr, hrun, hended, hW, hsame⟩ := X3.leave (v := some (.int ((((b8_ &&& (255 : Int32)) <<< ((0 : Int32) &&& 31)) ||| ((b9_ &&& (255 : Int32)) <<< ((8 : Int32) &&& 31))).toUInt32.toUInt16.toUInt32.toInt32))) (fun h => by rw [Bd.returns] at h; cases h)
  refine ⟨_, _, retOut X3 hx (i := .ireturn) Bd.returns (narrow_c _) (Or.inl ⟨rfl, by simp, _, rfl⟩) (hb hby d23_10) hr, hrun, hended, _, _, rfl, ?_, ⟨_, rfl⟩, hW, hsame.mono (by decide) (by decide)⟩
  show QY6_4 Z p0 wcs wsf ka b0_ b1_ b2_ b3_ b4_ b5_ b6_ b7_ b8_ b9_ b10_ b11_ r h0 n0 _ T3.heap _
  rw [e3]
  exact ⟨by rw [← hr0, hv], N4, rfl⟩
theorem ef_rmA6_4 (m : MethodId) (q0 : Addr) : entryFrame m #[(.ref q0), (.int (4 : Int32))] 2 = mkF m 0 #[oR q0, oI (4 : Int32)] [] := by first | (simp [entryFrame, mkF, argsToLocals, Value.category]; done) | rfl
def QA6_4 (Z : State) (this : Addr) (c0_ : Int32) (c1_ : Int32) (c2_ : Int32) (c3_ : Int32) (c4_ : Int32) (c5_ : Int32) (wcs : Int32) (wsf : Value) (h0 : Heap) (n0 : Nat) (v : Option Value) (h : Heap) (L : List Loc) : Prop := v = some (.int c4_) ∧ Fr n0 L ∧ h = h0
set_option maxRecDepth 65536 in
set_option maxHeartbeats 40000000 in
theorem rmA6_4 (l : Launch) (Z : State) (a0 : Array Value) (hw : ∀ d ∈ tables_1, d.before a0 Z = true) (ws : List Jvm.Cond) (this : Addr) (c0_ : Int32) (c1_ : Int32) (c2_ : Int32) (c3_ : Int32) (c4_ : Int32) (c5_ : Int32) (wcs : Int32) (wsf : Value) (h0 : Heap) (n0 : Nat) (Z0 : n0 ≤ h0.size) (SR : own_Str6 Z h0 n0 this c0_ c1_ c2_ c3_ c4_ c5_) (hc0 : own_ch c0_) (hc1 : own_ch c1_) (hc2 : own_ch c2_) (hc3 : own_ch c3_) (hc4 : own_ch c4_) (hc5 : own_ch c5_) (OLD : Old Z n0 h0) (hcs : ¬ (wcs = (0 : Int32))) (rsf : wsf.isRef = true) (B_wcs : Sta Z Z.heap "java/lang/String" "COMPACT_STRINGS" "Z" (.int wcs)) (B_wsf : Sta Z Z.heap "jdk/internal/util/Preconditions" "SIOOBE_FORMATTER" "Ljava/util/function/BiFunction;" wsf) (B_wad : Sta Z Z.heap "java/lang/StringUTF16" "$assertionsDisabled" "Z" (.int (1 : Int32))) (B_whi : Sta Z Z.heap "java/lang/StringUTF16" "HI_BYTE_SHIFT" "I" (.int (0 : Int32))) (B_wlo : Sta Z Z.heap "java/lang/StringUTF16" "LO_BYTE_SHIFT" "I" (.int (8 : Int32))) :
    MetFree l (⟨"java/lang/String", "charAt", "(I)C"⟩ : MethodName) (head1 (Jvm.Cond.code (⟨"java/lang/String", "charAt", "(I)C"⟩ : MethodName) jdk_42_method_56_code 2 (some .char) :: ws) ({ frames := 4, cells := 0, slots := 0, locals := 53 } : Room)) (fun a U => a = #[(.ref this), (.int (4 : Int32))] ∧ Z.Warmed39 U.vm ∧ U.heap = h0) (fun _ _ _ _ _ => True) (fun _ U o U' => ∃ v L, o = .returned v ∧ QA6_4 Z this c0_ c1_ c2_ c3_ c4_ c5_ wcs wsf h0 n0 v U'.heap L ∧ FrameEnd U o U' L ({ frames := 4, cells := 0, slots := 0, locals := 53 } : Room).cells ({ frames := 4, cells := 0, slots := 0, locals := 53 } : Room).slots) := by
  refine MetFree.of_bodySF (plainFor_of_name pn_15) hisR ?_
  intro p e s m args below meth c s₁ Bd hml0 hP hK
  obtain ⟨rfl, hZ, hh⟩ := hP
  have hx := Bd.exec
  have hby := Bd.bytes
  have hml : c.maxLocals = 2 := hml0
  have hown : s.vm.findClass "java/lang/String" = some m.cls := findClass_of_methodNamed Bd.named
  have hnm := (name_of_methodNamed Bd.named Bd.method).1
  have X0 : Stand p l e ({ frames := 4, cells := 0, slots := 0, locals := 53 } : Room) s m #[(.ref this), (.int (4 : Int32))] below meth c s₁ [] 0 0 := Stand.of_body Bd
  have e0 : s₁.heap = h0 := by rw [← hh, Bd.state]; rfl
  have N0 := Fr.nil n0
  refine own_start ?_
  refine own_via (fun t k => castTop (ef_rmA6_4 m this) k) ?_
  obtain ⟨arr, kb, ⟨ch0, ch1⟩, Eq, Fv, Rp⟩ := SR
  rcases Rp with ⟨hl, Fc, Va⟩ | ⟨Fc, Va⟩
  · show own_Go p e below _ (s₁.setTop (mkF m 0 #[oR this, oI (4 : Int32)] []))
    refine own_via (fun t kz => XS.aloadN X0.here hx rfl (hb hby d12_0) rfl rfl kz) ?_
    show own_Go p e below _ (s₁.setTop (mkF m 1 #[oR this, oI (4 : Int32)] [(.ref this)]))
    obtain ⟨cq1, kq1, qa1, qb1, qc1⟩ := isOf hZ e0 Eq
    obtain ⟨_, _, ⟨T1, L1, k1, n1⟩, -, X1, ⟨Lc1, hQ1, l1, y1, z1⟩, st1⟩ := X0.virtualBack hx (y := (⟨"java/lang/String", "isLatin1", "()Z"⟩ : MethodName)) (z := (⟨"java/lang/String", "isLatin1", "()Z"⟩ : MethodName)) hown (mvT hZ (own_w hw 71)) (mvT hZ (own_w hw 72)) (notFace_of_selects (args := #[]) (mvT hZ (own_w hw 74))) (mvT hZ (own_w hw 74)) (mvT hZ (own_w hw 73)) (by decide) (backOf (W := 0) (rm13 l Z a0 hw [] this (0 : Int32) wcs (1 : Int32) h0 n0 Z0 hcs Fc (B_wcs.ext OLD.2) (by unfold f13; rw [if_pos (by decide : (0 : Int32) = (0 : Int32))])) hZ (own_w hw 75) (own_w hw 17) (by decide) (by decide)) qa1 qc1 (g := (mkF m 1 #[oR this, oI (4 : Int32)] [(.ref this)])) rfl (by rw [hml]; rfl) (Steps.refl _) (argsL := []) (rest := []) (lenOf pd_12_0 rfl) rfl (by show 2 * 0 + _ ≤ _; exact Nat.le_of_eq rfl) (hb hby d12_1) (fun _ _ => ⟨rfl, e0, (by decide : 0 + 0 ≤ _), (by decide : 0 + 0 ≤ _)⟩)
    dsimp only [Pt.U, Pt.locs, Pt.cells, Pt.slots] at X1 l1 y1 z1 st1 hQ1
    subst l1 y1 z1
    obtain ⟨rfl, Nq1, e1⟩ := hQ1
    have N2 := Fr.app N0 Nq1
    refine own_tr st1 ?_
    show own_Go p e below _ (T1.setTop (mkF m 4 #[oR this, oI (4 : Int32)] [(.int (1 : Int32))]))
    refine own_via (fun t kz => XS.ifNo X1.here hx rfl (hb hby d12_4) rfl ((if0 _ _).trans (feq (by decide : ¬ ((1 : Int32) = (0 : Int32)))).1) kz) ?_
    refine own_via (fun t kz => XS.aloadN X1.here hx rfl (hb hby d12_7) rfl rfl kz) ?_
    show own_Go p e below _ (T1.setTop (mkF m 8 #[oR this, oI (4 : Int32)] [(.ref this)]))
    obtain ⟨T3, X3, e3, st3⟩ := getF X1 hx hZ hown (host := "") (Or.inl (own_w hw 40)) Via.refl e1 Fv (g := (mkF m 8 #[oR this, oI (4 : Int32)] [(.ref this)])) rfl rfl (hb hby d12_8)
    refine own_via st3 ?_
    refine own_via (fun t kz => XS.iloadN X3.here hx rfl (hb hby d12_11) rfl kz) ?_
    show own_Go p e below _ (T3.setTop (mkF m 12 #[oR this, oI (4 : Int32)] [(.int (4 : Int32)), (.ref arr)]))
    obtain ⟨_, _, ⟨T4, L4, k4, n4⟩, -, X4, ⟨Lc4, hQ4, l4, y4, z4⟩, st4⟩ := Jvm.LawKit.callS X3 hx (y := (⟨"java/lang/StringLatin1", "charAt", "([BI)C"⟩ : MethodName)) hown (mvT hZ (own_w hw 76)) (mvT hZ (own_w hw 77)) (mvT hZ (own_w hw 78)) (mvT hZ (own_w hw 79)) (by decide) (backOf (W := 0) (rmH6_4 l Z a0 hw [] arr wcs wsf kb (c0_.toInt8.toInt32) (c1_.toInt8.toInt32) (c2_.toInt8.toInt32) (c3_.toInt8.toInt32) (c4_.toInt8.toInt32) (c5_.toInt8.toInt32) c4_ h0 n0 Z0 OLD hcs rsf B_wcs B_wsf B_wad B_whi B_wlo Va (by unfold fH6_4; exact own_lat hc4 hl.2.2.2.2.1)) hZ (own_w hw 79) (own_w hw 78) (by decide) (by decide)) (g := (mkF m 12 #[oR this, oI (4 : Int32)] [(.int (4 : Int32)), (.ref arr)])) rfl (by rw [hml]; rfl) (argsL := [(.ref arr), (.int (4 : Int32))]) (rest := []) (lenOf pd_12_1 rfl) rfl (by show 2 * 0 + _ ≤ _; exact Nat.le_of_eq rfl) (hb hby d12_12) (fun _ _ => ⟨rfl, e3, (by decide : 0 + 0 ≤ _), (by decide : 0 + 0 ≤ _)⟩)
    dsimp only [Pt.U, Pt.locs, Pt.cells, Pt.slots] at X4 l4 y4 z4 st4 hQ4
    subst l4 y4 z4
    obtain ⟨rfl, Nq4, e4⟩ := hQ4
    have N5 := Fr.app N2 Nq4
    refine own_via st4 ?_
    show own_Go p e below _ (T4.setTop (mkF m 15 #[oR this, oI (4 : Int32)] [(.int c4_)]))
    obtain ⟨fs, hr, hrun, hended, hW, hsame⟩ := X4.leave (v := some (.int c4_)) (fun h => by rw [Bd.returns] at h; cases h)
    refine ⟨_, _, retOut X4 hx (i := .ireturn) Bd.returns (own_nch hc4) (Or.inl ⟨rfl, by simp, _, rfl⟩) (hb hby d12_15) hr, hrun, hended, _, _, rfl, ?_, ⟨_, rfl⟩, hW, hsame.mono (by decide) (by decide)⟩
    show QA6_4 Z this c0_ c1_ c2_ c3_ c4_ c5_ wcs wsf h0 n0 _ T4.heap _
    rw [e4]
    exact ⟨rfl, N5, rfl⟩
  · show own_Go p e below _ (s₁.setTop (mkF m 0 #[oR this, oI (4 : Int32)] []))
    refine own_via (fun t kz => XS.aloadN X0.here hx rfl (hb hby d12_0) rfl rfl kz) ?_
    show own_Go p e below _ (s₁.setTop (mkF m 1 #[oR this, oI (4 : Int32)] [(.ref this)]))
    obtain ⟨cq7, kq7, qa7, qb7, qc7⟩ := isOf hZ e0 Eq
    obtain ⟨_, _, ⟨T7, L7, k7, n7⟩, -, X7, ⟨Lc7, hQ7, l7, y7, z7⟩, st7⟩ := X0.virtualBack hx (y := (⟨"java/lang/String", "isLatin1", "()Z"⟩ : MethodName)) (z := (⟨"java/lang/String", "isLatin1", "()Z"⟩ : MethodName)) hown (mvT hZ (own_w hw 71)) (mvT hZ (own_w hw 72)) (notFace_of_selects (args := #[]) (mvT hZ (own_w hw 74))) (mvT hZ (own_w hw 74)) (mvT hZ (own_w hw 73)) (by decide) (backOf (W := 0) (rm13 l Z a0 hw [] this (1 : Int32) wcs (0 : Int32) h0 n0 Z0 hcs Fc (B_wcs.ext OLD.2) (by unfold f13; rw [if_neg (by decide : ¬ ((1 : Int32) = (0 : Int32)))])) hZ (own_w hw 75) (own_w hw 17) (by decide) (by decide)) qa7 qc7 (g := (mkF m 1 #[oR this, oI (4 : Int32)] [(.ref this)])) rfl (by rw [hml]; rfl) (Steps.refl _) (argsL := []) (rest := []) (lenOf pd_12_0 rfl) rfl (by show 2 * 0 + _ ≤ _; exact Nat.le_of_eq rfl) (hb hby d12_1) (fun _ _ => ⟨rfl, e0, (by decide : 0 + 0 ≤ _), (by decide : 0 + 0 ≤ _)⟩)
    dsimp only [Pt.U, Pt.locs, Pt.cells, Pt.slots] at X7 l7 y7 z7 st7 hQ7
    subst l7 y7 z7
    obtain ⟨rfl, Nq7, e7⟩ := hQ7
    have N8 := Fr.app N0 Nq7
    refine own_tr st7 ?_
    show own_Go p e below _ (T7.setTop (mkF m 4 #[oR this, oI (4 : Int32)] [(.int (0 : Int32))]))
    refine own_via (fun t kz => XS.ifYes X7.here hx rfl (pc0 := 4) (pc' := 16) rfl (hb hby d12_4) rfl ((if0 _ _).trans (teq (by decide : (0 : Int32) = (0 : Int32))).1) (by decide) (by decide) kz) ?_
    refine own_via (fun t kz => XS.aloadN X7.here hx rfl (hb hby d12_16) rfl rfl kz) ?_
    show own_Go p e below _ (T7.setTop (mkF m 17 #[oR this, oI (4 : Int32)] [(.ref this)]))
    obtain ⟨T9, X9, e9, st9⟩ := getF X7 hx hZ hown (host := "") (Or.inl (own_w hw 40)) Via.refl e7 Fv (g := (mkF m 17 #[oR this, oI (4 : Int32)] [(.ref this)])) rfl rfl (hb hby d12_17)
    refine own_via st9 ?_
    refine own_via (fun t kz => XS.iloadN X9.here hx rfl (hb hby d12_20) rfl kz) ?_
    show own_Go p e below _ (T9.setTop (mkF m 21 #[oR this, oI (4 : Int32)] [(.int (4 : Int32)), (.ref arr)]))
    obtain ⟨_, _, ⟨T10, L10, k10, n10⟩, -, X10, ⟨Lc10, hQ10, l10, y10, z10⟩, st10⟩ := Jvm.LawKit.callS X9 hx (y := (⟨"java/lang/StringUTF16", "charAt", "([BI)C"⟩ : MethodName)) hown (mvT hZ (own_w hw 116)) (mvT hZ (own_w hw 117)) (mvT hZ (own_w hw 29)) (mvT hZ (own_w hw 118)) (by decide) (backOf (W := 0) (rmY6_4 l Z a0 hw [] arr wcs wsf kb ((c0_ >>> ((0 : Int32) &&& 31)).toInt8.toInt32) ((c0_ >>> ((8 : Int32) &&& 31)).toInt8.toInt32) ((c1_ >>> ((0 : Int32) &&& 31)).toInt8.toInt32) ((c1_ >>> ((8 : Int32) &&& 31)).toInt8.toInt32) ((c2_ >>> ((0 : Int32) &&& 31)).toInt8.toInt32) ((c2_ >>> ((8 : Int32) &&& 31)).toInt8.toInt32) ((c3_ >>> ((0 : Int32) &&& 31)).toInt8.toInt32) ((c3_ >>> ((8 : Int32) &&& 31)).toInt8.toInt32) ((c4_ >>> ((0 : Int32) &&& 31)).toInt8.toInt32) ((c4_ >>> ((8 : Int32) &&& 31)).toInt8.toInt32) ((c5_ >>> ((0 : Int32) &&& 31)).toInt8.toInt32) ((c5_ >>> ((8 : Int32) &&& 31)).toInt8.toInt32) c4_ h0 n0 Z0 OLD hcs rsf B_wcs B_wsf B_wad B_whi B_wlo Va (by unfold fY6_4; exact own_utf hc4)) hZ (own_w hw 118) (own_w hw 29) (by decide) (by decide)) (g := (mkF m 21 #[oR this, oI (4 : Int32)] [(.int (4 : Int32)), (.ref arr)])) rfl (by rw [hml]; rfl) (argsL := [(.ref arr), (.int (4 : Int32))]) (rest := []) (lenOf pd_12_1 rfl) rfl (by show 2 * 0 + _ ≤ _; exact Nat.le_of_eq rfl) (hb hby d12_21) (fun _ _ => ⟨rfl, e9, (by decide : 0 + 0 ≤ _), (by decide : 0 + 0 ≤ _)⟩)
    dsimp only [Pt.U, Pt.locs, Pt.cells, Pt.slots] at X10 l10 y10 z10 st10 hQ10
    subst l10 y10 z10
    obtain ⟨rfl, Nq10, e10⟩ := hQ10
    have N11 := Fr.app N8 Nq10
    refine own_via st10 ?_
    show own_Go p e below _ (T10.setTop (mkF m 24 #[oR this, oI (4 : Int32)] [(.int c4_)]))
    obtain ⟨fs, hr, hrun, hended, hW, hsame⟩ := X10.leave (v := some (.int c4_)) (fun h => by rw [Bd.returns] at h; cases h)
    refine ⟨_, _, retOut X10 hx (i := .ireturn) Bd.returns (own_nch hc4) (Or.inl ⟨rfl, by simp, _, rfl⟩) (hb hby d12_24) hr, hrun, hended, _, _, rfl, ?_, ⟨_, rfl⟩, hW, hsame.mono (by decide) (by decide)⟩
    show QA6_4 Z this c0_ c1_ c2_ c3_ c4_ c5_ wcs wsf h0 n0 _ T10.heap _
    rw [e10]
    exact ⟨rfl, N11, rfl⟩
def fH6_5 (b5_ : Int32) : Int32 := ((b5_ &&& (255 : Int32)).toUInt32.toUInt16.toUInt32.toInt32)
theorem ef_rmH6_5 (m : MethodId) (q0 : Addr) : entryFrame m #[(.ref q0), (.int (5 : Int32))] 2 = mkF m 0 #[oR q0, oI (5 : Int32)] [] := by first | (simp [entryFrame, mkF, argsToLocals, Value.category]; done) | rfl
def QH6_5 (Z : State) (p0 : Addr) (wcs : Int32) (wsf : Value) (ka : ClassId) (b0_ : Int32) (b1_ : Int32) (b2_ : Int32) (b3_ : Int32) (b4_ : Int32) (b5_ : Int32) (r : Int32) (h0 : Heap) (n0 : Nat) (v : Option Value) (h : Heap) (L : List Loc) : Prop := v = some (.int r) ∧ Fr n0 L ∧ h = h0
set_option maxRecDepth 65536 in
set_option maxHeartbeats 40000000 in
theorem rmH6_5 (l : Launch) (Z : State) (a0 : Array Value) (hw : ∀ d ∈ tables_1, d.before a0 Z = true) (ws : List Jvm.Cond) (p0 : Addr) (wcs : Int32) (wsf : Value) (ka : ClassId) (b0_ : Int32) (b1_ : Int32) (b2_ : Int32) (b3_ : Int32) (b4_ : Int32) (b5_ : Int32) (r : Int32) (h0 : Heap) (n0 : Nat) (Z0 : n0 ≤ h0.size) (OLD : Old Z n0 h0) (hcs : ¬ (wcs = (0 : Int32))) (rsf : wsf.isRef = true) (B_wcs : Sta Z Z.heap "java/lang/String" "COMPACT_STRINGS" "Z" (.int wcs)) (B_wsf : Sta Z Z.heap "jdk/internal/util/Preconditions" "SIOOBE_FORMATTER" "Ljava/util/function/BiFunction;" wsf) (B_wad : Sta Z Z.heap "java/lang/StringUTF16" "$assertionsDisabled" "Z" (.int (1 : Int32))) (B_whi : Sta Z Z.heap "java/lang/StringUTF16" "HI_BYTE_SHIFT" "I" (.int (0 : Int32))) (B_wlo : Sta Z Z.heap "java/lang/StringUTF16" "LO_BYTE_SHIFT" "I" (.int (8 : Int32))) (V_p0 : Arv Z h0 p0 ka .byte (6 : Int32) [(.int b0_), (.int b1_), (.int b2_), (.int b3_), (.int b4_), (.int b5_)] (.int (0 : Int32))) (hr0 : (fH6_5 b5_) = r) :
    MetFree l (⟨"java/lang/StringLatin1", "charAt", "([BI)C"⟩ : MethodName) (head1 (Jvm.Cond.code (⟨"java/lang/StringLatin1", "charAt", "([BI)C"⟩ : MethodName) jdk_43_method_2_code 2 (some .char) :: ws) ({ frames := 2, cells := 0, slots := 0, locals := 27 } : Room)) (fun a U => a = #[(.ref p0), (.int (5 : Int32))] ∧ Z.Warmed39 U.vm ∧ U.heap = h0) (fun _ _ _ _ _ => True) (fun _ U o U' => ∃ v L, o = .returned v ∧ QH6_5 Z p0 wcs wsf ka b0_ b1_ b2_ b3_ b4_ b5_ r h0 n0 v U'.heap L ∧ FrameEnd U o U' L ({ frames := 2, cells := 0, slots := 0, locals := 27 } : Room).cells ({ frames := 2, cells := 0, slots := 0, locals := 27 } : Room).slots) := by
  refine MetFree.of_bodySF (plainFor_of_name pn_14) hisR ?_
  intro p e s m args below meth c s₁ Bd hml0 hP hK
  obtain ⟨rfl, hZ, hh⟩ := hP
  have hx := Bd.exec
  have hby := Bd.bytes
  have hml : c.maxLocals = 2 := hml0
  have hown : s.vm.findClass "java/lang/StringLatin1" = some m.cls := findClass_of_methodNamed Bd.named
  have hnm := (name_of_methodNamed Bd.named Bd.method).1
  have X0 : Stand p l e ({ frames := 2, cells := 0, slots := 0, locals := 27 } : Room) s m #[(.ref p0), (.int (5 : Int32))] below meth c s₁ [] 0 0 := Stand.of_body Bd
  have e0 : s₁.heap = h0 := by rw [← hh, Bd.state]; rfl
  have N0 := Fr.nil n0
  refine own_start ?_
  refine own_via (fun t k => castTop (ef_rmH6_5 m p0) k) ?_
  show own_Go p e below _ (s₁.setTop (mkF m 0 #[oR p0, oI (5 : Int32)] []))
  refine own_via (fun t kz => XS.iloadN X0.here hx rfl (hb hby d14_0) rfl kz) ?_
  refine own_via (fun t kz => XS.aloadN X0.here hx rfl (hb hby d14_1) rfl rfl kz) ?_
  show own_Go p e below _ (s₁.setTop (mkF m 2 #[oR p0, oI (5 : Int32)] [(.ref p0), (.int (5 : Int32))]))
  obtain ⟨cl1, Ar1, kc1, Sz1, Nn1, Hs1, Gs1⟩ := id V_p0
  refine own_via (fun t kz => X0.arraylength hx (by rw [e0]; exact Ar1.1) (State.isArrayOf_alike hZ.alike Ar1.2.1) (g := (mkF m 2 #[oR p0, oI (5 : Int32)] [(.ref p0), (.int (5 : Int32))])) rfl rfl (hb hby d14_2) t kz) ?_
  show own_Go p e below _ (s₁.setTop (mkF m 3 #[oR p0, oI (5 : Int32)] [(.int (cl1.slots.size.toInt32)), (.int (5 : Int32))]))
  rw [len_of Sz1 Nn1]
  show own_Go p e below _ (s₁.setTop (mkF m 3 #[oR p0, oI (5 : Int32)] [(.int (6 : Int32)), (.int (5 : Int32))]))
  obtain ⟨_, _, ⟨T2, L2, k2, n2⟩, -, X2, ⟨Lc2, hQ2, l2, y2, z2⟩, st2⟩ := Jvm.LawKit.callS X0 hx (y := (⟨"java/lang/String", "checkIndex", "(II)V"⟩ : MethodName)) hown (mvT hZ (own_w hw 80)) (mvT hZ (own_w hw 81)) (mvT hZ (own_w hw 17)) (mvT hZ (own_w hw 82)) (by decide) (backOf (W := 0) (rm15 l Z a0 hw [] (5 : Int32) (6 : Int32) wsf h0 n0 Z0 rsf (B_wsf.ext OLD.2) (by decide) (by decide)) hZ (own_w hw 82) (own_w hw 17) (by decide) (by decide)) (g := (mkF m 3 #[oR p0, oI (5 : Int32)] [(.int (6 : Int32)), (.int (5 : Int32))])) rfl (by rw [hml]; rfl) (argsL := [(.int (5 : Int32)), (.int (6 : Int32))]) (rest := []) (lenOf pd_14_0 rfl) rfl (by show 2 * 0 + _ ≤ _; exact Nat.le_of_eq rfl) (hb hby d14_3) (fun _ _ => ⟨rfl, e0, (by decide : 0 + 0 ≤ _), (by decide : 0 + 0 ≤ _)⟩)
  dsimp only [Pt.U, Pt.locs, Pt.cells, Pt.slots] at X2 l2 y2 z2 st2 hQ2
  subst l2 y2 z2
  obtain ⟨rfl, Nq2, e2⟩ := hQ2
  have N3 := Fr.app N0 Nq2
  refine own_via st2 ?_
  refine own_via (fun t kz => XS.aloadN X2.here hx rfl (hb hby d14_6) rfl rfl kz) ?_
  refine own_via (fun t kz => XS.iloadN X2.here hx rfl (hb hby d14_7) rfl kz) ?_
  show own_Go p e below _ (T2.setTop (mkF m 8 #[oR p0, oI (5 : Int32)] [(.int (5 : Int32)), (.ref p0)]))
  obtain ⟨cl4, Ar4, kc4, Sz4, Nn4, Hs4, Gs4⟩ := id V_p0
  have in4 := inb_of (j := (5 : Int32)) Sz4 ⟨by decide, by decide⟩
  have at4 : cl4.slots[((5 : Int32)).toNatClampNeg]? = some (.int b5_) := Hs4.at in4 rfl
  refine own_via (fun t kz => X2.baloadBytes hx (j := (5 : Int32)) (v := (.int b5_)) (by rw [e2]; exact Ar4.1) (State.isArrayOf_alike hZ.alike Ar4.2.1) Ar4.2.2 in4 at4 (g := (mkF m 8 #[oR p0, oI (5 : Int32)] [(.int (5 : Int32)), (.ref p0)])) rfl rfl (hb hby d14_8) t kz) ?_
  refine own_via (fun t kz => XS.sipush X2.here hx rfl (hb hby d14_9) kz) ?_
  refine own_via (fun t kz => XS.iand X2.here hx rfl (hb hby d14_12) rfl kz) ?_
  show own_Go p e below _ (T2.setTop (mkF m 13 #[oR p0, oI (5 : Int32)] [(.int (b5_ &&& (255 : Int32)))]))
  refine own_via (fun t kz => XS.i2c X2.here hx rfl (hb hby d14_13) rfl kz) ?_
  show own_Go p e below _ (T2.setTop (mkF m 14 #[oR p0, oI (5 : Int32)] [(.int ((b5_ &&& (255 : Int32)).toUInt32.toUInt16.toUInt32.toInt32))]))
  have hv : (fH6_5 b5_) = ((b5_ &&& (255 : Int32)).toUInt32.toUInt16.toUInt32.toInt32) := by unfold fH6_5; rfl
  obtain ⟨fs, hr, hrun, hended, hW, hsame⟩ := X2.leave (v := some (.int ((b5_ &&& (255 : Int32)).toUInt32.toUInt16.toUInt32.toInt32))) (fun h => by rw [Bd.returns] at h; cases h)
  refine ⟨_, _, retOut X2 hx (i := .ireturn) Bd.returns (narrow_c _) (Or.inl ⟨rfl, by simp, _, rfl⟩) (hb hby d14_14) hr, hrun, hended, _, _, rfl, ?_, ⟨_, rfl⟩, hW, hsame.mono (by decide) (by decide)⟩
  show QH6_5 Z p0 wcs wsf ka b0_ b1_ b2_ b3_ b4_ b5_ r h0 n0 _ T2.heap _
  rw [e2]
  exact ⟨by rw [← hr0, hv], N3, rfl⟩
theorem ef_rmX6_5 (m : MethodId) (q0 : Addr) : entryFrame m #[(.int (5 : Int32)), (.ref q0)] 2 = mkF m 0 #[oI (5 : Int32), oR q0] [] := by first | (simp [entryFrame, mkF, argsToLocals, Value.category]; done) | rfl
def QX6_5 (Z : State) (p1 : Addr) (kb : ClassId) (b0_ : Int32) (b1_ : Int32) (b2_ : Int32) (b3_ : Int32) (b4_ : Int32) (b5_ : Int32) (b6_ : Int32) (b7_ : Int32) (b8_ : Int32) (b9_ : Int32) (b10_ : Int32) (b11_ : Int32) (wcs : Int32) (wsf : Value) (h0 : Heap) (n0 : Nat) (v : Option Value) (h : Heap) (L : List Loc) : Prop := v = none ∧ Fr n0 L ∧ h = h0
set_option maxRecDepth 65536 in
set_option maxHeartbeats 40000000 in
theorem rmX6_5 (l : Launch) (Z : State) (a0 : Array Value) (hw : ∀ d ∈ tables_1, d.before a0 Z = true) (ws : List Jvm.Cond) (p1 : Addr) (kb : ClassId) (b0_ : Int32) (b1_ : Int32) (b2_ : Int32) (b3_ : Int32) (b4_ : Int32) (b5_ : Int32) (b6_ : Int32) (b7_ : Int32) (b8_ : Int32) (b9_ : Int32) (b10_ : Int32) (b11_ : Int32) (wcs : Int32) (wsf : Value) (h0 : Heap) (n0 : Nat) (Z0 : n0 ≤ h0.size) (VB : Arv Z h0 p1 kb .byte (12 : Int32) [(.int b0_), (.int b1_), (.int b2_), (.int b3_), (.int b4_), (.int b5_), (.int b6_), (.int b7_), (.int b8_), (.int b9_), (.int b10_), (.int b11_)] (.int (0 : Int32))) (OLD : Old Z n0 h0) (hcs : ¬ (wcs = (0 : Int32))) (rsf : wsf.isRef = true) (B_wcs : Sta Z Z.heap "java/lang/String" "COMPACT_STRINGS" "Z" (.int wcs)) (B_wsf : Sta Z Z.heap "jdk/internal/util/Preconditions" "SIOOBE_FORMATTER" "Ljava/util/function/BiFunction;" wsf) (B_wad : Sta Z Z.heap "java/lang/StringUTF16" "$assertionsDisabled" "Z" (.int (1 : Int32))) (B_whi : Sta Z Z.heap "java/lang/StringUTF16" "HI_BYTE_SHIFT" "I" (.int (0 : Int32))) (B_wlo : Sta Z Z.heap "java/lang/StringUTF16" "LO_BYTE_SHIFT" "I" (.int (8 : Int32))) :
    MetFree l (⟨"java/lang/StringUTF16", "checkIndex", "(I[B)V"⟩ : MethodName) (head1 (Jvm.Cond.code (⟨"java/lang/StringUTF16", "checkIndex", "(I[B)V"⟩ : MethodName) jdk_52_method_91_code 2 none :: ws) ({ frames := 2, cells := 0, slots := 0, locals := 27 } : Room)) (fun a U => a = #[(.int (5 : Int32)), (.ref p1)] ∧ Z.Warmed39 U.vm ∧ U.heap = h0) (fun _ _ _ _ _ => True) (fun _ U o U' => ∃ v L, o = .returned v ∧ QX6_5 Z p1 kb b0_ b1_ b2_ b3_ b4_ b5_ b6_ b7_ b8_ b9_ b10_ b11_ wcs wsf h0 n0 v U'.heap L ∧ FrameEnd U o U' L ({ frames := 2, cells := 0, slots := 0, locals := 27 } : Room).cells ({ frames := 2, cells := 0, slots := 0, locals := 27 } : Room).slots) := by
  refine MetFree.of_bodySF (plainFor_of_name pn_20) hisR ?_
  intro p e s m args below meth c s₁ Bd hml0 hP hK
  obtain ⟨rfl, hZ, hh⟩ := hP
  have hx := Bd.exec
  have hby := Bd.bytes
  have hml : c.maxLocals = 2 := hml0
  have hown : s.vm.findClass "java/lang/StringUTF16" = some m.cls := findClass_of_methodNamed Bd.named
  have hnm := (name_of_methodNamed Bd.named Bd.method).1
  have X0 : Stand p l e ({ frames := 2, cells := 0, slots := 0, locals := 27 } : Room) s m #[(.int (5 : Int32)), (.ref p1)] below meth c s₁ [] 0 0 := Stand.of_body Bd
  have e0 : s₁.heap = h0 := by rw [← hh, Bd.state]; rfl
  have N0 := Fr.nil n0
  refine own_start ?_
  refine own_via (fun t k => castTop (ef_rmX6_5 m p1) k) ?_
  show own_Go p e below _ (s₁.setTop (mkF m 0 #[oI (5 : Int32), oR p1] []))
  refine own_via (fun t kz => XS.iloadN X0.here hx rfl (hb hby d24_0) rfl kz) ?_
  refine own_via (fun t kz => XS.aloadN X0.here hx rfl (hb hby d24_1) rfl rfl kz) ?_
  show own_Go p e below _ (s₁.setTop (mkF m 2 #[oI (5 : Int32), oR p1] [(.ref p1), (.int (5 : Int32))]))
  obtain ⟨_, _, ⟨T1, L1, k1, n1⟩, -, X1, ⟨Lc1, hQ1, l1, y1, z1⟩, st1⟩ := Jvm.LawKit.callS X0 hx (y := (⟨"java/lang/StringUTF16", "length", "([B)I"⟩ : MethodName)) hown (mvT hZ (own_w hw 122)) (mvT hZ (own_w hw 123)) (mvT hZ (own_w hw 29)) (mvT hZ (own_w hw 124)) (by decide) (backOf (W := 1) (rmU6 l Z a0 hw [] p1 kb b0_ b1_ b2_ b3_ b4_ b5_ b6_ b7_ b8_ b9_ b10_ b11_ (6 : Int32) h0 n0 Z0 VB (by unfold fU6; rfl)) hZ (own_w hw 124) (own_w hw 29) (by decide) (by decide)) (g := (mkF m 2 #[oI (5 : Int32), oR p1] [(.ref p1), (.int (5 : Int32))])) rfl (by rw [hml]; rfl) (argsL := [(.ref p1)]) (rest := [(.int (5 : Int32))]) (lenOf pd_24_0 rfl) rfl (by show 2 * 0 + _ ≤ _; exact Nat.le_of_eq rfl) (hb hby d24_2) (fun _ _ => ⟨rfl, e0, (by decide : 0 + 0 ≤ _), (by decide : 0 + 0 ≤ _)⟩)
  dsimp only [Pt.U, Pt.locs, Pt.cells, Pt.slots] at X1 l1 y1 z1 st1 hQ1
  subst l1 y1 z1
  obtain ⟨rfl, Nq1, e1⟩ := hQ1
  have N2 := Fr.app N0 Nq1
  refine own_via st1 ?_
  show own_Go p e below _ (T1.setTop (mkF m 5 #[oI (5 : Int32), oR p1] [(.int (6 : Int32)), (.int (5 : Int32))]))
  obtain ⟨_, _, ⟨T3, L3, k3, n3⟩, -, X3, ⟨Lc3, hQ3, l3, y3, z3⟩, st3⟩ := Jvm.LawKit.callS X1 hx (y := (⟨"java/lang/String", "checkIndex", "(II)V"⟩ : MethodName)) hown (mvT hZ (own_w hw 125)) (mvT hZ (own_w hw 81)) (mvT hZ (own_w hw 17)) (mvT hZ (own_w hw 82)) (by decide) (backOf (W := 0) (rm15 l Z a0 hw [] (5 : Int32) (6 : Int32) wsf h0 n0 Z0 rsf (B_wsf.ext OLD.2) (by decide) (by decide)) hZ (own_w hw 82) (own_w hw 17) (by decide) (by decide)) (g := (mkF m 5 #[oI (5 : Int32), oR p1] [(.int (6 : Int32)), (.int (5 : Int32))])) rfl (by rw [hml]; rfl) (argsL := [(.int (5 : Int32)), (.int (6 : Int32))]) (rest := []) (lenOf pd_24_1 rfl) rfl (by show 2 * 0 + _ ≤ _; exact Nat.le_of_eq rfl) (hb hby d24_5) (fun _ _ => ⟨rfl, e1, (by decide : 0 + 0 ≤ _), (by decide : 0 + 0 ≤ _)⟩)
  dsimp only [Pt.U, Pt.locs, Pt.cells, Pt.slots] at X3 l3 y3 z3 st3 hQ3
  subst l3 y3 z3
  obtain ⟨rfl, Nq3, e3⟩ := hQ3
  have N4 := Fr.app N2 Nq3
  refine own_via st3 ?_
  show own_Go p e below _ (T3.setTop (mkF m 8 #[oI (5 : Int32), oR p1] []))
  obtain ⟨fs, hr, hrun, hended, hW, hsame⟩ := X3.leave (v := none) (fun _ => rfl)
  refine ⟨_, _, X3.returnOut hx Bd.returns (hb hby d24_8) hr, hrun, hended, _, _, rfl, ?_, ⟨_, rfl⟩, hW, hsame.mono (by decide) (by decide)⟩
  show QX6_5 Z p1 kb b0_ b1_ b2_ b3_ b4_ b5_ b6_ b7_ b8_ b9_ b10_ b11_ wcs wsf h0 n0 _ T3.heap _
  rw [e3]
  exact ⟨rfl, N4, rfl⟩
def fY6_5 (b10_ : Int32) (b11_ : Int32) : Int32 := ((((b10_ &&& (255 : Int32)) <<< ((0 : Int32) &&& 31)) ||| ((b11_ &&& (255 : Int32)) <<< ((8 : Int32) &&& 31))).toUInt32.toUInt16.toUInt32.toInt32)
theorem ef_rmY6_5 (m : MethodId) (q0 : Addr) : entryFrame m #[(.ref q0), (.int (5 : Int32))] 2 = mkF m 0 #[oR q0, oI (5 : Int32)] [] := by first | (simp [entryFrame, mkF, argsToLocals, Value.category]; done) | rfl
def QY6_5 (Z : State) (p0 : Addr) (wcs : Int32) (wsf : Value) (ka : ClassId) (b0_ : Int32) (b1_ : Int32) (b2_ : Int32) (b3_ : Int32) (b4_ : Int32) (b5_ : Int32) (b6_ : Int32) (b7_ : Int32) (b8_ : Int32) (b9_ : Int32) (b10_ : Int32) (b11_ : Int32) (r : Int32) (h0 : Heap) (n0 : Nat) (v : Option Value) (h : Heap) (L : List Loc) : Prop := v = some (.int r) ∧ Fr n0 L ∧ h = h0
set_option maxRecDepth 65536 in
set_option maxHeartbeats 40000000 in
theorem rmY6_5 (l : Launch) (Z : State) (a0 : Array Value) (hw : ∀ d ∈ tables_1, d.before a0 Z = true) (ws : List Jvm.Cond) (p0 : Addr) (wcs : Int32) (wsf : Value) (ka : ClassId) (b0_ : Int32) (b1_ : Int32) (b2_ : Int32) (b3_ : Int32) (b4_ : Int32) (b5_ : Int32) (b6_ : Int32) (b7_ : Int32) (b8_ : Int32) (b9_ : Int32) (b10_ : Int32) (b11_ : Int32) (r : Int32) (h0 : Heap) (n0 : Nat) (Z0 : n0 ≤ h0.size) (OLD : Old Z n0 h0) (hcs : ¬ (wcs = (0 : Int32))) (rsf : wsf.isRef = true) (B_wcs : Sta Z Z.heap "java/lang/String" "COMPACT_STRINGS" "Z" (.int wcs)) (B_wsf : Sta Z Z.heap "jdk/internal/util/Preconditions" "SIOOBE_FORMATTER" "Ljava/util/function/BiFunction;" wsf) (B_wad : Sta Z Z.heap "java/lang/StringUTF16" "$assertionsDisabled" "Z" (.int (1 : Int32))) (B_whi : Sta Z Z.heap "java/lang/StringUTF16" "HI_BYTE_SHIFT" "I" (.int (0 : Int32))) (B_wlo : Sta Z Z.heap "java/lang/StringUTF16" "LO_BYTE_SHIFT" "I" (.int (8 : Int32))) (V_p0 : Arv Z h0 p0 ka .byte (12 : Int32) [(.int b0_), (.int b1_), (.int b2_), (.int b3_), (.int b4_), (.int b5_), (.int b6_), (.int b7_), (.int b8_), (.int b9_), (.int b10_), (.int b11_)] (.int (0 : Int32))) (hr0 : (fY6_5 b10_ b11_) = r) :
    MetFree l (⟨"java/lang/StringUTF16", "charAt", "([BI)C"⟩ : MethodName) (head1 (Jvm.Cond.code (⟨"java/lang/StringUTF16", "charAt", "([BI)C"⟩ : MethodName) jdk_52_method_83_code 2 (some .char) :: ws) ({ frames := 3, cells := 0, slots := 0, locals := 40 } : Room)) (fun a U => a = #[(.ref p0), (.int (5 : Int32))] ∧ Z.Warmed39 U.vm ∧ U.heap = h0) (fun _ _ _ _ _ => True) (fun _ U o U' => ∃ v L, o = .returned v ∧ QY6_5 Z p0 wcs wsf ka b0_ b1_ b2_ b3_ b4_ b5_ b6_ b7_ b8_ b9_ b10_ b11_ r h0 n0 v U'.heap L ∧ FrameEnd U o U' L ({ frames := 3, cells := 0, slots := 0, locals := 40 } : Room).cells ({ frames := 3, cells := 0, slots := 0, locals := 40 } : Room).slots) := by
  refine MetFree.of_bodySF (plainFor_of_name pn_20) hisR ?_
  intro p e s m args below meth c s₁ Bd hml0 hP hK
  obtain ⟨rfl, hZ, hh⟩ := hP
  have hx := Bd.exec
  have hby := Bd.bytes
  have hml : c.maxLocals = 2 := hml0
  have hown : s.vm.findClass "java/lang/StringUTF16" = some m.cls := findClass_of_methodNamed Bd.named
  have hnm := (name_of_methodNamed Bd.named Bd.method).1
  have X0 : Stand p l e ({ frames := 3, cells := 0, slots := 0, locals := 40 } : Room) s m #[(.ref p0), (.int (5 : Int32))] below meth c s₁ [] 0 0 := Stand.of_body Bd
  have e0 : s₁.heap = h0 := by rw [← hh, Bd.state]; rfl
  have N0 := Fr.nil n0
  refine own_start ?_
  refine own_via (fun t k => castTop (ef_rmY6_5 m p0) k) ?_
  show own_Go p e below _ (s₁.setTop (mkF m 0 #[oR p0, oI (5 : Int32)] []))
  refine own_via (fun t kz => XS.iloadN X0.here hx rfl (hb hby d23_0) rfl kz) ?_
  refine own_via (fun t kz => XS.aloadN X0.here hx rfl (hb hby d23_1) rfl rfl kz) ?_
  show own_Go p e below _ (s₁.setTop (mkF m 2 #[oR p0, oI (5 : Int32)] [(.ref p0), (.int (5 : Int32))]))
  obtain ⟨_, _, ⟨T1, L1, k1, n1⟩, -, X1, ⟨Lc1, hQ1, l1, y1, z1⟩, st1⟩ := Jvm.LawKit.callS X0 hx (y := (⟨"java/lang/StringUTF16", "checkIndex", "(I[B)V"⟩ : MethodName)) hown (mvT hZ (own_w hw 119)) (mvT hZ (own_w hw 120)) (mvT hZ (own_w hw 29)) (mvT hZ (own_w hw 121)) (by decide) (backOf (W := 0) (rmX6_5 l Z a0 hw [] p0 ka b0_ b1_ b2_ b3_ b4_ b5_ b6_ b7_ b8_ b9_ b10_ b11_ wcs wsf h0 n0 Z0 V_p0 OLD hcs rsf B_wcs B_wsf B_wad B_whi B_wlo) hZ (own_w hw 121) (own_w hw 29) (by decide) (by decide)) (g := (mkF m 2 #[oR p0, oI (5 : Int32)] [(.ref p0), (.int (5 : Int32))])) rfl (by rw [hml]; rfl) (argsL := [(.int (5 : Int32)), (.ref p0)]) (rest := []) (lenOf pd_23_0 rfl) rfl (by show 2 * 0 + _ ≤ _; exact Nat.le_of_eq rfl) (hb hby d23_2) (fun _ _ => ⟨rfl, e0, (by decide : 0 + 0 ≤ _), (by decide : 0 + 0 ≤ _)⟩)
  dsimp only [Pt.U, Pt.locs, Pt.cells, Pt.slots] at X1 l1 y1 z1 st1 hQ1
  subst l1 y1 z1
  obtain ⟨rfl, Nq1, e1⟩ := hQ1
  have N2 := Fr.app N0 Nq1
  refine own_via st1 ?_
  refine own_via (fun t kz => XS.aloadN X1.here hx rfl (hb hby d23_5) rfl rfl kz) ?_
  refine own_via (fun t kz => XS.iloadN X1.here hx rfl (hb hby d23_6) rfl kz) ?_
  show own_Go p e below _ (T1.setTop (mkF m 7 #[oR p0, oI (5 : Int32)] [(.int (5 : Int32)), (.ref p0)]))
  obtain ⟨_, _, ⟨T3, L3, k3, n3⟩, -, X3, ⟨Lc3, hQ3, l3, y3, z3⟩, st3⟩ := Jvm.LawKit.callS X1 hx (y := (⟨"java/lang/StringUTF16", "getChar", "([BI)C"⟩ : MethodName)) hown (mvT hZ (own_w hw 113)) (mvT hZ (own_w hw 114)) (mvT hZ (own_w hw 29)) (mvT hZ (own_w hw 115)) (by decide) (backOf (W := 0) (rmG6_5 l Z a0 hw [] p0 (1 : Int32) (0 : Int32) (8 : Int32) ka b0_ b1_ b2_ b3_ b4_ b5_ b6_ b7_ b8_ b9_ b10_ b11_ ((((b10_ &&& (255 : Int32)) <<< ((0 : Int32) &&& 31)) ||| ((b11_ &&& (255 : Int32)) <<< ((8 : Int32) &&& 31))).toUInt32.toUInt16.toUInt32.toInt32) h0 n0 Z0 rfl (B_wad.ext OLD.2) (B_whi.ext OLD.2) (B_wlo.ext OLD.2) V_p0 (by unfold fG6_5; rfl)) hZ (own_w hw 115) (own_w hw 29) (by decide) (by decide)) (g := (mkF m 7 #[oR p0, oI (5 : Int32)] [(.int (5 : Int32)), (.ref p0)])) rfl (by rw [hml]; rfl) (argsL := [(.ref p0), (.int (5 : Int32))]) (rest := []) (lenOf pd_23_1 rfl) rfl (by show 2 * 0 + _ ≤ _; exact Nat.le_of_eq rfl) (hb hby d23_7) (fun _ _ => ⟨rfl, e1, (by decide : 0 + 0 ≤ _), (by decide : 0 + 0 ≤ _)⟩)
  dsimp only [Pt.U, Pt.locs, Pt.cells, Pt.slots] at X3 l3 y3 z3 st3 hQ3
  subst l3 y3 z3
  obtain ⟨rfl, Nq3, e3⟩ := hQ3
  have N4 := Fr.app N2 Nq3
  refine own_via st3 ?_
  show own_Go p e below _ (T3.setTop (mkF m 10 #[oR p0, oI (5 : Int32)] [(.int ((((b10_ &&& (255 : Int32)) <<< ((0 : Int32) &&& 31)) ||| ((b11_ &&& (255 : Int32)) <<< ((8 : Int32) &&& 31))).toUInt32.toUInt16.toUInt32.toInt32))]))
  have hv : (fY6_5 b10_ b11_) = ((((b10_ &&& (255 : Int32)) <<< ((0 : Int32) &&& 31)) ||| ((b11_ &&& (255 : Int32)) <<< ((8 : Int32) &&& 31))).toUInt32.toUInt16.toUInt32.toInt32) := by unfold fY6_5; rfl
  obtain ⟨fs, hr, hrun, hended, hW, hsame⟩ := X3.leave (v := some (.int ((((b10_ &&& (255 : Int32)) <<< ((0 : Int32) &&& 31)) ||| ((b11_ &&& (255 : Int32)) <<< ((8 : Int32) &&& 31))).toUInt32.toUInt16.toUInt32.toInt32))) (fun h => by rw [Bd.returns] at h; cases h)
  refine ⟨_, _, retOut X3 hx (i := .ireturn) Bd.returns (narrow_c _) (Or.inl ⟨rfl, by simp, _, rfl⟩) (hb hby d23_10) hr, hrun, hended, _, _, rfl, ?_, ⟨_, rfl⟩, hW, hsame.mono (by decide) (by decide)⟩
  show QY6_5 Z p0 wcs wsf ka b0_ b1_ b2_ b3_ b4_ b5_ b6_ b7_ b8_ b9_ b10_ b11_ r h0 n0 _ T3.heap _
  rw [e3]
  exact ⟨by rw [← hr0, hv], N4, rfl⟩
theorem ef_rmA6_5 (m : MethodId) (q0 : Addr) : entryFrame m #[(.ref q0), (.int (5 : Int32))] 2 = mkF m 0 #[oR q0, oI (5 : Int32)] [] := by first | (simp [entryFrame, mkF, argsToLocals, Value.category]; done) | rfl
def QA6_5 (Z : State) (this : Addr) (c0_ : Int32) (c1_ : Int32) (c2_ : Int32) (c3_ : Int32) (c4_ : Int32) (c5_ : Int32) (wcs : Int32) (wsf : Value) (h0 : Heap) (n0 : Nat) (v : Option Value) (h : Heap) (L : List Loc) : Prop := v = some (.int c5_) ∧ Fr n0 L ∧ h = h0
set_option maxRecDepth 65536 in
set_option maxHeartbeats 40000000 in
theorem rmA6_5 (l : Launch) (Z : State) (a0 : Array Value) (hw : ∀ d ∈ tables_1, d.before a0 Z = true) (ws : List Jvm.Cond) (this : Addr) (c0_ : Int32) (c1_ : Int32) (c2_ : Int32) (c3_ : Int32) (c4_ : Int32) (c5_ : Int32) (wcs : Int32) (wsf : Value) (h0 : Heap) (n0 : Nat) (Z0 : n0 ≤ h0.size) (SR : own_Str6 Z h0 n0 this c0_ c1_ c2_ c3_ c4_ c5_) (hc0 : own_ch c0_) (hc1 : own_ch c1_) (hc2 : own_ch c2_) (hc3 : own_ch c3_) (hc4 : own_ch c4_) (hc5 : own_ch c5_) (OLD : Old Z n0 h0) (hcs : ¬ (wcs = (0 : Int32))) (rsf : wsf.isRef = true) (B_wcs : Sta Z Z.heap "java/lang/String" "COMPACT_STRINGS" "Z" (.int wcs)) (B_wsf : Sta Z Z.heap "jdk/internal/util/Preconditions" "SIOOBE_FORMATTER" "Ljava/util/function/BiFunction;" wsf) (B_wad : Sta Z Z.heap "java/lang/StringUTF16" "$assertionsDisabled" "Z" (.int (1 : Int32))) (B_whi : Sta Z Z.heap "java/lang/StringUTF16" "HI_BYTE_SHIFT" "I" (.int (0 : Int32))) (B_wlo : Sta Z Z.heap "java/lang/StringUTF16" "LO_BYTE_SHIFT" "I" (.int (8 : Int32))) :
    MetFree l (⟨"java/lang/String", "charAt", "(I)C"⟩ : MethodName) (head1 (Jvm.Cond.code (⟨"java/lang/String", "charAt", "(I)C"⟩ : MethodName) jdk_42_method_56_code 2 (some .char) :: ws) ({ frames := 4, cells := 0, slots := 0, locals := 53 } : Room)) (fun a U => a = #[(.ref this), (.int (5 : Int32))] ∧ Z.Warmed39 U.vm ∧ U.heap = h0) (fun _ _ _ _ _ => True) (fun _ U o U' => ∃ v L, o = .returned v ∧ QA6_5 Z this c0_ c1_ c2_ c3_ c4_ c5_ wcs wsf h0 n0 v U'.heap L ∧ FrameEnd U o U' L ({ frames := 4, cells := 0, slots := 0, locals := 53 } : Room).cells ({ frames := 4, cells := 0, slots := 0, locals := 53 } : Room).slots) := by
  refine MetFree.of_bodySF (plainFor_of_name pn_15) hisR ?_
  intro p e s m args below meth c s₁ Bd hml0 hP hK
  obtain ⟨rfl, hZ, hh⟩ := hP
  have hx := Bd.exec
  have hby := Bd.bytes
  have hml : c.maxLocals = 2 := hml0
  have hown : s.vm.findClass "java/lang/String" = some m.cls := findClass_of_methodNamed Bd.named
  have hnm := (name_of_methodNamed Bd.named Bd.method).1
  have X0 : Stand p l e ({ frames := 4, cells := 0, slots := 0, locals := 53 } : Room) s m #[(.ref this), (.int (5 : Int32))] below meth c s₁ [] 0 0 := Stand.of_body Bd
  have e0 : s₁.heap = h0 := by rw [← hh, Bd.state]; rfl
  have N0 := Fr.nil n0
  refine own_start ?_
  refine own_via (fun t k => castTop (ef_rmA6_5 m this) k) ?_
  obtain ⟨arr, kb, ⟨ch0, ch1⟩, Eq, Fv, Rp⟩ := SR
  rcases Rp with ⟨hl, Fc, Va⟩ | ⟨Fc, Va⟩
  · show own_Go p e below _ (s₁.setTop (mkF m 0 #[oR this, oI (5 : Int32)] []))
    refine own_via (fun t kz => XS.aloadN X0.here hx rfl (hb hby d12_0) rfl rfl kz) ?_
    show own_Go p e below _ (s₁.setTop (mkF m 1 #[oR this, oI (5 : Int32)] [(.ref this)]))
    obtain ⟨cq1, kq1, qa1, qb1, qc1⟩ := isOf hZ e0 Eq
    obtain ⟨_, _, ⟨T1, L1, k1, n1⟩, -, X1, ⟨Lc1, hQ1, l1, y1, z1⟩, st1⟩ := X0.virtualBack hx (y := (⟨"java/lang/String", "isLatin1", "()Z"⟩ : MethodName)) (z := (⟨"java/lang/String", "isLatin1", "()Z"⟩ : MethodName)) hown (mvT hZ (own_w hw 71)) (mvT hZ (own_w hw 72)) (notFace_of_selects (args := #[]) (mvT hZ (own_w hw 74))) (mvT hZ (own_w hw 74)) (mvT hZ (own_w hw 73)) (by decide) (backOf (W := 0) (rm13 l Z a0 hw [] this (0 : Int32) wcs (1 : Int32) h0 n0 Z0 hcs Fc (B_wcs.ext OLD.2) (by unfold f13; rw [if_pos (by decide : (0 : Int32) = (0 : Int32))])) hZ (own_w hw 75) (own_w hw 17) (by decide) (by decide)) qa1 qc1 (g := (mkF m 1 #[oR this, oI (5 : Int32)] [(.ref this)])) rfl (by rw [hml]; rfl) (Steps.refl _) (argsL := []) (rest := []) (lenOf pd_12_0 rfl) rfl (by show 2 * 0 + _ ≤ _; exact Nat.le_of_eq rfl) (hb hby d12_1) (fun _ _ => ⟨rfl, e0, (by decide : 0 + 0 ≤ _), (by decide : 0 + 0 ≤ _)⟩)
    dsimp only [Pt.U, Pt.locs, Pt.cells, Pt.slots] at X1 l1 y1 z1 st1 hQ1
    subst l1 y1 z1
    obtain ⟨rfl, Nq1, e1⟩ := hQ1
    have N2 := Fr.app N0 Nq1
    refine own_tr st1 ?_
    show own_Go p e below _ (T1.setTop (mkF m 4 #[oR this, oI (5 : Int32)] [(.int (1 : Int32))]))
    refine own_via (fun t kz => XS.ifNo X1.here hx rfl (hb hby d12_4) rfl ((if0 _ _).trans (feq (by decide : ¬ ((1 : Int32) = (0 : Int32)))).1) kz) ?_
    refine own_via (fun t kz => XS.aloadN X1.here hx rfl (hb hby d12_7) rfl rfl kz) ?_
    show own_Go p e below _ (T1.setTop (mkF m 8 #[oR this, oI (5 : Int32)] [(.ref this)]))
    obtain ⟨T3, X3, e3, st3⟩ := getF X1 hx hZ hown (host := "") (Or.inl (own_w hw 40)) Via.refl e1 Fv (g := (mkF m 8 #[oR this, oI (5 : Int32)] [(.ref this)])) rfl rfl (hb hby d12_8)
    refine own_via st3 ?_
    refine own_via (fun t kz => XS.iloadN X3.here hx rfl (hb hby d12_11) rfl kz) ?_
    show own_Go p e below _ (T3.setTop (mkF m 12 #[oR this, oI (5 : Int32)] [(.int (5 : Int32)), (.ref arr)]))
    obtain ⟨_, _, ⟨T4, L4, k4, n4⟩, -, X4, ⟨Lc4, hQ4, l4, y4, z4⟩, st4⟩ := Jvm.LawKit.callS X3 hx (y := (⟨"java/lang/StringLatin1", "charAt", "([BI)C"⟩ : MethodName)) hown (mvT hZ (own_w hw 76)) (mvT hZ (own_w hw 77)) (mvT hZ (own_w hw 78)) (mvT hZ (own_w hw 79)) (by decide) (backOf (W := 0) (rmH6_5 l Z a0 hw [] arr wcs wsf kb (c0_.toInt8.toInt32) (c1_.toInt8.toInt32) (c2_.toInt8.toInt32) (c3_.toInt8.toInt32) (c4_.toInt8.toInt32) (c5_.toInt8.toInt32) c5_ h0 n0 Z0 OLD hcs rsf B_wcs B_wsf B_wad B_whi B_wlo Va (by unfold fH6_5; exact own_lat hc5 hl.2.2.2.2.2)) hZ (own_w hw 79) (own_w hw 78) (by decide) (by decide)) (g := (mkF m 12 #[oR this, oI (5 : Int32)] [(.int (5 : Int32)), (.ref arr)])) rfl (by rw [hml]; rfl) (argsL := [(.ref arr), (.int (5 : Int32))]) (rest := []) (lenOf pd_12_1 rfl) rfl (by show 2 * 0 + _ ≤ _; exact Nat.le_of_eq rfl) (hb hby d12_12) (fun _ _ => ⟨rfl, e3, (by decide : 0 + 0 ≤ _), (by decide : 0 + 0 ≤ _)⟩)
    dsimp only [Pt.U, Pt.locs, Pt.cells, Pt.slots] at X4 l4 y4 z4 st4 hQ4
    subst l4 y4 z4
    obtain ⟨rfl, Nq4, e4⟩ := hQ4
    have N5 := Fr.app N2 Nq4
    refine own_via st4 ?_
    show own_Go p e below _ (T4.setTop (mkF m 15 #[oR this, oI (5 : Int32)] [(.int c5_)]))
    obtain ⟨fs, hr, hrun, hended, hW, hsame⟩ := X4.leave (v := some (.int c5_)) (fun h => by rw [Bd.returns] at h; cases h)
    refine ⟨_, _, retOut X4 hx (i := .ireturn) Bd.returns (own_nch hc5) (Or.inl ⟨rfl, by simp, _, rfl⟩) (hb hby d12_15) hr, hrun, hended, _, _, rfl, ?_, ⟨_, rfl⟩, hW, hsame.mono (by decide) (by decide)⟩
    show QA6_5 Z this c0_ c1_ c2_ c3_ c4_ c5_ wcs wsf h0 n0 _ T4.heap _
    rw [e4]
    exact ⟨rfl, N5, rfl⟩
  · show own_Go p e below _ (s₁.setTop (mkF m 0 #[oR this, oI (5 : Int32)] []))
    refine own_via (fun t kz => XS.aloadN X0.here hx rfl (hb hby d12_0) rfl rfl kz) ?_
    show own_Go p e below _ (s₁.setTop (mkF m 1 #[oR this, oI (5 : Int32)] [(.ref this)]))
    obtain ⟨cq7, kq7, qa7, qb7, qc7⟩ := isOf hZ e0 Eq
    obtain ⟨_, _, ⟨T7, L7, k7, n7⟩, -, X7, ⟨Lc7, hQ7, l7, y7, z7⟩, st7⟩ := X0.virtualBack hx (y := (⟨"java/lang/String", "isLatin1", "()Z"⟩ : MethodName)) (z := (⟨"java/lang/String", "isLatin1", "()Z"⟩ : MethodName)) hown (mvT hZ (own_w hw 71)) (mvT hZ (own_w hw 72)) (notFace_of_selects (args := #[]) (mvT hZ (own_w hw 74))) (mvT hZ (own_w hw 74)) (mvT hZ (own_w hw 73)) (by decide) (backOf (W := 0) (rm13 l Z a0 hw [] this (1 : Int32) wcs (0 : Int32) h0 n0 Z0 hcs Fc (B_wcs.ext OLD.2) (by unfold f13; rw [if_neg (by decide : ¬ ((1 : Int32) = (0 : Int32)))])) hZ (own_w hw 75) (own_w hw 17) (by decide) (by decide)) qa7 qc7 (g := (mkF m 1 #[oR this, oI (5 : Int32)] [(.ref this)])) rfl (by rw [hml]; rfl) (Steps.refl _) (argsL := []) (rest := []) (lenOf pd_12_0 rfl) rfl (by show 2 * 0 + _ ≤ _; exact Nat.le_of_eq rfl) (hb hby d12_1) (fun _ _ => ⟨rfl, e0, (by decide : 0 + 0 ≤ _), (by decide : 0 + 0 ≤ _)⟩)
    dsimp only [Pt.U, Pt.locs, Pt.cells, Pt.slots] at X7 l7 y7 z7 st7 hQ7
    subst l7 y7 z7
    obtain ⟨rfl, Nq7, e7⟩ := hQ7
    have N8 := Fr.app N0 Nq7
    refine own_tr st7 ?_
    show own_Go p e below _ (T7.setTop (mkF m 4 #[oR this, oI (5 : Int32)] [(.int (0 : Int32))]))
    refine own_via (fun t kz => XS.ifYes X7.here hx rfl (pc0 := 4) (pc' := 16) rfl (hb hby d12_4) rfl ((if0 _ _).trans (teq (by decide : (0 : Int32) = (0 : Int32))).1) (by decide) (by decide) kz) ?_
    refine own_via (fun t kz => XS.aloadN X7.here hx rfl (hb hby d12_16) rfl rfl kz) ?_
    show own_Go p e below _ (T7.setTop (mkF m 17 #[oR this, oI (5 : Int32)] [(.ref this)]))
    obtain ⟨T9, X9, e9, st9⟩ := getF X7 hx hZ hown (host := "") (Or.inl (own_w hw 40)) Via.refl e7 Fv (g := (mkF m 17 #[oR this, oI (5 : Int32)] [(.ref this)])) rfl rfl (hb hby d12_17)
    refine own_via st9 ?_
    refine own_via (fun t kz => XS.iloadN X9.here hx rfl (hb hby d12_20) rfl kz) ?_
    show own_Go p e below _ (T9.setTop (mkF m 21 #[oR this, oI (5 : Int32)] [(.int (5 : Int32)), (.ref arr)]))
    obtain ⟨_, _, ⟨T10, L10, k10, n10⟩, -, X10, ⟨Lc10, hQ10, l10, y10, z10⟩, st10⟩ := Jvm.LawKit.callS X9 hx (y := (⟨"java/lang/StringUTF16", "charAt", "([BI)C"⟩ : MethodName)) hown (mvT hZ (own_w hw 116)) (mvT hZ (own_w hw 117)) (mvT hZ (own_w hw 29)) (mvT hZ (own_w hw 118)) (by decide) (backOf (W := 0) (rmY6_5 l Z a0 hw [] arr wcs wsf kb ((c0_ >>> ((0 : Int32) &&& 31)).toInt8.toInt32) ((c0_ >>> ((8 : Int32) &&& 31)).toInt8.toInt32) ((c1_ >>> ((0 : Int32) &&& 31)).toInt8.toInt32) ((c1_ >>> ((8 : Int32) &&& 31)).toInt8.toInt32) ((c2_ >>> ((0 : Int32) &&& 31)).toInt8.toInt32) ((c2_ >>> ((8 : Int32) &&& 31)).toInt8.toInt32) ((c3_ >>> ((0 : Int32) &&& 31)).toInt8.toInt32) ((c3_ >>> ((8 : Int32) &&& 31)).toInt8.toInt32) ((c4_ >>> ((0 : Int32) &&& 31)).toInt8.toInt32) ((c4_ >>> ((8 : Int32) &&& 31)).toInt8.toInt32) ((c5_ >>> ((0 : Int32) &&& 31)).toInt8.toInt32) ((c5_ >>> ((8 : Int32) &&& 31)).toInt8.toInt32) c5_ h0 n0 Z0 OLD hcs rsf B_wcs B_wsf B_wad B_whi B_wlo Va (by unfold fY6_5; exact own_utf hc5)) hZ (own_w hw 118) (own_w hw 29) (by decide) (by decide)) (g := (mkF m 21 #[oR this, oI (5 : Int32)] [(.int (5 : Int32)), (.ref arr)])) rfl (by rw [hml]; rfl) (argsL := [(.ref arr), (.int (5 : Int32))]) (rest := []) (lenOf pd_12_1 rfl) rfl (by show 2 * 0 + _ ≤ _; exact Nat.le_of_eq rfl) (hb hby d12_21) (fun _ _ => ⟨rfl, e9, (by decide : 0 + 0 ≤ _), (by decide : 0 + 0 ≤ _)⟩)
    dsimp only [Pt.U, Pt.locs, Pt.cells, Pt.slots] at X10 l10 y10 z10 st10 hQ10
    subst l10 y10 z10
    obtain ⟨rfl, Nq10, e10⟩ := hQ10
    have N11 := Fr.app N8 Nq10
    refine own_via st10 ?_
    show own_Go p e below _ (T10.setTop (mkF m 24 #[oR this, oI (5 : Int32)] [(.int c5_)]))
    obtain ⟨fs, hr, hrun, hended, hW, hsame⟩ := X10.leave (v := some (.int c5_)) (fun h => by rw [Bd.returns] at h; cases h)
    refine ⟨_, _, retOut X10 hx (i := .ireturn) Bd.returns (own_nch hc5) (Or.inl ⟨rfl, by simp, _, rfl⟩) (hb hby d12_24) hr, hrun, hended, _, _, rfl, ?_, ⟨_, rfl⟩, hW, hsame.mono (by decide) (by decide)⟩
    show QA6_5 Z this c0_ c1_ c2_ c3_ c4_ c5_ wcs wsf h0 n0 _ T10.heap _
    rw [e10]
    exact ⟨rfl, N11, rfl⟩
def f1 (p0 : Int32) : Int32 := (if ((p0 &&& (65535 : Int32)).toUInt32.toUInt16.toUInt32.toInt32) = (40 : Int32) then (97 : Int32) else (if ((p0 &&& (65535 : Int32)).toUInt32.toUInt16.toUInt32.toInt32) = (41 : Int32) then (97 : Int32) else (if ((p0 &&& (65535 : Int32)).toUInt32.toUInt16.toUInt32.toInt32) = (34 : Int32) then (97 : Int32) else (if ((p0 &&& (65535 : Int32)).toUInt32.toUInt16.toUInt32.toInt32) = (124 : Int32) then (97 : Int32) else ((p0 &&& (65535 : Int32)).toUInt32.toUInt16.toUInt32.toInt32)))))
theorem d1_0 : decode method_2_code 0 = .ok (.iload_n 0, 1) := by decide +kernel
theorem d1_1 : decode method_2_code 1 = .ok (.ldc 7, 2) := by decide +kernel
theorem d1_3 : decode method_2_code 3 = .ok (.iand, 1) := by decide +kernel
theorem d1_4 : decode method_2_code 4 = .ok (.i2c, 1) := by decide +kernel
theorem d1_5 : decode method_2_code 5 = .ok (.istore_n 1, 1) := by decide +kernel
theorem d1_6 : decode method_2_code 6 = .ok (.iload_n 1, 1) := by decide +kernel
theorem d1_7 : decode method_2_code 7 = .ok (.bipush 40, 2) := by decide +kernel
theorem d1_9 : decode method_2_code 9 = .ok (.if_icmp .eq 21, 3) := by decide +kernel
theorem d1_12 : decode method_2_code 12 = .ok (.iload_n 1, 1) := by decide +kernel
theorem d1_13 : decode method_2_code 13 = .ok (.bipush 41, 2) := by decide +kernel
theorem d1_15 : decode method_2_code 15 = .ok (.if_icmp .eq 15, 3) := by decide +kernel
theorem d1_18 : decode method_2_code 18 = .ok (.iload_n 1, 1) := by decide +kernel
theorem d1_19 : decode method_2_code 19 = .ok (.bipush 34, 2) := by decide +kernel
theorem d1_21 : decode method_2_code 21 = .ok (.if_icmp .eq 9, 3) := by decide +kernel
theorem d1_24 : decode method_2_code 24 = .ok (.iload_n 1, 1) := by decide +kernel
theorem d1_25 : decode method_2_code 25 = .ok (.bipush 124, 2) := by decide +kernel
theorem d1_27 : decode method_2_code 27 = .ok (.if_icmp .ne 6, 3) := by decide +kernel
theorem d1_30 : decode method_2_code 30 = .ok (.bipush 97, 2) := by decide +kernel
theorem d1_32 : decode method_2_code 32 = .ok (.ireturn, 1) := by decide +kernel
theorem d1_33 : decode method_2_code 33 = .ok (.iload_n 1, 1) := by decide +kernel
theorem d1_34 : decode method_2_code 34 = .ok (.ireturn, 1) := by decide +kernel
theorem pn_1 : plainName "com/example/quiescence/quiescence/model/BalanceOpenPinLaw" = true := by first | (simp [plainName, overriddenIn]; done) | decide +kernel
theorem ef_rm1 (m : MethodId) (q0 : Int32) : entryFrame m #[(.int q0)] 2 = mkF m 0 #[oI q0, .unset] [] := by first | (simp [entryFrame, mkF, argsToLocals, Value.category]; done) | rfl
def Q1 (Z : State) (p0 : Int32) (r : Int32) (h0 : Heap) (n0 : Nat) (v : Option Value) (h : Heap) (L : List Loc) : Prop := v = some (.int r) ∧ Fr n0 L ∧ h = h0
set_option maxRecDepth 65536 in
set_option maxHeartbeats 40000000 in
theorem rm1 (l : Launch) (Z : State) (a0 : Array Value) (hw : ∀ d ∈ tables_1, d.before a0 Z = true) (ws : List Jvm.Cond) (p0 : Int32) (r : Int32) (h0 : Heap) (n0 : Nat) (Z0 : n0 ≤ h0.size) (hr0 : (f1 p0) = r) :
    MetFree l (⟨"com/example/quiescence/quiescence/model/BalanceOpenPinLaw", "neutral", "(I)C"⟩ : MethodName) (head1 (Jvm.Cond.code (⟨"com/example/quiescence/quiescence/model/BalanceOpenPinLaw", "neutral", "(I)C"⟩ : MethodName) method_2_code 2 (some .char) :: ws) ({ frames := 0, cells := 0, slots := 0, locals := 0 } : Room)) (fun a U => a = #[(.int p0)] ∧ Z.Warmed39 U.vm ∧ U.heap = h0) (fun _ _ _ _ _ => True) (fun _ U o U' => ∃ v L, o = .returned v ∧ Q1 Z p0 r h0 n0 v U'.heap L ∧ FrameEnd U o U' L ({ frames := 0, cells := 0, slots := 0, locals := 0 } : Room).cells ({ frames := 0, cells := 0, slots := 0, locals := 0 } : Room).slots) := by
  refine MetFree.of_bodySF (plainFor_of_name pn_1) hisR ?_
  intro p e s m args below meth c s₁ Bd hml0 hP hK
  obtain ⟨rfl, hZ, hh⟩ := hP
  have hx := Bd.exec
  have hby := Bd.bytes
  have hml : c.maxLocals = 2 := hml0
  have hown : s.vm.findClass "com/example/quiescence/quiescence/model/BalanceOpenPinLaw" = some m.cls := findClass_of_methodNamed Bd.named
  have hnm := (name_of_methodNamed Bd.named Bd.method).1
  have X0 : Stand p l e ({ frames := 0, cells := 0, slots := 0, locals := 0 } : Room) s m #[(.int p0)] below meth c s₁ [] 0 0 := Stand.of_body Bd
  have e0 : s₁.heap = h0 := by rw [← hh, Bd.state]; rfl
  have N0 := Fr.nil n0
  refine own_start ?_
  refine own_via (fun t k => castTop (ef_rm1 m p0) k) ?_
  show own_Go p e below _ (s₁.setTop (mkF m 0 #[oI p0, .unset] []))
  refine own_via (fun t kz => XS.iloadN X0.here hx rfl (hb hby d1_0) rfl kz) ?_
  show own_Go p e below _ (s₁.setTop (mkF m 1 #[oI p0, .unset] [(.int p0)]))
  refine own_via (fun t kz => X0.ldcInt hx hown (mvT hZ (own_w hw 4)) (g := (mkF m 1 #[oI p0, .unset] [(.int p0)])) rfl (hb hby d1_1) t kz) ?_
  refine own_via (fun t kz => XS.iand X0.here hx rfl (hb hby d1_3) rfl kz) ?_
  show own_Go p e below _ (s₁.setTop (mkF m 4 #[oI p0, .unset] [(.int (p0 &&& (65535 : Int32)))]))
  refine own_via (fun t kz => XS.i2c X0.here hx rfl (hb hby d1_4) rfl kz) ?_
  refine own_via (fun t kz => XS.istoreN X0.here hx rfl (hb hby d1_5) rfl (l' := #[oI p0, oI ((p0 &&& (65535 : Int32)).toUInt32.toUInt16.toUInt32.toInt32)]) rfl kz) ?_
  refine own_via (fun t kz => XS.iloadN X0.here hx rfl (hb hby d1_6) rfl kz) ?_
  refine own_via (fun t kz => XS.bipush X0.here hx rfl (hb hby d1_7) kz) ?_
  show own_Go p e below _ (s₁.setTop (mkF m 9 #[oI p0, oI ((p0 &&& (65535 : Int32)).toUInt32.toUInt16.toUInt32.toInt32)] [(.int (40 : Int32)), (.int ((p0 &&& (65535 : Int32)).toUInt32.toUInt16.toUInt32.toInt32))]))
  by_cases hc9_1 : ((p0 &&& (65535 : Int32)).toUInt32.toUInt16.toUInt32.toInt32) = (40 : Int32)
  · refine own_via (fun t kz => XS.icmpYes X0.here hx rfl (pc0 := 9) (pc' := 30) rfl (hb hby d1_9) rfl (teq hc9_1).1 (by decide) (by decide) kz) ?_
    refine own_via (fun t kz => XS.bipush X0.here hx rfl (hb hby d1_30) kz) ?_
    show own_Go p e below _ (s₁.setTop (mkF m 32 #[oI p0, oI ((p0 &&& (65535 : Int32)).toUInt32.toUInt16.toUInt32.toInt32)] [(.int (97 : Int32))]))
    have hv : (f1 p0) = (97 : Int32) := by unfold f1; rw [if_pos hc9_1]
    obtain ⟨fs, hr, hrun, hended, hW, hsame⟩ := X0.leave (v := some (.int (97 : Int32))) (fun h => by rw [Bd.returns] at h; cases h)
    refine ⟨_, _, retN X0 hx (t := .char) Bd.returns (by simp) (hb hby d1_32) hr, hrun, hended, _, _, rfl, ?_, ⟨_, rfl⟩, hW, hsame.mono (by decide) (by decide)⟩
    show Q1 Z p0 r h0 n0 _ s₁.heap _
    rw [e0]
    exact ⟨by rw [← hr0, hv], N0, rfl⟩
  · refine own_via (fun t kz => XS.icmpNo X0.here hx rfl (hb hby d1_9) rfl (feq hc9_1).1 kz) ?_
    refine own_via (fun t kz => XS.iloadN X0.here hx rfl (hb hby d1_12) rfl kz) ?_
    refine own_via (fun t kz => XS.bipush X0.here hx rfl (hb hby d1_13) kz) ?_
    show own_Go p e below _ (s₁.setTop (mkF m 15 #[oI p0, oI ((p0 &&& (65535 : Int32)).toUInt32.toUInt16.toUInt32.toInt32)] [(.int (41 : Int32)), (.int ((p0 &&& (65535 : Int32)).toUInt32.toUInt16.toUInt32.toInt32))]))
    by_cases hc15_3 : ((p0 &&& (65535 : Int32)).toUInt32.toUInt16.toUInt32.toInt32) = (41 : Int32)
    · refine own_via (fun t kz => XS.icmpYes X0.here hx rfl (pc0 := 15) (pc' := 30) rfl (hb hby d1_15) rfl (teq hc15_3).1 (by decide) (by decide) kz) ?_
      refine own_via (fun t kz => XS.bipush X0.here hx rfl (hb hby d1_30) kz) ?_
      show own_Go p e below _ (s₁.setTop (mkF m 32 #[oI p0, oI ((p0 &&& (65535 : Int32)).toUInt32.toUInt16.toUInt32.toInt32)] [(.int (97 : Int32))]))
      have hv : (f1 p0) = (97 : Int32) := by unfold f1; rw [if_neg hc9_1, if_pos hc15_3]
      obtain ⟨fs, hr, hrun, hended, hW, hsame⟩ := X0.leave (v := some (.int (97 : Int32))) (fun h => by rw [Bd.returns] at h; cases h)
      refine ⟨_, _, retN X0 hx (t := .char) Bd.returns (by simp) (hb hby d1_32) hr, hrun, hended, _, _, rfl, ?_, ⟨_, rfl⟩, hW, hsame.mono (by decide) (by decide)⟩
      show Q1 Z p0 r h0 n0 _ s₁.heap _
      rw [e0]
      exact ⟨by rw [← hr0, hv], N0, rfl⟩
    · refine own_via (fun t kz => XS.icmpNo X0.here hx rfl (hb hby d1_15) rfl (feq hc15_3).1 kz) ?_
      refine own_via (fun t kz => XS.iloadN X0.here hx rfl (hb hby d1_18) rfl kz) ?_
      refine own_via (fun t kz => XS.bipush X0.here hx rfl (hb hby d1_19) kz) ?_
      show own_Go p e below _ (s₁.setTop (mkF m 21 #[oI p0, oI ((p0 &&& (65535 : Int32)).toUInt32.toUInt16.toUInt32.toInt32)] [(.int (34 : Int32)), (.int ((p0 &&& (65535 : Int32)).toUInt32.toUInt16.toUInt32.toInt32))]))
      by_cases hc21_5 : ((p0 &&& (65535 : Int32)).toUInt32.toUInt16.toUInt32.toInt32) = (34 : Int32)
      · refine own_via (fun t kz => XS.icmpYes X0.here hx rfl (pc0 := 21) (pc' := 30) rfl (hb hby d1_21) rfl (teq hc21_5).1 (by decide) (by decide) kz) ?_
        refine own_via (fun t kz => XS.bipush X0.here hx rfl (hb hby d1_30) kz) ?_
        show own_Go p e below _ (s₁.setTop (mkF m 32 #[oI p0, oI ((p0 &&& (65535 : Int32)).toUInt32.toUInt16.toUInt32.toInt32)] [(.int (97 : Int32))]))
        have hv : (f1 p0) = (97 : Int32) := by unfold f1; rw [if_neg hc9_1, if_neg hc15_3, if_pos hc21_5]
        obtain ⟨fs, hr, hrun, hended, hW, hsame⟩ := X0.leave (v := some (.int (97 : Int32))) (fun h => by rw [Bd.returns] at h; cases h)
        refine ⟨_, _, retN X0 hx (t := .char) Bd.returns (by simp) (hb hby d1_32) hr, hrun, hended, _, _, rfl, ?_, ⟨_, rfl⟩, hW, hsame.mono (by decide) (by decide)⟩
        show Q1 Z p0 r h0 n0 _ s₁.heap _
        rw [e0]
        exact ⟨by rw [← hr0, hv], N0, rfl⟩
      · refine own_via (fun t kz => XS.icmpNo X0.here hx rfl (hb hby d1_21) rfl (feq hc21_5).1 kz) ?_
        refine own_via (fun t kz => XS.iloadN X0.here hx rfl (hb hby d1_24) rfl kz) ?_
        refine own_via (fun t kz => XS.bipush X0.here hx rfl (hb hby d1_25) kz) ?_
        show own_Go p e below _ (s₁.setTop (mkF m 27 #[oI p0, oI ((p0 &&& (65535 : Int32)).toUInt32.toUInt16.toUInt32.toInt32)] [(.int (124 : Int32)), (.int ((p0 &&& (65535 : Int32)).toUInt32.toUInt16.toUInt32.toInt32))]))
        by_cases hc27_7 : ((p0 &&& (65535 : Int32)).toUInt32.toUInt16.toUInt32.toInt32) = (124 : Int32)
        · refine own_via (fun t kz => XS.icmpNo X0.here hx rfl (hb hby d1_27) rfl (teq hc27_7).2 kz) ?_
          refine own_via (fun t kz => XS.bipush X0.here hx rfl (hb hby d1_30) kz) ?_
          show own_Go p e below _ (s₁.setTop (mkF m 32 #[oI p0, oI ((p0 &&& (65535 : Int32)).toUInt32.toUInt16.toUInt32.toInt32)] [(.int (97 : Int32))]))
          have hv : (f1 p0) = (97 : Int32) := by unfold f1; rw [if_neg hc9_1, if_neg hc15_3, if_neg hc21_5, if_pos hc27_7]
          obtain ⟨fs, hr, hrun, hended, hW, hsame⟩ := X0.leave (v := some (.int (97 : Int32))) (fun h => by rw [Bd.returns] at h; cases h)
          refine ⟨_, _, retN X0 hx (t := .char) Bd.returns (by simp) (hb hby d1_32) hr, hrun, hended, _, _, rfl, ?_, ⟨_, rfl⟩, hW, hsame.mono (by decide) (by decide)⟩
          show Q1 Z p0 r h0 n0 _ s₁.heap _
          rw [e0]
          exact ⟨by rw [← hr0, hv], N0, rfl⟩
        · refine own_via (fun t kz => XS.icmpYes X0.here hx rfl (pc0 := 27) (pc' := 33) rfl (hb hby d1_27) rfl (feq hc27_7).2 (by decide) (by decide) kz) ?_
          refine own_via (fun t kz => XS.iloadN X0.here hx rfl (hb hby d1_33) rfl kz) ?_
          show own_Go p e below _ (s₁.setTop (mkF m 34 #[oI p0, oI ((p0 &&& (65535 : Int32)).toUInt32.toUInt16.toUInt32.toInt32)] [(.int ((p0 &&& (65535 : Int32)).toUInt32.toUInt16.toUInt32.toInt32))]))
          have hv : (f1 p0) = ((p0 &&& (65535 : Int32)).toUInt32.toUInt16.toUInt32.toInt32) := by unfold f1; rw [if_neg hc9_1, if_neg hc15_3, if_neg hc21_5, if_neg hc27_7]
          obtain ⟨fs, hr, hrun, hended, hW, hsame⟩ := X0.leave (v := some (.int ((p0 &&& (65535 : Int32)).toUInt32.toUInt16.toUInt32.toInt32))) (fun h => by rw [Bd.returns] at h; cases h)
          refine ⟨_, _, retOut X0 hx (i := .ireturn) Bd.returns (by first | rfl | exact narrow_c _) (Or.inl ⟨rfl, by simp, _, rfl⟩) (hb hby d1_34) hr, hrun, hended, _, _, rfl, ?_, ⟨_, rfl⟩, hW, hsame.mono (by decide) (by decide)⟩
          show Q1 Z p0 r h0 n0 _ s₁.heap _
          rw [e0]
          exact ⟨by rw [← hr0, hv], N0, rfl⟩
theorem d2_0 : decode prog_88_method_1_code 0 = .ok (.aload_n 0, 1) := by decide +kernel
theorem d2_1 : decode prog_88_method_1_code 1 = .ok (.invokespecial 1, 3) := by decide +kernel
theorem d2_4 : decode prog_88_method_1_code 4 = .ok (.return_, 1) := by decide +kernel
theorem pn_2 : plainName "com/example/quiescence/quiescence/model/SExpression$Balance" = true := by first | (simp [plainName, overriddenIn]; done) | decide +kernel
theorem ef_rm2 (m : MethodId) (q0 : Addr) : entryFrame m #[(.ref q0)] 1 = mkF m 0 #[oR q0] [] := by first | (simp [entryFrame, mkF, argsToLocals, Value.category]; done) | rfl
def Q2 (Z : State) (this : Addr) (h0 : Heap) (n0 : Nat) (v : Option Value) (h : Heap) (L : List Loc) : Prop := v = none ∧ Fr n0 L ∧ h = h0
set_option maxRecDepth 65536 in
set_option maxHeartbeats 40000000 in
theorem rm2 (l : Launch) (Z : State) (a0 : Array Value) (hw : ∀ d ∈ tables_1, d.before a0 Z = true) (ws : List Jvm.Cond) (this : Addr) (h0 : Heap) (n0 : Nat) (Z0 : n0 ≤ h0.size) :
    MetFree l (⟨"com/example/quiescence/quiescence/model/SExpression$Balance", "<init>", "()V"⟩ : MethodName) (head1 (Jvm.Cond.code (⟨"com/example/quiescence/quiescence/model/SExpression$Balance", "<init>", "()V"⟩ : MethodName) prog_88_method_1_code 1 none :: ws) ({ frames := 1, cells := 0, slots := 0, locals := 12 } : Room)) (fun a U => a = #[(.ref this)] ∧ Z.Warmed39 U.vm ∧ U.heap = h0) (fun _ _ _ _ _ => True) (fun _ U o U' => ∃ v L, o = .returned v ∧ Q2 Z this h0 n0 v U'.heap L ∧ FrameEnd U o U' L ({ frames := 1, cells := 0, slots := 0, locals := 12 } : Room).cells ({ frames := 1, cells := 0, slots := 0, locals := 12 } : Room).slots) := by
  refine MetFree.of_bodySF (plainFor_of_name pn_2) hisR ?_
  intro p e s m args below meth c s₁ Bd hml0 hP hK
  obtain ⟨rfl, hZ, hh⟩ := hP
  have hx := Bd.exec
  have hby := Bd.bytes
  have hml : c.maxLocals = 1 := hml0
  have hown : s.vm.findClass "com/example/quiescence/quiescence/model/SExpression$Balance" = some m.cls := findClass_of_methodNamed Bd.named
  have hnm := (name_of_methodNamed Bd.named Bd.method).1
  have X0 : Stand p l e ({ frames := 1, cells := 0, slots := 0, locals := 12 } : Room) s m #[(.ref this)] below meth c s₁ [] 0 0 := Stand.of_body Bd
  have e0 : s₁.heap = h0 := by rw [← hh, Bd.state]; rfl
  have N0 := Fr.nil n0
  refine own_start ?_
  refine own_via (fun t k => castTop (ef_rm2 m this) k) ?_
  show own_Go p e below _ (s₁.setTop (mkF m 0 #[oR this] []))
  refine own_via (fun t kz => XS.aloadN X0.here hx rfl (hb hby d2_0) rfl rfl kz) ?_
  show own_Go p e below _ (s₁.setTop (mkF m 1 #[oR this] [(.ref this)]))
  obtain ⟨T1, X1, e1, st1⟩ := initO X0 hx hZ hown (own_w hw 12) (own_w hw 13) (own_w hw 14) e0 (g := (mkF m 1 #[oR this] [(.ref this)])) rfl (by rw [hml]; rfl) rfl (hb hby d2_1) (by decide) (W := 0) (by show 2 * 0 + _ ≤ _; exact Nat.le_of_eq rfl) (by decide)
  refine own_via st1 ?_
  show own_Go p e below _ (T1.setTop (mkF m 4 #[oR this] []))
  obtain ⟨fs, hr, hrun, hended, hW, hsame⟩ := X1.leave (v := none) (fun _ => rfl)
  refine ⟨_, _, X1.returnOut hx Bd.returns (hb hby d2_4) hr, hrun, hended, _, _, rfl, ?_, ⟨_, rfl⟩, hW, hsame.mono (by decide) (by decide)⟩
  show Q2 Z this h0 n0 _ T1.heap _
  rw [e1]
  exact ⟨rfl, N0, rfl⟩
def f17 (wd : Int32) (wst : Int32) (wq : Int32) : Int32 := (if wst = (0 : Int32) then (if (0 : Int32) < wd then (1 : Int32) else (if wq = (0 : Int32) then (0 : Int32) else (1 : Int32))) else (0 : Int32))
theorem d17_0 : decode prog_88_method_3_code 0 = .ok (.aload_n 0, 1) := by decide +kernel
theorem d17_1 : decode prog_88_method_3_code 1 = .ok (.getfield 13, 3) := by decide +kernel
theorem d17_4 : decode prog_88_method_3_code 4 = .ok (.ifCond .ne 21, 3) := by decide +kernel
theorem d17_7 : decode prog_88_method_3_code 7 = .ok (.aload_n 0, 1) := by decide +kernel
theorem d17_8 : decode prog_88_method_3_code 8 = .ok (.getfield 27, 3) := by decide +kernel
theorem d17_11 : decode prog_88_method_3_code 11 = .ok (.ifCond .gt 10, 3) := by decide +kernel
theorem d17_14 : decode prog_88_method_3_code 14 = .ok (.aload_n 0, 1) := by decide +kernel
theorem d17_15 : decode prog_88_method_3_code 15 = .ok (.getfield 23, 3) := by decide +kernel
theorem d17_18 : decode prog_88_method_3_code 18 = .ok (.ifCond .eq 7, 3) := by decide +kernel
theorem d17_21 : decode prog_88_method_3_code 21 = .ok (.iconst 1, 1) := by decide +kernel
theorem d17_22 : decode prog_88_method_3_code 22 = .ok (.goto 4, 3) := by decide +kernel
theorem d17_25 : decode prog_88_method_3_code 25 = .ok (.iconst 0, 1) := by decide +kernel
theorem d17_26 : decode prog_88_method_3_code 26 = .ok (.ireturn, 1) := by decide +kernel
theorem ef_rm17 (m : MethodId) (q0 : Addr) : entryFrame m #[(.ref q0)] 1 = mkF m 0 #[oR q0] [] := by first | (simp [entryFrame, mkF, argsToLocals, Value.category]; done) | rfl
def Q17 (Z : State) (this : Addr) (wd : Int32) (wst : Int32) (wq : Int32) (r : Int32) (h0 : Heap) (n0 : Nat) (v : Option Value) (h : Heap) (L : List Loc) : Prop := v = some (.int r) ∧ Fr n0 L ∧ h = h0
set_option maxRecDepth 65536 in
set_option maxHeartbeats 40000000 in
theorem rm17 (l : Launch) (Z : State) (a0 : Array Value) (hw : ∀ d ∈ tables_1, d.before a0 Z = true) (ws : List Jvm.Cond) (this : Addr) (wd : Int32) (wst : Int32) (wq : Int32) (r : Int32) (h0 : Heap) (n0 : Nat) (Z0 : n0 ≤ h0.size) (F_wd : Fld Z h0 this "com/example/quiescence/quiescence/model/SExpression$Balance" "depth" "I" (.int wd)) (F_wst : Fld Z h0 this "com/example/quiescence/quiescence/model/SExpression$Balance" "stray" "Z" (.int wst)) (F_wq : Fld Z h0 this "com/example/quiescence/quiescence/model/SExpression$Balance" "closing" "C" (.int wq)) (hr0 : (f17 wd wst wq) = r) :
    MetFree l (⟨"com/example/quiescence/quiescence/model/SExpression$Balance", "open", "()Z"⟩ : MethodName) (head1 (Jvm.Cond.code (⟨"com/example/quiescence/quiescence/model/SExpression$Balance", "open", "()Z"⟩ : MethodName) prog_88_method_3_code 1 (some .boolean) :: ws) ({ frames := 0, cells := 0, slots := 0, locals := 0 } : Room)) (fun a U => a = #[(.ref this)] ∧ Z.Warmed39 U.vm ∧ U.heap = h0) (fun _ _ _ _ _ => True) (fun _ U o U' => ∃ v L, o = .returned v ∧ Q17 Z this wd wst wq r h0 n0 v U'.heap L ∧ FrameEnd U o U' L ({ frames := 0, cells := 0, slots := 0, locals := 0 } : Room).cells ({ frames := 0, cells := 0, slots := 0, locals := 0 } : Room).slots) := by
  refine MetFree.of_bodySF (plainFor_of_name pn_2) hisR ?_
  intro p e s m args below meth c s₁ Bd hml0 hP hK
  obtain ⟨rfl, hZ, hh⟩ := hP
  have hx := Bd.exec
  have hby := Bd.bytes
  have hml : c.maxLocals = 1 := hml0
  have hown : s.vm.findClass "com/example/quiescence/quiescence/model/SExpression$Balance" = some m.cls := findClass_of_methodNamed Bd.named
  have hnm := (name_of_methodNamed Bd.named Bd.method).1
  have X0 : Stand p l e ({ frames := 0, cells := 0, slots := 0, locals := 0 } : Room) s m #[(.ref this)] below meth c s₁ [] 0 0 := Stand.of_body Bd
  have e0 : s₁.heap = h0 := by rw [← hh, Bd.state]; rfl
  have N0 := Fr.nil n0
  refine own_start ?_
  refine own_via (fun t k => castTop (ef_rm17 m this) k) ?_
  show own_Go p e below _ (s₁.setTop (mkF m 0 #[oR this] []))
  refine own_via (fun t kz => XS.aloadN X0.here hx rfl (hb hby d17_0) rfl rfl kz) ?_
  show own_Go p e below _ (s₁.setTop (mkF m 1 #[oR this] [(.ref this)]))
  obtain ⟨T1, X1, e1, st1⟩ := getF X0 hx hZ hown (host := "") (Or.inl (own_w hw 61)) Via.refl e0 F_wst (g := (mkF m 1 #[oR this] [(.ref this)])) rfl rfl (hb hby d17_1)
  refine own_via st1 ?_
  show own_Go p e below _ (T1.setTop (mkF m 4 #[oR this] [(.int wst)]))
  by_cases hc4_2 : wst = (0 : Int32)
  · refine own_via (fun t kz => XS.ifNo X1.here hx rfl (hb hby d17_4) rfl ((if0 _ _).trans (teq hc4_2).2) kz) ?_
    refine own_via (fun t kz => XS.aloadN X1.here hx rfl (hb hby d17_7) rfl rfl kz) ?_
    show own_Go p e below _ (T1.setTop (mkF m 8 #[oR this] [(.ref this)]))
    obtain ⟨T3, X3, e3, st3⟩ := getF X1 hx hZ hown (host := "") (Or.inl (own_w hw 95)) Via.refl e1 F_wd (g := (mkF m 8 #[oR this] [(.ref this)])) rfl rfl (hb hby d17_8)
    refine own_via st3 ?_
    show own_Go p e below _ (T3.setTop (mkF m 11 #[oR this] [(.int wd)]))
    by_cases hc11_4 : (0 : Int32) < wd
    · refine own_via (fun t kz => XS.ifYes X3.here hx rfl (pc0 := 11) (pc' := 21) rfl (hb hby d17_11) rfl ((if0 _ _).trans (tlt hc11_4).2.2.1) (by decide) (by decide) kz) ?_
      refine own_via (fun t kz => XS.iconst X3.here hx rfl (hb hby d17_21) kz) ?_
      refine own_via (fun t kz => XS.goto X3.here hx rfl (pc0 := 22) (pc' := 26) rfl (hb hby d17_22) (by decide) (by decide) kz) ?_
      show own_Go p e below _ (T3.setTop (mkF m 26 #[oR this] [(.int (1 : Int32))]))
      have hv : (f17 wd wst wq) = (1 : Int32) := by unfold f17; rw [if_pos hc4_2, if_pos hc11_4]
      obtain ⟨fs, hr, hrun, hended, hW, hsame⟩ := X3.leave (v := some (.int (1 : Int32))) (fun h => by rw [Bd.returns] at h; cases h)
      refine ⟨_, _, retN X3 hx (t := .boolean) Bd.returns (by simp) (hb hby d17_26) hr, hrun, hended, _, _, rfl, ?_, ⟨_, rfl⟩, hW, hsame.mono (by decide) (by decide)⟩
      show Q17 Z this wd wst wq r h0 n0 _ T3.heap _
      rw [e3]
      exact ⟨by rw [← hr0, hv], N0, rfl⟩
    · refine own_via (fun t kz => XS.ifNo X3.here hx rfl (hb hby d17_11) rfl ((if0 _ _).trans (flt hc11_4).2.2.1) kz) ?_
      refine own_via (fun t kz => XS.aloadN X3.here hx rfl (hb hby d17_14) rfl rfl kz) ?_
      show own_Go p e below _ (T3.setTop (mkF m 15 #[oR this] [(.ref this)]))
      obtain ⟨T6, X6, e6, st6⟩ := getF X3 hx hZ hown (host := "") (Or.inl (own_w hw 88)) Via.refl e3 F_wq (g := (mkF m 15 #[oR this] [(.ref this)])) rfl rfl (hb hby d17_15)
      refine own_via st6 ?_
      show own_Go p e below _ (T6.setTop (mkF m 18 #[oR this] [(.int wq)]))
      by_cases hc18_7 : wq = (0 : Int32)
      · refine own_via (fun t kz => XS.ifYes X6.here hx rfl (pc0 := 18) (pc' := 25) rfl (hb hby d17_18) rfl ((if0 _ _).trans (teq hc18_7).1) (by decide) (by decide) kz) ?_
        refine own_via (fun t kz => XS.iconst X6.here hx rfl (hb hby d17_25) kz) ?_
        show own_Go p e below _ (T6.setTop (mkF m 26 #[oR this] [(.int (0 : Int32))]))
        have hv : (f17 wd wst wq) = (0 : Int32) := by unfold f17; rw [if_pos hc4_2, if_neg hc11_4, if_pos hc18_7]
        obtain ⟨fs, hr, hrun, hended, hW, hsame⟩ := X6.leave (v := some (.int (0 : Int32))) (fun h => by rw [Bd.returns] at h; cases h)
        refine ⟨_, _, retN X6 hx (t := .boolean) Bd.returns (by simp) (hb hby d17_26) hr, hrun, hended, _, _, rfl, ?_, ⟨_, rfl⟩, hW, hsame.mono (by decide) (by decide)⟩
        show Q17 Z this wd wst wq r h0 n0 _ T6.heap _
        rw [e6]
        exact ⟨by rw [← hr0, hv], N0, rfl⟩
      · refine own_via (fun t kz => XS.ifNo X6.here hx rfl (hb hby d17_18) rfl ((if0 _ _).trans (feq hc18_7).1) kz) ?_
        refine own_via (fun t kz => XS.iconst X6.here hx rfl (hb hby d17_21) kz) ?_
        refine own_via (fun t kz => XS.goto X6.here hx rfl (pc0 := 22) (pc' := 26) rfl (hb hby d17_22) (by decide) (by decide) kz) ?_
        show own_Go p e below _ (T6.setTop (mkF m 26 #[oR this] [(.int (1 : Int32))]))
        have hv : (f17 wd wst wq) = (1 : Int32) := by unfold f17; rw [if_pos hc4_2, if_neg hc11_4, if_neg hc18_7]
        obtain ⟨fs, hr, hrun, hended, hW, hsame⟩ := X6.leave (v := some (.int (1 : Int32))) (fun h => by rw [Bd.returns] at h; cases h)
        refine ⟨_, _, retN X6 hx (t := .boolean) Bd.returns (by simp) (hb hby d17_26) hr, hrun, hended, _, _, rfl, ?_, ⟨_, rfl⟩, hW, hsame.mono (by decide) (by decide)⟩
        show Q17 Z this wd wst wq r h0 n0 _ T6.heap _
        rw [e6]
        exact ⟨by rw [← hr0, hv], N0, rfl⟩
  · refine own_via (fun t kz => XS.ifYes X1.here hx rfl (pc0 := 4) (pc' := 25) rfl (hb hby d17_4) rfl ((if0 _ _).trans (feq hc4_2).2) (by decide) (by decide) kz) ?_
    refine own_via (fun t kz => XS.iconst X1.here hx rfl (hb hby d17_25) kz) ?_
    show own_Go p e below _ (T1.setTop (mkF m 26 #[oR this] [(.int (0 : Int32))]))
    have hv : (f17 wd wst wq) = (0 : Int32) := by unfold f17; rw [if_neg hc4_2]
    obtain ⟨fs, hr, hrun, hended, hW, hsame⟩ := X1.leave (v := some (.int (0 : Int32))) (fun h => by rw [Bd.returns] at h; cases h)
    refine ⟨_, _, retN X1 hx (t := .boolean) Bd.returns (by simp) (hb hby d17_26) hr, hrun, hended, _, _, rfl, ?_, ⟨_, rfl⟩, hW, hsame.mono (by decide) (by decide)⟩
    show Q17 Z this wd wst wq r h0 n0 _ T1.heap _
    rw [e1]
    exact ⟨by rw [← hr0, hv], N0, rfl⟩
abbrev own_B : Type := Int32 × Int32 × Int32
theorem own_strw {Z : State} {h h' : Heap} {n0 : Nat} {b s : Addr} {sl : Nat} {v : Value} {c0_ c1_ c2_ c3_ c4_ c5_ : Int32} (H : own_Str6 Z h n0 s c0_ c1_ c2_ c3_ c4_ c5_) (W : Wr h h' b sl v) (hb : @LT.lt Nat instLTNat b s) : own_Str6 Z h' n0 s c0_ c1_ c2_ c3_ c4_ c5_ := by
  obtain ⟨arr, kb, ⟨ch0, ch1⟩, E, F, R⟩ := H
  refine ⟨arr, kb, ⟨ch0, ch1⟩, E.wr W, F.other W (Or.inl (own_neq (by omega))), ?_⟩
  rcases R with ⟨hl, Fc, V⟩ | ⟨Fc, V⟩
  · exact Or.inl ⟨hl, Fc.other W (Or.inl (own_neq (by omega))), V.other W (own_neq (by omega))⟩
  · exact Or.inr ⟨Fc.other W (Or.inl (own_neq (by omega))), V.other W (own_neq (by omega))⟩
theorem own_strE {Z : State} {h : Heap} {n0 : Nat} {s : Addr} {c0_ c1_ c2_ c3_ c4_ c5_ : Int32} (H : own_Str6 Z h n0 s c0_ c1_ c2_ c3_ c4_ c5_) : Exa Z h s "java/lang/String" := by
  obtain ⟨arr, kb, -, E, -⟩ := H
  exact E
def own_Bal (Z : State) (h : Heap) (b : Addr) (S : own_B) : Prop := Fld Z h b "com/example/quiescence/quiescence/model/SExpression$Balance" "depth" "I" (.int S.1) ∧ Fld Z h b "com/example/quiescence/quiescence/model/SExpression$Balance" "stray" "Z" (.int S.2.1) ∧ Fld Z h b "com/example/quiescence/quiescence/model/SExpression$Balance" "closing" "C" (.int S.2.2)
def own_stepf (wd wst wq c0_ : Int32) : own_B := (if wq = (0 : Int32) then (if c0_ = (34 : Int32) then (wd, wst, c0_) else (if c0_ = (124 : Int32) then (wd, wst, c0_) else (if c0_ = (40 : Int32) then ((wd + (1 : Int32)), wst, wq) else (if c0_ = (41 : Int32) then (if (wd - (1 : Int32)) < (0 : Int32) then ((wd - (1 : Int32)), (1 : Int32), wq) else ((wd - (1 : Int32)), (0 : Int32), wq)) else (wd, wst, wq))))) else (if c0_ = wq then (wd, wst, (0 : Int32)) else (wd, wst, wq)))
def own_step (S : own_B) (c : Int32) : own_B := own_stepf S.1 S.2.1 S.2.2 c
theorem d9_2 : decode prog_88_method_2_code 2 = .ok (.iload_n 2, 1) := by decide +kernel
theorem d9_3 : decode prog_88_method_2_code 3 = .ok (.aload_n 1, 1) := by decide +kernel
theorem d9_4 : decode prog_88_method_2_code 4 = .ok (.invokeinterface 7 1, 5) := by decide +kernel
theorem d9_9 : decode prog_88_method_2_code 9 = .ok (.if_icmp .ge 125, 3) := by decide +kernel
theorem d9_12 : decode prog_88_method_2_code 12 = .ok (.aload_n 0, 1) := by decide +kernel
theorem d9_13 : decode prog_88_method_2_code 13 = .ok (.getfield 13, 3) := by decide +kernel
theorem d9_16 : decode prog_88_method_2_code 16 = .ok (.ifCond .ne 118, 3) := by decide +kernel
theorem d9_19 : decode prog_88_method_2_code 19 = .ok (.aload_n 1, 1) := by decide +kernel
theorem d9_20 : decode prog_88_method_2_code 20 = .ok (.iload_n 2, 1) := by decide +kernel
theorem d9_21 : decode prog_88_method_2_code 21 = .ok (.invokeinterface 19 2, 5) := by decide +kernel
theorem d9_26 : decode prog_88_method_2_code 26 = .ok (.istore_n 3, 1) := by decide +kernel
theorem d9_27 : decode prog_88_method_2_code 27 = .ok (.aload_n 0, 1) := by decide +kernel
theorem d9_28 : decode prog_88_method_2_code 28 = .ok (.getfield 23, 3) := by decide +kernel
theorem d9_31 : decode prog_88_method_2_code 31 = .ok (.ifCond .eq 26, 3) := by decide +kernel
theorem d9_34 : decode prog_88_method_2_code 34 = .ok (.aload_n 0, 1) := by decide +kernel
theorem d9_35 : decode prog_88_method_2_code 35 = .ok (.iload_n 3, 1) := by decide +kernel
theorem d9_36 : decode prog_88_method_2_code 36 = .ok (.aload_n 0, 1) := by decide +kernel
theorem d9_37 : decode prog_88_method_2_code 37 = .ok (.getfield 23, 3) := by decide +kernel
theorem d9_40 : decode prog_88_method_2_code 40 = .ok (.if_icmp .ne 7, 3) := by decide +kernel
theorem d9_43 : decode prog_88_method_2_code 43 = .ok (.iconst 0, 1) := by decide +kernel
theorem d9_44 : decode prog_88_method_2_code 44 = .ok (.goto 7, 3) := by decide +kernel
theorem d9_47 : decode prog_88_method_2_code 47 = .ok (.aload_n 0, 1) := by decide +kernel
theorem d9_48 : decode prog_88_method_2_code 48 = .ok (.getfield 23, 3) := by decide +kernel
theorem d9_51 : decode prog_88_method_2_code 51 = .ok (.putfield 23, 3) := by decide +kernel
theorem d9_54 : decode prog_88_method_2_code 54 = .ok (.goto 74, 3) := by decide +kernel
theorem d9_57 : decode prog_88_method_2_code 57 = .ok (.iload_n 3, 1) := by decide +kernel
theorem d9_58 : decode prog_88_method_2_code 58 = .ok (.bipush 34, 2) := by decide +kernel
theorem d9_60 : decode prog_88_method_2_code 60 = .ok (.if_icmp .eq 9, 3) := by decide +kernel
theorem d9_63 : decode prog_88_method_2_code 63 = .ok (.iload_n 3, 1) := by decide +kernel
theorem d9_64 : decode prog_88_method_2_code 64 = .ok (.bipush 124, 2) := by decide +kernel
theorem d9_66 : decode prog_88_method_2_code 66 = .ok (.if_icmp .ne 11, 3) := by decide +kernel
theorem d9_69 : decode prog_88_method_2_code 69 = .ok (.aload_n 0, 1) := by decide +kernel
theorem d9_70 : decode prog_88_method_2_code 70 = .ok (.iload_n 3, 1) := by decide +kernel
theorem d9_71 : decode prog_88_method_2_code 71 = .ok (.putfield 23, 3) := by decide +kernel
theorem d9_74 : decode prog_88_method_2_code 74 = .ok (.goto 54, 3) := by decide +kernel
theorem d9_77 : decode prog_88_method_2_code 77 = .ok (.iload_n 3, 1) := by decide +kernel
theorem d9_78 : decode prog_88_method_2_code 78 = .ok (.bipush 40, 2) := by decide +kernel
theorem d9_80 : decode prog_88_method_2_code 80 = .ok (.if_icmp .ne 16, 3) := by decide +kernel
theorem d9_83 : decode prog_88_method_2_code 83 = .ok (.aload_n 0, 1) := by decide +kernel
theorem d9_84 : decode prog_88_method_2_code 84 = .ok (.dup, 1) := by decide +kernel
theorem d9_85 : decode prog_88_method_2_code 85 = .ok (.getfield 27, 3) := by decide +kernel
theorem d9_88 : decode prog_88_method_2_code 88 = .ok (.iconst 1, 1) := by decide +kernel
theorem d9_89 : decode prog_88_method_2_code 89 = .ok (.iadd, 1) := by decide +kernel
theorem d9_90 : decode prog_88_method_2_code 90 = .ok (.putfield 27, 3) := by decide +kernel
theorem d9_93 : decode prog_88_method_2_code 93 = .ok (.goto 35, 3) := by decide +kernel
theorem d9_96 : decode prog_88_method_2_code 96 = .ok (.iload_n 3, 1) := by decide +kernel
theorem d9_97 : decode prog_88_method_2_code 97 = .ok (.bipush 41, 2) := by decide +kernel
theorem d9_99 : decode prog_88_method_2_code 99 = .ok (.if_icmp .ne 29, 3) := by decide +kernel
theorem d9_102 : decode prog_88_method_2_code 102 = .ok (.aload_n 0, 1) := by decide +kernel
theorem d9_103 : decode prog_88_method_2_code 103 = .ok (.dup, 1) := by decide +kernel
theorem d9_104 : decode prog_88_method_2_code 104 = .ok (.getfield 27, 3) := by decide +kernel
theorem d9_107 : decode prog_88_method_2_code 107 = .ok (.iconst 1, 1) := by decide +kernel
theorem d9_108 : decode prog_88_method_2_code 108 = .ok (.isub, 1) := by decide +kernel
theorem d9_109 : decode prog_88_method_2_code 109 = .ok (.putfield 27, 3) := by decide +kernel
theorem d9_112 : decode prog_88_method_2_code 112 = .ok (.aload_n 0, 1) := by decide +kernel
theorem d9_113 : decode prog_88_method_2_code 113 = .ok (.aload_n 0, 1) := by decide +kernel
theorem d9_114 : decode prog_88_method_2_code 114 = .ok (.getfield 27, 3) := by decide +kernel
theorem d9_117 : decode prog_88_method_2_code 117 = .ok (.ifCond .ge 7, 3) := by decide +kernel
theorem d9_120 : decode prog_88_method_2_code 120 = .ok (.iconst 1, 1) := by decide +kernel
theorem d9_121 : decode prog_88_method_2_code 121 = .ok (.goto 4, 3) := by decide +kernel
theorem d9_124 : decode prog_88_method_2_code 124 = .ok (.iconst 0, 1) := by decide +kernel
theorem d9_125 : decode prog_88_method_2_code 125 = .ok (.putfield 13, 3) := by decide +kernel
theorem d9_128 : decode prog_88_method_2_code 128 = .ok (.iinc 2 1, 3) := by decide +kernel
theorem d9_131 : decode prog_88_method_2_code 131 = .ok (.goto (-129), 3) := by decide +kernel
theorem pd_9_0 : parseMethodDescriptor "()I" = some ⟨[], some .int⟩ := by decide +kernel
theorem pd_9_1 : parseMethodDescriptor "(I)C" = some ⟨[.int], some .char⟩ := by decide +kernel
set_option maxRecDepth 65536 in
set_option maxHeartbeats 40000000 in
theorem own_turn0 {p : Program} {l : Launch} {e : Env} {R : Room} {s : State} {m : MethodId} {args : Array Value} {below : List Frame} {meth : Method} {c : Code} {T0 : State} {locs : List Loc} {cells slots : Nat} {Z : State} {a0 : Array Value} {h0 : Heap} {n0 : Nat} (this : Addr) (p1 : Addr) (wd : Int32) (wst : Int32) (wq : Int32) (c0_ : Int32) (c1_ : Int32) (c2_ : Int32) (c3_ : Int32) (c4_ : Int32) (c5_ : Int32) (wcs : Int32) (wsf : Value)
    (X0 : Stand p l e R s m args below meth c T0 locs cells slots) (hx : p.tables.exec = Jvm.exec) (hZ : Z.Warmed39 s.vm) (hw : ∀ d ∈ tables_1, d.before a0 Z = true) (hby : c.code = prog_88_method_2_code) (hml : c.maxLocals = 4) (hown : s.vm.findClass "com/example/quiescence/quiescence/model/SExpression$Balance" = some m.cls) (e0 : T0.heap = h0) (N0 : Fr n0 locs) (Z0 : n0 ≤ h0.size) (g_this : n0 ≤ this) (ltb : this < p1) (E_this : Exa Z h0 this "com/example/quiescence/quiescence/model/SExpression$Balance") (F_depth : Fld Z h0 this "com/example/quiescence/quiescence/model/SExpression$Balance" "depth" "I" (.int wd)) (F_stray : Fld Z h0 this "com/example/quiescence/quiescence/model/SExpression$Balance" "stray" "Z" (.int wst)) (F_closing : Fld Z h0 this "com/example/quiescence/quiescence/model/SExpression$Balance" "closing" "C" (.int wq)) (SR : own_Str6 Z h0 n0 p1 c0_ c1_ c2_ c3_ c4_ c5_) (hc0 : own_ch c0_) (hc1 : own_ch c1_) (hc2 : own_ch c2_) (hc3 : own_ch c3_) (hc4 : own_ch c4_) (hc5 : own_ch c5_) (OLD : Old Z n0 h0) (hcs : ¬ (wcs = (0 : Int32))) (rsf : wsf.isRef = true) (B_wcs : Sta Z Z.heap "java/lang/String" "COMPACT_STRINGS" "Z" (.int wcs)) (B_wsf : Sta Z Z.heap "jdk/internal/util/Preconditions" "SIOOBE_FORMATTER" "Ljava/util/function/BiFunction;" wsf) (B_wad : Sta Z Z.heap "java/lang/StringUTF16" "$assertionsDisabled" "Z" (.int (1 : Int32))) (B_whi : Sta Z Z.heap "java/lang/StringUTF16" "HI_BYTE_SHIFT" "I" (.int (0 : Int32))) (B_wlo : Sta Z Z.heap "java/lang/StringUTF16" "LO_BYTE_SHIFT" "I" (.int (8 : Int32))) (hs : wst = (0 : Int32)) (hq : own_ch wq) (hfr : 5 ≤ R.frames) (hlo : 66 ≤ R.locals) (hcl : cells ≤ R.cells) (hsl : slots ≤ R.slots) :
    own_Pc p e below (fun B => ∃ (T' : State) (h' : Heap) (locs' : List Loc), B = T'.setTop (mkF m 2 #[oR this, oR p1, oI (1 : Int32), oI c0_] []) ∧ Stand p l e R s m args below meth c T' locs' cells slots ∧ T'.heap = h' ∧ Fr n0 locs' ∧ n0 ≤ h'.size ∧ Keep h0 h' [this] ∧ Exa Z h' this "com/example/quiescence/quiescence/model/SExpression$Balance" ∧ own_Str6 Z h' n0 p1 c0_ c1_ c2_ c3_ c4_ c5_ ∧ own_Bal Z h' this (own_stepf wd wst wq c0_)) (T0.setTop (mkF m 2 #[oR this, oR p1, oI (0 : Int32), .unset] [])) := by
  show own_Pc p e below _ (T0.setTop (mkF m 2 #[oR this, oR p1, oI (0 : Int32), .unset] []))
  refine own_pvia (fun t kz => XS.iloadN X0.here hx rfl (hb hby d9_2) rfl kz) ?_
  refine own_pvia (fun t kz => XS.aloadN X0.here hx rfl (hb hby d9_3) rfl rfl kz) ?_
  show own_Pc p e below _ (T0.setTop (mkF m 4 #[oR this, oR p1, oI (0 : Int32), .unset] [(.ref p1), (.int (0 : Int32))]))
  obtain ⟨cq1, kq1, qa1, qb1, qc1⟩ := isOf hZ e0 (own_strE SR)
  obtain ⟨_, _, ⟨T1, L1, k1, n1⟩, -, X1, ⟨Lc1, hQ1, l1, y1, z1⟩, st1⟩ := X0.interfaceBack hx (xi := (⟨"java/lang/CharSequence", "length", "()I"⟩ : MethodName)) (y := (⟨"java/lang/String", "length", "()I"⟩ : MethodName)) hown (mvT hZ (own_w hw 47)) (mvT hZ (own_w hw 48)) (mvT hZ (own_w hw 49)) (mvT hZ (own_w hw 50)) (mvT hZ (own_w hw 51)) (mvT hZ (own_w hw 52)) (mvT hZ (own_w hw 53)) (mvT hZ (own_w hw 54)) (by decide) (backOf (W := 1) (rmL6 l Z a0 hw [] p1 c0_ c1_ c2_ c3_ c4_ c5_ wcs wsf h0 n0 Z0 SR OLD hcs rsf B_wcs B_wsf B_wad B_whi B_wlo) hZ (own_w hw 55) (own_w hw 17) (Nat.le_trans (by decide) hfr) (Nat.le_trans (by decide) hlo)) qa1 qb1 qc1 (g := (mkF m 4 #[oR this, oR p1, oI (0 : Int32), .unset] [(.ref p1), (.int (0 : Int32))])) rfl (by rw [hml]; rfl) (Steps.refl _) (argsL := []) (rest := [(.int (0 : Int32))]) (lenOf pd_9_0 rfl) rfl (by show 2 * 0 + _ ≤ _; exact Nat.le_of_eq rfl) (hb hby d9_4) (fun _ _ => ⟨rfl, e0, hcl, hsl⟩)
  dsimp only [Pt.U, Pt.locs, Pt.cells, Pt.slots] at X1 l1 y1 z1 st1 hQ1
  subst l1 y1 z1
  obtain ⟨rfl, Nq1, e1⟩ := hQ1
  have N2 := Fr.app N0 Nq1
  refine own_ptr st1 ?_
  show own_Pc p e below _ (T1.setTop (mkF m 9 #[oR this, oR p1, oI (0 : Int32), .unset] [(.int (6 : Int32)), (.int (0 : Int32))]))
  refine own_pvia (fun t kz => XS.icmpNo X1.here hx rfl (hb hby d9_9) rfl (tlt (by decide : (0 : Int32) < (6 : Int32))).2.1 kz) ?_
  refine own_pvia (fun t kz => XS.aloadN X1.here hx rfl (hb hby d9_12) rfl rfl kz) ?_
  show own_Pc p e below _ (T1.setTop (mkF m 13 #[oR this, oR p1, oI (0 : Int32), .unset] [(.ref this)]))
  obtain ⟨T3, X3, e3, st3⟩ := getF X1 hx hZ hown (host := "") (Or.inl (own_w hw 61)) Via.refl e1 F_stray (g := (mkF m 13 #[oR this, oR p1, oI (0 : Int32), .unset] [(.ref this)])) rfl rfl (hb hby d9_13)
  refine own_pvia st3 ?_
  show own_Pc p e below _ (T3.setTop (mkF m 16 #[oR this, oR p1, oI (0 : Int32), .unset] [(.int wst)]))
  refine own_pvia (fun t kz => XS.ifNo X3.here hx rfl (hb hby d9_16) rfl ((if0 _ _).trans (teq hs).2) kz) ?_
  refine own_pvia (fun t kz => XS.aloadN X3.here hx rfl (hb hby d9_19) rfl rfl kz) ?_
  refine own_pvia (fun t kz => XS.iloadN X3.here hx rfl (hb hby d9_20) rfl kz) ?_
  show own_Pc p e below _ (T3.setTop (mkF m 21 #[oR this, oR p1, oI (0 : Int32), .unset] [(.int (0 : Int32)), (.ref p1)]))
  obtain ⟨cq4, kq4, qa4, qb4, qc4⟩ := isOf hZ e3 (own_strE SR)
  obtain ⟨_, _, ⟨T4, L4, k4, n4⟩, -, X4, ⟨Lc4, hQ4, l4, y4, z4⟩, st4⟩ := X3.interfaceBack hx (xi := (⟨"java/lang/CharSequence", "charAt", "(I)C"⟩ : MethodName)) (y := (⟨"java/lang/String", "charAt", "(I)C"⟩ : MethodName)) hown (mvT hZ (own_w hw 63)) (mvT hZ (own_w hw 64)) (mvT hZ (own_w hw 65)) (mvT hZ (own_w hw 66)) (mvT hZ (own_w hw 67)) (mvT hZ (own_w hw 68)) (mvT hZ (own_w hw 69)) (mvT hZ (own_w hw 54)) (by decide) (backOf (W := 0) (rmA6_0 l Z a0 hw [] p1 c0_ c1_ c2_ c3_ c4_ c5_ wcs wsf h0 n0 Z0 SR hc0 hc1 hc2 hc3 hc4 hc5 OLD hcs rsf B_wcs B_wsf B_wad B_whi B_wlo) hZ (own_w hw 70) (own_w hw 17) (Nat.le_trans (by decide) hfr) (Nat.le_trans (by decide) hlo)) qa4 qb4 qc4 (g := (mkF m 21 #[oR this, oR p1, oI (0 : Int32), .unset] [(.int (0 : Int32)), (.ref p1)])) rfl (by rw [hml]; rfl) (Steps.refl _) (argsL := [(.int (0 : Int32))]) (rest := []) (lenOf pd_9_1 rfl) rfl (by show 2 * 0 + _ ≤ _; exact Nat.le_of_eq rfl) (hb hby d9_21) (fun _ _ => ⟨rfl, e3, hcl, hsl⟩)
  dsimp only [Pt.U, Pt.locs, Pt.cells, Pt.slots] at X4 l4 y4 z4 st4 hQ4
  subst l4 y4 z4
  obtain ⟨rfl, Nq4, e4⟩ := hQ4
  have N5 := Fr.app N2 Nq4
  refine own_ptr st4 ?_
  refine own_pvia (fun t kz => XS.istoreN X4.here hx rfl (hb hby d9_26) rfl (l' := #[oR this, oR p1, oI (0 : Int32), oI c0_]) rfl kz) ?_
  refine own_pvia (fun t kz => XS.aloadN X4.here hx rfl (hb hby d9_27) rfl rfl kz) ?_
  show own_Pc p e below _ (T4.setTop (mkF m 28 #[oR this, oR p1, oI (0 : Int32), oI c0_] [(.ref this)]))
  obtain ⟨T6, X6, e6, st6⟩ := getF X4 hx hZ hown (host := "") (Or.inl (own_w hw 88)) Via.refl e4 F_closing (g := (mkF m 28 #[oR this, oR p1, oI (0 : Int32), oI c0_] [(.ref this)])) rfl rfl (hb hby d9_28)
  refine own_pvia st6 ?_
  show own_Pc p e below _ (T6.setTop (mkF m 31 #[oR this, oR p1, oI (0 : Int32), oI c0_] [(.int wq)]))
  by_cases hc31_7 : wq = (0 : Int32)
  · refine own_pvia (fun t kz => XS.ifYes X6.here hx rfl (pc0 := 31) (pc' := 57) rfl (hb hby d9_31) rfl ((if0 _ _).trans (teq hc31_7).1) (by decide) (by decide) kz) ?_
    refine own_pvia (fun t kz => XS.iloadN X6.here hx rfl (hb hby d9_57) rfl kz) ?_
    refine own_pvia (fun t kz => XS.bipush X6.here hx rfl (hb hby d9_58) kz) ?_
    show own_Pc p e below _ (T6.setTop (mkF m 60 #[oR this, oR p1, oI (0 : Int32), oI c0_] [(.int (34 : Int32)), (.int c0_)]))
    by_cases hc60_8 : c0_ = (34 : Int32)
    · refine own_pvia (fun t kz => XS.icmpYes X6.here hx rfl (pc0 := 60) (pc' := 69) rfl (hb hby d9_60) rfl (teq hc60_8).1 (by decide) (by decide) kz) ?_
      refine own_pvia (fun t kz => XS.aloadN X6.here hx rfl (hb hby d9_69) rfl rfl kz) ?_
      refine own_pvia (fun t kz => XS.iloadN X6.here hx rfl (hb hby d9_70) rfl kz) ?_
      show own_Pc p e below _ (T6.setTop (mkF m 71 #[oR this, oR p1, oI (0 : Int32), oI c0_] [(.int c0_), (.ref this)]))
      obtain ⟨T9, h9, X9, e9, W9, st9⟩ := putF X6 hx hZ hown (host := "") (Or.inl (own_w hw 88)) Via.refl e6 F_closing E_this (Or.inl (own_w hw 89)) (own_w hw 7) (ty := .char) (by decide) (own_nch hc0) (own_fch hc0) (g := (mkF m 71 #[oR this, oR p1, oI (0 : Int32), oI c0_] [(.int c0_), (.ref this)])) rfl rfl (hb hby d9_71)
      refine own_pvia st9 ?_
      have O10 : Old Z n0 h9 := OLD.wr W9 g_this
      have E11 := E_this.wr W9
      have U12 : own_Str6 Z h9 n0 p1 c0_ c1_ c2_ c3_ c4_ c5_ := own_strw SR W9 ltb
      have F13 := F_depth.other W9 (Or.inr (slot_ne (Or.inl (own_w hw 96)) (Or.inl (own_w hw 89)) (by decide) (t := .int) (t' := .char) (by decide) (by decide)))
      have F14 := F_stray.other W9 (Or.inr (slot_ne (Or.inl (own_w hw 62)) (Or.inl (own_w hw 89)) (by decide) (t := .boolean) (t' := .char) (by decide) (by decide)))
      have F15 := F_closing.same W9
      have Zs16 : n0 ≤ h9.size := Nat.le_trans Z0 (Keep.of_wr W9).1
      have N17 := Fr.snoc X9 N5 g_this
      have K18 : Keep h0 h9 [this] := (Keep.refl h0 [this]).wr W9 (Or.inl (List.mem_of_getElem? (i := 0) rfl))
      refine own_pvia (fun t kz => XS.goto X9.here hx rfl (pc0 := 74) (pc' := 128) rfl (hb hby d9_74) (by decide) (by decide) kz) ?_
      show own_Pc p e below _ (T9.setTop (mkF m 128 #[oR this, oR p1, oI (0 : Int32), oI c0_] []))
      refine own_pvia (fun t kz => XS.iinc X9.here hx rfl (hb hby d9_128) rfl (l' := #[oR this, oR p1, oI (1 : Int32), oI c0_]) rfl kz) ?_
      refine own_pvia (fun t kz => XS.goto X9.here hx rfl (pc0 := 131) (pc' := 2) rfl (hb hby d9_131) (by decide) (by decide) kz) ?_
      exact ⟨_, fun t k => k, ⟨T9, h9, _, rfl, X9, e9, N17, Zs16, K18, E11, U12, by unfold own_stepf; rw [if_pos hc31_7, if_pos hc60_8]; exact ⟨F13, F14, F15⟩⟩⟩
    · refine own_pvia (fun t kz => XS.icmpNo X6.here hx rfl (hb hby d9_60) rfl (feq hc60_8).1 kz) ?_
      refine own_pvia (fun t kz => XS.iloadN X6.here hx rfl (hb hby d9_63) rfl kz) ?_
      refine own_pvia (fun t kz => XS.bipush X6.here hx rfl (hb hby d9_64) kz) ?_
      show own_Pc p e below _ (T6.setTop (mkF m 66 #[oR this, oR p1, oI (0 : Int32), oI c0_] [(.int (124 : Int32)), (.int c0_)]))
      by_cases hc66_19 : c0_ = (124 : Int32)
      · refine own_pvia (fun t kz => XS.icmpNo X6.here hx rfl (hb hby d9_66) rfl (teq hc66_19).2 kz) ?_
        refine own_pvia (fun t kz => XS.aloadN X6.here hx rfl (hb hby d9_69) rfl rfl kz) ?_
        refine own_pvia (fun t kz => XS.iloadN X6.here hx rfl (hb hby d9_70) rfl kz) ?_
        show own_Pc p e below _ (T6.setTop (mkF m 71 #[oR this, oR p1, oI (0 : Int32), oI c0_] [(.int c0_), (.ref this)]))
        obtain ⟨T20, h20, X20, e20, W20, st20⟩ := putF X6 hx hZ hown (host := "") (Or.inl (own_w hw 88)) Via.refl e6 F_closing E_this (Or.inl (own_w hw 89)) (own_w hw 7) (ty := .char) (by decide) (own_nch hc0) (own_fch hc0) (g := (mkF m 71 #[oR this, oR p1, oI (0 : Int32), oI c0_] [(.int c0_), (.ref this)])) rfl rfl (hb hby d9_71)
        refine own_pvia st20 ?_
        have O21 : Old Z n0 h20 := OLD.wr W20 g_this
        have E22 := E_this.wr W20
        have U23 : own_Str6 Z h20 n0 p1 c0_ c1_ c2_ c3_ c4_ c5_ := own_strw SR W20 ltb
        have F24 := F_depth.other W20 (Or.inr (slot_ne (Or.inl (own_w hw 96)) (Or.inl (own_w hw 89)) (by decide) (t := .int) (t' := .char) (by decide) (by decide)))
        have F25 := F_stray.other W20 (Or.inr (slot_ne (Or.inl (own_w hw 62)) (Or.inl (own_w hw 89)) (by decide) (t := .boolean) (t' := .char) (by decide) (by decide)))
        have F26 := F_closing.same W20
        have Zs27 : n0 ≤ h20.size := Nat.le_trans Z0 (Keep.of_wr W20).1
        have N28 := Fr.snoc X20 N5 g_this
        have K29 : Keep h0 h20 [this] := (Keep.refl h0 [this]).wr W20 (Or.inl (List.mem_of_getElem? (i := 0) rfl))
        refine own_pvia (fun t kz => XS.goto X20.here hx rfl (pc0 := 74) (pc' := 128) rfl (hb hby d9_74) (by decide) (by decide) kz) ?_
        show own_Pc p e below _ (T20.setTop (mkF m 128 #[oR this, oR p1, oI (0 : Int32), oI c0_] []))
        refine own_pvia (fun t kz => XS.iinc X20.here hx rfl (hb hby d9_128) rfl (l' := #[oR this, oR p1, oI (1 : Int32), oI c0_]) rfl kz) ?_
        refine own_pvia (fun t kz => XS.goto X20.here hx rfl (pc0 := 131) (pc' := 2) rfl (hb hby d9_131) (by decide) (by decide) kz) ?_
        exact ⟨_, fun t k => k, ⟨T20, h20, _, rfl, X20, e20, N28, Zs27, K29, E22, U23, by unfold own_stepf; rw [if_pos hc31_7, if_neg hc60_8, if_pos hc66_19]; exact ⟨F24, F25, F26⟩⟩⟩
      · refine own_pvia (fun t kz => XS.icmpYes X6.here hx rfl (pc0 := 66) (pc' := 77) rfl (hb hby d9_66) rfl (feq hc66_19).2 (by decide) (by decide) kz) ?_
        refine own_pvia (fun t kz => XS.iloadN X6.here hx rfl (hb hby d9_77) rfl kz) ?_
        refine own_pvia (fun t kz => XS.bipush X6.here hx rfl (hb hby d9_78) kz) ?_
        show own_Pc p e below _ (T6.setTop (mkF m 80 #[oR this, oR p1, oI (0 : Int32), oI c0_] [(.int (40 : Int32)), (.int c0_)]))
        by_cases hc80_30 : c0_ = (40 : Int32)
        · refine own_pvia (fun t kz => XS.icmpNo X6.here hx rfl (hb hby d9_80) rfl (teq hc80_30).2 kz) ?_
          refine own_pvia (fun t kz => XS.aloadN X6.here hx rfl (hb hby d9_83) rfl rfl kz) ?_
          refine own_pvia (fun t kz => XS.dup X6.here hx rfl (hb hby d9_84) rfl rfl kz) ?_
          show own_Pc p e below _ (T6.setTop (mkF m 85 #[oR this, oR p1, oI (0 : Int32), oI c0_] [(.ref this), (.ref this)]))
          obtain ⟨T31, X31, e31, st31⟩ := getF X6 hx hZ hown (host := "") (Or.inl (own_w hw 95)) Via.refl e6 F_depth (g := (mkF m 85 #[oR this, oR p1, oI (0 : Int32), oI c0_] [(.ref this), (.ref this)])) rfl rfl (hb hby d9_85)
          refine own_pvia st31 ?_
          refine own_pvia (fun t kz => XS.iconst X31.here hx rfl (hb hby d9_88) kz) ?_
          refine own_pvia (fun t kz => XS.iadd X31.here hx rfl (hb hby d9_89) rfl kz) ?_
          show own_Pc p e below _ (T31.setTop (mkF m 90 #[oR this, oR p1, oI (0 : Int32), oI c0_] [(.int (wd + (1 : Int32))), (.ref this)]))
          obtain ⟨T32, h32, X32, e32, W32, st32⟩ := putF X31 hx hZ hown (host := "") (Or.inl (own_w hw 95)) Via.refl e31 F_depth E_this (Or.inl (own_w hw 96)) (own_w hw 7) (ty := .int) (by decide) rfl rfl (g := (mkF m 90 #[oR this, oR p1, oI (0 : Int32), oI c0_] [(.int (wd + (1 : Int32))), (.ref this)])) rfl rfl (hb hby d9_90)
          refine own_pvia st32 ?_
          have O33 : Old Z n0 h32 := OLD.wr W32 g_this
          have E34 := E_this.wr W32
          have U35 : own_Str6 Z h32 n0 p1 c0_ c1_ c2_ c3_ c4_ c5_ := own_strw SR W32 ltb
          have F36 := F_depth.same W32
          have F37 := F_stray.other W32 (Or.inr (slot_ne (Or.inl (own_w hw 62)) (Or.inl (own_w hw 96)) (by decide) (t := .boolean) (t' := .int) (by decide) (by decide)))
          have F38 := F_closing.other W32 (Or.inr (slot_ne (Or.inl (own_w hw 89)) (Or.inl (own_w hw 96)) (by decide) (t := .char) (t' := .int) (by decide) (by decide)))
          have Zs39 : n0 ≤ h32.size := Nat.le_trans Z0 (Keep.of_wr W32).1
          have N40 := Fr.snoc X32 N5 g_this
          have K41 : Keep h0 h32 [this] := (Keep.refl h0 [this]).wr W32 (Or.inl (List.mem_of_getElem? (i := 0) rfl))
          refine own_pvia (fun t kz => XS.goto X32.here hx rfl (pc0 := 93) (pc' := 128) rfl (hb hby d9_93) (by decide) (by decide) kz) ?_
          show own_Pc p e below _ (T32.setTop (mkF m 128 #[oR this, oR p1, oI (0 : Int32), oI c0_] []))
          refine own_pvia (fun t kz => XS.iinc X32.here hx rfl (hb hby d9_128) rfl (l' := #[oR this, oR p1, oI (1 : Int32), oI c0_]) rfl kz) ?_
          refine own_pvia (fun t kz => XS.goto X32.here hx rfl (pc0 := 131) (pc' := 2) rfl (hb hby d9_131) (by decide) (by decide) kz) ?_
          exact ⟨_, fun t k => k, ⟨T32, h32, _, rfl, X32, e32, N40, Zs39, K41, E34, U35, by unfold own_stepf; rw [if_pos hc31_7, if_neg hc60_8, if_neg hc66_19, if_pos hc80_30]; exact ⟨F36, F37, F38⟩⟩⟩
        · refine own_pvia (fun t kz => XS.icmpYes X6.here hx rfl (pc0 := 80) (pc' := 96) rfl (hb hby d9_80) rfl (feq hc80_30).2 (by decide) (by decide) kz) ?_
          refine own_pvia (fun t kz => XS.iloadN X6.here hx rfl (hb hby d9_96) rfl kz) ?_
          refine own_pvia (fun t kz => XS.bipush X6.here hx rfl (hb hby d9_97) kz) ?_
          show own_Pc p e below _ (T6.setTop (mkF m 99 #[oR this, oR p1, oI (0 : Int32), oI c0_] [(.int (41 : Int32)), (.int c0_)]))
          by_cases hc99_42 : c0_ = (41 : Int32)
          · refine own_pvia (fun t kz => XS.icmpNo X6.here hx rfl (hb hby d9_99) rfl (teq hc99_42).2 kz) ?_
            refine own_pvia (fun t kz => XS.aloadN X6.here hx rfl (hb hby d9_102) rfl rfl kz) ?_
            refine own_pvia (fun t kz => XS.dup X6.here hx rfl (hb hby d9_103) rfl rfl kz) ?_
            show own_Pc p e below _ (T6.setTop (mkF m 104 #[oR this, oR p1, oI (0 : Int32), oI c0_] [(.ref this), (.ref this)]))
            obtain ⟨T43, X43, e43, st43⟩ := getF X6 hx hZ hown (host := "") (Or.inl (own_w hw 95)) Via.refl e6 F_depth (g := (mkF m 104 #[oR this, oR p1, oI (0 : Int32), oI c0_] [(.ref this), (.ref this)])) rfl rfl (hb hby d9_104)
            refine own_pvia st43 ?_
            refine own_pvia (fun t kz => XS.iconst X43.here hx rfl (hb hby d9_107) kz) ?_
            refine own_pvia (fun t kz => XS.isub X43.here hx rfl (hb hby d9_108) rfl kz) ?_
            show own_Pc p e below _ (T43.setTop (mkF m 109 #[oR this, oR p1, oI (0 : Int32), oI c0_] [(.int (wd - (1 : Int32))), (.ref this)]))
            obtain ⟨T44, h44, X44, e44, W44, st44⟩ := putF X43 hx hZ hown (host := "") (Or.inl (own_w hw 95)) Via.refl e43 F_depth E_this (Or.inl (own_w hw 96)) (own_w hw 7) (ty := .int) (by decide) rfl rfl (g := (mkF m 109 #[oR this, oR p1, oI (0 : Int32), oI c0_] [(.int (wd - (1 : Int32))), (.ref this)])) rfl rfl (hb hby d9_109)
            refine own_pvia st44 ?_
            have O45 : Old Z n0 h44 := OLD.wr W44 g_this
            have E46 := E_this.wr W44
            have U47 : own_Str6 Z h44 n0 p1 c0_ c1_ c2_ c3_ c4_ c5_ := own_strw SR W44 ltb
            have F48 := F_depth.same W44
            have F49 := F_stray.other W44 (Or.inr (slot_ne (Or.inl (own_w hw 62)) (Or.inl (own_w hw 96)) (by decide) (t := .boolean) (t' := .int) (by decide) (by decide)))
            have F50 := F_closing.other W44 (Or.inr (slot_ne (Or.inl (own_w hw 89)) (Or.inl (own_w hw 96)) (by decide) (t := .char) (t' := .int) (by decide) (by decide)))
            have Zs51 : n0 ≤ h44.size := Nat.le_trans Z0 (Keep.of_wr W44).1
            have N52 := Fr.snoc X44 N5 g_this
            have K53 : Keep h0 h44 [this] := (Keep.refl h0 [this]).wr W44 (Or.inl (List.mem_of_getElem? (i := 0) rfl))
            refine own_pvia (fun t kz => XS.aloadN X44.here hx rfl (hb hby d9_112) rfl rfl kz) ?_
            refine own_pvia (fun t kz => XS.aloadN X44.here hx rfl (hb hby d9_113) rfl rfl kz) ?_
            show own_Pc p e below _ (T44.setTop (mkF m 114 #[oR this, oR p1, oI (0 : Int32), oI c0_] [(.ref this), (.ref this)]))
            obtain ⟨T54, X54, e54, st54⟩ := getF X44 hx hZ hown (host := "") (Or.inl (own_w hw 95)) Via.refl e44 F48 (g := (mkF m 114 #[oR this, oR p1, oI (0 : Int32), oI c0_] [(.ref this), (.ref this)])) rfl rfl (hb hby d9_114)
            refine own_pvia st54 ?_
            show own_Pc p e below _ (T54.setTop (mkF m 117 #[oR this, oR p1, oI (0 : Int32), oI c0_] [(.int (wd - (1 : Int32))), (.ref this)]))
            by_cases hc117_55 : (wd - (1 : Int32)) < (0 : Int32)
            · refine own_pvia (fun t kz => XS.ifNo X54.here hx rfl (hb hby d9_117) rfl ((if0 _ _).trans (tlt hc117_55).2.1) kz) ?_
              refine own_pvia (fun t kz => XS.iconst X54.here hx rfl (hb hby d9_120) kz) ?_
              refine own_pvia (fun t kz => XS.goto X54.here hx rfl (pc0 := 121) (pc' := 125) rfl (hb hby d9_121) (by decide) (by decide) kz) ?_
              show own_Pc p e below _ (T54.setTop (mkF m 125 #[oR this, oR p1, oI (0 : Int32), oI c0_] [(.int (1 : Int32)), (.ref this)]))
              obtain ⟨T56, h56, X56, e56, W56, st56⟩ := putF X54 hx hZ hown (host := "") (Or.inl (own_w hw 61)) Via.refl e54 F49 E46 (Or.inl (own_w hw 62)) (own_w hw 7) (ty := .boolean) (by decide) rfl rfl (g := (mkF m 125 #[oR this, oR p1, oI (0 : Int32), oI c0_] [(.int (1 : Int32)), (.ref this)])) rfl rfl (hb hby d9_125)
              refine own_pvia st56 ?_
              have O57 : Old Z n0 h56 := O45.wr W56 g_this
              have E58 := E46.wr W56
              have U59 : own_Str6 Z h56 n0 p1 c0_ c1_ c2_ c3_ c4_ c5_ := own_strw U47 W56 ltb
              have F60 := F48.other W56 (Or.inr (slot_ne (Or.inl (own_w hw 96)) (Or.inl (own_w hw 62)) (by decide) (t := .int) (t' := .boolean) (by decide) (by decide)))
              have F61 := F49.same W56
              have F62 := F50.other W56 (Or.inr (slot_ne (Or.inl (own_w hw 89)) (Or.inl (own_w hw 62)) (by decide) (t := .char) (t' := .boolean) (by decide) (by decide)))
              have Zs63 : n0 ≤ h56.size := Nat.le_trans Zs51 (Keep.of_wr W56).1
              have N64 := Fr.snoc X56 N52 g_this
              have K65 : Keep h0 h56 [this] := K53.wr W56 (Or.inl (List.mem_of_getElem? (i := 0) rfl))
              show own_Pc p e below _ (T56.setTop (mkF m 128 #[oR this, oR p1, oI (0 : Int32), oI c0_] []))
              refine own_pvia (fun t kz => XS.iinc X56.here hx rfl (hb hby d9_128) rfl (l' := #[oR this, oR p1, oI (1 : Int32), oI c0_]) rfl kz) ?_
              refine own_pvia (fun t kz => XS.goto X56.here hx rfl (pc0 := 131) (pc' := 2) rfl (hb hby d9_131) (by decide) (by decide) kz) ?_
              exact ⟨_, fun t k => k, ⟨T56, h56, _, rfl, X56, e56, N64, Zs63, K65, E58, U59, by unfold own_stepf; rw [if_pos hc31_7, if_neg hc60_8, if_neg hc66_19, if_neg hc80_30, if_pos hc99_42, if_pos hc117_55]; exact ⟨F60, F61, F62⟩⟩⟩
            · refine own_pvia (fun t kz => XS.ifYes X54.here hx rfl (pc0 := 117) (pc' := 124) rfl (hb hby d9_117) rfl ((if0 _ _).trans (flt hc117_55).2.1) (by decide) (by decide) kz) ?_
              refine own_pvia (fun t kz => XS.iconst X54.here hx rfl (hb hby d9_124) kz) ?_
              show own_Pc p e below _ (T54.setTop (mkF m 125 #[oR this, oR p1, oI (0 : Int32), oI c0_] [(.int (0 : Int32)), (.ref this)]))
              obtain ⟨T66, h66, X66, e66, W66, st66⟩ := putF X54 hx hZ hown (host := "") (Or.inl (own_w hw 61)) Via.refl e54 F49 E46 (Or.inl (own_w hw 62)) (own_w hw 7) (ty := .boolean) (by decide) rfl rfl (g := (mkF m 125 #[oR this, oR p1, oI (0 : Int32), oI c0_] [(.int (0 : Int32)), (.ref this)])) rfl rfl (hb hby d9_125)
              refine own_pvia st66 ?_
              have O67 : Old Z n0 h66 := O45.wr W66 g_this
              have E68 := E46.wr W66
              have U69 : own_Str6 Z h66 n0 p1 c0_ c1_ c2_ c3_ c4_ c5_ := own_strw U47 W66 ltb
              have F70 := F48.other W66 (Or.inr (slot_ne (Or.inl (own_w hw 96)) (Or.inl (own_w hw 62)) (by decide) (t := .int) (t' := .boolean) (by decide) (by decide)))
              have F71 := F49.same W66
              have F72 := F50.other W66 (Or.inr (slot_ne (Or.inl (own_w hw 89)) (Or.inl (own_w hw 62)) (by decide) (t := .char) (t' := .boolean) (by decide) (by decide)))
              have Zs73 : n0 ≤ h66.size := Nat.le_trans Zs51 (Keep.of_wr W66).1
              have N74 := Fr.snoc X66 N52 g_this
              have K75 : Keep h0 h66 [this] := K53.wr W66 (Or.inl (List.mem_of_getElem? (i := 0) rfl))
              show own_Pc p e below _ (T66.setTop (mkF m 128 #[oR this, oR p1, oI (0 : Int32), oI c0_] []))
              refine own_pvia (fun t kz => XS.iinc X66.here hx rfl (hb hby d9_128) rfl (l' := #[oR this, oR p1, oI (1 : Int32), oI c0_]) rfl kz) ?_
              refine own_pvia (fun t kz => XS.goto X66.here hx rfl (pc0 := 131) (pc' := 2) rfl (hb hby d9_131) (by decide) (by decide) kz) ?_
              exact ⟨_, fun t k => k, ⟨T66, h66, _, rfl, X66, e66, N74, Zs73, K75, E68, U69, by unfold own_stepf; rw [if_pos hc31_7, if_neg hc60_8, if_neg hc66_19, if_neg hc80_30, if_pos hc99_42, if_neg hc117_55]; exact ⟨F70, F71, F72⟩⟩⟩
          · refine own_pvia (fun t kz => XS.icmpYes X6.here hx rfl (pc0 := 99) (pc' := 128) rfl (hb hby d9_99) rfl (feq hc99_42).2 (by decide) (by decide) kz) ?_
            show own_Pc p e below _ (T6.setTop (mkF m 128 #[oR this, oR p1, oI (0 : Int32), oI c0_] []))
            refine own_pvia (fun t kz => XS.iinc X6.here hx rfl (hb hby d9_128) rfl (l' := #[oR this, oR p1, oI (1 : Int32), oI c0_]) rfl kz) ?_
            refine own_pvia (fun t kz => XS.goto X6.here hx rfl (pc0 := 131) (pc' := 2) rfl (hb hby d9_131) (by decide) (by decide) kz) ?_
            exact ⟨_, fun t k => k, ⟨T6, h0, _, rfl, X6, e6, N5, Z0, (Keep.refl h0 [this]), E_this, SR, by unfold own_stepf; rw [if_pos hc31_7, if_neg hc60_8, if_neg hc66_19, if_neg hc80_30, if_neg hc99_42]; exact ⟨F_depth, F_stray, F_closing⟩⟩⟩
  · refine own_pvia (fun t kz => XS.ifNo X6.here hx rfl (hb hby d9_31) rfl ((if0 _ _).trans (feq hc31_7).1) kz) ?_
    refine own_pvia (fun t kz => XS.aloadN X6.here hx rfl (hb hby d9_34) rfl rfl kz) ?_
    refine own_pvia (fun t kz => XS.iloadN X6.here hx rfl (hb hby d9_35) rfl kz) ?_
    refine own_pvia (fun t kz => XS.aloadN X6.here hx rfl (hb hby d9_36) rfl rfl kz) ?_
    show own_Pc p e below _ (T6.setTop (mkF m 37 #[oR this, oR p1, oI (0 : Int32), oI c0_] [(.ref this), (.int c0_), (.ref this)]))
    obtain ⟨T76, X76, e76, st76⟩ := getF X6 hx hZ hown (host := "") (Or.inl (own_w hw 88)) Via.refl e6 F_closing (g := (mkF m 37 #[oR this, oR p1, oI (0 : Int32), oI c0_] [(.ref this), (.int c0_), (.ref this)])) rfl rfl (hb hby d9_37)
    refine own_pvia st76 ?_
    show own_Pc p e below _ (T76.setTop (mkF m 40 #[oR this, oR p1, oI (0 : Int32), oI c0_] [(.int wq), (.int c0_), (.ref this)]))
    by_cases hc40_77 : c0_ = wq
    · refine own_pvia (fun t kz => XS.icmpNo X76.here hx rfl (hb hby d9_40) rfl (teq hc40_77).2 kz) ?_
      refine own_pvia (fun t kz => XS.iconst X76.here hx rfl (hb hby d9_43) kz) ?_
      refine own_pvia (fun t kz => XS.goto X76.here hx rfl (pc0 := 44) (pc' := 51) rfl (hb hby d9_44) (by decide) (by decide) kz) ?_
      show own_Pc p e below _ (T76.setTop (mkF m 51 #[oR this, oR p1, oI (0 : Int32), oI c0_] [(.int (0 : Int32)), (.ref this)]))
      obtain ⟨T78, h78, X78, e78, W78, st78⟩ := putF X76 hx hZ hown (host := "") (Or.inl (own_w hw 88)) Via.refl e76 F_closing E_this (Or.inl (own_w hw 89)) (own_w hw 7) (ty := .char) (by decide) rfl rfl (g := (mkF m 51 #[oR this, oR p1, oI (0 : Int32), oI c0_] [(.int (0 : Int32)), (.ref this)])) rfl rfl (hb hby d9_51)
      refine own_pvia st78 ?_
      have O79 : Old Z n0 h78 := OLD.wr W78 g_this
      have E80 := E_this.wr W78
      have U81 : own_Str6 Z h78 n0 p1 c0_ c1_ c2_ c3_ c4_ c5_ := own_strw SR W78 ltb
      have F82 := F_depth.other W78 (Or.inr (slot_ne (Or.inl (own_w hw 96)) (Or.inl (own_w hw 89)) (by decide) (t := .int) (t' := .char) (by decide) (by decide)))
      have F83 := F_stray.other W78 (Or.inr (slot_ne (Or.inl (own_w hw 62)) (Or.inl (own_w hw 89)) (by decide) (t := .boolean) (t' := .char) (by decide) (by decide)))
      have F84 := F_closing.same W78
      have Zs85 : n0 ≤ h78.size := Nat.le_trans Z0 (Keep.of_wr W78).1
      have N86 := Fr.snoc X78 N5 g_this
      have K87 : Keep h0 h78 [this] := (Keep.refl h0 [this]).wr W78 (Or.inl (List.mem_of_getElem? (i := 0) rfl))
      refine own_pvia (fun t kz => XS.goto X78.here hx rfl (pc0 := 54) (pc' := 128) rfl (hb hby d9_54) (by decide) (by decide) kz) ?_
      show own_Pc p e below _ (T78.setTop (mkF m 128 #[oR this, oR p1, oI (0 : Int32), oI c0_] []))
      refine own_pvia (fun t kz => XS.iinc X78.here hx rfl (hb hby d9_128) rfl (l' := #[oR this, oR p1, oI (1 : Int32), oI c0_]) rfl kz) ?_
      refine own_pvia (fun t kz => XS.goto X78.here hx rfl (pc0 := 131) (pc' := 2) rfl (hb hby d9_131) (by decide) (by decide) kz) ?_
      exact ⟨_, fun t k => k, ⟨T78, h78, _, rfl, X78, e78, N86, Zs85, K87, E80, U81, by unfold own_stepf; rw [if_neg hc31_7, if_pos hc40_77]; exact ⟨F82, F83, F84⟩⟩⟩
    · refine own_pvia (fun t kz => XS.icmpYes X76.here hx rfl (pc0 := 40) (pc' := 47) rfl (hb hby d9_40) rfl (feq hc40_77).2 (by decide) (by decide) kz) ?_
      refine own_pvia (fun t kz => XS.aloadN X76.here hx rfl (hb hby d9_47) rfl rfl kz) ?_
      show own_Pc p e below _ (T76.setTop (mkF m 48 #[oR this, oR p1, oI (0 : Int32), oI c0_] [(.ref this), (.ref this)]))
      obtain ⟨T88, X88, e88, st88⟩ := getF X76 hx hZ hown (host := "") (Or.inl (own_w hw 88)) Via.refl e76 F_closing (g := (mkF m 48 #[oR this, oR p1, oI (0 : Int32), oI c0_] [(.ref this), (.ref this)])) rfl rfl (hb hby d9_48)
      refine own_pvia st88 ?_
      show own_Pc p e below _ (T88.setTop (mkF m 51 #[oR this, oR p1, oI (0 : Int32), oI c0_] [(.int wq), (.ref this)]))
      obtain ⟨T89, h89, X89, e89, W89, st89⟩ := putF X88 hx hZ hown (host := "") (Or.inl (own_w hw 88)) Via.refl e88 F_closing E_this (Or.inl (own_w hw 89)) (own_w hw 7) (ty := .char) (by decide) (own_nch hq) (own_fch hq) (g := (mkF m 51 #[oR this, oR p1, oI (0 : Int32), oI c0_] [(.int wq), (.ref this)])) rfl rfl (hb hby d9_51)
      refine own_pvia st89 ?_
      have O90 : Old Z n0 h89 := OLD.wr W89 g_this
      have E91 := E_this.wr W89
      have U92 : own_Str6 Z h89 n0 p1 c0_ c1_ c2_ c3_ c4_ c5_ := own_strw SR W89 ltb
      have F93 := F_depth.other W89 (Or.inr (slot_ne (Or.inl (own_w hw 96)) (Or.inl (own_w hw 89)) (by decide) (t := .int) (t' := .char) (by decide) (by decide)))
      have F94 := F_stray.other W89 (Or.inr (slot_ne (Or.inl (own_w hw 62)) (Or.inl (own_w hw 89)) (by decide) (t := .boolean) (t' := .char) (by decide) (by decide)))
      have F95 := F_closing.same W89
      have Zs96 : n0 ≤ h89.size := Nat.le_trans Z0 (Keep.of_wr W89).1
      have N97 := Fr.snoc X89 N5 g_this
      have K98 : Keep h0 h89 [this] := (Keep.refl h0 [this]).wr W89 (Or.inl (List.mem_of_getElem? (i := 0) rfl))
      refine own_pvia (fun t kz => XS.goto X89.here hx rfl (pc0 := 54) (pc' := 128) rfl (hb hby d9_54) (by decide) (by decide) kz) ?_
      show own_Pc p e below _ (T89.setTop (mkF m 128 #[oR this, oR p1, oI (0 : Int32), oI c0_] []))
      refine own_pvia (fun t kz => XS.iinc X89.here hx rfl (hb hby d9_128) rfl (l' := #[oR this, oR p1, oI (1 : Int32), oI c0_]) rfl kz) ?_
      refine own_pvia (fun t kz => XS.goto X89.here hx rfl (pc0 := 131) (pc' := 2) rfl (hb hby d9_131) (by decide) (by decide) kz) ?_
      exact ⟨_, fun t k => k, ⟨T89, h89, _, rfl, X89, e89, N97, Zs96, K98, E91, U92, by unfold own_stepf; rw [if_neg hc31_7, if_neg hc40_77]; exact ⟨F93, F94, F95⟩⟩⟩
set_option maxRecDepth 65536 in
set_option maxHeartbeats 40000000 in
theorem own_turn1 {p : Program} {l : Launch} {e : Env} {R : Room} {s : State} {m : MethodId} {args : Array Value} {below : List Frame} {meth : Method} {c : Code} {T0 : State} {locs : List Loc} {cells slots : Nat} {Z : State} {a0 : Array Value} {h0 : Heap} {n0 : Nat} (this : Addr) (p1 : Addr) (wd : Int32) (wst : Int32) (wq : Int32) (c0_ : Int32) (c1_ : Int32) (c2_ : Int32) (c3_ : Int32) (c4_ : Int32) (c5_ : Int32) (wcs : Int32) (wsf : Value)
    (X0 : Stand p l e R s m args below meth c T0 locs cells slots) (hx : p.tables.exec = Jvm.exec) (hZ : Z.Warmed39 s.vm) (hw : ∀ d ∈ tables_1, d.before a0 Z = true) (hby : c.code = prog_88_method_2_code) (hml : c.maxLocals = 4) (hown : s.vm.findClass "com/example/quiescence/quiescence/model/SExpression$Balance" = some m.cls) (e0 : T0.heap = h0) (N0 : Fr n0 locs) (Z0 : n0 ≤ h0.size) (g_this : n0 ≤ this) (ltb : this < p1) (E_this : Exa Z h0 this "com/example/quiescence/quiescence/model/SExpression$Balance") (F_depth : Fld Z h0 this "com/example/quiescence/quiescence/model/SExpression$Balance" "depth" "I" (.int wd)) (F_stray : Fld Z h0 this "com/example/quiescence/quiescence/model/SExpression$Balance" "stray" "Z" (.int wst)) (F_closing : Fld Z h0 this "com/example/quiescence/quiescence/model/SExpression$Balance" "closing" "C" (.int wq)) (SR : own_Str6 Z h0 n0 p1 c0_ c1_ c2_ c3_ c4_ c5_) (hc0 : own_ch c0_) (hc1 : own_ch c1_) (hc2 : own_ch c2_) (hc3 : own_ch c3_) (hc4 : own_ch c4_) (hc5 : own_ch c5_) (OLD : Old Z n0 h0) (hcs : ¬ (wcs = (0 : Int32))) (rsf : wsf.isRef = true) (B_wcs : Sta Z Z.heap "java/lang/String" "COMPACT_STRINGS" "Z" (.int wcs)) (B_wsf : Sta Z Z.heap "jdk/internal/util/Preconditions" "SIOOBE_FORMATTER" "Ljava/util/function/BiFunction;" wsf) (B_wad : Sta Z Z.heap "java/lang/StringUTF16" "$assertionsDisabled" "Z" (.int (1 : Int32))) (B_whi : Sta Z Z.heap "java/lang/StringUTF16" "HI_BYTE_SHIFT" "I" (.int (0 : Int32))) (B_wlo : Sta Z Z.heap "java/lang/StringUTF16" "LO_BYTE_SHIFT" "I" (.int (8 : Int32))) (hs : wst = (0 : Int32)) (hq : own_ch wq) (hfr : 5 ≤ R.frames) (hlo : 66 ≤ R.locals) (hcl : cells ≤ R.cells) (hsl : slots ≤ R.slots) :
    own_Pc p e below (fun B => ∃ (T' : State) (h' : Heap) (locs' : List Loc), B = T'.setTop (mkF m 2 #[oR this, oR p1, oI (2 : Int32), oI c1_] []) ∧ Stand p l e R s m args below meth c T' locs' cells slots ∧ T'.heap = h' ∧ Fr n0 locs' ∧ n0 ≤ h'.size ∧ Keep h0 h' [this] ∧ Exa Z h' this "com/example/quiescence/quiescence/model/SExpression$Balance" ∧ own_Str6 Z h' n0 p1 c0_ c1_ c2_ c3_ c4_ c5_ ∧ own_Bal Z h' this (own_stepf wd wst wq c1_)) (T0.setTop (mkF m 2 #[oR this, oR p1, oI (1 : Int32), oI c0_] [])) := by
  show own_Pc p e below _ (T0.setTop (mkF m 2 #[oR this, oR p1, oI (1 : Int32), oI c0_] []))
  refine own_pvia (fun t kz => XS.iloadN X0.here hx rfl (hb hby d9_2) rfl kz) ?_
  refine own_pvia (fun t kz => XS.aloadN X0.here hx rfl (hb hby d9_3) rfl rfl kz) ?_
  show own_Pc p e below _ (T0.setTop (mkF m 4 #[oR this, oR p1, oI (1 : Int32), oI c0_] [(.ref p1), (.int (1 : Int32))]))
  obtain ⟨cq1, kq1, qa1, qb1, qc1⟩ := isOf hZ e0 (own_strE SR)
  obtain ⟨_, _, ⟨T1, L1, k1, n1⟩, -, X1, ⟨Lc1, hQ1, l1, y1, z1⟩, st1⟩ := X0.interfaceBack hx (xi := (⟨"java/lang/CharSequence", "length", "()I"⟩ : MethodName)) (y := (⟨"java/lang/String", "length", "()I"⟩ : MethodName)) hown (mvT hZ (own_w hw 47)) (mvT hZ (own_w hw 48)) (mvT hZ (own_w hw 49)) (mvT hZ (own_w hw 50)) (mvT hZ (own_w hw 51)) (mvT hZ (own_w hw 52)) (mvT hZ (own_w hw 53)) (mvT hZ (own_w hw 54)) (by decide) (backOf (W := 1) (rmL6 l Z a0 hw [] p1 c0_ c1_ c2_ c3_ c4_ c5_ wcs wsf h0 n0 Z0 SR OLD hcs rsf B_wcs B_wsf B_wad B_whi B_wlo) hZ (own_w hw 55) (own_w hw 17) (Nat.le_trans (by decide) hfr) (Nat.le_trans (by decide) hlo)) qa1 qb1 qc1 (g := (mkF m 4 #[oR this, oR p1, oI (1 : Int32), oI c0_] [(.ref p1), (.int (1 : Int32))])) rfl (by rw [hml]; rfl) (Steps.refl _) (argsL := []) (rest := [(.int (1 : Int32))]) (lenOf pd_9_0 rfl) rfl (by show 2 * 0 + _ ≤ _; exact Nat.le_of_eq rfl) (hb hby d9_4) (fun _ _ => ⟨rfl, e0, hcl, hsl⟩)
  dsimp only [Pt.U, Pt.locs, Pt.cells, Pt.slots] at X1 l1 y1 z1 st1 hQ1
  subst l1 y1 z1
  obtain ⟨rfl, Nq1, e1⟩ := hQ1
  have N2 := Fr.app N0 Nq1
  refine own_ptr st1 ?_
  show own_Pc p e below _ (T1.setTop (mkF m 9 #[oR this, oR p1, oI (1 : Int32), oI c0_] [(.int (6 : Int32)), (.int (1 : Int32))]))
  refine own_pvia (fun t kz => XS.icmpNo X1.here hx rfl (hb hby d9_9) rfl (tlt (by decide : (1 : Int32) < (6 : Int32))).2.1 kz) ?_
  refine own_pvia (fun t kz => XS.aloadN X1.here hx rfl (hb hby d9_12) rfl rfl kz) ?_
  show own_Pc p e below _ (T1.setTop (mkF m 13 #[oR this, oR p1, oI (1 : Int32), oI c0_] [(.ref this)]))
  obtain ⟨T3, X3, e3, st3⟩ := getF X1 hx hZ hown (host := "") (Or.inl (own_w hw 61)) Via.refl e1 F_stray (g := (mkF m 13 #[oR this, oR p1, oI (1 : Int32), oI c0_] [(.ref this)])) rfl rfl (hb hby d9_13)
  refine own_pvia st3 ?_
  show own_Pc p e below _ (T3.setTop (mkF m 16 #[oR this, oR p1, oI (1 : Int32), oI c0_] [(.int wst)]))
  refine own_pvia (fun t kz => XS.ifNo X3.here hx rfl (hb hby d9_16) rfl ((if0 _ _).trans (teq hs).2) kz) ?_
  refine own_pvia (fun t kz => XS.aloadN X3.here hx rfl (hb hby d9_19) rfl rfl kz) ?_
  refine own_pvia (fun t kz => XS.iloadN X3.here hx rfl (hb hby d9_20) rfl kz) ?_
  show own_Pc p e below _ (T3.setTop (mkF m 21 #[oR this, oR p1, oI (1 : Int32), oI c0_] [(.int (1 : Int32)), (.ref p1)]))
  obtain ⟨cq4, kq4, qa4, qb4, qc4⟩ := isOf hZ e3 (own_strE SR)
  obtain ⟨_, _, ⟨T4, L4, k4, n4⟩, -, X4, ⟨Lc4, hQ4, l4, y4, z4⟩, st4⟩ := X3.interfaceBack hx (xi := (⟨"java/lang/CharSequence", "charAt", "(I)C"⟩ : MethodName)) (y := (⟨"java/lang/String", "charAt", "(I)C"⟩ : MethodName)) hown (mvT hZ (own_w hw 63)) (mvT hZ (own_w hw 64)) (mvT hZ (own_w hw 65)) (mvT hZ (own_w hw 66)) (mvT hZ (own_w hw 67)) (mvT hZ (own_w hw 68)) (mvT hZ (own_w hw 69)) (mvT hZ (own_w hw 54)) (by decide) (backOf (W := 0) (rmA6_1 l Z a0 hw [] p1 c0_ c1_ c2_ c3_ c4_ c5_ wcs wsf h0 n0 Z0 SR hc0 hc1 hc2 hc3 hc4 hc5 OLD hcs rsf B_wcs B_wsf B_wad B_whi B_wlo) hZ (own_w hw 70) (own_w hw 17) (Nat.le_trans (by decide) hfr) (Nat.le_trans (by decide) hlo)) qa4 qb4 qc4 (g := (mkF m 21 #[oR this, oR p1, oI (1 : Int32), oI c0_] [(.int (1 : Int32)), (.ref p1)])) rfl (by rw [hml]; rfl) (Steps.refl _) (argsL := [(.int (1 : Int32))]) (rest := []) (lenOf pd_9_1 rfl) rfl (by show 2 * 0 + _ ≤ _; exact Nat.le_of_eq rfl) (hb hby d9_21) (fun _ _ => ⟨rfl, e3, hcl, hsl⟩)
  dsimp only [Pt.U, Pt.locs, Pt.cells, Pt.slots] at X4 l4 y4 z4 st4 hQ4
  subst l4 y4 z4
  obtain ⟨rfl, Nq4, e4⟩ := hQ4
  have N5 := Fr.app N2 Nq4
  refine own_ptr st4 ?_
  refine own_pvia (fun t kz => XS.istoreN X4.here hx rfl (hb hby d9_26) rfl (l' := #[oR this, oR p1, oI (1 : Int32), oI c1_]) rfl kz) ?_
  refine own_pvia (fun t kz => XS.aloadN X4.here hx rfl (hb hby d9_27) rfl rfl kz) ?_
  show own_Pc p e below _ (T4.setTop (mkF m 28 #[oR this, oR p1, oI (1 : Int32), oI c1_] [(.ref this)]))
  obtain ⟨T6, X6, e6, st6⟩ := getF X4 hx hZ hown (host := "") (Or.inl (own_w hw 88)) Via.refl e4 F_closing (g := (mkF m 28 #[oR this, oR p1, oI (1 : Int32), oI c1_] [(.ref this)])) rfl rfl (hb hby d9_28)
  refine own_pvia st6 ?_
  show own_Pc p e below _ (T6.setTop (mkF m 31 #[oR this, oR p1, oI (1 : Int32), oI c1_] [(.int wq)]))
  by_cases hc31_7 : wq = (0 : Int32)
  · refine own_pvia (fun t kz => XS.ifYes X6.here hx rfl (pc0 := 31) (pc' := 57) rfl (hb hby d9_31) rfl ((if0 _ _).trans (teq hc31_7).1) (by decide) (by decide) kz) ?_
    refine own_pvia (fun t kz => XS.iloadN X6.here hx rfl (hb hby d9_57) rfl kz) ?_
    refine own_pvia (fun t kz => XS.bipush X6.here hx rfl (hb hby d9_58) kz) ?_
    show own_Pc p e below _ (T6.setTop (mkF m 60 #[oR this, oR p1, oI (1 : Int32), oI c1_] [(.int (34 : Int32)), (.int c1_)]))
    by_cases hc60_8 : c1_ = (34 : Int32)
    · refine own_pvia (fun t kz => XS.icmpYes X6.here hx rfl (pc0 := 60) (pc' := 69) rfl (hb hby d9_60) rfl (teq hc60_8).1 (by decide) (by decide) kz) ?_
      refine own_pvia (fun t kz => XS.aloadN X6.here hx rfl (hb hby d9_69) rfl rfl kz) ?_
      refine own_pvia (fun t kz => XS.iloadN X6.here hx rfl (hb hby d9_70) rfl kz) ?_
      show own_Pc p e below _ (T6.setTop (mkF m 71 #[oR this, oR p1, oI (1 : Int32), oI c1_] [(.int c1_), (.ref this)]))
      obtain ⟨T9, h9, X9, e9, W9, st9⟩ := putF X6 hx hZ hown (host := "") (Or.inl (own_w hw 88)) Via.refl e6 F_closing E_this (Or.inl (own_w hw 89)) (own_w hw 7) (ty := .char) (by decide) (own_nch hc1) (own_fch hc1) (g := (mkF m 71 #[oR this, oR p1, oI (1 : Int32), oI c1_] [(.int c1_), (.ref this)])) rfl rfl (hb hby d9_71)
      refine own_pvia st9 ?_
      have O10 : Old Z n0 h9 := OLD.wr W9 g_this
      have E11 := E_this.wr W9
      have U12 : own_Str6 Z h9 n0 p1 c0_ c1_ c2_ c3_ c4_ c5_ := own_strw SR W9 ltb
      have F13 := F_depth.other W9 (Or.inr (slot_ne (Or.inl (own_w hw 96)) (Or.inl (own_w hw 89)) (by decide) (t := .int) (t' := .char) (by decide) (by decide)))
      have F14 := F_stray.other W9 (Or.inr (slot_ne (Or.inl (own_w hw 62)) (Or.inl (own_w hw 89)) (by decide) (t := .boolean) (t' := .char) (by decide) (by decide)))
      have F15 := F_closing.same W9
      have Zs16 : n0 ≤ h9.size := Nat.le_trans Z0 (Keep.of_wr W9).1
      have N17 := Fr.snoc X9 N5 g_this
      have K18 : Keep h0 h9 [this] := (Keep.refl h0 [this]).wr W9 (Or.inl (List.mem_of_getElem? (i := 0) rfl))
      refine own_pvia (fun t kz => XS.goto X9.here hx rfl (pc0 := 74) (pc' := 128) rfl (hb hby d9_74) (by decide) (by decide) kz) ?_
      show own_Pc p e below _ (T9.setTop (mkF m 128 #[oR this, oR p1, oI (1 : Int32), oI c1_] []))
      refine own_pvia (fun t kz => XS.iinc X9.here hx rfl (hb hby d9_128) rfl (l' := #[oR this, oR p1, oI (2 : Int32), oI c1_]) rfl kz) ?_
      refine own_pvia (fun t kz => XS.goto X9.here hx rfl (pc0 := 131) (pc' := 2) rfl (hb hby d9_131) (by decide) (by decide) kz) ?_
      exact ⟨_, fun t k => k, ⟨T9, h9, _, rfl, X9, e9, N17, Zs16, K18, E11, U12, by unfold own_stepf; rw [if_pos hc31_7, if_pos hc60_8]; exact ⟨F13, F14, F15⟩⟩⟩
    · refine own_pvia (fun t kz => XS.icmpNo X6.here hx rfl (hb hby d9_60) rfl (feq hc60_8).1 kz) ?_
      refine own_pvia (fun t kz => XS.iloadN X6.here hx rfl (hb hby d9_63) rfl kz) ?_
      refine own_pvia (fun t kz => XS.bipush X6.here hx rfl (hb hby d9_64) kz) ?_
      show own_Pc p e below _ (T6.setTop (mkF m 66 #[oR this, oR p1, oI (1 : Int32), oI c1_] [(.int (124 : Int32)), (.int c1_)]))
      by_cases hc66_19 : c1_ = (124 : Int32)
      · refine own_pvia (fun t kz => XS.icmpNo X6.here hx rfl (hb hby d9_66) rfl (teq hc66_19).2 kz) ?_
        refine own_pvia (fun t kz => XS.aloadN X6.here hx rfl (hb hby d9_69) rfl rfl kz) ?_
        refine own_pvia (fun t kz => XS.iloadN X6.here hx rfl (hb hby d9_70) rfl kz) ?_
        show own_Pc p e below _ (T6.setTop (mkF m 71 #[oR this, oR p1, oI (1 : Int32), oI c1_] [(.int c1_), (.ref this)]))
        obtain ⟨T20, h20, X20, e20, W20, st20⟩ := putF X6 hx hZ hown (host := "") (Or.inl (own_w hw 88)) Via.refl e6 F_closing E_this (Or.inl (own_w hw 89)) (own_w hw 7) (ty := .char) (by decide) (own_nch hc1) (own_fch hc1) (g := (mkF m 71 #[oR this, oR p1, oI (1 : Int32), oI c1_] [(.int c1_), (.ref this)])) rfl rfl (hb hby d9_71)
        refine own_pvia st20 ?_
        have O21 : Old Z n0 h20 := OLD.wr W20 g_this
        have E22 := E_this.wr W20
        have U23 : own_Str6 Z h20 n0 p1 c0_ c1_ c2_ c3_ c4_ c5_ := own_strw SR W20 ltb
        have F24 := F_depth.other W20 (Or.inr (slot_ne (Or.inl (own_w hw 96)) (Or.inl (own_w hw 89)) (by decide) (t := .int) (t' := .char) (by decide) (by decide)))
        have F25 := F_stray.other W20 (Or.inr (slot_ne (Or.inl (own_w hw 62)) (Or.inl (own_w hw 89)) (by decide) (t := .boolean) (t' := .char) (by decide) (by decide)))
        have F26 := F_closing.same W20
        have Zs27 : n0 ≤ h20.size := Nat.le_trans Z0 (Keep.of_wr W20).1
        have N28 := Fr.snoc X20 N5 g_this
        have K29 : Keep h0 h20 [this] := (Keep.refl h0 [this]).wr W20 (Or.inl (List.mem_of_getElem? (i := 0) rfl))
        refine own_pvia (fun t kz => XS.goto X20.here hx rfl (pc0 := 74) (pc' := 128) rfl (hb hby d9_74) (by decide) (by decide) kz) ?_
        show own_Pc p e below _ (T20.setTop (mkF m 128 #[oR this, oR p1, oI (1 : Int32), oI c1_] []))
        refine own_pvia (fun t kz => XS.iinc X20.here hx rfl (hb hby d9_128) rfl (l' := #[oR this, oR p1, oI (2 : Int32), oI c1_]) rfl kz) ?_
        refine own_pvia (fun t kz => XS.goto X20.here hx rfl (pc0 := 131) (pc' := 2) rfl (hb hby d9_131) (by decide) (by decide) kz) ?_
        exact ⟨_, fun t k => k, ⟨T20, h20, _, rfl, X20, e20, N28, Zs27, K29, E22, U23, by unfold own_stepf; rw [if_pos hc31_7, if_neg hc60_8, if_pos hc66_19]; exact ⟨F24, F25, F26⟩⟩⟩
      · refine own_pvia (fun t kz => XS.icmpYes X6.here hx rfl (pc0 := 66) (pc' := 77) rfl (hb hby d9_66) rfl (feq hc66_19).2 (by decide) (by decide) kz) ?_
        refine own_pvia (fun t kz => XS.iloadN X6.here hx rfl (hb hby d9_77) rfl kz) ?_
        refine own_pvia (fun t kz => XS.bipush X6.here hx rfl (hb hby d9_78) kz) ?_
        show own_Pc p e below _ (T6.setTop (mkF m 80 #[oR this, oR p1, oI (1 : Int32), oI c1_] [(.int (40 : Int32)), (.int c1_)]))
        by_cases hc80_30 : c1_ = (40 : Int32)
        · refine own_pvia (fun t kz => XS.icmpNo X6.here hx rfl (hb hby d9_80) rfl (teq hc80_30).2 kz) ?_
          refine own_pvia (fun t kz => XS.aloadN X6.here hx rfl (hb hby d9_83) rfl rfl kz) ?_
          refine own_pvia (fun t kz => XS.dup X6.here hx rfl (hb hby d9_84) rfl rfl kz) ?_
          show own_Pc p e below _ (T6.setTop (mkF m 85 #[oR this, oR p1, oI (1 : Int32), oI c1_] [(.ref this), (.ref this)]))
          obtain ⟨T31, X31, e31, st31⟩ := getF X6 hx hZ hown (host := "") (Or.inl (own_w hw 95)) Via.refl e6 F_depth (g := (mkF m 85 #[oR this, oR p1, oI (1 : Int32), oI c1_] [(.ref this), (.ref this)])) rfl rfl (hb hby d9_85)
          refine own_pvia st31 ?_
          refine own_pvia (fun t kz => XS.iconst X31.here hx rfl (hb hby d9_88) kz) ?_
          refine own_pvia (fun t kz => XS.iadd X31.here hx rfl (hb hby d9_89) rfl kz) ?_
          show own_Pc p e below _ (T31.setTop (mkF m 90 #[oR this, oR p1, oI (1 : Int32), oI c1_] [(.int (wd + (1 : Int32))), (.ref this)]))
          obtain ⟨T32, h32, X32, e32, W32, st32⟩ := putF X31 hx hZ hown (host := "") (Or.inl (own_w hw 95)) Via.refl e31 F_depth E_this (Or.inl (own_w hw 96)) (own_w hw 7) (ty := .int) (by decide) rfl rfl (g := (mkF m 90 #[oR this, oR p1, oI (1 : Int32), oI c1_] [(.int (wd + (1 : Int32))), (.ref this)])) rfl rfl (hb hby d9_90)
          refine own_pvia st32 ?_
          have O33 : Old Z n0 h32 := OLD.wr W32 g_this
          have E34 := E_this.wr W32
          have U35 : own_Str6 Z h32 n0 p1 c0_ c1_ c2_ c3_ c4_ c5_ := own_strw SR W32 ltb
          have F36 := F_depth.same W32
          have F37 := F_stray.other W32 (Or.inr (slot_ne (Or.inl (own_w hw 62)) (Or.inl (own_w hw 96)) (by decide) (t := .boolean) (t' := .int) (by decide) (by decide)))
          have F38 := F_closing.other W32 (Or.inr (slot_ne (Or.inl (own_w hw 89)) (Or.inl (own_w hw 96)) (by decide) (t := .char) (t' := .int) (by decide) (by decide)))
          have Zs39 : n0 ≤ h32.size := Nat.le_trans Z0 (Keep.of_wr W32).1
          have N40 := Fr.snoc X32 N5 g_this
          have K41 : Keep h0 h32 [this] := (Keep.refl h0 [this]).wr W32 (Or.inl (List.mem_of_getElem? (i := 0) rfl))
          refine own_pvia (fun t kz => XS.goto X32.here hx rfl (pc0 := 93) (pc' := 128) rfl (hb hby d9_93) (by decide) (by decide) kz) ?_
          show own_Pc p e below _ (T32.setTop (mkF m 128 #[oR this, oR p1, oI (1 : Int32), oI c1_] []))
          refine own_pvia (fun t kz => XS.iinc X32.here hx rfl (hb hby d9_128) rfl (l' := #[oR this, oR p1, oI (2 : Int32), oI c1_]) rfl kz) ?_
          refine own_pvia (fun t kz => XS.goto X32.here hx rfl (pc0 := 131) (pc' := 2) rfl (hb hby d9_131) (by decide) (by decide) kz) ?_
          exact ⟨_, fun t k => k, ⟨T32, h32, _, rfl, X32, e32, N40, Zs39, K41, E34, U35, by unfold own_stepf; rw [if_pos hc31_7, if_neg hc60_8, if_neg hc66_19, if_pos hc80_30]; exact ⟨F36, F37, F38⟩⟩⟩
        · refine own_pvia (fun t kz => XS.icmpYes X6.here hx rfl (pc0 := 80) (pc' := 96) rfl (hb hby d9_80) rfl (feq hc80_30).2 (by decide) (by decide) kz) ?_
          refine own_pvia (fun t kz => XS.iloadN X6.here hx rfl (hb hby d9_96) rfl kz) ?_
          refine own_pvia (fun t kz => XS.bipush X6.here hx rfl (hb hby d9_97) kz) ?_
          show own_Pc p e below _ (T6.setTop (mkF m 99 #[oR this, oR p1, oI (1 : Int32), oI c1_] [(.int (41 : Int32)), (.int c1_)]))
          by_cases hc99_42 : c1_ = (41 : Int32)
          · refine own_pvia (fun t kz => XS.icmpNo X6.here hx rfl (hb hby d9_99) rfl (teq hc99_42).2 kz) ?_
            refine own_pvia (fun t kz => XS.aloadN X6.here hx rfl (hb hby d9_102) rfl rfl kz) ?_
            refine own_pvia (fun t kz => XS.dup X6.here hx rfl (hb hby d9_103) rfl rfl kz) ?_
            show own_Pc p e below _ (T6.setTop (mkF m 104 #[oR this, oR p1, oI (1 : Int32), oI c1_] [(.ref this), (.ref this)]))
            obtain ⟨T43, X43, e43, st43⟩ := getF X6 hx hZ hown (host := "") (Or.inl (own_w hw 95)) Via.refl e6 F_depth (g := (mkF m 104 #[oR this, oR p1, oI (1 : Int32), oI c1_] [(.ref this), (.ref this)])) rfl rfl (hb hby d9_104)
            refine own_pvia st43 ?_
            refine own_pvia (fun t kz => XS.iconst X43.here hx rfl (hb hby d9_107) kz) ?_
            refine own_pvia (fun t kz => XS.isub X43.here hx rfl (hb hby d9_108) rfl kz) ?_
            show own_Pc p e below _ (T43.setTop (mkF m 109 #[oR this, oR p1, oI (1 : Int32), oI c1_] [(.int (wd - (1 : Int32))), (.ref this)]))
            obtain ⟨T44, h44, X44, e44, W44, st44⟩ := putF X43 hx hZ hown (host := "") (Or.inl (own_w hw 95)) Via.refl e43 F_depth E_this (Or.inl (own_w hw 96)) (own_w hw 7) (ty := .int) (by decide) rfl rfl (g := (mkF m 109 #[oR this, oR p1, oI (1 : Int32), oI c1_] [(.int (wd - (1 : Int32))), (.ref this)])) rfl rfl (hb hby d9_109)
            refine own_pvia st44 ?_
            have O45 : Old Z n0 h44 := OLD.wr W44 g_this
            have E46 := E_this.wr W44
            have U47 : own_Str6 Z h44 n0 p1 c0_ c1_ c2_ c3_ c4_ c5_ := own_strw SR W44 ltb
            have F48 := F_depth.same W44
            have F49 := F_stray.other W44 (Or.inr (slot_ne (Or.inl (own_w hw 62)) (Or.inl (own_w hw 96)) (by decide) (t := .boolean) (t' := .int) (by decide) (by decide)))
            have F50 := F_closing.other W44 (Or.inr (slot_ne (Or.inl (own_w hw 89)) (Or.inl (own_w hw 96)) (by decide) (t := .char) (t' := .int) (by decide) (by decide)))
            have Zs51 : n0 ≤ h44.size := Nat.le_trans Z0 (Keep.of_wr W44).1
            have N52 := Fr.snoc X44 N5 g_this
            have K53 : Keep h0 h44 [this] := (Keep.refl h0 [this]).wr W44 (Or.inl (List.mem_of_getElem? (i := 0) rfl))
            refine own_pvia (fun t kz => XS.aloadN X44.here hx rfl (hb hby d9_112) rfl rfl kz) ?_
            refine own_pvia (fun t kz => XS.aloadN X44.here hx rfl (hb hby d9_113) rfl rfl kz) ?_
            show own_Pc p e below _ (T44.setTop (mkF m 114 #[oR this, oR p1, oI (1 : Int32), oI c1_] [(.ref this), (.ref this)]))
            obtain ⟨T54, X54, e54, st54⟩ := getF X44 hx hZ hown (host := "") (Or.inl (own_w hw 95)) Via.refl e44 F48 (g := (mkF m 114 #[oR this, oR p1, oI (1 : Int32), oI c1_] [(.ref this), (.ref this)])) rfl rfl (hb hby d9_114)
            refine own_pvia st54 ?_
            show own_Pc p e below _ (T54.setTop (mkF m 117 #[oR this, oR p1, oI (1 : Int32), oI c1_] [(.int (wd - (1 : Int32))), (.ref this)]))
            by_cases hc117_55 : (wd - (1 : Int32)) < (0 : Int32)
            · refine own_pvia (fun t kz => XS.ifNo X54.here hx rfl (hb hby d9_117) rfl ((if0 _ _).trans (tlt hc117_55).2.1) kz) ?_
              refine own_pvia (fun t kz => XS.iconst X54.here hx rfl (hb hby d9_120) kz) ?_
              refine own_pvia (fun t kz => XS.goto X54.here hx rfl (pc0 := 121) (pc' := 125) rfl (hb hby d9_121) (by decide) (by decide) kz) ?_
              show own_Pc p e below _ (T54.setTop (mkF m 125 #[oR this, oR p1, oI (1 : Int32), oI c1_] [(.int (1 : Int32)), (.ref this)]))
              obtain ⟨T56, h56, X56, e56, W56, st56⟩ := putF X54 hx hZ hown (host := "") (Or.inl (own_w hw 61)) Via.refl e54 F49 E46 (Or.inl (own_w hw 62)) (own_w hw 7) (ty := .boolean) (by decide) rfl rfl (g := (mkF m 125 #[oR this, oR p1, oI (1 : Int32), oI c1_] [(.int (1 : Int32)), (.ref this)])) rfl rfl (hb hby d9_125)
              refine own_pvia st56 ?_
              have O57 : Old Z n0 h56 := O45.wr W56 g_this
              have E58 := E46.wr W56
              have U59 : own_Str6 Z h56 n0 p1 c0_ c1_ c2_ c3_ c4_ c5_ := own_strw U47 W56 ltb
              have F60 := F48.other W56 (Or.inr (slot_ne (Or.inl (own_w hw 96)) (Or.inl (own_w hw 62)) (by decide) (t := .int) (t' := .boolean) (by decide) (by decide)))
              have F61 := F49.same W56
              have F62 := F50.other W56 (Or.inr (slot_ne (Or.inl (own_w hw 89)) (Or.inl (own_w hw 62)) (by decide) (t := .char) (t' := .boolean) (by decide) (by decide)))
              have Zs63 : n0 ≤ h56.size := Nat.le_trans Zs51 (Keep.of_wr W56).1
              have N64 := Fr.snoc X56 N52 g_this
              have K65 : Keep h0 h56 [this] := K53.wr W56 (Or.inl (List.mem_of_getElem? (i := 0) rfl))
              show own_Pc p e below _ (T56.setTop (mkF m 128 #[oR this, oR p1, oI (1 : Int32), oI c1_] []))
              refine own_pvia (fun t kz => XS.iinc X56.here hx rfl (hb hby d9_128) rfl (l' := #[oR this, oR p1, oI (2 : Int32), oI c1_]) rfl kz) ?_
              refine own_pvia (fun t kz => XS.goto X56.here hx rfl (pc0 := 131) (pc' := 2) rfl (hb hby d9_131) (by decide) (by decide) kz) ?_
              exact ⟨_, fun t k => k, ⟨T56, h56, _, rfl, X56, e56, N64, Zs63, K65, E58, U59, by unfold own_stepf; rw [if_pos hc31_7, if_neg hc60_8, if_neg hc66_19, if_neg hc80_30, if_pos hc99_42, if_pos hc117_55]; exact ⟨F60, F61, F62⟩⟩⟩
            · refine own_pvia (fun t kz => XS.ifYes X54.here hx rfl (pc0 := 117) (pc' := 124) rfl (hb hby d9_117) rfl ((if0 _ _).trans (flt hc117_55).2.1) (by decide) (by decide) kz) ?_
              refine own_pvia (fun t kz => XS.iconst X54.here hx rfl (hb hby d9_124) kz) ?_
              show own_Pc p e below _ (T54.setTop (mkF m 125 #[oR this, oR p1, oI (1 : Int32), oI c1_] [(.int (0 : Int32)), (.ref this)]))
              obtain ⟨T66, h66, X66, e66, W66, st66⟩ := putF X54 hx hZ hown (host := "") (Or.inl (own_w hw 61)) Via.refl e54 F49 E46 (Or.inl (own_w hw 62)) (own_w hw 7) (ty := .boolean) (by decide) rfl rfl (g := (mkF m 125 #[oR this, oR p1, oI (1 : Int32), oI c1_] [(.int (0 : Int32)), (.ref this)])) rfl rfl (hb hby d9_125)
              refine own_pvia st66 ?_
              have O67 : Old Z n0 h66 := O45.wr W66 g_this
              have E68 := E46.wr W66
              have U69 : own_Str6 Z h66 n0 p1 c0_ c1_ c2_ c3_ c4_ c5_ := own_strw U47 W66 ltb
              have F70 := F48.other W66 (Or.inr (slot_ne (Or.inl (own_w hw 96)) (Or.inl (own_w hw 62)) (by decide) (t := .int) (t' := .boolean) (by decide) (by decide)))
              have F71 := F49.same W66
              have F72 := F50.other W66 (Or.inr (slot_ne (Or.inl (own_w hw 89)) (Or.inl (own_w hw 62)) (by decide) (t := .char) (t' := .boolean) (by decide) (by decide)))
              have Zs73 : n0 ≤ h66.size := Nat.le_trans Zs51 (Keep.of_wr W66).1
              have N74 := Fr.snoc X66 N52 g_this
              have K75 : Keep h0 h66 [this] := K53.wr W66 (Or.inl (List.mem_of_getElem? (i := 0) rfl))
              show own_Pc p e below _ (T66.setTop (mkF m 128 #[oR this, oR p1, oI (1 : Int32), oI c1_] []))
              refine own_pvia (fun t kz => XS.iinc X66.here hx rfl (hb hby d9_128) rfl (l' := #[oR this, oR p1, oI (2 : Int32), oI c1_]) rfl kz) ?_
              refine own_pvia (fun t kz => XS.goto X66.here hx rfl (pc0 := 131) (pc' := 2) rfl (hb hby d9_131) (by decide) (by decide) kz) ?_
              exact ⟨_, fun t k => k, ⟨T66, h66, _, rfl, X66, e66, N74, Zs73, K75, E68, U69, by unfold own_stepf; rw [if_pos hc31_7, if_neg hc60_8, if_neg hc66_19, if_neg hc80_30, if_pos hc99_42, if_neg hc117_55]; exact ⟨F70, F71, F72⟩⟩⟩
          · refine own_pvia (fun t kz => XS.icmpYes X6.here hx rfl (pc0 := 99) (pc' := 128) rfl (hb hby d9_99) rfl (feq hc99_42).2 (by decide) (by decide) kz) ?_
            show own_Pc p e below _ (T6.setTop (mkF m 128 #[oR this, oR p1, oI (1 : Int32), oI c1_] []))
            refine own_pvia (fun t kz => XS.iinc X6.here hx rfl (hb hby d9_128) rfl (l' := #[oR this, oR p1, oI (2 : Int32), oI c1_]) rfl kz) ?_
            refine own_pvia (fun t kz => XS.goto X6.here hx rfl (pc0 := 131) (pc' := 2) rfl (hb hby d9_131) (by decide) (by decide) kz) ?_
            exact ⟨_, fun t k => k, ⟨T6, h0, _, rfl, X6, e6, N5, Z0, (Keep.refl h0 [this]), E_this, SR, by unfold own_stepf; rw [if_pos hc31_7, if_neg hc60_8, if_neg hc66_19, if_neg hc80_30, if_neg hc99_42]; exact ⟨F_depth, F_stray, F_closing⟩⟩⟩
  · refine own_pvia (fun t kz => XS.ifNo X6.here hx rfl (hb hby d9_31) rfl ((if0 _ _).trans (feq hc31_7).1) kz) ?_
    refine own_pvia (fun t kz => XS.aloadN X6.here hx rfl (hb hby d9_34) rfl rfl kz) ?_
    refine own_pvia (fun t kz => XS.iloadN X6.here hx rfl (hb hby d9_35) rfl kz) ?_
    refine own_pvia (fun t kz => XS.aloadN X6.here hx rfl (hb hby d9_36) rfl rfl kz) ?_
    show own_Pc p e below _ (T6.setTop (mkF m 37 #[oR this, oR p1, oI (1 : Int32), oI c1_] [(.ref this), (.int c1_), (.ref this)]))
    obtain ⟨T76, X76, e76, st76⟩ := getF X6 hx hZ hown (host := "") (Or.inl (own_w hw 88)) Via.refl e6 F_closing (g := (mkF m 37 #[oR this, oR p1, oI (1 : Int32), oI c1_] [(.ref this), (.int c1_), (.ref this)])) rfl rfl (hb hby d9_37)
    refine own_pvia st76 ?_
    show own_Pc p e below _ (T76.setTop (mkF m 40 #[oR this, oR p1, oI (1 : Int32), oI c1_] [(.int wq), (.int c1_), (.ref this)]))
    by_cases hc40_77 : c1_ = wq
    · refine own_pvia (fun t kz => XS.icmpNo X76.here hx rfl (hb hby d9_40) rfl (teq hc40_77).2 kz) ?_
      refine own_pvia (fun t kz => XS.iconst X76.here hx rfl (hb hby d9_43) kz) ?_
      refine own_pvia (fun t kz => XS.goto X76.here hx rfl (pc0 := 44) (pc' := 51) rfl (hb hby d9_44) (by decide) (by decide) kz) ?_
      show own_Pc p e below _ (T76.setTop (mkF m 51 #[oR this, oR p1, oI (1 : Int32), oI c1_] [(.int (0 : Int32)), (.ref this)]))
      obtain ⟨T78, h78, X78, e78, W78, st78⟩ := putF X76 hx hZ hown (host := "") (Or.inl (own_w hw 88)) Via.refl e76 F_closing E_this (Or.inl (own_w hw 89)) (own_w hw 7) (ty := .char) (by decide) rfl rfl (g := (mkF m 51 #[oR this, oR p1, oI (1 : Int32), oI c1_] [(.int (0 : Int32)), (.ref this)])) rfl rfl (hb hby d9_51)
      refine own_pvia st78 ?_
      have O79 : Old Z n0 h78 := OLD.wr W78 g_this
      have E80 := E_this.wr W78
      have U81 : own_Str6 Z h78 n0 p1 c0_ c1_ c2_ c3_ c4_ c5_ := own_strw SR W78 ltb
      have F82 := F_depth.other W78 (Or.inr (slot_ne (Or.inl (own_w hw 96)) (Or.inl (own_w hw 89)) (by decide) (t := .int) (t' := .char) (by decide) (by decide)))
      have F83 := F_stray.other W78 (Or.inr (slot_ne (Or.inl (own_w hw 62)) (Or.inl (own_w hw 89)) (by decide) (t := .boolean) (t' := .char) (by decide) (by decide)))
      have F84 := F_closing.same W78
      have Zs85 : n0 ≤ h78.size := Nat.le_trans Z0 (Keep.of_wr W78).1
      have N86 := Fr.snoc X78 N5 g_this
      have K87 : Keep h0 h78 [this] := (Keep.refl h0 [this]).wr W78 (Or.inl (List.mem_of_getElem? (i := 0) rfl))
      refine own_pvia (fun t kz => XS.goto X78.here hx rfl (pc0 := 54) (pc' := 128) rfl (hb hby d9_54) (by decide) (by decide) kz) ?_
      show own_Pc p e below _ (T78.setTop (mkF m 128 #[oR this, oR p1, oI (1 : Int32), oI c1_] []))
      refine own_pvia (fun t kz => XS.iinc X78.here hx rfl (hb hby d9_128) rfl (l' := #[oR this, oR p1, oI (2 : Int32), oI c1_]) rfl kz) ?_
      refine own_pvia (fun t kz => XS.goto X78.here hx rfl (pc0 := 131) (pc' := 2) rfl (hb hby d9_131) (by decide) (by decide) kz) ?_
      exact ⟨_, fun t k => k, ⟨T78, h78, _, rfl, X78, e78, N86, Zs85, K87, E80, U81, by unfold own_stepf; rw [if_neg hc31_7, if_pos hc40_77]; exact ⟨F82, F83, F84⟩⟩⟩
    · refine own_pvia (fun t kz => XS.icmpYes X76.here hx rfl (pc0 := 40) (pc' := 47) rfl (hb hby d9_40) rfl (feq hc40_77).2 (by decide) (by decide) kz) ?_
      refine own_pvia (fun t kz => XS.aloadN X76.here hx rfl (hb hby d9_47) rfl rfl kz) ?_
      show own_Pc p e below _ (T76.setTop (mkF m 48 #[oR this, oR p1, oI (1 : Int32), oI c1_] [(.ref this), (.ref this)]))
      obtain ⟨T88, X88, e88, st88⟩ := getF X76 hx hZ hown (host := "") (Or.inl (own_w hw 88)) Via.refl e76 F_closing (g := (mkF m 48 #[oR this, oR p1, oI (1 : Int32), oI c1_] [(.ref this), (.ref this)])) rfl rfl (hb hby d9_48)
      refine own_pvia st88 ?_
      show own_Pc p e below _ (T88.setTop (mkF m 51 #[oR this, oR p1, oI (1 : Int32), oI c1_] [(.int wq), (.ref this)]))
      obtain ⟨T89, h89, X89, e89, W89, st89⟩ := putF X88 hx hZ hown (host := "") (Or.inl (own_w hw 88)) Via.refl e88 F_closing E_this (Or.inl (own_w hw 89)) (own_w hw 7) (ty := .char) (by decide) (own_nch hq) (own_fch hq) (g := (mkF m 51 #[oR this, oR p1, oI (1 : Int32), oI c1_] [(.int wq), (.ref this)])) rfl rfl (hb hby d9_51)
      refine own_pvia st89 ?_
      have O90 : Old Z n0 h89 := OLD.wr W89 g_this
      have E91 := E_this.wr W89
      have U92 : own_Str6 Z h89 n0 p1 c0_ c1_ c2_ c3_ c4_ c5_ := own_strw SR W89 ltb
      have F93 := F_depth.other W89 (Or.inr (slot_ne (Or.inl (own_w hw 96)) (Or.inl (own_w hw 89)) (by decide) (t := .int) (t' := .char) (by decide) (by decide)))
      have F94 := F_stray.other W89 (Or.inr (slot_ne (Or.inl (own_w hw 62)) (Or.inl (own_w hw 89)) (by decide) (t := .boolean) (t' := .char) (by decide) (by decide)))
      have F95 := F_closing.same W89
      have Zs96 : n0 ≤ h89.size := Nat.le_trans Z0 (Keep.of_wr W89).1
      have N97 := Fr.snoc X89 N5 g_this
      have K98 : Keep h0 h89 [this] := (Keep.refl h0 [this]).wr W89 (Or.inl (List.mem_of_getElem? (i := 0) rfl))
      refine own_pvia (fun t kz => XS.goto X89.here hx rfl (pc0 := 54) (pc' := 128) rfl (hb hby d9_54) (by decide) (by decide) kz) ?_
      show own_Pc p e below _ (T89.setTop (mkF m 128 #[oR this, oR p1, oI (1 : Int32), oI c1_] []))
      refine own_pvia (fun t kz => XS.iinc X89.here hx rfl (hb hby d9_128) rfl (l' := #[oR this, oR p1, oI (2 : Int32), oI c1_]) rfl kz) ?_
      refine own_pvia (fun t kz => XS.goto X89.here hx rfl (pc0 := 131) (pc' := 2) rfl (hb hby d9_131) (by decide) (by decide) kz) ?_
      exact ⟨_, fun t k => k, ⟨T89, h89, _, rfl, X89, e89, N97, Zs96, K98, E91, U92, by unfold own_stepf; rw [if_neg hc31_7, if_neg hc40_77]; exact ⟨F93, F94, F95⟩⟩⟩
set_option maxRecDepth 65536 in
set_option maxHeartbeats 40000000 in
theorem own_turn2 {p : Program} {l : Launch} {e : Env} {R : Room} {s : State} {m : MethodId} {args : Array Value} {below : List Frame} {meth : Method} {c : Code} {T0 : State} {locs : List Loc} {cells slots : Nat} {Z : State} {a0 : Array Value} {h0 : Heap} {n0 : Nat} (this : Addr) (p1 : Addr) (wd : Int32) (wst : Int32) (wq : Int32) (c0_ : Int32) (c1_ : Int32) (c2_ : Int32) (c3_ : Int32) (c4_ : Int32) (c5_ : Int32) (wcs : Int32) (wsf : Value)
    (X0 : Stand p l e R s m args below meth c T0 locs cells slots) (hx : p.tables.exec = Jvm.exec) (hZ : Z.Warmed39 s.vm) (hw : ∀ d ∈ tables_1, d.before a0 Z = true) (hby : c.code = prog_88_method_2_code) (hml : c.maxLocals = 4) (hown : s.vm.findClass "com/example/quiescence/quiescence/model/SExpression$Balance" = some m.cls) (e0 : T0.heap = h0) (N0 : Fr n0 locs) (Z0 : n0 ≤ h0.size) (g_this : n0 ≤ this) (ltb : this < p1) (E_this : Exa Z h0 this "com/example/quiescence/quiescence/model/SExpression$Balance") (F_depth : Fld Z h0 this "com/example/quiescence/quiescence/model/SExpression$Balance" "depth" "I" (.int wd)) (F_stray : Fld Z h0 this "com/example/quiescence/quiescence/model/SExpression$Balance" "stray" "Z" (.int wst)) (F_closing : Fld Z h0 this "com/example/quiescence/quiescence/model/SExpression$Balance" "closing" "C" (.int wq)) (SR : own_Str6 Z h0 n0 p1 c0_ c1_ c2_ c3_ c4_ c5_) (hc0 : own_ch c0_) (hc1 : own_ch c1_) (hc2 : own_ch c2_) (hc3 : own_ch c3_) (hc4 : own_ch c4_) (hc5 : own_ch c5_) (OLD : Old Z n0 h0) (hcs : ¬ (wcs = (0 : Int32))) (rsf : wsf.isRef = true) (B_wcs : Sta Z Z.heap "java/lang/String" "COMPACT_STRINGS" "Z" (.int wcs)) (B_wsf : Sta Z Z.heap "jdk/internal/util/Preconditions" "SIOOBE_FORMATTER" "Ljava/util/function/BiFunction;" wsf) (B_wad : Sta Z Z.heap "java/lang/StringUTF16" "$assertionsDisabled" "Z" (.int (1 : Int32))) (B_whi : Sta Z Z.heap "java/lang/StringUTF16" "HI_BYTE_SHIFT" "I" (.int (0 : Int32))) (B_wlo : Sta Z Z.heap "java/lang/StringUTF16" "LO_BYTE_SHIFT" "I" (.int (8 : Int32))) (hs : wst = (0 : Int32)) (hq : own_ch wq) (hfr : 5 ≤ R.frames) (hlo : 66 ≤ R.locals) (hcl : cells ≤ R.cells) (hsl : slots ≤ R.slots) :
    own_Pc p e below (fun B => ∃ (T' : State) (h' : Heap) (locs' : List Loc), B = T'.setTop (mkF m 2 #[oR this, oR p1, oI (3 : Int32), oI c2_] []) ∧ Stand p l e R s m args below meth c T' locs' cells slots ∧ T'.heap = h' ∧ Fr n0 locs' ∧ n0 ≤ h'.size ∧ Keep h0 h' [this] ∧ Exa Z h' this "com/example/quiescence/quiescence/model/SExpression$Balance" ∧ own_Str6 Z h' n0 p1 c0_ c1_ c2_ c3_ c4_ c5_ ∧ own_Bal Z h' this (own_stepf wd wst wq c2_)) (T0.setTop (mkF m 2 #[oR this, oR p1, oI (2 : Int32), oI c1_] [])) := by
  show own_Pc p e below _ (T0.setTop (mkF m 2 #[oR this, oR p1, oI (2 : Int32), oI c1_] []))
  refine own_pvia (fun t kz => XS.iloadN X0.here hx rfl (hb hby d9_2) rfl kz) ?_
  refine own_pvia (fun t kz => XS.aloadN X0.here hx rfl (hb hby d9_3) rfl rfl kz) ?_
  show own_Pc p e below _ (T0.setTop (mkF m 4 #[oR this, oR p1, oI (2 : Int32), oI c1_] [(.ref p1), (.int (2 : Int32))]))
  obtain ⟨cq1, kq1, qa1, qb1, qc1⟩ := isOf hZ e0 (own_strE SR)
  obtain ⟨_, _, ⟨T1, L1, k1, n1⟩, -, X1, ⟨Lc1, hQ1, l1, y1, z1⟩, st1⟩ := X0.interfaceBack hx (xi := (⟨"java/lang/CharSequence", "length", "()I"⟩ : MethodName)) (y := (⟨"java/lang/String", "length", "()I"⟩ : MethodName)) hown (mvT hZ (own_w hw 47)) (mvT hZ (own_w hw 48)) (mvT hZ (own_w hw 49)) (mvT hZ (own_w hw 50)) (mvT hZ (own_w hw 51)) (mvT hZ (own_w hw 52)) (mvT hZ (own_w hw 53)) (mvT hZ (own_w hw 54)) (by decide) (backOf (W := 1) (rmL6 l Z a0 hw [] p1 c0_ c1_ c2_ c3_ c4_ c5_ wcs wsf h0 n0 Z0 SR OLD hcs rsf B_wcs B_wsf B_wad B_whi B_wlo) hZ (own_w hw 55) (own_w hw 17) (Nat.le_trans (by decide) hfr) (Nat.le_trans (by decide) hlo)) qa1 qb1 qc1 (g := (mkF m 4 #[oR this, oR p1, oI (2 : Int32), oI c1_] [(.ref p1), (.int (2 : Int32))])) rfl (by rw [hml]; rfl) (Steps.refl _) (argsL := []) (rest := [(.int (2 : Int32))]) (lenOf pd_9_0 rfl) rfl (by show 2 * 0 + _ ≤ _; exact Nat.le_of_eq rfl) (hb hby d9_4) (fun _ _ => ⟨rfl, e0, hcl, hsl⟩)
  dsimp only [Pt.U, Pt.locs, Pt.cells, Pt.slots] at X1 l1 y1 z1 st1 hQ1
  subst l1 y1 z1
  obtain ⟨rfl, Nq1, e1⟩ := hQ1
  have N2 := Fr.app N0 Nq1
  refine own_ptr st1 ?_
  show own_Pc p e below _ (T1.setTop (mkF m 9 #[oR this, oR p1, oI (2 : Int32), oI c1_] [(.int (6 : Int32)), (.int (2 : Int32))]))
  refine own_pvia (fun t kz => XS.icmpNo X1.here hx rfl (hb hby d9_9) rfl (tlt (by decide : (2 : Int32) < (6 : Int32))).2.1 kz) ?_
  refine own_pvia (fun t kz => XS.aloadN X1.here hx rfl (hb hby d9_12) rfl rfl kz) ?_
  show own_Pc p e below _ (T1.setTop (mkF m 13 #[oR this, oR p1, oI (2 : Int32), oI c1_] [(.ref this)]))
  obtain ⟨T3, X3, e3, st3⟩ := getF X1 hx hZ hown (host := "") (Or.inl (own_w hw 61)) Via.refl e1 F_stray (g := (mkF m 13 #[oR this, oR p1, oI (2 : Int32), oI c1_] [(.ref this)])) rfl rfl (hb hby d9_13)
  refine own_pvia st3 ?_
  show own_Pc p e below _ (T3.setTop (mkF m 16 #[oR this, oR p1, oI (2 : Int32), oI c1_] [(.int wst)]))
  refine own_pvia (fun t kz => XS.ifNo X3.here hx rfl (hb hby d9_16) rfl ((if0 _ _).trans (teq hs).2) kz) ?_
  refine own_pvia (fun t kz => XS.aloadN X3.here hx rfl (hb hby d9_19) rfl rfl kz) ?_
  refine own_pvia (fun t kz => XS.iloadN X3.here hx rfl (hb hby d9_20) rfl kz) ?_
  show own_Pc p e below _ (T3.setTop (mkF m 21 #[oR this, oR p1, oI (2 : Int32), oI c1_] [(.int (2 : Int32)), (.ref p1)]))
  obtain ⟨cq4, kq4, qa4, qb4, qc4⟩ := isOf hZ e3 (own_strE SR)
  obtain ⟨_, _, ⟨T4, L4, k4, n4⟩, -, X4, ⟨Lc4, hQ4, l4, y4, z4⟩, st4⟩ := X3.interfaceBack hx (xi := (⟨"java/lang/CharSequence", "charAt", "(I)C"⟩ : MethodName)) (y := (⟨"java/lang/String", "charAt", "(I)C"⟩ : MethodName)) hown (mvT hZ (own_w hw 63)) (mvT hZ (own_w hw 64)) (mvT hZ (own_w hw 65)) (mvT hZ (own_w hw 66)) (mvT hZ (own_w hw 67)) (mvT hZ (own_w hw 68)) (mvT hZ (own_w hw 69)) (mvT hZ (own_w hw 54)) (by decide) (backOf (W := 0) (rmA6_2 l Z a0 hw [] p1 c0_ c1_ c2_ c3_ c4_ c5_ wcs wsf h0 n0 Z0 SR hc0 hc1 hc2 hc3 hc4 hc5 OLD hcs rsf B_wcs B_wsf B_wad B_whi B_wlo) hZ (own_w hw 70) (own_w hw 17) (Nat.le_trans (by decide) hfr) (Nat.le_trans (by decide) hlo)) qa4 qb4 qc4 (g := (mkF m 21 #[oR this, oR p1, oI (2 : Int32), oI c1_] [(.int (2 : Int32)), (.ref p1)])) rfl (by rw [hml]; rfl) (Steps.refl _) (argsL := [(.int (2 : Int32))]) (rest := []) (lenOf pd_9_1 rfl) rfl (by show 2 * 0 + _ ≤ _; exact Nat.le_of_eq rfl) (hb hby d9_21) (fun _ _ => ⟨rfl, e3, hcl, hsl⟩)
  dsimp only [Pt.U, Pt.locs, Pt.cells, Pt.slots] at X4 l4 y4 z4 st4 hQ4
  subst l4 y4 z4
  obtain ⟨rfl, Nq4, e4⟩ := hQ4
  have N5 := Fr.app N2 Nq4
  refine own_ptr st4 ?_
  refine own_pvia (fun t kz => XS.istoreN X4.here hx rfl (hb hby d9_26) rfl (l' := #[oR this, oR p1, oI (2 : Int32), oI c2_]) rfl kz) ?_
  refine own_pvia (fun t kz => XS.aloadN X4.here hx rfl (hb hby d9_27) rfl rfl kz) ?_
  show own_Pc p e below _ (T4.setTop (mkF m 28 #[oR this, oR p1, oI (2 : Int32), oI c2_] [(.ref this)]))
  obtain ⟨T6, X6, e6, st6⟩ := getF X4 hx hZ hown (host := "") (Or.inl (own_w hw 88)) Via.refl e4 F_closing (g := (mkF m 28 #[oR this, oR p1, oI (2 : Int32), oI c2_] [(.ref this)])) rfl rfl (hb hby d9_28)
  refine own_pvia st6 ?_
  show own_Pc p e below _ (T6.setTop (mkF m 31 #[oR this, oR p1, oI (2 : Int32), oI c2_] [(.int wq)]))
  by_cases hc31_7 : wq = (0 : Int32)
  · refine own_pvia (fun t kz => XS.ifYes X6.here hx rfl (pc0 := 31) (pc' := 57) rfl (hb hby d9_31) rfl ((if0 _ _).trans (teq hc31_7).1) (by decide) (by decide) kz) ?_
    refine own_pvia (fun t kz => XS.iloadN X6.here hx rfl (hb hby d9_57) rfl kz) ?_
    refine own_pvia (fun t kz => XS.bipush X6.here hx rfl (hb hby d9_58) kz) ?_
    show own_Pc p e below _ (T6.setTop (mkF m 60 #[oR this, oR p1, oI (2 : Int32), oI c2_] [(.int (34 : Int32)), (.int c2_)]))
    by_cases hc60_8 : c2_ = (34 : Int32)
    · refine own_pvia (fun t kz => XS.icmpYes X6.here hx rfl (pc0 := 60) (pc' := 69) rfl (hb hby d9_60) rfl (teq hc60_8).1 (by decide) (by decide) kz) ?_
      refine own_pvia (fun t kz => XS.aloadN X6.here hx rfl (hb hby d9_69) rfl rfl kz) ?_
      refine own_pvia (fun t kz => XS.iloadN X6.here hx rfl (hb hby d9_70) rfl kz) ?_
      show own_Pc p e below _ (T6.setTop (mkF m 71 #[oR this, oR p1, oI (2 : Int32), oI c2_] [(.int c2_), (.ref this)]))
      obtain ⟨T9, h9, X9, e9, W9, st9⟩ := putF X6 hx hZ hown (host := "") (Or.inl (own_w hw 88)) Via.refl e6 F_closing E_this (Or.inl (own_w hw 89)) (own_w hw 7) (ty := .char) (by decide) (own_nch hc2) (own_fch hc2) (g := (mkF m 71 #[oR this, oR p1, oI (2 : Int32), oI c2_] [(.int c2_), (.ref this)])) rfl rfl (hb hby d9_71)
      refine own_pvia st9 ?_
      have O10 : Old Z n0 h9 := OLD.wr W9 g_this
      have E11 := E_this.wr W9
      have U12 : own_Str6 Z h9 n0 p1 c0_ c1_ c2_ c3_ c4_ c5_ := own_strw SR W9 ltb
      have F13 := F_depth.other W9 (Or.inr (slot_ne (Or.inl (own_w hw 96)) (Or.inl (own_w hw 89)) (by decide) (t := .int) (t' := .char) (by decide) (by decide)))
      have F14 := F_stray.other W9 (Or.inr (slot_ne (Or.inl (own_w hw 62)) (Or.inl (own_w hw 89)) (by decide) (t := .boolean) (t' := .char) (by decide) (by decide)))
      have F15 := F_closing.same W9
      have Zs16 : n0 ≤ h9.size := Nat.le_trans Z0 (Keep.of_wr W9).1
      have N17 := Fr.snoc X9 N5 g_this
      have K18 : Keep h0 h9 [this] := (Keep.refl h0 [this]).wr W9 (Or.inl (List.mem_of_getElem? (i := 0) rfl))
      refine own_pvia (fun t kz => XS.goto X9.here hx rfl (pc0 := 74) (pc' := 128) rfl (hb hby d9_74) (by decide) (by decide) kz) ?_
      show own_Pc p e below _ (T9.setTop (mkF m 128 #[oR this, oR p1, oI (2 : Int32), oI c2_] []))
      refine own_pvia (fun t kz => XS.iinc X9.here hx rfl (hb hby d9_128) rfl (l' := #[oR this, oR p1, oI (3 : Int32), oI c2_]) rfl kz) ?_
      refine own_pvia (fun t kz => XS.goto X9.here hx rfl (pc0 := 131) (pc' := 2) rfl (hb hby d9_131) (by decide) (by decide) kz) ?_
      exact ⟨_, fun t k => k, ⟨T9, h9, _, rfl, X9, e9, N17, Zs16, K18, E11, U12, by unfold own_stepf; rw [if_pos hc31_7, if_pos hc60_8]; exact ⟨F13, F14, F15⟩⟩⟩
    · refine own_pvia (fun t kz => XS.icmpNo X6.here hx rfl (hb hby d9_60) rfl (feq hc60_8).1 kz) ?_
      refine own_pvia (fun t kz => XS.iloadN X6.here hx rfl (hb hby d9_63) rfl kz) ?_
      refine own_pvia (fun t kz => XS.bipush X6.here hx rfl (hb hby d9_64) kz) ?_
      show own_Pc p e below _ (T6.setTop (mkF m 66 #[oR this, oR p1, oI (2 : Int32), oI c2_] [(.int (124 : Int32)), (.int c2_)]))
      by_cases hc66_19 : c2_ = (124 : Int32)
      · refine own_pvia (fun t kz => XS.icmpNo X6.here hx rfl (hb hby d9_66) rfl (teq hc66_19).2 kz) ?_
        refine own_pvia (fun t kz => XS.aloadN X6.here hx rfl (hb hby d9_69) rfl rfl kz) ?_
        refine own_pvia (fun t kz => XS.iloadN X6.here hx rfl (hb hby d9_70) rfl kz) ?_
        show own_Pc p e below _ (T6.setTop (mkF m 71 #[oR this, oR p1, oI (2 : Int32), oI c2_] [(.int c2_), (.ref this)]))
        obtain ⟨T20, h20, X20, e20, W20, st20⟩ := putF X6 hx hZ hown (host := "") (Or.inl (own_w hw 88)) Via.refl e6 F_closing E_this (Or.inl (own_w hw 89)) (own_w hw 7) (ty := .char) (by decide) (own_nch hc2) (own_fch hc2) (g := (mkF m 71 #[oR this, oR p1, oI (2 : Int32), oI c2_] [(.int c2_), (.ref this)])) rfl rfl (hb hby d9_71)
        refine own_pvia st20 ?_
        have O21 : Old Z n0 h20 := OLD.wr W20 g_this
        have E22 := E_this.wr W20
        have U23 : own_Str6 Z h20 n0 p1 c0_ c1_ c2_ c3_ c4_ c5_ := own_strw SR W20 ltb
        have F24 := F_depth.other W20 (Or.inr (slot_ne (Or.inl (own_w hw 96)) (Or.inl (own_w hw 89)) (by decide) (t := .int) (t' := .char) (by decide) (by decide)))
        have F25 := F_stray.other W20 (Or.inr (slot_ne (Or.inl (own_w hw 62)) (Or.inl (own_w hw 89)) (by decide) (t := .boolean) (t' := .char) (by decide) (by decide)))
        have F26 := F_closing.same W20
        have Zs27 : n0 ≤ h20.size := Nat.le_trans Z0 (Keep.of_wr W20).1
        have N28 := Fr.snoc X20 N5 g_this
        have K29 : Keep h0 h20 [this] := (Keep.refl h0 [this]).wr W20 (Or.inl (List.mem_of_getElem? (i := 0) rfl))
        refine own_pvia (fun t kz => XS.goto X20.here hx rfl (pc0 := 74) (pc' := 128) rfl (hb hby d9_74) (by decide) (by decide) kz) ?_
        show own_Pc p e below _ (T20.setTop (mkF m 128 #[oR this, oR p1, oI (2 : Int32), oI c2_] []))
        refine own_pvia (fun t kz => XS.iinc X20.here hx rfl (hb hby d9_128) rfl (l' := #[oR this, oR p1, oI (3 : Int32), oI c2_]) rfl kz) ?_
        refine own_pvia (fun t kz => XS.goto X20.here hx rfl (pc0 := 131) (pc' := 2) rfl (hb hby d9_131) (by decide) (by decide) kz) ?_
        exact ⟨_, fun t k => k, ⟨T20, h20, _, rfl, X20, e20, N28, Zs27, K29, E22, U23, by unfold own_stepf; rw [if_pos hc31_7, if_neg hc60_8, if_pos hc66_19]; exact ⟨F24, F25, F26⟩⟩⟩
      · refine own_pvia (fun t kz => XS.icmpYes X6.here hx rfl (pc0 := 66) (pc' := 77) rfl (hb hby d9_66) rfl (feq hc66_19).2 (by decide) (by decide) kz) ?_
        refine own_pvia (fun t kz => XS.iloadN X6.here hx rfl (hb hby d9_77) rfl kz) ?_
        refine own_pvia (fun t kz => XS.bipush X6.here hx rfl (hb hby d9_78) kz) ?_
        show own_Pc p e below _ (T6.setTop (mkF m 80 #[oR this, oR p1, oI (2 : Int32), oI c2_] [(.int (40 : Int32)), (.int c2_)]))
        by_cases hc80_30 : c2_ = (40 : Int32)
        · refine own_pvia (fun t kz => XS.icmpNo X6.here hx rfl (hb hby d9_80) rfl (teq hc80_30).2 kz) ?_
          refine own_pvia (fun t kz => XS.aloadN X6.here hx rfl (hb hby d9_83) rfl rfl kz) ?_
          refine own_pvia (fun t kz => XS.dup X6.here hx rfl (hb hby d9_84) rfl rfl kz) ?_
          show own_Pc p e below _ (T6.setTop (mkF m 85 #[oR this, oR p1, oI (2 : Int32), oI c2_] [(.ref this), (.ref this)]))
          obtain ⟨T31, X31, e31, st31⟩ := getF X6 hx hZ hown (host := "") (Or.inl (own_w hw 95)) Via.refl e6 F_depth (g := (mkF m 85 #[oR this, oR p1, oI (2 : Int32), oI c2_] [(.ref this), (.ref this)])) rfl rfl (hb hby d9_85)
          refine own_pvia st31 ?_
          refine own_pvia (fun t kz => XS.iconst X31.here hx rfl (hb hby d9_88) kz) ?_
          refine own_pvia (fun t kz => XS.iadd X31.here hx rfl (hb hby d9_89) rfl kz) ?_
          show own_Pc p e below _ (T31.setTop (mkF m 90 #[oR this, oR p1, oI (2 : Int32), oI c2_] [(.int (wd + (1 : Int32))), (.ref this)]))
          obtain ⟨T32, h32, X32, e32, W32, st32⟩ := putF X31 hx hZ hown (host := "") (Or.inl (own_w hw 95)) Via.refl e31 F_depth E_this (Or.inl (own_w hw 96)) (own_w hw 7) (ty := .int) (by decide) rfl rfl (g := (mkF m 90 #[oR this, oR p1, oI (2 : Int32), oI c2_] [(.int (wd + (1 : Int32))), (.ref this)])) rfl rfl (hb hby d9_90)
          refine own_pvia st32 ?_
          have O33 : Old Z n0 h32 := OLD.wr W32 g_this
          have E34 := E_this.wr W32
          have U35 : own_Str6 Z h32 n0 p1 c0_ c1_ c2_ c3_ c4_ c5_ := own_strw SR W32 ltb
          have F36 := F_depth.same W32
          have F37 := F_stray.other W32 (Or.inr (slot_ne (Or.inl (own_w hw 62)) (Or.inl (own_w hw 96)) (by decide) (t := .boolean) (t' := .int) (by decide) (by decide)))
          have F38 := F_closing.other W32 (Or.inr (slot_ne (Or.inl (own_w hw 89)) (Or.inl (own_w hw 96)) (by decide) (t := .char) (t' := .int) (by decide) (by decide)))
          have Zs39 : n0 ≤ h32.size := Nat.le_trans Z0 (Keep.of_wr W32).1
          have N40 := Fr.snoc X32 N5 g_this
          have K41 : Keep h0 h32 [this] := (Keep.refl h0 [this]).wr W32 (Or.inl (List.mem_of_getElem? (i := 0) rfl))
          refine own_pvia (fun t kz => XS.goto X32.here hx rfl (pc0 := 93) (pc' := 128) rfl (hb hby d9_93) (by decide) (by decide) kz) ?_
          show own_Pc p e below _ (T32.setTop (mkF m 128 #[oR this, oR p1, oI (2 : Int32), oI c2_] []))
          refine own_pvia (fun t kz => XS.iinc X32.here hx rfl (hb hby d9_128) rfl (l' := #[oR this, oR p1, oI (3 : Int32), oI c2_]) rfl kz) ?_
          refine own_pvia (fun t kz => XS.goto X32.here hx rfl (pc0 := 131) (pc' := 2) rfl (hb hby d9_131) (by decide) (by decide) kz) ?_
          exact ⟨_, fun t k => k, ⟨T32, h32, _, rfl, X32, e32, N40, Zs39, K41, E34, U35, by unfold own_stepf; rw [if_pos hc31_7, if_neg hc60_8, if_neg hc66_19, if_pos hc80_30]; exact ⟨F36, F37, F38⟩⟩⟩
        · refine own_pvia (fun t kz => XS.icmpYes X6.here hx rfl (pc0 := 80) (pc' := 96) rfl (hb hby d9_80) rfl (feq hc80_30).2 (by decide) (by decide) kz) ?_
          refine own_pvia (fun t kz => XS.iloadN X6.here hx rfl (hb hby d9_96) rfl kz) ?_
          refine own_pvia (fun t kz => XS.bipush X6.here hx rfl (hb hby d9_97) kz) ?_
          show own_Pc p e below _ (T6.setTop (mkF m 99 #[oR this, oR p1, oI (2 : Int32), oI c2_] [(.int (41 : Int32)), (.int c2_)]))
          by_cases hc99_42 : c2_ = (41 : Int32)
          · refine own_pvia (fun t kz => XS.icmpNo X6.here hx rfl (hb hby d9_99) rfl (teq hc99_42).2 kz) ?_
            refine own_pvia (fun t kz => XS.aloadN X6.here hx rfl (hb hby d9_102) rfl rfl kz) ?_
            refine own_pvia (fun t kz => XS.dup X6.here hx rfl (hb hby d9_103) rfl rfl kz) ?_
            show own_Pc p e below _ (T6.setTop (mkF m 104 #[oR this, oR p1, oI (2 : Int32), oI c2_] [(.ref this), (.ref this)]))
            obtain ⟨T43, X43, e43, st43⟩ := getF X6 hx hZ hown (host := "") (Or.inl (own_w hw 95)) Via.refl e6 F_depth (g := (mkF m 104 #[oR this, oR p1, oI (2 : Int32), oI c2_] [(.ref this), (.ref this)])) rfl rfl (hb hby d9_104)
            refine own_pvia st43 ?_
            refine own_pvia (fun t kz => XS.iconst X43.here hx rfl (hb hby d9_107) kz) ?_
            refine own_pvia (fun t kz => XS.isub X43.here hx rfl (hb hby d9_108) rfl kz) ?_
            show own_Pc p e below _ (T43.setTop (mkF m 109 #[oR this, oR p1, oI (2 : Int32), oI c2_] [(.int (wd - (1 : Int32))), (.ref this)]))
            obtain ⟨T44, h44, X44, e44, W44, st44⟩ := putF X43 hx hZ hown (host := "") (Or.inl (own_w hw 95)) Via.refl e43 F_depth E_this (Or.inl (own_w hw 96)) (own_w hw 7) (ty := .int) (by decide) rfl rfl (g := (mkF m 109 #[oR this, oR p1, oI (2 : Int32), oI c2_] [(.int (wd - (1 : Int32))), (.ref this)])) rfl rfl (hb hby d9_109)
            refine own_pvia st44 ?_
            have O45 : Old Z n0 h44 := OLD.wr W44 g_this
            have E46 := E_this.wr W44
            have U47 : own_Str6 Z h44 n0 p1 c0_ c1_ c2_ c3_ c4_ c5_ := own_strw SR W44 ltb
            have F48 := F_depth.same W44
            have F49 := F_stray.other W44 (Or.inr (slot_ne (Or.inl (own_w hw 62)) (Or.inl (own_w hw 96)) (by decide) (t := .boolean) (t' := .int) (by decide) (by decide)))
            have F50 := F_closing.other W44 (Or.inr (slot_ne (Or.inl (own_w hw 89)) (Or.inl (own_w hw 96)) (by decide) (t := .char) (t' := .int) (by decide) (by decide)))
            have Zs51 : n0 ≤ h44.size := Nat.le_trans Z0 (Keep.of_wr W44).1
            have N52 := Fr.snoc X44 N5 g_this
            have K53 : Keep h0 h44 [this] := (Keep.refl h0 [this]).wr W44 (Or.inl (List.mem_of_getElem? (i := 0) rfl))
            refine own_pvia (fun t kz => XS.aloadN X44.here hx rfl (hb hby d9_112) rfl rfl kz) ?_
            refine own_pvia (fun t kz => XS.aloadN X44.here hx rfl (hb hby d9_113) rfl rfl kz) ?_
            show own_Pc p e below _ (T44.setTop (mkF m 114 #[oR this, oR p1, oI (2 : Int32), oI c2_] [(.ref this), (.ref this)]))
            obtain ⟨T54, X54, e54, st54⟩ := getF X44 hx hZ hown (host := "") (Or.inl (own_w hw 95)) Via.refl e44 F48 (g := (mkF m 114 #[oR this, oR p1, oI (2 : Int32), oI c2_] [(.ref this), (.ref this)])) rfl rfl (hb hby d9_114)
            refine own_pvia st54 ?_
            show own_Pc p e below _ (T54.setTop (mkF m 117 #[oR this, oR p1, oI (2 : Int32), oI c2_] [(.int (wd - (1 : Int32))), (.ref this)]))
            by_cases hc117_55 : (wd - (1 : Int32)) < (0 : Int32)
            · refine own_pvia (fun t kz => XS.ifNo X54.here hx rfl (hb hby d9_117) rfl ((if0 _ _).trans (tlt hc117_55).2.1) kz) ?_
              refine own_pvia (fun t kz => XS.iconst X54.here hx rfl (hb hby d9_120) kz) ?_
              refine own_pvia (fun t kz => XS.goto X54.here hx rfl (pc0 := 121) (pc' := 125) rfl (hb hby d9_121) (by decide) (by decide) kz) ?_
              show own_Pc p e below _ (T54.setTop (mkF m 125 #[oR this, oR p1, oI (2 : Int32), oI c2_] [(.int (1 : Int32)), (.ref this)]))
              obtain ⟨T56, h56, X56, e56, W56, st56⟩ := putF X54 hx hZ hown (host := "") (Or.inl (own_w hw 61)) Via.refl e54 F49 E46 (Or.inl (own_w hw 62)) (own_w hw 7) (ty := .boolean) (by decide) rfl rfl (g := (mkF m 125 #[oR this, oR p1, oI (2 : Int32), oI c2_] [(.int (1 : Int32)), (.ref this)])) rfl rfl (hb hby d9_125)
              refine own_pvia st56 ?_
              have O57 : Old Z n0 h56 := O45.wr W56 g_this
              have E58 := E46.wr W56
              have U59 : own_Str6 Z h56 n0 p1 c0_ c1_ c2_ c3_ c4_ c5_ := own_strw U47 W56 ltb
              have F60 := F48.other W56 (Or.inr (slot_ne (Or.inl (own_w hw 96)) (Or.inl (own_w hw 62)) (by decide) (t := .int) (t' := .boolean) (by decide) (by decide)))
              have F61 := F49.same W56
              have F62 := F50.other W56 (Or.inr (slot_ne (Or.inl (own_w hw 89)) (Or.inl (own_w hw 62)) (by decide) (t := .char) (t' := .boolean) (by decide) (by decide)))
              have Zs63 : n0 ≤ h56.size := Nat.le_trans Zs51 (Keep.of_wr W56).1
              have N64 := Fr.snoc X56 N52 g_this
              have K65 : Keep h0 h56 [this] := K53.wr W56 (Or.inl (List.mem_of_getElem? (i := 0) rfl))
              show own_Pc p e below _ (T56.setTop (mkF m 128 #[oR this, oR p1, oI (2 : Int32), oI c2_] []))
              refine own_pvia (fun t kz => XS.iinc X56.here hx rfl (hb hby d9_128) rfl (l' := #[oR this, oR p1, oI (3 : Int32), oI c2_]) rfl kz) ?_
              refine own_pvia (fun t kz => XS.goto X56.here hx rfl (pc0 := 131) (pc' := 2) rfl (hb hby d9_131) (by decide) (by decide) kz) ?_
              exact ⟨_, fun t k => k, ⟨T56, h56, _, rfl, X56, e56, N64, Zs63, K65, E58, U59, by unfold own_stepf; rw [if_pos hc31_7, if_neg hc60_8, if_neg hc66_19, if_neg hc80_30, if_pos hc99_42, if_pos hc117_55]; exact ⟨F60, F61, F62⟩⟩⟩
            · refine own_pvia (fun t kz => XS.ifYes X54.here hx rfl (pc0 := 117) (pc' := 124) rfl (hb hby d9_117) rfl ((if0 _ _).trans (flt hc117_55).2.1) (by decide) (by decide) kz) ?_
              refine own_pvia (fun t kz => XS.iconst X54.here hx rfl (hb hby d9_124) kz) ?_
              show own_Pc p e below _ (T54.setTop (mkF m 125 #[oR this, oR p1, oI (2 : Int32), oI c2_] [(.int (0 : Int32)), (.ref this)]))
              obtain ⟨T66, h66, X66, e66, W66, st66⟩ := putF X54 hx hZ hown (host := "") (Or.inl (own_w hw 61)) Via.refl e54 F49 E46 (Or.inl (own_w hw 62)) (own_w hw 7) (ty := .boolean) (by decide) rfl rfl (g := (mkF m 125 #[oR this, oR p1, oI (2 : Int32), oI c2_] [(.int (0 : Int32)), (.ref this)])) rfl rfl (hb hby d9_125)
              refine own_pvia st66 ?_
              have O67 : Old Z n0 h66 := O45.wr W66 g_this
              have E68 := E46.wr W66
              have U69 : own_Str6 Z h66 n0 p1 c0_ c1_ c2_ c3_ c4_ c5_ := own_strw U47 W66 ltb
              have F70 := F48.other W66 (Or.inr (slot_ne (Or.inl (own_w hw 96)) (Or.inl (own_w hw 62)) (by decide) (t := .int) (t' := .boolean) (by decide) (by decide)))
              have F71 := F49.same W66
              have F72 := F50.other W66 (Or.inr (slot_ne (Or.inl (own_w hw 89)) (Or.inl (own_w hw 62)) (by decide) (t := .char) (t' := .boolean) (by decide) (by decide)))
              have Zs73 : n0 ≤ h66.size := Nat.le_trans Zs51 (Keep.of_wr W66).1
              have N74 := Fr.snoc X66 N52 g_this
              have K75 : Keep h0 h66 [this] := K53.wr W66 (Or.inl (List.mem_of_getElem? (i := 0) rfl))
              show own_Pc p e below _ (T66.setTop (mkF m 128 #[oR this, oR p1, oI (2 : Int32), oI c2_] []))
              refine own_pvia (fun t kz => XS.iinc X66.here hx rfl (hb hby d9_128) rfl (l' := #[oR this, oR p1, oI (3 : Int32), oI c2_]) rfl kz) ?_
              refine own_pvia (fun t kz => XS.goto X66.here hx rfl (pc0 := 131) (pc' := 2) rfl (hb hby d9_131) (by decide) (by decide) kz) ?_
              exact ⟨_, fun t k => k, ⟨T66, h66, _, rfl, X66, e66, N74, Zs73, K75, E68, U69, by unfold own_stepf; rw [if_pos hc31_7, if_neg hc60_8, if_neg hc66_19, if_neg hc80_30, if_pos hc99_42, if_neg hc117_55]; exact ⟨F70, F71, F72⟩⟩⟩
          · refine own_pvia (fun t kz => XS.icmpYes X6.here hx rfl (pc0 := 99) (pc' := 128) rfl (hb hby d9_99) rfl (feq hc99_42).2 (by decide) (by decide) kz) ?_
            show own_Pc p e below _ (T6.setTop (mkF m 128 #[oR this, oR p1, oI (2 : Int32), oI c2_] []))
            refine own_pvia (fun t kz => XS.iinc X6.here hx rfl (hb hby d9_128) rfl (l' := #[oR this, oR p1, oI (3 : Int32), oI c2_]) rfl kz) ?_
            refine own_pvia (fun t kz => XS.goto X6.here hx rfl (pc0 := 131) (pc' := 2) rfl (hb hby d9_131) (by decide) (by decide) kz) ?_
            exact ⟨_, fun t k => k, ⟨T6, h0, _, rfl, X6, e6, N5, Z0, (Keep.refl h0 [this]), E_this, SR, by unfold own_stepf; rw [if_pos hc31_7, if_neg hc60_8, if_neg hc66_19, if_neg hc80_30, if_neg hc99_42]; exact ⟨F_depth, F_stray, F_closing⟩⟩⟩
  · refine own_pvia (fun t kz => XS.ifNo X6.here hx rfl (hb hby d9_31) rfl ((if0 _ _).trans (feq hc31_7).1) kz) ?_
    refine own_pvia (fun t kz => XS.aloadN X6.here hx rfl (hb hby d9_34) rfl rfl kz) ?_
    refine own_pvia (fun t kz => XS.iloadN X6.here hx rfl (hb hby d9_35) rfl kz) ?_
    refine own_pvia (fun t kz => XS.aloadN X6.here hx rfl (hb hby d9_36) rfl rfl kz) ?_
    show own_Pc p e below _ (T6.setTop (mkF m 37 #[oR this, oR p1, oI (2 : Int32), oI c2_] [(.ref this), (.int c2_), (.ref this)]))
    obtain ⟨T76, X76, e76, st76⟩ := getF X6 hx hZ hown (host := "") (Or.inl (own_w hw 88)) Via.refl e6 F_closing (g := (mkF m 37 #[oR this, oR p1, oI (2 : Int32), oI c2_] [(.ref this), (.int c2_), (.ref this)])) rfl rfl (hb hby d9_37)
    refine own_pvia st76 ?_
    show own_Pc p e below _ (T76.setTop (mkF m 40 #[oR this, oR p1, oI (2 : Int32), oI c2_] [(.int wq), (.int c2_), (.ref this)]))
    by_cases hc40_77 : c2_ = wq
    · refine own_pvia (fun t kz => XS.icmpNo X76.here hx rfl (hb hby d9_40) rfl (teq hc40_77).2 kz) ?_
      refine own_pvia (fun t kz => XS.iconst X76.here hx rfl (hb hby d9_43) kz) ?_
      refine own_pvia (fun t kz => XS.goto X76.here hx rfl (pc0 := 44) (pc' := 51) rfl (hb hby d9_44) (by decide) (by decide) kz) ?_
      show own_Pc p e below _ (T76.setTop (mkF m 51 #[oR this, oR p1, oI (2 : Int32), oI c2_] [(.int (0 : Int32)), (.ref this)]))
      obtain ⟨T78, h78, X78, e78, W78, st78⟩ := putF X76 hx hZ hown (host := "") (Or.inl (own_w hw 88)) Via.refl e76 F_closing E_this (Or.inl (own_w hw 89)) (own_w hw 7) (ty := .char) (by decide) rfl rfl (g := (mkF m 51 #[oR this, oR p1, oI (2 : Int32), oI c2_] [(.int (0 : Int32)), (.ref this)])) rfl rfl (hb hby d9_51)
      refine own_pvia st78 ?_
      have O79 : Old Z n0 h78 := OLD.wr W78 g_this
      have E80 := E_this.wr W78
      have U81 : own_Str6 Z h78 n0 p1 c0_ c1_ c2_ c3_ c4_ c5_ := own_strw SR W78 ltb
      have F82 := F_depth.other W78 (Or.inr (slot_ne (Or.inl (own_w hw 96)) (Or.inl (own_w hw 89)) (by decide) (t := .int) (t' := .char) (by decide) (by decide)))
      have F83 := F_stray.other W78 (Or.inr (slot_ne (Or.inl (own_w hw 62)) (Or.inl (own_w hw 89)) (by decide) (t := .boolean) (t' := .char) (by decide) (by decide)))
      have F84 := F_closing.same W78
      have Zs85 : n0 ≤ h78.size := Nat.le_trans Z0 (Keep.of_wr W78).1
      have N86 := Fr.snoc X78 N5 g_this
      have K87 : Keep h0 h78 [this] := (Keep.refl h0 [this]).wr W78 (Or.inl (List.mem_of_getElem? (i := 0) rfl))
      refine own_pvia (fun t kz => XS.goto X78.here hx rfl (pc0 := 54) (pc' := 128) rfl (hb hby d9_54) (by decide) (by decide) kz) ?_
      show own_Pc p e below _ (T78.setTop (mkF m 128 #[oR this, oR p1, oI (2 : Int32), oI c2_] []))
      refine own_pvia (fun t kz => XS.iinc X78.here hx rfl (hb hby d9_128) rfl (l' := #[oR this, oR p1, oI (3 : Int32), oI c2_]) rfl kz) ?_
      refine own_pvia (fun t kz => XS.goto X78.here hx rfl (pc0 := 131) (pc' := 2) rfl (hb hby d9_131) (by decide) (by decide) kz) ?_
      exact ⟨_, fun t k => k, ⟨T78, h78, _, rfl, X78, e78, N86, Zs85, K87, E80, U81, by unfold own_stepf; rw [if_neg hc31_7, if_pos hc40_77]; exact ⟨F82, F83, F84⟩⟩⟩
    · refine own_pvia (fun t kz => XS.icmpYes X76.here hx rfl (pc0 := 40) (pc' := 47) rfl (hb hby d9_40) rfl (feq hc40_77).2 (by decide) (by decide) kz) ?_
      refine own_pvia (fun t kz => XS.aloadN X76.here hx rfl (hb hby d9_47) rfl rfl kz) ?_
      show own_Pc p e below _ (T76.setTop (mkF m 48 #[oR this, oR p1, oI (2 : Int32), oI c2_] [(.ref this), (.ref this)]))
      obtain ⟨T88, X88, e88, st88⟩ := getF X76 hx hZ hown (host := "") (Or.inl (own_w hw 88)) Via.refl e76 F_closing (g := (mkF m 48 #[oR this, oR p1, oI (2 : Int32), oI c2_] [(.ref this), (.ref this)])) rfl rfl (hb hby d9_48)
      refine own_pvia st88 ?_
      show own_Pc p e below _ (T88.setTop (mkF m 51 #[oR this, oR p1, oI (2 : Int32), oI c2_] [(.int wq), (.ref this)]))
      obtain ⟨T89, h89, X89, e89, W89, st89⟩ := putF X88 hx hZ hown (host := "") (Or.inl (own_w hw 88)) Via.refl e88 F_closing E_this (Or.inl (own_w hw 89)) (own_w hw 7) (ty := .char) (by decide) (own_nch hq) (own_fch hq) (g := (mkF m 51 #[oR this, oR p1, oI (2 : Int32), oI c2_] [(.int wq), (.ref this)])) rfl rfl (hb hby d9_51)
      refine own_pvia st89 ?_
      have O90 : Old Z n0 h89 := OLD.wr W89 g_this
      have E91 := E_this.wr W89
      have U92 : own_Str6 Z h89 n0 p1 c0_ c1_ c2_ c3_ c4_ c5_ := own_strw SR W89 ltb
      have F93 := F_depth.other W89 (Or.inr (slot_ne (Or.inl (own_w hw 96)) (Or.inl (own_w hw 89)) (by decide) (t := .int) (t' := .char) (by decide) (by decide)))
      have F94 := F_stray.other W89 (Or.inr (slot_ne (Or.inl (own_w hw 62)) (Or.inl (own_w hw 89)) (by decide) (t := .boolean) (t' := .char) (by decide) (by decide)))
      have F95 := F_closing.same W89
      have Zs96 : n0 ≤ h89.size := Nat.le_trans Z0 (Keep.of_wr W89).1
      have N97 := Fr.snoc X89 N5 g_this
      have K98 : Keep h0 h89 [this] := (Keep.refl h0 [this]).wr W89 (Or.inl (List.mem_of_getElem? (i := 0) rfl))
      refine own_pvia (fun t kz => XS.goto X89.here hx rfl (pc0 := 54) (pc' := 128) rfl (hb hby d9_54) (by decide) (by decide) kz) ?_
      show own_Pc p e below _ (T89.setTop (mkF m 128 #[oR this, oR p1, oI (2 : Int32), oI c2_] []))
      refine own_pvia (fun t kz => XS.iinc X89.here hx rfl (hb hby d9_128) rfl (l' := #[oR this, oR p1, oI (3 : Int32), oI c2_]) rfl kz) ?_
      refine own_pvia (fun t kz => XS.goto X89.here hx rfl (pc0 := 131) (pc' := 2) rfl (hb hby d9_131) (by decide) (by decide) kz) ?_
      exact ⟨_, fun t k => k, ⟨T89, h89, _, rfl, X89, e89, N97, Zs96, K98, E91, U92, by unfold own_stepf; rw [if_neg hc31_7, if_neg hc40_77]; exact ⟨F93, F94, F95⟩⟩⟩
set_option maxRecDepth 65536 in
set_option maxHeartbeats 40000000 in
theorem own_turn3 {p : Program} {l : Launch} {e : Env} {R : Room} {s : State} {m : MethodId} {args : Array Value} {below : List Frame} {meth : Method} {c : Code} {T0 : State} {locs : List Loc} {cells slots : Nat} {Z : State} {a0 : Array Value} {h0 : Heap} {n0 : Nat} (this : Addr) (p1 : Addr) (wd : Int32) (wst : Int32) (wq : Int32) (c0_ : Int32) (c1_ : Int32) (c2_ : Int32) (c3_ : Int32) (c4_ : Int32) (c5_ : Int32) (wcs : Int32) (wsf : Value)
    (X0 : Stand p l e R s m args below meth c T0 locs cells slots) (hx : p.tables.exec = Jvm.exec) (hZ : Z.Warmed39 s.vm) (hw : ∀ d ∈ tables_1, d.before a0 Z = true) (hby : c.code = prog_88_method_2_code) (hml : c.maxLocals = 4) (hown : s.vm.findClass "com/example/quiescence/quiescence/model/SExpression$Balance" = some m.cls) (e0 : T0.heap = h0) (N0 : Fr n0 locs) (Z0 : n0 ≤ h0.size) (g_this : n0 ≤ this) (ltb : this < p1) (E_this : Exa Z h0 this "com/example/quiescence/quiescence/model/SExpression$Balance") (F_depth : Fld Z h0 this "com/example/quiescence/quiescence/model/SExpression$Balance" "depth" "I" (.int wd)) (F_stray : Fld Z h0 this "com/example/quiescence/quiescence/model/SExpression$Balance" "stray" "Z" (.int wst)) (F_closing : Fld Z h0 this "com/example/quiescence/quiescence/model/SExpression$Balance" "closing" "C" (.int wq)) (SR : own_Str6 Z h0 n0 p1 c0_ c1_ c2_ c3_ c4_ c5_) (hc0 : own_ch c0_) (hc1 : own_ch c1_) (hc2 : own_ch c2_) (hc3 : own_ch c3_) (hc4 : own_ch c4_) (hc5 : own_ch c5_) (OLD : Old Z n0 h0) (hcs : ¬ (wcs = (0 : Int32))) (rsf : wsf.isRef = true) (B_wcs : Sta Z Z.heap "java/lang/String" "COMPACT_STRINGS" "Z" (.int wcs)) (B_wsf : Sta Z Z.heap "jdk/internal/util/Preconditions" "SIOOBE_FORMATTER" "Ljava/util/function/BiFunction;" wsf) (B_wad : Sta Z Z.heap "java/lang/StringUTF16" "$assertionsDisabled" "Z" (.int (1 : Int32))) (B_whi : Sta Z Z.heap "java/lang/StringUTF16" "HI_BYTE_SHIFT" "I" (.int (0 : Int32))) (B_wlo : Sta Z Z.heap "java/lang/StringUTF16" "LO_BYTE_SHIFT" "I" (.int (8 : Int32))) (hs : wst = (0 : Int32)) (hq : own_ch wq) (hfr : 5 ≤ R.frames) (hlo : 66 ≤ R.locals) (hcl : cells ≤ R.cells) (hsl : slots ≤ R.slots) :
    own_Pc p e below (fun B => ∃ (T' : State) (h' : Heap) (locs' : List Loc), B = T'.setTop (mkF m 2 #[oR this, oR p1, oI (4 : Int32), oI c3_] []) ∧ Stand p l e R s m args below meth c T' locs' cells slots ∧ T'.heap = h' ∧ Fr n0 locs' ∧ n0 ≤ h'.size ∧ Keep h0 h' [this] ∧ Exa Z h' this "com/example/quiescence/quiescence/model/SExpression$Balance" ∧ own_Str6 Z h' n0 p1 c0_ c1_ c2_ c3_ c4_ c5_ ∧ own_Bal Z h' this (own_stepf wd wst wq c3_)) (T0.setTop (mkF m 2 #[oR this, oR p1, oI (3 : Int32), oI c2_] [])) := by
  show own_Pc p e below _ (T0.setTop (mkF m 2 #[oR this, oR p1, oI (3 : Int32), oI c2_] []))
  refine own_pvia (fun t kz => XS.iloadN X0.here hx rfl (hb hby d9_2) rfl kz) ?_
  refine own_pvia (fun t kz => XS.aloadN X0.here hx rfl (hb hby d9_3) rfl rfl kz) ?_
  show own_Pc p e below _ (T0.setTop (mkF m 4 #[oR this, oR p1, oI (3 : Int32), oI c2_] [(.ref p1), (.int (3 : Int32))]))
  obtain ⟨cq1, kq1, qa1, qb1, qc1⟩ := isOf hZ e0 (own_strE SR)
  obtain ⟨_, _, ⟨T1, L1, k1, n1⟩, -, X1, ⟨Lc1, hQ1, l1, y1, z1⟩, st1⟩ := X0.interfaceBack hx (xi := (⟨"java/lang/CharSequence", "length", "()I"⟩ : MethodName)) (y := (⟨"java/lang/String", "length", "()I"⟩ : MethodName)) hown (mvT hZ (own_w hw 47)) (mvT hZ (own_w hw 48)) (mvT hZ (own_w hw 49)) (mvT hZ (own_w hw 50)) (mvT hZ (own_w hw 51)) (mvT hZ (own_w hw 52)) (mvT hZ (own_w hw 53)) (mvT hZ (own_w hw 54)) (by decide) (backOf (W := 1) (rmL6 l Z a0 hw [] p1 c0_ c1_ c2_ c3_ c4_ c5_ wcs wsf h0 n0 Z0 SR OLD hcs rsf B_wcs B_wsf B_wad B_whi B_wlo) hZ (own_w hw 55) (own_w hw 17) (Nat.le_trans (by decide) hfr) (Nat.le_trans (by decide) hlo)) qa1 qb1 qc1 (g := (mkF m 4 #[oR this, oR p1, oI (3 : Int32), oI c2_] [(.ref p1), (.int (3 : Int32))])) rfl (by rw [hml]; rfl) (Steps.refl _) (argsL := []) (rest := [(.int (3 : Int32))]) (lenOf pd_9_0 rfl) rfl (by show 2 * 0 + _ ≤ _; exact Nat.le_of_eq rfl) (hb hby d9_4) (fun _ _ => ⟨rfl, e0, hcl, hsl⟩)
  dsimp only [Pt.U, Pt.locs, Pt.cells, Pt.slots] at X1 l1 y1 z1 st1 hQ1
  subst l1 y1 z1
  obtain ⟨rfl, Nq1, e1⟩ := hQ1
  have N2 := Fr.app N0 Nq1
  refine own_ptr st1 ?_
  show own_Pc p e below _ (T1.setTop (mkF m 9 #[oR this, oR p1, oI (3 : Int32), oI c2_] [(.int (6 : Int32)), (.int (3 : Int32))]))
  refine own_pvia (fun t kz => XS.icmpNo X1.here hx rfl (hb hby d9_9) rfl (tlt (by decide : (3 : Int32) < (6 : Int32))).2.1 kz) ?_
  refine own_pvia (fun t kz => XS.aloadN X1.here hx rfl (hb hby d9_12) rfl rfl kz) ?_
  show own_Pc p e below _ (T1.setTop (mkF m 13 #[oR this, oR p1, oI (3 : Int32), oI c2_] [(.ref this)]))
  obtain ⟨T3, X3, e3, st3⟩ := getF X1 hx hZ hown (host := "") (Or.inl (own_w hw 61)) Via.refl e1 F_stray (g := (mkF m 13 #[oR this, oR p1, oI (3 : Int32), oI c2_] [(.ref this)])) rfl rfl (hb hby d9_13)
  refine own_pvia st3 ?_
  show own_Pc p e below _ (T3.setTop (mkF m 16 #[oR this, oR p1, oI (3 : Int32), oI c2_] [(.int wst)]))
  refine own_pvia (fun t kz => XS.ifNo X3.here hx rfl (hb hby d9_16) rfl ((if0 _ _).trans (teq hs).2) kz) ?_
  refine own_pvia (fun t kz => XS.aloadN X3.here hx rfl (hb hby d9_19) rfl rfl kz) ?_
  refine own_pvia (fun t kz => XS.iloadN X3.here hx rfl (hb hby d9_20) rfl kz) ?_
  show own_Pc p e below _ (T3.setTop (mkF m 21 #[oR this, oR p1, oI (3 : Int32), oI c2_] [(.int (3 : Int32)), (.ref p1)]))
  obtain ⟨cq4, kq4, qa4, qb4, qc4⟩ := isOf hZ e3 (own_strE SR)
  obtain ⟨_, _, ⟨T4, L4, k4, n4⟩, -, X4, ⟨Lc4, hQ4, l4, y4, z4⟩, st4⟩ := X3.interfaceBack hx (xi := (⟨"java/lang/CharSequence", "charAt", "(I)C"⟩ : MethodName)) (y := (⟨"java/lang/String", "charAt", "(I)C"⟩ : MethodName)) hown (mvT hZ (own_w hw 63)) (mvT hZ (own_w hw 64)) (mvT hZ (own_w hw 65)) (mvT hZ (own_w hw 66)) (mvT hZ (own_w hw 67)) (mvT hZ (own_w hw 68)) (mvT hZ (own_w hw 69)) (mvT hZ (own_w hw 54)) (by decide) (backOf (W := 0) (rmA6_3 l Z a0 hw [] p1 c0_ c1_ c2_ c3_ c4_ c5_ wcs wsf h0 n0 Z0 SR hc0 hc1 hc2 hc3 hc4 hc5 OLD hcs rsf B_wcs B_wsf B_wad B_whi B_wlo) hZ (own_w hw 70) (own_w hw 17) (Nat.le_trans (by decide) hfr) (Nat.le_trans (by decide) hlo)) qa4 qb4 qc4 (g := (mkF m 21 #[oR this, oR p1, oI (3 : Int32), oI c2_] [(.int (3 : Int32)), (.ref p1)])) rfl (by rw [hml]; rfl) (Steps.refl _) (argsL := [(.int (3 : Int32))]) (rest := []) (lenOf pd_9_1 rfl) rfl (by show 2 * 0 + _ ≤ _; exact Nat.le_of_eq rfl) (hb hby d9_21) (fun _ _ => ⟨rfl, e3, hcl, hsl⟩)
  dsimp only [Pt.U, Pt.locs, Pt.cells, Pt.slots] at X4 l4 y4 z4 st4 hQ4
  subst l4 y4 z4
  obtain ⟨rfl, Nq4, e4⟩ := hQ4
  have N5 := Fr.app N2 Nq4
  refine own_ptr st4 ?_
  refine own_pvia (fun t kz => XS.istoreN X4.here hx rfl (hb hby d9_26) rfl (l' := #[oR this, oR p1, oI (3 : Int32), oI c3_]) rfl kz) ?_
  refine own_pvia (fun t kz => XS.aloadN X4.here hx rfl (hb hby d9_27) rfl rfl kz) ?_
  show own_Pc p e below _ (T4.setTop (mkF m 28 #[oR this, oR p1, oI (3 : Int32), oI c3_] [(.ref this)]))
  obtain ⟨T6, X6, e6, st6⟩ := getF X4 hx hZ hown (host := "") (Or.inl (own_w hw 88)) Via.refl e4 F_closing (g := (mkF m 28 #[oR this, oR p1, oI (3 : Int32), oI c3_] [(.ref this)])) rfl rfl (hb hby d9_28)
  refine own_pvia st6 ?_
  show own_Pc p e below _ (T6.setTop (mkF m 31 #[oR this, oR p1, oI (3 : Int32), oI c3_] [(.int wq)]))
  by_cases hc31_7 : wq = (0 : Int32)
  · refine own_pvia (fun t kz => XS.ifYes X6.here hx rfl (pc0 := 31) (pc' := 57) rfl (hb hby d9_31) rfl ((if0 _ _).trans (teq hc31_7).1) (by decide) (by decide) kz) ?_
    refine own_pvia (fun t kz => XS.iloadN X6.here hx rfl (hb hby d9_57) rfl kz) ?_
    refine own_pvia (fun t kz => XS.bipush X6.here hx rfl (hb hby d9_58) kz) ?_
    show own_Pc p e below _ (T6.setTop (mkF m 60 #[oR this, oR p1, oI (3 : Int32), oI c3_] [(.int (34 : Int32)), (.int c3_)]))
    by_cases hc60_8 : c3_ = (34 : Int32)
    · refine own_pvia (fun t kz => XS.icmpYes X6.here hx rfl (pc0 := 60) (pc' := 69) rfl (hb hby d9_60) rfl (teq hc60_8).1 (by decide) (by decide) kz) ?_
      refine own_pvia (fun t kz => XS.aloadN X6.here hx rfl (hb hby d9_69) rfl rfl kz) ?_
      refine own_pvia (fun t kz => XS.iloadN X6.here hx rfl (hb hby d9_70) rfl kz) ?_
      show own_Pc p e below _ (T6.setTop (mkF m 71 #[oR this, oR p1, oI (3 : Int32), oI c3_] [(.int c3_), (.ref this)]))
      obtain ⟨T9, h9, X9, e9, W9, st9⟩ := putF X6 hx hZ hown (host := "") (Or.inl (own_w hw 88)) Via.refl e6 F_closing E_this (Or.inl (own_w hw 89)) (own_w hw 7) (ty := .char) (by decide) (own_nch hc3) (own_fch hc3) (g := (mkF m 71 #[oR this, oR p1, oI (3 : Int32), oI c3_] [(.int c3_), (.ref this)])) rfl rfl (hb hby d9_71)
      refine own_pvia st9 ?_
      have O10 : Old Z n0 h9 := OLD.wr W9 g_this
      have E11 := E_this.wr W9
      have U12 : own_Str6 Z h9 n0 p1 c0_ c1_ c2_ c3_ c4_ c5_ := own_strw SR W9 ltb
      have F13 := F_depth.other W9 (Or.inr (slot_ne (Or.inl (own_w hw 96)) (Or.inl (own_w hw 89)) (by decide) (t := .int) (t' := .char) (by decide) (by decide)))
      have F14 := F_stray.other W9 (Or.inr (slot_ne (Or.inl (own_w hw 62)) (Or.inl (own_w hw 89)) (by decide) (t := .boolean) (t' := .char) (by decide) (by decide)))
      have F15 := F_closing.same W9
      have Zs16 : n0 ≤ h9.size := Nat.le_trans Z0 (Keep.of_wr W9).1
      have N17 := Fr.snoc X9 N5 g_this
      have K18 : Keep h0 h9 [this] := (Keep.refl h0 [this]).wr W9 (Or.inl (List.mem_of_getElem? (i := 0) rfl))
      refine own_pvia (fun t kz => XS.goto X9.here hx rfl (pc0 := 74) (pc' := 128) rfl (hb hby d9_74) (by decide) (by decide) kz) ?_
      show own_Pc p e below _ (T9.setTop (mkF m 128 #[oR this, oR p1, oI (3 : Int32), oI c3_] []))
      refine own_pvia (fun t kz => XS.iinc X9.here hx rfl (hb hby d9_128) rfl (l' := #[oR this, oR p1, oI (4 : Int32), oI c3_]) rfl kz) ?_
      refine own_pvia (fun t kz => XS.goto X9.here hx rfl (pc0 := 131) (pc' := 2) rfl (hb hby d9_131) (by decide) (by decide) kz) ?_
      exact ⟨_, fun t k => k, ⟨T9, h9, _, rfl, X9, e9, N17, Zs16, K18, E11, U12, by unfold own_stepf; rw [if_pos hc31_7, if_pos hc60_8]; exact ⟨F13, F14, F15⟩⟩⟩
    · refine own_pvia (fun t kz => XS.icmpNo X6.here hx rfl (hb hby d9_60) rfl (feq hc60_8).1 kz) ?_
      refine own_pvia (fun t kz => XS.iloadN X6.here hx rfl (hb hby d9_63) rfl kz) ?_
      refine own_pvia (fun t kz => XS.bipush X6.here hx rfl (hb hby d9_64) kz) ?_
      show own_Pc p e below _ (T6.setTop (mkF m 66 #[oR this, oR p1, oI (3 : Int32), oI c3_] [(.int (124 : Int32)), (.int c3_)]))
      by_cases hc66_19 : c3_ = (124 : Int32)
      · refine own_pvia (fun t kz => XS.icmpNo X6.here hx rfl (hb hby d9_66) rfl (teq hc66_19).2 kz) ?_
        refine own_pvia (fun t kz => XS.aloadN X6.here hx rfl (hb hby d9_69) rfl rfl kz) ?_
        refine own_pvia (fun t kz => XS.iloadN X6.here hx rfl (hb hby d9_70) rfl kz) ?_
        show own_Pc p e below _ (T6.setTop (mkF m 71 #[oR this, oR p1, oI (3 : Int32), oI c3_] [(.int c3_), (.ref this)]))
        obtain ⟨T20, h20, X20, e20, W20, st20⟩ := putF X6 hx hZ hown (host := "") (Or.inl (own_w hw 88)) Via.refl e6 F_closing E_this (Or.inl (own_w hw 89)) (own_w hw 7) (ty := .char) (by decide) (own_nch hc3) (own_fch hc3) (g := (mkF m 71 #[oR this, oR p1, oI (3 : Int32), oI c3_] [(.int c3_), (.ref this)])) rfl rfl (hb hby d9_71)
        refine own_pvia st20 ?_
        have O21 : Old Z n0 h20 := OLD.wr W20 g_this
        have E22 := E_this.wr W20
        have U23 : own_Str6 Z h20 n0 p1 c0_ c1_ c2_ c3_ c4_ c5_ := own_strw SR W20 ltb
        have F24 := F_depth.other W20 (Or.inr (slot_ne (Or.inl (own_w hw 96)) (Or.inl (own_w hw 89)) (by decide) (t := .int) (t' := .char) (by decide) (by decide)))
        have F25 := F_stray.other W20 (Or.inr (slot_ne (Or.inl (own_w hw 62)) (Or.inl (own_w hw 89)) (by decide) (t := .boolean) (t' := .char) (by decide) (by decide)))
        have F26 := F_closing.same W20
        have Zs27 : n0 ≤ h20.size := Nat.le_trans Z0 (Keep.of_wr W20).1
        have N28 := Fr.snoc X20 N5 g_this
        have K29 : Keep h0 h20 [this] := (Keep.refl h0 [this]).wr W20 (Or.inl (List.mem_of_getElem? (i := 0) rfl))
        refine own_pvia (fun t kz => XS.goto X20.here hx rfl (pc0 := 74) (pc' := 128) rfl (hb hby d9_74) (by decide) (by decide) kz) ?_
        show own_Pc p e below _ (T20.setTop (mkF m 128 #[oR this, oR p1, oI (3 : Int32), oI c3_] []))
        refine own_pvia (fun t kz => XS.iinc X20.here hx rfl (hb hby d9_128) rfl (l' := #[oR this, oR p1, oI (4 : Int32), oI c3_]) rfl kz) ?_
        refine own_pvia (fun t kz => XS.goto X20.here hx rfl (pc0 := 131) (pc' := 2) rfl (hb hby d9_131) (by decide) (by decide) kz) ?_
        exact ⟨_, fun t k => k, ⟨T20, h20, _, rfl, X20, e20, N28, Zs27, K29, E22, U23, by unfold own_stepf; rw [if_pos hc31_7, if_neg hc60_8, if_pos hc66_19]; exact ⟨F24, F25, F26⟩⟩⟩
      · refine own_pvia (fun t kz => XS.icmpYes X6.here hx rfl (pc0 := 66) (pc' := 77) rfl (hb hby d9_66) rfl (feq hc66_19).2 (by decide) (by decide) kz) ?_
        refine own_pvia (fun t kz => XS.iloadN X6.here hx rfl (hb hby d9_77) rfl kz) ?_
        refine own_pvia (fun t kz => XS.bipush X6.here hx rfl (hb hby d9_78) kz) ?_
        show own_Pc p e below _ (T6.setTop (mkF m 80 #[oR this, oR p1, oI (3 : Int32), oI c3_] [(.int (40 : Int32)), (.int c3_)]))
        by_cases hc80_30 : c3_ = (40 : Int32)
        · refine own_pvia (fun t kz => XS.icmpNo X6.here hx rfl (hb hby d9_80) rfl (teq hc80_30).2 kz) ?_
          refine own_pvia (fun t kz => XS.aloadN X6.here hx rfl (hb hby d9_83) rfl rfl kz) ?_
          refine own_pvia (fun t kz => XS.dup X6.here hx rfl (hb hby d9_84) rfl rfl kz) ?_
          show own_Pc p e below _ (T6.setTop (mkF m 85 #[oR this, oR p1, oI (3 : Int32), oI c3_] [(.ref this), (.ref this)]))
          obtain ⟨T31, X31, e31, st31⟩ := getF X6 hx hZ hown (host := "") (Or.inl (own_w hw 95)) Via.refl e6 F_depth (g := (mkF m 85 #[oR this, oR p1, oI (3 : Int32), oI c3_] [(.ref this), (.ref this)])) rfl rfl (hb hby d9_85)
          refine own_pvia st31 ?_
          refine own_pvia (fun t kz => XS.iconst X31.here hx rfl (hb hby d9_88) kz) ?_
          refine own_pvia (fun t kz => XS.iadd X31.here hx rfl (hb hby d9_89) rfl kz) ?_
          show own_Pc p e below _ (T31.setTop (mkF m 90 #[oR this, oR p1, oI (3 : Int32), oI c3_] [(.int (wd + (1 : Int32))), (.ref this)]))
          obtain ⟨T32, h32, X32, e32, W32, st32⟩ := putF X31 hx hZ hown (host := "") (Or.inl (own_w hw 95)) Via.refl e31 F_depth E_this (Or.inl (own_w hw 96)) (own_w hw 7) (ty := .int) (by decide) rfl rfl (g := (mkF m 90 #[oR this, oR p1, oI (3 : Int32), oI c3_] [(.int (wd + (1 : Int32))), (.ref this)])) rfl rfl (hb hby d9_90)
          refine own_pvia st32 ?_
          have O33 : Old Z n0 h32 := OLD.wr W32 g_this
          have E34 := E_this.wr W32
          have U35 : own_Str6 Z h32 n0 p1 c0_ c1_ c2_ c3_ c4_ c5_ := own_strw SR W32 ltb
          have F36 := F_depth.same W32
          have F37 := F_stray.other W32 (Or.inr (slot_ne (Or.inl (own_w hw 62)) (Or.inl (own_w hw 96)) (by decide) (t := .boolean) (t' := .int) (by decide) (by decide)))
          have F38 := F_closing.other W32 (Or.inr (slot_ne (Or.inl (own_w hw 89)) (Or.inl (own_w hw 96)) (by decide) (t := .char) (t' := .int) (by decide) (by decide)))
          have Zs39 : n0 ≤ h32.size := Nat.le_trans Z0 (Keep.of_wr W32).1
          have N40 := Fr.snoc X32 N5 g_this
          have K41 : Keep h0 h32 [this] := (Keep.refl h0 [this]).wr W32 (Or.inl (List.mem_of_getElem? (i := 0) rfl))
          refine own_pvia (fun t kz => XS.goto X32.here hx rfl (pc0 := 93) (pc' := 128) rfl (hb hby d9_93) (by decide) (by decide) kz) ?_
          show own_Pc p e below _ (T32.setTop (mkF m 128 #[oR this, oR p1, oI (3 : Int32), oI c3_] []))
          refine own_pvia (fun t kz => XS.iinc X32.here hx rfl (hb hby d9_128) rfl (l' := #[oR this, oR p1, oI (4 : Int32), oI c3_]) rfl kz) ?_
          refine own_pvia (fun t kz => XS.goto X32.here hx rfl (pc0 := 131) (pc' := 2) rfl (hb hby d9_131) (by decide) (by decide) kz) ?_
          exact ⟨_, fun t k => k, ⟨T32, h32, _, rfl, X32, e32, N40, Zs39, K41, E34, U35, by unfold own_stepf; rw [if_pos hc31_7, if_neg hc60_8, if_neg hc66_19, if_pos hc80_30]; exact ⟨F36, F37, F38⟩⟩⟩
        · refine own_pvia (fun t kz => XS.icmpYes X6.here hx rfl (pc0 := 80) (pc' := 96) rfl (hb hby d9_80) rfl (feq hc80_30).2 (by decide) (by decide) kz) ?_
          refine own_pvia (fun t kz => XS.iloadN X6.here hx rfl (hb hby d9_96) rfl kz) ?_
          refine own_pvia (fun t kz => XS.bipush X6.here hx rfl (hb hby d9_97) kz) ?_
          show own_Pc p e below _ (T6.setTop (mkF m 99 #[oR this, oR p1, oI (3 : Int32), oI c3_] [(.int (41 : Int32)), (.int c3_)]))
          by_cases hc99_42 : c3_ = (41 : Int32)
          · refine own_pvia (fun t kz => XS.icmpNo X6.here hx rfl (hb hby d9_99) rfl (teq hc99_42).2 kz) ?_
            refine own_pvia (fun t kz => XS.aloadN X6.here hx rfl (hb hby d9_102) rfl rfl kz) ?_
            refine own_pvia (fun t kz => XS.dup X6.here hx rfl (hb hby d9_103) rfl rfl kz) ?_
            show own_Pc p e below _ (T6.setTop (mkF m 104 #[oR this, oR p1, oI (3 : Int32), oI c3_] [(.ref this), (.ref this)]))
            obtain ⟨T43, X43, e43, st43⟩ := getF X6 hx hZ hown (host := "") (Or.inl (own_w hw 95)) Via.refl e6 F_depth (g := (mkF m 104 #[oR this, oR p1, oI (3 : Int32), oI c3_] [(.ref this), (.ref this)])) rfl rfl (hb hby d9_104)
            refine own_pvia st43 ?_
            refine own_pvia (fun t kz => XS.iconst X43.here hx rfl (hb hby d9_107) kz) ?_
            refine own_pvia (fun t kz => XS.isub X43.here hx rfl (hb hby d9_108) rfl kz) ?_
            show own_Pc p e below _ (T43.setTop (mkF m 109 #[oR this, oR p1, oI (3 : Int32), oI c3_] [(.int (wd - (1 : Int32))), (.ref this)]))
            obtain ⟨T44, h44, X44, e44, W44, st44⟩ := putF X43 hx hZ hown (host := "") (Or.inl (own_w hw 95)) Via.refl e43 F_depth E_this (Or.inl (own_w hw 96)) (own_w hw 7) (ty := .int) (by decide) rfl rfl (g := (mkF m 109 #[oR this, oR p1, oI (3 : Int32), oI c3_] [(.int (wd - (1 : Int32))), (.ref this)])) rfl rfl (hb hby d9_109)
            refine own_pvia st44 ?_
            have O45 : Old Z n0 h44 := OLD.wr W44 g_this
            have E46 := E_this.wr W44
            have U47 : own_Str6 Z h44 n0 p1 c0_ c1_ c2_ c3_ c4_ c5_ := own_strw SR W44 ltb
            have F48 := F_depth.same W44
            have F49 := F_stray.other W44 (Or.inr (slot_ne (Or.inl (own_w hw 62)) (Or.inl (own_w hw 96)) (by decide) (t := .boolean) (t' := .int) (by decide) (by decide)))
            have F50 := F_closing.other W44 (Or.inr (slot_ne (Or.inl (own_w hw 89)) (Or.inl (own_w hw 96)) (by decide) (t := .char) (t' := .int) (by decide) (by decide)))
            have Zs51 : n0 ≤ h44.size := Nat.le_trans Z0 (Keep.of_wr W44).1
            have N52 := Fr.snoc X44 N5 g_this
            have K53 : Keep h0 h44 [this] := (Keep.refl h0 [this]).wr W44 (Or.inl (List.mem_of_getElem? (i := 0) rfl))
            refine own_pvia (fun t kz => XS.aloadN X44.here hx rfl (hb hby d9_112) rfl rfl kz) ?_
            refine own_pvia (fun t kz => XS.aloadN X44.here hx rfl (hb hby d9_113) rfl rfl kz) ?_
            show own_Pc p e below _ (T44.setTop (mkF m 114 #[oR this, oR p1, oI (3 : Int32), oI c3_] [(.ref this), (.ref this)]))
            obtain ⟨T54, X54, e54, st54⟩ := getF X44 hx hZ hown (host := "") (Or.inl (own_w hw 95)) Via.refl e44 F48 (g := (mkF m 114 #[oR this, oR p1, oI (3 : Int32), oI c3_] [(.ref this), (.ref this)])) rfl rfl (hb hby d9_114)
            refine own_pvia st54 ?_
            show own_Pc p e below _ (T54.setTop (mkF m 117 #[oR this, oR p1, oI (3 : Int32), oI c3_] [(.int (wd - (1 : Int32))), (.ref this)]))
            by_cases hc117_55 : (wd - (1 : Int32)) < (0 : Int32)
            · refine own_pvia (fun t kz => XS.ifNo X54.here hx rfl (hb hby d9_117) rfl ((if0 _ _).trans (tlt hc117_55).2.1) kz) ?_
              refine own_pvia (fun t kz => XS.iconst X54.here hx rfl (hb hby d9_120) kz) ?_
              refine own_pvia (fun t kz => XS.goto X54.here hx rfl (pc0 := 121) (pc' := 125) rfl (hb hby d9_121) (by decide) (by decide) kz) ?_
              show own_Pc p e below _ (T54.setTop (mkF m 125 #[oR this, oR p1, oI (3 : Int32), oI c3_] [(.int (1 : Int32)), (.ref this)]))
              obtain ⟨T56, h56, X56, e56, W56, st56⟩ := putF X54 hx hZ hown (host := "") (Or.inl (own_w hw 61)) Via.refl e54 F49 E46 (Or.inl (own_w hw 62)) (own_w hw 7) (ty := .boolean) (by decide) rfl rfl (g := (mkF m 125 #[oR this, oR p1, oI (3 : Int32), oI c3_] [(.int (1 : Int32)), (.ref this)])) rfl rfl (hb hby d9_125)
              refine own_pvia st56 ?_
              have O57 : Old Z n0 h56 := O45.wr W56 g_this
              have E58 := E46.wr W56
              have U59 : own_Str6 Z h56 n0 p1 c0_ c1_ c2_ c3_ c4_ c5_ := own_strw U47 W56 ltb
              have F60 := F48.other W56 (Or.inr (slot_ne (Or.inl (own_w hw 96)) (Or.inl (own_w hw 62)) (by decide) (t := .int) (t' := .boolean) (by decide) (by decide)))
              have F61 := F49.same W56
              have F62 := F50.other W56 (Or.inr (slot_ne (Or.inl (own_w hw 89)) (Or.inl (own_w hw 62)) (by decide) (t := .char) (t' := .boolean) (by decide) (by decide)))
              have Zs63 : n0 ≤ h56.size := Nat.le_trans Zs51 (Keep.of_wr W56).1
              have N64 := Fr.snoc X56 N52 g_this
              have K65 : Keep h0 h56 [this] := K53.wr W56 (Or.inl (List.mem_of_getElem? (i := 0) rfl))
              show own_Pc p e below _ (T56.setTop (mkF m 128 #[oR this, oR p1, oI (3 : Int32), oI c3_] []))
              refine own_pvia (fun t kz => XS.iinc X56.here hx rfl (hb hby d9_128) rfl (l' := #[oR this, oR p1, oI (4 : Int32), oI c3_]) rfl kz) ?_
              refine own_pvia (fun t kz => XS.goto X56.here hx rfl (pc0 := 131) (pc' := 2) rfl (hb hby d9_131) (by decide) (by decide) kz) ?_
              exact ⟨_, fun t k => k, ⟨T56, h56, _, rfl, X56, e56, N64, Zs63, K65, E58, U59, by unfold own_stepf; rw [if_pos hc31_7, if_neg hc60_8, if_neg hc66_19, if_neg hc80_30, if_pos hc99_42, if_pos hc117_55]; exact ⟨F60, F61, F62⟩⟩⟩
            · refine own_pvia (fun t kz => XS.ifYes X54.here hx rfl (pc0 := 117) (pc' := 124) rfl (hb hby d9_117) rfl ((if0 _ _).trans (flt hc117_55).2.1) (by decide) (by decide) kz) ?_
              refine own_pvia (fun t kz => XS.iconst X54.here hx rfl (hb hby d9_124) kz) ?_
              show own_Pc p e below _ (T54.setTop (mkF m 125 #[oR this, oR p1, oI (3 : Int32), oI c3_] [(.int (0 : Int32)), (.ref this)]))
              obtain ⟨T66, h66, X66, e66, W66, st66⟩ := putF X54 hx hZ hown (host := "") (Or.inl (own_w hw 61)) Via.refl e54 F49 E46 (Or.inl (own_w hw 62)) (own_w hw 7) (ty := .boolean) (by decide) rfl rfl (g := (mkF m 125 #[oR this, oR p1, oI (3 : Int32), oI c3_] [(.int (0 : Int32)), (.ref this)])) rfl rfl (hb hby d9_125)
              refine own_pvia st66 ?_
              have O67 : Old Z n0 h66 := O45.wr W66 g_this
              have E68 := E46.wr W66
              have U69 : own_Str6 Z h66 n0 p1 c0_ c1_ c2_ c3_ c4_ c5_ := own_strw U47 W66 ltb
              have F70 := F48.other W66 (Or.inr (slot_ne (Or.inl (own_w hw 96)) (Or.inl (own_w hw 62)) (by decide) (t := .int) (t' := .boolean) (by decide) (by decide)))
              have F71 := F49.same W66
              have F72 := F50.other W66 (Or.inr (slot_ne (Or.inl (own_w hw 89)) (Or.inl (own_w hw 62)) (by decide) (t := .char) (t' := .boolean) (by decide) (by decide)))
              have Zs73 : n0 ≤ h66.size := Nat.le_trans Zs51 (Keep.of_wr W66).1
              have N74 := Fr.snoc X66 N52 g_this
              have K75 : Keep h0 h66 [this] := K53.wr W66 (Or.inl (List.mem_of_getElem? (i := 0) rfl))
              show own_Pc p e below _ (T66.setTop (mkF m 128 #[oR this, oR p1, oI (3 : Int32), oI c3_] []))
              refine own_pvia (fun t kz => XS.iinc X66.here hx rfl (hb hby d9_128) rfl (l' := #[oR this, oR p1, oI (4 : Int32), oI c3_]) rfl kz) ?_
              refine own_pvia (fun t kz => XS.goto X66.here hx rfl (pc0 := 131) (pc' := 2) rfl (hb hby d9_131) (by decide) (by decide) kz) ?_
              exact ⟨_, fun t k => k, ⟨T66, h66, _, rfl, X66, e66, N74, Zs73, K75, E68, U69, by unfold own_stepf; rw [if_pos hc31_7, if_neg hc60_8, if_neg hc66_19, if_neg hc80_30, if_pos hc99_42, if_neg hc117_55]; exact ⟨F70, F71, F72⟩⟩⟩
          · refine own_pvia (fun t kz => XS.icmpYes X6.here hx rfl (pc0 := 99) (pc' := 128) rfl (hb hby d9_99) rfl (feq hc99_42).2 (by decide) (by decide) kz) ?_
            show own_Pc p e below _ (T6.setTop (mkF m 128 #[oR this, oR p1, oI (3 : Int32), oI c3_] []))
            refine own_pvia (fun t kz => XS.iinc X6.here hx rfl (hb hby d9_128) rfl (l' := #[oR this, oR p1, oI (4 : Int32), oI c3_]) rfl kz) ?_
            refine own_pvia (fun t kz => XS.goto X6.here hx rfl (pc0 := 131) (pc' := 2) rfl (hb hby d9_131) (by decide) (by decide) kz) ?_
            exact ⟨_, fun t k => k, ⟨T6, h0, _, rfl, X6, e6, N5, Z0, (Keep.refl h0 [this]), E_this, SR, by unfold own_stepf; rw [if_pos hc31_7, if_neg hc60_8, if_neg hc66_19, if_neg hc80_30, if_neg hc99_42]; exact ⟨F_depth, F_stray, F_closing⟩⟩⟩
  · refine own_pvia (fun t kz => XS.ifNo X6.here hx rfl (hb hby d9_31) rfl ((if0 _ _).trans (feq hc31_7).1) kz) ?_
    refine own_pvia (fun t kz => XS.aloadN X6.here hx rfl (hb hby d9_34) rfl rfl kz) ?_
    refine own_pvia (fun t kz => XS.iloadN X6.here hx rfl (hb hby d9_35) rfl kz) ?_
    refine own_pvia (fun t kz => XS.aloadN X6.here hx rfl (hb hby d9_36) rfl rfl kz) ?_
    show own_Pc p e below _ (T6.setTop (mkF m 37 #[oR this, oR p1, oI (3 : Int32), oI c3_] [(.ref this), (.int c3_), (.ref this)]))
    obtain ⟨T76, X76, e76, st76⟩ := getF X6 hx hZ hown (host := "") (Or.inl (own_w hw 88)) Via.refl e6 F_closing (g := (mkF m 37 #[oR this, oR p1, oI (3 : Int32), oI c3_] [(.ref this), (.int c3_), (.ref this)])) rfl rfl (hb hby d9_37)
    refine own_pvia st76 ?_
    show own_Pc p e below _ (T76.setTop (mkF m 40 #[oR this, oR p1, oI (3 : Int32), oI c3_] [(.int wq), (.int c3_), (.ref this)]))
    by_cases hc40_77 : c3_ = wq
    · refine own_pvia (fun t kz => XS.icmpNo X76.here hx rfl (hb hby d9_40) rfl (teq hc40_77).2 kz) ?_
      refine own_pvia (fun t kz => XS.iconst X76.here hx rfl (hb hby d9_43) kz) ?_
      refine own_pvia (fun t kz => XS.goto X76.here hx rfl (pc0 := 44) (pc' := 51) rfl (hb hby d9_44) (by decide) (by decide) kz) ?_
      show own_Pc p e below _ (T76.setTop (mkF m 51 #[oR this, oR p1, oI (3 : Int32), oI c3_] [(.int (0 : Int32)), (.ref this)]))
      obtain ⟨T78, h78, X78, e78, W78, st78⟩ := putF X76 hx hZ hown (host := "") (Or.inl (own_w hw 88)) Via.refl e76 F_closing E_this (Or.inl (own_w hw 89)) (own_w hw 7) (ty := .char) (by decide) rfl rfl (g := (mkF m 51 #[oR this, oR p1, oI (3 : Int32), oI c3_] [(.int (0 : Int32)), (.ref this)])) rfl rfl (hb hby d9_51)
      refine own_pvia st78 ?_
      have O79 : Old Z n0 h78 := OLD.wr W78 g_this
      have E80 := E_this.wr W78
      have U81 : own_Str6 Z h78 n0 p1 c0_ c1_ c2_ c3_ c4_ c5_ := own_strw SR W78 ltb
      have F82 := F_depth.other W78 (Or.inr (slot_ne (Or.inl (own_w hw 96)) (Or.inl (own_w hw 89)) (by decide) (t := .int) (t' := .char) (by decide) (by decide)))
      have F83 := F_stray.other W78 (Or.inr (slot_ne (Or.inl (own_w hw 62)) (Or.inl (own_w hw 89)) (by decide) (t := .boolean) (t' := .char) (by decide) (by decide)))
      have F84 := F_closing.same W78
      have Zs85 : n0 ≤ h78.size := Nat.le_trans Z0 (Keep.of_wr W78).1
      have N86 := Fr.snoc X78 N5 g_this
      have K87 : Keep h0 h78 [this] := (Keep.refl h0 [this]).wr W78 (Or.inl (List.mem_of_getElem? (i := 0) rfl))
      refine own_pvia (fun t kz => XS.goto X78.here hx rfl (pc0 := 54) (pc' := 128) rfl (hb hby d9_54) (by decide) (by decide) kz) ?_
      show own_Pc p e below _ (T78.setTop (mkF m 128 #[oR this, oR p1, oI (3 : Int32), oI c3_] []))
      refine own_pvia (fun t kz => XS.iinc X78.here hx rfl (hb hby d9_128) rfl (l' := #[oR this, oR p1, oI (4 : Int32), oI c3_]) rfl kz) ?_
      refine own_pvia (fun t kz => XS.goto X78.here hx rfl (pc0 := 131) (pc' := 2) rfl (hb hby d9_131) (by decide) (by decide) kz) ?_
      exact ⟨_, fun t k => k, ⟨T78, h78, _, rfl, X78, e78, N86, Zs85, K87, E80, U81, by unfold own_stepf; rw [if_neg hc31_7, if_pos hc40_77]; exact ⟨F82, F83, F84⟩⟩⟩
    · refine own_pvia (fun t kz => XS.icmpYes X76.here hx rfl (pc0 := 40) (pc' := 47) rfl (hb hby d9_40) rfl (feq hc40_77).2 (by decide) (by decide) kz) ?_
      refine own_pvia (fun t kz => XS.aloadN X76.here hx rfl (hb hby d9_47) rfl rfl kz) ?_
      show own_Pc p e below _ (T76.setTop (mkF m 48 #[oR this, oR p1, oI (3 : Int32), oI c3_] [(.ref this), (.ref this)]))
      obtain ⟨T88, X88, e88, st88⟩ := getF X76 hx hZ hown (host := "") (Or.inl (own_w hw 88)) Via.refl e76 F_closing (g := (mkF m 48 #[oR this, oR p1, oI (3 : Int32), oI c3_] [(.ref this), (.ref this)])) rfl rfl (hb hby d9_48)
      refine own_pvia st88 ?_
      show own_Pc p e below _ (T88.setTop (mkF m 51 #[oR this, oR p1, oI (3 : Int32), oI c3_] [(.int wq), (.ref this)]))
      obtain ⟨T89, h89, X89, e89, W89, st89⟩ := putF X88 hx hZ hown (host := "") (Or.inl (own_w hw 88)) Via.refl e88 F_closing E_this (Or.inl (own_w hw 89)) (own_w hw 7) (ty := .char) (by decide) (own_nch hq) (own_fch hq) (g := (mkF m 51 #[oR this, oR p1, oI (3 : Int32), oI c3_] [(.int wq), (.ref this)])) rfl rfl (hb hby d9_51)
      refine own_pvia st89 ?_
      have O90 : Old Z n0 h89 := OLD.wr W89 g_this
      have E91 := E_this.wr W89
      have U92 : own_Str6 Z h89 n0 p1 c0_ c1_ c2_ c3_ c4_ c5_ := own_strw SR W89 ltb
      have F93 := F_depth.other W89 (Or.inr (slot_ne (Or.inl (own_w hw 96)) (Or.inl (own_w hw 89)) (by decide) (t := .int) (t' := .char) (by decide) (by decide)))
      have F94 := F_stray.other W89 (Or.inr (slot_ne (Or.inl (own_w hw 62)) (Or.inl (own_w hw 89)) (by decide) (t := .boolean) (t' := .char) (by decide) (by decide)))
      have F95 := F_closing.same W89
      have Zs96 : n0 ≤ h89.size := Nat.le_trans Z0 (Keep.of_wr W89).1
      have N97 := Fr.snoc X89 N5 g_this
      have K98 : Keep h0 h89 [this] := (Keep.refl h0 [this]).wr W89 (Or.inl (List.mem_of_getElem? (i := 0) rfl))
      refine own_pvia (fun t kz => XS.goto X89.here hx rfl (pc0 := 54) (pc' := 128) rfl (hb hby d9_54) (by decide) (by decide) kz) ?_
      show own_Pc p e below _ (T89.setTop (mkF m 128 #[oR this, oR p1, oI (3 : Int32), oI c3_] []))
      refine own_pvia (fun t kz => XS.iinc X89.here hx rfl (hb hby d9_128) rfl (l' := #[oR this, oR p1, oI (4 : Int32), oI c3_]) rfl kz) ?_
      refine own_pvia (fun t kz => XS.goto X89.here hx rfl (pc0 := 131) (pc' := 2) rfl (hb hby d9_131) (by decide) (by decide) kz) ?_
      exact ⟨_, fun t k => k, ⟨T89, h89, _, rfl, X89, e89, N97, Zs96, K98, E91, U92, by unfold own_stepf; rw [if_neg hc31_7, if_neg hc40_77]; exact ⟨F93, F94, F95⟩⟩⟩
set_option maxRecDepth 65536 in
set_option maxHeartbeats 40000000 in
theorem own_turn4 {p : Program} {l : Launch} {e : Env} {R : Room} {s : State} {m : MethodId} {args : Array Value} {below : List Frame} {meth : Method} {c : Code} {T0 : State} {locs : List Loc} {cells slots : Nat} {Z : State} {a0 : Array Value} {h0 : Heap} {n0 : Nat} (this : Addr) (p1 : Addr) (wd : Int32) (wst : Int32) (wq : Int32) (c0_ : Int32) (c1_ : Int32) (c2_ : Int32) (c3_ : Int32) (c4_ : Int32) (c5_ : Int32) (wcs : Int32) (wsf : Value)
    (X0 : Stand p l e R s m args below meth c T0 locs cells slots) (hx : p.tables.exec = Jvm.exec) (hZ : Z.Warmed39 s.vm) (hw : ∀ d ∈ tables_1, d.before a0 Z = true) (hby : c.code = prog_88_method_2_code) (hml : c.maxLocals = 4) (hown : s.vm.findClass "com/example/quiescence/quiescence/model/SExpression$Balance" = some m.cls) (e0 : T0.heap = h0) (N0 : Fr n0 locs) (Z0 : n0 ≤ h0.size) (g_this : n0 ≤ this) (ltb : this < p1) (E_this : Exa Z h0 this "com/example/quiescence/quiescence/model/SExpression$Balance") (F_depth : Fld Z h0 this "com/example/quiescence/quiescence/model/SExpression$Balance" "depth" "I" (.int wd)) (F_stray : Fld Z h0 this "com/example/quiescence/quiescence/model/SExpression$Balance" "stray" "Z" (.int wst)) (F_closing : Fld Z h0 this "com/example/quiescence/quiescence/model/SExpression$Balance" "closing" "C" (.int wq)) (SR : own_Str6 Z h0 n0 p1 c0_ c1_ c2_ c3_ c4_ c5_) (hc0 : own_ch c0_) (hc1 : own_ch c1_) (hc2 : own_ch c2_) (hc3 : own_ch c3_) (hc4 : own_ch c4_) (hc5 : own_ch c5_) (OLD : Old Z n0 h0) (hcs : ¬ (wcs = (0 : Int32))) (rsf : wsf.isRef = true) (B_wcs : Sta Z Z.heap "java/lang/String" "COMPACT_STRINGS" "Z" (.int wcs)) (B_wsf : Sta Z Z.heap "jdk/internal/util/Preconditions" "SIOOBE_FORMATTER" "Ljava/util/function/BiFunction;" wsf) (B_wad : Sta Z Z.heap "java/lang/StringUTF16" "$assertionsDisabled" "Z" (.int (1 : Int32))) (B_whi : Sta Z Z.heap "java/lang/StringUTF16" "HI_BYTE_SHIFT" "I" (.int (0 : Int32))) (B_wlo : Sta Z Z.heap "java/lang/StringUTF16" "LO_BYTE_SHIFT" "I" (.int (8 : Int32))) (hs : wst = (0 : Int32)) (hq : own_ch wq) (hfr : 5 ≤ R.frames) (hlo : 66 ≤ R.locals) (hcl : cells ≤ R.cells) (hsl : slots ≤ R.slots) :
    own_Pc p e below (fun B => ∃ (T' : State) (h' : Heap) (locs' : List Loc), B = T'.setTop (mkF m 2 #[oR this, oR p1, oI (5 : Int32), oI c4_] []) ∧ Stand p l e R s m args below meth c T' locs' cells slots ∧ T'.heap = h' ∧ Fr n0 locs' ∧ n0 ≤ h'.size ∧ Keep h0 h' [this] ∧ Exa Z h' this "com/example/quiescence/quiescence/model/SExpression$Balance" ∧ own_Str6 Z h' n0 p1 c0_ c1_ c2_ c3_ c4_ c5_ ∧ own_Bal Z h' this (own_stepf wd wst wq c4_)) (T0.setTop (mkF m 2 #[oR this, oR p1, oI (4 : Int32), oI c3_] [])) := by
  show own_Pc p e below _ (T0.setTop (mkF m 2 #[oR this, oR p1, oI (4 : Int32), oI c3_] []))
  refine own_pvia (fun t kz => XS.iloadN X0.here hx rfl (hb hby d9_2) rfl kz) ?_
  refine own_pvia (fun t kz => XS.aloadN X0.here hx rfl (hb hby d9_3) rfl rfl kz) ?_
  show own_Pc p e below _ (T0.setTop (mkF m 4 #[oR this, oR p1, oI (4 : Int32), oI c3_] [(.ref p1), (.int (4 : Int32))]))
  obtain ⟨cq1, kq1, qa1, qb1, qc1⟩ := isOf hZ e0 (own_strE SR)
  obtain ⟨_, _, ⟨T1, L1, k1, n1⟩, -, X1, ⟨Lc1, hQ1, l1, y1, z1⟩, st1⟩ := X0.interfaceBack hx (xi := (⟨"java/lang/CharSequence", "length", "()I"⟩ : MethodName)) (y := (⟨"java/lang/String", "length", "()I"⟩ : MethodName)) hown (mvT hZ (own_w hw 47)) (mvT hZ (own_w hw 48)) (mvT hZ (own_w hw 49)) (mvT hZ (own_w hw 50)) (mvT hZ (own_w hw 51)) (mvT hZ (own_w hw 52)) (mvT hZ (own_w hw 53)) (mvT hZ (own_w hw 54)) (by decide) (backOf (W := 1) (rmL6 l Z a0 hw [] p1 c0_ c1_ c2_ c3_ c4_ c5_ wcs wsf h0 n0 Z0 SR OLD hcs rsf B_wcs B_wsf B_wad B_whi B_wlo) hZ (own_w hw 55) (own_w hw 17) (Nat.le_trans (by decide) hfr) (Nat.le_trans (by decide) hlo)) qa1 qb1 qc1 (g := (mkF m 4 #[oR this, oR p1, oI (4 : Int32), oI c3_] [(.ref p1), (.int (4 : Int32))])) rfl (by rw [hml]; rfl) (Steps.refl _) (argsL := []) (rest := [(.int (4 : Int32))]) (lenOf pd_9_0 rfl) rfl (by show 2 * 0 + _ ≤ _; exact Nat.le_of_eq rfl) (hb hby d9_4) (fun _ _ => ⟨rfl, e0, hcl, hsl⟩)
  dsimp only [Pt.U, Pt.locs, Pt.cells, Pt.slots] at X1 l1 y1 z1 st1 hQ1
  subst l1 y1 z1
  obtain ⟨rfl, Nq1, e1⟩ := hQ1
  have N2 := Fr.app N0 Nq1
  refine own_ptr st1 ?_
  show own_Pc p e below _ (T1.setTop (mkF m 9 #[oR this, oR p1, oI (4 : Int32), oI c3_] [(.int (6 : Int32)), (.int (4 : Int32))]))
  refine own_pvia (fun t kz => XS.icmpNo X1.here hx rfl (hb hby d9_9) rfl (tlt (by decide : (4 : Int32) < (6 : Int32))).2.1 kz) ?_
  refine own_pvia (fun t kz => XS.aloadN X1.here hx rfl (hb hby d9_12) rfl rfl kz) ?_
  show own_Pc p e below _ (T1.setTop (mkF m 13 #[oR this, oR p1, oI (4 : Int32), oI c3_] [(.ref this)]))
  obtain ⟨T3, X3, e3, st3⟩ := getF X1 hx hZ hown (host := "") (Or.inl (own_w hw 61)) Via.refl e1 F_stray (g := (mkF m 13 #[oR this, oR p1, oI (4 : Int32), oI c3_] [(.ref this)])) rfl rfl (hb hby d9_13)
  refine own_pvia st3 ?_
  show own_Pc p e below _ (T3.setTop (mkF m 16 #[oR this, oR p1, oI (4 : Int32), oI c3_] [(.int wst)]))
  refine own_pvia (fun t kz => XS.ifNo X3.here hx rfl (hb hby d9_16) rfl ((if0 _ _).trans (teq hs).2) kz) ?_
  refine own_pvia (fun t kz => XS.aloadN X3.here hx rfl (hb hby d9_19) rfl rfl kz) ?_
  refine own_pvia (fun t kz => XS.iloadN X3.here hx rfl (hb hby d9_20) rfl kz) ?_
  show own_Pc p e below _ (T3.setTop (mkF m 21 #[oR this, oR p1, oI (4 : Int32), oI c3_] [(.int (4 : Int32)), (.ref p1)]))
  obtain ⟨cq4, kq4, qa4, qb4, qc4⟩ := isOf hZ e3 (own_strE SR)
  obtain ⟨_, _, ⟨T4, L4, k4, n4⟩, -, X4, ⟨Lc4, hQ4, l4, y4, z4⟩, st4⟩ := X3.interfaceBack hx (xi := (⟨"java/lang/CharSequence", "charAt", "(I)C"⟩ : MethodName)) (y := (⟨"java/lang/String", "charAt", "(I)C"⟩ : MethodName)) hown (mvT hZ (own_w hw 63)) (mvT hZ (own_w hw 64)) (mvT hZ (own_w hw 65)) (mvT hZ (own_w hw 66)) (mvT hZ (own_w hw 67)) (mvT hZ (own_w hw 68)) (mvT hZ (own_w hw 69)) (mvT hZ (own_w hw 54)) (by decide) (backOf (W := 0) (rmA6_4 l Z a0 hw [] p1 c0_ c1_ c2_ c3_ c4_ c5_ wcs wsf h0 n0 Z0 SR hc0 hc1 hc2 hc3 hc4 hc5 OLD hcs rsf B_wcs B_wsf B_wad B_whi B_wlo) hZ (own_w hw 70) (own_w hw 17) (Nat.le_trans (by decide) hfr) (Nat.le_trans (by decide) hlo)) qa4 qb4 qc4 (g := (mkF m 21 #[oR this, oR p1, oI (4 : Int32), oI c3_] [(.int (4 : Int32)), (.ref p1)])) rfl (by rw [hml]; rfl) (Steps.refl _) (argsL := [(.int (4 : Int32))]) (rest := []) (lenOf pd_9_1 rfl) rfl (by show 2 * 0 + _ ≤ _; exact Nat.le_of_eq rfl) (hb hby d9_21) (fun _ _ => ⟨rfl, e3, hcl, hsl⟩)
  dsimp only [Pt.U, Pt.locs, Pt.cells, Pt.slots] at X4 l4 y4 z4 st4 hQ4
  subst l4 y4 z4
  obtain ⟨rfl, Nq4, e4⟩ := hQ4
  have N5 := Fr.app N2 Nq4
  refine own_ptr st4 ?_
  refine own_pvia (fun t kz => XS.istoreN X4.here hx rfl (hb hby d9_26) rfl (l' := #[oR this, oR p1, oI (4 : Int32), oI c4_]) rfl kz) ?_
  refine own_pvia (fun t kz => XS.aloadN X4.here hx rfl (hb hby d9_27) rfl rfl kz) ?_
  show own_Pc p e below _ (T4.setTop (mkF m 28 #[oR this, oR p1, oI (4 : Int32), oI c4_] [(.ref this)]))
  obtain ⟨T6, X6, e6, st6⟩ := getF X4 hx hZ hown (host := "") (Or.inl (own_w hw 88)) Via.refl e4 F_closing (g := (mkF m 28 #[oR this, oR p1, oI (4 : Int32), oI c4_] [(.ref this)])) rfl rfl (hb hby d9_28)
  refine own_pvia st6 ?_
  show own_Pc p e below _ (T6.setTop (mkF m 31 #[oR this, oR p1, oI (4 : Int32), oI c4_] [(.int wq)]))
  by_cases hc31_7 : wq = (0 : Int32)
  · refine own_pvia (fun t kz => XS.ifYes X6.here hx rfl (pc0 := 31) (pc' := 57) rfl (hb hby d9_31) rfl ((if0 _ _).trans (teq hc31_7).1) (by decide) (by decide) kz) ?_
    refine own_pvia (fun t kz => XS.iloadN X6.here hx rfl (hb hby d9_57) rfl kz) ?_
    refine own_pvia (fun t kz => XS.bipush X6.here hx rfl (hb hby d9_58) kz) ?_
    show own_Pc p e below _ (T6.setTop (mkF m 60 #[oR this, oR p1, oI (4 : Int32), oI c4_] [(.int (34 : Int32)), (.int c4_)]))
    by_cases hc60_8 : c4_ = (34 : Int32)
    · refine own_pvia (fun t kz => XS.icmpYes X6.here hx rfl (pc0 := 60) (pc' := 69) rfl (hb hby d9_60) rfl (teq hc60_8).1 (by decide) (by decide) kz) ?_
      refine own_pvia (fun t kz => XS.aloadN X6.here hx rfl (hb hby d9_69) rfl rfl kz) ?_
      refine own_pvia (fun t kz => XS.iloadN X6.here hx rfl (hb hby d9_70) rfl kz) ?_
      show own_Pc p e below _ (T6.setTop (mkF m 71 #[oR this, oR p1, oI (4 : Int32), oI c4_] [(.int c4_), (.ref this)]))
      obtain ⟨T9, h9, X9, e9, W9, st9⟩ := putF X6 hx hZ hown (host := "") (Or.inl (own_w hw 88)) Via.refl e6 F_closing E_this (Or.inl (own_w hw 89)) (own_w hw 7) (ty := .char) (by decide) (own_nch hc4) (own_fch hc4) (g := (mkF m 71 #[oR this, oR p1, oI (4 : Int32), oI c4_] [(.int c4_), (.ref this)])) rfl rfl (hb hby d9_71)
      refine own_pvia st9 ?_
      have O10 : Old Z n0 h9 := OLD.wr W9 g_this
      have E11 := E_this.wr W9
      have U12 : own_Str6 Z h9 n0 p1 c0_ c1_ c2_ c3_ c4_ c5_ := own_strw SR W9 ltb
      have F13 := F_depth.other W9 (Or.inr (slot_ne (Or.inl (own_w hw 96)) (Or.inl (own_w hw 89)) (by decide) (t := .int) (t' := .char) (by decide) (by decide)))
      have F14 := F_stray.other W9 (Or.inr (slot_ne (Or.inl (own_w hw 62)) (Or.inl (own_w hw 89)) (by decide) (t := .boolean) (t' := .char) (by decide) (by decide)))
      have F15 := F_closing.same W9
      have Zs16 : n0 ≤ h9.size := Nat.le_trans Z0 (Keep.of_wr W9).1
      have N17 := Fr.snoc X9 N5 g_this
      have K18 : Keep h0 h9 [this] := (Keep.refl h0 [this]).wr W9 (Or.inl (List.mem_of_getElem? (i := 0) rfl))
      refine own_pvia (fun t kz => XS.goto X9.here hx rfl (pc0 := 74) (pc' := 128) rfl (hb hby d9_74) (by decide) (by decide) kz) ?_
      show own_Pc p e below _ (T9.setTop (mkF m 128 #[oR this, oR p1, oI (4 : Int32), oI c4_] []))
      refine own_pvia (fun t kz => XS.iinc X9.here hx rfl (hb hby d9_128) rfl (l' := #[oR this, oR p1, oI (5 : Int32), oI c4_]) rfl kz) ?_
      refine own_pvia (fun t kz => XS.goto X9.here hx rfl (pc0 := 131) (pc' := 2) rfl (hb hby d9_131) (by decide) (by decide) kz) ?_
      exact ⟨_, fun t k => k, ⟨T9, h9, _, rfl, X9, e9, N17, Zs16, K18, E11, U12, by unfold own_stepf; rw [if_pos hc31_7, if_pos hc60_8]; exact ⟨F13, F14, F15⟩⟩⟩
    · refine own_pvia (fun t kz => XS.icmpNo X6.here hx rfl (hb hby d9_60) rfl (feq hc60_8).1 kz) ?_
      refine own_pvia (fun t kz => XS.iloadN X6.here hx rfl (hb hby d9_63) rfl kz) ?_
      refine own_pvia (fun t kz => XS.bipush X6.here hx rfl (hb hby d9_64) kz) ?_
      show own_Pc p e below _ (T6.setTop (mkF m 66 #[oR this, oR p1, oI (4 : Int32), oI c4_] [(.int (124 : Int32)), (.int c4_)]))
      by_cases hc66_19 : c4_ = (124 : Int32)
      · refine own_pvia (fun t kz => XS.icmpNo X6.here hx rfl (hb hby d9_66) rfl (teq hc66_19).2 kz) ?_
        refine own_pvia (fun t kz => XS.aloadN X6.here hx rfl (hb hby d9_69) rfl rfl kz) ?_
        refine own_pvia (fun t kz => XS.iloadN X6.here hx rfl (hb hby d9_70) rfl kz) ?_
        show own_Pc p e below _ (T6.setTop (mkF m 71 #[oR this, oR p1, oI (4 : Int32), oI c4_] [(.int c4_), (.ref this)]))
        obtain ⟨T20, h20, X20, e20, W20, st20⟩ := putF X6 hx hZ hown (host := "") (Or.inl (own_w hw 88)) Via.refl e6 F_closing E_this (Or.inl (own_w hw 89)) (own_w hw 7) (ty := .char) (by decide) (own_nch hc4) (own_fch hc4) (g := (mkF m 71 #[oR this, oR p1, oI (4 : Int32), oI c4_] [(.int c4_), (.ref this)])) rfl rfl (hb hby d9_71)
        refine own_pvia st20 ?_
        have O21 : Old Z n0 h20 := OLD.wr W20 g_this
        have E22 := E_this.wr W20
        have U23 : own_Str6 Z h20 n0 p1 c0_ c1_ c2_ c3_ c4_ c5_ := own_strw SR W20 ltb
        have F24 := F_depth.other W20 (Or.inr (slot_ne (Or.inl (own_w hw 96)) (Or.inl (own_w hw 89)) (by decide) (t := .int) (t' := .char) (by decide) (by decide)))
        have F25 := F_stray.other W20 (Or.inr (slot_ne (Or.inl (own_w hw 62)) (Or.inl (own_w hw 89)) (by decide) (t := .boolean) (t' := .char) (by decide) (by decide)))
        have F26 := F_closing.same W20
        have Zs27 : n0 ≤ h20.size := Nat.le_trans Z0 (Keep.of_wr W20).1
        have N28 := Fr.snoc X20 N5 g_this
        have K29 : Keep h0 h20 [this] := (Keep.refl h0 [this]).wr W20 (Or.inl (List.mem_of_getElem? (i := 0) rfl))
        refine own_pvia (fun t kz => XS.goto X20.here hx rfl (pc0 := 74) (pc' := 128) rfl (hb hby d9_74) (by decide) (by decide) kz) ?_
        show own_Pc p e below _ (T20.setTop (mkF m 128 #[oR this, oR p1, oI (4 : Int32), oI c4_] []))
        refine own_pvia (fun t kz => XS.iinc X20.here hx rfl (hb hby d9_128) rfl (l' := #[oR this, oR p1, oI (5 : Int32), oI c4_]) rfl kz) ?_
        refine own_pvia (fun t kz => XS.goto X20.here hx rfl (pc0 := 131) (pc' := 2) rfl (hb hby d9_131) (by decide) (by decide) kz) ?_
        exact ⟨_, fun t k => k, ⟨T20, h20, _, rfl, X20, e20, N28, Zs27, K29, E22, U23, by unfold own_stepf; rw [if_pos hc31_7, if_neg hc60_8, if_pos hc66_19]; exact ⟨F24, F25, F26⟩⟩⟩
      · refine own_pvia (fun t kz => XS.icmpYes X6.here hx rfl (pc0 := 66) (pc' := 77) rfl (hb hby d9_66) rfl (feq hc66_19).2 (by decide) (by decide) kz) ?_
        refine own_pvia (fun t kz => XS.iloadN X6.here hx rfl (hb hby d9_77) rfl kz) ?_
        refine own_pvia (fun t kz => XS.bipush X6.here hx rfl (hb hby d9_78) kz) ?_
        show own_Pc p e below _ (T6.setTop (mkF m 80 #[oR this, oR p1, oI (4 : Int32), oI c4_] [(.int (40 : Int32)), (.int c4_)]))
        by_cases hc80_30 : c4_ = (40 : Int32)
        · refine own_pvia (fun t kz => XS.icmpNo X6.here hx rfl (hb hby d9_80) rfl (teq hc80_30).2 kz) ?_
          refine own_pvia (fun t kz => XS.aloadN X6.here hx rfl (hb hby d9_83) rfl rfl kz) ?_
          refine own_pvia (fun t kz => XS.dup X6.here hx rfl (hb hby d9_84) rfl rfl kz) ?_
          show own_Pc p e below _ (T6.setTop (mkF m 85 #[oR this, oR p1, oI (4 : Int32), oI c4_] [(.ref this), (.ref this)]))
          obtain ⟨T31, X31, e31, st31⟩ := getF X6 hx hZ hown (host := "") (Or.inl (own_w hw 95)) Via.refl e6 F_depth (g := (mkF m 85 #[oR this, oR p1, oI (4 : Int32), oI c4_] [(.ref this), (.ref this)])) rfl rfl (hb hby d9_85)
          refine own_pvia st31 ?_
          refine own_pvia (fun t kz => XS.iconst X31.here hx rfl (hb hby d9_88) kz) ?_
          refine own_pvia (fun t kz => XS.iadd X31.here hx rfl (hb hby d9_89) rfl kz) ?_
          show own_Pc p e below _ (T31.setTop (mkF m 90 #[oR this, oR p1, oI (4 : Int32), oI c4_] [(.int (wd + (1 : Int32))), (.ref this)]))
          obtain ⟨T32, h32, X32, e32, W32, st32⟩ := putF X31 hx hZ hown (host := "") (Or.inl (own_w hw 95)) Via.refl e31 F_depth E_this (Or.inl (own_w hw 96)) (own_w hw 7) (ty := .int) (by decide) rfl rfl (g := (mkF m 90 #[oR this, oR p1, oI (4 : Int32), oI c4_] [(.int (wd + (1 : Int32))), (.ref this)])) rfl rfl (hb hby d9_90)
          refine own_pvia st32 ?_
          have O33 : Old Z n0 h32 := OLD.wr W32 g_this
          have E34 := E_this.wr W32
          have U35 : own_Str6 Z h32 n0 p1 c0_ c1_ c2_ c3_ c4_ c5_ := own_strw SR W32 ltb
          have F36 := F_depth.same W32
          have F37 := F_stray.other W32 (Or.inr (slot_ne (Or.inl (own_w hw 62)) (Or.inl (own_w hw 96)) (by decide) (t := .boolean) (t' := .int) (by decide) (by decide)))
          have F38 := F_closing.other W32 (Or.inr (slot_ne (Or.inl (own_w hw 89)) (Or.inl (own_w hw 96)) (by decide) (t := .char) (t' := .int) (by decide) (by decide)))
          have Zs39 : n0 ≤ h32.size := Nat.le_trans Z0 (Keep.of_wr W32).1
          have N40 := Fr.snoc X32 N5 g_this
          have K41 : Keep h0 h32 [this] := (Keep.refl h0 [this]).wr W32 (Or.inl (List.mem_of_getElem? (i := 0) rfl))
          refine own_pvia (fun t kz => XS.goto X32.here hx rfl (pc0 := 93) (pc' := 128) rfl (hb hby d9_93) (by decide) (by decide) kz) ?_
          show own_Pc p e below _ (T32.setTop (mkF m 128 #[oR this, oR p1, oI (4 : Int32), oI c4_] []))
          refine own_pvia (fun t kz => XS.iinc X32.here hx rfl (hb hby d9_128) rfl (l' := #[oR this, oR p1, oI (5 : Int32), oI c4_]) rfl kz) ?_
          refine own_pvia (fun t kz => XS.goto X32.here hx rfl (pc0 := 131) (pc' := 2) rfl (hb hby d9_131) (by decide) (by decide) kz) ?_
          exact ⟨_, fun t k => k, ⟨T32, h32, _, rfl, X32, e32, N40, Zs39, K41, E34, U35, by unfold own_stepf; rw [if_pos hc31_7, if_neg hc60_8, if_neg hc66_19, if_pos hc80_30]; exact ⟨F36, F37, F38⟩⟩⟩
        · refine own_pvia (fun t kz => XS.icmpYes X6.here hx rfl (pc0 := 80) (pc' := 96) rfl (hb hby d9_80) rfl (feq hc80_30).2 (by decide) (by decide) kz) ?_
          refine own_pvia (fun t kz => XS.iloadN X6.here hx rfl (hb hby d9_96) rfl kz) ?_
          refine own_pvia (fun t kz => XS.bipush X6.here hx rfl (hb hby d9_97) kz) ?_
          show own_Pc p e below _ (T6.setTop (mkF m 99 #[oR this, oR p1, oI (4 : Int32), oI c4_] [(.int (41 : Int32)), (.int c4_)]))
          by_cases hc99_42 : c4_ = (41 : Int32)
          · refine own_pvia (fun t kz => XS.icmpNo X6.here hx rfl (hb hby d9_99) rfl (teq hc99_42).2 kz) ?_
            refine own_pvia (fun t kz => XS.aloadN X6.here hx rfl (hb hby d9_102) rfl rfl kz) ?_
            refine own_pvia (fun t kz => XS.dup X6.here hx rfl (hb hby d9_103) rfl rfl kz) ?_
            show own_Pc p e below _ (T6.setTop (mkF m 104 #[oR this, oR p1, oI (4 : Int32), oI c4_] [(.ref this), (.ref this)]))
            obtain ⟨T43, X43, e43, st43⟩ := getF X6 hx hZ hown (host := "") (Or.inl (own_w hw 95)) Via.refl e6 F_depth (g := (mkF m 104 #[oR this, oR p1, oI (4 : Int32), oI c4_] [(.ref this), (.ref this)])) rfl rfl (hb hby d9_104)
            refine own_pvia st43 ?_
            refine own_pvia (fun t kz => XS.iconst X43.here hx rfl (hb hby d9_107) kz) ?_
            refine own_pvia (fun t kz => XS.isub X43.here hx rfl (hb hby d9_108) rfl kz) ?_
            show own_Pc p e below _ (T43.setTop (mkF m 109 #[oR this, oR p1, oI (4 : Int32), oI c4_] [(.int (wd - (1 : Int32))), (.ref this)]))
            obtain ⟨T44, h44, X44, e44, W44, st44⟩ := putF X43 hx hZ hown (host := "") (Or.inl (own_w hw 95)) Via.refl e43 F_depth E_this (Or.inl (own_w hw 96)) (own_w hw 7) (ty := .int) (by decide) rfl rfl (g := (mkF m 109 #[oR this, oR p1, oI (4 : Int32), oI c4_] [(.int (wd - (1 : Int32))), (.ref this)])) rfl rfl (hb hby d9_109)
            refine own_pvia st44 ?_
            have O45 : Old Z n0 h44 := OLD.wr W44 g_this
            have E46 := E_this.wr W44
            have U47 : own_Str6 Z h44 n0 p1 c0_ c1_ c2_ c3_ c4_ c5_ := own_strw SR W44 ltb
            have F48 := F_depth.same W44
            have F49 := F_stray.other W44 (Or.inr (slot_ne (Or.inl (own_w hw 62)) (Or.inl (own_w hw 96)) (by decide) (t := .boolean) (t' := .int) (by decide) (by decide)))
            have F50 := F_closing.other W44 (Or.inr (slot_ne (Or.inl (own_w hw 89)) (Or.inl (own_w hw 96)) (by decide) (t := .char) (t' := .int) (by decide) (by decide)))
            have Zs51 : n0 ≤ h44.size := Nat.le_trans Z0 (Keep.of_wr W44).1
            have N52 := Fr.snoc X44 N5 g_this
            have K53 : Keep h0 h44 [this] := (Keep.refl h0 [this]).wr W44 (Or.inl (List.mem_of_getElem? (i := 0) rfl))
            refine own_pvia (fun t kz => XS.aloadN X44.here hx rfl (hb hby d9_112) rfl rfl kz) ?_
            refine own_pvia (fun t kz => XS.aloadN X44.here hx rfl (hb hby d9_113) rfl rfl kz) ?_
            show own_Pc p e below _ (T44.setTop (mkF m 114 #[oR this, oR p1, oI (4 : Int32), oI c4_] [(.ref this), (.ref this)]))
            obtain ⟨T54, X54, e54, st54⟩ := getF X44 hx hZ hown (host := "") (Or.inl (own_w hw 95)) Via.refl e44 F48 (g := (mkF m 114 #[oR this, oR p1, oI (4 : Int32), oI c4_] [(.ref this), (.ref this)])) rfl rfl (hb hby d9_114)
            refine own_pvia st54 ?_
            show own_Pc p e below _ (T54.setTop (mkF m 117 #[oR this, oR p1, oI (4 : Int32), oI c4_] [(.int (wd - (1 : Int32))), (.ref this)]))
            by_cases hc117_55 : (wd - (1 : Int32)) < (0 : Int32)
            · refine own_pvia (fun t kz => XS.ifNo X54.here hx rfl (hb hby d9_117) rfl ((if0 _ _).trans (tlt hc117_55).2.1) kz) ?_
              refine own_pvia (fun t kz => XS.iconst X54.here hx rfl (hb hby d9_120) kz) ?_
              refine own_pvia (fun t kz => XS.goto X54.here hx rfl (pc0 := 121) (pc' := 125) rfl (hb hby d9_121) (by decide) (by decide) kz) ?_
              show own_Pc p e below _ (T54.setTop (mkF m 125 #[oR this, oR p1, oI (4 : Int32), oI c4_] [(.int (1 : Int32)), (.ref this)]))
              obtain ⟨T56, h56, X56, e56, W56, st56⟩ := putF X54 hx hZ hown (host := "") (Or.inl (own_w hw 61)) Via.refl e54 F49 E46 (Or.inl (own_w hw 62)) (own_w hw 7) (ty := .boolean) (by decide) rfl rfl (g := (mkF m 125 #[oR this, oR p1, oI (4 : Int32), oI c4_] [(.int (1 : Int32)), (.ref this)])) rfl rfl (hb hby d9_125)
              refine own_pvia st56 ?_
              have O57 : Old Z n0 h56 := O45.wr W56 g_this
              have E58 := E46.wr W56
              have U59 : own_Str6 Z h56 n0 p1 c0_ c1_ c2_ c3_ c4_ c5_ := own_strw U47 W56 ltb
              have F60 := F48.other W56 (Or.inr (slot_ne (Or.inl (own_w hw 96)) (Or.inl (own_w hw 62)) (by decide) (t := .int) (t' := .boolean) (by decide) (by decide)))
              have F61 := F49.same W56
              have F62 := F50.other W56 (Or.inr (slot_ne (Or.inl (own_w hw 89)) (Or.inl (own_w hw 62)) (by decide) (t := .char) (t' := .boolean) (by decide) (by decide)))
              have Zs63 : n0 ≤ h56.size := Nat.le_trans Zs51 (Keep.of_wr W56).1
              have N64 := Fr.snoc X56 N52 g_this
              have K65 : Keep h0 h56 [this] := K53.wr W56 (Or.inl (List.mem_of_getElem? (i := 0) rfl))
              show own_Pc p e below _ (T56.setTop (mkF m 128 #[oR this, oR p1, oI (4 : Int32), oI c4_] []))
              refine own_pvia (fun t kz => XS.iinc X56.here hx rfl (hb hby d9_128) rfl (l' := #[oR this, oR p1, oI (5 : Int32), oI c4_]) rfl kz) ?_
              refine own_pvia (fun t kz => XS.goto X56.here hx rfl (pc0 := 131) (pc' := 2) rfl (hb hby d9_131) (by decide) (by decide) kz) ?_
              exact ⟨_, fun t k => k, ⟨T56, h56, _, rfl, X56, e56, N64, Zs63, K65, E58, U59, by unfold own_stepf; rw [if_pos hc31_7, if_neg hc60_8, if_neg hc66_19, if_neg hc80_30, if_pos hc99_42, if_pos hc117_55]; exact ⟨F60, F61, F62⟩⟩⟩
            · refine own_pvia (fun t kz => XS.ifYes X54.here hx rfl (pc0 := 117) (pc' := 124) rfl (hb hby d9_117) rfl ((if0 _ _).trans (flt hc117_55).2.1) (by decide) (by decide) kz) ?_
              refine own_pvia (fun t kz => XS.iconst X54.here hx rfl (hb hby d9_124) kz) ?_
              show own_Pc p e below _ (T54.setTop (mkF m 125 #[oR this, oR p1, oI (4 : Int32), oI c4_] [(.int (0 : Int32)), (.ref this)]))
              obtain ⟨T66, h66, X66, e66, W66, st66⟩ := putF X54 hx hZ hown (host := "") (Or.inl (own_w hw 61)) Via.refl e54 F49 E46 (Or.inl (own_w hw 62)) (own_w hw 7) (ty := .boolean) (by decide) rfl rfl (g := (mkF m 125 #[oR this, oR p1, oI (4 : Int32), oI c4_] [(.int (0 : Int32)), (.ref this)])) rfl rfl (hb hby d9_125)
              refine own_pvia st66 ?_
              have O67 : Old Z n0 h66 := O45.wr W66 g_this
              have E68 := E46.wr W66
              have U69 : own_Str6 Z h66 n0 p1 c0_ c1_ c2_ c3_ c4_ c5_ := own_strw U47 W66 ltb
              have F70 := F48.other W66 (Or.inr (slot_ne (Or.inl (own_w hw 96)) (Or.inl (own_w hw 62)) (by decide) (t := .int) (t' := .boolean) (by decide) (by decide)))
              have F71 := F49.same W66
              have F72 := F50.other W66 (Or.inr (slot_ne (Or.inl (own_w hw 89)) (Or.inl (own_w hw 62)) (by decide) (t := .char) (t' := .boolean) (by decide) (by decide)))
              have Zs73 : n0 ≤ h66.size := Nat.le_trans Zs51 (Keep.of_wr W66).1
              have N74 := Fr.snoc X66 N52 g_this
              have K75 : Keep h0 h66 [this] := K53.wr W66 (Or.inl (List.mem_of_getElem? (i := 0) rfl))
              show own_Pc p e below _ (T66.setTop (mkF m 128 #[oR this, oR p1, oI (4 : Int32), oI c4_] []))
              refine own_pvia (fun t kz => XS.iinc X66.here hx rfl (hb hby d9_128) rfl (l' := #[oR this, oR p1, oI (5 : Int32), oI c4_]) rfl kz) ?_
              refine own_pvia (fun t kz => XS.goto X66.here hx rfl (pc0 := 131) (pc' := 2) rfl (hb hby d9_131) (by decide) (by decide) kz) ?_
              exact ⟨_, fun t k => k, ⟨T66, h66, _, rfl, X66, e66, N74, Zs73, K75, E68, U69, by unfold own_stepf; rw [if_pos hc31_7, if_neg hc60_8, if_neg hc66_19, if_neg hc80_30, if_pos hc99_42, if_neg hc117_55]; exact ⟨F70, F71, F72⟩⟩⟩
          · refine own_pvia (fun t kz => XS.icmpYes X6.here hx rfl (pc0 := 99) (pc' := 128) rfl (hb hby d9_99) rfl (feq hc99_42).2 (by decide) (by decide) kz) ?_
            show own_Pc p e below _ (T6.setTop (mkF m 128 #[oR this, oR p1, oI (4 : Int32), oI c4_] []))
            refine own_pvia (fun t kz => XS.iinc X6.here hx rfl (hb hby d9_128) rfl (l' := #[oR this, oR p1, oI (5 : Int32), oI c4_]) rfl kz) ?_
            refine own_pvia (fun t kz => XS.goto X6.here hx rfl (pc0 := 131) (pc' := 2) rfl (hb hby d9_131) (by decide) (by decide) kz) ?_
            exact ⟨_, fun t k => k, ⟨T6, h0, _, rfl, X6, e6, N5, Z0, (Keep.refl h0 [this]), E_this, SR, by unfold own_stepf; rw [if_pos hc31_7, if_neg hc60_8, if_neg hc66_19, if_neg hc80_30, if_neg hc99_42]; exact ⟨F_depth, F_stray, F_closing⟩⟩⟩
  · refine own_pvia (fun t kz => XS.ifNo X6.here hx rfl (hb hby d9_31) rfl ((if0 _ _).trans (feq hc31_7).1) kz) ?_
    refine own_pvia (fun t kz => XS.aloadN X6.here hx rfl (hb hby d9_34) rfl rfl kz) ?_
    refine own_pvia (fun t kz => XS.iloadN X6.here hx rfl (hb hby d9_35) rfl kz) ?_
    refine own_pvia (fun t kz => XS.aloadN X6.here hx rfl (hb hby d9_36) rfl rfl kz) ?_
    show own_Pc p e below _ (T6.setTop (mkF m 37 #[oR this, oR p1, oI (4 : Int32), oI c4_] [(.ref this), (.int c4_), (.ref this)]))
    obtain ⟨T76, X76, e76, st76⟩ := getF X6 hx hZ hown (host := "") (Or.inl (own_w hw 88)) Via.refl e6 F_closing (g := (mkF m 37 #[oR this, oR p1, oI (4 : Int32), oI c4_] [(.ref this), (.int c4_), (.ref this)])) rfl rfl (hb hby d9_37)
    refine own_pvia st76 ?_
    show own_Pc p e below _ (T76.setTop (mkF m 40 #[oR this, oR p1, oI (4 : Int32), oI c4_] [(.int wq), (.int c4_), (.ref this)]))
    by_cases hc40_77 : c4_ = wq
    · refine own_pvia (fun t kz => XS.icmpNo X76.here hx rfl (hb hby d9_40) rfl (teq hc40_77).2 kz) ?_
      refine own_pvia (fun t kz => XS.iconst X76.here hx rfl (hb hby d9_43) kz) ?_
      refine own_pvia (fun t kz => XS.goto X76.here hx rfl (pc0 := 44) (pc' := 51) rfl (hb hby d9_44) (by decide) (by decide) kz) ?_
      show own_Pc p e below _ (T76.setTop (mkF m 51 #[oR this, oR p1, oI (4 : Int32), oI c4_] [(.int (0 : Int32)), (.ref this)]))
      obtain ⟨T78, h78, X78, e78, W78, st78⟩ := putF X76 hx hZ hown (host := "") (Or.inl (own_w hw 88)) Via.refl e76 F_closing E_this (Or.inl (own_w hw 89)) (own_w hw 7) (ty := .char) (by decide) rfl rfl (g := (mkF m 51 #[oR this, oR p1, oI (4 : Int32), oI c4_] [(.int (0 : Int32)), (.ref this)])) rfl rfl (hb hby d9_51)
      refine own_pvia st78 ?_
      have O79 : Old Z n0 h78 := OLD.wr W78 g_this
      have E80 := E_this.wr W78
      have U81 : own_Str6 Z h78 n0 p1 c0_ c1_ c2_ c3_ c4_ c5_ := own_strw SR W78 ltb
      have F82 := F_depth.other W78 (Or.inr (slot_ne (Or.inl (own_w hw 96)) (Or.inl (own_w hw 89)) (by decide) (t := .int) (t' := .char) (by decide) (by decide)))
      have F83 := F_stray.other W78 (Or.inr (slot_ne (Or.inl (own_w hw 62)) (Or.inl (own_w hw 89)) (by decide) (t := .boolean) (t' := .char) (by decide) (by decide)))
      have F84 := F_closing.same W78
      have Zs85 : n0 ≤ h78.size := Nat.le_trans Z0 (Keep.of_wr W78).1
      have N86 := Fr.snoc X78 N5 g_this
      have K87 : Keep h0 h78 [this] := (Keep.refl h0 [this]).wr W78 (Or.inl (List.mem_of_getElem? (i := 0) rfl))
      refine own_pvia (fun t kz => XS.goto X78.here hx rfl (pc0 := 54) (pc' := 128) rfl (hb hby d9_54) (by decide) (by decide) kz) ?_
      show own_Pc p e below _ (T78.setTop (mkF m 128 #[oR this, oR p1, oI (4 : Int32), oI c4_] []))
      refine own_pvia (fun t kz => XS.iinc X78.here hx rfl (hb hby d9_128) rfl (l' := #[oR this, oR p1, oI (5 : Int32), oI c4_]) rfl kz) ?_
      refine own_pvia (fun t kz => XS.goto X78.here hx rfl (pc0 := 131) (pc' := 2) rfl (hb hby d9_131) (by decide) (by decide) kz) ?_
      exact ⟨_, fun t k => k, ⟨T78, h78, _, rfl, X78, e78, N86, Zs85, K87, E80, U81, by unfold own_stepf; rw [if_neg hc31_7, if_pos hc40_77]; exact ⟨F82, F83, F84⟩⟩⟩
    · refine own_pvia (fun t kz => XS.icmpYes X76.here hx rfl (pc0 := 40) (pc' := 47) rfl (hb hby d9_40) rfl (feq hc40_77).2 (by decide) (by decide) kz) ?_
      refine own_pvia (fun t kz => XS.aloadN X76.here hx rfl (hb hby d9_47) rfl rfl kz) ?_
      show own_Pc p e below _ (T76.setTop (mkF m 48 #[oR this, oR p1, oI (4 : Int32), oI c4_] [(.ref this), (.ref this)]))
      obtain ⟨T88, X88, e88, st88⟩ := getF X76 hx hZ hown (host := "") (Or.inl (own_w hw 88)) Via.refl e76 F_closing (g := (mkF m 48 #[oR this, oR p1, oI (4 : Int32), oI c4_] [(.ref this), (.ref this)])) rfl rfl (hb hby d9_48)
      refine own_pvia st88 ?_
      show own_Pc p e below _ (T88.setTop (mkF m 51 #[oR this, oR p1, oI (4 : Int32), oI c4_] [(.int wq), (.ref this)]))
      obtain ⟨T89, h89, X89, e89, W89, st89⟩ := putF X88 hx hZ hown (host := "") (Or.inl (own_w hw 88)) Via.refl e88 F_closing E_this (Or.inl (own_w hw 89)) (own_w hw 7) (ty := .char) (by decide) (own_nch hq) (own_fch hq) (g := (mkF m 51 #[oR this, oR p1, oI (4 : Int32), oI c4_] [(.int wq), (.ref this)])) rfl rfl (hb hby d9_51)
      refine own_pvia st89 ?_
      have O90 : Old Z n0 h89 := OLD.wr W89 g_this
      have E91 := E_this.wr W89
      have U92 : own_Str6 Z h89 n0 p1 c0_ c1_ c2_ c3_ c4_ c5_ := own_strw SR W89 ltb
      have F93 := F_depth.other W89 (Or.inr (slot_ne (Or.inl (own_w hw 96)) (Or.inl (own_w hw 89)) (by decide) (t := .int) (t' := .char) (by decide) (by decide)))
      have F94 := F_stray.other W89 (Or.inr (slot_ne (Or.inl (own_w hw 62)) (Or.inl (own_w hw 89)) (by decide) (t := .boolean) (t' := .char) (by decide) (by decide)))
      have F95 := F_closing.same W89
      have Zs96 : n0 ≤ h89.size := Nat.le_trans Z0 (Keep.of_wr W89).1
      have N97 := Fr.snoc X89 N5 g_this
      have K98 : Keep h0 h89 [this] := (Keep.refl h0 [this]).wr W89 (Or.inl (List.mem_of_getElem? (i := 0) rfl))
      refine own_pvia (fun t kz => XS.goto X89.here hx rfl (pc0 := 54) (pc' := 128) rfl (hb hby d9_54) (by decide) (by decide) kz) ?_
      show own_Pc p e below _ (T89.setTop (mkF m 128 #[oR this, oR p1, oI (4 : Int32), oI c4_] []))
      refine own_pvia (fun t kz => XS.iinc X89.here hx rfl (hb hby d9_128) rfl (l' := #[oR this, oR p1, oI (5 : Int32), oI c4_]) rfl kz) ?_
      refine own_pvia (fun t kz => XS.goto X89.here hx rfl (pc0 := 131) (pc' := 2) rfl (hb hby d9_131) (by decide) (by decide) kz) ?_
      exact ⟨_, fun t k => k, ⟨T89, h89, _, rfl, X89, e89, N97, Zs96, K98, E91, U92, by unfold own_stepf; rw [if_neg hc31_7, if_neg hc40_77]; exact ⟨F93, F94, F95⟩⟩⟩
set_option maxRecDepth 65536 in
set_option maxHeartbeats 40000000 in
theorem own_turn5 {p : Program} {l : Launch} {e : Env} {R : Room} {s : State} {m : MethodId} {args : Array Value} {below : List Frame} {meth : Method} {c : Code} {T0 : State} {locs : List Loc} {cells slots : Nat} {Z : State} {a0 : Array Value} {h0 : Heap} {n0 : Nat} (this : Addr) (p1 : Addr) (wd : Int32) (wst : Int32) (wq : Int32) (c0_ : Int32) (c1_ : Int32) (c2_ : Int32) (c3_ : Int32) (c4_ : Int32) (c5_ : Int32) (wcs : Int32) (wsf : Value)
    (X0 : Stand p l e R s m args below meth c T0 locs cells slots) (hx : p.tables.exec = Jvm.exec) (hZ : Z.Warmed39 s.vm) (hw : ∀ d ∈ tables_1, d.before a0 Z = true) (hby : c.code = prog_88_method_2_code) (hml : c.maxLocals = 4) (hown : s.vm.findClass "com/example/quiescence/quiescence/model/SExpression$Balance" = some m.cls) (e0 : T0.heap = h0) (N0 : Fr n0 locs) (Z0 : n0 ≤ h0.size) (g_this : n0 ≤ this) (ltb : this < p1) (E_this : Exa Z h0 this "com/example/quiescence/quiescence/model/SExpression$Balance") (F_depth : Fld Z h0 this "com/example/quiescence/quiescence/model/SExpression$Balance" "depth" "I" (.int wd)) (F_stray : Fld Z h0 this "com/example/quiescence/quiescence/model/SExpression$Balance" "stray" "Z" (.int wst)) (F_closing : Fld Z h0 this "com/example/quiescence/quiescence/model/SExpression$Balance" "closing" "C" (.int wq)) (SR : own_Str6 Z h0 n0 p1 c0_ c1_ c2_ c3_ c4_ c5_) (hc0 : own_ch c0_) (hc1 : own_ch c1_) (hc2 : own_ch c2_) (hc3 : own_ch c3_) (hc4 : own_ch c4_) (hc5 : own_ch c5_) (OLD : Old Z n0 h0) (hcs : ¬ (wcs = (0 : Int32))) (rsf : wsf.isRef = true) (B_wcs : Sta Z Z.heap "java/lang/String" "COMPACT_STRINGS" "Z" (.int wcs)) (B_wsf : Sta Z Z.heap "jdk/internal/util/Preconditions" "SIOOBE_FORMATTER" "Ljava/util/function/BiFunction;" wsf) (B_wad : Sta Z Z.heap "java/lang/StringUTF16" "$assertionsDisabled" "Z" (.int (1 : Int32))) (B_whi : Sta Z Z.heap "java/lang/StringUTF16" "HI_BYTE_SHIFT" "I" (.int (0 : Int32))) (B_wlo : Sta Z Z.heap "java/lang/StringUTF16" "LO_BYTE_SHIFT" "I" (.int (8 : Int32))) (hs : wst = (0 : Int32)) (hq : own_ch wq) (hfr : 5 ≤ R.frames) (hlo : 66 ≤ R.locals) (hcl : cells ≤ R.cells) (hsl : slots ≤ R.slots) :
    own_Pc p e below (fun B => ∃ (T' : State) (h' : Heap) (locs' : List Loc), B = T'.setTop (mkF m 2 #[oR this, oR p1, oI (6 : Int32), oI c5_] []) ∧ Stand p l e R s m args below meth c T' locs' cells slots ∧ T'.heap = h' ∧ Fr n0 locs' ∧ n0 ≤ h'.size ∧ Keep h0 h' [this] ∧ Exa Z h' this "com/example/quiescence/quiescence/model/SExpression$Balance" ∧ own_Str6 Z h' n0 p1 c0_ c1_ c2_ c3_ c4_ c5_ ∧ own_Bal Z h' this (own_stepf wd wst wq c5_)) (T0.setTop (mkF m 2 #[oR this, oR p1, oI (5 : Int32), oI c4_] [])) := by
  show own_Pc p e below _ (T0.setTop (mkF m 2 #[oR this, oR p1, oI (5 : Int32), oI c4_] []))
  refine own_pvia (fun t kz => XS.iloadN X0.here hx rfl (hb hby d9_2) rfl kz) ?_
  refine own_pvia (fun t kz => XS.aloadN X0.here hx rfl (hb hby d9_3) rfl rfl kz) ?_
  show own_Pc p e below _ (T0.setTop (mkF m 4 #[oR this, oR p1, oI (5 : Int32), oI c4_] [(.ref p1), (.int (5 : Int32))]))
  obtain ⟨cq1, kq1, qa1, qb1, qc1⟩ := isOf hZ e0 (own_strE SR)
  obtain ⟨_, _, ⟨T1, L1, k1, n1⟩, -, X1, ⟨Lc1, hQ1, l1, y1, z1⟩, st1⟩ := X0.interfaceBack hx (xi := (⟨"java/lang/CharSequence", "length", "()I"⟩ : MethodName)) (y := (⟨"java/lang/String", "length", "()I"⟩ : MethodName)) hown (mvT hZ (own_w hw 47)) (mvT hZ (own_w hw 48)) (mvT hZ (own_w hw 49)) (mvT hZ (own_w hw 50)) (mvT hZ (own_w hw 51)) (mvT hZ (own_w hw 52)) (mvT hZ (own_w hw 53)) (mvT hZ (own_w hw 54)) (by decide) (backOf (W := 1) (rmL6 l Z a0 hw [] p1 c0_ c1_ c2_ c3_ c4_ c5_ wcs wsf h0 n0 Z0 SR OLD hcs rsf B_wcs B_wsf B_wad B_whi B_wlo) hZ (own_w hw 55) (own_w hw 17) (Nat.le_trans (by decide) hfr) (Nat.le_trans (by decide) hlo)) qa1 qb1 qc1 (g := (mkF m 4 #[oR this, oR p1, oI (5 : Int32), oI c4_] [(.ref p1), (.int (5 : Int32))])) rfl (by rw [hml]; rfl) (Steps.refl _) (argsL := []) (rest := [(.int (5 : Int32))]) (lenOf pd_9_0 rfl) rfl (by show 2 * 0 + _ ≤ _; exact Nat.le_of_eq rfl) (hb hby d9_4) (fun _ _ => ⟨rfl, e0, hcl, hsl⟩)
  dsimp only [Pt.U, Pt.locs, Pt.cells, Pt.slots] at X1 l1 y1 z1 st1 hQ1
  subst l1 y1 z1
  obtain ⟨rfl, Nq1, e1⟩ := hQ1
  have N2 := Fr.app N0 Nq1
  refine own_ptr st1 ?_
  show own_Pc p e below _ (T1.setTop (mkF m 9 #[oR this, oR p1, oI (5 : Int32), oI c4_] [(.int (6 : Int32)), (.int (5 : Int32))]))
  refine own_pvia (fun t kz => XS.icmpNo X1.here hx rfl (hb hby d9_9) rfl (tlt (by decide : (5 : Int32) < (6 : Int32))).2.1 kz) ?_
  refine own_pvia (fun t kz => XS.aloadN X1.here hx rfl (hb hby d9_12) rfl rfl kz) ?_
  show own_Pc p e below _ (T1.setTop (mkF m 13 #[oR this, oR p1, oI (5 : Int32), oI c4_] [(.ref this)]))
  obtain ⟨T3, X3, e3, st3⟩ := getF X1 hx hZ hown (host := "") (Or.inl (own_w hw 61)) Via.refl e1 F_stray (g := (mkF m 13 #[oR this, oR p1, oI (5 : Int32), oI c4_] [(.ref this)])) rfl rfl (hb hby d9_13)
  refine own_pvia st3 ?_
  show own_Pc p e below _ (T3.setTop (mkF m 16 #[oR this, oR p1, oI (5 : Int32), oI c4_] [(.int wst)]))
  refine own_pvia (fun t kz => XS.ifNo X3.here hx rfl (hb hby d9_16) rfl ((if0 _ _).trans (teq hs).2) kz) ?_
  refine own_pvia (fun t kz => XS.aloadN X3.here hx rfl (hb hby d9_19) rfl rfl kz) ?_
  refine own_pvia (fun t kz => XS.iloadN X3.here hx rfl (hb hby d9_20) rfl kz) ?_
  show own_Pc p e below _ (T3.setTop (mkF m 21 #[oR this, oR p1, oI (5 : Int32), oI c4_] [(.int (5 : Int32)), (.ref p1)]))
  obtain ⟨cq4, kq4, qa4, qb4, qc4⟩ := isOf hZ e3 (own_strE SR)
  obtain ⟨_, _, ⟨T4, L4, k4, n4⟩, -, X4, ⟨Lc4, hQ4, l4, y4, z4⟩, st4⟩ := X3.interfaceBack hx (xi := (⟨"java/lang/CharSequence", "charAt", "(I)C"⟩ : MethodName)) (y := (⟨"java/lang/String", "charAt", "(I)C"⟩ : MethodName)) hown (mvT hZ (own_w hw 63)) (mvT hZ (own_w hw 64)) (mvT hZ (own_w hw 65)) (mvT hZ (own_w hw 66)) (mvT hZ (own_w hw 67)) (mvT hZ (own_w hw 68)) (mvT hZ (own_w hw 69)) (mvT hZ (own_w hw 54)) (by decide) (backOf (W := 0) (rmA6_5 l Z a0 hw [] p1 c0_ c1_ c2_ c3_ c4_ c5_ wcs wsf h0 n0 Z0 SR hc0 hc1 hc2 hc3 hc4 hc5 OLD hcs rsf B_wcs B_wsf B_wad B_whi B_wlo) hZ (own_w hw 70) (own_w hw 17) (Nat.le_trans (by decide) hfr) (Nat.le_trans (by decide) hlo)) qa4 qb4 qc4 (g := (mkF m 21 #[oR this, oR p1, oI (5 : Int32), oI c4_] [(.int (5 : Int32)), (.ref p1)])) rfl (by rw [hml]; rfl) (Steps.refl _) (argsL := [(.int (5 : Int32))]) (rest := []) (lenOf pd_9_1 rfl) rfl (by show 2 * 0 + _ ≤ _; exact Nat.le_of_eq rfl) (hb hby d9_21) (fun _ _ => ⟨rfl, e3, hcl, hsl⟩)
  dsimp only [Pt.U, Pt.locs, Pt.cells, Pt.slots] at X4 l4 y4 z4 st4 hQ4
  subst l4 y4 z4
  obtain ⟨rfl, Nq4, e4⟩ := hQ4
  have N5 := Fr.app N2 Nq4
  refine own_ptr st4 ?_
  refine own_pvia (fun t kz => XS.istoreN X4.here hx rfl (hb hby d9_26) rfl (l' := #[oR this, oR p1, oI (5 : Int32), oI c5_]) rfl kz) ?_
  refine own_pvia (fun t kz => XS.aloadN X4.here hx rfl (hb hby d9_27) rfl rfl kz) ?_
  show own_Pc p e below _ (T4.setTop (mkF m 28 #[oR this, oR p1, oI (5 : Int32), oI c5_] [(.ref this)]))
  obtain ⟨T6, X6, e6, st6⟩ := getF X4 hx hZ hown (host := "") (Or.inl (own_w hw 88)) Via.refl e4 F_closing (g := (mkF m 28 #[oR this, oR p1, oI (5 : Int32), oI c5_] [(.ref this)])) rfl rfl (hb hby d9_28)
  refine own_pvia st6 ?_
  show own_Pc p e below _ (T6.setTop (mkF m 31 #[oR this, oR p1, oI (5 : Int32), oI c5_] [(.int wq)]))
  by_cases hc31_7 : wq = (0 : Int32)
  · refine own_pvia (fun t kz => XS.ifYes X6.here hx rfl (pc0 := 31) (pc' := 57) rfl (hb hby d9_31) rfl ((if0 _ _).trans (teq hc31_7).1) (by decide) (by decide) kz) ?_
    refine own_pvia (fun t kz => XS.iloadN X6.here hx rfl (hb hby d9_57) rfl kz) ?_
    refine own_pvia (fun t kz => XS.bipush X6.here hx rfl (hb hby d9_58) kz) ?_
    show own_Pc p e below _ (T6.setTop (mkF m 60 #[oR this, oR p1, oI (5 : Int32), oI c5_] [(.int (34 : Int32)), (.int c5_)]))
    by_cases hc60_8 : c5_ = (34 : Int32)
    · refine own_pvia (fun t kz => XS.icmpYes X6.here hx rfl (pc0 := 60) (pc' := 69) rfl (hb hby d9_60) rfl (teq hc60_8).1 (by decide) (by decide) kz) ?_
      refine own_pvia (fun t kz => XS.aloadN X6.here hx rfl (hb hby d9_69) rfl rfl kz) ?_
      refine own_pvia (fun t kz => XS.iloadN X6.here hx rfl (hb hby d9_70) rfl kz) ?_
      show own_Pc p e below _ (T6.setTop (mkF m 71 #[oR this, oR p1, oI (5 : Int32), oI c5_] [(.int c5_), (.ref this)]))
      obtain ⟨T9, h9, X9, e9, W9, st9⟩ := putF X6 hx hZ hown (host := "") (Or.inl (own_w hw 88)) Via.refl e6 F_closing E_this (Or.inl (own_w hw 89)) (own_w hw 7) (ty := .char) (by decide) (own_nch hc5) (own_fch hc5) (g := (mkF m 71 #[oR this, oR p1, oI (5 : Int32), oI c5_] [(.int c5_), (.ref this)])) rfl rfl (hb hby d9_71)
      refine own_pvia st9 ?_
      have O10 : Old Z n0 h9 := OLD.wr W9 g_this
      have E11 := E_this.wr W9
      have U12 : own_Str6 Z h9 n0 p1 c0_ c1_ c2_ c3_ c4_ c5_ := own_strw SR W9 ltb
      have F13 := F_depth.other W9 (Or.inr (slot_ne (Or.inl (own_w hw 96)) (Or.inl (own_w hw 89)) (by decide) (t := .int) (t' := .char) (by decide) (by decide)))
      have F14 := F_stray.other W9 (Or.inr (slot_ne (Or.inl (own_w hw 62)) (Or.inl (own_w hw 89)) (by decide) (t := .boolean) (t' := .char) (by decide) (by decide)))
      have F15 := F_closing.same W9
      have Zs16 : n0 ≤ h9.size := Nat.le_trans Z0 (Keep.of_wr W9).1
      have N17 := Fr.snoc X9 N5 g_this
      have K18 : Keep h0 h9 [this] := (Keep.refl h0 [this]).wr W9 (Or.inl (List.mem_of_getElem? (i := 0) rfl))
      refine own_pvia (fun t kz => XS.goto X9.here hx rfl (pc0 := 74) (pc' := 128) rfl (hb hby d9_74) (by decide) (by decide) kz) ?_
      show own_Pc p e below _ (T9.setTop (mkF m 128 #[oR this, oR p1, oI (5 : Int32), oI c5_] []))
      refine own_pvia (fun t kz => XS.iinc X9.here hx rfl (hb hby d9_128) rfl (l' := #[oR this, oR p1, oI (6 : Int32), oI c5_]) rfl kz) ?_
      refine own_pvia (fun t kz => XS.goto X9.here hx rfl (pc0 := 131) (pc' := 2) rfl (hb hby d9_131) (by decide) (by decide) kz) ?_
      exact ⟨_, fun t k => k, ⟨T9, h9, _, rfl, X9, e9, N17, Zs16, K18, E11, U12, by unfold own_stepf; rw [if_pos hc31_7, if_pos hc60_8]; exact ⟨F13, F14, F15⟩⟩⟩
    · refine own_pvia (fun t kz => XS.icmpNo X6.here hx rfl (hb hby d9_60) rfl (feq hc60_8).1 kz) ?_
      refine own_pvia (fun t kz => XS.iloadN X6.here hx rfl (hb hby d9_63) rfl kz) ?_
      refine own_pvia (fun t kz => XS.bipush X6.here hx rfl (hb hby d9_64) kz) ?_
      show own_Pc p e below _ (T6.setTop (mkF m 66 #[oR this, oR p1, oI (5 : Int32), oI c5_] [(.int (124 : Int32)), (.int c5_)]))
      by_cases hc66_19 : c5_ = (124 : Int32)
      · refine own_pvia (fun t kz => XS.icmpNo X6.here hx rfl (hb hby d9_66) rfl (teq hc66_19).2 kz) ?_
        refine own_pvia (fun t kz => XS.aloadN X6.here hx rfl (hb hby d9_69) rfl rfl kz) ?_
        refine own_pvia (fun t kz => XS.iloadN X6.here hx rfl (hb hby d9_70) rfl kz) ?_
        show own_Pc p e below _ (T6.setTop (mkF m 71 #[oR this, oR p1, oI (5 : Int32), oI c5_] [(.int c5_), (.ref this)]))
        obtain ⟨T20, h20, X20, e20, W20, st20⟩ := putF X6 hx hZ hown (host := "") (Or.inl (own_w hw 88)) Via.refl e6 F_closing E_this (Or.inl (own_w hw 89)) (own_w hw 7) (ty := .char) (by decide) (own_nch hc5) (own_fch hc5) (g := (mkF m 71 #[oR this, oR p1, oI (5 : Int32), oI c5_] [(.int c5_), (.ref this)])) rfl rfl (hb hby d9_71)
        refine own_pvia st20 ?_
        have O21 : Old Z n0 h20 := OLD.wr W20 g_this
        have E22 := E_this.wr W20
        have U23 : own_Str6 Z h20 n0 p1 c0_ c1_ c2_ c3_ c4_ c5_ := own_strw SR W20 ltb
        have F24 := F_depth.other W20 (Or.inr (slot_ne (Or.inl (own_w hw 96)) (Or.inl (own_w hw 89)) (by decide) (t := .int) (t' := .char) (by decide) (by decide)))
        have F25 := F_stray.other W20 (Or.inr (slot_ne (Or.inl (own_w hw 62)) (Or.inl (own_w hw 89)) (by decide) (t := .boolean) (t' := .char) (by decide) (by decide)))
        have F26 := F_closing.same W20
        have Zs27 : n0 ≤ h20.size := Nat.le_trans Z0 (Keep.of_wr W20).1
        have N28 := Fr.snoc X20 N5 g_this
        have K29 : Keep h0 h20 [this] := (Keep.refl h0 [this]).wr W20 (Or.inl (List.mem_of_getElem? (i := 0) rfl))
        refine own_pvia (fun t kz => XS.goto X20.here hx rfl (pc0 := 74) (pc' := 128) rfl (hb hby d9_74) (by decide) (by decide) kz) ?_
        show own_Pc p e below _ (T20.setTop (mkF m 128 #[oR this, oR p1, oI (5 : Int32), oI c5_] []))
        refine own_pvia (fun t kz => XS.iinc X20.here hx rfl (hb hby d9_128) rfl (l' := #[oR this, oR p1, oI (6 : Int32), oI c5_]) rfl kz) ?_
        refine own_pvia (fun t kz => XS.goto X20.here hx rfl (pc0 := 131) (pc' := 2) rfl (hb hby d9_131) (by decide) (by decide) kz) ?_
        exact ⟨_, fun t k => k, ⟨T20, h20, _, rfl, X20, e20, N28, Zs27, K29, E22, U23, by unfold own_stepf; rw [if_pos hc31_7, if_neg hc60_8, if_pos hc66_19]; exact ⟨F24, F25, F26⟩⟩⟩
      · refine own_pvia (fun t kz => XS.icmpYes X6.here hx rfl (pc0 := 66) (pc' := 77) rfl (hb hby d9_66) rfl (feq hc66_19).2 (by decide) (by decide) kz) ?_
        refine own_pvia (fun t kz => XS.iloadN X6.here hx rfl (hb hby d9_77) rfl kz) ?_
        refine own_pvia (fun t kz => XS.bipush X6.here hx rfl (hb hby d9_78) kz) ?_
        show own_Pc p e below _ (T6.setTop (mkF m 80 #[oR this, oR p1, oI (5 : Int32), oI c5_] [(.int (40 : Int32)), (.int c5_)]))
        by_cases hc80_30 : c5_ = (40 : Int32)
        · refine own_pvia (fun t kz => XS.icmpNo X6.here hx rfl (hb hby d9_80) rfl (teq hc80_30).2 kz) ?_
          refine own_pvia (fun t kz => XS.aloadN X6.here hx rfl (hb hby d9_83) rfl rfl kz) ?_
          refine own_pvia (fun t kz => XS.dup X6.here hx rfl (hb hby d9_84) rfl rfl kz) ?_
          show own_Pc p e below _ (T6.setTop (mkF m 85 #[oR this, oR p1, oI (5 : Int32), oI c5_] [(.ref this), (.ref this)]))
          obtain ⟨T31, X31, e31, st31⟩ := getF X6 hx hZ hown (host := "") (Or.inl (own_w hw 95)) Via.refl e6 F_depth (g := (mkF m 85 #[oR this, oR p1, oI (5 : Int32), oI c5_] [(.ref this), (.ref this)])) rfl rfl (hb hby d9_85)
          refine own_pvia st31 ?_
          refine own_pvia (fun t kz => XS.iconst X31.here hx rfl (hb hby d9_88) kz) ?_
          refine own_pvia (fun t kz => XS.iadd X31.here hx rfl (hb hby d9_89) rfl kz) ?_
          show own_Pc p e below _ (T31.setTop (mkF m 90 #[oR this, oR p1, oI (5 : Int32), oI c5_] [(.int (wd + (1 : Int32))), (.ref this)]))
          obtain ⟨T32, h32, X32, e32, W32, st32⟩ := putF X31 hx hZ hown (host := "") (Or.inl (own_w hw 95)) Via.refl e31 F_depth E_this (Or.inl (own_w hw 96)) (own_w hw 7) (ty := .int) (by decide) rfl rfl (g := (mkF m 90 #[oR this, oR p1, oI (5 : Int32), oI c5_] [(.int (wd + (1 : Int32))), (.ref this)])) rfl rfl (hb hby d9_90)
          refine own_pvia st32 ?_
          have O33 : Old Z n0 h32 := OLD.wr W32 g_this
          have E34 := E_this.wr W32
          have U35 : own_Str6 Z h32 n0 p1 c0_ c1_ c2_ c3_ c4_ c5_ := own_strw SR W32 ltb
          have F36 := F_depth.same W32
          have F37 := F_stray.other W32 (Or.inr (slot_ne (Or.inl (own_w hw 62)) (Or.inl (own_w hw 96)) (by decide) (t := .boolean) (t' := .int) (by decide) (by decide)))
          have F38 := F_closing.other W32 (Or.inr (slot_ne (Or.inl (own_w hw 89)) (Or.inl (own_w hw 96)) (by decide) (t := .char) (t' := .int) (by decide) (by decide)))
          have Zs39 : n0 ≤ h32.size := Nat.le_trans Z0 (Keep.of_wr W32).1
          have N40 := Fr.snoc X32 N5 g_this
          have K41 : Keep h0 h32 [this] := (Keep.refl h0 [this]).wr W32 (Or.inl (List.mem_of_getElem? (i := 0) rfl))
          refine own_pvia (fun t kz => XS.goto X32.here hx rfl (pc0 := 93) (pc' := 128) rfl (hb hby d9_93) (by decide) (by decide) kz) ?_
          show own_Pc p e below _ (T32.setTop (mkF m 128 #[oR this, oR p1, oI (5 : Int32), oI c5_] []))
          refine own_pvia (fun t kz => XS.iinc X32.here hx rfl (hb hby d9_128) rfl (l' := #[oR this, oR p1, oI (6 : Int32), oI c5_]) rfl kz) ?_
          refine own_pvia (fun t kz => XS.goto X32.here hx rfl (pc0 := 131) (pc' := 2) rfl (hb hby d9_131) (by decide) (by decide) kz) ?_
          exact ⟨_, fun t k => k, ⟨T32, h32, _, rfl, X32, e32, N40, Zs39, K41, E34, U35, by unfold own_stepf; rw [if_pos hc31_7, if_neg hc60_8, if_neg hc66_19, if_pos hc80_30]; exact ⟨F36, F37, F38⟩⟩⟩
        · refine own_pvia (fun t kz => XS.icmpYes X6.here hx rfl (pc0 := 80) (pc' := 96) rfl (hb hby d9_80) rfl (feq hc80_30).2 (by decide) (by decide) kz) ?_
          refine own_pvia (fun t kz => XS.iloadN X6.here hx rfl (hb hby d9_96) rfl kz) ?_
          refine own_pvia (fun t kz => XS.bipush X6.here hx rfl (hb hby d9_97) kz) ?_
          show own_Pc p e below _ (T6.setTop (mkF m 99 #[oR this, oR p1, oI (5 : Int32), oI c5_] [(.int (41 : Int32)), (.int c5_)]))
          by_cases hc99_42 : c5_ = (41 : Int32)
          · refine own_pvia (fun t kz => XS.icmpNo X6.here hx rfl (hb hby d9_99) rfl (teq hc99_42).2 kz) ?_
            refine own_pvia (fun t kz => XS.aloadN X6.here hx rfl (hb hby d9_102) rfl rfl kz) ?_
            refine own_pvia (fun t kz => XS.dup X6.here hx rfl (hb hby d9_103) rfl rfl kz) ?_
            show own_Pc p e below _ (T6.setTop (mkF m 104 #[oR this, oR p1, oI (5 : Int32), oI c5_] [(.ref this), (.ref this)]))
            obtain ⟨T43, X43, e43, st43⟩ := getF X6 hx hZ hown (host := "") (Or.inl (own_w hw 95)) Via.refl e6 F_depth (g := (mkF m 104 #[oR this, oR p1, oI (5 : Int32), oI c5_] [(.ref this), (.ref this)])) rfl rfl (hb hby d9_104)
            refine own_pvia st43 ?_
            refine own_pvia (fun t kz => XS.iconst X43.here hx rfl (hb hby d9_107) kz) ?_
            refine own_pvia (fun t kz => XS.isub X43.here hx rfl (hb hby d9_108) rfl kz) ?_
            show own_Pc p e below _ (T43.setTop (mkF m 109 #[oR this, oR p1, oI (5 : Int32), oI c5_] [(.int (wd - (1 : Int32))), (.ref this)]))
            obtain ⟨T44, h44, X44, e44, W44, st44⟩ := putF X43 hx hZ hown (host := "") (Or.inl (own_w hw 95)) Via.refl e43 F_depth E_this (Or.inl (own_w hw 96)) (own_w hw 7) (ty := .int) (by decide) rfl rfl (g := (mkF m 109 #[oR this, oR p1, oI (5 : Int32), oI c5_] [(.int (wd - (1 : Int32))), (.ref this)])) rfl rfl (hb hby d9_109)
            refine own_pvia st44 ?_
            have O45 : Old Z n0 h44 := OLD.wr W44 g_this
            have E46 := E_this.wr W44
            have U47 : own_Str6 Z h44 n0 p1 c0_ c1_ c2_ c3_ c4_ c5_ := own_strw SR W44 ltb
            have F48 := F_depth.same W44
            have F49 := F_stray.other W44 (Or.inr (slot_ne (Or.inl (own_w hw 62)) (Or.inl (own_w hw 96)) (by decide) (t := .boolean) (t' := .int) (by decide) (by decide)))
            have F50 := F_closing.other W44 (Or.inr (slot_ne (Or.inl (own_w hw 89)) (Or.inl (own_w hw 96)) (by decide) (t := .char) (t' := .int) (by decide) (by decide)))
            have Zs51 : n0 ≤ h44.size := Nat.le_trans Z0 (Keep.of_wr W44).1
            have N52 := Fr.snoc X44 N5 g_this
            have K53 : Keep h0 h44 [this] := (Keep.refl h0 [this]).wr W44 (Or.inl (List.mem_of_getElem? (i := 0) rfl))
            refine own_pvia (fun t kz => XS.aloadN X44.here hx rfl (hb hby d9_112) rfl rfl kz) ?_
            refine own_pvia (fun t kz => XS.aloadN X44.here hx rfl (hb hby d9_113) rfl rfl kz) ?_
            show own_Pc p e below _ (T44.setTop (mkF m 114 #[oR this, oR p1, oI (5 : Int32), oI c5_] [(.ref this), (.ref this)]))
            obtain ⟨T54, X54, e54, st54⟩ := getF X44 hx hZ hown (host := "") (Or.inl (own_w hw 95)) Via.refl e44 F48 (g := (mkF m 114 #[oR this, oR p1, oI (5 : Int32), oI c5_] [(.ref this), (.ref this)])) rfl rfl (hb hby d9_114)
            refine own_pvia st54 ?_
            show own_Pc p e below _ (T54.setTop (mkF m 117 #[oR this, oR p1, oI (5 : Int32), oI c5_] [(.int (wd - (1 : Int32))), (.ref this)]))
            by_cases hc117_55 : (wd - (1 : Int32)) < (0 : Int32)
            · refine own_pvia (fun t kz => XS.ifNo X54.here hx rfl (hb hby d9_117) rfl ((if0 _ _).trans (tlt hc117_55).2.1) kz) ?_
              refine own_pvia (fun t kz => XS.iconst X54.here hx rfl (hb hby d9_120) kz) ?_
              refine own_pvia (fun t kz => XS.goto X54.here hx rfl (pc0 := 121) (pc' := 125) rfl (hb hby d9_121) (by decide) (by decide) kz) ?_
              show own_Pc p e below _ (T54.setTop (mkF m 125 #[oR this, oR p1, oI (5 : Int32), oI c5_] [(.int (1 : Int32)), (.ref this)]))
              obtain ⟨T56, h56, X56, e56, W56, st56⟩ := putF X54 hx hZ hown (host := "") (Or.inl (own_w hw 61)) Via.refl e54 F49 E46 (Or.inl (own_w hw 62)) (own_w hw 7) (ty := .boolean) (by decide) rfl rfl (g := (mkF m 125 #[oR this, oR p1, oI (5 : Int32), oI c5_] [(.int (1 : Int32)), (.ref this)])) rfl rfl (hb hby d9_125)
              refine own_pvia st56 ?_
              have O57 : Old Z n0 h56 := O45.wr W56 g_this
              have E58 := E46.wr W56
              have U59 : own_Str6 Z h56 n0 p1 c0_ c1_ c2_ c3_ c4_ c5_ := own_strw U47 W56 ltb
              have F60 := F48.other W56 (Or.inr (slot_ne (Or.inl (own_w hw 96)) (Or.inl (own_w hw 62)) (by decide) (t := .int) (t' := .boolean) (by decide) (by decide)))
              have F61 := F49.same W56
              have F62 := F50.other W56 (Or.inr (slot_ne (Or.inl (own_w hw 89)) (Or.inl (own_w hw 62)) (by decide) (t := .char) (t' := .boolean) (by decide) (by decide)))
              have Zs63 : n0 ≤ h56.size := Nat.le_trans Zs51 (Keep.of_wr W56).1
              have N64 := Fr.snoc X56 N52 g_this
              have K65 : Keep h0 h56 [this] := K53.wr W56 (Or.inl (List.mem_of_getElem? (i := 0) rfl))
              show own_Pc p e below _ (T56.setTop (mkF m 128 #[oR this, oR p1, oI (5 : Int32), oI c5_] []))
              refine own_pvia (fun t kz => XS.iinc X56.here hx rfl (hb hby d9_128) rfl (l' := #[oR this, oR p1, oI (6 : Int32), oI c5_]) rfl kz) ?_
              refine own_pvia (fun t kz => XS.goto X56.here hx rfl (pc0 := 131) (pc' := 2) rfl (hb hby d9_131) (by decide) (by decide) kz) ?_
              exact ⟨_, fun t k => k, ⟨T56, h56, _, rfl, X56, e56, N64, Zs63, K65, E58, U59, by unfold own_stepf; rw [if_pos hc31_7, if_neg hc60_8, if_neg hc66_19, if_neg hc80_30, if_pos hc99_42, if_pos hc117_55]; exact ⟨F60, F61, F62⟩⟩⟩
            · refine own_pvia (fun t kz => XS.ifYes X54.here hx rfl (pc0 := 117) (pc' := 124) rfl (hb hby d9_117) rfl ((if0 _ _).trans (flt hc117_55).2.1) (by decide) (by decide) kz) ?_
              refine own_pvia (fun t kz => XS.iconst X54.here hx rfl (hb hby d9_124) kz) ?_
              show own_Pc p e below _ (T54.setTop (mkF m 125 #[oR this, oR p1, oI (5 : Int32), oI c5_] [(.int (0 : Int32)), (.ref this)]))
              obtain ⟨T66, h66, X66, e66, W66, st66⟩ := putF X54 hx hZ hown (host := "") (Or.inl (own_w hw 61)) Via.refl e54 F49 E46 (Or.inl (own_w hw 62)) (own_w hw 7) (ty := .boolean) (by decide) rfl rfl (g := (mkF m 125 #[oR this, oR p1, oI (5 : Int32), oI c5_] [(.int (0 : Int32)), (.ref this)])) rfl rfl (hb hby d9_125)
              refine own_pvia st66 ?_
              have O67 : Old Z n0 h66 := O45.wr W66 g_this
              have E68 := E46.wr W66
              have U69 : own_Str6 Z h66 n0 p1 c0_ c1_ c2_ c3_ c4_ c5_ := own_strw U47 W66 ltb
              have F70 := F48.other W66 (Or.inr (slot_ne (Or.inl (own_w hw 96)) (Or.inl (own_w hw 62)) (by decide) (t := .int) (t' := .boolean) (by decide) (by decide)))
              have F71 := F49.same W66
              have F72 := F50.other W66 (Or.inr (slot_ne (Or.inl (own_w hw 89)) (Or.inl (own_w hw 62)) (by decide) (t := .char) (t' := .boolean) (by decide) (by decide)))
              have Zs73 : n0 ≤ h66.size := Nat.le_trans Zs51 (Keep.of_wr W66).1
              have N74 := Fr.snoc X66 N52 g_this
              have K75 : Keep h0 h66 [this] := K53.wr W66 (Or.inl (List.mem_of_getElem? (i := 0) rfl))
              show own_Pc p e below _ (T66.setTop (mkF m 128 #[oR this, oR p1, oI (5 : Int32), oI c5_] []))
              refine own_pvia (fun t kz => XS.iinc X66.here hx rfl (hb hby d9_128) rfl (l' := #[oR this, oR p1, oI (6 : Int32), oI c5_]) rfl kz) ?_
              refine own_pvia (fun t kz => XS.goto X66.here hx rfl (pc0 := 131) (pc' := 2) rfl (hb hby d9_131) (by decide) (by decide) kz) ?_
              exact ⟨_, fun t k => k, ⟨T66, h66, _, rfl, X66, e66, N74, Zs73, K75, E68, U69, by unfold own_stepf; rw [if_pos hc31_7, if_neg hc60_8, if_neg hc66_19, if_neg hc80_30, if_pos hc99_42, if_neg hc117_55]; exact ⟨F70, F71, F72⟩⟩⟩
          · refine own_pvia (fun t kz => XS.icmpYes X6.here hx rfl (pc0 := 99) (pc' := 128) rfl (hb hby d9_99) rfl (feq hc99_42).2 (by decide) (by decide) kz) ?_
            show own_Pc p e below _ (T6.setTop (mkF m 128 #[oR this, oR p1, oI (5 : Int32), oI c5_] []))
            refine own_pvia (fun t kz => XS.iinc X6.here hx rfl (hb hby d9_128) rfl (l' := #[oR this, oR p1, oI (6 : Int32), oI c5_]) rfl kz) ?_
            refine own_pvia (fun t kz => XS.goto X6.here hx rfl (pc0 := 131) (pc' := 2) rfl (hb hby d9_131) (by decide) (by decide) kz) ?_
            exact ⟨_, fun t k => k, ⟨T6, h0, _, rfl, X6, e6, N5, Z0, (Keep.refl h0 [this]), E_this, SR, by unfold own_stepf; rw [if_pos hc31_7, if_neg hc60_8, if_neg hc66_19, if_neg hc80_30, if_neg hc99_42]; exact ⟨F_depth, F_stray, F_closing⟩⟩⟩
  · refine own_pvia (fun t kz => XS.ifNo X6.here hx rfl (hb hby d9_31) rfl ((if0 _ _).trans (feq hc31_7).1) kz) ?_
    refine own_pvia (fun t kz => XS.aloadN X6.here hx rfl (hb hby d9_34) rfl rfl kz) ?_
    refine own_pvia (fun t kz => XS.iloadN X6.here hx rfl (hb hby d9_35) rfl kz) ?_
    refine own_pvia (fun t kz => XS.aloadN X6.here hx rfl (hb hby d9_36) rfl rfl kz) ?_
    show own_Pc p e below _ (T6.setTop (mkF m 37 #[oR this, oR p1, oI (5 : Int32), oI c5_] [(.ref this), (.int c5_), (.ref this)]))
    obtain ⟨T76, X76, e76, st76⟩ := getF X6 hx hZ hown (host := "") (Or.inl (own_w hw 88)) Via.refl e6 F_closing (g := (mkF m 37 #[oR this, oR p1, oI (5 : Int32), oI c5_] [(.ref this), (.int c5_), (.ref this)])) rfl rfl (hb hby d9_37)
    refine own_pvia st76 ?_
    show own_Pc p e below _ (T76.setTop (mkF m 40 #[oR this, oR p1, oI (5 : Int32), oI c5_] [(.int wq), (.int c5_), (.ref this)]))
    by_cases hc40_77 : c5_ = wq
    · refine own_pvia (fun t kz => XS.icmpNo X76.here hx rfl (hb hby d9_40) rfl (teq hc40_77).2 kz) ?_
      refine own_pvia (fun t kz => XS.iconst X76.here hx rfl (hb hby d9_43) kz) ?_
      refine own_pvia (fun t kz => XS.goto X76.here hx rfl (pc0 := 44) (pc' := 51) rfl (hb hby d9_44) (by decide) (by decide) kz) ?_
      show own_Pc p e below _ (T76.setTop (mkF m 51 #[oR this, oR p1, oI (5 : Int32), oI c5_] [(.int (0 : Int32)), (.ref this)]))
      obtain ⟨T78, h78, X78, e78, W78, st78⟩ := putF X76 hx hZ hown (host := "") (Or.inl (own_w hw 88)) Via.refl e76 F_closing E_this (Or.inl (own_w hw 89)) (own_w hw 7) (ty := .char) (by decide) rfl rfl (g := (mkF m 51 #[oR this, oR p1, oI (5 : Int32), oI c5_] [(.int (0 : Int32)), (.ref this)])) rfl rfl (hb hby d9_51)
      refine own_pvia st78 ?_
      have O79 : Old Z n0 h78 := OLD.wr W78 g_this
      have E80 := E_this.wr W78
      have U81 : own_Str6 Z h78 n0 p1 c0_ c1_ c2_ c3_ c4_ c5_ := own_strw SR W78 ltb
      have F82 := F_depth.other W78 (Or.inr (slot_ne (Or.inl (own_w hw 96)) (Or.inl (own_w hw 89)) (by decide) (t := .int) (t' := .char) (by decide) (by decide)))
      have F83 := F_stray.other W78 (Or.inr (slot_ne (Or.inl (own_w hw 62)) (Or.inl (own_w hw 89)) (by decide) (t := .boolean) (t' := .char) (by decide) (by decide)))
      have F84 := F_closing.same W78
      have Zs85 : n0 ≤ h78.size := Nat.le_trans Z0 (Keep.of_wr W78).1
      have N86 := Fr.snoc X78 N5 g_this
      have K87 : Keep h0 h78 [this] := (Keep.refl h0 [this]).wr W78 (Or.inl (List.mem_of_getElem? (i := 0) rfl))
      refine own_pvia (fun t kz => XS.goto X78.here hx rfl (pc0 := 54) (pc' := 128) rfl (hb hby d9_54) (by decide) (by decide) kz) ?_
      show own_Pc p e below _ (T78.setTop (mkF m 128 #[oR this, oR p1, oI (5 : Int32), oI c5_] []))
      refine own_pvia (fun t kz => XS.iinc X78.here hx rfl (hb hby d9_128) rfl (l' := #[oR this, oR p1, oI (6 : Int32), oI c5_]) rfl kz) ?_
      refine own_pvia (fun t kz => XS.goto X78.here hx rfl (pc0 := 131) (pc' := 2) rfl (hb hby d9_131) (by decide) (by decide) kz) ?_
      exact ⟨_, fun t k => k, ⟨T78, h78, _, rfl, X78, e78, N86, Zs85, K87, E80, U81, by unfold own_stepf; rw [if_neg hc31_7, if_pos hc40_77]; exact ⟨F82, F83, F84⟩⟩⟩
    · refine own_pvia (fun t kz => XS.icmpYes X76.here hx rfl (pc0 := 40) (pc' := 47) rfl (hb hby d9_40) rfl (feq hc40_77).2 (by decide) (by decide) kz) ?_
      refine own_pvia (fun t kz => XS.aloadN X76.here hx rfl (hb hby d9_47) rfl rfl kz) ?_
      show own_Pc p e below _ (T76.setTop (mkF m 48 #[oR this, oR p1, oI (5 : Int32), oI c5_] [(.ref this), (.ref this)]))
      obtain ⟨T88, X88, e88, st88⟩ := getF X76 hx hZ hown (host := "") (Or.inl (own_w hw 88)) Via.refl e76 F_closing (g := (mkF m 48 #[oR this, oR p1, oI (5 : Int32), oI c5_] [(.ref this), (.ref this)])) rfl rfl (hb hby d9_48)
      refine own_pvia st88 ?_
      show own_Pc p e below _ (T88.setTop (mkF m 51 #[oR this, oR p1, oI (5 : Int32), oI c5_] [(.int wq), (.ref this)]))
      obtain ⟨T89, h89, X89, e89, W89, st89⟩ := putF X88 hx hZ hown (host := "") (Or.inl (own_w hw 88)) Via.refl e88 F_closing E_this (Or.inl (own_w hw 89)) (own_w hw 7) (ty := .char) (by decide) (own_nch hq) (own_fch hq) (g := (mkF m 51 #[oR this, oR p1, oI (5 : Int32), oI c5_] [(.int wq), (.ref this)])) rfl rfl (hb hby d9_51)
      refine own_pvia st89 ?_
      have O90 : Old Z n0 h89 := OLD.wr W89 g_this
      have E91 := E_this.wr W89
      have U92 : own_Str6 Z h89 n0 p1 c0_ c1_ c2_ c3_ c4_ c5_ := own_strw SR W89 ltb
      have F93 := F_depth.other W89 (Or.inr (slot_ne (Or.inl (own_w hw 96)) (Or.inl (own_w hw 89)) (by decide) (t := .int) (t' := .char) (by decide) (by decide)))
      have F94 := F_stray.other W89 (Or.inr (slot_ne (Or.inl (own_w hw 62)) (Or.inl (own_w hw 89)) (by decide) (t := .boolean) (t' := .char) (by decide) (by decide)))
      have F95 := F_closing.same W89
      have Zs96 : n0 ≤ h89.size := Nat.le_trans Z0 (Keep.of_wr W89).1
      have N97 := Fr.snoc X89 N5 g_this
      have K98 : Keep h0 h89 [this] := (Keep.refl h0 [this]).wr W89 (Or.inl (List.mem_of_getElem? (i := 0) rfl))
      refine own_pvia (fun t kz => XS.goto X89.here hx rfl (pc0 := 54) (pc' := 128) rfl (hb hby d9_54) (by decide) (by decide) kz) ?_
      show own_Pc p e below _ (T89.setTop (mkF m 128 #[oR this, oR p1, oI (5 : Int32), oI c5_] []))
      refine own_pvia (fun t kz => XS.iinc X89.here hx rfl (hb hby d9_128) rfl (l' := #[oR this, oR p1, oI (6 : Int32), oI c5_]) rfl kz) ?_
      refine own_pvia (fun t kz => XS.goto X89.here hx rfl (pc0 := 131) (pc' := 2) rfl (hb hby d9_131) (by decide) (by decide) kz) ?_
      exact ⟨_, fun t k => k, ⟨T89, h89, _, rfl, X89, e89, N97, Zs96, K98, E91, U92, by unfold own_stepf; rw [if_neg hc31_7, if_neg hc40_77]; exact ⟨F93, F94, F95⟩⟩⟩
theorem own_chl {c : Int32} (h1 : ¬ c < (0 : Int32)) (h2 : ¬ (65535 : Int32) < c) : own_ch c := ⟨h1, h2⟩
theorem own_chi {P : Prop} [Decidable P] {a b : Int32} (h1 : own_ch a) (h2 : own_ch b) : own_ch (if P then a else b) := by
  split
  · exact h1
  · exact h2
theorem own_chq {q : Int32} (h : q = 34 ∨ q = 124) : own_ch q := by
  rcases h with rfl | rfl
  · exact ⟨by decide, by decide⟩
  · exact ⟨by decide, by decide⟩
theorem own_narc {c : Int32} (h : own_ch c) : nar .char c = c := by
  obtain ⟨a, b⟩ := own_ch_r h
  have e := c_i2c c
  show c.toUInt32.toUInt16.toUInt32.toInt32 = c
  exact Int32.toInt_inj.mp (by omega)
theorem own_stepch {S : own_B} {c : Int32} (h : own_ch S.2.2) (hc : own_ch c) : own_ch (own_step S c).2.2 := by
  unfold own_step own_stepf
  repeat' split
  all_goals first
    | exact h
    | exact hc
    | exact (⟨by decide, by decide⟩ : own_ch (0 : Int32))
theorem own_ifch {P : Prop} [Decidable P] {A B : own_B} (h1 : own_ch A.2.2) (h2 : own_ch B.2.2) : own_ch (if P then A else B).2.2 := by
  split
  · exact h1
  · exact h2
def own_run (S : own_B) (c0_ c1_ c2_ c3_ c4_ c5_ : Int32) : own_B := (if S.2.1 = (0 : Int32) then (if (own_step S c0_).2.1 = (0 : Int32) then (if (own_step (own_step S c0_) c1_).2.1 = (0 : Int32) then (if (own_step (own_step (own_step S c0_) c1_) c2_).2.1 = (0 : Int32) then (if (own_step (own_step (own_step (own_step S c0_) c1_) c2_) c3_).2.1 = (0 : Int32) then (if (own_step (own_step (own_step (own_step (own_step S c0_) c1_) c2_) c3_) c4_).2.1 = (0 : Int32) then (own_step (own_step (own_step (own_step (own_step (own_step S c0_) c1_) c2_) c3_) c4_) c5_) else (own_step (own_step (own_step (own_step (own_step S c0_) c1_) c2_) c3_) c4_)) else (own_step (own_step (own_step (own_step S c0_) c1_) c2_) c3_)) else (own_step (own_step (own_step S c0_) c1_) c2_)) else (own_step (own_step S c0_) c1_)) else (own_step S c0_)) else S)
theorem d9_0 : decode prog_88_method_2_code 0 = .ok (.iconst 0, 1) := by decide +kernel
theorem d9_1 : decode prog_88_method_2_code 1 = .ok (.istore_n 2, 1) := by decide +kernel
theorem d9_134 : decode prog_88_method_2_code 134 = .ok (.return_, 1) := by decide +kernel
theorem ef_rmAdd (m : MethodId) (q0 : Addr) (q1 : Addr) : entryFrame m #[(.ref q0), (.ref q1)] 4 = mkF m 0 #[oR q0, oR q1, .unset, .unset] [] := by first | (simp [entryFrame, mkF, argsToLocals, Value.category]; done) | rfl
def QAdd (Z : State) (this : Addr) (p1 : Addr) (S : own_B) (c0_ : Int32) (c1_ : Int32) (c2_ : Int32) (c3_ : Int32) (c4_ : Int32) (c5_ : Int32) (wcs : Int32) (wsf : Value) (h0 : Heap) (n0 : Nat) (v : Option Value) (h : Heap) (L : List Loc) : Prop := v = none ∧ Fr n0 L ∧ Keep h0 h [this] ∧ own_Bal Z h this (own_run S c0_ c1_ c2_ c3_ c4_ c5_)
set_option maxRecDepth 65536 in
set_option maxHeartbeats 40000000 in
theorem rmAdd (l : Launch) (Z : State) (a0 : Array Value) (hw : ∀ d ∈ tables_1, d.before a0 Z = true) (ws : List Jvm.Cond) (this : Addr) (p1 : Addr) (S : own_B) (c0_ : Int32) (c1_ : Int32) (c2_ : Int32) (c3_ : Int32) (c4_ : Int32) (c5_ : Int32) (wcs : Int32) (wsf : Value) (h0 : Heap) (n0 : Nat) (Z0 : n0 ≤ h0.size) (g_this : n0 ≤ this) (ltb : this < p1) (E_this : Exa Z h0 this "com/example/quiescence/quiescence/model/SExpression$Balance") (F_depth : Fld Z h0 this "com/example/quiescence/quiescence/model/SExpression$Balance" "depth" "I" (.int S.1)) (F_stray : Fld Z h0 this "com/example/quiescence/quiescence/model/SExpression$Balance" "stray" "Z" (.int S.2.1)) (F_closing : Fld Z h0 this "com/example/quiescence/quiescence/model/SExpression$Balance" "closing" "C" (.int S.2.2)) (SR : own_Str6 Z h0 n0 p1 c0_ c1_ c2_ c3_ c4_ c5_) (hc0 : own_ch c0_) (hc1 : own_ch c1_) (hc2 : own_ch c2_) (hc3 : own_ch c3_) (hc4 : own_ch c4_) (hc5 : own_ch c5_) (OLD : Old Z n0 h0) (hcs : ¬ (wcs = (0 : Int32))) (rsf : wsf.isRef = true) (B_wcs : Sta Z Z.heap "java/lang/String" "COMPACT_STRINGS" "Z" (.int wcs)) (B_wsf : Sta Z Z.heap "jdk/internal/util/Preconditions" "SIOOBE_FORMATTER" "Ljava/util/function/BiFunction;" wsf) (B_wad : Sta Z Z.heap "java/lang/StringUTF16" "$assertionsDisabled" "Z" (.int (1 : Int32))) (B_whi : Sta Z Z.heap "java/lang/StringUTF16" "HI_BYTE_SHIFT" "I" (.int (0 : Int32))) (B_wlo : Sta Z Z.heap "java/lang/StringUTF16" "LO_BYTE_SHIFT" "I" (.int (8 : Int32))) (hq : own_ch S.2.2) :
    MetFree l (⟨"com/example/quiescence/quiescence/model/SExpression$Balance", "add", "(Ljava/lang/CharSequence;)V"⟩ : MethodName) (head1 (Jvm.Cond.code (⟨"com/example/quiescence/quiescence/model/SExpression$Balance", "add", "(Ljava/lang/CharSequence;)V"⟩ : MethodName) prog_88_method_2_code 4 none :: ws) ({ frames := 5, cells := 0, slots := 0, locals := 66 } : Room)) (fun a U => a = #[(.ref this), (.ref p1)] ∧ Z.Warmed39 U.vm ∧ U.heap = h0) (fun _ _ _ _ _ => True) (fun _ U o U' => ∃ v L, o = .returned v ∧ QAdd Z this p1 S c0_ c1_ c2_ c3_ c4_ c5_ wcs wsf h0 n0 v U'.heap L ∧ FrameEnd U o U' L ({ frames := 5, cells := 0, slots := 0, locals := 66 } : Room).cells ({ frames := 5, cells := 0, slots := 0, locals := 66 } : Room).slots) := by
  refine MetFree.of_bodySF (plainFor_of_name pn_2) hisR ?_
  intro p e s m args below meth c s₁ Bd hml0 hP hK
  obtain ⟨rfl, hZ, hh⟩ := hP
  have hx := Bd.exec
  have hby := Bd.bytes
  have hml : c.maxLocals = 4 := hml0
  have hown : s.vm.findClass "com/example/quiescence/quiescence/model/SExpression$Balance" = some m.cls := findClass_of_methodNamed Bd.named
  have hnm := (name_of_methodNamed Bd.named Bd.method).1
  have X0 : Stand p l e ({ frames := 5, cells := 0, slots := 0, locals := 66 } : Room) s m #[(.ref this), (.ref p1)] below meth c s₁ [] 0 0 := Stand.of_body Bd
  have e0 : s₁.heap = h0 := by rw [← hh, Bd.state]; rfl
  have N0 := Fr.nil n0
  refine own_start ?_
  refine own_via (fun t k => castTop (ef_rmAdd m this p1) k) ?_
  show own_Go p e below _ (s₁.setTop (mkF m 0 #[oR this, oR p1, .unset, .unset] []))
  refine own_via (fun t kz => XS.iconst X0.here hx rfl (hb hby d9_0) kz) ?_
  refine own_via (fun t kz => XS.istoreN X0.here hx rfl (hb hby d9_1) rfl (l' := #[oR this, oR p1, oI (0 : Int32), .unset]) rfl kz) ?_
  by_cases hc2_1 : S.2.1 = (0 : Int32)
  · obtain ⟨B2, st2, T2, h2, lc2, rfl, X2, e2, N2, Zs2, Kc2, Eb2, U2, Fd2, Fs2, Fc2⟩ := own_turn0 this p1 S.1 S.2.1 S.2.2 c0_ c1_ c2_ c3_ c4_ c5_ wcs wsf X0 hx hZ hw hby hml hown e0 N0 Z0 g_this ltb E_this F_depth F_stray F_closing SR hc0 hc1 hc2 hc3 hc4 hc5 OLD hcs rsf B_wcs B_wsf B_wad B_whi B_wlo hc2_1 hq (by decide) (by decide) (by decide) (by decide)
    refine own_via st2 ?_
    have K2k : Keep h0 h2 [this] := (Keep.refl h0 [this]).trans Kc2 (allS (Or.inl (List.mem_of_getElem? (i := 0) rfl)) all0)
    have O2o : Old Z n0 h2 := OLD.keep Kc2 (allS g_this all0)
    obtain ⟨S2, hS2⟩ : ∃ z, z = own_step S c0_ := ⟨_, rfl⟩
    have Fdv2 : Fld Z h2 this "com/example/quiescence/quiescence/model/SExpression$Balance" "depth" "I" (.int S2.1) := by rw [hS2]; exact Fd2
    have Fsv2 : Fld Z h2 this "com/example/quiescence/quiescence/model/SExpression$Balance" "stray" "Z" (.int S2.2.1) := by rw [hS2]; exact Fs2
    have Fcv2 : Fld Z h2 this "com/example/quiescence/quiescence/model/SExpression$Balance" "closing" "C" (.int S2.2.2) := by rw [hS2]; exact Fc2
    have hq2 : own_ch S2.2.2 := by rw [hS2]; exact own_stepch hq hc0
    by_cases hc2_3 : S2.2.1 = (0 : Int32)
    · obtain ⟨B4, st4, T4, h4, lc4, rfl, X4, e4, N4, Zs4, Kc4, Eb4, U4, Fd4, Fs4, Fc4⟩ := own_turn1 this p1 S2.1 S2.2.1 S2.2.2 c0_ c1_ c2_ c3_ c4_ c5_ wcs wsf X2 hx hZ hw hby hml hown e2 N2 Zs2 g_this ltb Eb2 Fdv2 Fsv2 Fcv2 U2 hc0 hc1 hc2 hc3 hc4 hc5 O2o hcs rsf B_wcs B_wsf B_wad B_whi B_wlo hc2_3 hq2 (by decide) (by decide) (by decide) (by decide)
      refine own_via st4 ?_
      have K4k : Keep h0 h4 [this] := K2k.trans Kc4 (allS (Or.inl (List.mem_of_getElem? (i := 0) rfl)) all0)
      have O4o : Old Z n0 h4 := O2o.keep Kc4 (allS g_this all0)
      obtain ⟨S4, hS4⟩ : ∃ z, z = own_step S2 c1_ := ⟨_, rfl⟩
      have Fdv4 : Fld Z h4 this "com/example/quiescence/quiescence/model/SExpression$Balance" "depth" "I" (.int S4.1) := by rw [hS4]; exact Fd4
      have Fsv4 : Fld Z h4 this "com/example/quiescence/quiescence/model/SExpression$Balance" "stray" "Z" (.int S4.2.1) := by rw [hS4]; exact Fs4
      have Fcv4 : Fld Z h4 this "com/example/quiescence/quiescence/model/SExpression$Balance" "closing" "C" (.int S4.2.2) := by rw [hS4]; exact Fc4
      have hq4 : own_ch S4.2.2 := by rw [hS4]; exact own_stepch hq2 hc1
      by_cases hc2_5 : S4.2.1 = (0 : Int32)
      · obtain ⟨B6, st6, T6, h6, lc6, rfl, X6, e6, N6, Zs6, Kc6, Eb6, U6, Fd6, Fs6, Fc6⟩ := own_turn2 this p1 S4.1 S4.2.1 S4.2.2 c0_ c1_ c2_ c3_ c4_ c5_ wcs wsf X4 hx hZ hw hby hml hown e4 N4 Zs4 g_this ltb Eb4 Fdv4 Fsv4 Fcv4 U4 hc0 hc1 hc2 hc3 hc4 hc5 O4o hcs rsf B_wcs B_wsf B_wad B_whi B_wlo hc2_5 hq4 (by decide) (by decide) (by decide) (by decide)
        refine own_via st6 ?_
        have K6k : Keep h0 h6 [this] := K4k.trans Kc6 (allS (Or.inl (List.mem_of_getElem? (i := 0) rfl)) all0)
        have O6o : Old Z n0 h6 := O4o.keep Kc6 (allS g_this all0)
        obtain ⟨S6, hS6⟩ : ∃ z, z = own_step S4 c2_ := ⟨_, rfl⟩
        have Fdv6 : Fld Z h6 this "com/example/quiescence/quiescence/model/SExpression$Balance" "depth" "I" (.int S6.1) := by rw [hS6]; exact Fd6
        have Fsv6 : Fld Z h6 this "com/example/quiescence/quiescence/model/SExpression$Balance" "stray" "Z" (.int S6.2.1) := by rw [hS6]; exact Fs6
        have Fcv6 : Fld Z h6 this "com/example/quiescence/quiescence/model/SExpression$Balance" "closing" "C" (.int S6.2.2) := by rw [hS6]; exact Fc6
        have hq6 : own_ch S6.2.2 := by rw [hS6]; exact own_stepch hq4 hc2
        by_cases hc2_7 : S6.2.1 = (0 : Int32)
        · obtain ⟨B8, st8, T8, h8, lc8, rfl, X8, e8, N8, Zs8, Kc8, Eb8, U8, Fd8, Fs8, Fc8⟩ := own_turn3 this p1 S6.1 S6.2.1 S6.2.2 c0_ c1_ c2_ c3_ c4_ c5_ wcs wsf X6 hx hZ hw hby hml hown e6 N6 Zs6 g_this ltb Eb6 Fdv6 Fsv6 Fcv6 U6 hc0 hc1 hc2 hc3 hc4 hc5 O6o hcs rsf B_wcs B_wsf B_wad B_whi B_wlo hc2_7 hq6 (by decide) (by decide) (by decide) (by decide)
          refine own_via st8 ?_
          have K8k : Keep h0 h8 [this] := K6k.trans Kc8 (allS (Or.inl (List.mem_of_getElem? (i := 0) rfl)) all0)
          have O8o : Old Z n0 h8 := O6o.keep Kc8 (allS g_this all0)
          obtain ⟨S8, hS8⟩ : ∃ z, z = own_step S6 c3_ := ⟨_, rfl⟩
          have Fdv8 : Fld Z h8 this "com/example/quiescence/quiescence/model/SExpression$Balance" "depth" "I" (.int S8.1) := by rw [hS8]; exact Fd8
          have Fsv8 : Fld Z h8 this "com/example/quiescence/quiescence/model/SExpression$Balance" "stray" "Z" (.int S8.2.1) := by rw [hS8]; exact Fs8
          have Fcv8 : Fld Z h8 this "com/example/quiescence/quiescence/model/SExpression$Balance" "closing" "C" (.int S8.2.2) := by rw [hS8]; exact Fc8
          have hq8 : own_ch S8.2.2 := by rw [hS8]; exact own_stepch hq6 hc3
          by_cases hc2_9 : S8.2.1 = (0 : Int32)
          · obtain ⟨B10, st10, T10, h10, lc10, rfl, X10, e10, N10, Zs10, Kc10, Eb10, U10, Fd10, Fs10, Fc10⟩ := own_turn4 this p1 S8.1 S8.2.1 S8.2.2 c0_ c1_ c2_ c3_ c4_ c5_ wcs wsf X8 hx hZ hw hby hml hown e8 N8 Zs8 g_this ltb Eb8 Fdv8 Fsv8 Fcv8 U8 hc0 hc1 hc2 hc3 hc4 hc5 O8o hcs rsf B_wcs B_wsf B_wad B_whi B_wlo hc2_9 hq8 (by decide) (by decide) (by decide) (by decide)
            refine own_via st10 ?_
            have K10k : Keep h0 h10 [this] := K8k.trans Kc10 (allS (Or.inl (List.mem_of_getElem? (i := 0) rfl)) all0)
            have O10o : Old Z n0 h10 := O8o.keep Kc10 (allS g_this all0)
            obtain ⟨S10, hS10⟩ : ∃ z, z = own_step S8 c4_ := ⟨_, rfl⟩
            have Fdv10 : Fld Z h10 this "com/example/quiescence/quiescence/model/SExpression$Balance" "depth" "I" (.int S10.1) := by rw [hS10]; exact Fd10
            have Fsv10 : Fld Z h10 this "com/example/quiescence/quiescence/model/SExpression$Balance" "stray" "Z" (.int S10.2.1) := by rw [hS10]; exact Fs10
            have Fcv10 : Fld Z h10 this "com/example/quiescence/quiescence/model/SExpression$Balance" "closing" "C" (.int S10.2.2) := by rw [hS10]; exact Fc10
            have hq10 : own_ch S10.2.2 := by rw [hS10]; exact own_stepch hq8 hc4
            by_cases hc2_11 : S10.2.1 = (0 : Int32)
            · obtain ⟨B12, st12, T12, h12, lc12, rfl, X12, e12, N12, Zs12, Kc12, Eb12, U12, Fd12, Fs12, Fc12⟩ := own_turn5 this p1 S10.1 S10.2.1 S10.2.2 c0_ c1_ c2_ c3_ c4_ c5_ wcs wsf X10 hx hZ hw hby hml hown e10 N10 Zs10 g_this ltb Eb10 Fdv10 Fsv10 Fcv10 U10 hc0 hc1 hc2 hc3 hc4 hc5 O10o hcs rsf B_wcs B_wsf B_wad B_whi B_wlo hc2_11 hq10 (by decide) (by decide) (by decide) (by decide)
              refine own_via st12 ?_
              have K12k : Keep h0 h12 [this] := K10k.trans Kc12 (allS (Or.inl (List.mem_of_getElem? (i := 0) rfl)) all0)
              have O12o : Old Z n0 h12 := O10o.keep Kc12 (allS g_this all0)
              obtain ⟨S12, hS12⟩ : ∃ z, z = own_step S10 c5_ := ⟨_, rfl⟩
              have Fdv12 : Fld Z h12 this "com/example/quiescence/quiescence/model/SExpression$Balance" "depth" "I" (.int S12.1) := by rw [hS12]; exact Fd12
              have Fsv12 : Fld Z h12 this "com/example/quiescence/quiescence/model/SExpression$Balance" "stray" "Z" (.int S12.2.1) := by rw [hS12]; exact Fs12
              have Fcv12 : Fld Z h12 this "com/example/quiescence/quiescence/model/SExpression$Balance" "closing" "C" (.int S12.2.2) := by rw [hS12]; exact Fc12
              have hq12 : own_ch S12.2.2 := by rw [hS12]; exact own_stepch hq10 hc5
              show own_Go p e below _ (T12.setTop (mkF m 2 #[oR this, oR p1, oI (6 : Int32), oI c5_] []))
              refine own_via (fun t kz => XS.iloadN X12.here hx rfl (hb hby d9_2) rfl kz) ?_
              refine own_via (fun t kz => XS.aloadN X12.here hx rfl (hb hby d9_3) rfl rfl kz) ?_
              show own_Go p e below _ (T12.setTop (mkF m 4 #[oR this, oR p1, oI (6 : Int32), oI c5_] [(.ref p1), (.int (6 : Int32))]))
              obtain ⟨cq13, kq13, qa13, qb13, qc13⟩ := isOf hZ e12 (own_strE U12)
              obtain ⟨_, _, ⟨T13, L13, k13, n13⟩, -, X13, ⟨Lc13, hQ13, l13, y13, z13⟩, st13⟩ := X12.interfaceBack hx (xi := (⟨"java/lang/CharSequence", "length", "()I"⟩ : MethodName)) (y := (⟨"java/lang/String", "length", "()I"⟩ : MethodName)) hown (mvT hZ (own_w hw 47)) (mvT hZ (own_w hw 48)) (mvT hZ (own_w hw 49)) (mvT hZ (own_w hw 50)) (mvT hZ (own_w hw 51)) (mvT hZ (own_w hw 52)) (mvT hZ (own_w hw 53)) (mvT hZ (own_w hw 54)) (by decide) (backOf (W := 1) (rmL6 l Z a0 hw [] p1 c0_ c1_ c2_ c3_ c4_ c5_ wcs wsf h12 n0 Zs12 U12 O12o hcs rsf B_wcs B_wsf B_wad B_whi B_wlo) hZ (own_w hw 55) (own_w hw 17) (by decide) (by decide)) qa13 qb13 qc13 (g := (mkF m 4 #[oR this, oR p1, oI (6 : Int32), oI c5_] [(.ref p1), (.int (6 : Int32))])) rfl (by rw [hml]; rfl) (Steps.refl _) (argsL := []) (rest := [(.int (6 : Int32))]) (lenOf pd_9_0 rfl) rfl (by show 2 * 0 + _ ≤ _; exact Nat.le_of_eq rfl) (hb hby d9_4) (fun _ _ => ⟨rfl, e12, (by decide : 0 + 0 ≤ _), (by decide : 0 + 0 ≤ _)⟩)
              dsimp only [Pt.U, Pt.locs, Pt.cells, Pt.slots] at X13 l13 y13 z13 st13 hQ13
              subst l13 y13 z13
              obtain ⟨rfl, Nq13, e13⟩ := hQ13
              have N14 := Fr.app N12 Nq13
              refine own_tr st13 ?_
              show own_Go p e below _ (T13.setTop (mkF m 9 #[oR this, oR p1, oI (6 : Int32), oI c5_] [(.int (6 : Int32)), (.int (6 : Int32))]))
              refine own_via (fun t kz => XS.icmpYes X13.here hx rfl (pc0 := 9) (pc' := 134) rfl (hb hby d9_9) rfl (flt (by decide : ¬ ((6 : Int32) < (6 : Int32)))).2.1 (by decide) (by decide) kz) ?_
              show own_Go p e below _ (T13.setTop (mkF m 134 #[oR this, oR p1, oI (6 : Int32), oI c5_] []))
              obtain ⟨fs, hr, hrun, hended, hW, hsame⟩ := X13.leave (v := none) (fun _ => rfl)
              refine ⟨_, _, X13.returnOut hx Bd.returns (hb hby d9_134) hr, hrun, hended, _, _, rfl, ?_, ⟨_, rfl⟩, hW, hsame.mono (by decide) (by decide)⟩
              show QAdd Z this p1 S c0_ c1_ c2_ c3_ c4_ c5_ wcs wsf h0 n0 _ T13.heap _
              rw [e13]
              exact ⟨rfl, N14, K12k, by unfold own_run; rw [← hS2, ← hS4, ← hS6, ← hS8, ← hS10, ← hS12, if_pos hc2_1, if_pos hc2_3, if_pos hc2_5, if_pos hc2_7, if_pos hc2_9, if_pos hc2_11]; exact ⟨Fdv12, Fsv12, Fcv12⟩⟩
            · show own_Go p e below _ (T10.setTop (mkF m 2 #[oR this, oR p1, oI (5 : Int32), oI c4_] []))
              refine own_via (fun t kz => XS.iloadN X10.here hx rfl (hb hby d9_2) rfl kz) ?_
              refine own_via (fun t kz => XS.aloadN X10.here hx rfl (hb hby d9_3) rfl rfl kz) ?_
              show own_Go p e below _ (T10.setTop (mkF m 4 #[oR this, oR p1, oI (5 : Int32), oI c4_] [(.ref p1), (.int (5 : Int32))]))
              obtain ⟨cq16, kq16, qa16, qb16, qc16⟩ := isOf hZ e10 (own_strE U10)
              obtain ⟨_, _, ⟨T16, L16, k16, n16⟩, -, X16, ⟨Lc16, hQ16, l16, y16, z16⟩, st16⟩ := X10.interfaceBack hx (xi := (⟨"java/lang/CharSequence", "length", "()I"⟩ : MethodName)) (y := (⟨"java/lang/String", "length", "()I"⟩ : MethodName)) hown (mvT hZ (own_w hw 47)) (mvT hZ (own_w hw 48)) (mvT hZ (own_w hw 49)) (mvT hZ (own_w hw 50)) (mvT hZ (own_w hw 51)) (mvT hZ (own_w hw 52)) (mvT hZ (own_w hw 53)) (mvT hZ (own_w hw 54)) (by decide) (backOf (W := 1) (rmL6 l Z a0 hw [] p1 c0_ c1_ c2_ c3_ c4_ c5_ wcs wsf h10 n0 Zs10 U10 O10o hcs rsf B_wcs B_wsf B_wad B_whi B_wlo) hZ (own_w hw 55) (own_w hw 17) (by decide) (by decide)) qa16 qb16 qc16 (g := (mkF m 4 #[oR this, oR p1, oI (5 : Int32), oI c4_] [(.ref p1), (.int (5 : Int32))])) rfl (by rw [hml]; rfl) (Steps.refl _) (argsL := []) (rest := [(.int (5 : Int32))]) (lenOf pd_9_0 rfl) rfl (by show 2 * 0 + _ ≤ _; exact Nat.le_of_eq rfl) (hb hby d9_4) (fun _ _ => ⟨rfl, e10, (by decide : 0 + 0 ≤ _), (by decide : 0 + 0 ≤ _)⟩)
              dsimp only [Pt.U, Pt.locs, Pt.cells, Pt.slots] at X16 l16 y16 z16 st16 hQ16
              subst l16 y16 z16
              obtain ⟨rfl, Nq16, e16⟩ := hQ16
              have N17 := Fr.app N10 Nq16
              refine own_tr st16 ?_
              show own_Go p e below _ (T16.setTop (mkF m 9 #[oR this, oR p1, oI (5 : Int32), oI c4_] [(.int (6 : Int32)), (.int (5 : Int32))]))
              refine own_via (fun t kz => XS.icmpNo X16.here hx rfl (hb hby d9_9) rfl (tlt (by decide : (5 : Int32) < (6 : Int32))).2.1 kz) ?_
              refine own_via (fun t kz => XS.aloadN X16.here hx rfl (hb hby d9_12) rfl rfl kz) ?_
              show own_Go p e below _ (T16.setTop (mkF m 13 #[oR this, oR p1, oI (5 : Int32), oI c4_] [(.ref this)]))
              obtain ⟨T18, X18, e18, st18⟩ := getF X16 hx hZ hown (host := "") (Or.inl (own_w hw 61)) Via.refl e16 Fsv10 (g := (mkF m 13 #[oR this, oR p1, oI (5 : Int32), oI c4_] [(.ref this)])) rfl rfl (hb hby d9_13)
              refine own_via st18 ?_
              show own_Go p e below _ (T18.setTop (mkF m 16 #[oR this, oR p1, oI (5 : Int32), oI c4_] [(.int S10.2.1)]))
              refine own_via (fun t kz => XS.ifYes X18.here hx rfl (pc0 := 16) (pc' := 134) rfl (hb hby d9_16) rfl ((if0 _ _).trans (feq hc2_11).2) (by decide) (by decide) kz) ?_
              show own_Go p e below _ (T18.setTop (mkF m 134 #[oR this, oR p1, oI (5 : Int32), oI c4_] []))
              obtain ⟨fs, hr, hrun, hended, hW, hsame⟩ := X18.leave (v := none) (fun _ => rfl)
              refine ⟨_, _, X18.returnOut hx Bd.returns (hb hby d9_134) hr, hrun, hended, _, _, rfl, ?_, ⟨_, rfl⟩, hW, hsame.mono (by decide) (by decide)⟩
              show QAdd Z this p1 S c0_ c1_ c2_ c3_ c4_ c5_ wcs wsf h0 n0 _ T18.heap _
              rw [e18]
              exact ⟨rfl, N17, K10k, by unfold own_run; rw [← hS2, ← hS4, ← hS6, ← hS8, ← hS10, if_pos hc2_1, if_pos hc2_3, if_pos hc2_5, if_pos hc2_7, if_pos hc2_9, if_neg hc2_11]; exact ⟨Fdv10, Fsv10, Fcv10⟩⟩
          · show own_Go p e below _ (T8.setTop (mkF m 2 #[oR this, oR p1, oI (4 : Int32), oI c3_] []))
            refine own_via (fun t kz => XS.iloadN X8.here hx rfl (hb hby d9_2) rfl kz) ?_
            refine own_via (fun t kz => XS.aloadN X8.here hx rfl (hb hby d9_3) rfl rfl kz) ?_
            show own_Go p e below _ (T8.setTop (mkF m 4 #[oR this, oR p1, oI (4 : Int32), oI c3_] [(.ref p1), (.int (4 : Int32))]))
            obtain ⟨cq20, kq20, qa20, qb20, qc20⟩ := isOf hZ e8 (own_strE U8)
            obtain ⟨_, _, ⟨T20, L20, k20, n20⟩, -, X20, ⟨Lc20, hQ20, l20, y20, z20⟩, st20⟩ := X8.interfaceBack hx (xi := (⟨"java/lang/CharSequence", "length", "()I"⟩ : MethodName)) (y := (⟨"java/lang/String", "length", "()I"⟩ : MethodName)) hown (mvT hZ (own_w hw 47)) (mvT hZ (own_w hw 48)) (mvT hZ (own_w hw 49)) (mvT hZ (own_w hw 50)) (mvT hZ (own_w hw 51)) (mvT hZ (own_w hw 52)) (mvT hZ (own_w hw 53)) (mvT hZ (own_w hw 54)) (by decide) (backOf (W := 1) (rmL6 l Z a0 hw [] p1 c0_ c1_ c2_ c3_ c4_ c5_ wcs wsf h8 n0 Zs8 U8 O8o hcs rsf B_wcs B_wsf B_wad B_whi B_wlo) hZ (own_w hw 55) (own_w hw 17) (by decide) (by decide)) qa20 qb20 qc20 (g := (mkF m 4 #[oR this, oR p1, oI (4 : Int32), oI c3_] [(.ref p1), (.int (4 : Int32))])) rfl (by rw [hml]; rfl) (Steps.refl _) (argsL := []) (rest := [(.int (4 : Int32))]) (lenOf pd_9_0 rfl) rfl (by show 2 * 0 + _ ≤ _; exact Nat.le_of_eq rfl) (hb hby d9_4) (fun _ _ => ⟨rfl, e8, (by decide : 0 + 0 ≤ _), (by decide : 0 + 0 ≤ _)⟩)
            dsimp only [Pt.U, Pt.locs, Pt.cells, Pt.slots] at X20 l20 y20 z20 st20 hQ20
            subst l20 y20 z20
            obtain ⟨rfl, Nq20, e20⟩ := hQ20
            have N21 := Fr.app N8 Nq20
            refine own_tr st20 ?_
            show own_Go p e below _ (T20.setTop (mkF m 9 #[oR this, oR p1, oI (4 : Int32), oI c3_] [(.int (6 : Int32)), (.int (4 : Int32))]))
            refine own_via (fun t kz => XS.icmpNo X20.here hx rfl (hb hby d9_9) rfl (tlt (by decide : (4 : Int32) < (6 : Int32))).2.1 kz) ?_
            refine own_via (fun t kz => XS.aloadN X20.here hx rfl (hb hby d9_12) rfl rfl kz) ?_
            show own_Go p e below _ (T20.setTop (mkF m 13 #[oR this, oR p1, oI (4 : Int32), oI c3_] [(.ref this)]))
            obtain ⟨T22, X22, e22, st22⟩ := getF X20 hx hZ hown (host := "") (Or.inl (own_w hw 61)) Via.refl e20 Fsv8 (g := (mkF m 13 #[oR this, oR p1, oI (4 : Int32), oI c3_] [(.ref this)])) rfl rfl (hb hby d9_13)
            refine own_via st22 ?_
            show own_Go p e below _ (T22.setTop (mkF m 16 #[oR this, oR p1, oI (4 : Int32), oI c3_] [(.int S8.2.1)]))
            refine own_via (fun t kz => XS.ifYes X22.here hx rfl (pc0 := 16) (pc' := 134) rfl (hb hby d9_16) rfl ((if0 _ _).trans (feq hc2_9).2) (by decide) (by decide) kz) ?_
            show own_Go p e below _ (T22.setTop (mkF m 134 #[oR this, oR p1, oI (4 : Int32), oI c3_] []))
            obtain ⟨fs, hr, hrun, hended, hW, hsame⟩ := X22.leave (v := none) (fun _ => rfl)
            refine ⟨_, _, X22.returnOut hx Bd.returns (hb hby d9_134) hr, hrun, hended, _, _, rfl, ?_, ⟨_, rfl⟩, hW, hsame.mono (by decide) (by decide)⟩
            show QAdd Z this p1 S c0_ c1_ c2_ c3_ c4_ c5_ wcs wsf h0 n0 _ T22.heap _
            rw [e22]
            exact ⟨rfl, N21, K8k, by unfold own_run; rw [← hS2, ← hS4, ← hS6, ← hS8, if_pos hc2_1, if_pos hc2_3, if_pos hc2_5, if_pos hc2_7, if_neg hc2_9]; exact ⟨Fdv8, Fsv8, Fcv8⟩⟩
        · show own_Go p e below _ (T6.setTop (mkF m 2 #[oR this, oR p1, oI (3 : Int32), oI c2_] []))
          refine own_via (fun t kz => XS.iloadN X6.here hx rfl (hb hby d9_2) rfl kz) ?_
          refine own_via (fun t kz => XS.aloadN X6.here hx rfl (hb hby d9_3) rfl rfl kz) ?_
          show own_Go p e below _ (T6.setTop (mkF m 4 #[oR this, oR p1, oI (3 : Int32), oI c2_] [(.ref p1), (.int (3 : Int32))]))
          obtain ⟨cq24, kq24, qa24, qb24, qc24⟩ := isOf hZ e6 (own_strE U6)
          obtain ⟨_, _, ⟨T24, L24, k24, n24⟩, -, X24, ⟨Lc24, hQ24, l24, y24, z24⟩, st24⟩ := X6.interfaceBack hx (xi := (⟨"java/lang/CharSequence", "length", "()I"⟩ : MethodName)) (y := (⟨"java/lang/String", "length", "()I"⟩ : MethodName)) hown (mvT hZ (own_w hw 47)) (mvT hZ (own_w hw 48)) (mvT hZ (own_w hw 49)) (mvT hZ (own_w hw 50)) (mvT hZ (own_w hw 51)) (mvT hZ (own_w hw 52)) (mvT hZ (own_w hw 53)) (mvT hZ (own_w hw 54)) (by decide) (backOf (W := 1) (rmL6 l Z a0 hw [] p1 c0_ c1_ c2_ c3_ c4_ c5_ wcs wsf h6 n0 Zs6 U6 O6o hcs rsf B_wcs B_wsf B_wad B_whi B_wlo) hZ (own_w hw 55) (own_w hw 17) (by decide) (by decide)) qa24 qb24 qc24 (g := (mkF m 4 #[oR this, oR p1, oI (3 : Int32), oI c2_] [(.ref p1), (.int (3 : Int32))])) rfl (by rw [hml]; rfl) (Steps.refl _) (argsL := []) (rest := [(.int (3 : Int32))]) (lenOf pd_9_0 rfl) rfl (by show 2 * 0 + _ ≤ _; exact Nat.le_of_eq rfl) (hb hby d9_4) (fun _ _ => ⟨rfl, e6, (by decide : 0 + 0 ≤ _), (by decide : 0 + 0 ≤ _)⟩)
          dsimp only [Pt.U, Pt.locs, Pt.cells, Pt.slots] at X24 l24 y24 z24 st24 hQ24
          subst l24 y24 z24
          obtain ⟨rfl, Nq24, e24⟩ := hQ24
          have N25 := Fr.app N6 Nq24
          refine own_tr st24 ?_
          show own_Go p e below _ (T24.setTop (mkF m 9 #[oR this, oR p1, oI (3 : Int32), oI c2_] [(.int (6 : Int32)), (.int (3 : Int32))]))
          refine own_via (fun t kz => XS.icmpNo X24.here hx rfl (hb hby d9_9) rfl (tlt (by decide : (3 : Int32) < (6 : Int32))).2.1 kz) ?_
          refine own_via (fun t kz => XS.aloadN X24.here hx rfl (hb hby d9_12) rfl rfl kz) ?_
          show own_Go p e below _ (T24.setTop (mkF m 13 #[oR this, oR p1, oI (3 : Int32), oI c2_] [(.ref this)]))
          obtain ⟨T26, X26, e26, st26⟩ := getF X24 hx hZ hown (host := "") (Or.inl (own_w hw 61)) Via.refl e24 Fsv6 (g := (mkF m 13 #[oR this, oR p1, oI (3 : Int32), oI c2_] [(.ref this)])) rfl rfl (hb hby d9_13)
          refine own_via st26 ?_
          show own_Go p e below _ (T26.setTop (mkF m 16 #[oR this, oR p1, oI (3 : Int32), oI c2_] [(.int S6.2.1)]))
          refine own_via (fun t kz => XS.ifYes X26.here hx rfl (pc0 := 16) (pc' := 134) rfl (hb hby d9_16) rfl ((if0 _ _).trans (feq hc2_7).2) (by decide) (by decide) kz) ?_
          show own_Go p e below _ (T26.setTop (mkF m 134 #[oR this, oR p1, oI (3 : Int32), oI c2_] []))
          obtain ⟨fs, hr, hrun, hended, hW, hsame⟩ := X26.leave (v := none) (fun _ => rfl)
          refine ⟨_, _, X26.returnOut hx Bd.returns (hb hby d9_134) hr, hrun, hended, _, _, rfl, ?_, ⟨_, rfl⟩, hW, hsame.mono (by decide) (by decide)⟩
          show QAdd Z this p1 S c0_ c1_ c2_ c3_ c4_ c5_ wcs wsf h0 n0 _ T26.heap _
          rw [e26]
          exact ⟨rfl, N25, K6k, by unfold own_run; rw [← hS2, ← hS4, ← hS6, if_pos hc2_1, if_pos hc2_3, if_pos hc2_5, if_neg hc2_7]; exact ⟨Fdv6, Fsv6, Fcv6⟩⟩
      · show own_Go p e below _ (T4.setTop (mkF m 2 #[oR this, oR p1, oI (2 : Int32), oI c1_] []))
        refine own_via (fun t kz => XS.iloadN X4.here hx rfl (hb hby d9_2) rfl kz) ?_
        refine own_via (fun t kz => XS.aloadN X4.here hx rfl (hb hby d9_3) rfl rfl kz) ?_
        show own_Go p e below _ (T4.setTop (mkF m 4 #[oR this, oR p1, oI (2 : Int32), oI c1_] [(.ref p1), (.int (2 : Int32))]))
        obtain ⟨cq28, kq28, qa28, qb28, qc28⟩ := isOf hZ e4 (own_strE U4)
        obtain ⟨_, _, ⟨T28, L28, k28, n28⟩, -, X28, ⟨Lc28, hQ28, l28, y28, z28⟩, st28⟩ := X4.interfaceBack hx (xi := (⟨"java/lang/CharSequence", "length", "()I"⟩ : MethodName)) (y := (⟨"java/lang/String", "length", "()I"⟩ : MethodName)) hown (mvT hZ (own_w hw 47)) (mvT hZ (own_w hw 48)) (mvT hZ (own_w hw 49)) (mvT hZ (own_w hw 50)) (mvT hZ (own_w hw 51)) (mvT hZ (own_w hw 52)) (mvT hZ (own_w hw 53)) (mvT hZ (own_w hw 54)) (by decide) (backOf (W := 1) (rmL6 l Z a0 hw [] p1 c0_ c1_ c2_ c3_ c4_ c5_ wcs wsf h4 n0 Zs4 U4 O4o hcs rsf B_wcs B_wsf B_wad B_whi B_wlo) hZ (own_w hw 55) (own_w hw 17) (by decide) (by decide)) qa28 qb28 qc28 (g := (mkF m 4 #[oR this, oR p1, oI (2 : Int32), oI c1_] [(.ref p1), (.int (2 : Int32))])) rfl (by rw [hml]; rfl) (Steps.refl _) (argsL := []) (rest := [(.int (2 : Int32))]) (lenOf pd_9_0 rfl) rfl (by show 2 * 0 + _ ≤ _; exact Nat.le_of_eq rfl) (hb hby d9_4) (fun _ _ => ⟨rfl, e4, (by decide : 0 + 0 ≤ _), (by decide : 0 + 0 ≤ _)⟩)
        dsimp only [Pt.U, Pt.locs, Pt.cells, Pt.slots] at X28 l28 y28 z28 st28 hQ28
        subst l28 y28 z28
        obtain ⟨rfl, Nq28, e28⟩ := hQ28
        have N29 := Fr.app N4 Nq28
        refine own_tr st28 ?_
        show own_Go p e below _ (T28.setTop (mkF m 9 #[oR this, oR p1, oI (2 : Int32), oI c1_] [(.int (6 : Int32)), (.int (2 : Int32))]))
        refine own_via (fun t kz => XS.icmpNo X28.here hx rfl (hb hby d9_9) rfl (tlt (by decide : (2 : Int32) < (6 : Int32))).2.1 kz) ?_
        refine own_via (fun t kz => XS.aloadN X28.here hx rfl (hb hby d9_12) rfl rfl kz) ?_
        show own_Go p e below _ (T28.setTop (mkF m 13 #[oR this, oR p1, oI (2 : Int32), oI c1_] [(.ref this)]))
        obtain ⟨T30, X30, e30, st30⟩ := getF X28 hx hZ hown (host := "") (Or.inl (own_w hw 61)) Via.refl e28 Fsv4 (g := (mkF m 13 #[oR this, oR p1, oI (2 : Int32), oI c1_] [(.ref this)])) rfl rfl (hb hby d9_13)
        refine own_via st30 ?_
        show own_Go p e below _ (T30.setTop (mkF m 16 #[oR this, oR p1, oI (2 : Int32), oI c1_] [(.int S4.2.1)]))
        refine own_via (fun t kz => XS.ifYes X30.here hx rfl (pc0 := 16) (pc' := 134) rfl (hb hby d9_16) rfl ((if0 _ _).trans (feq hc2_5).2) (by decide) (by decide) kz) ?_
        show own_Go p e below _ (T30.setTop (mkF m 134 #[oR this, oR p1, oI (2 : Int32), oI c1_] []))
        obtain ⟨fs, hr, hrun, hended, hW, hsame⟩ := X30.leave (v := none) (fun _ => rfl)
        refine ⟨_, _, X30.returnOut hx Bd.returns (hb hby d9_134) hr, hrun, hended, _, _, rfl, ?_, ⟨_, rfl⟩, hW, hsame.mono (by decide) (by decide)⟩
        show QAdd Z this p1 S c0_ c1_ c2_ c3_ c4_ c5_ wcs wsf h0 n0 _ T30.heap _
        rw [e30]
        exact ⟨rfl, N29, K4k, by unfold own_run; rw [← hS2, ← hS4, if_pos hc2_1, if_pos hc2_3, if_neg hc2_5]; exact ⟨Fdv4, Fsv4, Fcv4⟩⟩
    · show own_Go p e below _ (T2.setTop (mkF m 2 #[oR this, oR p1, oI (1 : Int32), oI c0_] []))
      refine own_via (fun t kz => XS.iloadN X2.here hx rfl (hb hby d9_2) rfl kz) ?_
      refine own_via (fun t kz => XS.aloadN X2.here hx rfl (hb hby d9_3) rfl rfl kz) ?_
      show own_Go p e below _ (T2.setTop (mkF m 4 #[oR this, oR p1, oI (1 : Int32), oI c0_] [(.ref p1), (.int (1 : Int32))]))
      obtain ⟨cq32, kq32, qa32, qb32, qc32⟩ := isOf hZ e2 (own_strE U2)
      obtain ⟨_, _, ⟨T32, L32, k32, n32⟩, -, X32, ⟨Lc32, hQ32, l32, y32, z32⟩, st32⟩ := X2.interfaceBack hx (xi := (⟨"java/lang/CharSequence", "length", "()I"⟩ : MethodName)) (y := (⟨"java/lang/String", "length", "()I"⟩ : MethodName)) hown (mvT hZ (own_w hw 47)) (mvT hZ (own_w hw 48)) (mvT hZ (own_w hw 49)) (mvT hZ (own_w hw 50)) (mvT hZ (own_w hw 51)) (mvT hZ (own_w hw 52)) (mvT hZ (own_w hw 53)) (mvT hZ (own_w hw 54)) (by decide) (backOf (W := 1) (rmL6 l Z a0 hw [] p1 c0_ c1_ c2_ c3_ c4_ c5_ wcs wsf h2 n0 Zs2 U2 O2o hcs rsf B_wcs B_wsf B_wad B_whi B_wlo) hZ (own_w hw 55) (own_w hw 17) (by decide) (by decide)) qa32 qb32 qc32 (g := (mkF m 4 #[oR this, oR p1, oI (1 : Int32), oI c0_] [(.ref p1), (.int (1 : Int32))])) rfl (by rw [hml]; rfl) (Steps.refl _) (argsL := []) (rest := [(.int (1 : Int32))]) (lenOf pd_9_0 rfl) rfl (by show 2 * 0 + _ ≤ _; exact Nat.le_of_eq rfl) (hb hby d9_4) (fun _ _ => ⟨rfl, e2, (by decide : 0 + 0 ≤ _), (by decide : 0 + 0 ≤ _)⟩)
      dsimp only [Pt.U, Pt.locs, Pt.cells, Pt.slots] at X32 l32 y32 z32 st32 hQ32
      subst l32 y32 z32
      obtain ⟨rfl, Nq32, e32⟩ := hQ32
      have N33 := Fr.app N2 Nq32
      refine own_tr st32 ?_
      show own_Go p e below _ (T32.setTop (mkF m 9 #[oR this, oR p1, oI (1 : Int32), oI c0_] [(.int (6 : Int32)), (.int (1 : Int32))]))
      refine own_via (fun t kz => XS.icmpNo X32.here hx rfl (hb hby d9_9) rfl (tlt (by decide : (1 : Int32) < (6 : Int32))).2.1 kz) ?_
      refine own_via (fun t kz => XS.aloadN X32.here hx rfl (hb hby d9_12) rfl rfl kz) ?_
      show own_Go p e below _ (T32.setTop (mkF m 13 #[oR this, oR p1, oI (1 : Int32), oI c0_] [(.ref this)]))
      obtain ⟨T34, X34, e34, st34⟩ := getF X32 hx hZ hown (host := "") (Or.inl (own_w hw 61)) Via.refl e32 Fsv2 (g := (mkF m 13 #[oR this, oR p1, oI (1 : Int32), oI c0_] [(.ref this)])) rfl rfl (hb hby d9_13)
      refine own_via st34 ?_
      show own_Go p e below _ (T34.setTop (mkF m 16 #[oR this, oR p1, oI (1 : Int32), oI c0_] [(.int S2.2.1)]))
      refine own_via (fun t kz => XS.ifYes X34.here hx rfl (pc0 := 16) (pc' := 134) rfl (hb hby d9_16) rfl ((if0 _ _).trans (feq hc2_3).2) (by decide) (by decide) kz) ?_
      show own_Go p e below _ (T34.setTop (mkF m 134 #[oR this, oR p1, oI (1 : Int32), oI c0_] []))
      obtain ⟨fs, hr, hrun, hended, hW, hsame⟩ := X34.leave (v := none) (fun _ => rfl)
      refine ⟨_, _, X34.returnOut hx Bd.returns (hb hby d9_134) hr, hrun, hended, _, _, rfl, ?_, ⟨_, rfl⟩, hW, hsame.mono (by decide) (by decide)⟩
      show QAdd Z this p1 S c0_ c1_ c2_ c3_ c4_ c5_ wcs wsf h0 n0 _ T34.heap _
      rw [e34]
      exact ⟨rfl, N33, K2k, by unfold own_run; rw [← hS2, if_pos hc2_1, if_neg hc2_3]; exact ⟨Fdv2, Fsv2, Fcv2⟩⟩
  · refine own_via (fun t kz => XS.iloadN X0.here hx rfl (hb hby d9_2) rfl kz) ?_
    refine own_via (fun t kz => XS.aloadN X0.here hx rfl (hb hby d9_3) rfl rfl kz) ?_
    show own_Go p e below _ (s₁.setTop (mkF m 4 #[oR this, oR p1, oI (0 : Int32), .unset] [(.ref p1), (.int (0 : Int32))]))
    obtain ⟨cq36, kq36, qa36, qb36, qc36⟩ := isOf hZ e0 (own_strE SR)
    obtain ⟨_, _, ⟨T36, L36, k36, n36⟩, -, X36, ⟨Lc36, hQ36, l36, y36, z36⟩, st36⟩ := X0.interfaceBack hx (xi := (⟨"java/lang/CharSequence", "length", "()I"⟩ : MethodName)) (y := (⟨"java/lang/String", "length", "()I"⟩ : MethodName)) hown (mvT hZ (own_w hw 47)) (mvT hZ (own_w hw 48)) (mvT hZ (own_w hw 49)) (mvT hZ (own_w hw 50)) (mvT hZ (own_w hw 51)) (mvT hZ (own_w hw 52)) (mvT hZ (own_w hw 53)) (mvT hZ (own_w hw 54)) (by decide) (backOf (W := 1) (rmL6 l Z a0 hw [] p1 c0_ c1_ c2_ c3_ c4_ c5_ wcs wsf h0 n0 Z0 SR OLD hcs rsf B_wcs B_wsf B_wad B_whi B_wlo) hZ (own_w hw 55) (own_w hw 17) (by decide) (by decide)) qa36 qb36 qc36 (g := (mkF m 4 #[oR this, oR p1, oI (0 : Int32), .unset] [(.ref p1), (.int (0 : Int32))])) rfl (by rw [hml]; rfl) (Steps.refl _) (argsL := []) (rest := [(.int (0 : Int32))]) (lenOf pd_9_0 rfl) rfl (by show 2 * 0 + _ ≤ _; exact Nat.le_of_eq rfl) (hb hby d9_4) (fun _ _ => ⟨rfl, e0, (by decide : 0 + 0 ≤ _), (by decide : 0 + 0 ≤ _)⟩)
    dsimp only [Pt.U, Pt.locs, Pt.cells, Pt.slots] at X36 l36 y36 z36 st36 hQ36
    subst l36 y36 z36
    obtain ⟨rfl, Nq36, e36⟩ := hQ36
    have N37 := Fr.app N0 Nq36
    refine own_tr st36 ?_
    show own_Go p e below _ (T36.setTop (mkF m 9 #[oR this, oR p1, oI (0 : Int32), .unset] [(.int (6 : Int32)), (.int (0 : Int32))]))
    refine own_via (fun t kz => XS.icmpNo X36.here hx rfl (hb hby d9_9) rfl (tlt (by decide : (0 : Int32) < (6 : Int32))).2.1 kz) ?_
    refine own_via (fun t kz => XS.aloadN X36.here hx rfl (hb hby d9_12) rfl rfl kz) ?_
    show own_Go p e below _ (T36.setTop (mkF m 13 #[oR this, oR p1, oI (0 : Int32), .unset] [(.ref this)]))
    obtain ⟨T38, X38, e38, st38⟩ := getF X36 hx hZ hown (host := "") (Or.inl (own_w hw 61)) Via.refl e36 F_stray (g := (mkF m 13 #[oR this, oR p1, oI (0 : Int32), .unset] [(.ref this)])) rfl rfl (hb hby d9_13)
    refine own_via st38 ?_
    show own_Go p e below _ (T38.setTop (mkF m 16 #[oR this, oR p1, oI (0 : Int32), .unset] [(.int S.2.1)]))
    refine own_via (fun t kz => XS.ifYes X38.here hx rfl (pc0 := 16) (pc' := 134) rfl (hb hby d9_16) rfl ((if0 _ _).trans (feq hc2_1).2) (by decide) (by decide) kz) ?_
    show own_Go p e below _ (T38.setTop (mkF m 134 #[oR this, oR p1, oI (0 : Int32), .unset] []))
    obtain ⟨fs, hr, hrun, hended, hW, hsame⟩ := X38.leave (v := none) (fun _ => rfl)
    refine ⟨_, _, X38.returnOut hx Bd.returns (hb hby d9_134) hr, hrun, hended, _, _, rfl, ?_, ⟨_, rfl⟩, hW, hsame.mono (by decide) (by decide)⟩
    show QAdd Z this p1 S c0_ c1_ c2_ c3_ c4_ c5_ wcs wsf h0 n0 _ T38.heap _
    rw [e38]
    exact ⟨rfl, N37, (Keep.refl h0 [this]), by unfold own_run; rw [if_neg hc2_1]; exact ⟨F_depth, F_stray, F_closing⟩⟩
def own_B0 : own_B := (0, 0, 0)
theorem own_runch {S : own_B} {c0 c1 c2 c3 c4 c5 : Int32} (h : own_ch S.2.2) (h0 : own_ch c0) (h1 : own_ch c1) (h2 : own_ch c2) (h3 : own_ch c3) (h4 : own_ch c4) (h5 : own_ch c5) : own_ch (own_run S c0 c1 c2 c3 c4 c5).2.2 := by
  have a0 := own_stepch h h0
  have a1 := own_stepch a0 h1
  have a2 := own_stepch a1 h2
  have a3 := own_stepch a2 h3
  have a4 := own_stepch a3 h4
  have a5 := own_stepch a4 h5
  exact own_ifch (own_ifch (own_ifch (own_ifch (own_ifch (own_ifch a5 a4) a3) a2) a1) a0) h
theorem own_and3 (x : Int32) : x &&& 3 = 0 ∨ x &&& 3 = 1 ∨ x &&& 3 = 2 ∨ x &&& 3 = 3 := by
  have h := c_mask x 3 2 (by decide) (by decide)
  simp only [← Int32.toInt_inj, Int32.reduceToInt]
  omega
theorem own_mod3 (x : Int32) : (x &&& (3 : Int32)) % (3 : Int32) = 0 ∨ (x &&& (3 : Int32)) % (3 : Int32) = 1 ∨ (x &&& (3 : Int32)) % (3 : Int32) = 2 := by
  rcases own_and3 x with h | h | h | h <;> rw [h] <;> decide
theorem own_chc (x : Int32) : own_ch x.toUInt32.toUInt16.toUInt32.toInt32 := by
  have e := c_i2c x
  constructor
  · rw [Int32.lt_iff_toInt_lt]; simp only [Int32.reduceToInt]; omega
  · rw [Int32.lt_iff_toInt_lt]; simp only [Int32.reduceToInt]; omega
theorem own_x (x q : Int32) (h : q = 34 ∨ q = 124) : ¬ (if x = q then (97 : Int32) else x) = q := by
  split
  · rcases h with rfl | rfl <;> decide
  · assumption
theorem own_neu (p : Int32) : own_ch (f1 p) ∧ ¬ f1 p = 40 ∧ ¬ f1 p = 41 ∧ ¬ f1 p = 34 ∧ ¬ f1 p = 124 := by
  unfold f1
  have hc := own_chc (p &&& (65535 : Int32))
  generalize (p &&& (65535 : Int32)).toUInt32.toUInt16.toUInt32.toInt32 = z at *
  repeat' split
  all_goals first
    | exact ⟨⟨by decide, by decide⟩, by decide, by decide, by decide, by decide⟩
    | exact ⟨hc, by assumption, by assumption, by assumption, by assumption⟩
theorem own_vals (p0 p1 p2 : Int32) : (((p0 &&& (3 : Int32)) % (3 : Int32)) = 0 ∨ ((p0 &&& (3 : Int32)) % (3 : Int32)) = 1 ∨ ((p0 &&& (3 : Int32)) % (3 : Int32)) = 2) ∧ ((((p0.toUInt32 >>> ((2 : Int32) &&& 31).toUInt32).toInt32) &&& (3 : Int32)) = 0 ∨ (((p0.toUInt32 >>> ((2 : Int32) &&& 31).toUInt32).toInt32) &&& (3 : Int32)) = 1 ∨ (((p0.toUInt32 >>> ((2 : Int32) &&& 31).toUInt32).toInt32) &&& (3 : Int32)) = 2 ∨ (((p0.toUInt32 >>> ((2 : Int32) &&& 31).toUInt32).toInt32) &&& (3 : Int32)) = 3) ∧ ((((p0.toUInt32 >>> ((4 : Int32) &&& 31).toUInt32).toInt32) &&& (1 : Int32)) = 0 ∨ (((p0.toUInt32 >>> ((4 : Int32) &&& 31).toUInt32).toInt32) &&& (1 : Int32)) = 1) ∧ ((((p0.toUInt32 >>> ((5 : Int32) &&& 31).toUInt32).toInt32) &&& (3 : Int32)) = 0 ∨ (((p0.toUInt32 >>> ((5 : Int32) &&& 31).toUInt32).toInt32) &&& (3 : Int32)) = 1 ∨ (((p0.toUInt32 >>> ((5 : Int32) &&& 31).toUInt32).toInt32) &&& (3 : Int32)) = 2 ∨ (((p0.toUInt32 >>> ((5 : Int32) &&& 31).toUInt32).toInt32) &&& (3 : Int32)) = 3) ∧ (((((p0.toUInt32 >>> ((7 : Int32) &&& 31).toUInt32).toInt32) &&& (3 : Int32)) % (3 : Int32)) = 0 ∨ ((((p0.toUInt32 >>> ((7 : Int32) &&& 31).toUInt32).toInt32) &&& (3 : Int32)) % (3 : Int32)) = 1 ∨ ((((p0.toUInt32 >>> ((7 : Int32) &&& 31).toUInt32).toInt32) &&& (3 : Int32)) % (3 : Int32)) = 2) ∧ ((if (((p0.toUInt32 >>> ((9 : Int32) &&& 31).toUInt32).toInt32) &&& (1 : Int32)) = (0 : Int32) then (34 : Int32) else (124 : Int32)) = 34 ∨ (if (((p0.toUInt32 >>> ((9 : Int32) &&& 31).toUInt32).toInt32) &&& (1 : Int32)) = (0 : Int32) then (34 : Int32) else (124 : Int32)) = 124) ∧ (own_ch (f1 p1) ∧ ¬ (f1 p1) = 40 ∧ ¬ (f1 p1) = 41 ∧ ¬ (f1 p1) = 34 ∧ ¬ (f1 p1) = 124) ∧ (own_ch (if ((p2 &&& (65535 : Int32)).toUInt32.toUInt16.toUInt32.toInt32) = (if (((p0.toUInt32 >>> ((9 : Int32) &&& 31).toUInt32).toInt32) &&& (1 : Int32)) = (0 : Int32) then (34 : Int32) else (124 : Int32)) then (97 : Int32) else ((p2 &&& (65535 : Int32)).toUInt32.toUInt16.toUInt32.toInt32)) ∧ ¬ (if ((p2 &&& (65535 : Int32)).toUInt32.toUInt16.toUInt32.toInt32) = (if (((p0.toUInt32 >>> ((9 : Int32) &&& 31).toUInt32).toInt32) &&& (1 : Int32)) = (0 : Int32) then (34 : Int32) else (124 : Int32)) then (97 : Int32) else ((p2 &&& (65535 : Int32)).toUInt32.toUInt16.toUInt32.toInt32)) = (if (((p0.toUInt32 >>> ((9 : Int32) &&& 31).toUInt32).toInt32) &&& (1 : Int32)) = (0 : Int32) then (34 : Int32) else (124 : Int32))) := by
  have hq : (if (((p0.toUInt32 >>> ((9 : Int32) &&& 31).toUInt32).toInt32) &&& (1 : Int32)) = (0 : Int32) then (34 : Int32) else (124 : Int32)) = 34 ∨ (if (((p0.toUInt32 >>> ((9 : Int32) &&& 31).toUInt32).toInt32) &&& (1 : Int32)) = (0 : Int32) then (34 : Int32) else (124 : Int32)) = 124 := by
    split
    · exact Or.inl rfl
    · exact Or.inr rfl
  exact ⟨own_mod3 _, own_and3 _, and_one _, own_and3 _, own_mod3 _, hq, own_neu p1, own_chi ⟨by decide, by decide⟩ (own_chc _), own_x _ _ hq⟩
theorem own_first (vn vm vr vf : Int32) (hn : vn = 0 ∨ vn = 1 ∨ vn = 2) (hm : vm = 0 ∨ vm = 1 ∨ vm = 2 ∨ vm = 3) (hr : vr = 0 ∨ vr = 1) (hf : own_ch vf ∧ ¬ vf = 40 ∧ ¬ vf = 41 ∧ ¬ vf = 34 ∧ ¬ vf = 124) :
    own_run own_B0 (if vn < (1 : Int32) then vf else (40 : Int32)) (if vn < (2 : Int32) then vf else (40 : Int32)) (if vm < (1 : Int32) then vf else (41 : Int32)) (if vm < (2 : Int32) then vf else (41 : Int32)) (if vm < (3 : Int32) then vf else (41 : Int32)) (if vr = (1 : Int32) then (40 : Int32) else vf) = if vn < vm then ((-1 : Int32), (1 : Int32), (0 : Int32)) else ((vn - vm) + vr, 0, 0) := by
  obtain ⟨-, f1, f2, f3, f4⟩ := hf
  rcases hn with rfl | rfl | rfl <;> rcases hm with rfl | rfl | rfl | rfl <;> rcases hr with rfl | rfl <;> simp [own_run, own_step, own_stepf, own_B0, f1, f2, f3, f4]

theorem own_second (d vo vs vq vf vx : Int32) (hd : d = 0 ∨ d = 1 ∨ d = 2 ∨ d = 3) (ho : vo = 0 ∨ vo = 1 ∨ vo = 2 ∨ vo = 3) (hs : vs = 0 ∨ vs = 1 ∨ vs = 2) (hq : vq = 34 ∨ vq = 124) (hf : own_ch vf ∧ ¬ vf = 40 ∧ ¬ vf = 41 ∧ ¬ vf = 34 ∧ ¬ vf = 124) (hx : own_ch vx ∧ ¬ vx = vq) :
    own_run (d, 0, 0) (if vo = (0 : Int32) then vf else vq) (if vo = (0 : Int32) then vf else vx) (if vo = (1 : Int32) then vq else (if vo = (3 : Int32) then vq else vf)) (if vo = (3 : Int32) then vq else vf) (if vs < (1 : Int32) then vf else (41 : Int32)) (if vs < (2 : Int32) then vf else (41 : Int32)) = if vo < 2 then (if d < vs then ((-1 : Int32), (1 : Int32), (0 : Int32)) else (d - vs, 0, 0)) else (d, 0, vq) := by
  obtain ⟨-, f1, f2, f3, f4⟩ := hf
  obtain ⟨-, x1⟩ := hx
  rcases hq with rfl | rfl <;> rcases hd with rfl | rfl | rfl | rfl <;> rcases ho with rfl | rfl | rfl | rfl <;> rcases hs with rfl | rfl | rfl <;> simp [own_run, own_step, own_stepf, f1, f2, f3, f4, x1]
theorem own_sec1 (S : own_B) (h : S.2.1 = 1) (a b c d e f : Int32) : own_run S a b c d e f = S := by
  unfold own_run; rw [if_neg (by rw [h]; decide)]
theorem own_fin1 (vn vm vr vf : Int32) (R149 : own_B) (hn : vn = 0 ∨ vn = 1 ∨ vn = 2) (hm : vm = 0 ∨ vm = 1 ∨ vm = 2 ∨ vm = 3) (hr : vr = 0 ∨ vr = 1) (hf : own_ch vf ∧ ¬ vf = 40 ∧ ¬ vf = 41 ∧ ¬ vf = 34 ∧ ¬ vf = 124) (hR : R149 = own_run own_B0 (if vn < (1 : Int32) then vf else (40 : Int32)) (if vn < (2 : Int32) then vf else (40 : Int32)) (if vm < (1 : Int32) then vf else (41 : Int32)) (if vm < (2 : Int32) then vf else (41 : Int32)) (if vm < (3 : Int32) then vf else (41 : Int32)) (if vr = (1 : Int32) then (40 : Int32) else vf)) : (f17 R149.1 R149.2.1 R149.2.2) = (if (if vn < vm then (1 : Int32) else (0 : Int32)) = (0 : Int32) then (if (0 : Int32) < ((vn - vm) + vr) then (1 : Int32) else (0 : Int32)) else (0 : Int32)) := by
  rw [own_first vn vm vr vf hn hm hr hf] at hR
  subst hR
  rcases hn with rfl | rfl | rfl <;> rcases hm with rfl | rfl | rfl | rfl <;> rcases hr with rfl | rfl <;> decide
theorem own_fin2 (vn vm vr vo vs vq vf vx : Int32) (R149 R188 : own_B) (hn : vn = 0 ∨ vn = 1 ∨ vn = 2) (hm : vm = 0 ∨ vm = 1 ∨ vm = 2 ∨ vm = 3) (hr : vr = 0 ∨ vr = 1) (ho : vo = 0 ∨ vo = 1 ∨ vo = 2 ∨ vo = 3) (hs : vs = 0 ∨ vs = 1 ∨ vs = 2) (hq : vq = 34 ∨ vq = 124) (hf : own_ch vf ∧ ¬ vf = 40 ∧ ¬ vf = 41 ∧ ¬ vf = 34 ∧ ¬ vf = 124) (hx : own_ch vx ∧ ¬ vx = vq) (hR : R149 = own_run own_B0 (if vn < (1 : Int32) then vf else (40 : Int32)) (if vn < (2 : Int32) then vf else (40 : Int32)) (if vm < (1 : Int32) then vf else (41 : Int32)) (if vm < (2 : Int32) then vf else (41 : Int32)) (if vm < (3 : Int32) then vf else (41 : Int32)) (if vr = (1 : Int32) then (40 : Int32) else vf)) (hR2 : R188 = own_run R149 (if vo = (0 : Int32) then vf else vq) (if vo = (0 : Int32) then vf else vx) (if vo = (1 : Int32) then vq else (if vo = (3 : Int32) then vq else vf)) (if vo = (3 : Int32) then vq else vf) (if vs < (1 : Int32) then vf else (41 : Int32)) (if vs < (2 : Int32) then vf else (41 : Int32))) : (f17 R188.1 R188.2.1 R188.2.2) = (if (if vn < vm then (1 : Int32) else (0 : Int32)) = (0 : Int32) then (if vo < (2 : Int32) then (if ((vn - vm) + vr) < vs then (0 : Int32) else (if (0 : Int32) < (((vn - vm) + vr) - vs) then (1 : Int32) else (0 : Int32))) else (1 : Int32)) else (0 : Int32)) := by
  rw [own_first vn vm vr vf hn hm hr hf] at hR
  by_cases hst : vn < vm
  · rw [if_pos hst] at hR
    rw [own_sec1 R149 (by rw [hR])] at hR2
    subst hR2 hR
    rw [if_pos hst, if_neg (by decide : ¬ (1 : Int32) = 0)]; decide
  · rw [if_neg hst] at hR
    have hd : (vn - vm) + vr = 0 ∨ (vn - vm) + vr = 1 ∨ (vn - vm) + vr = 2 ∨ (vn - vm) + vr = 3 := by
      revert hst
      rcases hn with rfl | rfl | rfl <;> rcases hm with rfl | rfl | rfl | rfl <;> rcases hr with rfl | rfl <;> decide
    rw [if_neg hst]
    generalize (vn - vm) + vr = d at *
    subst hR
    rw [own_second d vo vs vq vf vx hd ho hs hq hf hx] at hR2
    subst hR2
    rcases hq with rfl | rfl <;> rcases hd with rfl | rfl | rfl | rfl <;> rcases ho with rfl | rfl | rfl | rfl <;> rcases hs with rfl | rfl | rfl <;> decide
theorem pd_0_0 : parseMethodDescriptor "(I)C" = some ⟨[.int], some .char⟩ := by decide +kernel
theorem pd_0_1 : parseMethodDescriptor "()V" = some ⟨[], none⟩ := by decide +kernel
theorem pd_0_2 : parseMethodDescriptor "([C)V" = some ⟨[(.array .char)], none⟩ := by decide +kernel
theorem pd_0_3 : parseMethodDescriptor "(Ljava/lang/CharSequence;)V" = some ⟨[(.object "java/lang/CharSequence")], none⟩ := by decide +kernel
theorem pd_0_4 : parseMethodDescriptor "()Z" = some ⟨[], some .boolean⟩ := by decide +kernel
theorem ef_rm0 (m : MethodId) (q0 : Int32) (q1 : Int32) (q2 : Int32) : entryFrame m #[(.int q0), (.int q1), (.int q2)] maxLocals = mkF m 0 #[oI q0, oI q1, oI q2, .unset, .unset, .unset, .unset, .unset, .unset, .unset, .unset, .unset, .unset, .unset, .unset, .unset, .unset, .unset, .unset, .unset] [] := by first | (simp [entryFrame, mkF, argsToLocals, Value.category, maxLocals]; done) | rfl
def Q0 (Z : State) (p0 : Int32) (p1 : Int32) (p2 : Int32) (wcs : Int32) (wsf : Value) (h0 : Heap) (n0 : Nat) (v : Option Value) (h : Heap) (L : List Loc) : Prop := v = some (.int (1 : Int32)) ∧ Fr n0 L
set_option maxRecDepth 65536 in
set_option maxHeartbeats 40000000 in
theorem rm0 (l : Launch) (Z : State) (a0 : Array Value) (hw : ∀ d ∈ tables_1, d.before a0 Z = true) (ws : List Jvm.Cond) (p0 : Int32) (p1 : Int32) (p2 : Int32) (wcs : Int32) (wsf : Value) (h0 : Heap) (n0 : Nat) (Z0 : n0 ≤ h0.size) (OLD : Old Z n0 h0) (hcs : ¬ (wcs = (0 : Int32))) (rsf : wsf.isRef = true) (B_wcs : Sta Z Z.heap "java/lang/String" "COMPACT_STRINGS" "Z" (.int wcs)) (B_wsf : Sta Z Z.heap "jdk/internal/util/Preconditions" "SIOOBE_FORMATTER" "Ljava/util/function/BiFunction;" wsf) (B_wad : Sta Z Z.heap "java/lang/StringUTF16" "$assertionsDisabled" "Z" (.int (1 : Int32))) (B_whi : Sta Z Z.heap "java/lang/StringUTF16" "HI_BYTE_SHIFT" "I" (.int (0 : Int32))) (B_wlo : Sta Z Z.heap "java/lang/StringUTF16" "LO_BYTE_SHIFT" "I" (.int (8 : Int32))) :
    MetFree l x (head1 (Jvm.Cond.code x code maxLocals ret :: ws) room_1) (fun a U => a = #[(.int p0), (.int p1), (.int p2)] ∧ Z.Warmed39 U.vm ∧ U.heap = h0) (fun _ _ _ _ _ => True) (fun _ U o U' => ∃ v L, o = .returned v ∧ Q0 Z p0 p1 p2 wcs wsf h0 n0 v U'.heap L ∧ FrameEnd U o U' L room_1.cells room_1.slots) := by
  refine MetFree.of_bodySF (plainFor_of_name pn_1) hisR ?_
  intro p e s m args below meth c s₁ Bd hml0 hP hK
  obtain ⟨rfl, hZ, hh⟩ := hP
  have hx := Bd.exec
  have hby := Bd.bytes
  have hml : c.maxLocals = 20 := hml0
  have hown : s.vm.findClass "com/example/quiescence/quiescence/model/BalanceOpenPinLaw" = some m.cls := findClass_of_methodNamed Bd.named
  have hnm := (name_of_methodNamed Bd.named Bd.method).1
  have X0 : Stand p l e room_1 s m #[(.int p0), (.int p1), (.int p2)] below meth c s₁ [] 0 0 := Stand.of_body Bd
  have e0 : s₁.heap = h0 := by rw [← hh, Bd.state]; rfl
  have N0 := Fr.nil n0
  refine own_start ?_
  refine own_via (fun t k => castTop (ef_rm0 m p0 p1 p2) k) ?_
  show own_Go p e below _ (s₁.setTop (mkF m 0 #[oI p0, oI p1, oI p2, .unset, .unset, .unset, .unset, .unset, .unset, .unset, .unset, .unset, .unset, .unset, .unset, .unset, .unset, .unset, .unset, .unset] []))
  refine own_via (fun t kz => XS.iloadN X0.here hx rfl (hb hby at_0) rfl kz) ?_
  refine own_via (fun t kz => XS.iconst X0.here hx rfl (hb hby at_1) kz) ?_
  refine own_via (fun t kz => XS.iand X0.here hx rfl (hb hby at_2) rfl kz) ?_
  refine own_via (fun t kz => XS.iconst X0.here hx rfl (hb hby at_3) kz) ?_
  show own_Go p e below _ (s₁.setTop (mkF m 4 #[oI p0, oI p1, oI p2, .unset, .unset, .unset, .unset, .unset, .unset, .unset, .unset, .unset, .unset, .unset, .unset, .unset, .unset, .unset, .unset, .unset] [(.int (3 : Int32)), (.int (p0 &&& (3 : Int32)))]))
  refine own_via (fun t kz => iremM X0 hx rfl (hb hby at_4) rfl (by decide) kz) ?_
  refine own_via (fun t kz => XS.istoreN X0.here hx rfl (hb hby at_5) rfl (l' := #[oI p0, oI p1, oI p2, oI ((p0 &&& (3 : Int32)) % (3 : Int32)), .unset, .unset, .unset, .unset, .unset, .unset, .unset, .unset, .unset, .unset, .unset, .unset, .unset, .unset, .unset, .unset]) rfl kz) ?_
  refine own_via (fun t kz => XS.iloadN X0.here hx rfl (hb hby at_6) rfl kz) ?_
  refine own_via (fun t kz => XS.iconst X0.here hx rfl (hb hby at_7) kz) ?_
  show own_Go p e below _ (s₁.setTop (mkF m 8 #[oI p0, oI p1, oI p2, oI ((p0 &&& (3 : Int32)) % (3 : Int32)), .unset, .unset, .unset, .unset, .unset, .unset, .unset, .unset, .unset, .unset, .unset, .unset, .unset, .unset, .unset, .unset] [(.int (2 : Int32)), (.int p0)]))
  refine own_via (fun t kz => XS.iushr X0.here hx rfl (hb hby at_8) rfl kz) ?_
  refine own_via (fun t kz => XS.iconst X0.here hx rfl (hb hby at_9) kz) ?_
  refine own_via (fun t kz => XS.iand X0.here hx rfl (hb hby at_10) rfl kz) ?_
  refine own_via (fun t kz => XS.istore X0.here hx rfl (hb hby at_11) rfl (l' := #[oI p0, oI p1, oI p2, oI ((p0 &&& (3 : Int32)) % (3 : Int32)), oI (((p0.toUInt32 >>> ((2 : Int32) &&& 31).toUInt32).toInt32) &&& (3 : Int32)), .unset, .unset, .unset, .unset, .unset, .unset, .unset, .unset, .unset, .unset, .unset, .unset, .unset, .unset, .unset]) rfl kz) ?_
  refine own_via (fun t kz => XS.iloadN X0.here hx rfl (hb hby at_13) rfl kz) ?_
  refine own_via (fun t kz => XS.iconst X0.here hx rfl (hb hby at_14) kz) ?_
  show own_Go p e below _ (s₁.setTop (mkF m 15 #[oI p0, oI p1, oI p2, oI ((p0 &&& (3 : Int32)) % (3 : Int32)), oI (((p0.toUInt32 >>> ((2 : Int32) &&& 31).toUInt32).toInt32) &&& (3 : Int32)), .unset, .unset, .unset, .unset, .unset, .unset, .unset, .unset, .unset, .unset, .unset, .unset, .unset, .unset, .unset] [(.int (4 : Int32)), (.int p0)]))
  refine own_via (fun t kz => XS.iushr X0.here hx rfl (hb hby at_15) rfl kz) ?_
  refine own_via (fun t kz => XS.iconst X0.here hx rfl (hb hby at_16) kz) ?_
  refine own_via (fun t kz => XS.iand X0.here hx rfl (hb hby at_17) rfl kz) ?_
  refine own_via (fun t kz => XS.istore X0.here hx rfl (hb hby at_18) rfl (l' := #[oI p0, oI p1, oI p2, oI ((p0 &&& (3 : Int32)) % (3 : Int32)), oI (((p0.toUInt32 >>> ((2 : Int32) &&& 31).toUInt32).toInt32) &&& (3 : Int32)), oI (((p0.toUInt32 >>> ((4 : Int32) &&& 31).toUInt32).toInt32) &&& (1 : Int32)), .unset, .unset, .unset, .unset, .unset, .unset, .unset, .unset, .unset, .unset, .unset, .unset, .unset, .unset]) rfl kz) ?_
  refine own_via (fun t kz => XS.iloadN X0.here hx rfl (hb hby at_20) rfl kz) ?_
  refine own_via (fun t kz => XS.iconst X0.here hx rfl (hb hby at_21) kz) ?_
  show own_Go p e below _ (s₁.setTop (mkF m 22 #[oI p0, oI p1, oI p2, oI ((p0 &&& (3 : Int32)) % (3 : Int32)), oI (((p0.toUInt32 >>> ((2 : Int32) &&& 31).toUInt32).toInt32) &&& (3 : Int32)), oI (((p0.toUInt32 >>> ((4 : Int32) &&& 31).toUInt32).toInt32) &&& (1 : Int32)), .unset, .unset, .unset, .unset, .unset, .unset, .unset, .unset, .unset, .unset, .unset, .unset, .unset, .unset] [(.int (5 : Int32)), (.int p0)]))
  refine own_via (fun t kz => XS.iushr X0.here hx rfl (hb hby at_22) rfl kz) ?_
  refine own_via (fun t kz => XS.iconst X0.here hx rfl (hb hby at_23) kz) ?_
  refine own_via (fun t kz => XS.iand X0.here hx rfl (hb hby at_24) rfl kz) ?_
  refine own_via (fun t kz => XS.istore X0.here hx rfl (hb hby at_25) rfl (l' := #[oI p0, oI p1, oI p2, oI ((p0 &&& (3 : Int32)) % (3 : Int32)), oI (((p0.toUInt32 >>> ((2 : Int32) &&& 31).toUInt32).toInt32) &&& (3 : Int32)), oI (((p0.toUInt32 >>> ((4 : Int32) &&& 31).toUInt32).toInt32) &&& (1 : Int32)), oI (((p0.toUInt32 >>> ((5 : Int32) &&& 31).toUInt32).toInt32) &&& (3 : Int32)), .unset, .unset, .unset, .unset, .unset, .unset, .unset, .unset, .unset, .unset, .unset, .unset, .unset]) rfl kz) ?_
  refine own_via (fun t kz => XS.iloadN X0.here hx rfl (hb hby at_27) rfl kz) ?_
  refine own_via (fun t kz => XS.bipush X0.here hx rfl (hb hby at_28) kz) ?_
  show own_Go p e below _ (s₁.setTop (mkF m 30 #[oI p0, oI p1, oI p2, oI ((p0 &&& (3 : Int32)) % (3 : Int32)), oI (((p0.toUInt32 >>> ((2 : Int32) &&& 31).toUInt32).toInt32) &&& (3 : Int32)), oI (((p0.toUInt32 >>> ((4 : Int32) &&& 31).toUInt32).toInt32) &&& (1 : Int32)), oI (((p0.toUInt32 >>> ((5 : Int32) &&& 31).toUInt32).toInt32) &&& (3 : Int32)), .unset, .unset, .unset, .unset, .unset, .unset, .unset, .unset, .unset, .unset, .unset, .unset, .unset] [(.int (7 : Int32)), (.int p0)]))
  refine own_via (fun t kz => XS.iushr X0.here hx rfl (hb hby at_30) rfl kz) ?_
  refine own_via (fun t kz => XS.iconst X0.here hx rfl (hb hby at_31) kz) ?_
  refine own_via (fun t kz => XS.iand X0.here hx rfl (hb hby at_32) rfl kz) ?_
  refine own_via (fun t kz => XS.iconst X0.here hx rfl (hb hby at_33) kz) ?_
  show own_Go p e below _ (s₁.setTop (mkF m 34 #[oI p0, oI p1, oI p2, oI ((p0 &&& (3 : Int32)) % (3 : Int32)), oI (((p0.toUInt32 >>> ((2 : Int32) &&& 31).toUInt32).toInt32) &&& (3 : Int32)), oI (((p0.toUInt32 >>> ((4 : Int32) &&& 31).toUInt32).toInt32) &&& (1 : Int32)), oI (((p0.toUInt32 >>> ((5 : Int32) &&& 31).toUInt32).toInt32) &&& (3 : Int32)), .unset, .unset, .unset, .unset, .unset, .unset, .unset, .unset, .unset, .unset, .unset, .unset, .unset] [(.int (3 : Int32)), (.int (((p0.toUInt32 >>> ((7 : Int32) &&& 31).toUInt32).toInt32) &&& (3 : Int32)))]))
  refine own_via (fun t kz => iremM X0 hx rfl (hb hby at_34) rfl (by decide) kz) ?_
  refine own_via (fun t kz => XS.istore X0.here hx rfl (hb hby at_35) rfl (l' := #[oI p0, oI p1, oI p2, oI ((p0 &&& (3 : Int32)) % (3 : Int32)), oI (((p0.toUInt32 >>> ((2 : Int32) &&& 31).toUInt32).toInt32) &&& (3 : Int32)), oI (((p0.toUInt32 >>> ((4 : Int32) &&& 31).toUInt32).toInt32) &&& (1 : Int32)), oI (((p0.toUInt32 >>> ((5 : Int32) &&& 31).toUInt32).toInt32) &&& (3 : Int32)), oI ((((p0.toUInt32 >>> ((7 : Int32) &&& 31).toUInt32).toInt32) &&& (3 : Int32)) % (3 : Int32)), .unset, .unset, .unset, .unset, .unset, .unset, .unset, .unset, .unset, .unset, .unset, .unset]) rfl kz) ?_
  refine own_via (fun t kz => XS.iloadN X0.here hx rfl (hb hby at_37) rfl kz) ?_
  refine own_via (fun t kz => XS.bipush X0.here hx rfl (hb hby at_38) kz) ?_
  show own_Go p e below _ (s₁.setTop (mkF m 40 #[oI p0, oI p1, oI p2, oI ((p0 &&& (3 : Int32)) % (3 : Int32)), oI (((p0.toUInt32 >>> ((2 : Int32) &&& 31).toUInt32).toInt32) &&& (3 : Int32)), oI (((p0.toUInt32 >>> ((4 : Int32) &&& 31).toUInt32).toInt32) &&& (1 : Int32)), oI (((p0.toUInt32 >>> ((5 : Int32) &&& 31).toUInt32).toInt32) &&& (3 : Int32)), oI ((((p0.toUInt32 >>> ((7 : Int32) &&& 31).toUInt32).toInt32) &&& (3 : Int32)) % (3 : Int32)), .unset, .unset, .unset, .unset, .unset, .unset, .unset, .unset, .unset, .unset, .unset, .unset] [(.int (9 : Int32)), (.int p0)]))
  refine own_via (fun t kz => XS.iushr X0.here hx rfl (hb hby at_40) rfl kz) ?_
  refine own_via (fun t kz => XS.iconst X0.here hx rfl (hb hby at_41) kz) ?_
  refine own_via (fun t kz => XS.iand X0.here hx rfl (hb hby at_42) rfl kz) ?_
  show own_Go p e below _ (s₁.setTop (mkF m 43 #[oI p0, oI p1, oI p2, oI ((p0 &&& (3 : Int32)) % (3 : Int32)), oI (((p0.toUInt32 >>> ((2 : Int32) &&& 31).toUInt32).toInt32) &&& (3 : Int32)), oI (((p0.toUInt32 >>> ((4 : Int32) &&& 31).toUInt32).toInt32) &&& (1 : Int32)), oI (((p0.toUInt32 >>> ((5 : Int32) &&& 31).toUInt32).toInt32) &&& (3 : Int32)), oI ((((p0.toUInt32 >>> ((7 : Int32) &&& 31).toUInt32).toInt32) &&& (3 : Int32)) % (3 : Int32)), .unset, .unset, .unset, .unset, .unset, .unset, .unset, .unset, .unset, .unset, .unset, .unset] [(.int (((p0.toUInt32 >>> ((9 : Int32) &&& 31).toUInt32).toInt32) &&& (1 : Int32)))]))
  have jn2 : ∀ t, Steps p.tables e below (s₁.setTop (mkF m 53 #[oI p0, oI p1, oI p2, oI ((p0 &&& (3 : Int32)) % (3 : Int32)), oI (((p0.toUInt32 >>> ((2 : Int32) &&& 31).toUInt32).toInt32) &&& (3 : Int32)), oI (((p0.toUInt32 >>> ((4 : Int32) &&& 31).toUInt32).toInt32) &&& (1 : Int32)), oI (((p0.toUInt32 >>> ((5 : Int32) &&& 31).toUInt32).toInt32) &&& (3 : Int32)), oI ((((p0.toUInt32 >>> ((7 : Int32) &&& 31).toUInt32).toInt32) &&& (3 : Int32)) % (3 : Int32)), .unset, .unset, .unset, .unset, .unset, .unset, .unset, .unset, .unset, .unset, .unset, .unset] [(.int (if (((p0.toUInt32 >>> ((9 : Int32) &&& 31).toUInt32).toInt32) &&& (1 : Int32)) = (0 : Int32) then (34 : Int32) else (124 : Int32)))])) t → Steps p.tables e below (s₁.setTop (mkF m 43 #[oI p0, oI p1, oI p2, oI ((p0 &&& (3 : Int32)) % (3 : Int32)), oI (((p0.toUInt32 >>> ((2 : Int32) &&& 31).toUInt32).toInt32) &&& (3 : Int32)), oI (((p0.toUInt32 >>> ((4 : Int32) &&& 31).toUInt32).toInt32) &&& (1 : Int32)), oI (((p0.toUInt32 >>> ((5 : Int32) &&& 31).toUInt32).toInt32) &&& (3 : Int32)), oI ((((p0.toUInt32 >>> ((7 : Int32) &&& 31).toUInt32).toInt32) &&& (3 : Int32)) % (3 : Int32)), .unset, .unset, .unset, .unset, .unset, .unset, .unset, .unset, .unset, .unset, .unset, .unset] [(.int (((p0.toUInt32 >>> ((9 : Int32) &&& 31).toUInt32).toInt32) &&& (1 : Int32)))])) t := by
    intro t k
    show Steps p.tables e below (s₁.setTop (mkF m 43 #[oI p0, oI p1, oI p2, oI ((p0 &&& (3 : Int32)) % (3 : Int32)), oI (((p0.toUInt32 >>> ((2 : Int32) &&& 31).toUInt32).toInt32) &&& (3 : Int32)), oI (((p0.toUInt32 >>> ((4 : Int32) &&& 31).toUInt32).toInt32) &&& (1 : Int32)), oI (((p0.toUInt32 >>> ((5 : Int32) &&& 31).toUInt32).toInt32) &&& (3 : Int32)), oI ((((p0.toUInt32 >>> ((7 : Int32) &&& 31).toUInt32).toInt32) &&& (3 : Int32)) % (3 : Int32)), .unset, .unset, .unset, .unset, .unset, .unset, .unset, .unset, .unset, .unset, .unset, .unset] [(.int (((p0.toUInt32 >>> ((9 : Int32) &&& 31).toUInt32).toInt32) &&& (1 : Int32)))])) t
    by_cases hc43_1 : (((p0.toUInt32 >>> ((9 : Int32) &&& 31).toUInt32).toInt32) &&& (1 : Int32)) = (0 : Int32)
    · refine XS.ifNo X0.here hx rfl (hb hby at_43) rfl ((if0 _ _).trans (teq hc43_1).2) ?_
      refine XS.bipush X0.here hx rfl (hb hby at_46) ?_
      refine XS.goto X0.here hx rfl (pc0 := 48) (pc' := 53) rfl (hb hby at_48) (by decide) (by decide) ?_
      first | (rw [if_pos hc43_1] at k; exact k) | (simp only [if_pos hc43_1] at k ⊢; exact k)
    · refine XS.ifYes X0.here hx rfl (pc0 := 43) (pc' := 51) rfl (hb hby at_43) rfl ((if0 _ _).trans (feq hc43_1).2) (by decide) (by decide) ?_
      refine XS.bipush X0.here hx rfl (hb hby at_51) ?_
      first | (rw [if_neg hc43_1] at k; exact k) | (simp only [if_neg hc43_1] at k ⊢; exact k)
  refine own_via jn2 ?_
  refine own_via (fun t kz => XS.istore X0.here hx rfl (hb hby at_53) rfl (l' := #[oI p0, oI p1, oI p2, oI ((p0 &&& (3 : Int32)) % (3 : Int32)), oI (((p0.toUInt32 >>> ((2 : Int32) &&& 31).toUInt32).toInt32) &&& (3 : Int32)), oI (((p0.toUInt32 >>> ((4 : Int32) &&& 31).toUInt32).toInt32) &&& (1 : Int32)), oI (((p0.toUInt32 >>> ((5 : Int32) &&& 31).toUInt32).toInt32) &&& (3 : Int32)), oI ((((p0.toUInt32 >>> ((7 : Int32) &&& 31).toUInt32).toInt32) &&& (3 : Int32)) % (3 : Int32)), oI (if (((p0.toUInt32 >>> ((9 : Int32) &&& 31).toUInt32).toInt32) &&& (1 : Int32)) = (0 : Int32) then (34 : Int32) else (124 : Int32)), .unset, .unset, .unset, .unset, .unset, .unset, .unset, .unset, .unset, .unset, .unset]) rfl kz) ?_
  refine own_via (fun t kz => XS.iloadN X0.here hx rfl (hb hby at_55) rfl kz) ?_
  show own_Go p e below _ (s₁.setTop (mkF m 56 #[oI p0, oI p1, oI p2, oI ((p0 &&& (3 : Int32)) % (3 : Int32)), oI (((p0.toUInt32 >>> ((2 : Int32) &&& 31).toUInt32).toInt32) &&& (3 : Int32)), oI (((p0.toUInt32 >>> ((4 : Int32) &&& 31).toUInt32).toInt32) &&& (1 : Int32)), oI (((p0.toUInt32 >>> ((5 : Int32) &&& 31).toUInt32).toInt32) &&& (3 : Int32)), oI ((((p0.toUInt32 >>> ((7 : Int32) &&& 31).toUInt32).toInt32) &&& (3 : Int32)) % (3 : Int32)), oI (if (((p0.toUInt32 >>> ((9 : Int32) &&& 31).toUInt32).toInt32) &&& (1 : Int32)) = (0 : Int32) then (34 : Int32) else (124 : Int32)), .unset, .unset, .unset, .unset, .unset, .unset, .unset, .unset, .unset, .unset, .unset] [(.int p1)]))
  obtain ⟨_, _, ⟨T3, L3, k3, n3⟩, -, X3, ⟨Lc3, hQ3, l3, y3, z3⟩, st3⟩ := Jvm.LawKit.callS X0 hx (y := (⟨"com/example/quiescence/quiescence/model/BalanceOpenPinLaw", "neutral", "(I)C"⟩ : MethodName)) hown (mvT hZ (own_w hw 0)) (mvT hZ (own_w hw 1)) (mvT hZ (own_w hw 2)) (mvT hZ (own_w hw 3)) (by decide) (backOf (W := 0) (rm1 l Z a0 hw [] p1 (f1 p1) h0 n0 Z0 rfl) hZ (own_w hw 3) (own_w hw 2) (by decide) (by decide)) (g := (mkF m 56 #[oI p0, oI p1, oI p2, oI ((p0 &&& (3 : Int32)) % (3 : Int32)), oI (((p0.toUInt32 >>> ((2 : Int32) &&& 31).toUInt32).toInt32) &&& (3 : Int32)), oI (((p0.toUInt32 >>> ((4 : Int32) &&& 31).toUInt32).toInt32) &&& (1 : Int32)), oI (((p0.toUInt32 >>> ((5 : Int32) &&& 31).toUInt32).toInt32) &&& (3 : Int32)), oI ((((p0.toUInt32 >>> ((7 : Int32) &&& 31).toUInt32).toInt32) &&& (3 : Int32)) % (3 : Int32)), oI (if (((p0.toUInt32 >>> ((9 : Int32) &&& 31).toUInt32).toInt32) &&& (1 : Int32)) = (0 : Int32) then (34 : Int32) else (124 : Int32)), .unset, .unset, .unset, .unset, .unset, .unset, .unset, .unset, .unset, .unset, .unset] [(.int p1)])) rfl (by rw [hml]; rfl) (argsL := [(.int p1)]) (rest := []) (lenOf pd_0_0 rfl) rfl (by show 2 * 0 + _ ≤ _; exact Nat.le_of_eq rfl) (hb hby at_56) (fun _ _ => ⟨rfl, e0, (by decide : 0 + 0 ≤ _), (by decide : 0 + 0 ≤ _)⟩)
  dsimp only [Pt.U, Pt.locs, Pt.cells, Pt.slots] at X3 l3 y3 z3 st3 hQ3
  subst l3 y3 z3
  obtain ⟨rfl, Nq3, e3⟩ := hQ3
  have N4 := Fr.app N0 Nq3
  refine own_via st3 ?_
  refine own_via (fun t kz => XS.istore X3.here hx rfl (hb hby at_59) rfl (l' := #[oI p0, oI p1, oI p2, oI ((p0 &&& (3 : Int32)) % (3 : Int32)), oI (((p0.toUInt32 >>> ((2 : Int32) &&& 31).toUInt32).toInt32) &&& (3 : Int32)), oI (((p0.toUInt32 >>> ((4 : Int32) &&& 31).toUInt32).toInt32) &&& (1 : Int32)), oI (((p0.toUInt32 >>> ((5 : Int32) &&& 31).toUInt32).toInt32) &&& (3 : Int32)), oI ((((p0.toUInt32 >>> ((7 : Int32) &&& 31).toUInt32).toInt32) &&& (3 : Int32)) % (3 : Int32)), oI (if (((p0.toUInt32 >>> ((9 : Int32) &&& 31).toUInt32).toInt32) &&& (1 : Int32)) = (0 : Int32) then (34 : Int32) else (124 : Int32)), oI (f1 p1), .unset, .unset, .unset, .unset, .unset, .unset, .unset, .unset, .unset, .unset]) rfl kz) ?_
  refine own_via (fun t kz => XS.iloadN X3.here hx rfl (hb hby at_61) rfl kz) ?_
  show own_Go p e below _ (T3.setTop (mkF m 62 #[oI p0, oI p1, oI p2, oI ((p0 &&& (3 : Int32)) % (3 : Int32)), oI (((p0.toUInt32 >>> ((2 : Int32) &&& 31).toUInt32).toInt32) &&& (3 : Int32)), oI (((p0.toUInt32 >>> ((4 : Int32) &&& 31).toUInt32).toInt32) &&& (1 : Int32)), oI (((p0.toUInt32 >>> ((5 : Int32) &&& 31).toUInt32).toInt32) &&& (3 : Int32)), oI ((((p0.toUInt32 >>> ((7 : Int32) &&& 31).toUInt32).toInt32) &&& (3 : Int32)) % (3 : Int32)), oI (if (((p0.toUInt32 >>> ((9 : Int32) &&& 31).toUInt32).toInt32) &&& (1 : Int32)) = (0 : Int32) then (34 : Int32) else (124 : Int32)), oI (f1 p1), .unset, .unset, .unset, .unset, .unset, .unset, .unset, .unset, .unset, .unset] [(.int p2)]))
  refine own_via (fun t kz => X3.ldcInt hx hown (mvT hZ (own_w hw 4)) (g := (mkF m 62 #[oI p0, oI p1, oI p2, oI ((p0 &&& (3 : Int32)) % (3 : Int32)), oI (((p0.toUInt32 >>> ((2 : Int32) &&& 31).toUInt32).toInt32) &&& (3 : Int32)), oI (((p0.toUInt32 >>> ((4 : Int32) &&& 31).toUInt32).toInt32) &&& (1 : Int32)), oI (((p0.toUInt32 >>> ((5 : Int32) &&& 31).toUInt32).toInt32) &&& (3 : Int32)), oI ((((p0.toUInt32 >>> ((7 : Int32) &&& 31).toUInt32).toInt32) &&& (3 : Int32)) % (3 : Int32)), oI (if (((p0.toUInt32 >>> ((9 : Int32) &&& 31).toUInt32).toInt32) &&& (1 : Int32)) = (0 : Int32) then (34 : Int32) else (124 : Int32)), oI (f1 p1), .unset, .unset, .unset, .unset, .unset, .unset, .unset, .unset, .unset, .unset] [(.int p2)])) rfl (hb hby at_62) t kz) ?_
  refine own_via (fun t kz => XS.iand X3.here hx rfl (hb hby at_64) rfl kz) ?_
  show own_Go p e below _ (T3.setTop (mkF m 65 #[oI p0, oI p1, oI p2, oI ((p0 &&& (3 : Int32)) % (3 : Int32)), oI (((p0.toUInt32 >>> ((2 : Int32) &&& 31).toUInt32).toInt32) &&& (3 : Int32)), oI (((p0.toUInt32 >>> ((4 : Int32) &&& 31).toUInt32).toInt32) &&& (1 : Int32)), oI (((p0.toUInt32 >>> ((5 : Int32) &&& 31).toUInt32).toInt32) &&& (3 : Int32)), oI ((((p0.toUInt32 >>> ((7 : Int32) &&& 31).toUInt32).toInt32) &&& (3 : Int32)) % (3 : Int32)), oI (if (((p0.toUInt32 >>> ((9 : Int32) &&& 31).toUInt32).toInt32) &&& (1 : Int32)) = (0 : Int32) then (34 : Int32) else (124 : Int32)), oI (f1 p1), .unset, .unset, .unset, .unset, .unset, .unset, .unset, .unset, .unset, .unset] [(.int (p2 &&& (65535 : Int32)))]))
  refine own_via (fun t kz => XS.i2c X3.here hx rfl (hb hby at_65) rfl kz) ?_
  refine own_via (fun t kz => XS.istore X3.here hx rfl (hb hby at_66) rfl (l' := #[oI p0, oI p1, oI p2, oI ((p0 &&& (3 : Int32)) % (3 : Int32)), oI (((p0.toUInt32 >>> ((2 : Int32) &&& 31).toUInt32).toInt32) &&& (3 : Int32)), oI (((p0.toUInt32 >>> ((4 : Int32) &&& 31).toUInt32).toInt32) &&& (1 : Int32)), oI (((p0.toUInt32 >>> ((5 : Int32) &&& 31).toUInt32).toInt32) &&& (3 : Int32)), oI ((((p0.toUInt32 >>> ((7 : Int32) &&& 31).toUInt32).toInt32) &&& (3 : Int32)) % (3 : Int32)), oI (if (((p0.toUInt32 >>> ((9 : Int32) &&& 31).toUInt32).toInt32) &&& (1 : Int32)) = (0 : Int32) then (34 : Int32) else (124 : Int32)), oI (f1 p1), oI ((p2 &&& (65535 : Int32)).toUInt32.toUInt16.toUInt32.toInt32), .unset, .unset, .unset, .unset, .unset, .unset, .unset, .unset, .unset]) rfl kz) ?_
  refine own_via (fun t kz => XS.iload X3.here hx rfl (hb hby at_68) rfl kz) ?_
  refine own_via (fun t kz => XS.iload X3.here hx rfl (hb hby at_70) rfl kz) ?_
  show own_Go p e below _ (T3.setTop (mkF m 72 #[oI p0, oI p1, oI p2, oI ((p0 &&& (3 : Int32)) % (3 : Int32)), oI (((p0.toUInt32 >>> ((2 : Int32) &&& 31).toUInt32).toInt32) &&& (3 : Int32)), oI (((p0.toUInt32 >>> ((4 : Int32) &&& 31).toUInt32).toInt32) &&& (1 : Int32)), oI (((p0.toUInt32 >>> ((5 : Int32) &&& 31).toUInt32).toInt32) &&& (3 : Int32)), oI ((((p0.toUInt32 >>> ((7 : Int32) &&& 31).toUInt32).toInt32) &&& (3 : Int32)) % (3 : Int32)), oI (if (((p0.toUInt32 >>> ((9 : Int32) &&& 31).toUInt32).toInt32) &&& (1 : Int32)) = (0 : Int32) then (34 : Int32) else (124 : Int32)), oI (f1 p1), oI ((p2 &&& (65535 : Int32)).toUInt32.toUInt16.toUInt32.toInt32), .unset, .unset, .unset, .unset, .unset, .unset, .unset, .unset, .unset] [(.int (if (((p0.toUInt32 >>> ((9 : Int32) &&& 31).toUInt32).toInt32) &&& (1 : Int32)) = (0 : Int32) then (34 : Int32) else (124 : Int32))), (.int ((p2 &&& (65535 : Int32)).toUInt32.toUInt16.toUInt32.toInt32))]))
  have jn6 : ∀ t, Steps p.tables e below (T3.setTop (mkF m 79 #[oI p0, oI p1, oI p2, oI ((p0 &&& (3 : Int32)) % (3 : Int32)), oI (((p0.toUInt32 >>> ((2 : Int32) &&& 31).toUInt32).toInt32) &&& (3 : Int32)), oI (((p0.toUInt32 >>> ((4 : Int32) &&& 31).toUInt32).toInt32) &&& (1 : Int32)), oI (((p0.toUInt32 >>> ((5 : Int32) &&& 31).toUInt32).toInt32) &&& (3 : Int32)), oI ((((p0.toUInt32 >>> ((7 : Int32) &&& 31).toUInt32).toInt32) &&& (3 : Int32)) % (3 : Int32)), oI (if (((p0.toUInt32 >>> ((9 : Int32) &&& 31).toUInt32).toInt32) &&& (1 : Int32)) = (0 : Int32) then (34 : Int32) else (124 : Int32)), oI (f1 p1), oI (if ((p2 &&& (65535 : Int32)).toUInt32.toUInt16.toUInt32.toInt32) = (if (((p0.toUInt32 >>> ((9 : Int32) &&& 31).toUInt32).toInt32) &&& (1 : Int32)) = (0 : Int32) then (34 : Int32) else (124 : Int32)) then (97 : Int32) else ((p2 &&& (65535 : Int32)).toUInt32.toUInt16.toUInt32.toInt32)), .unset, .unset, .unset, .unset, .unset, .unset, .unset, .unset, .unset] [])) t → Steps p.tables e below (T3.setTop (mkF m 72 #[oI p0, oI p1, oI p2, oI ((p0 &&& (3 : Int32)) % (3 : Int32)), oI (((p0.toUInt32 >>> ((2 : Int32) &&& 31).toUInt32).toInt32) &&& (3 : Int32)), oI (((p0.toUInt32 >>> ((4 : Int32) &&& 31).toUInt32).toInt32) &&& (1 : Int32)), oI (((p0.toUInt32 >>> ((5 : Int32) &&& 31).toUInt32).toInt32) &&& (3 : Int32)), oI ((((p0.toUInt32 >>> ((7 : Int32) &&& 31).toUInt32).toInt32) &&& (3 : Int32)) % (3 : Int32)), oI (if (((p0.toUInt32 >>> ((9 : Int32) &&& 31).toUInt32).toInt32) &&& (1 : Int32)) = (0 : Int32) then (34 : Int32) else (124 : Int32)), oI (f1 p1), oI ((p2 &&& (65535 : Int32)).toUInt32.toUInt16.toUInt32.toInt32), .unset, .unset, .unset, .unset, .unset, .unset, .unset, .unset, .unset] [(.int (if (((p0.toUInt32 >>> ((9 : Int32) &&& 31).toUInt32).toInt32) &&& (1 : Int32)) = (0 : Int32) then (34 : Int32) else (124 : Int32))), (.int ((p2 &&& (65535 : Int32)).toUInt32.toUInt16.toUInt32.toInt32))])) t := by
    intro t k
    show Steps p.tables e below (T3.setTop (mkF m 72 #[oI p0, oI p1, oI p2, oI ((p0 &&& (3 : Int32)) % (3 : Int32)), oI (((p0.toUInt32 >>> ((2 : Int32) &&& 31).toUInt32).toInt32) &&& (3 : Int32)), oI (((p0.toUInt32 >>> ((4 : Int32) &&& 31).toUInt32).toInt32) &&& (1 : Int32)), oI (((p0.toUInt32 >>> ((5 : Int32) &&& 31).toUInt32).toInt32) &&& (3 : Int32)), oI ((((p0.toUInt32 >>> ((7 : Int32) &&& 31).toUInt32).toInt32) &&& (3 : Int32)) % (3 : Int32)), oI (if (((p0.toUInt32 >>> ((9 : Int32) &&& 31).toUInt32).toInt32) &&& (1 : Int32)) = (0 : Int32) then (34 : Int32) else (124 : Int32)), oI (f1 p1), oI ((p2 &&& (65535 : Int32)).toUInt32.toUInt16.toUInt32.toInt32), .unset, .unset, .unset, .unset, .unset, .unset, .unset, .unset, .unset] [(.int (if (((p0.toUInt32 >>> ((9 : Int32) &&& 31).toUInt32).toInt32) &&& (1 : Int32)) = (0 : Int32) then (34 : Int32) else (124 : Int32))), (.int ((p2 &&& (65535 : Int32)).toUInt32.toUInt16.toUInt32.toInt32))])) t
    by_cases hc72_5 : ((p2 &&& (65535 : Int32)).toUInt32.toUInt16.toUInt32.toInt32) = (if (((p0.toUInt32 >>> ((9 : Int32) &&& 31).toUInt32).toInt32) &&& (1 : Int32)) = (0 : Int32) then (34 : Int32) else (124 : Int32))
    · refine XS.icmpNo X3.here hx rfl (hb hby at_72) rfl (teq hc72_5).2 ?_
      refine XS.bipush X3.here hx rfl (hb hby at_75) ?_
      refine XS.istore X3.here hx rfl (hb hby at_77) rfl (l' := #[oI p0, oI p1, oI p2, oI ((p0 &&& (3 : Int32)) % (3 : Int32)), oI (((p0.toUInt32 >>> ((2 : Int32) &&& 31).toUInt32).toInt32) &&& (3 : Int32)), oI (((p0.toUInt32 >>> ((4 : Int32) &&& 31).toUInt32).toInt32) &&& (1 : Int32)), oI (((p0.toUInt32 >>> ((5 : Int32) &&& 31).toUInt32).toInt32) &&& (3 : Int32)), oI ((((p0.toUInt32 >>> ((7 : Int32) &&& 31).toUInt32).toInt32) &&& (3 : Int32)) % (3 : Int32)), oI (if (((p0.toUInt32 >>> ((9 : Int32) &&& 31).toUInt32).toInt32) &&& (1 : Int32)) = (0 : Int32) then (34 : Int32) else (124 : Int32)), oI (f1 p1), oI (97 : Int32), .unset, .unset, .unset, .unset, .unset, .unset, .unset, .unset, .unset]) rfl ?_
      first | (rw [if_pos hc72_5] at k; exact k) | (simp only [if_pos hc72_5] at k ⊢; exact k)
    · refine XS.icmpYes X3.here hx rfl (pc0 := 72) (pc' := 79) rfl (hb hby at_72) rfl (feq hc72_5).2 (by decide) (by decide) ?_
      first | (rw [if_neg hc72_5] at k; exact k) | (simp only [if_neg hc72_5] at k ⊢; exact k)
  refine own_via jn6 ?_
  obtain ⟨hn, hm, hr, ho, hs, hq0, hf, hx0⟩ := own_vals p0 p1 p2
  generalize (if ((p2 &&& (65535 : Int32)).toUInt32.toUInt16.toUInt32.toInt32) = (if (((p0.toUInt32 >>> ((9 : Int32) &&& 31).toUInt32).toInt32) &&& (1 : Int32)) = (0 : Int32) then (34 : Int32) else (124 : Int32)) then (97 : Int32) else ((p2 &&& (65535 : Int32)).toUInt32.toUInt16.toUInt32.toInt32)) = vx at hn hm hr ho hs hq0 hf hx0 ⊢
  generalize (if (((p0.toUInt32 >>> ((9 : Int32) &&& 31).toUInt32).toInt32) &&& (1 : Int32)) = (0 : Int32) then (34 : Int32) else (124 : Int32)) = vq at hn hm hr ho hs hq0 hf hx0 ⊢
  generalize (f1 p1) = vf at hn hm hr ho hs hq0 hf hx0 ⊢
  generalize ((((p0.toUInt32 >>> ((7 : Int32) &&& 31).toUInt32).toInt32) &&& (3 : Int32)) % (3 : Int32)) = vs at hn hm hr ho hs hq0 hf hx0 ⊢
  generalize (((p0.toUInt32 >>> ((5 : Int32) &&& 31).toUInt32).toInt32) &&& (3 : Int32)) = vo at hn hm hr ho hs hq0 hf hx0 ⊢
  generalize (((p0.toUInt32 >>> ((4 : Int32) &&& 31).toUInt32).toInt32) &&& (1 : Int32)) = vr at hn hm hr ho hs hq0 hf hx0 ⊢
  generalize (((p0.toUInt32 >>> ((2 : Int32) &&& 31).toUInt32).toInt32) &&& (3 : Int32)) = vm at hn hm hr ho hs hq0 hf hx0 ⊢
  generalize ((p0 &&& (3 : Int32)) % (3 : Int32)) = vn at hn hm hr ho hs hq0 hf hx0 ⊢
  refine own_via (fun t kz => XS.bipush X3.here hx rfl (hb hby at_79) kz) ?_
  show own_Go p e below _ (T3.setTop (mkF m 81 #[oI p0, oI p1, oI p2, oI vn, oI vm, oI vr, oI vo, oI vs, oI vq, oI vf, oI vx, .unset, .unset, .unset, .unset, .unset, .unset, .unset, .unset, .unset] [(.int (6 : Int32))]))
  obtain ⟨T7, h7, k7, X7, e7, E7, A7, st7⟩ := newP X3 hx hZ (aty := .char) (own_w hw 5) e3 (g := (mkF m 81 #[oI p0, oI p1, oI p2, oI vn, oI vm, oI vr, oI vo, oI vs, oI vq, oI vf, oI vx, .unset, .unset, .unset, .unset, .unset, .unset, .unset, .unset, .unset] [(.int (6 : Int32))])) rfl (hb hby at_81) rfl (by decide) (cap := 6) (by decide) (by decide) (by decide) (by decide)
  obtain ⟨a7, g7⟩ : ∃ z, z = h0.size := ⟨_, rfl⟩
  rw [← g7] at A7 st7
  refine own_via st7 ?_
  have fr8 : n0 ≤ a7 := Nat.le_trans Z0 (Nat.le_of_eq g7.symm)
  have O9 : Old Z n0 h7 := OLD.ext E7
  have Zs10 : n0 ≤ h7.size := Nat.le_trans Z0 E7.1
  have V11 : Arv Z h7 a7 k7 .char (6 : Int32) [(.int (0 : Int32)), (.int (0 : Int32)), (.int (0 : Int32)), (.int (0 : Int32)), (.int (0 : Int32)), (.int (0 : Int32))] (.int (0 : Int32)) := (Arv.new A7 (by decide)).pad (pad_rep [] (.int (0 : Int32)) 6)
  refine own_via (fun t kz => XS.astore X7.here hx rfl (hb hby at_83) rfl rfl (l' := #[oI p0, oI p1, oI p2, oI vn, oI vm, oI vr, oI vo, oI vs, oI vq, oI vf, oI vx, oR a7, .unset, .unset, .unset, .unset, .unset, .unset, .unset, .unset]) rfl kz) ?_
  refine own_via (fun t kz => XS.aload X7.here hx rfl (hb hby at_85) rfl rfl kz) ?_
  refine own_via (fun t kz => XS.iconst X7.here hx rfl (hb hby at_87) kz) ?_
  refine own_via (fun t kz => XS.iloadN X7.here hx rfl (hb hby at_88) rfl kz) ?_
  refine own_via (fun t kz => XS.iconst X7.here hx rfl (hb hby at_89) kz) ?_
  show own_Go p e below _ (T7.setTop (mkF m 90 #[oI p0, oI p1, oI p2, oI vn, oI vm, oI vr, oI vo, oI vs, oI vq, oI vf, oI vx, oR a7, .unset, .unset, .unset, .unset, .unset, .unset, .unset, .unset] [(.int (1 : Int32)), (.int vn), (.int (0 : Int32)), (.ref a7)]))
  have jn13 : ∀ t, Steps p.tables e below (T7.setTop (mkF m 100 #[oI p0, oI p1, oI p2, oI vn, oI vm, oI vr, oI vo, oI vs, oI vq, oI vf, oI vx, oR a7, .unset, .unset, .unset, .unset, .unset, .unset, .unset, .unset] [(.int (if vn < (1 : Int32) then vf else (40 : Int32))), (.int (0 : Int32)), (.ref a7)])) t → Steps p.tables e below (T7.setTop (mkF m 90 #[oI p0, oI p1, oI p2, oI vn, oI vm, oI vr, oI vo, oI vs, oI vq, oI vf, oI vx, oR a7, .unset, .unset, .unset, .unset, .unset, .unset, .unset, .unset] [(.int (1 : Int32)), (.int vn), (.int (0 : Int32)), (.ref a7)])) t := by
    intro t k
    show Steps p.tables e below (T7.setTop (mkF m 90 #[oI p0, oI p1, oI p2, oI vn, oI vm, oI vr, oI vo, oI vs, oI vq, oI vf, oI vx, oR a7, .unset, .unset, .unset, .unset, .unset, .unset, .unset, .unset] [(.int (1 : Int32)), (.int vn), (.int (0 : Int32)), (.ref a7)])) t
    by_cases hc90_12 : vn < (1 : Int32)
    · refine XS.icmpYes X7.here hx rfl (pc0 := 90) (pc' := 98) rfl (hb hby at_90) rfl (tlt hc90_12).1 (by decide) (by decide) ?_
      show Steps p.tables e below (T7.setTop (mkF m 98 #[oI p0, oI p1, oI p2, oI vn, oI vm, oI vr, oI vo, oI vs, oI vq, oI vf, oI vx, oR a7, .unset, .unset, .unset, .unset, .unset, .unset, .unset, .unset] [(.int (0 : Int32)), (.ref a7)])) t
      refine XS.iload X7.here hx rfl (hb hby at_98) rfl ?_
      first | (rw [if_pos hc90_12] at k; exact k) | (simp only [if_pos hc90_12] at k ⊢; exact k)
    · refine XS.icmpNo X7.here hx rfl (hb hby at_90) rfl (flt hc90_12).1 ?_
      show Steps p.tables e below (T7.setTop (mkF m 93 #[oI p0, oI p1, oI p2, oI vn, oI vm, oI vr, oI vo, oI vs, oI vq, oI vf, oI vx, oR a7, .unset, .unset, .unset, .unset, .unset, .unset, .unset, .unset] [(.int (0 : Int32)), (.ref a7)])) t
      refine XS.bipush X7.here hx rfl (hb hby at_93) ?_
      refine XS.goto X7.here hx rfl (pc0 := 95) (pc' := 100) rfl (hb hby at_95) (by decide) (by decide) ?_
      first | (rw [if_neg hc90_12] at k; exact k) | (simp only [if_neg hc90_12] at k ⊢; exact k)
  refine own_via jn13 ?_
  show own_Go p e below _ (T7.setTop (mkF m 100 #[oI p0, oI p1, oI p2, oI vn, oI vm, oI vr, oI vo, oI vs, oI vq, oI vf, oI vx, oR a7, .unset, .unset, .unset, .unset, .unset, .unset, .unset, .unset] [(.int (if vn < (1 : Int32) then vf else (40 : Int32))), (.int (0 : Int32)), (.ref a7)]))
  obtain ⟨cl14, Ar14, kc14, Sz14, Nn14, Hs14, Gs14⟩ := id V11
  obtain ⟨T14, h14, X14, e14, W14, st14⟩ := stC X7 hx hZ e7 Ar14 (j := (0 : Int32)) (inb_of Sz14 ⟨by decide, by decide⟩) (g := (mkF m 100 #[oI p0, oI p1, oI p2, oI vn, oI vm, oI vr, oI vo, oI vs, oI vq, oI vf, oI vx, oR a7, .unset, .unset, .unset, .unset, .unset, .unset, .unset, .unset] [(.int (if vn < (1 : Int32) then vf else (40 : Int32))), (.int (0 : Int32)), (.ref a7)])) rfl rfl (hb hby at_100)
  refine own_via st14 ?_
  have na14 : nar .char (if vn < (1 : Int32) then vf else (40 : Int32)) = (if vn < (1 : Int32) then vf else (40 : Int32)) := own_narc (own_chi hf.1 (own_chl (by decide) (by decide)))
  rw [na14] at W14
  have O15 : Old Z n0 h14 := O9.wr W14 fr8
  have Zs16 : n0 ≤ h14.size := Nat.le_trans Zs10 (Keep.of_wr W14).1
  have N17 := Fr.snoc X14 N4 fr8
  have V18 : Arv Z h14 a7 k7 .char (6 : Int32) [(.int (if vn < (1 : Int32) then vf else (40 : Int32))), (.int (0 : Int32)), (.int (0 : Int32)), (.int (0 : Int32)), (.int (0 : Int32)), (.int (0 : Int32))] (.int (0 : Int32)) := Arv.set Ar14 kc14 Sz14 Nn14 Hs14 Gs14 (by rw [← na14]; exact fits_nar_char _) W14 0 (by first | decide | (show 0 < 6; decide)) (by first | decide | (show 0 < 6; decide))
  refine own_via (fun t kz => XS.aload X14.here hx rfl (hb hby at_101) rfl rfl kz) ?_
  refine own_via (fun t kz => XS.iconst X14.here hx rfl (hb hby at_103) kz) ?_
  refine own_via (fun t kz => XS.iloadN X14.here hx rfl (hb hby at_104) rfl kz) ?_
  refine own_via (fun t kz => XS.iconst X14.here hx rfl (hb hby at_105) kz) ?_
  show own_Go p e below _ (T14.setTop (mkF m 106 #[oI p0, oI p1, oI p2, oI vn, oI vm, oI vr, oI vo, oI vs, oI vq, oI vf, oI vx, oR a7, .unset, .unset, .unset, .unset, .unset, .unset, .unset, .unset] [(.int (2 : Int32)), (.int vn), (.int (1 : Int32)), (.ref a7)]))
  have jn20 : ∀ t, Steps p.tables e below (T14.setTop (mkF m 116 #[oI p0, oI p1, oI p2, oI vn, oI vm, oI vr, oI vo, oI vs, oI vq, oI vf, oI vx, oR a7, .unset, .unset, .unset, .unset, .unset, .unset, .unset, .unset] [(.int (if vn < (2 : Int32) then vf else (40 : Int32))), (.int (1 : Int32)), (.ref a7)])) t → Steps p.tables e below (T14.setTop (mkF m 106 #[oI p0, oI p1, oI p2, oI vn, oI vm, oI vr, oI vo, oI vs, oI vq, oI vf, oI vx, oR a7, .unset, .unset, .unset, .unset, .unset, .unset, .unset, .unset] [(.int (2 : Int32)), (.int vn), (.int (1 : Int32)), (.ref a7)])) t := by
    intro t k
    show Steps p.tables e below (T14.setTop (mkF m 106 #[oI p0, oI p1, oI p2, oI vn, oI vm, oI vr, oI vo, oI vs, oI vq, oI vf, oI vx, oR a7, .unset, .unset, .unset, .unset, .unset, .unset, .unset, .unset] [(.int (2 : Int32)), (.int vn), (.int (1 : Int32)), (.ref a7)])) t
    by_cases hc106_19 : vn < (2 : Int32)
    · refine XS.icmpYes X14.here hx rfl (pc0 := 106) (pc' := 114) rfl (hb hby at_106) rfl (tlt hc106_19).1 (by decide) (by decide) ?_
      refine XS.iload X14.here hx rfl (hb hby at_114) rfl ?_
      first | (rw [if_pos hc106_19] at k; exact k) | (simp only [if_pos hc106_19] at k ⊢; exact k)
    · refine XS.icmpNo X14.here hx rfl (hb hby at_106) rfl (flt hc106_19).1 ?_
      refine XS.bipush X14.here hx rfl (hb hby at_109) ?_
      show Steps p.tables e below (T14.setTop (mkF m 111 #[oI p0, oI p1, oI p2, oI vn, oI vm, oI vr, oI vo, oI vs, oI vq, oI vf, oI vx, oR a7, .unset, .unset, .unset, .unset, .unset, .unset, .unset, .unset] [(.int (40 : Int32)), (.int (1 : Int32)), (.ref a7)])) t
      refine XS.goto X14.here hx rfl (pc0 := 111) (pc' := 116) rfl (hb hby at_111) (by decide) (by decide) ?_
      first | (rw [if_neg hc106_19] at k; exact k) | (simp only [if_neg hc106_19] at k ⊢; exact k)
  refine own_via jn20 ?_
  show own_Go p e below _ (T14.setTop (mkF m 116 #[oI p0, oI p1, oI p2, oI vn, oI vm, oI vr, oI vo, oI vs, oI vq, oI vf, oI vx, oR a7, .unset, .unset, .unset, .unset, .unset, .unset, .unset, .unset] [(.int (if vn < (2 : Int32) then vf else (40 : Int32))), (.int (1 : Int32)), (.ref a7)]))
  obtain ⟨cl21, Ar21, kc21, Sz21, Nn21, Hs21, Gs21⟩ := id V18
  obtain ⟨T21, h21, X21, e21, W21, st21⟩ := stC X14 hx hZ e14 Ar21 (j := (1 : Int32)) (inb_of Sz21 ⟨by decide, by decide⟩) (g := (mkF m 116 #[oI p0, oI p1, oI p2, oI vn, oI vm, oI vr, oI vo, oI vs, oI vq, oI vf, oI vx, oR a7, .unset, .unset, .unset, .unset, .unset, .unset, .unset, .unset] [(.int (if vn < (2 : Int32) then vf else (40 : Int32))), (.int (1 : Int32)), (.ref a7)])) rfl rfl (hb hby at_116)
  refine own_via st21 ?_
  have na21 : nar .char (if vn < (2 : Int32) then vf else (40 : Int32)) = (if vn < (2 : Int32) then vf else (40 : Int32)) := own_narc (own_chi hf.1 (own_chl (by decide) (by decide)))
  rw [na21] at W21
  have O22 : Old Z n0 h21 := O15.wr W21 fr8
  have Zs23 : n0 ≤ h21.size := Nat.le_trans Zs16 (Keep.of_wr W21).1
  have N24 := Fr.snoc X21 N17 fr8
  have V25 : Arv Z h21 a7 k7 .char (6 : Int32) [(.int (if vn < (1 : Int32) then vf else (40 : Int32))), (.int (if vn < (2 : Int32) then vf else (40 : Int32))), (.int (0 : Int32)), (.int (0 : Int32)), (.int (0 : Int32)), (.int (0 : Int32))] (.int (0 : Int32)) := Arv.set Ar21 kc21 Sz21 Nn21 Hs21 Gs21 (by rw [← na21]; exact fits_nar_char _) W21 1 (by first | decide | (show 1 < 6; decide)) (by first | decide | (show 1 < 6; decide))
  refine own_via (fun t kz => XS.aload X21.here hx rfl (hb hby at_117) rfl rfl kz) ?_
  refine own_via (fun t kz => XS.iconst X21.here hx rfl (hb hby at_119) kz) ?_
  refine own_via (fun t kz => XS.iload X21.here hx rfl (hb hby at_120) rfl kz) ?_
  refine own_via (fun t kz => XS.iconst X21.here hx rfl (hb hby at_122) kz) ?_
  show own_Go p e below _ (T21.setTop (mkF m 123 #[oI p0, oI p1, oI p2, oI vn, oI vm, oI vr, oI vo, oI vs, oI vq, oI vf, oI vx, oR a7, .unset, .unset, .unset, .unset, .unset, .unset, .unset, .unset] [(.int (1 : Int32)), (.int vm), (.int (2 : Int32)), (.ref a7)]))
  have jn27 : ∀ t, Steps p.tables e below (T21.setTop (mkF m 133 #[oI p0, oI p1, oI p2, oI vn, oI vm, oI vr, oI vo, oI vs, oI vq, oI vf, oI vx, oR a7, .unset, .unset, .unset, .unset, .unset, .unset, .unset, .unset] [(.int (if vm < (1 : Int32) then vf else (41 : Int32))), (.int (2 : Int32)), (.ref a7)])) t → Steps p.tables e below (T21.setTop (mkF m 123 #[oI p0, oI p1, oI p2, oI vn, oI vm, oI vr, oI vo, oI vs, oI vq, oI vf, oI vx, oR a7, .unset, .unset, .unset, .unset, .unset, .unset, .unset, .unset] [(.int (1 : Int32)), (.int vm), (.int (2 : Int32)), (.ref a7)])) t := by
    intro t k
    show Steps p.tables e below (T21.setTop (mkF m 123 #[oI p0, oI p1, oI p2, oI vn, oI vm, oI vr, oI vo, oI vs, oI vq, oI vf, oI vx, oR a7, .unset, .unset, .unset, .unset, .unset, .unset, .unset, .unset] [(.int (1 : Int32)), (.int vm), (.int (2 : Int32)), (.ref a7)])) t
    by_cases hc123_26 : vm < (1 : Int32)
    · refine XS.icmpYes X21.here hx rfl (pc0 := 123) (pc' := 131) rfl (hb hby at_123) rfl (tlt hc123_26).1 (by decide) (by decide) ?_
      refine XS.iload X21.here hx rfl (hb hby at_131) rfl ?_
      first | (rw [if_pos hc123_26] at k; exact k) | (simp only [if_pos hc123_26] at k ⊢; exact k)
    · refine XS.icmpNo X21.here hx rfl (hb hby at_123) rfl (flt hc123_26).1 ?_
      refine XS.bipush X21.here hx rfl (hb hby at_126) ?_
      show Steps p.tables e below (T21.setTop (mkF m 128 #[oI p0, oI p1, oI p2, oI vn, oI vm, oI vr, oI vo, oI vs, oI vq, oI vf, oI vx, oR a7, .unset, .unset, .unset, .unset, .unset, .unset, .unset, .unset] [(.int (41 : Int32)), (.int (2 : Int32)), (.ref a7)])) t
      refine XS.goto X21.here hx rfl (pc0 := 128) (pc' := 133) rfl (hb hby at_128) (by decide) (by decide) ?_
      first | (rw [if_neg hc123_26] at k; exact k) | (simp only [if_neg hc123_26] at k ⊢; exact k)
  refine own_via jn27 ?_
  show own_Go p e below _ (T21.setTop (mkF m 133 #[oI p0, oI p1, oI p2, oI vn, oI vm, oI vr, oI vo, oI vs, oI vq, oI vf, oI vx, oR a7, .unset, .unset, .unset, .unset, .unset, .unset, .unset, .unset] [(.int (if vm < (1 : Int32) then vf else (41 : Int32))), (.int (2 : Int32)), (.ref a7)]))
  obtain ⟨cl28, Ar28, kc28, Sz28, Nn28, Hs28, Gs28⟩ := id V25
  obtain ⟨T28, h28, X28, e28, W28, st28⟩ := stC X21 hx hZ e21 Ar28 (j := (2 : Int32)) (inb_of Sz28 ⟨by decide, by decide⟩) (g := (mkF m 133 #[oI p0, oI p1, oI p2, oI vn, oI vm, oI vr, oI vo, oI vs, oI vq, oI vf, oI vx, oR a7, .unset, .unset, .unset, .unset, .unset, .unset, .unset, .unset] [(.int (if vm < (1 : Int32) then vf else (41 : Int32))), (.int (2 : Int32)), (.ref a7)])) rfl rfl (hb hby at_133)
  refine own_via st28 ?_
  have na28 : nar .char (if vm < (1 : Int32) then vf else (41 : Int32)) = (if vm < (1 : Int32) then vf else (41 : Int32)) := own_narc (own_chi hf.1 (own_chl (by decide) (by decide)))
  rw [na28] at W28
  have O29 : Old Z n0 h28 := O22.wr W28 fr8
  have Zs30 : n0 ≤ h28.size := Nat.le_trans Zs23 (Keep.of_wr W28).1
  have N31 := Fr.snoc X28 N24 fr8
  have V32 : Arv Z h28 a7 k7 .char (6 : Int32) [(.int (if vn < (1 : Int32) then vf else (40 : Int32))), (.int (if vn < (2 : Int32) then vf else (40 : Int32))), (.int (if vm < (1 : Int32) then vf else (41 : Int32))), (.int (0 : Int32)), (.int (0 : Int32)), (.int (0 : Int32))] (.int (0 : Int32)) := Arv.set Ar28 kc28 Sz28 Nn28 Hs28 Gs28 (by rw [← na28]; exact fits_nar_char _) W28 2 (by first | decide | (show 2 < 6; decide)) (by first | decide | (show 2 < 6; decide))
  refine own_via (fun t kz => XS.aload X28.here hx rfl (hb hby at_134) rfl rfl kz) ?_
  refine own_via (fun t kz => XS.iconst X28.here hx rfl (hb hby at_136) kz) ?_
  refine own_via (fun t kz => XS.iload X28.here hx rfl (hb hby at_137) rfl kz) ?_
  refine own_via (fun t kz => XS.iconst X28.here hx rfl (hb hby at_139) kz) ?_
  show own_Go p e below _ (T28.setTop (mkF m 140 #[oI p0, oI p1, oI p2, oI vn, oI vm, oI vr, oI vo, oI vs, oI vq, oI vf, oI vx, oR a7, .unset, .unset, .unset, .unset, .unset, .unset, .unset, .unset] [(.int (2 : Int32)), (.int vm), (.int (3 : Int32)), (.ref a7)]))
  have jn34 : ∀ t, Steps p.tables e below (T28.setTop (mkF m 150 #[oI p0, oI p1, oI p2, oI vn, oI vm, oI vr, oI vo, oI vs, oI vq, oI vf, oI vx, oR a7, .unset, .unset, .unset, .unset, .unset, .unset, .unset, .unset] [(.int (if vm < (2 : Int32) then vf else (41 : Int32))), (.int (3 : Int32)), (.ref a7)])) t → Steps p.tables e below (T28.setTop (mkF m 140 #[oI p0, oI p1, oI p2, oI vn, oI vm, oI vr, oI vo, oI vs, oI vq, oI vf, oI vx, oR a7, .unset, .unset, .unset, .unset, .unset, .unset, .unset, .unset] [(.int (2 : Int32)), (.int vm), (.int (3 : Int32)), (.ref a7)])) t := by
    intro t k
    show Steps p.tables e below (T28.setTop (mkF m 140 #[oI p0, oI p1, oI p2, oI vn, oI vm, oI vr, oI vo, oI vs, oI vq, oI vf, oI vx, oR a7, .unset, .unset, .unset, .unset, .unset, .unset, .unset, .unset] [(.int (2 : Int32)), (.int vm), (.int (3 : Int32)), (.ref a7)])) t
    by_cases hc140_33 : vm < (2 : Int32)
    · refine XS.icmpYes X28.here hx rfl (pc0 := 140) (pc' := 148) rfl (hb hby at_140) rfl (tlt hc140_33).1 (by decide) (by decide) ?_
      refine XS.iload X28.here hx rfl (hb hby at_148) rfl ?_
      first | (rw [if_pos hc140_33] at k; exact k) | (simp only [if_pos hc140_33] at k ⊢; exact k)
    · refine XS.icmpNo X28.here hx rfl (hb hby at_140) rfl (flt hc140_33).1 ?_
      refine XS.bipush X28.here hx rfl (hb hby at_143) ?_
      show Steps p.tables e below (T28.setTop (mkF m 145 #[oI p0, oI p1, oI p2, oI vn, oI vm, oI vr, oI vo, oI vs, oI vq, oI vf, oI vx, oR a7, .unset, .unset, .unset, .unset, .unset, .unset, .unset, .unset] [(.int (41 : Int32)), (.int (3 : Int32)), (.ref a7)])) t
      refine XS.goto X28.here hx rfl (pc0 := 145) (pc' := 150) rfl (hb hby at_145) (by decide) (by decide) ?_
      first | (rw [if_neg hc140_33] at k; exact k) | (simp only [if_neg hc140_33] at k ⊢; exact k)
  refine own_via jn34 ?_
  show own_Go p e below _ (T28.setTop (mkF m 150 #[oI p0, oI p1, oI p2, oI vn, oI vm, oI vr, oI vo, oI vs, oI vq, oI vf, oI vx, oR a7, .unset, .unset, .unset, .unset, .unset, .unset, .unset, .unset] [(.int (if vm < (2 : Int32) then vf else (41 : Int32))), (.int (3 : Int32)), (.ref a7)]))
  obtain ⟨cl35, Ar35, kc35, Sz35, Nn35, Hs35, Gs35⟩ := id V32
  obtain ⟨T35, h35, X35, e35, W35, st35⟩ := stC X28 hx hZ e28 Ar35 (j := (3 : Int32)) (inb_of Sz35 ⟨by decide, by decide⟩) (g := (mkF m 150 #[oI p0, oI p1, oI p2, oI vn, oI vm, oI vr, oI vo, oI vs, oI vq, oI vf, oI vx, oR a7, .unset, .unset, .unset, .unset, .unset, .unset, .unset, .unset] [(.int (if vm < (2 : Int32) then vf else (41 : Int32))), (.int (3 : Int32)), (.ref a7)])) rfl rfl (hb hby at_150)
  refine own_via st35 ?_
  have na35 : nar .char (if vm < (2 : Int32) then vf else (41 : Int32)) = (if vm < (2 : Int32) then vf else (41 : Int32)) := own_narc (own_chi hf.1 (own_chl (by decide) (by decide)))
  rw [na35] at W35
  have O36 : Old Z n0 h35 := O29.wr W35 fr8
  have Zs37 : n0 ≤ h35.size := Nat.le_trans Zs30 (Keep.of_wr W35).1
  have N38 := Fr.snoc X35 N31 fr8
  have V39 : Arv Z h35 a7 k7 .char (6 : Int32) [(.int (if vn < (1 : Int32) then vf else (40 : Int32))), (.int (if vn < (2 : Int32) then vf else (40 : Int32))), (.int (if vm < (1 : Int32) then vf else (41 : Int32))), (.int (if vm < (2 : Int32) then vf else (41 : Int32))), (.int (0 : Int32)), (.int (0 : Int32))] (.int (0 : Int32)) := Arv.set Ar35 kc35 Sz35 Nn35 Hs35 Gs35 (by rw [← na35]; exact fits_nar_char _) W35 3 (by first | decide | (show 3 < 6; decide)) (by first | decide | (show 3 < 6; decide))
  refine own_via (fun t kz => XS.aload X35.here hx rfl (hb hby at_151) rfl rfl kz) ?_
  refine own_via (fun t kz => XS.iconst X35.here hx rfl (hb hby at_153) kz) ?_
  refine own_via (fun t kz => XS.iload X35.here hx rfl (hb hby at_154) rfl kz) ?_
  refine own_via (fun t kz => XS.iconst X35.here hx rfl (hb hby at_156) kz) ?_
  show own_Go p e below _ (T35.setTop (mkF m 157 #[oI p0, oI p1, oI p2, oI vn, oI vm, oI vr, oI vo, oI vs, oI vq, oI vf, oI vx, oR a7, .unset, .unset, .unset, .unset, .unset, .unset, .unset, .unset] [(.int (3 : Int32)), (.int vm), (.int (4 : Int32)), (.ref a7)]))
  have jn41 : ∀ t, Steps p.tables e below (T35.setTop (mkF m 167 #[oI p0, oI p1, oI p2, oI vn, oI vm, oI vr, oI vo, oI vs, oI vq, oI vf, oI vx, oR a7, .unset, .unset, .unset, .unset, .unset, .unset, .unset, .unset] [(.int (if vm < (3 : Int32) then vf else (41 : Int32))), (.int (4 : Int32)), (.ref a7)])) t → Steps p.tables e below (T35.setTop (mkF m 157 #[oI p0, oI p1, oI p2, oI vn, oI vm, oI vr, oI vo, oI vs, oI vq, oI vf, oI vx, oR a7, .unset, .unset, .unset, .unset, .unset, .unset, .unset, .unset] [(.int (3 : Int32)), (.int vm), (.int (4 : Int32)), (.ref a7)])) t := by
    intro t k
    show Steps p.tables e below (T35.setTop (mkF m 157 #[oI p0, oI p1, oI p2, oI vn, oI vm, oI vr, oI vo, oI vs, oI vq, oI vf, oI vx, oR a7, .unset, .unset, .unset, .unset, .unset, .unset, .unset, .unset] [(.int (3 : Int32)), (.int vm), (.int (4 : Int32)), (.ref a7)])) t
    by_cases hc157_40 : vm < (3 : Int32)
    · refine XS.icmpYes X35.here hx rfl (pc0 := 157) (pc' := 165) rfl (hb hby at_157) rfl (tlt hc157_40).1 (by decide) (by decide) ?_
      refine XS.iload X35.here hx rfl (hb hby at_165) rfl ?_
      first | (rw [if_pos hc157_40] at k; exact k) | (simp only [if_pos hc157_40] at k ⊢; exact k)
    · refine XS.icmpNo X35.here hx rfl (hb hby at_157) rfl (flt hc157_40).1 ?_
      refine XS.bipush X35.here hx rfl (hb hby at_160) ?_
      show Steps p.tables e below (T35.setTop (mkF m 162 #[oI p0, oI p1, oI p2, oI vn, oI vm, oI vr, oI vo, oI vs, oI vq, oI vf, oI vx, oR a7, .unset, .unset, .unset, .unset, .unset, .unset, .unset, .unset] [(.int (41 : Int32)), (.int (4 : Int32)), (.ref a7)])) t
      refine XS.goto X35.here hx rfl (pc0 := 162) (pc' := 167) rfl (hb hby at_162) (by decide) (by decide) ?_
      first | (rw [if_neg hc157_40] at k; exact k) | (simp only [if_neg hc157_40] at k ⊢; exact k)
  refine own_via jn41 ?_
  show own_Go p e below _ (T35.setTop (mkF m 167 #[oI p0, oI p1, oI p2, oI vn, oI vm, oI vr, oI vo, oI vs, oI vq, oI vf, oI vx, oR a7, .unset, .unset, .unset, .unset, .unset, .unset, .unset, .unset] [(.int (if vm < (3 : Int32) then vf else (41 : Int32))), (.int (4 : Int32)), (.ref a7)]))
  obtain ⟨cl42, Ar42, kc42, Sz42, Nn42, Hs42, Gs42⟩ := id V39
  obtain ⟨T42, h42, X42, e42, W42, st42⟩ := stC X35 hx hZ e35 Ar42 (j := (4 : Int32)) (inb_of Sz42 ⟨by decide, by decide⟩) (g := (mkF m 167 #[oI p0, oI p1, oI p2, oI vn, oI vm, oI vr, oI vo, oI vs, oI vq, oI vf, oI vx, oR a7, .unset, .unset, .unset, .unset, .unset, .unset, .unset, .unset] [(.int (if vm < (3 : Int32) then vf else (41 : Int32))), (.int (4 : Int32)), (.ref a7)])) rfl rfl (hb hby at_167)
  refine own_via st42 ?_
  have na42 : nar .char (if vm < (3 : Int32) then vf else (41 : Int32)) = (if vm < (3 : Int32) then vf else (41 : Int32)) := own_narc (own_chi hf.1 (own_chl (by decide) (by decide)))
  rw [na42] at W42
  have O43 : Old Z n0 h42 := O36.wr W42 fr8
  have Zs44 : n0 ≤ h42.size := Nat.le_trans Zs37 (Keep.of_wr W42).1
  have N45 := Fr.snoc X42 N38 fr8
  have V46 : Arv Z h42 a7 k7 .char (6 : Int32) [(.int (if vn < (1 : Int32) then vf else (40 : Int32))), (.int (if vn < (2 : Int32) then vf else (40 : Int32))), (.int (if vm < (1 : Int32) then vf else (41 : Int32))), (.int (if vm < (2 : Int32) then vf else (41 : Int32))), (.int (if vm < (3 : Int32) then vf else (41 : Int32))), (.int (0 : Int32))] (.int (0 : Int32)) := Arv.set Ar42 kc42 Sz42 Nn42 Hs42 Gs42 (by rw [← na42]; exact fits_nar_char _) W42 4 (by first | decide | (show 4 < 6; decide)) (by first | decide | (show 4 < 6; decide))
  refine own_via (fun t kz => XS.aload X42.here hx rfl (hb hby at_168) rfl rfl kz) ?_
  refine own_via (fun t kz => XS.iconst X42.here hx rfl (hb hby at_170) kz) ?_
  refine own_via (fun t kz => XS.iload X42.here hx rfl (hb hby at_171) rfl kz) ?_
  refine own_via (fun t kz => XS.iconst X42.here hx rfl (hb hby at_173) kz) ?_
  show own_Go p e below _ (T42.setTop (mkF m 174 #[oI p0, oI p1, oI p2, oI vn, oI vm, oI vr, oI vo, oI vs, oI vq, oI vf, oI vx, oR a7, .unset, .unset, .unset, .unset, .unset, .unset, .unset, .unset] [(.int (1 : Int32)), (.int vr), (.int (5 : Int32)), (.ref a7)]))
  have jn48 : ∀ t, Steps p.tables e below (T42.setTop (mkF m 184 #[oI p0, oI p1, oI p2, oI vn, oI vm, oI vr, oI vo, oI vs, oI vq, oI vf, oI vx, oR a7, .unset, .unset, .unset, .unset, .unset, .unset, .unset, .unset] [(.int (if vr = (1 : Int32) then (40 : Int32) else vf)), (.int (5 : Int32)), (.ref a7)])) t → Steps p.tables e below (T42.setTop (mkF m 174 #[oI p0, oI p1, oI p2, oI vn, oI vm, oI vr, oI vo, oI vs, oI vq, oI vf, oI vx, oR a7, .unset, .unset, .unset, .unset, .unset, .unset, .unset, .unset] [(.int (1 : Int32)), (.int vr), (.int (5 : Int32)), (.ref a7)])) t := by
    intro t k
    show Steps p.tables e below (T42.setTop (mkF m 174 #[oI p0, oI p1, oI p2, oI vn, oI vm, oI vr, oI vo, oI vs, oI vq, oI vf, oI vx, oR a7, .unset, .unset, .unset, .unset, .unset, .unset, .unset, .unset] [(.int (1 : Int32)), (.int vr), (.int (5 : Int32)), (.ref a7)])) t
    by_cases hc174_47 : vr = (1 : Int32)
    · refine XS.icmpNo X42.here hx rfl (hb hby at_174) rfl (teq hc174_47).2 ?_
      refine XS.bipush X42.here hx rfl (hb hby at_177) ?_
      show Steps p.tables e below (T42.setTop (mkF m 179 #[oI p0, oI p1, oI p2, oI vn, oI vm, oI vr, oI vo, oI vs, oI vq, oI vf, oI vx, oR a7, .unset, .unset, .unset, .unset, .unset, .unset, .unset, .unset] [(.int (40 : Int32)), (.int (5 : Int32)), (.ref a7)])) t
      refine XS.goto X42.here hx rfl (pc0 := 179) (pc' := 184) rfl (hb hby at_179) (by decide) (by decide) ?_
      first | (rw [if_pos hc174_47] at k; exact k) | (simp only [if_pos hc174_47] at k ⊢; exact k)
    · refine XS.icmpYes X42.here hx rfl (pc0 := 174) (pc' := 182) rfl (hb hby at_174) rfl (feq hc174_47).2 (by decide) (by decide) ?_
      refine XS.iload X42.here hx rfl (hb hby at_182) rfl ?_
      first | (rw [if_neg hc174_47] at k; exact k) | (simp only [if_neg hc174_47] at k ⊢; exact k)
  refine own_via jn48 ?_
  show own_Go p e below _ (T42.setTop (mkF m 184 #[oI p0, oI p1, oI p2, oI vn, oI vm, oI vr, oI vo, oI vs, oI vq, oI vf, oI vx, oR a7, .unset, .unset, .unset, .unset, .unset, .unset, .unset, .unset] [(.int (if vr = (1 : Int32) then (40 : Int32) else vf)), (.int (5 : Int32)), (.ref a7)]))
  obtain ⟨cl49, Ar49, kc49, Sz49, Nn49, Hs49, Gs49⟩ := id V46
  obtain ⟨T49, h49, X49, e49, W49, st49⟩ := stC X42 hx hZ e42 Ar49 (j := (5 : Int32)) (inb_of Sz49 ⟨by decide, by decide⟩) (g := (mkF m 184 #[oI p0, oI p1, oI p2, oI vn, oI vm, oI vr, oI vo, oI vs, oI vq, oI vf, oI vx, oR a7, .unset, .unset, .unset, .unset, .unset, .unset, .unset, .unset] [(.int (if vr = (1 : Int32) then (40 : Int32) else vf)), (.int (5 : Int32)), (.ref a7)])) rfl rfl (hb hby at_184)
  refine own_via st49 ?_
  have na49 : nar .char (if vr = (1 : Int32) then (40 : Int32) else vf) = (if vr = (1 : Int32) then (40 : Int32) else vf) := own_narc (own_chi (own_chl (by decide) (by decide)) hf.1)
  rw [na49] at W49
  have O50 : Old Z n0 h49 := O43.wr W49 fr8
  have Zs51 : n0 ≤ h49.size := Nat.le_trans Zs44 (Keep.of_wr W49).1
  have N52 := Fr.snoc X49 N45 fr8
  have V53 : Arv Z h49 a7 k7 .char (6 : Int32) [(.int (if vn < (1 : Int32) then vf else (40 : Int32))), (.int (if vn < (2 : Int32) then vf else (40 : Int32))), (.int (if vm < (1 : Int32) then vf else (41 : Int32))), (.int (if vm < (2 : Int32) then vf else (41 : Int32))), (.int (if vm < (3 : Int32) then vf else (41 : Int32))), (.int (if vr = (1 : Int32) then (40 : Int32) else vf))] (.int (0 : Int32)) := Arv.set Ar49 kc49 Sz49 Nn49 Hs49 Gs49 (by rw [← na49]; exact fits_nar_char _) W49 5 (by first | decide | (show 5 < 6; decide)) (by first | decide | (show 5 < 6; decide))
  refine own_via (fun t kz => XS.bipush X49.here hx rfl (hb hby at_185) kz) ?_
  show own_Go p e below _ (T49.setTop (mkF m 187 #[oI p0, oI p1, oI p2, oI vn, oI vm, oI vr, oI vo, oI vs, oI vq, oI vf, oI vx, oR a7, .unset, .unset, .unset, .unset, .unset, .unset, .unset, .unset] [(.int (6 : Int32))]))
  obtain ⟨T54, h54, k54, X54, e54, E54, A54, st54⟩ := newP X49 hx hZ (aty := .char) (own_w hw 5) e49 (g := (mkF m 187 #[oI p0, oI p1, oI p2, oI vn, oI vm, oI vr, oI vo, oI vs, oI vq, oI vf, oI vx, oR a7, .unset, .unset, .unset, .unset, .unset, .unset, .unset, .unset] [(.int (6 : Int32))])) rfl (hb hby at_187) rfl (by decide) (cap := 6) (by decide) (by decide) (by decide) (by decide)
  obtain ⟨a54, g54⟩ : ∃ z, z = h49.size := ⟨_, rfl⟩
  rw [← g54] at A54 st54
  refine own_via st54 ?_
  have lt55 : a7 < a54 := Nat.lt_of_lt_of_le V53.lt (Nat.le_of_eq g54.symm)
  have fr56 : n0 ≤ a54 := Nat.le_trans Zs51 (Nat.le_of_eq g54.symm)
  have O57 : Old Z n0 h54 := O50.ext E54
  have V58 := V53.ext E54
  have Zs59 : n0 ≤ h54.size := Nat.le_trans Zs51 E54.1
  have V60 : Arv Z h54 a54 k54 .char (6 : Int32) [(.int (0 : Int32)), (.int (0 : Int32)), (.int (0 : Int32)), (.int (0 : Int32)), (.int (0 : Int32)), (.int (0 : Int32))] (.int (0 : Int32)) := (Arv.new A54 (by decide)).pad (pad_rep [] (.int (0 : Int32)) 6)
  refine own_via (fun t kz => XS.astore X54.here hx rfl (hb hby at_189) rfl rfl (l' := #[oI p0, oI p1, oI p2, oI vn, oI vm, oI vr, oI vo, oI vs, oI vq, oI vf, oI vx, oR a7, oR a54, .unset, .unset, .unset, .unset, .unset, .unset, .unset]) rfl kz) ?_
  refine own_via (fun t kz => XS.aload X54.here hx rfl (hb hby at_191) rfl rfl kz) ?_
  refine own_via (fun t kz => XS.iconst X54.here hx rfl (hb hby at_193) kz) ?_
  refine own_via (fun t kz => XS.iload X54.here hx rfl (hb hby at_194) rfl kz) ?_
  show own_Go p e below _ (T54.setTop (mkF m 196 #[oI p0, oI p1, oI p2, oI vn, oI vm, oI vr, oI vo, oI vs, oI vq, oI vf, oI vx, oR a7, oR a54, .unset, .unset, .unset, .unset, .unset, .unset, .unset] [(.int vo), (.int (0 : Int32)), (.ref a54)]))
  have jn62 : ∀ t, Steps p.tables e below (T54.setTop (mkF m 206 #[oI p0, oI p1, oI p2, oI vn, oI vm, oI vr, oI vo, oI vs, oI vq, oI vf, oI vx, oR a7, oR a54, .unset, .unset, .unset, .unset, .unset, .unset, .unset] [(.int (if vo = (0 : Int32) then vf else vq)), (.int (0 : Int32)), (.ref a54)])) t → Steps p.tables e below (T54.setTop (mkF m 196 #[oI p0, oI p1, oI p2, oI vn, oI vm, oI vr, oI vo, oI vs, oI vq, oI vf, oI vx, oR a7, oR a54, .unset, .unset, .unset, .unset, .unset, .unset, .unset] [(.int vo), (.int (0 : Int32)), (.ref a54)])) t := by
    intro t k
    show Steps p.tables e below (T54.setTop (mkF m 196 #[oI p0, oI p1, oI p2, oI vn, oI vm, oI vr, oI vo, oI vs, oI vq, oI vf, oI vx, oR a7, oR a54, .unset, .unset, .unset, .unset, .unset, .unset, .unset] [(.int vo), (.int (0 : Int32)), (.ref a54)])) t
    by_cases hc196_61 : vo = (0 : Int32)
    · refine XS.ifYes X54.here hx rfl (pc0 := 196) (pc' := 204) rfl (hb hby at_196) rfl ((if0 _ _).trans (teq hc196_61).1) (by decide) (by decide) ?_
      refine XS.iload X54.here hx rfl (hb hby at_204) rfl ?_
      first | (rw [if_pos hc196_61] at k; exact k) | (simp only [if_pos hc196_61] at k ⊢; exact k)
    · refine XS.ifNo X54.here hx rfl (hb hby at_196) rfl ((if0 _ _).trans (feq hc196_61).1) ?_
      refine XS.iload X54.here hx rfl (hb hby at_199) rfl ?_
      show Steps p.tables e below (T54.setTop (mkF m 201 #[oI p0, oI p1, oI p2, oI vn, oI vm, oI vr, oI vo, oI vs, oI vq, oI vf, oI vx, oR a7, oR a54, .unset, .unset, .unset, .unset, .unset, .unset, .unset] [(.int vq), (.int (0 : Int32)), (.ref a54)])) t
      refine XS.goto X54.here hx rfl (pc0 := 201) (pc' := 206) rfl (hb hby at_201) (by decide) (by decide) ?_
      first | (rw [if_neg hc196_61] at k; exact k) | (simp only [if_neg hc196_61] at k ⊢; exact k)
  refine own_via jn62 ?_
  show own_Go p e below _ (T54.setTop (mkF m 206 #[oI p0, oI p1, oI p2, oI vn, oI vm, oI vr, oI vo, oI vs, oI vq, oI vf, oI vx, oR a7, oR a54, .unset, .unset, .unset, .unset, .unset, .unset, .unset] [(.int (if vo = (0 : Int32) then vf else vq)), (.int (0 : Int32)), (.ref a54)]))
  obtain ⟨cl63, Ar63, kc63, Sz63, Nn63, Hs63, Gs63⟩ := id V60
  obtain ⟨T63, h63, X63, e63, W63, st63⟩ := stC X54 hx hZ e54 Ar63 (j := (0 : Int32)) (inb_of Sz63 ⟨by decide, by decide⟩) (g := (mkF m 206 #[oI p0, oI p1, oI p2, oI vn, oI vm, oI vr, oI vo, oI vs, oI vq, oI vf, oI vx, oR a7, oR a54, .unset, .unset, .unset, .unset, .unset, .unset, .unset] [(.int (if vo = (0 : Int32) then vf else vq)), (.int (0 : Int32)), (.ref a54)])) rfl rfl (hb hby at_206)
  refine own_via st63 ?_
  have na63 : nar .char (if vo = (0 : Int32) then vf else vq) = (if vo = (0 : Int32) then vf else vq) := own_narc (own_chi hf.1 (own_chq hq0))
  rw [na63] at W63
  have O64 : Old Z n0 h63 := O57.wr W63 fr56
  have V65 := V58.other W63 (Nat.ne_of_lt lt55)
  have Zs66 : n0 ≤ h63.size := Nat.le_trans Zs59 (Keep.of_wr W63).1
  have N67 := Fr.snoc X63 N52 fr56
  have V68 : Arv Z h63 a54 k54 .char (6 : Int32) [(.int (if vo = (0 : Int32) then vf else vq)), (.int (0 : Int32)), (.int (0 : Int32)), (.int (0 : Int32)), (.int (0 : Int32)), (.int (0 : Int32))] (.int (0 : Int32)) := Arv.set Ar63 kc63 Sz63 Nn63 Hs63 Gs63 (by rw [← na63]; exact fits_nar_char _) W63 0 (by first | decide | (show 0 < 6; decide)) (by first | decide | (show 0 < 6; decide))
  refine own_via (fun t kz => XS.aload X63.here hx rfl (hb hby at_207) rfl rfl kz) ?_
  refine own_via (fun t kz => XS.iconst X63.here hx rfl (hb hby at_209) kz) ?_
  refine own_via (fun t kz => XS.iload X63.here hx rfl (hb hby at_210) rfl kz) ?_
  show own_Go p e below _ (T63.setTop (mkF m 212 #[oI p0, oI p1, oI p2, oI vn, oI vm, oI vr, oI vo, oI vs, oI vq, oI vf, oI vx, oR a7, oR a54, .unset, .unset, .unset, .unset, .unset, .unset, .unset] [(.int vo), (.int (1 : Int32)), (.ref a54)]))
  have jn70 : ∀ t, Steps p.tables e below (T63.setTop (mkF m 222 #[oI p0, oI p1, oI p2, oI vn, oI vm, oI vr, oI vo, oI vs, oI vq, oI vf, oI vx, oR a7, oR a54, .unset, .unset, .unset, .unset, .unset, .unset, .unset] [(.int (if vo = (0 : Int32) then vf else vx)), (.int (1 : Int32)), (.ref a54)])) t → Steps p.tables e below (T63.setTop (mkF m 212 #[oI p0, oI p1, oI p2, oI vn, oI vm, oI vr, oI vo, oI vs, oI vq, oI vf, oI vx, oR a7, oR a54, .unset, .unset, .unset, .unset, .unset, .unset, .unset] [(.int vo), (.int (1 : Int32)), (.ref a54)])) t := by
    intro t k
    show Steps p.tables e below (T63.setTop (mkF m 212 #[oI p0, oI p1, oI p2, oI vn, oI vm, oI vr, oI vo, oI vs, oI vq, oI vf, oI vx, oR a7, oR a54, .unset, .unset, .unset, .unset, .unset, .unset, .unset] [(.int vo), (.int (1 : Int32)), (.ref a54)])) t
    by_cases hc212_69 : vo = (0 : Int32)
    · refine XS.ifYes X63.here hx rfl (pc0 := 212) (pc' := 220) rfl (hb hby at_212) rfl ((if0 _ _).trans (teq hc212_69).1) (by decide) (by decide) ?_
      refine XS.iload X63.here hx rfl (hb hby at_220) rfl ?_
      first | (rw [if_pos hc212_69] at k; exact k) | (simp only [if_pos hc212_69] at k ⊢; exact k)
    · refine XS.ifNo X63.here hx rfl (hb hby at_212) rfl ((if0 _ _).trans (feq hc212_69).1) ?_
      refine XS.iload X63.here hx rfl (hb hby at_215) rfl ?_
      refine XS.goto X63.here hx rfl (pc0 := 217) (pc' := 222) rfl (hb hby at_217) (by decide) (by decide) ?_
      first | (rw [if_neg hc212_69] at k; exact k) | (simp only [if_neg hc212_69] at k ⊢; exact k)
  refine own_via jn70 ?_
  show own_Go p e below _ (T63.setTop (mkF m 222 #[oI p0, oI p1, oI p2, oI vn, oI vm, oI vr, oI vo, oI vs, oI vq, oI vf, oI vx, oR a7, oR a54, .unset, .unset, .unset, .unset, .unset, .unset, .unset] [(.int (if vo = (0 : Int32) then vf else vx)), (.int (1 : Int32)), (.ref a54)]))
  obtain ⟨cl71, Ar71, kc71, Sz71, Nn71, Hs71, Gs71⟩ := id V68
  obtain ⟨T71, h71, X71, e71, W71, st71⟩ := stC X63 hx hZ e63 Ar71 (j := (1 : Int32)) (inb_of Sz71 ⟨by decide, by decide⟩) (g := (mkF m 222 #[oI p0, oI p1, oI p2, oI vn, oI vm, oI vr, oI vo, oI vs, oI vq, oI vf, oI vx, oR a7, oR a54, .unset, .unset, .unset, .unset, .unset, .unset, .unset] [(.int (if vo = (0 : Int32) then vf else vx)), (.int (1 : Int32)), (.ref a54)])) rfl rfl (hb hby at_222)
  refine own_via st71 ?_
  have na71 : nar .char (if vo = (0 : Int32) then vf else vx) = (if vo = (0 : Int32) then vf else vx) := own_narc (own_chi hf.1 hx0.1)
  rw [na71] at W71
  have O72 : Old Z n0 h71 := O64.wr W71 fr56
  have V73 := V65.other W71 (Nat.ne_of_lt lt55)
  have Zs74 : n0 ≤ h71.size := Nat.le_trans Zs66 (Keep.of_wr W71).1
  have N75 := Fr.snoc X71 N67 fr56
  have V76 : Arv Z h71 a54 k54 .char (6 : Int32) [(.int (if vo = (0 : Int32) then vf else vq)), (.int (if vo = (0 : Int32) then vf else vx)), (.int (0 : Int32)), (.int (0 : Int32)), (.int (0 : Int32)), (.int (0 : Int32))] (.int (0 : Int32)) := Arv.set Ar71 kc71 Sz71 Nn71 Hs71 Gs71 (by rw [← na71]; exact fits_nar_char _) W71 1 (by first | decide | (show 1 < 6; decide)) (by first | decide | (show 1 < 6; decide))
  refine own_via (fun t kz => XS.aload X71.here hx rfl (hb hby at_223) rfl rfl kz) ?_
  refine own_via (fun t kz => XS.iconst X71.here hx rfl (hb hby at_225) kz) ?_
  refine own_via (fun t kz => XS.iload X71.here hx rfl (hb hby at_226) rfl kz) ?_
  refine own_via (fun t kz => XS.iconst X71.here hx rfl (hb hby at_228) kz) ?_
  show own_Go p e below _ (T71.setTop (mkF m 229 #[oI p0, oI p1, oI p2, oI vn, oI vm, oI vr, oI vo, oI vs, oI vq, oI vf, oI vx, oR a7, oR a54, .unset, .unset, .unset, .unset, .unset, .unset, .unset] [(.int (1 : Int32)), (.int vo), (.int (2 : Int32)), (.ref a54)]))
  have jn79 : ∀ t, Steps p.tables e below (T71.setTop (mkF m 245 #[oI p0, oI p1, oI p2, oI vn, oI vm, oI vr, oI vo, oI vs, oI vq, oI vf, oI vx, oR a7, oR a54, .unset, .unset, .unset, .unset, .unset, .unset, .unset] [(.int (if vo = (1 : Int32) then vq else (if vo = (3 : Int32) then vq else vf))), (.int (2 : Int32)), (.ref a54)])) t → Steps p.tables e below (T71.setTop (mkF m 229 #[oI p0, oI p1, oI p2, oI vn, oI vm, oI vr, oI vo, oI vs, oI vq, oI vf, oI vx, oR a7, oR a54, .unset, .unset, .unset, .unset, .unset, .unset, .unset] [(.int (1 : Int32)), (.int vo), (.int (2 : Int32)), (.ref a54)])) t := by
    intro t k
    show Steps p.tables e below (T71.setTop (mkF m 229 #[oI p0, oI p1, oI p2, oI vn, oI vm, oI vr, oI vo, oI vs, oI vq, oI vf, oI vx, oR a7, oR a54, .unset, .unset, .unset, .unset, .unset, .unset, .unset] [(.int (1 : Int32)), (.int vo), (.int (2 : Int32)), (.ref a54)])) t
    by_cases hc229_77 : vo = (1 : Int32)
    · refine XS.icmpYes X71.here hx rfl (pc0 := 229) (pc' := 238) rfl (hb hby at_229) rfl (teq hc229_77).1 (by decide) (by decide) ?_
      refine XS.iload X71.here hx rfl (hb hby at_238) rfl ?_
      show Steps p.tables e below (T71.setTop (mkF m 240 #[oI p0, oI p1, oI p2, oI vn, oI vm, oI vr, oI vo, oI vs, oI vq, oI vf, oI vx, oR a7, oR a54, .unset, .unset, .unset, .unset, .unset, .unset, .unset] [(.int vq), (.int (2 : Int32)), (.ref a54)])) t
      refine XS.goto X71.here hx rfl (pc0 := 240) (pc' := 245) rfl (hb hby at_240) (by decide) (by decide) ?_
      first | (rw [if_pos hc229_77] at k; exact k) | (simp only [if_pos hc229_77] at k ⊢; exact k)
    · refine XS.icmpNo X71.here hx rfl (hb hby at_229) rfl (feq hc229_77).1 ?_
      refine XS.iload X71.here hx rfl (hb hby at_232) rfl ?_
      show Steps p.tables e below (T71.setTop (mkF m 234 #[oI p0, oI p1, oI p2, oI vn, oI vm, oI vr, oI vo, oI vs, oI vq, oI vf, oI vx, oR a7, oR a54, .unset, .unset, .unset, .unset, .unset, .unset, .unset] [(.int vo), (.int (2 : Int32)), (.ref a54)])) t
      refine XS.iconst X71.here hx rfl (hb hby at_234) ?_
      show Steps p.tables e below (T71.setTop (mkF m 235 #[oI p0, oI p1, oI p2, oI vn, oI vm, oI vr, oI vo, oI vs, oI vq, oI vf, oI vx, oR a7, oR a54, .unset, .unset, .unset, .unset, .unset, .unset, .unset] [(.int (3 : Int32)), (.int vo), (.int (2 : Int32)), (.ref a54)])) t
      by_cases hc235_78 : vo = (3 : Int32)
      · refine XS.icmpNo X71.here hx rfl (hb hby at_235) rfl (teq hc235_78).2 ?_
        refine XS.iload X71.here hx rfl (hb hby at_238) rfl ?_
        refine XS.goto X71.here hx rfl (pc0 := 240) (pc' := 245) rfl (hb hby at_240) (by decide) (by decide) ?_
        first | (rw [if_neg hc229_77, if_pos hc235_78] at k; exact k) | (simp only [if_neg hc229_77, if_pos hc235_78] at k ⊢; exact k)
      · refine XS.icmpYes X71.here hx rfl (pc0 := 235) (pc' := 243) rfl (hb hby at_235) rfl (feq hc235_78).2 (by decide) (by decide) ?_
        refine XS.iload X71.here hx rfl (hb hby at_243) rfl ?_
        first | (rw [if_neg hc229_77, if_neg hc235_78] at k; exact k) | (simp only [if_neg hc229_77, if_neg hc235_78] at k ⊢; exact k)
  refine own_via jn79 ?_
  show own_Go p e below _ (T71.setTop (mkF m 245 #[oI p0, oI p1, oI p2, oI vn, oI vm, oI vr, oI vo, oI vs, oI vq, oI vf, oI vx, oR a7, oR a54, .unset, .unset, .unset, .unset, .unset, .unset, .unset] [(.int (if vo = (1 : Int32) then vq else (if vo = (3 : Int32) then vq else vf))), (.int (2 : Int32)), (.ref a54)]))
  obtain ⟨cl80, Ar80, kc80, Sz80, Nn80, Hs80, Gs80⟩ := id V76
  obtain ⟨T80, h80, X80, e80, W80, st80⟩ := stC X71 hx hZ e71 Ar80 (j := (2 : Int32)) (inb_of Sz80 ⟨by decide, by decide⟩) (g := (mkF m 245 #[oI p0, oI p1, oI p2, oI vn, oI vm, oI vr, oI vo, oI vs, oI vq, oI vf, oI vx, oR a7, oR a54, .unset, .unset, .unset, .unset, .unset, .unset, .unset] [(.int (if vo = (1 : Int32) then vq else (if vo = (3 : Int32) then vq else vf))), (.int (2 : Int32)), (.ref a54)])) rfl rfl (hb hby at_245)
  refine own_via st80 ?_
  have na80 : nar .char (if vo = (1 : Int32) then vq else (if vo = (3 : Int32) then vq else vf)) = (if vo = (1 : Int32) then vq else (if vo = (3 : Int32) then vq else vf)) := own_narc (own_chi (own_chq hq0) (own_chi (own_chq hq0) hf.1))
  rw [na80] at W80
  have O81 : Old Z n0 h80 := O72.wr W80 fr56
  have V82 := V73.other W80 (Nat.ne_of_lt lt55)
  have Zs83 : n0 ≤ h80.size := Nat.le_trans Zs74 (Keep.of_wr W80).1
  have N84 := Fr.snoc X80 N75 fr56
  have V85 : Arv Z h80 a54 k54 .char (6 : Int32) [(.int (if vo = (0 : Int32) then vf else vq)), (.int (if vo = (0 : Int32) then vf else vx)), (.int (if vo = (1 : Int32) then vq else (if vo = (3 : Int32) then vq else vf))), (.int (0 : Int32)), (.int (0 : Int32)), (.int (0 : Int32))] (.int (0 : Int32)) := Arv.set Ar80 kc80 Sz80 Nn80 Hs80 Gs80 (by rw [← na80]; exact fits_nar_char _) W80 2 (by first | decide | (show 2 < 6; decide)) (by first | decide | (show 2 < 6; decide))
  refine own_via (fun t kz => XS.aload X80.here hx rfl (hb hby at_246) rfl rfl kz) ?_
  refine own_via (fun t kz => XS.iconst X80.here hx rfl (hb hby at_248) kz) ?_
  refine own_via (fun t kz => XS.iload X80.here hx rfl (hb hby at_249) rfl kz) ?_
  refine own_via (fun t kz => XS.iconst X80.here hx rfl (hb hby at_251) kz) ?_
  show own_Go p e below _ (T80.setTop (mkF m 252 #[oI p0, oI p1, oI p2, oI vn, oI vm, oI vr, oI vo, oI vs, oI vq, oI vf, oI vx, oR a7, oR a54, .unset, .unset, .unset, .unset, .unset, .unset, .unset] [(.int (3 : Int32)), (.int vo), (.int (3 : Int32)), (.ref a54)]))
  have jn87 : ∀ t, Steps p.tables e below (T80.setTop (mkF m 262 #[oI p0, oI p1, oI p2, oI vn, oI vm, oI vr, oI vo, oI vs, oI vq, oI vf, oI vx, oR a7, oR a54, .unset, .unset, .unset, .unset, .unset, .unset, .unset] [(.int (if vo = (3 : Int32) then vq else vf)), (.int (3 : Int32)), (.ref a54)])) t → Steps p.tables e below (T80.setTop (mkF m 252 #[oI p0, oI p1, oI p2, oI vn, oI vm, oI vr, oI vo, oI vs, oI vq, oI vf, oI vx, oR a7, oR a54, .unset, .unset, .unset, .unset, .unset, .unset, .unset] [(.int (3 : Int32)), (.int vo), (.int (3 : Int32)), (.ref a54)])) t := by
    intro t k
    show Steps p.tables e below (T80.setTop (mkF m 252 #[oI p0, oI p1, oI p2, oI vn, oI vm, oI vr, oI vo, oI vs, oI vq, oI vf, oI vx, oR a7, oR a54, .unset, .unset, .unset, .unset, .unset, .unset, .unset] [(.int (3 : Int32)), (.int vo), (.int (3 : Int32)), (.ref a54)])) t
    by_cases hc252_86 : vo = (3 : Int32)
    · refine XS.icmpNo X80.here hx rfl (hb hby at_252) rfl (teq hc252_86).2 ?_
      refine XS.iload X80.here hx rfl (hb hby at_255) rfl ?_
      show Steps p.tables e below (T80.setTop (mkF m 257 #[oI p0, oI p1, oI p2, oI vn, oI vm, oI vr, oI vo, oI vs, oI vq, oI vf, oI vx, oR a7, oR a54, .unset, .unset, .unset, .unset, .unset, .unset, .unset] [(.int vq), (.int (3 : Int32)), (.ref a54)])) t
      refine XS.goto X80.here hx rfl (pc0 := 257) (pc' := 262) rfl (hb hby at_257) (by decide) (by decide) ?_
      first | (rw [if_pos hc252_86] at k; exact k) | (simp only [if_pos hc252_86] at k ⊢; exact k)
    · refine XS.icmpYes X80.here hx rfl (pc0 := 252) (pc' := 260) rfl (hb hby at_252) rfl (feq hc252_86).2 (by decide) (by decide) ?_
      refine XS.iload X80.here hx rfl (hb hby at_260) rfl ?_
      first | (rw [if_neg hc252_86] at k; exact k) | (simp only [if_neg hc252_86] at k ⊢; exact k)
  refine own_via jn87 ?_
  show own_Go p e below _ (T80.setTop (mkF m 262 #[oI p0, oI p1, oI p2, oI vn, oI vm, oI vr, oI vo, oI vs, oI vq, oI vf, oI vx, oR a7, oR a54, .unset, .unset, .unset, .unset, .unset, .unset, .unset] [(.int (if vo = (3 : Int32) then vq else vf)), (.int (3 : Int32)), (.ref a54)]))
  obtain ⟨cl88, Ar88, kc88, Sz88, Nn88, Hs88, Gs88⟩ := id V85
  obtain ⟨T88, h88, X88, e88, W88, st88⟩ := stC X80 hx hZ e80 Ar88 (j := (3 : Int32)) (inb_of Sz88 ⟨by decide, by decide⟩) (g := (mkF m 262 #[oI p0, oI p1, oI p2, oI vn, oI vm, oI vr, oI vo, oI vs, oI vq, oI vf, oI vx, oR a7, oR a54, .unset, .unset, .unset, .unset, .unset, .unset, .unset] [(.int (if vo = (3 : Int32) then vq else vf)), (.int (3 : Int32)), (.ref a54)])) rfl rfl (hb hby at_262)
  refine own_via st88 ?_
  have na88 : nar .char (if vo = (3 : Int32) then vq else vf) = (if vo = (3 : Int32) then vq else vf) := own_narc (own_chi (own_chq hq0) hf.1)
  rw [na88] at W88
  have O89 : Old Z n0 h88 := O81.wr W88 fr56
  have V90 := V82.other W88 (Nat.ne_of_lt lt55)
  have Zs91 : n0 ≤ h88.size := Nat.le_trans Zs83 (Keep.of_wr W88).1
  have N92 := Fr.snoc X88 N84 fr56
  have V93 : Arv Z h88 a54 k54 .char (6 : Int32) [(.int (if vo = (0 : Int32) then vf else vq)), (.int (if vo = (0 : Int32) then vf else vx)), (.int (if vo = (1 : Int32) then vq else (if vo = (3 : Int32) then vq else vf))), (.int (if vo = (3 : Int32) then vq else vf)), (.int (0 : Int32)), (.int (0 : Int32))] (.int (0 : Int32)) := Arv.set Ar88 kc88 Sz88 Nn88 Hs88 Gs88 (by rw [← na88]; exact fits_nar_char _) W88 3 (by first | decide | (show 3 < 6; decide)) (by first | decide | (show 3 < 6; decide))
  refine own_via (fun t kz => XS.aload X88.here hx rfl (hb hby at_263) rfl rfl kz) ?_
  refine own_via (fun t kz => XS.iconst X88.here hx rfl (hb hby at_265) kz) ?_
  refine own_via (fun t kz => XS.iload X88.here hx rfl (hb hby at_266) rfl kz) ?_
  refine own_via (fun t kz => XS.iconst X88.here hx rfl (hb hby at_268) kz) ?_
  show own_Go p e below _ (T88.setTop (mkF m 269 #[oI p0, oI p1, oI p2, oI vn, oI vm, oI vr, oI vo, oI vs, oI vq, oI vf, oI vx, oR a7, oR a54, .unset, .unset, .unset, .unset, .unset, .unset, .unset] [(.int (1 : Int32)), (.int vs), (.int (4 : Int32)), (.ref a54)]))
  have jn95 : ∀ t, Steps p.tables e below (T88.setTop (mkF m 279 #[oI p0, oI p1, oI p2, oI vn, oI vm, oI vr, oI vo, oI vs, oI vq, oI vf, oI vx, oR a7, oR a54, .unset, .unset, .unset, .unset, .unset, .unset, .unset] [(.int (if vs < (1 : Int32) then vf else (41 : Int32))), (.int (4 : Int32)), (.ref a54)])) t → Steps p.tables e below (T88.setTop (mkF m 269 #[oI p0, oI p1, oI p2, oI vn, oI vm, oI vr, oI vo, oI vs, oI vq, oI vf, oI vx, oR a7, oR a54, .unset, .unset, .unset, .unset, .unset, .unset, .unset] [(.int (1 : Int32)), (.int vs), (.int (4 : Int32)), (.ref a54)])) t := by
    intro t k
    show Steps p.tables e below (T88.setTop (mkF m 269 #[oI p0, oI p1, oI p2, oI vn, oI vm, oI vr, oI vo, oI vs, oI vq, oI vf, oI vx, oR a7, oR a54, .unset, .unset, .unset, .unset, .unset, .unset, .unset] [(.int (1 : Int32)), (.int vs), (.int (4 : Int32)), (.ref a54)])) t
    by_cases hc269_94 : vs < (1 : Int32)
    · refine XS.icmpYes X88.here hx rfl (pc0 := 269) (pc' := 277) rfl (hb hby at_269) rfl (tlt hc269_94).1 (by decide) (by decide) ?_
      refine XS.iload X88.here hx rfl (hb hby at_277) rfl ?_
      first | (rw [if_pos hc269_94] at k; exact k) | (simp only [if_pos hc269_94] at k ⊢; exact k)
    · refine XS.icmpNo X88.here hx rfl (hb hby at_269) rfl (flt hc269_94).1 ?_
      refine XS.bipush X88.here hx rfl (hb hby at_272) ?_
      show Steps p.tables e below (T88.setTop (mkF m 274 #[oI p0, oI p1, oI p2, oI vn, oI vm, oI vr, oI vo, oI vs, oI vq, oI vf, oI vx, oR a7, oR a54, .unset, .unset, .unset, .unset, .unset, .unset, .unset] [(.int (41 : Int32)), (.int (4 : Int32)), (.ref a54)])) t
      refine XS.goto X88.here hx rfl (pc0 := 274) (pc' := 279) rfl (hb hby at_274) (by decide) (by decide) ?_
      first | (rw [if_neg hc269_94] at k; exact k) | (simp only [if_neg hc269_94] at k ⊢; exact k)
  refine own_via jn95 ?_
  show own_Go p e below _ (T88.setTop (mkF m 279 #[oI p0, oI p1, oI p2, oI vn, oI vm, oI vr, oI vo, oI vs, oI vq, oI vf, oI vx, oR a7, oR a54, .unset, .unset, .unset, .unset, .unset, .unset, .unset] [(.int (if vs < (1 : Int32) then vf else (41 : Int32))), (.int (4 : Int32)), (.ref a54)]))
  obtain ⟨cl96, Ar96, kc96, Sz96, Nn96, Hs96, Gs96⟩ := id V93
  obtain ⟨T96, h96, X96, e96, W96, st96⟩ := stC X88 hx hZ e88 Ar96 (j := (4 : Int32)) (inb_of Sz96 ⟨by decide, by decide⟩) (g := (mkF m 279 #[oI p0, oI p1, oI p2, oI vn, oI vm, oI vr, oI vo, oI vs, oI vq, oI vf, oI vx, oR a7, oR a54, .unset, .unset, .unset, .unset, .unset, .unset, .unset] [(.int (if vs < (1 : Int32) then vf else (41 : Int32))), (.int (4 : Int32)), (.ref a54)])) rfl rfl (hb hby at_279)
  refine own_via st96 ?_
  have na96 : nar .char (if vs < (1 : Int32) then vf else (41 : Int32)) = (if vs < (1 : Int32) then vf else (41 : Int32)) := own_narc (own_chi hf.1 (own_chl (by decide) (by decide)))
  rw [na96] at W96
  have O97 : Old Z n0 h96 := O89.wr W96 fr56
  have V98 := V90.other W96 (Nat.ne_of_lt lt55)
  have Zs99 : n0 ≤ h96.size := Nat.le_trans Zs91 (Keep.of_wr W96).1
  have N100 := Fr.snoc X96 N92 fr56
  have V101 : Arv Z h96 a54 k54 .char (6 : Int32) [(.int (if vo = (0 : Int32) then vf else vq)), (.int (if vo = (0 : Int32) then vf else vx)), (.int (if vo = (1 : Int32) then vq else (if vo = (3 : Int32) then vq else vf))), (.int (if vo = (3 : Int32) then vq else vf)), (.int (if vs < (1 : Int32) then vf else (41 : Int32))), (.int (0 : Int32))] (.int (0 : Int32)) := Arv.set Ar96 kc96 Sz96 Nn96 Hs96 Gs96 (by rw [← na96]; exact fits_nar_char _) W96 4 (by first | decide | (show 4 < 6; decide)) (by first | decide | (show 4 < 6; decide))
  refine own_via (fun t kz => XS.aload X96.here hx rfl (hb hby at_280) rfl rfl kz) ?_
  refine own_via (fun t kz => XS.iconst X96.here hx rfl (hb hby at_282) kz) ?_
  refine own_via (fun t kz => XS.iload X96.here hx rfl (hb hby at_283) rfl kz) ?_
  refine own_via (fun t kz => XS.iconst X96.here hx rfl (hb hby at_285) kz) ?_
  show own_Go p e below _ (T96.setTop (mkF m 286 #[oI p0, oI p1, oI p2, oI vn, oI vm, oI vr, oI vo, oI vs, oI vq, oI vf, oI vx, oR a7, oR a54, .unset, .unset, .unset, .unset, .unset, .unset, .unset] [(.int (2 : Int32)), (.int vs), (.int (5 : Int32)), (.ref a54)]))
  have jn103 : ∀ t, Steps p.tables e below (T96.setTop (mkF m 296 #[oI p0, oI p1, oI p2, oI vn, oI vm, oI vr, oI vo, oI vs, oI vq, oI vf, oI vx, oR a7, oR a54, .unset, .unset, .unset, .unset, .unset, .unset, .unset] [(.int (if vs < (2 : Int32) then vf else (41 : Int32))), (.int (5 : Int32)), (.ref a54)])) t → Steps p.tables e below (T96.setTop (mkF m 286 #[oI p0, oI p1, oI p2, oI vn, oI vm, oI vr, oI vo, oI vs, oI vq, oI vf, oI vx, oR a7, oR a54, .unset, .unset, .unset, .unset, .unset, .unset, .unset] [(.int (2 : Int32)), (.int vs), (.int (5 : Int32)), (.ref a54)])) t := by
    intro t k
    show Steps p.tables e below (T96.setTop (mkF m 286 #[oI p0, oI p1, oI p2, oI vn, oI vm, oI vr, oI vo, oI vs, oI vq, oI vf, oI vx, oR a7, oR a54, .unset, .unset, .unset, .unset, .unset, .unset, .unset] [(.int (2 : Int32)), (.int vs), (.int (5 : Int32)), (.ref a54)])) t
    by_cases hc286_102 : vs < (2 : Int32)
    · refine XS.icmpYes X96.here hx rfl (pc0 := 286) (pc' := 294) rfl (hb hby at_286) rfl (tlt hc286_102).1 (by decide) (by decide) ?_
      refine XS.iload X96.here hx rfl (hb hby at_294) rfl ?_
      first | (rw [if_pos hc286_102] at k; exact k) | (simp only [if_pos hc286_102] at k ⊢; exact k)
    · refine XS.icmpNo X96.here hx rfl (hb hby at_286) rfl (flt hc286_102).1 ?_
      refine XS.bipush X96.here hx rfl (hb hby at_289) ?_
      show Steps p.tables e below (T96.setTop (mkF m 291 #[oI p0, oI p1, oI p2, oI vn, oI vm, oI vr, oI vo, oI vs, oI vq, oI vf, oI vx, oR a7, oR a54, .unset, .unset, .unset, .unset, .unset, .unset, .unset] [(.int (41 : Int32)), (.int (5 : Int32)), (.ref a54)])) t
      refine XS.goto X96.here hx rfl (pc0 := 291) (pc' := 296) rfl (hb hby at_291) (by decide) (by decide) ?_
      first | (rw [if_neg hc286_102] at k; exact k) | (simp only [if_neg hc286_102] at k ⊢; exact k)
  refine own_via jn103 ?_
  show own_Go p e below _ (T96.setTop (mkF m 296 #[oI p0, oI p1, oI p2, oI vn, oI vm, oI vr, oI vo, oI vs, oI vq, oI vf, oI vx, oR a7, oR a54, .unset, .unset, .unset, .unset, .unset, .unset, .unset] [(.int (if vs < (2 : Int32) then vf else (41 : Int32))), (.int (5 : Int32)), (.ref a54)]))
  obtain ⟨cl104, Ar104, kc104, Sz104, Nn104, Hs104, Gs104⟩ := id V101
  obtain ⟨T104, h104, X104, e104, W104, st104⟩ := stC X96 hx hZ e96 Ar104 (j := (5 : Int32)) (inb_of Sz104 ⟨by decide, by decide⟩) (g := (mkF m 296 #[oI p0, oI p1, oI p2, oI vn, oI vm, oI vr, oI vo, oI vs, oI vq, oI vf, oI vx, oR a7, oR a54, .unset, .unset, .unset, .unset, .unset, .unset, .unset] [(.int (if vs < (2 : Int32) then vf else (41 : Int32))), (.int (5 : Int32)), (.ref a54)])) rfl rfl (hb hby at_296)
  refine own_via st104 ?_
  have na104 : nar .char (if vs < (2 : Int32) then vf else (41 : Int32)) = (if vs < (2 : Int32) then vf else (41 : Int32)) := own_narc (own_chi hf.1 (own_chl (by decide) (by decide)))
  rw [na104] at W104
  have O105 : Old Z n0 h104 := O97.wr W104 fr56
  have V106 := V98.other W104 (Nat.ne_of_lt lt55)
  have Zs107 : n0 ≤ h104.size := Nat.le_trans Zs99 (Keep.of_wr W104).1
  have N108 := Fr.snoc X104 N100 fr56
  have V109 : Arv Z h104 a54 k54 .char (6 : Int32) [(.int (if vo = (0 : Int32) then vf else vq)), (.int (if vo = (0 : Int32) then vf else vx)), (.int (if vo = (1 : Int32) then vq else (if vo = (3 : Int32) then vq else vf))), (.int (if vo = (3 : Int32) then vq else vf)), (.int (if vs < (1 : Int32) then vf else (41 : Int32))), (.int (if vs < (2 : Int32) then vf else (41 : Int32)))] (.int (0 : Int32)) := Arv.set Ar104 kc104 Sz104 Nn104 Hs104 Gs104 (by rw [← na104]; exact fits_nar_char _) W104 5 (by first | decide | (show 5 < 6; decide)) (by first | decide | (show 5 < 6; decide))
  show own_Go p e below _ (T104.setTop (mkF m 297 #[oI p0, oI p1, oI p2, oI vn, oI vm, oI vr, oI vo, oI vs, oI vq, oI vf, oI vx, oR a7, oR a54, .unset, .unset, .unset, .unset, .unset, .unset, .unset] []))
  obtain ⟨T110, h110, X110, e110, E110, A110, D110, -, st110⟩ := newO X104 hx hZ hown (own_w hw 6) (own_w hw 7) (own_w hw 8) e104 (g := (mkF m 297 #[oI p0, oI p1, oI p2, oI vn, oI vm, oI vr, oI vo, oI vs, oI vq, oI vf, oI vx, oR a7, oR a54, .unset, .unset, .unset, .unset, .unset, .unset, .unset] [])) rfl (hb hby at_297) (by decide) (by decide)
  obtain ⟨a110, g110⟩ : ∃ z, z = h104.size := ⟨_, rfl⟩
  rw [← g110] at A110 D110 st110
  refine own_via st110 ?_
  have lt111 : a7 < a110 := Nat.lt_of_lt_of_le V106.lt (Nat.le_of_eq g110.symm)
  have lt112 : a54 < a110 := Nat.lt_of_lt_of_le V109.lt (Nat.le_of_eq g110.symm)
  have fr113 : n0 ≤ a110 := Nat.le_trans Zs107 (Nat.le_of_eq g110.symm)
  have O114 : Old Z n0 h110 := O105.ext E110
  have V115 := V106.ext E110
  have V116 := V109.ext E110
  have Zs117 : n0 ≤ h110.size := Nat.le_trans Zs107 E110.1
  have F118 : Fld Z h110 a110 "com/example/quiescence/quiescence/model/SExpression$Balance" "stray" "Z" (.int (0 : Int32)) := D110 (Or.inl (own_w hw 62)) (ty := .boolean) (by decide)
  have F119 : Fld Z h110 a110 "com/example/quiescence/quiescence/model/SExpression$Balance" "closing" "C" (.int (0 : Int32)) := D110 (Or.inl (own_w hw 89)) (ty := .char) (by decide)
  have F120 : Fld Z h110 a110 "com/example/quiescence/quiescence/model/SExpression$Balance" "depth" "I" (.int (0 : Int32)) := D110 (Or.inl (own_w hw 96)) (ty := .int) (by decide)
  refine own_via (fun t kz => XS.dup X110.here hx rfl (hb hby at_300) rfl rfl kz) ?_
  show own_Go p e below _ (T110.setTop (mkF m 301 #[oI p0, oI p1, oI p2, oI vn, oI vm, oI vr, oI vo, oI vs, oI vq, oI vf, oI vx, oR a7, oR a54, .unset, .unset, .unset, .unset, .unset, .unset, .unset] [(.ref a110), (.ref a110)]))
  obtain ⟨_, _, ⟨T121, L121, k121, n121⟩, -, X121, ⟨Lc121, hQ121, l121, y121, z121⟩, st121⟩ := X110.specialBack hx (y := (⟨"com/example/quiescence/quiescence/model/SExpression$Balance", "<init>", "()V"⟩ : MethodName)) rfl hown (mvT hZ (own_w hw 9)) (mvT hZ (own_w hw 10)) (mvT hZ (own_w hw 11)) (by decide) (backOf (W := 1) (rm2 l Z a0 hw [] a110 h110 n0 Zs117) hZ (own_w hw 11) (own_w hw 8) (by decide) (by decide)) (g := (mkF m 301 #[oI p0, oI p1, oI p2, oI vn, oI vm, oI vr, oI vo, oI vs, oI vq, oI vf, oI vx, oR a7, oR a54, .unset, .unset, .unset, .unset, .unset, .unset, .unset] [(.ref a110), (.ref a110)])) rfl (by rw [hml]; rfl) (Steps.refl _) (a := a110) (argsL := []) (rest := [(.ref a110)]) (lenOf pd_0_1 rfl) rfl (by show 2 * 0 + _ ≤ _; exact Nat.le_of_eq rfl) (hb hby at_301) (fun _ _ => ⟨rfl, e110, (by decide : 3 + 0 ≤ _), (by decide : 15 + 0 ≤ _)⟩)
  dsimp only [Pt.U, Pt.locs, Pt.cells, Pt.slots] at X121 l121 y121 z121 st121 hQ121
  subst l121 y121 z121
  obtain ⟨rfl, Nq121, e121⟩ := hQ121
  have N122 := Fr.app N108 Nq121
  refine own_tr st121 ?_
  refine own_via (fun t kz => XS.astore X121.here hx rfl (hb hby at_304) rfl rfl (l' := #[oI p0, oI p1, oI p2, oI vn, oI vm, oI vr, oI vo, oI vs, oI vq, oI vf, oI vx, oR a7, oR a54, oR a110, .unset, .unset, .unset, .unset, .unset, .unset]) rfl kz) ?_
  refine own_via (fun t kz => XS.aload X121.here hx rfl (hb hby at_306) rfl rfl kz) ?_
  show own_Go p e below _ (T121.setTop (mkF m 308 #[oI p0, oI p1, oI p2, oI vn, oI vm, oI vr, oI vo, oI vs, oI vq, oI vf, oI vx, oR a7, oR a54, oR a110, .unset, .unset, .unset, .unset, .unset, .unset] [(.ref a110)]))
  obtain ⟨T123, h123, X123, e123, E123, A123, D123, -, st123⟩ := newO X121 hx hZ hown (own_w hw 15) (own_w hw 16) (own_w hw 17) e121 (g := (mkF m 308 #[oI p0, oI p1, oI p2, oI vn, oI vm, oI vr, oI vo, oI vs, oI vq, oI vf, oI vx, oR a7, oR a54, oR a110, .unset, .unset, .unset, .unset, .unset, .unset] [(.ref a110)])) rfl (hb hby at_308) (by decide) (by decide)
  obtain ⟨a123, g123⟩ : ∃ z, z = h110.size := ⟨_, rfl⟩
  rw [← g123] at A123 D123 st123
  refine own_via st123 ?_
  have lt124 : a7 < a123 := Nat.lt_of_lt_of_le V115.lt (Nat.le_of_eq g123.symm)
  have lt125 : a54 < a123 := Nat.lt_of_lt_of_le V116.lt (Nat.le_of_eq g123.symm)
  have lt126 : a110 < a123 := Nat.lt_of_lt_of_le A110.lt (Nat.le_of_eq g123.symm)
  have fr127 : n0 ≤ a123 := Nat.le_trans Zs117 (Nat.le_of_eq g123.symm)
  have O128 : Old Z n0 h123 := O114.ext E123
  have V129 := V115.ext E123
  have V130 := V116.ext E123
  have E131 := A110.ext E123
  have F132 := F118.ext E123
  have F133 := F119.ext E123
  have F134 := F120.ext E123
  have Zs135 : n0 ≤ h123.size := Nat.le_trans Zs117 E123.1
  have F136 : Fld Z h123 a123 "java/lang/String" "coder" "B" (.int (0 : Int32)) := D123 (Or.inr (own_w hw 39)) (ty := .byte) (by decide)
  have F137 : Fld Z h123 a123 "java/lang/String" "value" "[B" .null := D123 (Or.inr (own_w hw 41)) (ty := (.array .byte)) (by decide)
  refine own_via (fun t kz => XS.dup X123.here hx rfl (hb hby at_311) rfl rfl kz) ?_
  refine own_via (fun t kz => XS.aload X123.here hx rfl (hb hby at_312) rfl rfl kz) ?_
  show own_Go p e below _ (T123.setTop (mkF m 314 #[oI p0, oI p1, oI p2, oI vn, oI vm, oI vr, oI vo, oI vs, oI vq, oI vf, oI vx, oR a7, oR a54, oR a110, .unset, .unset, .unset, .unset, .unset, .unset] [(.ref a7), (.ref a123), (.ref a123), (.ref a110)]))
  obtain ⟨_, _, ⟨T138, L138, k138, n138⟩, -, X138, ⟨Lc138, hQ138, l138, y138, z138⟩, st138⟩ := X123.specialBack hx (y := (⟨"java/lang/String", "<init>", "([C)V"⟩ : MethodName)) rfl hown (mvT hZ (own_w hw 18)) (mvT hZ (own_w hw 19)) (mvT hZ (own_w hw 20)) (by decide) (backOf (W := 2) (rmI_6 l Z a0 hw [] a123 a7 k7 (if vn < (1 : Int32) then vf else (40 : Int32)) (if vn < (2 : Int32) then vf else (40 : Int32)) (if vm < (1 : Int32) then vf else (41 : Int32)) (if vm < (2 : Int32) then vf else (41 : Int32)) (if vm < (3 : Int32) then vf else (41 : Int32)) (if vr = (1 : Int32) then (40 : Int32) else vf) wcs wsf h123 n0 Zs135 fr127 A123 F137 F136 V129 (Nat.ne_of_lt lt124) (own_chi hf.1 (own_chl (by decide) (by decide))) (own_chi hf.1 (own_chl (by decide) (by decide))) (own_chi hf.1 (own_chl (by decide) (by decide))) (own_chi hf.1 (own_chl (by decide) (by decide))) (own_chi hf.1 (own_chl (by decide) (by decide))) (own_chi (own_chl (by decide) (by decide)) hf.1) O128 hcs rsf B_wcs B_wsf B_wad B_whi B_wlo) hZ (own_w hw 20) (own_w hw 17) (by decide) (by decide)) (g := (mkF m 314 #[oI p0, oI p1, oI p2, oI vn, oI vm, oI vr, oI vo, oI vs, oI vq, oI vf, oI vx, oR a7, oR a54, oR a110, .unset, .unset, .unset, .unset, .unset, .unset] [(.ref a7), (.ref a123), (.ref a123), (.ref a110)])) rfl (by rw [hml]; rfl) (Steps.refl _) (a := a123) (argsL := [(.ref a7)]) (rest := [(.ref a123), (.ref a110)]) (lenOf pd_0_2 rfl) rfl (by show 2 * 0 + _ ≤ _; exact Nat.le_of_eq rfl) (hb hby at_314) (fun _ _ => ⟨rfl, e123, (by decide : 4 + 2 ≤ _), (by decide : 19 + 18 ≤ _)⟩)
  dsimp only [Pt.U, Pt.locs, Pt.cells, Pt.slots] at X138 l138 y138 z138 st138 hQ138
  subst l138 y138 z138
  obtain ⟨rfl, Nq138, Kc138, SR138⟩ := hQ138
  have N139 := Fr.app N122 Nq138
  refine own_tr st138 ?_
  have O140 : Old Z n0 T138.heap := O128.keep Kc138 (allS fr127 all0)
  have V141 := V129.keep Kc138 (ninS (Nat.ne_of_lt lt124) nin0)
  have V142 := V130.keep Kc138 (ninS (Nat.ne_of_lt lt125) nin0)
  have E143 := E131.keep Kc138
  have F144 := F132.keep Kc138 (ninS (Nat.ne_of_lt lt126) nin0)
  have F145 := F133.keep Kc138 (ninS (Nat.ne_of_lt lt126) nin0)
  have F146 := F134.keep Kc138 (ninS (Nat.ne_of_lt lt126) nin0)
  have E147 := A123.keep Kc138
  have Zs148 : n0 ≤ T138.heap.size := Nat.le_trans Zs135 Kc138.1
  show own_Go p e below _ (T138.setTop (mkF m 317 #[oI p0, oI p1, oI p2, oI vn, oI vm, oI vr, oI vo, oI vs, oI vq, oI vf, oI vx, oR a7, oR a54, oR a110, .unset, .unset, .unset, .unset, .unset, .unset] [(.ref a123), (.ref a110)]))
  obtain ⟨cq149, kq149, qa149, qb149, qc149⟩ := isOf hZ rfl E143
  obtain ⟨_, _, ⟨T149, L149, k149, n149⟩, -, X149, ⟨Lc149, hQ149, l149, y149, z149⟩, st149⟩ := X138.virtualBack hx (y := (⟨"com/example/quiescence/quiescence/model/SExpression$Balance", "add", "(Ljava/lang/CharSequence;)V"⟩ : MethodName)) (z := (⟨"com/example/quiescence/quiescence/model/SExpression$Balance", "add", "(Ljava/lang/CharSequence;)V"⟩ : MethodName)) hown (mvT hZ (own_w hw 42)) (mvT hZ (own_w hw 43)) (notFace_of_selects (args := #[]) (mvT hZ (own_w hw 45))) (mvT hZ (own_w hw 45)) (mvT hZ (own_w hw 44)) (by decide) (backOf (W := 0) (rmAdd l Z a0 hw [] a110 a123 own_B0 (if vn < (1 : Int32) then vf else (40 : Int32)) (if vn < (2 : Int32) then vf else (40 : Int32)) (if vm < (1 : Int32) then vf else (41 : Int32)) (if vm < (2 : Int32) then vf else (41 : Int32)) (if vm < (3 : Int32) then vf else (41 : Int32)) (if vr = (1 : Int32) then (40 : Int32) else vf) wcs wsf T138.heap n0 Zs148 fr113 lt126 E143 F146 F144 F145 SR138 (own_chi hf.1 (own_chl (by decide) (by decide))) (own_chi hf.1 (own_chl (by decide) (by decide))) (own_chi hf.1 (own_chl (by decide) (by decide))) (own_chi hf.1 (own_chl (by decide) (by decide))) (own_chi hf.1 (own_chl (by decide) (by decide))) (own_chi (own_chl (by decide) (by decide)) hf.1) O140 hcs rsf B_wcs B_wsf B_wad B_whi B_wlo (own_chl (by decide) (by decide))) hZ (own_w hw 46) (own_w hw 8) (by decide) (by decide)) qa149 qc149 (g := (mkF m 317 #[oI p0, oI p1, oI p2, oI vn, oI vm, oI vr, oI vo, oI vs, oI vq, oI vf, oI vx, oR a7, oR a54, oR a110, .unset, .unset, .unset, .unset, .unset, .unset] [(.ref a123), (.ref a110)])) rfl (by rw [hml]; rfl) (Steps.refl _) (argsL := [(.ref a123)]) (rest := []) (lenOf pd_0_3 rfl) rfl (by show 2 * 0 + _ ≤ _; exact Nat.le_of_eq rfl) (hb hby at_317) (fun _ _ => ⟨rfl, rfl, (by decide : 6 + 0 ≤ _), (by decide : 37 + 0 ≤ _)⟩)
  dsimp only [Pt.U, Pt.locs, Pt.cells, Pt.slots] at X149 l149 y149 z149 st149 hQ149
  subst l149 y149 z149
  obtain ⟨rfl, Nq149, Kc149, Fd149, Fs149, Fc149⟩ := hQ149
  have N150 := Fr.app N139 Nq149
  refine own_tr st149 ?_
  have O151 : Old Z n0 T149.heap := O140.keep Kc149 (allS fr113 all0)
  have V152 := V141.keep Kc149 (ninS (Nat.ne_of_lt lt111) nin0)
  have V153 := V142.keep Kc149 (ninS (Nat.ne_of_lt lt112) nin0)
  have E154 := E143.keep Kc149
  have E155 := E147.keep Kc149
  have Zs156 : n0 ≤ T149.heap.size := Nat.le_trans Zs148 Kc149.1
  obtain ⟨R149, hR149⟩ : ∃ R, R = own_run own_B0 (if vn < (1 : Int32) then vf else (40 : Int32)) (if vn < (2 : Int32) then vf else (40 : Int32)) (if vm < (1 : Int32) then vf else (41 : Int32)) (if vm < (2 : Int32) then vf else (41 : Int32)) (if vm < (3 : Int32) then vf else (41 : Int32)) (if vr = (1 : Int32) then (40 : Int32) else vf) := ⟨_, rfl⟩
  rw [← hR149] at Fd149 Fs149 Fc149
  have hqR149 : own_ch R149.2.2 := by rw [hR149]; exact own_runch (own_chl (by decide) (by decide)) (own_chi hf.1 (own_chl (by decide) (by decide))) (own_chi hf.1 (own_chl (by decide) (by decide))) (own_chi hf.1 (own_chl (by decide) (by decide))) (own_chi hf.1 (own_chl (by decide) (by decide))) (own_chi hf.1 (own_chl (by decide) (by decide))) (own_chi (own_chl (by decide) (by decide)) hf.1)
  refine own_via (fun t kz => XS.aload X149.here hx rfl (hb hby at_320) rfl rfl kz) ?_
  show own_Go p e below _ (T149.setTop (mkF m 322 #[oI p0, oI p1, oI p2, oI vn, oI vm, oI vr, oI vo, oI vs, oI vq, oI vf, oI vx, oR a7, oR a54, oR a110, .unset, .unset, .unset, .unset, .unset, .unset] [(.ref a110)]))
  obtain ⟨cq157, kq157, qa157, qb157, qc157⟩ := isOf hZ rfl E154
  obtain ⟨_, _, ⟨T157, L157, k157, n157⟩, -, X157, ⟨Lc157, hQ157, l157, y157, z157⟩, st157⟩ := X149.virtualBack hx (y := (⟨"com/example/quiescence/quiescence/model/SExpression$Balance", "open", "()Z"⟩ : MethodName)) (z := (⟨"com/example/quiescence/quiescence/model/SExpression$Balance", "open", "()Z"⟩ : MethodName)) hown (mvT hZ (own_w hw 90)) (mvT hZ (own_w hw 91)) (notFace_of_selects (args := #[]) (mvT hZ (own_w hw 93))) (mvT hZ (own_w hw 93)) (mvT hZ (own_w hw 92)) (by decide) (backOf (W := 0) (rm17 l Z a0 hw [] a110 R149.1 R149.2.1 R149.2.2 (f17 R149.1 R149.2.1 R149.2.2) T149.heap n0 Zs156 Fd149 Fs149 Fc149 rfl) hZ (own_w hw 94) (own_w hw 8) (by decide) (by decide)) qa157 qc157 (g := (mkF m 322 #[oI p0, oI p1, oI p2, oI vn, oI vm, oI vr, oI vo, oI vs, oI vq, oI vf, oI vx, oR a7, oR a54, oR a110, .unset, .unset, .unset, .unset, .unset, .unset] [(.ref a110)])) rfl (by rw [hml]; rfl) (Steps.refl _) (argsL := []) (rest := []) (lenOf pd_0_4 rfl) rfl (by show 2 * 0 + _ ≤ _; exact Nat.le_of_eq rfl) (hb hby at_322) (fun _ _ => ⟨rfl, rfl, (by decide : 6 + 0 ≤ _), (by decide : 37 + 0 ≤ _)⟩)
  dsimp only [Pt.U, Pt.locs, Pt.cells, Pt.slots] at X157 l157 y157 z157 st157 hQ157
  subst l157 y157 z157
  obtain ⟨rfl, Nq157, e157⟩ := hQ157
  have N158 := Fr.app N150 Nq157
  refine own_tr st157 ?_
  refine own_via (fun t kz => XS.istore X157.here hx rfl (hb hby at_325) rfl (l' := #[oI p0, oI p1, oI p2, oI vn, oI vm, oI vr, oI vo, oI vs, oI vq, oI vf, oI vx, oR a7, oR a54, oR a110, oI (f17 R149.1 R149.2.1 R149.2.2), .unset, .unset, .unset, .unset, .unset]) rfl kz) ?_
  refine own_via (fun t kz => XS.aload X157.here hx rfl (hb hby at_327) rfl rfl kz) ?_
  show own_Go p e below _ (T157.setTop (mkF m 329 #[oI p0, oI p1, oI p2, oI vn, oI vm, oI vr, oI vo, oI vs, oI vq, oI vf, oI vx, oR a7, oR a54, oR a110, oI (f17 R149.1 R149.2.1 R149.2.2), .unset, .unset, .unset, .unset, .unset] [(.ref a110)]))
  obtain ⟨T159, h159, X159, e159, E159, A159, D159, -, st159⟩ := newO X157 hx hZ hown (own_w hw 15) (own_w hw 16) (own_w hw 17) e157 (g := (mkF m 329 #[oI p0, oI p1, oI p2, oI vn, oI vm, oI vr, oI vo, oI vs, oI vq, oI vf, oI vx, oR a7, oR a54, oR a110, oI (f17 R149.1 R149.2.1 R149.2.2), .unset, .unset, .unset, .unset, .unset] [(.ref a110)])) rfl (hb hby at_329) (by decide) (by decide)
  obtain ⟨a159, g159⟩ : ∃ z, z = T149.heap.size := ⟨_, rfl⟩
  rw [← g159] at A159 D159 st159
  refine own_via st159 ?_
  have lt160 : a7 < a159 := Nat.lt_of_lt_of_le V152.lt (Nat.le_of_eq g159.symm)
  have lt161 : a54 < a159 := Nat.lt_of_lt_of_le V153.lt (Nat.le_of_eq g159.symm)
  have lt162 : a110 < a159 := Nat.lt_of_lt_of_le E154.lt (Nat.le_of_eq g159.symm)
  have lt163 : a123 < a159 := Nat.lt_of_lt_of_le E155.lt (Nat.le_of_eq g159.symm)
  have fr164 : n0 ≤ a159 := Nat.le_trans Zs156 (Nat.le_of_eq g159.symm)
  have O165 : Old Z n0 h159 := O151.ext E159
  have V166 := V152.ext E159
  have V167 := V153.ext E159
  have E168 := E154.ext E159
  have E169 := E155.ext E159
  have F170 := Fd149.ext E159
  have F171 := Fs149.ext E159
  have F172 := Fc149.ext E159
  have Zs173 : n0 ≤ h159.size := Nat.le_trans Zs156 E159.1
  have F174 : Fld Z h159 a159 "java/lang/String" "coder" "B" (.int (0 : Int32)) := D159 (Or.inr (own_w hw 39)) (ty := .byte) (by decide)
  have F175 : Fld Z h159 a159 "java/lang/String" "value" "[B" .null := D159 (Or.inr (own_w hw 41)) (ty := (.array .byte)) (by decide)
  refine own_via (fun t kz => XS.dup X159.here hx rfl (hb hby at_332) rfl rfl kz) ?_
  refine own_via (fun t kz => XS.aload X159.here hx rfl (hb hby at_333) rfl rfl kz) ?_
  show own_Go p e below _ (T159.setTop (mkF m 335 #[oI p0, oI p1, oI p2, oI vn, oI vm, oI vr, oI vo, oI vs, oI vq, oI vf, oI vx, oR a7, oR a54, oR a110, oI (f17 R149.1 R149.2.1 R149.2.2), .unset, .unset, .unset, .unset, .unset] [(.ref a54), (.ref a159), (.ref a159), (.ref a110)]))
  obtain ⟨_, _, ⟨T176, L176, k176, n176⟩, -, X176, ⟨Lc176, hQ176, l176, y176, z176⟩, st176⟩ := X159.specialBack hx (y := (⟨"java/lang/String", "<init>", "([C)V"⟩ : MethodName)) rfl hown (mvT hZ (own_w hw 18)) (mvT hZ (own_w hw 19)) (mvT hZ (own_w hw 20)) (by decide) (backOf (W := 2) (rmI_6 l Z a0 hw [] a159 a54 k54 (if vo = (0 : Int32) then vf else vq) (if vo = (0 : Int32) then vf else vx) (if vo = (1 : Int32) then vq else (if vo = (3 : Int32) then vq else vf)) (if vo = (3 : Int32) then vq else vf) (if vs < (1 : Int32) then vf else (41 : Int32)) (if vs < (2 : Int32) then vf else (41 : Int32)) wcs wsf h159 n0 Zs173 fr164 A159 F175 F174 V167 (Nat.ne_of_lt lt161) (own_chi hf.1 (own_chq hq0)) (own_chi hf.1 hx0.1) (own_chi (own_chq hq0) (own_chi (own_chq hq0) hf.1)) (own_chi (own_chq hq0) hf.1) (own_chi hf.1 (own_chl (by decide) (by decide))) (own_chi hf.1 (own_chl (by decide) (by decide))) O165 hcs rsf B_wcs B_wsf B_wad B_whi B_wlo) hZ (own_w hw 20) (own_w hw 17) (by decide) (by decide)) (g := (mkF m 335 #[oI p0, oI p1, oI p2, oI vn, oI vm, oI vr, oI vo, oI vs, oI vq, oI vf, oI vx, oR a7, oR a54, oR a110, oI (f17 R149.1 R149.2.1 R149.2.2), .unset, .unset, .unset, .unset, .unset] [(.ref a54), (.ref a159), (.ref a159), (.ref a110)])) rfl (by rw [hml]; rfl) (Steps.refl _) (a := a159) (argsL := [(.ref a54)]) (rest := [(.ref a159), (.ref a110)]) (lenOf pd_0_2 rfl) rfl (by show 2 * 0 + _ ≤ _; exact Nat.le_of_eq rfl) (hb hby at_335) (fun _ _ => ⟨rfl, e159, (by decide : 7 + 2 ≤ _), (by decide : 41 + 18 ≤ _)⟩)
  dsimp only [Pt.U, Pt.locs, Pt.cells, Pt.slots] at X176 l176 y176 z176 st176 hQ176
  subst l176 y176 z176
  obtain ⟨rfl, Nq176, Kc176, SR176⟩ := hQ176
  have N177 := Fr.app N158 Nq176
  refine own_tr st176 ?_
  have O178 : Old Z n0 T176.heap := O165.keep Kc176 (allS fr164 all0)
  have V179 := V166.keep Kc176 (ninS (Nat.ne_of_lt lt160) nin0)
  have V180 := V167.keep Kc176 (ninS (Nat.ne_of_lt lt161) nin0)
  have E181 := E168.keep Kc176
  have E182 := E169.keep Kc176
  have F183 := F170.keep Kc176 (ninS (Nat.ne_of_lt lt162) nin0)
  have F184 := F171.keep Kc176 (ninS (Nat.ne_of_lt lt162) nin0)
  have F185 := F172.keep Kc176 (ninS (Nat.ne_of_lt lt162) nin0)
  have E186 := A159.keep Kc176
  have Zs187 : n0 ≤ T176.heap.size := Nat.le_trans Zs173 Kc176.1
  show own_Go p e below _ (T176.setTop (mkF m 338 #[oI p0, oI p1, oI p2, oI vn, oI vm, oI vr, oI vo, oI vs, oI vq, oI vf, oI vx, oR a7, oR a54, oR a110, oI (f17 R149.1 R149.2.1 R149.2.2), .unset, .unset, .unset, .unset, .unset] [(.ref a159), (.ref a110)]))
  obtain ⟨cq188, kq188, qa188, qb188, qc188⟩ := isOf hZ rfl E181
  obtain ⟨_, _, ⟨T188, L188, k188, n188⟩, -, X188, ⟨Lc188, hQ188, l188, y188, z188⟩, st188⟩ := X176.virtualBack hx (y := (⟨"com/example/quiescence/quiescence/model/SExpression$Balance", "add", "(Ljava/lang/CharSequence;)V"⟩ : MethodName)) (z := (⟨"com/example/quiescence/quiescence/model/SExpression$Balance", "add", "(Ljava/lang/CharSequence;)V"⟩ : MethodName)) hown (mvT hZ (own_w hw 42)) (mvT hZ (own_w hw 43)) (notFace_of_selects (args := #[]) (mvT hZ (own_w hw 45))) (mvT hZ (own_w hw 45)) (mvT hZ (own_w hw 44)) (by decide) (backOf (W := 0) (rmAdd l Z a0 hw [] a110 a159 R149 (if vo = (0 : Int32) then vf else vq) (if vo = (0 : Int32) then vf else vx) (if vo = (1 : Int32) then vq else (if vo = (3 : Int32) then vq else vf)) (if vo = (3 : Int32) then vq else vf) (if vs < (1 : Int32) then vf else (41 : Int32)) (if vs < (2 : Int32) then vf else (41 : Int32)) wcs wsf T176.heap n0 Zs187 fr113 lt162 E181 F183 F184 F185 SR176 (own_chi hf.1 (own_chq hq0)) (own_chi hf.1 hx0.1) (own_chi (own_chq hq0) (own_chi (own_chq hq0) hf.1)) (own_chi (own_chq hq0) hf.1) (own_chi hf.1 (own_chl (by decide) (by decide))) (own_chi hf.1 (own_chl (by decide) (by decide))) O178 hcs rsf B_wcs B_wsf B_wad B_whi B_wlo hqR149) hZ (own_w hw 46) (own_w hw 8) (by decide) (by decide)) qa188 qc188 (g := (mkF m 338 #[oI p0, oI p1, oI p2, oI vn, oI vm, oI vr, oI vo, oI vs, oI vq, oI vf, oI vx, oR a7, oR a54, oR a110, oI (f17 R149.1 R149.2.1 R149.2.2), .unset, .unset, .unset, .unset, .unset] [(.ref a159), (.ref a110)])) rfl (by rw [hml]; rfl) (Steps.refl _) (argsL := [(.ref a159)]) (rest := []) (lenOf pd_0_3 rfl) rfl (by show 2 * 0 + _ ≤ _; exact Nat.le_of_eq rfl) (hb hby at_338) (fun _ _ => ⟨rfl, rfl, (by decide : 9 + 0 ≤ _), (by decide : 59 + 0 ≤ _)⟩)
  dsimp only [Pt.U, Pt.locs, Pt.cells, Pt.slots] at X188 l188 y188 z188 st188 hQ188
  subst l188 y188 z188
  obtain ⟨rfl, Nq188, Kc188, Fd188, Fs188, Fc188⟩ := hQ188
  have N189 := Fr.app N177 Nq188
  refine own_tr st188 ?_
  have O190 : Old Z n0 T188.heap := O178.keep Kc188 (allS fr113 all0)
  have V191 := V179.keep Kc188 (ninS (Nat.ne_of_lt lt111) nin0)
  have V192 := V180.keep Kc188 (ninS (Nat.ne_of_lt lt112) nin0)
  have E193 := E181.keep Kc188
  have E194 := E182.keep Kc188
  have E195 := E186.keep Kc188
  have Zs196 : n0 ≤ T188.heap.size := Nat.le_trans Zs187 Kc188.1
  obtain ⟨R188, hR188⟩ : ∃ R, R = own_run R149 (if vo = (0 : Int32) then vf else vq) (if vo = (0 : Int32) then vf else vx) (if vo = (1 : Int32) then vq else (if vo = (3 : Int32) then vq else vf)) (if vo = (3 : Int32) then vq else vf) (if vs < (1 : Int32) then vf else (41 : Int32)) (if vs < (2 : Int32) then vf else (41 : Int32)) := ⟨_, rfl⟩
  rw [← hR188] at Fd188 Fs188 Fc188
  have hqR188 : own_ch R188.2.2 := by rw [hR188]; exact own_runch hqR149 (own_chi hf.1 (own_chq hq0)) (own_chi hf.1 hx0.1) (own_chi (own_chq hq0) (own_chi (own_chq hq0) hf.1)) (own_chi (own_chq hq0) hf.1) (own_chi hf.1 (own_chl (by decide) (by decide))) (own_chi hf.1 (own_chl (by decide) (by decide)))
  refine own_via (fun t kz => XS.aload X188.here hx rfl (hb hby at_341) rfl rfl kz) ?_
  show own_Go p e below _ (T188.setTop (mkF m 343 #[oI p0, oI p1, oI p2, oI vn, oI vm, oI vr, oI vo, oI vs, oI vq, oI vf, oI vx, oR a7, oR a54, oR a110, oI (f17 R149.1 R149.2.1 R149.2.2), .unset, .unset, .unset, .unset, .unset] [(.ref a110)]))
  obtain ⟨cq197, kq197, qa197, qb197, qc197⟩ := isOf hZ rfl E193
  obtain ⟨_, _, ⟨T197, L197, k197, n197⟩, -, X197, ⟨Lc197, hQ197, l197, y197, z197⟩, st197⟩ := X188.virtualBack hx (y := (⟨"com/example/quiescence/quiescence/model/SExpression$Balance", "open", "()Z"⟩ : MethodName)) (z := (⟨"com/example/quiescence/quiescence/model/SExpression$Balance", "open", "()Z"⟩ : MethodName)) hown (mvT hZ (own_w hw 90)) (mvT hZ (own_w hw 91)) (notFace_of_selects (args := #[]) (mvT hZ (own_w hw 93))) (mvT hZ (own_w hw 93)) (mvT hZ (own_w hw 92)) (by decide) (backOf (W := 0) (rm17 l Z a0 hw [] a110 R188.1 R188.2.1 R188.2.2 (f17 R188.1 R188.2.1 R188.2.2) T188.heap n0 Zs196 Fd188 Fs188 Fc188 rfl) hZ (own_w hw 94) (own_w hw 8) (by decide) (by decide)) qa197 qc197 (g := (mkF m 343 #[oI p0, oI p1, oI p2, oI vn, oI vm, oI vr, oI vo, oI vs, oI vq, oI vf, oI vx, oR a7, oR a54, oR a110, oI (f17 R149.1 R149.2.1 R149.2.2), .unset, .unset, .unset, .unset, .unset] [(.ref a110)])) rfl (by rw [hml]; rfl) (Steps.refl _) (argsL := []) (rest := []) (lenOf pd_0_4 rfl) rfl (by show 2 * 0 + _ ≤ _; exact Nat.le_of_eq rfl) (hb hby at_343) (fun _ _ => ⟨rfl, rfl, (by decide : 9 + 0 ≤ _), (by decide : 59 + 0 ≤ _)⟩)
  dsimp only [Pt.U, Pt.locs, Pt.cells, Pt.slots] at X197 l197 y197 z197 st197 hQ197
  subst l197 y197 z197
  obtain ⟨rfl, Nq197, e197⟩ := hQ197
  have N198 := Fr.app N189 Nq197
  refine own_tr st197 ?_
  refine own_via (fun t kz => XS.istore X197.here hx rfl (hb hby at_346) rfl (l' := #[oI p0, oI p1, oI p2, oI vn, oI vm, oI vr, oI vo, oI vs, oI vq, oI vf, oI vx, oR a7, oR a54, oR a110, oI (f17 R149.1 R149.2.1 R149.2.2), oI (f17 R188.1 R188.2.1 R188.2.2), .unset, .unset, .unset, .unset]) rfl kz) ?_
  refine own_via (fun t kz => XS.iload X197.here hx rfl (hb hby at_348) rfl kz) ?_
  refine own_via (fun t kz => XS.iloadN X197.here hx rfl (hb hby at_350) rfl kz) ?_
  show own_Go p e below _ (T197.setTop (mkF m 351 #[oI p0, oI p1, oI p2, oI vn, oI vm, oI vr, oI vo, oI vs, oI vq, oI vf, oI vx, oR a7, oR a54, oR a110, oI (f17 R149.1 R149.2.1 R149.2.2), oI (f17 R188.1 R188.2.1 R188.2.2), .unset, .unset, .unset, .unset] [(.int vn), (.int vm)]))
  have jn200 : ∀ t, Steps p.tables e below (T197.setTop (mkF m 359 #[oI p0, oI p1, oI p2, oI vn, oI vm, oI vr, oI vo, oI vs, oI vq, oI vf, oI vx, oR a7, oR a54, oR a110, oI (f17 R149.1 R149.2.1 R149.2.2), oI (f17 R188.1 R188.2.1 R188.2.2), .unset, .unset, .unset, .unset] [(.int (if vn < vm then (1 : Int32) else (0 : Int32)))])) t → Steps p.tables e below (T197.setTop (mkF m 351 #[oI p0, oI p1, oI p2, oI vn, oI vm, oI vr, oI vo, oI vs, oI vq, oI vf, oI vx, oR a7, oR a54, oR a110, oI (f17 R149.1 R149.2.1 R149.2.2), oI (f17 R188.1 R188.2.1 R188.2.2), .unset, .unset, .unset, .unset] [(.int vn), (.int vm)])) t := by
    intro t k
    show Steps p.tables e below (T197.setTop (mkF m 351 #[oI p0, oI p1, oI p2, oI vn, oI vm, oI vr, oI vo, oI vs, oI vq, oI vf, oI vx, oR a7, oR a54, oR a110, oI (f17 R149.1 R149.2.1 R149.2.2), oI (f17 R188.1 R188.2.1 R188.2.2), .unset, .unset, .unset, .unset] [(.int vn), (.int vm)])) t
    by_cases hc351_199 : vn < vm
    · refine XS.icmpNo X197.here hx rfl (hb hby at_351) rfl (tlt hc351_199).2.2.2 ?_
      refine XS.iconst X197.here hx rfl (hb hby at_354) ?_
      refine XS.goto X197.here hx rfl (pc0 := 355) (pc' := 359) rfl (hb hby at_355) (by decide) (by decide) ?_
      first | (rw [if_pos hc351_199] at k; exact k) | (simp only [if_pos hc351_199] at k ⊢; exact k)
    · refine XS.icmpYes X197.here hx rfl (pc0 := 351) (pc' := 358) rfl (hb hby at_351) rfl (flt hc351_199).2.2.2 (by decide) (by decide) ?_
      refine XS.iconst X197.here hx rfl (hb hby at_358) ?_
      first | (rw [if_neg hc351_199] at k; exact k) | (simp only [if_neg hc351_199] at k ⊢; exact k)
  refine own_via jn200 ?_
  refine own_via (fun t kz => XS.istore X197.here hx rfl (hb hby at_359) rfl (l' := #[oI p0, oI p1, oI p2, oI vn, oI vm, oI vr, oI vo, oI vs, oI vq, oI vf, oI vx, oR a7, oR a54, oR a110, oI (f17 R149.1 R149.2.1 R149.2.2), oI (f17 R188.1 R188.2.1 R188.2.2), oI (if vn < vm then (1 : Int32) else (0 : Int32)), .unset, .unset, .unset]) rfl kz) ?_
  refine own_via (fun t kz => XS.iloadN X197.here hx rfl (hb hby at_361) rfl kz) ?_
  show own_Go p e below _ (T197.setTop (mkF m 362 #[oI p0, oI p1, oI p2, oI vn, oI vm, oI vr, oI vo, oI vs, oI vq, oI vf, oI vx, oR a7, oR a54, oR a110, oI (f17 R149.1 R149.2.1 R149.2.2), oI (f17 R188.1 R188.2.1 R188.2.2), oI (if vn < vm then (1 : Int32) else (0 : Int32)), .unset, .unset, .unset] [(.int vn)]))
  refine own_via (fun t kz => XS.iload X197.here hx rfl (hb hby at_362) rfl kz) ?_
  refine own_via (fun t kz => XS.isub X197.here hx rfl (hb hby at_364) rfl kz) ?_
  refine own_via (fun t kz => XS.iload X197.here hx rfl (hb hby at_365) rfl kz) ?_
  refine own_via (fun t kz => XS.iadd X197.here hx rfl (hb hby at_367) rfl kz) ?_
  refine own_via (fun t kz => XS.istore X197.here hx rfl (hb hby at_368) rfl (l' := #[oI p0, oI p1, oI p2, oI vn, oI vm, oI vr, oI vo, oI vs, oI vq, oI vf, oI vx, oR a7, oR a54, oR a110, oI (f17 R149.1 R149.2.1 R149.2.2), oI (f17 R188.1 R188.2.1 R188.2.2), oI (if vn < vm then (1 : Int32) else (0 : Int32)), oI ((vn - vm) + vr), .unset, .unset]) rfl kz) ?_
  refine own_via (fun t kz => XS.iload X197.here hx rfl (hb hby at_370) rfl kz) ?_
  show own_Go p e below _ (T197.setTop (mkF m 372 #[oI p0, oI p1, oI p2, oI vn, oI vm, oI vr, oI vo, oI vs, oI vq, oI vf, oI vx, oR a7, oR a54, oR a110, oI (f17 R149.1 R149.2.1 R149.2.2), oI (f17 R188.1 R188.2.1 R188.2.2), oI (if vn < vm then (1 : Int32) else (0 : Int32)), oI ((vn - vm) + vr), .unset, .unset] [(.int (if vn < vm then (1 : Int32) else (0 : Int32)))]))
  have jn203 : ∀ t, Steps p.tables e below (T197.setTop (mkF m 385 #[oI p0, oI p1, oI p2, oI vn, oI vm, oI vr, oI vo, oI vs, oI vq, oI vf, oI vx, oR a7, oR a54, oR a110, oI (f17 R149.1 R149.2.1 R149.2.2), oI (f17 R188.1 R188.2.1 R188.2.2), oI (if vn < vm then (1 : Int32) else (0 : Int32)), oI ((vn - vm) + vr), .unset, .unset] [(.int (if (if vn < vm then (1 : Int32) else (0 : Int32)) = (0 : Int32) then (if (0 : Int32) < ((vn - vm) + vr) then (1 : Int32) else (0 : Int32)) else (0 : Int32)))])) t → Steps p.tables e below (T197.setTop (mkF m 372 #[oI p0, oI p1, oI p2, oI vn, oI vm, oI vr, oI vo, oI vs, oI vq, oI vf, oI vx, oR a7, oR a54, oR a110, oI (f17 R149.1 R149.2.1 R149.2.2), oI (f17 R188.1 R188.2.1 R188.2.2), oI (if vn < vm then (1 : Int32) else (0 : Int32)), oI ((vn - vm) + vr), .unset, .unset] [(.int (if vn < vm then (1 : Int32) else (0 : Int32)))])) t := by
    intro t k
    show Steps p.tables e below (T197.setTop (mkF m 372 #[oI p0, oI p1, oI p2, oI vn, oI vm, oI vr, oI vo, oI vs, oI vq, oI vf, oI vx, oR a7, oR a54, oR a110, oI (f17 R149.1 R149.2.1 R149.2.2), oI (f17 R188.1 R188.2.1 R188.2.2), oI (if vn < vm then (1 : Int32) else (0 : Int32)), oI ((vn - vm) + vr), .unset, .unset] [(.int (if vn < vm then (1 : Int32) else (0 : Int32)))])) t
    by_cases hc372_201 : (if vn < vm then (1 : Int32) else (0 : Int32)) = (0 : Int32)
    · refine XS.ifNo X197.here hx rfl (hb hby at_372) rfl ((if0 _ _).trans (teq hc372_201).2) ?_
      show Steps p.tables e below (T197.setTop (mkF m 375 #[oI p0, oI p1, oI p2, oI vn, oI vm, oI vr, oI vo, oI vs, oI vq, oI vf, oI vx, oR a7, oR a54, oR a110, oI (f17 R149.1 R149.2.1 R149.2.2), oI (f17 R188.1 R188.2.1 R188.2.2), oI (if vn < vm then (1 : Int32) else (0 : Int32)), oI ((vn - vm) + vr), .unset, .unset] [])) t
      refine XS.iload X197.here hx rfl (hb hby at_375) rfl ?_
      show Steps p.tables e below (T197.setTop (mkF m 377 #[oI p0, oI p1, oI p2, oI vn, oI vm, oI vr, oI vo, oI vs, oI vq, oI vf, oI vx, oR a7, oR a54, oR a110, oI (f17 R149.1 R149.2.1 R149.2.2), oI (f17 R188.1 R188.2.1 R188.2.2), oI (if vn < vm then (1 : Int32) else (0 : Int32)), oI ((vn - vm) + vr), .unset, .unset] [(.int ((vn - vm) + vr))])) t
      by_cases hc377_202 : (0 : Int32) < ((vn - vm) + vr)
      · refine XS.ifNo X197.here hx rfl (hb hby at_377) rfl ((if0 _ _).trans (tlt hc377_202).2.2.2) ?_
        refine XS.iconst X197.here hx rfl (hb hby at_380) ?_
        refine XS.goto X197.here hx rfl (pc0 := 381) (pc' := 385) rfl (hb hby at_381) (by decide) (by decide) ?_
        first | (rw [if_pos hc372_201, if_pos hc377_202] at k; exact k) | (simp only [if_pos hc372_201, if_pos hc377_202] at k ⊢; exact k)
      · refine XS.ifYes X197.here hx rfl (pc0 := 377) (pc' := 384) rfl (hb hby at_377) rfl ((if0 _ _).trans (flt hc377_202).2.2.2) (by decide) (by decide) ?_
        refine XS.iconst X197.here hx rfl (hb hby at_384) ?_
        first | (rw [if_pos hc372_201, if_neg hc377_202] at k; exact k) | (simp only [if_pos hc372_201, if_neg hc377_202] at k ⊢; exact k)
    · refine XS.ifYes X197.here hx rfl (pc0 := 372) (pc' := 384) rfl (hb hby at_372) rfl ((if0 _ _).trans (feq hc372_201).2) (by decide) (by decide) ?_
      show Steps p.tables e below (T197.setTop (mkF m 384 #[oI p0, oI p1, oI p2, oI vn, oI vm, oI vr, oI vo, oI vs, oI vq, oI vf, oI vx, oR a7, oR a54, oR a110, oI (f17 R149.1 R149.2.1 R149.2.2), oI (f17 R188.1 R188.2.1 R188.2.2), oI (if vn < vm then (1 : Int32) else (0 : Int32)), oI ((vn - vm) + vr), .unset, .unset] [])) t
      refine XS.iconst X197.here hx rfl (hb hby at_384) ?_
      first | (rw [if_neg hc372_201] at k; exact k) | (simp only [if_neg hc372_201] at k ⊢; exact k)
  refine own_via jn203 ?_
  show own_Go p e below _ (T197.setTop (mkF m 385 #[oI p0, oI p1, oI p2, oI vn, oI vm, oI vr, oI vo, oI vs, oI vq, oI vf, oI vx, oR a7, oR a54, oR a110, oI (f17 R149.1 R149.2.1 R149.2.2), oI (f17 R188.1 R188.2.1 R188.2.2), oI (if vn < vm then (1 : Int32) else (0 : Int32)), oI ((vn - vm) + vr), .unset, .unset] [(.int (if (if vn < vm then (1 : Int32) else (0 : Int32)) = (0 : Int32) then (if (0 : Int32) < ((vn - vm) + vr) then (1 : Int32) else (0 : Int32)) else (0 : Int32)))]))
  refine own_via (fun t kz => XS.istore X197.here hx rfl (hb hby at_385) rfl (l' := #[oI p0, oI p1, oI p2, oI vn, oI vm, oI vr, oI vo, oI vs, oI vq, oI vf, oI vx, oR a7, oR a54, oR a110, oI (f17 R149.1 R149.2.1 R149.2.2), oI (f17 R188.1 R188.2.1 R188.2.2), oI (if vn < vm then (1 : Int32) else (0 : Int32)), oI ((vn - vm) + vr), oI (if (if vn < vm then (1 : Int32) else (0 : Int32)) = (0 : Int32) then (if (0 : Int32) < ((vn - vm) + vr) then (1 : Int32) else (0 : Int32)) else (0 : Int32)), .unset]) rfl kz) ?_
  refine own_via (fun t kz => XS.iload X197.here hx rfl (hb hby at_387) rfl kz) ?_
  show own_Go p e below _ (T197.setTop (mkF m 389 #[oI p0, oI p1, oI p2, oI vn, oI vm, oI vr, oI vo, oI vs, oI vq, oI vf, oI vx, oR a7, oR a54, oR a110, oI (f17 R149.1 R149.2.1 R149.2.2), oI (f17 R188.1 R188.2.1 R188.2.2), oI (if vn < vm then (1 : Int32) else (0 : Int32)), oI ((vn - vm) + vr), oI (if (if vn < vm then (1 : Int32) else (0 : Int32)) = (0 : Int32) then (if (0 : Int32) < ((vn - vm) + vr) then (1 : Int32) else (0 : Int32)) else (0 : Int32)), .unset] [(.int (if vn < vm then (1 : Int32) else (0 : Int32)))]))
  have jn208 : ∀ t, Steps p.tables e below (T197.setTop (mkF m 438 #[oI p0, oI p1, oI p2, oI vn, oI vm, oI vr, oI vo, oI vs, oI vq, oI vf, oI vx, oR a7, oR a54, oR a110, oI (f17 R149.1 R149.2.1 R149.2.2), oI (f17 R188.1 R188.2.1 R188.2.2), oI (if vn < vm then (1 : Int32) else (0 : Int32)), oI ((vn - vm) + vr), oI (if (if vn < vm then (1 : Int32) else (0 : Int32)) = (0 : Int32) then (if (0 : Int32) < ((vn - vm) + vr) then (1 : Int32) else (0 : Int32)) else (0 : Int32)), oI (if (if vn < vm then (1 : Int32) else (0 : Int32)) = (0 : Int32) then (if vo < (2 : Int32) then (if ((vn - vm) + vr) < vs then (0 : Int32) else (if (0 : Int32) < (((vn - vm) + vr) - vs) then (1 : Int32) else (0 : Int32))) else (1 : Int32)) else (0 : Int32))] [])) t → Steps p.tables e below (T197.setTop (mkF m 389 #[oI p0, oI p1, oI p2, oI vn, oI vm, oI vr, oI vo, oI vs, oI vq, oI vf, oI vx, oR a7, oR a54, oR a110, oI (f17 R149.1 R149.2.1 R149.2.2), oI (f17 R188.1 R188.2.1 R188.2.2), oI (if vn < vm then (1 : Int32) else (0 : Int32)), oI ((vn - vm) + vr), oI (if (if vn < vm then (1 : Int32) else (0 : Int32)) = (0 : Int32) then (if (0 : Int32) < ((vn - vm) + vr) then (1 : Int32) else (0 : Int32)) else (0 : Int32)), .unset] [(.int (if vn < vm then (1 : Int32) else (0 : Int32)))])) t := by
    intro t k
    show Steps p.tables e below (T197.setTop (mkF m 389 #[oI p0, oI p1, oI p2, oI vn, oI vm, oI vr, oI vo, oI vs, oI vq, oI vf, oI vx, oR a7, oR a54, oR a110, oI (f17 R149.1 R149.2.1 R149.2.2), oI (f17 R188.1 R188.2.1 R188.2.2), oI (if vn < vm then (1 : Int32) else (0 : Int32)), oI ((vn - vm) + vr), oI (if (if vn < vm then (1 : Int32) else (0 : Int32)) = (0 : Int32) then (if (0 : Int32) < ((vn - vm) + vr) then (1 : Int32) else (0 : Int32)) else (0 : Int32)), .unset] [(.int (if vn < vm then (1 : Int32) else (0 : Int32)))])) t
    by_cases hc389_204 : (if vn < vm then (1 : Int32) else (0 : Int32)) = (0 : Int32)
    · refine XS.ifYes X197.here hx rfl (pc0 := 389) (pc' := 398) rfl (hb hby at_389) rfl ((if0 _ _).trans (teq hc389_204).1) (by decide) (by decide) ?_
      refine XS.iload X197.here hx rfl (hb hby at_398) rfl ?_
      refine XS.iconst X197.here hx rfl (hb hby at_400) ?_
      show Steps p.tables e below (T197.setTop (mkF m 401 #[oI p0, oI p1, oI p2, oI vn, oI vm, oI vr, oI vo, oI vs, oI vq, oI vf, oI vx, oR a7, oR a54, oR a110, oI (f17 R149.1 R149.2.1 R149.2.2), oI (f17 R188.1 R188.2.1 R188.2.2), oI (if vn < vm then (1 : Int32) else (0 : Int32)), oI ((vn - vm) + vr), oI (if (if vn < vm then (1 : Int32) else (0 : Int32)) = (0 : Int32) then (if (0 : Int32) < ((vn - vm) + vr) then (1 : Int32) else (0 : Int32)) else (0 : Int32)), .unset] [(.int (2 : Int32)), (.int vo)])) t
      by_cases hc401_205 : vo < (2 : Int32)
      · refine XS.icmpYes X197.here hx rfl (pc0 := 401) (pc' := 410) rfl (hb hby at_401) rfl (tlt hc401_205).1 (by decide) (by decide) ?_
        refine XS.iload X197.here hx rfl (hb hby at_410) rfl ?_
        refine XS.iload X197.here hx rfl (hb hby at_412) rfl ?_
        show Steps p.tables e below (T197.setTop (mkF m 414 #[oI p0, oI p1, oI p2, oI vn, oI vm, oI vr, oI vo, oI vs, oI vq, oI vf, oI vx, oR a7, oR a54, oR a110, oI (f17 R149.1 R149.2.1 R149.2.2), oI (f17 R188.1 R188.2.1 R188.2.2), oI (if vn < vm then (1 : Int32) else (0 : Int32)), oI ((vn - vm) + vr), oI (if (if vn < vm then (1 : Int32) else (0 : Int32)) = (0 : Int32) then (if (0 : Int32) < ((vn - vm) + vr) then (1 : Int32) else (0 : Int32)) else (0 : Int32)), .unset] [(.int ((vn - vm) + vr)), (.int vs)])) t
        by_cases hc414_206 : ((vn - vm) + vr) < vs
        · refine XS.icmpNo X197.here hx rfl (hb hby at_414) rfl (tlt hc414_206).2.2.2 ?_
          refine XS.iconst X197.here hx rfl (hb hby at_417) ?_
          refine XS.istore X197.here hx rfl (hb hby at_418) rfl (l' := #[oI p0, oI p1, oI p2, oI vn, oI vm, oI vr, oI vo, oI vs, oI vq, oI vf, oI vx, oR a7, oR a54, oR a110, oI (f17 R149.1 R149.2.1 R149.2.2), oI (f17 R188.1 R188.2.1 R188.2.2), oI (if vn < vm then (1 : Int32) else (0 : Int32)), oI ((vn - vm) + vr), oI (if (if vn < vm then (1 : Int32) else (0 : Int32)) = (0 : Int32) then (if (0 : Int32) < ((vn - vm) + vr) then (1 : Int32) else (0 : Int32)) else (0 : Int32)), oI (0 : Int32)]) rfl ?_
          refine XS.goto X197.here hx rfl (pc0 := 420) (pc' := 438) rfl (hb hby at_420) (by decide) (by decide) ?_
          first | (rw [if_pos hc389_204, if_pos hc401_205, if_pos hc414_206] at k; exact k) | (simp only [if_pos hc389_204, if_pos hc401_205, if_pos hc414_206] at k ⊢; exact k)
        · refine XS.icmpYes X197.here hx rfl (pc0 := 414) (pc' := 423) rfl (hb hby at_414) rfl (flt hc414_206).2.2.2 (by decide) (by decide) ?_
          refine XS.iload X197.here hx rfl (hb hby at_423) rfl ?_
          refine XS.iload X197.here hx rfl (hb hby at_425) rfl ?_
          refine XS.isub X197.here hx rfl (hb hby at_427) rfl ?_
          show Steps p.tables e below (T197.setTop (mkF m 428 #[oI p0, oI p1, oI p2, oI vn, oI vm, oI vr, oI vo, oI vs, oI vq, oI vf, oI vx, oR a7, oR a54, oR a110, oI (f17 R149.1 R149.2.1 R149.2.2), oI (f17 R188.1 R188.2.1 R188.2.2), oI (if vn < vm then (1 : Int32) else (0 : Int32)), oI ((vn - vm) + vr), oI (if (if vn < vm then (1 : Int32) else (0 : Int32)) = (0 : Int32) then (if (0 : Int32) < ((vn - vm) + vr) then (1 : Int32) else (0 : Int32)) else (0 : Int32)), .unset] [(.int (((vn - vm) + vr) - vs))])) t
          by_cases hc428_207 : (0 : Int32) < (((vn - vm) + vr) - vs)
          · refine XS.ifNo X197.here hx rfl (hb hby at_428) rfl ((if0 _ _).trans (tlt hc428_207).2.2.2) ?_
            refine XS.iconst X197.here hx rfl (hb hby at_431) ?_
            refine XS.goto X197.here hx rfl (pc0 := 432) (pc' := 436) rfl (hb hby at_432) (by decide) (by decide) ?_
            refine XS.istore X197.here hx rfl (hb hby at_436) rfl (l' := #[oI p0, oI p1, oI p2, oI vn, oI vm, oI vr, oI vo, oI vs, oI vq, oI vf, oI vx, oR a7, oR a54, oR a110, oI (f17 R149.1 R149.2.1 R149.2.2), oI (f17 R188.1 R188.2.1 R188.2.2), oI (if vn < vm then (1 : Int32) else (0 : Int32)), oI ((vn - vm) + vr), oI (if (if vn < vm then (1 : Int32) else (0 : Int32)) = (0 : Int32) then (if (0 : Int32) < ((vn - vm) + vr) then (1 : Int32) else (0 : Int32)) else (0 : Int32)), oI (1 : Int32)]) rfl ?_
            first | (rw [if_pos hc389_204, if_pos hc401_205, if_neg hc414_206, if_pos hc428_207] at k; exact k) | (simp only [if_pos hc389_204, if_pos hc401_205, if_neg hc414_206, if_pos hc428_207] at k ⊢; exact k)
          · refine XS.ifYes X197.here hx rfl (pc0 := 428) (pc' := 435) rfl (hb hby at_428) rfl ((if0 _ _).trans (flt hc428_207).2.2.2) (by decide) (by decide) ?_
            refine XS.iconst X197.here hx rfl (hb hby at_435) ?_
            refine XS.istore X197.here hx rfl (hb hby at_436) rfl (l' := #[oI p0, oI p1, oI p2, oI vn, oI vm, oI vr, oI vo, oI vs, oI vq, oI vf, oI vx, oR a7, oR a54, oR a110, oI (f17 R149.1 R149.2.1 R149.2.2), oI (f17 R188.1 R188.2.1 R188.2.2), oI (if vn < vm then (1 : Int32) else (0 : Int32)), oI ((vn - vm) + vr), oI (if (if vn < vm then (1 : Int32) else (0 : Int32)) = (0 : Int32) then (if (0 : Int32) < ((vn - vm) + vr) then (1 : Int32) else (0 : Int32)) else (0 : Int32)), oI (0 : Int32)]) rfl ?_
            first | (rw [if_pos hc389_204, if_pos hc401_205, if_neg hc414_206, if_neg hc428_207] at k; exact k) | (simp only [if_pos hc389_204, if_pos hc401_205, if_neg hc414_206, if_neg hc428_207] at k ⊢; exact k)
      · refine XS.icmpNo X197.here hx rfl (hb hby at_401) rfl (flt hc401_205).1 ?_
        refine XS.iconst X197.here hx rfl (hb hby at_404) ?_
        refine XS.istore X197.here hx rfl (hb hby at_405) rfl (l' := #[oI p0, oI p1, oI p2, oI vn, oI vm, oI vr, oI vo, oI vs, oI vq, oI vf, oI vx, oR a7, oR a54, oR a110, oI (f17 R149.1 R149.2.1 R149.2.2), oI (f17 R188.1 R188.2.1 R188.2.2), oI (if vn < vm then (1 : Int32) else (0 : Int32)), oI ((vn - vm) + vr), oI (if (if vn < vm then (1 : Int32) else (0 : Int32)) = (0 : Int32) then (if (0 : Int32) < ((vn - vm) + vr) then (1 : Int32) else (0 : Int32)) else (0 : Int32)), oI (1 : Int32)]) rfl ?_
        refine XS.goto X197.here hx rfl (pc0 := 407) (pc' := 438) rfl (hb hby at_407) (by decide) (by decide) ?_
        first | (rw [if_pos hc389_204, if_neg hc401_205] at k; exact k) | (simp only [if_pos hc389_204, if_neg hc401_205] at k ⊢; exact k)
    · refine XS.ifNo X197.here hx rfl (hb hby at_389) rfl ((if0 _ _).trans (feq hc389_204).1) ?_
      refine XS.iconst X197.here hx rfl (hb hby at_392) ?_
      refine XS.istore X197.here hx rfl (hb hby at_393) rfl (l' := #[oI p0, oI p1, oI p2, oI vn, oI vm, oI vr, oI vo, oI vs, oI vq, oI vf, oI vx, oR a7, oR a54, oR a110, oI (f17 R149.1 R149.2.1 R149.2.2), oI (f17 R188.1 R188.2.1 R188.2.2), oI (if vn < vm then (1 : Int32) else (0 : Int32)), oI ((vn - vm) + vr), oI (if (if vn < vm then (1 : Int32) else (0 : Int32)) = (0 : Int32) then (if (0 : Int32) < ((vn - vm) + vr) then (1 : Int32) else (0 : Int32)) else (0 : Int32)), oI (0 : Int32)]) rfl ?_
      refine XS.goto X197.here hx rfl (pc0 := 395) (pc' := 438) rfl (hb hby at_395) (by decide) (by decide) ?_
      first | (rw [if_neg hc389_204] at k; exact k) | (simp only [if_neg hc389_204] at k ⊢; exact k)
  refine own_via jn208 ?_
  refine own_via (fun t kz => XS.iload X197.here hx rfl (hb hby at_438) rfl kz) ?_
  refine own_via (fun t kz => XS.iload X197.here hx rfl (hb hby at_440) rfl kz) ?_
  show own_Go p e below _ (T197.setTop (mkF m 442 #[oI p0, oI p1, oI p2, oI vn, oI vm, oI vr, oI vo, oI vs, oI vq, oI vf, oI vx, oR a7, oR a54, oR a110, oI (f17 R149.1 R149.2.1 R149.2.2), oI (f17 R188.1 R188.2.1 R188.2.2), oI (if vn < vm then (1 : Int32) else (0 : Int32)), oI ((vn - vm) + vr), oI (if (if vn < vm then (1 : Int32) else (0 : Int32)) = (0 : Int32) then (if (0 : Int32) < ((vn - vm) + vr) then (1 : Int32) else (0 : Int32)) else (0 : Int32)), oI (if (if vn < vm then (1 : Int32) else (0 : Int32)) = (0 : Int32) then (if vo < (2 : Int32) then (if ((vn - vm) + vr) < vs then (0 : Int32) else (if (0 : Int32) < (((vn - vm) + vr) - vs) then (1 : Int32) else (0 : Int32))) else (1 : Int32)) else (0 : Int32))] [(.int (if (if vn < vm then (1 : Int32) else (0 : Int32)) = (0 : Int32) then (if (0 : Int32) < ((vn - vm) + vr) then (1 : Int32) else (0 : Int32)) else (0 : Int32))), (.int (f17 R149.1 R149.2.1 R149.2.2))]))
  refine own_via (fun t kz => XS.icmpNo X197.here hx rfl (hb hby at_442) rfl (teq (own_fin1 vn vm vr vf R149 hn hm hr hf hR149)).2 kz) ?_
  refine own_via (fun t kz => XS.iload X197.here hx rfl (hb hby at_445) rfl kz) ?_
  refine own_via (fun t kz => XS.iload X197.here hx rfl (hb hby at_447) rfl kz) ?_
  show own_Go p e below _ (T197.setTop (mkF m 449 #[oI p0, oI p1, oI p2, oI vn, oI vm, oI vr, oI vo, oI vs, oI vq, oI vf, oI vx, oR a7, oR a54, oR a110, oI (f17 R149.1 R149.2.1 R149.2.2), oI (f17 R188.1 R188.2.1 R188.2.2), oI (if vn < vm then (1 : Int32) else (0 : Int32)), oI ((vn - vm) + vr), oI (if (if vn < vm then (1 : Int32) else (0 : Int32)) = (0 : Int32) then (if (0 : Int32) < ((vn - vm) + vr) then (1 : Int32) else (0 : Int32)) else (0 : Int32)), oI (if (if vn < vm then (1 : Int32) else (0 : Int32)) = (0 : Int32) then (if vo < (2 : Int32) then (if ((vn - vm) + vr) < vs then (0 : Int32) else (if (0 : Int32) < (((vn - vm) + vr) - vs) then (1 : Int32) else (0 : Int32))) else (1 : Int32)) else (0 : Int32))] [(.int (if (if vn < vm then (1 : Int32) else (0 : Int32)) = (0 : Int32) then (if vo < (2 : Int32) then (if ((vn - vm) + vr) < vs then (0 : Int32) else (if (0 : Int32) < (((vn - vm) + vr) - vs) then (1 : Int32) else (0 : Int32))) else (1 : Int32)) else (0 : Int32))), (.int (f17 R188.1 R188.2.1 R188.2.2))]))
  refine own_via (fun t kz => XS.icmpNo X197.here hx rfl (hb hby at_449) rfl (teq (own_fin2 vn vm vr vo vs vq vf vx R149 R188 hn hm hr ho hs hq0 hf hx0 hR149 hR188)).2 kz) ?_
  refine own_via (fun t kz => XS.iconst X197.here hx rfl (hb hby at_452) kz) ?_
  refine own_via (fun t kz => XS.goto X197.here hx rfl (pc0 := 453) (pc' := 457) rfl (hb hby at_453) (by decide) (by decide) kz) ?_
  show own_Go p e below _ (T197.setTop (mkF m 457 #[oI p0, oI p1, oI p2, oI vn, oI vm, oI vr, oI vo, oI vs, oI vq, oI vf, oI vx, oR a7, oR a54, oR a110, oI (f17 R149.1 R149.2.1 R149.2.2), oI (f17 R188.1 R188.2.1 R188.2.2), oI (if vn < vm then (1 : Int32) else (0 : Int32)), oI ((vn - vm) + vr), oI (if (if vn < vm then (1 : Int32) else (0 : Int32)) = (0 : Int32) then (if (0 : Int32) < ((vn - vm) + vr) then (1 : Int32) else (0 : Int32)) else (0 : Int32)), oI (if (if vn < vm then (1 : Int32) else (0 : Int32)) = (0 : Int32) then (if vo < (2 : Int32) then (if ((vn - vm) + vr) < vs then (0 : Int32) else (if (0 : Int32) < (((vn - vm) + vr) - vs) then (1 : Int32) else (0 : Int32))) else (1 : Int32)) else (0 : Int32))] [(.int (1 : Int32))]))
  obtain ⟨fs, hr, hrun, hended, hW, hsame⟩ := X197.leave (v := some (.int (1 : Int32))) (fun h => by rw [Bd.returns] at h; cases h)
  refine ⟨_, _, retN X197 hx (t := .boolean) Bd.returns (by simp) (hb hby at_457) hr, hrun, hended, _, _, rfl, ?_, ⟨_, rfl⟩, hW, hsame.mono (by decide) (by decide)⟩
  show Q0 Z p0 p1 p2 wcs wsf h0 n0 _ T197.heap _
  rw [e197]
  exact ⟨rfl, N198⟩
set_option maxRecDepth 65536 in
set_option maxHeartbeats 40000000 in
theorem comes_1 {Post : Tables → Env → Array Value → State → Outcome → State → Prop} (hpost : ∀ tb e args s v u, (limb_1_1.after args s (.returned v) u = true ∧ limb_1_2.after args s (.returned v) u = true ∧ True) → FrameEnd s (.returned v) u (Jvm.fieldLocs frame_1_writes args s ++ Jvm.arrayLocs frame_1_arrays args s ++ Jvm.staticLocs frame_1_statics s) 32 192 → Post tb e args s (.returned v) u) :
    ArmFor flags0 classFile x code maxLocals ret World_1 tables_1 room_1 Calls_1 rest_1 Pre_1 Post := by
  intro l hfl _ _ p e ha hc hk s m args below hf hA hF happ hP
  obtain ⟨hcalls, hrest, hpre⟩ := hP
  obtain ⟨-, -, -, hnamed, -, -, -, hat⟩ := (Spec.applies_iff hf).mp happ
  obtain ⟨hg, hn⟩ := and_e (Cond.before_iff.mp (show (Jvm.Cond.and given_1 narrow_1).before args s = true from hpre))
  obtain ⟨g1, g2⟩ := and_e hg
  obtain ⟨g3, g4⟩ := and_e g2
  obtain ⟨g5, g6⟩ := and_e g4
  obtain ⟨w0, w1, w2, rfl⟩ : ∃ w0 w1 w2 : Value, args = #[w0, w1, w2] := by
    have hs : args.size = 3 := by simpa [Cond.value, given_1] using g1
    obtain ⟨L⟩ := args
    match L, hs with
    | [w0, w1, w2], _ => exact ⟨w0, w1, w2, rfl⟩
  obtain ⟨hsets, hown0⟩ := atoms_of _ (rest_1_c_eq ▸ (show rest_1_c.before _ s = true from hrest))
  have hw := fun d (hd : d ∈ tables_1) => atoms_spec (ws := Jvm.Cond.code x code maxLocals ret :: tables_1) hat d (List.mem_cons_of_mem _ hd)
  obtain ⟨i0, ei0⟩ := is_v g3
  obtain rfl : w0 = (.int i0) := Option.some.inj ei0
  obtain ⟨i1, ei1⟩ := is_v g5
  obtain rfl : w1 = (.int i1) := Option.some.inj ei1
  obtain ⟨i2, ei2⟩ := is_v g6
  obtain rfl : w2 = (.int i2) := Option.some.inj ei2
  obtain ⟨wcs, evcs⟩ := is_v (Cond.before_iff.mp (hsets _ (List.mem_of_getElem? (i := 1) rfl)))
  have B_wcs := Sta.start evcs (Or.inl (hsets _ (List.mem_of_getElem? (i := 0) rfl)))
  have hcs : ¬ (wcs = (0 : Int32)) := own_ne0 evcs (Cond.before_iff.mp (hsets _ (List.mem_of_getElem? (i := 2) rfl)))
  obtain ⟨wsf, evsf, rsf⟩ := isR_v (Cond.before_iff.mp (hsets _ (List.mem_of_getElem? (i := 8) rfl)))
  have B_wsf := Sta.start evsf (Or.inl (hsets _ (List.mem_of_getElem? (i := 7) rfl)))
  have B_wad := Sta.start (own_seq (k := (1 : Int32)) (Cond.before_iff.mp (hsets _ (List.mem_of_getElem? (i := 12) rfl)))) (Or.inl (hsets _ (List.mem_of_getElem? (i := 11) rfl)))
  have B_whi := Sta.start (own_seq (k := (0 : Int32)) (Cond.before_iff.mp (hsets _ (List.mem_of_getElem? (i := 15) rfl)))) (Or.inl (hsets _ (List.mem_of_getElem? (i := 14) rfl)))
  have B_wlo := Sta.start (own_seq (k := (8 : Int32)) (Cond.before_iff.mp (hsets _ (List.mem_of_getElem? (i := 18) rfl)))) (Or.inl (hsets _ (List.mem_of_getElem? (i := 17) rfl)))
  obtain ⟨n, o, h1, h2, h3, _, L, rfl, ⟨rfl, N⟩, hq⟩ := rm0 l s _ hw tables_1 i0 i1 i2 wcs wsf s.heap s.heap.size (Nat.le_refl _) (Old.start s) hcs rsf B_wcs B_wsf B_wad B_whi B_wlo p e ha hc hk s m _ below hf ((Spec.applies_iff_loose hf).mp happ).1 ⟨rfl, State.Warmed39.refl s, rfl⟩ trivial
  refine ⟨n, _, h1, h2, h3, hpost _ _ _ _ _ _ ⟨Cond.after_iff.mpr rfl, Cond.after_iff.mpr (eq_i res_at (Term.int_eval (1)) rfl), trivial⟩ ⟨hq.1, hq.2.1, (hq.2.2.sift fun y hy => Or.inr (N y hy)).mono (by decide) (by decide)⟩⟩
theorem main_1_1 : Claimed_1_1 := comes_1 fun _ _ _ _ _ _ h hF => ⟨h.1, hF⟩
theorem main_1_2 : Claimed_1_2 := comes_1 fun _ _ _ _ _ _ h hF => ⟨h.2.1, hF⟩
end Jvm.Pilot.@@N@@
namespace Jvm.Pilot.@@N@@
open Jvm Jvm.ClassFile Sem Op Lib Jvm.Free Jvm.Stand Jvm.Pilot.@@N@@.Jvm.D
/-! MADE BY PROGRAM (witnessworld.py) out of the Statement's table words and the real class files: 20 classes; the members and pool entries that the words name. The judged class is class 1, her method 2. -/
namespace start1
open Jvm.ClassFile
def u (s : String) : CpInfo := .utf8 (stringToUtf16 s)
/-- a pool by its gaps: so many unusable entries, then the entry; so many at the end -/
def gap : Nat → List CpInfo → List CpInfo
  | 0, r => r
  | n + 1, r => .unusable :: gap n r
def poolList (es : List (Nat × CpInfo)) (last : Nat) : List CpInfo := es.foldr (fun e r => gap e.1 (e.2 :: r)) (gap last [])
def pool (es : List (Nat × CpInfo)) (last : Nat) : Array CpInfo := ⟨poolList es last⟩
def fileOf (pool : Array CpInfo) (this : Nat) (attrs : Array Attribute := #[]) (ms : Array MethodInfo := #[]) (fl : Nat := 33) (sup : Nat := 0) (ifs : Array Nat := #[]) (fds : Array FieldInfo := #[]) : ClassFile where
  minorVersion := 0
  majorVersion := 65
  constantPool := pool
  accessFlags := fl
  thisClass := this
  superClass := sup
  interfaces := ifs
  fields := fds
  methods := ms
  attributes := attrs
def plain (name : String) (sup : Option ClassId) : Class where
  name := name
  kind := .ordinary
  loader := none
  accessFlags := 33
  super := sup
  interfaces := #[]
  cf := none
  fields := #[]
  methods := #[]
  instanceTypes := #[]
  staticTypes := #[]
  resolved := #[]
  callSites := []
  init := .initialized
  statics := none
  mirror := none

def pool0 : Array CpInfo := pool [(5, u "<init>"), (0, u "()V"), (1, .class_ 10), (1, u "java/lang/Object")] 113

def k0c0 : Code := { maxStack := 0, maxLocals := 1, code := object_method_1_code, exceptionTable := #[], attributes := #[] }
def k0m0 : Method := { name := "<init>", desc := "()V", sig := { parameters := [], returnType := none }, accessFlags := 1, code := some k0c0 }
/-- java/lang/Object -/
def k0 : Class := { plain "java/lang/Object" none with
  accessFlags := 33
  interfaces := #[]
  cf := some (fileOf pool0 8 #[] #[{ accessFlags := 1, nameIndex := 5, descriptorIndex := 6, attributes := #[] }] 33 0 #[] #[])
  fields := #[]
  methods := #[k0m0]
  instanceTypes := #[]
  staticTypes := #[]
  resolved := Array.replicate 124 none
  statics := none }

def pool1 : Array CpInfo := pool [(2, .class_ 4), (0, .nameAndType 5 6), (0, u "java/lang/Object"), (0, u "<init>"), (0, u "()V"), (0, .integer 65535), (0, .methodref 9 10), (0, .class_ 11), (0, .nameAndType 12 13), (0, u "com/example/quiescence/quiescence/model/BalanceOpenPinLaw"), (0, u "neutral"), (0, u "(I)C"), (0, .class_ 15), (0, u "com/example/quiescence/quiescence/model/SExpression$Balance"), (0, .methodref 14 3), (0, .class_ 18), (0, u "java/lang/String"), (0, .methodref 17 20), (0, .nameAndType 5 21), (0, u "([C)V"), (0, .methodref 14 23), (0, .nameAndType 24 25), (0, u "add"), (0, u "(Ljava/lang/CharSequence;)V"), (0, .methodref 14 27), (0, .nameAndType 28 29), (0, u "open"), (0, u "()Z"), (3, u "law"), (0, u "(III)Z")] 8

def k1m0 : Method := { name := "<init>", desc := "()V", sig := { parameters := [], returnType := none }, accessFlags := 1, code := none }
def k1c1 : Code := { maxStack := 2, maxLocals := 2, code := method_2_code, exceptionTable := #[], attributes := #[] }
def k1m1 : Method := { name := "neutral", desc := "(I)C", sig := { parameters := [.int], returnType := some .char }, accessFlags := 10, code := some k1c1 }
def k1c2 : Code := { maxStack := 4, maxLocals := 20, code := code, exceptionTable := #[], attributes := #[] }
def k1m2 : Method := { name := "law", desc := "(III)Z", sig := { parameters := [.int, .int, .int], returnType := some .boolean }, accessFlags := 9, code := some k1c2 }
/-- com/example/quiescence/quiescence/model/BalanceOpenPinLaw -/
def k1 : Class := { plain "com/example/quiescence/quiescence/model/BalanceOpenPinLaw" (some 0) with
  accessFlags := 49
  interfaces := #[]
  cf := some (fileOf pool1 9 #[] #[{ accessFlags := 1, nameIndex := 5, descriptorIndex := 6, attributes := #[] }, { accessFlags := 10, nameIndex := 12, descriptorIndex := 13, attributes := #[] }, { accessFlags := 9, nameIndex := 33, descriptorIndex := 34, attributes := #[] }] 49 2 #[] #[])
  fields := #[]
  methods := #[k1m0, k1m1, k1m2]
  instanceTypes := #[]
  staticTypes := #[]
  resolved := Array.replicate 43 none
  statics := none }

def pool2 : Array CpInfo := pool [(1, .methodref 2 3), (0, .class_ 4), (0, .nameAndType 5 6), (0, u "java/lang/Object"), (0, u "<init>"), (0, u "()V"), (0, .interfaceMethodref 8 9), (0, .class_ 10), (0, .nameAndType 11 12), (0, u "java/lang/CharSequence"), (0, u "length"), (0, u "()I"), (0, .fieldref 14 15), (0, .class_ 16), (0, .nameAndType 17 18), (0, u "com/example/quiescence/quiescence/model/SExpression$Balance"), (0, u "stray"), (0, u "Z"), (0, .interfaceMethodref 8 20), (0, .nameAndType 21 22), (0, u "charAt"), (0, u "(I)C"), (0, .fieldref 14 24), (0, .nameAndType 25 26), (0, u "closing"), (0, u "C"), (0, .fieldref 14 28), (0, .nameAndType 29 30), (0, u "depth"), (0, u "I"), (2, u "add"), (0, u "(Ljava/lang/CharSequence;)V"), (1, u "open"), (0, u "()Z"), (3, .class_ 42), (0, u "com/example/quiescence/quiescence/model/SExpression")] 2

def k2c0 : Code := { maxStack := 1, maxLocals := 1, code := prog_88_method_1_code, exceptionTable := #[], attributes := #[] }
def k2m0 : Method := { name := "<init>", desc := "()V", sig := { parameters := [], returnType := none }, accessFlags := 1, code := some k2c0 }
def k2c1 : Code := { maxStack := 3, maxLocals := 4, code := prog_88_method_2_code, exceptionTable := #[], attributes := #[] }
def k2m1 : Method := { name := "add", desc := "(Ljava/lang/CharSequence;)V", sig := { parameters := [(.object "java/lang/CharSequence")], returnType := none }, accessFlags := 1, code := some k2c1 }
def k2c2 : Code := { maxStack := 1, maxLocals := 1, code := prog_88_method_3_code, exceptionTable := #[], attributes := #[] }
def k2m2 : Method := { name := "open", desc := "()Z", sig := { parameters := [], returnType := some .boolean }, accessFlags := 1, code := some k2c2 }
/-- com/example/quiescence/quiescence/model/SExpression$Balance -/
def k2 : Class := { plain "com/example/quiescence/quiescence/model/SExpression$Balance" (some 0) with
  accessFlags := 49
  interfaces := #[]
  cf := some (fileOf pool2 14 #[.nestHost 41] #[{ accessFlags := 1, nameIndex := 5, descriptorIndex := 6, attributes := #[] }, { accessFlags := 1, nameIndex := 33, descriptorIndex := 34, attributes := #[] }, { accessFlags := 1, nameIndex := 36, descriptorIndex := 37, attributes := #[] }] 49 2 #[] #[{ accessFlags := 2, nameIndex := 29, descriptorIndex := 30, attributes := #[] }, { accessFlags := 2, nameIndex := 17, descriptorIndex := 18, attributes := #[] }, { accessFlags := 2, nameIndex := 25, descriptorIndex := 26, attributes := #[] }])
  fields := #[{ name := "depth", type := .int, accessFlags := 2, slot := 0, constantValue := 0 }, { name := "stray", type := .boolean, accessFlags := 2, slot := 1, constantValue := 0 }, { name := "closing", type := .char, accessFlags := 2, slot := 2, constantValue := 0 }]
  methods := #[k2m0, k2m1, k2m2]
  instanceTypes := #[.int, .boolean, .char]
  staticTypes := #[]
  resolved := Array.replicate 45 none
  statics := none }

def pool3 : Array CpInfo := pool [(1, .class_ 2), (0, u "java/io/Serializable"), (0, .class_ 4), (0, u "java/lang/Object")] 2

/-- java/io/Serializable -/
def k3 : Class := { plain "java/io/Serializable" (some 0) with
  accessFlags := 1537
  interfaces := #[]
  cf := some (fileOf pool3 1 #[] #[] 1537 3 #[] #[])
  fields := #[]
  methods := #[]
  instanceTypes := #[]
  staticTypes := #[]
  resolved := Array.replicate 7 none
  statics := none }

def pool4 : Array CpInfo := pool [(1, .class_ 2), (0, u "java/lang/Comparable"), (0, .class_ 4), (0, u "java/lang/Object")] 7

/-- java/lang/Comparable -/
def k4 : Class := { plain "java/lang/Comparable" (some 0) with
  accessFlags := 1537
  interfaces := #[]
  cf := some (fileOf pool4 1 #[] #[] 1537 3 #[] #[])
  fields := #[]
  methods := #[]
  instanceTypes := #[]
  staticTypes := #[]
  resolved := Array.replicate 12 none
  statics := none }

def pool5 : Array CpInfo := pool [(2, .class_ 4), (1, u "java/lang/CharSequence"), (0, u "length"), (0, u "()I"), (38, u "charAt"), (0, u "(I)C"), (0, .class_ 48), (0, u "java/lang/CharSequence$1CodePointIterator"), (10, .class_ 60), (0, u "java/lang/CharSequence$1CharIterator"), (5, .class_ 67), (0, u "java/lang/Object")] 63

def k5m0 : Method := { name := "length", desc := "()I", sig := { parameters := [], returnType := some .int }, accessFlags := 1025, code := none }
def k5m1 : Method := { name := "charAt", desc := "(I)C", sig := { parameters := [.int], returnType := some .char }, accessFlags := 1025, code := none }
/-- java/lang/CharSequence -/
def k5 : Class := { plain "java/lang/CharSequence" (some 0) with
  accessFlags := 1537
  interfaces := #[]
  cf := some (fileOf pool5 2 #[.nestMembers #[47, 59]] #[{ accessFlags := 1025, nameIndex := 5, descriptorIndex := 6, attributes := #[] }, { accessFlags := 1025, nameIndex := 45, descriptorIndex := 46, attributes := #[] }] 1537 66 #[] #[])
  fields := #[]
  methods := #[k5m0, k5m1]
  instanceTypes := #[]
  staticTypes := #[]
  resolved := Array.replicate 131 none
  statics := none }

def pool6 : Array CpInfo := pool [(1, .class_ 2), (0, u "java/lang/constant/Constable"), (0, .class_ 4), (0, u "java/lang/Object")] 6

/-- java/lang/constant/Constable -/
def k6 : Class := { plain "java/lang/constant/Constable" (some 0) with
  accessFlags := 1537
  interfaces := #[]
  cf := some (fileOf pool6 1 #[] #[] 1537 3 #[] #[])
  fields := #[]
  methods := #[]
  instanceTypes := #[]
  staticTypes := #[]
  resolved := Array.replicate 11 none
  statics := none }

def pool7 : Array CpInfo := pool [(1, .class_ 2), (0, u "java/lang/constant/ConstantDesc"), (0, .class_ 4), (0, u "java/lang/Object")] 32

/-- java/lang/constant/ConstantDesc -/
def k7 : Class := { plain "java/lang/constant/ConstantDesc" (some 0) with
  accessFlags := 1537
  interfaces := #[]
  cf := some (fileOf pool7 1 #[] #[] 1537 3 #[] #[])
  fields := #[]
  methods := #[]
  instanceTypes := #[]
  staticTypes := #[]
  resolved := Array.replicate 37 none
  statics := none }

def pool8 : Array CpInfo := pool [(1, .methodref 2 3), (0, .class_ 4), (0, .nameAndType 5 6), (0, u "java/lang/Object"), (0, u "<init>"), (0, u "()V"), (2, .fieldref 10 11), (0, .class_ 12), (0, .nameAndType 13 14), (0, u "java/lang/String"), (0, u "value"), (0, u "[B"), (0, .fieldref 10 16), (0, .nameAndType 17 18), (0, u "coder"), (0, u "B"), (2, u "hash"), (0, u "I"), (2, u "hashIsZero"), (0, u "Z"), (0, .methodref 10 28), (0, .nameAndType 5 29), (0, u "([CIILjava/lang/Void;)V"), (8, .fieldref 10 39), (0, .nameAndType 40 26), (0, u "COMPACT_STRINGS"), (1, .class_ 44), (1, u "java/lang/StringUTF16"), (0, u "compress"), (1, .methodref 42 48), (0, .nameAndType 49 50), (0, u "coderFromArrayLen"), (0, u "([BI)B"), (56, .class_ 109), (1, u "java/lang/StringLatin1"), (32, u "()Z"), (34, .methodref 42 178), (0, .nameAndType 45 179), (0, u "([CII)[B"), (154, u "()I"), (0, .methodref 10 336), (0, .nameAndType 17 337), (0, u "()B"), (25, u "([BI)C"), (27, u "(II)V"), (35, u "(I)C"), (64, .methodref 10 493), (0, .nameAndType 494 142), (0, u "isLatin1"), (0, .methodref 107 496), (0, .nameAndType 497 363), (0, u "charAt"), (0, .methodref 42 496), (2, u "checkIndex"), (5, u "length"), (67, .class_ 576), (0, u "java/lang/CharSequence"), (22, u "CASE_INSENSITIVE_ORDER"), (0, u "Ljava/util/Comparator;"), (409, u "([C)V"), (42, .fieldref 1054 1055), (0, .class_ 1056), (0, .nameAndType 1057 1058), (0, u "jdk/internal/util/Preconditions"), (0, u "SIOOBE_FORMATTER"), (0, u "Ljava/util/function/BiFunction;"), (0, .methodref 1054 1060), (0, .nameAndType 501 1061), (0, u "(IILjava/util/function/BiFunction;)I"), (39, u "serialPersistentFields"), (0, u "[Ljava/io/ObjectStreamField;"), (0, .class_ 1104), (0, u "java/lang/String$CaseInsensitiveComparator"), (1, .class_ 1107), (0, u "java/io/Serializable"), (0, .class_ 1109), (0, u "java/lang/Comparable"), (0, .class_ 1111), (0, u "java/lang/constant/Constable"), (0, .class_ 1113), (0, u "java/lang/constant/ConstantDesc"), (2, u "serialVersionUID"), (0, u "J"), (3, u "REPL"), (0, u "C"), (2, u "LATIN1"), (1, u "UTF16")] 323

def k8m0 : Method := { name := "<init>", desc := "()V", sig := { parameters := [], returnType := none }, accessFlags := 1, code := none }
def k8c1 : Code := { maxStack := 5, maxLocals := 2, code := jdk_42_method_3_code, exceptionTable := #[], attributes := #[] }
def k8m1 : Method := { name := "<init>", desc := "([C)V", sig := { parameters := [(.array .char)], returnType := none }, accessFlags := 1, code := some k8c1 }
def k8c2 : Code := { maxStack := 2, maxLocals := 1, code := jdk_42_method_54_code, exceptionTable := #[], attributes := #[] }
def k8m2 : Method := { name := "length", desc := "()I", sig := { parameters := [], returnType := some .int }, accessFlags := 1, code := some k8c2 }
def k8c3 : Code := { maxStack := 2, maxLocals := 2, code := jdk_42_method_56_code, exceptionTable := #[], attributes := #[] }
def k8m3 : Method := { name := "charAt", desc := "(I)C", sig := { parameters := [.int], returnType := some .char }, accessFlags := 1, code := some k8c3 }
def k8c4 : Code := { maxStack := 4, maxLocals := 6, code := jdk_42_method_149_code, exceptionTable := #[], attributes := #[] }
def k8m4 : Method := { name := "<init>", desc := "([CIILjava/lang/Void;)V", sig := { parameters := [(.array .char), .int, .int, (.object "java/lang/Void")], returnType := none }, accessFlags := 2, code := some k8c4 }
def k8c5 : Code := { maxStack := 1, maxLocals := 1, code := jdk_42_method_152_code, exceptionTable := #[], attributes := #[] }
def k8m5 : Method := { name := "coder", desc := "()B", sig := { parameters := [], returnType := some .byte }, accessFlags := 0, code := some k8c5 }
def k8c6 : Code := { maxStack := 1, maxLocals := 1, code := jdk_42_method_154_code, exceptionTable := #[], attributes := #[] }
def k8m6 : Method := { name := "isLatin1", desc := "()Z", sig := { parameters := [], returnType := some .boolean }, accessFlags := 0, code := some k8c6 }
def k8c7 : Code := { maxStack := 3, maxLocals := 2, code := jdk_42_method_155_code, exceptionTable := #[], attributes := #[] }
def k8m7 : Method := { name := "checkIndex", desc := "(II)V", sig := { parameters := [.int, .int], returnType := none }, accessFlags := 8, code := some k8c7 }
/-- java/lang/String -/
def k8 : Class := { plain "java/lang/String" (some 0) with
  accessFlags := 49
  interfaces := #[3, 4, 5, 6, 7]
  cf := some (fileOf pool8 10 #[.nestMembers #[1103]] #[{ accessFlags := 1, nameIndex := 5, descriptorIndex := 6, attributes := #[] }, { accessFlags := 1, nameIndex := 5, descriptorIndex := 1010, attributes := #[] }, { accessFlags := 1, nameIndex := 507, descriptorIndex := 334, attributes := #[] }, { accessFlags := 1, nameIndex := 497, descriptorIndex := 427, attributes := #[] }, { accessFlags := 2, nameIndex := 5, descriptorIndex := 29, attributes := #[] }, { accessFlags := 0, nameIndex := 17, descriptorIndex := 337, attributes := #[] }, { accessFlags := 0, nameIndex := 494, descriptorIndex := 142, attributes := #[] }, { accessFlags := 8, nameIndex := 501, descriptorIndex := 391, attributes := #[] }] 49 2 #[1106, 1108, 575, 1110, 1112] #[{ accessFlags := 18, nameIndex := 13, descriptorIndex := 14, attributes := #[] }, { accessFlags := 18, nameIndex := 17, descriptorIndex := 18, attributes := #[] }, { accessFlags := 2, nameIndex := 21, descriptorIndex := 22, attributes := #[] }, { accessFlags := 2, nameIndex := 25, descriptorIndex := 26, attributes := #[] }, { accessFlags := 26, nameIndex := 1116, descriptorIndex := 1117, attributes := #[] }, { accessFlags := 24, nameIndex := 40, descriptorIndex := 26, attributes := #[] }, { accessFlags := 26, nameIndex := 1101, descriptorIndex := 1102, attributes := #[] }, { accessFlags := 26, nameIndex := 1121, descriptorIndex := 1122, attributes := #[] }, { accessFlags := 25, nameIndex := 599, descriptorIndex := 600, attributes := #[] }, { accessFlags := 24, nameIndex := 1125, descriptorIndex := 18, attributes := #[] }, { accessFlags := 24, nameIndex := 1127, descriptorIndex := 18, attributes := #[] }])
  fields := #[{ name := "value", type := (.array .byte), accessFlags := 18, slot := 0, constantValue := 0 }, { name := "coder", type := .byte, accessFlags := 18, slot := 1, constantValue := 0 }, { name := "hash", type := .int, accessFlags := 2, slot := 2, constantValue := 0 }, { name := "hashIsZero", type := .boolean, accessFlags := 2, slot := 3, constantValue := 0 }, { name := "serialVersionUID", type := .long, accessFlags := 26, slot := 0, constantValue := 0 }, { name := "COMPACT_STRINGS", type := .boolean, accessFlags := 24, slot := 1, constantValue := 0 }, { name := "serialPersistentFields", type := (.array (.object "java/io/ObjectStreamField")), accessFlags := 26, slot := 2, constantValue := 0 }, { name := "REPL", type := .char, accessFlags := 26, slot := 3, constantValue := 0 }, { name := "CASE_INSENSITIVE_ORDER", type := (.object "java/util/Comparator"), accessFlags := 25, slot := 4, constantValue := 0 }, { name := "LATIN1", type := .byte, accessFlags := 24, slot := 5, constantValue := 0 }, { name := "UTF16", type := .byte, accessFlags := 24, slot := 6, constantValue := 0 }]
  methods := #[k8m0, k8m1, k8m2, k8m3, k8m4, k8m5, k8m6, k8m7]
  instanceTypes := #[(.array .byte), .byte, .int, .boolean]
  staticTypes := #[.long, .boolean, (.array (.object "java/io/ObjectStreamField")), .char, (.object "java/util/Comparator"), .byte, .byte]
  resolved := Array.replicate 1451 none
  statics := some 0 }

def pool9 : Array CpInfo := pool [(3, .class_ 4), (0, u "java/lang/String"), (1, .class_ 8), (1, u "java/lang/Object"), (0, u "<init>"), (0, u "()V"), (0, .methodref 12 13), (0, .class_ 14), (0, .nameAndType 15 16), (0, u "java/lang/StringUTF16"), (0, u "newBytesLength"), (0, u "(I)I"), (3, .integer 1073741823), (23, .fieldref 12 45), (0, .nameAndType 46 47), (0, u "$assertionsDisabled"), (0, u "Z"), (0, .methodref 12 49), (0, .nameAndType 50 51), (0, u "length"), (0, u "([B)I"), (7, .fieldref 12 60), (0, .nameAndType 61 62), (0, u "HI_BYTE_SHIFT"), (0, u "I"), (0, .fieldref 12 64), (0, .nameAndType 65 62), (0, u "LO_BYTE_SHIFT"), (1, .methodref 12 68), (0, .nameAndType 69 70), (0, u "checkIndex"), (0, u "(I[B)V"), (0, .methodref 12 72), (0, .nameAndType 73 74), (0, u "getChar"), (0, u "([BI)C"), (32, .methodref 12 108), (0, .nameAndType 109 110), (0, u "newBytesFor"), (0, u "(I)[B"), (0, .methodref 12 112), (0, .nameAndType 113 114), (0, u "putChar"), (0, u "([BII)V"), (0, .methodref 12 116), (0, .nameAndType 117 118), (0, u "compress"), (0, u "([CI[BII)I"), (0, .methodref 12 120), (0, .nameAndType 121 122), (0, u "toBytes"), (0, u "([CII)[B"), (138, u "coderFromArrayLen"), (0, u "([BI)B"), (106, .class_ 371), (1, u "java/lang/StringUTF16$LinesSpliterator"), (20, u "charAt"), (21, .methodref 3 415), (0, .nameAndType 69 416), (0, u "(II)V"), (13, u "MAX_LENGTH"), (196, .class_ 628), (0, u "java/lang/StringUTF16$CodePointsSpliterator"), (0, .class_ 630), (0, u "java/lang/StringUTF16$CharsSpliterator")] 4

def k9m0 : Method := { name := "<init>", desc := "()V", sig := { parameters := [], returnType := none }, accessFlags := 0, code := none }
def k9c1 : Code := { maxStack := 1, maxLocals := 1, code := jdk_52_method_2_code, exceptionTable := #[], attributes := #[] }
def k9m1 : Method := { name := "newBytesFor", desc := "(I)[B", sig := { parameters := [.int], returnType := some (.array .byte) }, accessFlags := 9, code := some k9c1 }
def k9c2 : Code := { maxStack := 4, maxLocals := 1, code := jdk_52_method_3_code, exceptionTable := #[], attributes := #[] }
def k9m2 : Method := { name := "newBytesLength", desc := "(I)I", sig := { parameters := [.int], returnType := some .int }, accessFlags := 9, code := some k9c2 }
def k9c3 : Code := { maxStack := 4, maxLocals := 3, code := jdk_52_method_4_code, exceptionTable := #[], attributes := #[] }
def k9m3 : Method := { name := "putChar", desc := "([BII)V", sig := { parameters := [(.array .byte), .int, .int], returnType := none }, accessFlags := 8, code := some k9c3 }
def k9c4 : Code := { maxStack := 3, maxLocals := 2, code := jdk_52_method_5_code, exceptionTable := #[], attributes := #[] }
def k9m4 : Method := { name := "getChar", desc := "([BI)C", sig := { parameters := [(.array .byte), .int], returnType := some .char }, accessFlags := 8, code := some k9c4 }
def k9c5 : Code := { maxStack := 2, maxLocals := 1, code := jdk_52_method_6_code, exceptionTable := #[], attributes := #[] }
def k9m5 : Method := { name := "length", desc := "([B)I", sig := { parameters := [(.array .byte)], returnType := some .int }, accessFlags := 9, code := some k9c5 }
def k9c6 : Code := { maxStack := 4, maxLocals := 5, code := jdk_52_method_14_code, exceptionTable := #[], attributes := #[] }
def k9m6 : Method := { name := "toBytes", desc := "([CII)[B", sig := { parameters := [(.array .char), .int, .int], returnType := some (.array .byte) }, accessFlags := 9, code := some k9c6 }
def k9c7 : Code := { maxStack := 2, maxLocals := 2, code := jdk_52_method_15_code, exceptionTable := #[], attributes := #[] }
def k9m7 : Method := { name := "coderFromArrayLen", desc := "([BI)B", sig := { parameters := [(.array .byte), .int], returnType := some .byte }, accessFlags := 8, code := some k9c7 }
def k9c8 : Code := { maxStack := 5, maxLocals := 6, code := jdk_52_method_16_code, exceptionTable := #[], attributes := #[] }
def k9m8 : Method := { name := "compress", desc := "([CII)[B", sig := { parameters := [(.array .char), .int, .int], returnType := some (.array .byte) }, accessFlags := 9, code := some k9c8 }
def k9c9 : Code := { maxStack := 3, maxLocals := 7, code := jdk_52_method_21_code, exceptionTable := #[], attributes := #[] }
def k9m9 : Method := { name := "compress", desc := "([CI[BII)I", sig := { parameters := [(.array .char), .int, (.array .byte), .int, .int], returnType := some .int }, accessFlags := 9, code := some k9c9 }
def k9c10 : Code := { maxStack := 2, maxLocals := 2, code := jdk_52_method_83_code, exceptionTable := #[], attributes := #[] }
def k9m10 : Method := { name := "charAt", desc := "([BI)C", sig := { parameters := [(.array .byte), .int], returnType := some .char }, accessFlags := 9, code := some k9c10 }
def k9c11 : Code := { maxStack := 2, maxLocals := 2, code := jdk_52_method_91_code, exceptionTable := #[], attributes := #[] }
def k9m11 : Method := { name := "checkIndex", desc := "(I[B)V", sig := { parameters := [.int, (.array .byte)], returnType := none }, accessFlags := 9, code := some k9c11 }
/-- java/lang/StringUTF16 -/
def k9 : Class := { plain "java/lang/StringUTF16" (some 0) with
  accessFlags := 48
  interfaces := #[]
  cf := some (fileOf pool9 12 #[.nestMembers #[627, 629, 369]] #[{ accessFlags := 0, nameIndex := 9, descriptorIndex := 10, attributes := #[] }, { accessFlags := 9, nameIndex := 109, descriptorIndex := 110, attributes := #[] }, { accessFlags := 9, nameIndex := 15, descriptorIndex := 16, attributes := #[] }, { accessFlags := 8, nameIndex := 113, descriptorIndex := 114, attributes := #[] }, { accessFlags := 8, nameIndex := 73, descriptorIndex := 74, attributes := #[] }, { accessFlags := 9, nameIndex := 50, descriptorIndex := 51, attributes := #[] }, { accessFlags := 9, nameIndex := 121, descriptorIndex := 122, attributes := #[] }, { accessFlags := 8, nameIndex := 261, descriptorIndex := 262, attributes := #[] }, { accessFlags := 9, nameIndex := 117, descriptorIndex := 122, attributes := #[] }, { accessFlags := 9, nameIndex := 117, descriptorIndex := 118, attributes := #[] }, { accessFlags := 9, nameIndex := 392, descriptorIndex := 74, attributes := #[] }, { accessFlags := 9, nameIndex := 69, descriptorIndex := 70, attributes := #[] }] 48 6 #[] #[{ accessFlags := 26, nameIndex := 61, descriptorIndex := 62, attributes := #[] }, { accessFlags := 26, nameIndex := 65, descriptorIndex := 62, attributes := #[] }, { accessFlags := 24, nameIndex := 430, descriptorIndex := 62, attributes := #[] }, { accessFlags := 4120, nameIndex := 46, descriptorIndex := 47, attributes := #[] }])
  fields := #[{ name := "HI_BYTE_SHIFT", type := .int, accessFlags := 26, slot := 0, constantValue := 0 }, { name := "LO_BYTE_SHIFT", type := .int, accessFlags := 26, slot := 1, constantValue := 0 }, { name := "MAX_LENGTH", type := .int, accessFlags := 24, slot := 2, constantValue := 0 }, { name := "$assertionsDisabled", type := .boolean, accessFlags := 4120, slot := 3, constantValue := 0 }]
  methods := #[k9m0, k9m1, k9m2, k9m3, k9m4, k9m5, k9m6, k9m7, k9m8, k9m9, k9m10, k9m11]
  instanceTypes := #[]
  staticTypes := #[.int, .int, .int, .boolean]
  resolved := Array.replicate 635 none
  statics := some 1 }

def pool10 : Array CpInfo := pool [(1, .class_ 2), (0, u "java/lang/String"), (1, .class_ 6), (1, u "java/lang/Object"), (0, u "<init>"), (0, u "()V"), (0, .methodref 1 10), (0, .nameAndType 11 12), (0, u "checkIndex"), (0, u "(II)V"), (1, .class_ 16), (1, u "java/lang/StringLatin1"), (36, u "([BI)C"), (67, u "$assertionsDisabled"), (0, u "Z"), (98, .class_ 223), (1, u "java/lang/StringLatin1$LinesSpliterator"), (28, u "charAt"), (137, .class_ 391), (0, u "java/lang/StringLatin1$CharsSpliterator")] 3

def k10m0 : Method := { name := "<init>", desc := "()V", sig := { parameters := [], returnType := none }, accessFlags := 0, code := none }
def k10c1 : Code := { maxStack := 2, maxLocals := 2, code := jdk_43_method_2_code, exceptionTable := #[], attributes := #[] }
def k10m1 : Method := { name := "charAt", desc := "([BI)C", sig := { parameters := [(.array .byte), .int], returnType := some .char }, accessFlags := 9, code := some k10c1 }
/-- java/lang/StringLatin1 -/
def k10 : Class := { plain "java/lang/StringLatin1" (some 0) with
  accessFlags := 48
  interfaces := #[]
  cf := some (fileOf pool10 14 #[.nestMembers #[390, 221]] #[{ accessFlags := 0, nameIndex := 7, descriptorIndex := 8, attributes := #[] }, { accessFlags := 9, nameIndex := 252, descriptorIndex := 53, attributes := #[] }] 48 4 #[] #[{ accessFlags := 4120, nameIndex := 121, descriptorIndex := 122, attributes := #[] }])
  fields := #[{ name := "$assertionsDisabled", type := .boolean, accessFlags := 4120, slot := 0, constantValue := 0 }]
  methods := #[k10m0, k10m1]
  instanceTypes := #[]
  staticTypes := #[.boolean]
  resolved := Array.replicate 395 none
  statics := none }

def pool11 : Array CpInfo := pool [(2, .class_ 4), (1, u "java/lang/Object"), (0, u "<init>"), (0, u "()V"), (17, .class_ 26), (1, u "jdk/internal/util/Preconditions"), (6, u "checkIndex"), (21, .class_ 56), (0, u "jdk/internal/util/Preconditions$4"), (57, .class_ 115), (0, u "jdk/internal/util/Preconditions$1"), (7, u "SIOOBE_FORMATTER"), (0, u "Ljava/util/function/BiFunction;"), (0, .class_ 126), (0, u "jdk/internal/util/Preconditions$2"), (3, u "AIOOBE_FORMATTER"), (0, .class_ 132), (0, u "jdk/internal/util/Preconditions$3"), (3, u "IOOBE_FORMATTER"), (41, u "(IILjava/util/function/BiFunction;)I")] 15

def k11m0 : Method := { name := "<init>", desc := "()V", sig := { parameters := [], returnType := none }, accessFlags := 1, code := none }
def k11c1 : Code := { maxStack := 3, maxLocals := 3, code := jdk_41_method_11_code, exceptionTable := #[], attributes := #[] }
def k11m1 : Method := { name := "checkIndex", desc := "(IILjava/util/function/BiFunction;)I", sig := { parameters := [.int, .int, (.object "java/util/function/BiFunction")], returnType := some .int }, accessFlags := 9, code := some k11c1 }
/-- jdk/internal/util/Preconditions -/
def k11 : Class := { plain "jdk/internal/util/Preconditions" (some 0) with
  accessFlags := 33
  interfaces := #[]
  cf := some (fileOf pool11 24 #[.nestMembers #[55, 131, 125, 114]] #[{ accessFlags := 1, nameIndex := 5, descriptorIndex := 6, attributes := #[] }, { accessFlags := 9, nameIndex := 33, descriptorIndex := 178, attributes := #[] }] 33 2 #[] #[{ accessFlags := 25, nameIndex := 123, descriptorIndex := 124, attributes := #[] }, { accessFlags := 25, nameIndex := 130, descriptorIndex := 124, attributes := #[] }, { accessFlags := 25, nameIndex := 136, descriptorIndex := 124, attributes := #[] }])
  fields := #[{ name := "SIOOBE_FORMATTER", type := (.object "java/util/function/BiFunction"), accessFlags := 25, slot := 0, constantValue := 0 }, { name := "AIOOBE_FORMATTER", type := (.object "java/util/function/BiFunction"), accessFlags := 25, slot := 1, constantValue := 0 }, { name := "IOOBE_FORMATTER", type := (.object "java/util/function/BiFunction"), accessFlags := 25, slot := 2, constantValue := 0 }]
  methods := #[k11m0, k11m1]
  instanceTypes := #[]
  staticTypes := #[(.object "java/util/function/BiFunction"), (.object "java/util/function/BiFunction"), (.object "java/util/function/BiFunction")]
  resolved := Array.replicate 194 none
  statics := some 2 }

def pool12 : Array CpInfo := pool [(9, u "<init>"), (6, .class_ 18), (1, u "java/lang/Object"), (0, u "()V"), (1, .class_ 23), (1, u "jdk/internal/util/ArraysSupport"), (0, u "LOG2_ARRAY_LONG_INDEX_SCALE"), (0, u "I"), (2, u "U"), (0, u "Ljdk/internal/misc/Unsafe;"), (8, u "BIG_ENDIAN"), (0, u "Z"), (8, u "LOG2_BYTE_BIT_SIZE"), (4, u "LOG2_ARRAY_INT_INDEX_SCALE"), (54, u "JLA"), (0, u "Ljdk/internal/access/JavaLangAccess;"), (11, u "LOG2_ARRAY_BOOLEAN_INDEX_SCALE"), (9, u "LOG2_ARRAY_BYTE_INDEX_SCALE"), (5, u "LOG2_ARRAY_CHAR_INDEX_SCALE"), (5, u "LOG2_ARRAY_SHORT_INDEX_SCALE"), (18, u "LOG2_ARRAY_FLOAT_INDEX_SCALE"), (24, u "LOG2_ARRAY_DOUBLE_INDEX_SCALE"), (89, u "T_BOOLEAN"), (2, u "T_CHAR"), (1, u "T_FLOAT"), (1, u "T_DOUBLE"), (1, u "T_BYTE"), (1, u "T_SHORT"), (1, u "T_INT"), (1, u "T_LONG"), (1, u "SOFT_MAX_ARRAY_LENGTH")] 83

def k12m0 : Method := { name := "<init>", desc := "()V", sig := { parameters := [], returnType := none }, accessFlags := 2, code := none }
/-- jdk/internal/util/ArraysSupport -/
def k12 : Class := { plain "jdk/internal/util/ArraysSupport" (some 0) with
  accessFlags := 33
  interfaces := #[]
  cf := some (fileOf pool12 21 #[] #[{ accessFlags := 2, nameIndex := 9, descriptorIndex := 19, attributes := #[] }] 33 16 #[] #[{ accessFlags := 24, nameIndex := 28, descriptorIndex := 29, attributes := #[] }, { accessFlags := 26, nameIndex := 38, descriptorIndex := 39, attributes := #[] }, { accessFlags := 25, nameIndex := 121, descriptorIndex := 25, attributes := #[] }, { accessFlags := 25, nameIndex := 131, descriptorIndex := 25, attributes := #[] }, { accessFlags := 25, nameIndex := 137, descriptorIndex := 25, attributes := #[] }, { accessFlags := 25, nameIndex := 143, descriptorIndex := 25, attributes := #[] }, { accessFlags := 25, nameIndex := 53, descriptorIndex := 25, attributes := #[] }, { accessFlags := 25, nameIndex := 24, descriptorIndex := 25, attributes := #[] }, { accessFlags := 25, nameIndex := 162, descriptorIndex := 25, attributes := #[] }, { accessFlags := 25, nameIndex := 187, descriptorIndex := 25, attributes := #[] }, { accessFlags := 26, nameIndex := 48, descriptorIndex := 25, attributes := #[] }, { accessFlags := 25, nameIndex := 277, descriptorIndex := 25, attributes := #[] }, { accessFlags := 25, nameIndex := 280, descriptorIndex := 25, attributes := #[] }, { accessFlags := 25, nameIndex := 282, descriptorIndex := 25, attributes := #[] }, { accessFlags := 25, nameIndex := 284, descriptorIndex := 25, attributes := #[] }, { accessFlags := 25, nameIndex := 286, descriptorIndex := 25, attributes := #[] }, { accessFlags := 25, nameIndex := 288, descriptorIndex := 25, attributes := #[] }, { accessFlags := 25, nameIndex := 290, descriptorIndex := 25, attributes := #[] }, { accessFlags := 25, nameIndex := 292, descriptorIndex := 25, attributes := #[] }, { accessFlags := 26, nameIndex := 108, descriptorIndex := 109, attributes := #[] }, { accessFlags := 25, nameIndex := 294, descriptorIndex := 25, attributes := #[] }])
  fields := #[{ name := "U", type := (.object "jdk/internal/misc/Unsafe"), accessFlags := 24, slot := 0, constantValue := 0 }, { name := "BIG_ENDIAN", type := .boolean, accessFlags := 26, slot := 1, constantValue := 0 }, { name := "LOG2_ARRAY_BOOLEAN_INDEX_SCALE", type := .int, accessFlags := 25, slot := 2, constantValue := 0 }, { name := "LOG2_ARRAY_BYTE_INDEX_SCALE", type := .int, accessFlags := 25, slot := 3, constantValue := 0 }, { name := "LOG2_ARRAY_CHAR_INDEX_SCALE", type := .int, accessFlags := 25, slot := 4, constantValue := 0 }, { name := "LOG2_ARRAY_SHORT_INDEX_SCALE", type := .int, accessFlags := 25, slot := 5, constantValue := 0 }, { name := "LOG2_ARRAY_INT_INDEX_SCALE", type := .int, accessFlags := 25, slot := 6, constantValue := 0 }, { name := "LOG2_ARRAY_LONG_INDEX_SCALE", type := .int, accessFlags := 25, slot := 7, constantValue := 0 }, { name := "LOG2_ARRAY_FLOAT_INDEX_SCALE", type := .int, accessFlags := 25, slot := 8, constantValue := 0 }, { name := "LOG2_ARRAY_DOUBLE_INDEX_SCALE", type := .int, accessFlags := 25, slot := 9, constantValue := 0 }, { name := "LOG2_BYTE_BIT_SIZE", type := .int, accessFlags := 26, slot := 10, constantValue := 0 }, { name := "T_BOOLEAN", type := .int, accessFlags := 25, slot := 11, constantValue := 0 }, { name := "T_CHAR", type := .int, accessFlags := 25, slot := 12, constantValue := 0 }, { name := "T_FLOAT", type := .int, accessFlags := 25, slot := 13, constantValue := 0 }, { name := "T_DOUBLE", type := .int, accessFlags := 25, slot := 14, constantValue := 0 }, { name := "T_BYTE", type := .int, accessFlags := 25, slot := 15, constantValue := 0 }, { name := "T_SHORT", type := .int, accessFlags := 25, slot := 16, constantValue := 0 }, { name := "T_INT", type := .int, accessFlags := 25, slot := 17, constantValue := 0 }, { name := "T_LONG", type := .int, accessFlags := 25, slot := 18, constantValue := 0 }, { name := "JLA", type := (.object "jdk/internal/access/JavaLangAccess"), accessFlags := 26, slot := 19, constantValue := 0 }, { name := "SOFT_MAX_ARRAY_LENGTH", type := .int, accessFlags := 25, slot := 20, constantValue := 0 }]
  methods := #[k12m0]
  instanceTypes := #[]
  staticTypes := #[(.object "jdk/internal/misc/Unsafe"), .boolean, .int, .int, .int, .int, .int, .int, .int, .int, .int, .int, .int, .int, .int, .int, .int, .int, .int, (.object "jdk/internal/access/JavaLangAccess"), .int]
  resolved := Array.replicate 378 none
  statics := none }

def pool13 : Array CpInfo := pool [(1, u "java/lang/Cloneable"), (0, .class_ 1), (0, u "java/lang/Object"), (0, .class_ 3)] 3

/-- java/lang/Cloneable -/
def k13 : Class := { plain "java/lang/Cloneable" (some 0) with
  accessFlags := 1537
  interfaces := #[]
  cf := some (fileOf pool13 2 #[] #[] 1537 4 #[] #[])
  fields := #[]
  methods := #[]
  instanceTypes := #[]
  staticTypes := #[]
  resolved := Array.replicate 8 none
  statics := none }

/-- the primitive byte -/
def k14 : Class := { plain "byte" none with kind := .primitive 'B', accessFlags := 0x411 }
/-- [B -/
def k15 : Class := { plain "[B" (some 0) with kind := .array 14 .byte, interfaces := #[13, 3], accessFlags := 1041 }

/-- the primitive char -/
def k16 : Class := { plain "char" none with kind := .primitive 'C', accessFlags := 0x411 }
/-- [C -/
def k17 : Class := { plain "[C" (some 0) with kind := .array 16 .char, interfaces := #[13, 3], accessFlags := 1041 }

/-- the primitive int -/
def k18 : Class := { plain "int" none with kind := .primitive 'I', accessFlags := 0x411 }
/-- [I -/
def k19 : Class := { plain "[I" (some 0) with kind := .array 18 .int, interfaces := #[13, 3], accessFlags := 1041 }

def heap : Heap := #[{ cls := 8, slots := #[.long 0, .int 1, .null, .int 0, .null, .int 0, .int 0], vm := .statics 8 },
  { cls := 9, slots := #[.int 0, .int 8, .int 0, .int 1], vm := .statics 9 },
  { cls := 11, slots := #[.null, .null, .null], vm := .statics 11 }]
def classes : Array Class := #[k0, k1, k2, k3, k4, k5, k6, k7, k8, k9, k10, k11, k12, k13, k14, k15, k16, k17, k18, k19]
def interned : List (Array UInt16 × Addr) := []
def slotsUsed : Nat := 14
def theMethod : MethodId := ⟨1, 2⟩
def args0 : Array Value := #[.int 5, .int 65, .int 66]
def aboutOver (below : List Frame) : State where
  vm := { classes := classes, interned := interned.toArray }
  heap := heap
  slotsUsed := slotsUsed
  threads := #[{ frames := .invoking theMethod args0 :: below }]
def below0 : List Frame := [.native { method := ⟨0, 0⟩, args := #[] }]
def about1 : State := aboutOver below0
def p0 : Program := .bare "" "" ""
def e0 : Env := launch0.env 0 0 0
theorem w_frames : about1.frames = Frame.invoking theMethod args0 :: below0 := rfl
set_option maxRecDepth 65536 in
theorem w_args : argsFit about1.vm theMethod args0 = true := by decide +kernel
set_option maxRecDepth 65536 in
theorem w_heap : heapFits about1 = true := by decide +kernel
set_option maxRecDepth 65536 in
theorem w_runnable : about1.curStatus? = some .runnable := by decide +kernel
set_option maxRecDepth 65536 in
theorem w_alone : about1.alone = true := by decide +kernel
set_option maxRecDepth 65536 in
theorem w_named : about1.methodNamed? x = some theMethod := by decide +kernel
set_option maxRecDepth 65536 in
theorem w_hears : about1.hears theMethod below0 = true := by decide +kernel
set_option maxRecDepth 65536 in
theorem w_ripe : about1.ripe theMethod args0 below0 = true := by decide +kernel
theorem w_running : about1.status = .running := rfl
set_option maxRecDepth 65536 in
theorem w_room : about1.hasRoom e0.platform room_1 = true :=
  launch0.hasRoom_least _ room_1 (by decide +kernel) (by decide +kernel) (by decide +kernel) (by decide +kernel) (by decide +kernel) (by decide +kernel)
theorem allAtoms_all (ts : List Jvm.Cond) (a : Array Jvm.Value) (st : Jvm.State) : (allAtoms ts).before a st = ts.all (fun c => c.before a st) := by
  induction ts with
  | nil => rfl
  | cons c t ih =>
    show (Jvm.Cond.and c (allAtoms t)).before a st = _
    rw [Jvm.Cond.before_and, ih, List.all_cons]
def words1 : List Jvm.Cond := Jvm.Cond.code x code maxLocals ret :: tables_1
/-- a 'code' word, met by the world's own term for the bytes: nothing is compared byte by byte -/
theorem code_word {y : MethodName} {bytes : ByteArray} {mx : Nat} {rt : Option FieldType} {a : Array Value} {s : State} {m : MethodId} {meth : Method} {c : Code} (h1 : s.methodNamed? y = some m) (h2 : s.vm.method? m = some meth) (h3 : meth.code = some c) (h4 : c.code = bytes)
    (h5 : (c.maxLocals == mx && c.exceptionTable.isEmpty && decide (c.maxStack ≤ mostOperands) && decide (meth.sig.returnType = rt) && !meth.locks && decide (parseMethodDescriptor y.desc = some meth.sig)) = true) : (Jvm.Cond.code y bytes mx rt).before a s = true := by
  simp only [Bool.and_eq_true, beq_iff_eq, Bool.not_eq_true', decide_eq_true_eq] at h5
  obtain ⟨⟨⟨⟨⟨g1, g2⟩, g3⟩, g4⟩, g5⟩, g6⟩ := h5
  simp [Cond.before, Cond.holds, Cond.value, h1, h2, h3, h4, g1, g2, g3, g4, g5, g6]
def isCode : Jvm.Cond → Bool
  | .code _ _ _ _ => true
  | _ => false
theorem all_split {L : List Jvm.Cond} {P : Jvm.Cond → Bool} (h1 : L.all (fun c => isCode c || P c) = true) (h2 : ∀ c ∈ L.filter isCode, P c = true) : L.all P = true := by
  refine List.all_eq_true.mpr fun c hc => ?_
  have h := List.all_eq_true.mp h1 c hc
  rcases Bool.eq_false_or_eq_true (isCode c) with hi | hi
  · exact h2 c (List.mem_filter.mpr ⟨hc, hi⟩)
  · simpa [hi] using h
set_option maxRecDepth 65536 in
theorem w_c0 : (Jvm.Cond.code x code maxLocals ret).before args0 about1 = true := code_word (m := ⟨1, 2⟩) (meth := k1m2) (c := k1c2) (by decide +kernel) rfl rfl rfl (by decide +kernel)
set_option maxRecDepth 65536 in
theorem w_c1 : (Jvm.Cond.code ({ cls := "com/example/quiescence/quiescence/model/BalanceOpenPinLaw", name := "neutral", desc := "(I)C" } : Jvm.MethodName) method_2_code (2 : Nat) (Option.some Jvm.ClassFile.FieldType.char)).before args0 about1 = true := code_word (m := ⟨1, 1⟩) (meth := k1m1) (c := k1c1) (by decide +kernel) rfl rfl rfl (by decide +kernel)
set_option maxRecDepth 65536 in
theorem w_c2 : (Jvm.Cond.code ({ cls := "com/example/quiescence/quiescence/model/SExpression$Balance", name := "<init>", desc := "()V" } : Jvm.MethodName) prog_88_method_1_code (1 : Nat) (Option.none : Option Jvm.ClassFile.FieldType)).before args0 about1 = true := code_word (m := ⟨2, 0⟩) (meth := k2m0) (c := k2c0) (by decide +kernel) rfl rfl rfl (by decide +kernel)
set_option maxRecDepth 65536 in
theorem w_c3 : (Jvm.Cond.code ({ cls := "java/lang/Object", name := "<init>", desc := "()V" } : Jvm.MethodName) object_method_1_code (1 : Nat) (Option.none : Option Jvm.ClassFile.FieldType)).before args0 about1 = true := code_word (m := ⟨0, 0⟩) (meth := k0m0) (c := k0c0) (by decide +kernel) rfl rfl rfl (by decide +kernel)
set_option maxRecDepth 65536 in
theorem w_c4 : (Jvm.Cond.code ({ cls := "java/lang/String", name := "<init>", desc := "([C)V" } : Jvm.MethodName) jdk_42_method_3_code (2 : Nat) (Option.none : Option Jvm.ClassFile.FieldType)).before args0 about1 = true := code_word (m := ⟨8, 1⟩) (meth := k8m1) (c := k8c1) (by decide +kernel) rfl rfl rfl (by decide +kernel)
set_option maxRecDepth 65536 in
theorem w_c5 : (Jvm.Cond.code ({ cls := "java/lang/String", name := "<init>", desc := "([CIILjava/lang/Void;)V" } : Jvm.MethodName) jdk_42_method_149_code (6 : Nat) (Option.none : Option Jvm.ClassFile.FieldType)).before args0 about1 = true := code_word (m := ⟨8, 4⟩) (meth := k8m4) (c := k8c4) (by decide +kernel) rfl rfl rfl (by decide +kernel)
set_option maxRecDepth 65536 in
theorem w_c6 : (Jvm.Cond.code ({ cls := "java/lang/StringUTF16", name := "compress", desc := "([CII)[B" } : Jvm.MethodName) jdk_52_method_16_code (6 : Nat) (Option.some (Jvm.ClassFile.FieldType.array Jvm.ClassFile.FieldType.byte))).before args0 about1 = true := code_word (m := ⟨9, 8⟩) (meth := k9m8) (c := k9c8) (by decide +kernel) rfl rfl rfl (by decide +kernel)
set_option maxRecDepth 65536 in
theorem w_c7 : (Jvm.Cond.code ({ cls := "java/lang/StringUTF16", name := "compress", desc := "([CI[BII)I" } : Jvm.MethodName) jdk_52_method_21_code (7 : Nat) (Option.some Jvm.ClassFile.FieldType.int)).before args0 about1 = true := code_word (m := ⟨9, 9⟩) (meth := k9m9) (c := k9c9) (by decide +kernel) rfl rfl rfl (by decide +kernel)
set_option maxRecDepth 65536 in
theorem w_c8 : (Jvm.Cond.code ({ cls := "java/lang/StringUTF16", name := "coderFromArrayLen", desc := "([BI)B" } : Jvm.MethodName) jdk_52_method_15_code (2 : Nat) (Option.some Jvm.ClassFile.FieldType.byte)).before args0 about1 = true := code_word (m := ⟨9, 7⟩) (meth := k9m7) (c := k9c7) (by decide +kernel) rfl rfl rfl (by decide +kernel)
set_option maxRecDepth 65536 in
theorem w_c9 : (Jvm.Cond.code ({ cls := "com/example/quiescence/quiescence/model/SExpression$Balance", name := "add", desc := "(Ljava/lang/CharSequence;)V" } : Jvm.MethodName) prog_88_method_2_code (4 : Nat) (Option.none : Option Jvm.ClassFile.FieldType)).before args0 about1 = true := code_word (m := ⟨2, 1⟩) (meth := k2m1) (c := k2c1) (by decide +kernel) rfl rfl rfl (by decide +kernel)
set_option maxRecDepth 65536 in
theorem w_c10 : (Jvm.Cond.code ({ cls := "java/lang/String", name := "length", desc := "()I" } : Jvm.MethodName) jdk_42_method_54_code (1 : Nat) (Option.some Jvm.ClassFile.FieldType.int)).before args0 about1 = true := code_word (m := ⟨8, 2⟩) (meth := k8m2) (c := k8c2) (by decide +kernel) rfl rfl rfl (by decide +kernel)
set_option maxRecDepth 65536 in
theorem w_c11 : (Jvm.Cond.code ({ cls := "java/lang/String", name := "coder", desc := "()B" } : Jvm.MethodName) jdk_42_method_152_code (1 : Nat) (Option.some Jvm.ClassFile.FieldType.byte)).before args0 about1 = true := code_word (m := ⟨8, 5⟩) (meth := k8m5) (c := k8c5) (by decide +kernel) rfl rfl rfl (by decide +kernel)
set_option maxRecDepth 65536 in
theorem w_c12 : (Jvm.Cond.code ({ cls := "java/lang/String", name := "charAt", desc := "(I)C" } : Jvm.MethodName) jdk_42_method_56_code (2 : Nat) (Option.some Jvm.ClassFile.FieldType.char)).before args0 about1 = true := code_word (m := ⟨8, 3⟩) (meth := k8m3) (c := k8c3) (by decide +kernel) rfl rfl rfl (by decide +kernel)
set_option maxRecDepth 65536 in
theorem w_c13 : (Jvm.Cond.code ({ cls := "java/lang/String", name := "isLatin1", desc := "()Z" } : Jvm.MethodName) jdk_42_method_154_code (1 : Nat) (Option.some Jvm.ClassFile.FieldType.boolean)).before args0 about1 = true := code_word (m := ⟨8, 6⟩) (meth := k8m6) (c := k8c6) (by decide +kernel) rfl rfl rfl (by decide +kernel)
set_option maxRecDepth 65536 in
theorem w_c14 : (Jvm.Cond.code ({ cls := "java/lang/StringLatin1", name := "charAt", desc := "([BI)C" } : Jvm.MethodName) jdk_43_method_2_code (2 : Nat) (Option.some Jvm.ClassFile.FieldType.char)).before args0 about1 = true := code_word (m := ⟨10, 1⟩) (meth := k10m1) (c := k10c1) (by decide +kernel) rfl rfl rfl (by decide +kernel)
set_option maxRecDepth 65536 in
theorem w_c15 : (Jvm.Cond.code ({ cls := "java/lang/String", name := "checkIndex", desc := "(II)V" } : Jvm.MethodName) jdk_42_method_155_code (2 : Nat) (Option.none : Option Jvm.ClassFile.FieldType)).before args0 about1 = true := code_word (m := ⟨8, 7⟩) (meth := k8m7) (c := k8c7) (by decide +kernel) rfl rfl rfl (by decide +kernel)
set_option maxRecDepth 65536 in
theorem w_c16 : (Jvm.Cond.code ({ cls := "jdk/internal/util/Preconditions", name := "checkIndex", desc := "(IILjava/util/function/BiFunction;)I" } : Jvm.MethodName) jdk_41_method_11_code (3 : Nat) (Option.some Jvm.ClassFile.FieldType.int)).before args0 about1 = true := code_word (m := ⟨11, 1⟩) (meth := k11m1) (c := k11c1) (by decide +kernel) rfl rfl rfl (by decide +kernel)
set_option maxRecDepth 65536 in
theorem w_c17 : (Jvm.Cond.code ({ cls := "com/example/quiescence/quiescence/model/SExpression$Balance", name := "open", desc := "()Z" } : Jvm.MethodName) prog_88_method_3_code (1 : Nat) (Option.some Jvm.ClassFile.FieldType.boolean)).before args0 about1 = true := code_word (m := ⟨2, 2⟩) (meth := k2m2) (c := k2c2) (by decide +kernel) rfl rfl rfl (by decide +kernel)
set_option maxRecDepth 65536 in
theorem w_c18 : (Jvm.Cond.code ({ cls := "java/lang/StringUTF16", name := "toBytes", desc := "([CII)[B" } : Jvm.MethodName) jdk_52_method_14_code (5 : Nat) (Option.some (Jvm.ClassFile.FieldType.array Jvm.ClassFile.FieldType.byte))).before args0 about1 = true := code_word (m := ⟨9, 6⟩) (meth := k9m6) (c := k9c6) (by decide +kernel) rfl rfl rfl (by decide +kernel)
set_option maxRecDepth 65536 in
theorem w_c19 : (Jvm.Cond.code ({ cls := "java/lang/StringUTF16", name := "newBytesFor", desc := "(I)[B" } : Jvm.MethodName) jdk_52_method_2_code (1 : Nat) (Option.some (Jvm.ClassFile.FieldType.array Jvm.ClassFile.FieldType.byte))).before args0 about1 = true := code_word (m := ⟨9, 1⟩) (meth := k9m1) (c := k9c1) (by decide +kernel) rfl rfl rfl (by decide +kernel)
set_option maxRecDepth 65536 in
theorem w_c20 : (Jvm.Cond.code ({ cls := "java/lang/StringUTF16", name := "newBytesLength", desc := "(I)I" } : Jvm.MethodName) jdk_52_method_3_code (1 : Nat) (Option.some Jvm.ClassFile.FieldType.int)).before args0 about1 = true := code_word (m := ⟨9, 2⟩) (meth := k9m2) (c := k9c2) (by decide +kernel) rfl rfl rfl (by decide +kernel)
set_option maxRecDepth 65536 in
theorem w_c21 : (Jvm.Cond.code ({ cls := "java/lang/StringUTF16", name := "putChar", desc := "([BII)V" } : Jvm.MethodName) jdk_52_method_4_code (3 : Nat) (Option.none : Option Jvm.ClassFile.FieldType)).before args0 about1 = true := code_word (m := ⟨9, 3⟩) (meth := k9m3) (c := k9c3) (by decide +kernel) rfl rfl rfl (by decide +kernel)
set_option maxRecDepth 65536 in
theorem w_c22 : (Jvm.Cond.code ({ cls := "java/lang/StringUTF16", name := "getChar", desc := "([BI)C" } : Jvm.MethodName) jdk_52_method_5_code (2 : Nat) (Option.some Jvm.ClassFile.FieldType.char)).before args0 about1 = true := code_word (m := ⟨9, 4⟩) (meth := k9m4) (c := k9c4) (by decide +kernel) rfl rfl rfl (by decide +kernel)
set_option maxRecDepth 65536 in
theorem w_c23 : (Jvm.Cond.code ({ cls := "java/lang/StringUTF16", name := "charAt", desc := "([BI)C" } : Jvm.MethodName) jdk_52_method_83_code (2 : Nat) (Option.some Jvm.ClassFile.FieldType.char)).before args0 about1 = true := code_word (m := ⟨9, 10⟩) (meth := k9m10) (c := k9c10) (by decide +kernel) rfl rfl rfl (by decide +kernel)
set_option maxRecDepth 65536 in
theorem w_c24 : (Jvm.Cond.code ({ cls := "java/lang/StringUTF16", name := "checkIndex", desc := "(I[B)V" } : Jvm.MethodName) jdk_52_method_91_code (2 : Nat) (Option.none : Option Jvm.ClassFile.FieldType)).before args0 about1 = true := code_word (m := ⟨9, 11⟩) (meth := k9m11) (c := k9c11) (by decide +kernel) rfl rfl rfl (by decide +kernel)
set_option maxRecDepth 65536 in
theorem w_c25 : (Jvm.Cond.code ({ cls := "java/lang/StringUTF16", name := "length", desc := "([B)I" } : Jvm.MethodName) jdk_52_method_6_code (1 : Nat) (Option.some Jvm.ClassFile.FieldType.int)).before args0 about1 = true := code_word (m := ⟨9, 5⟩) (meth := k9m5) (c := k9c5) (by decide +kernel) rfl rfl rfl (by decide +kernel)
def codes1 : List Jvm.Cond := [Jvm.Cond.code x code maxLocals ret, Jvm.Cond.code ({ cls := "com/example/quiescence/quiescence/model/BalanceOpenPinLaw", name := "neutral", desc := "(I)C" } : Jvm.MethodName) method_2_code (2 : Nat) (Option.some Jvm.ClassFile.FieldType.char), Jvm.Cond.code ({ cls := "com/example/quiescence/quiescence/model/SExpression$Balance", name := "<init>", desc := "()V" } : Jvm.MethodName) prog_88_method_1_code (1 : Nat) (Option.none : Option Jvm.ClassFile.FieldType), Jvm.Cond.code ({ cls := "java/lang/Object", name := "<init>", desc := "()V" } : Jvm.MethodName) object_method_1_code (1 : Nat) (Option.none : Option Jvm.ClassFile.FieldType), Jvm.Cond.code ({ cls := "java/lang/String", name := "<init>", desc := "([C)V" } : Jvm.MethodName) jdk_42_method_3_code (2 : Nat) (Option.none : Option Jvm.ClassFile.FieldType), Jvm.Cond.code ({ cls := "java/lang/String", name := "<init>", desc := "([CIILjava/lang/Void;)V" } : Jvm.MethodName) jdk_42_method_149_code (6 : Nat) (Option.none : Option Jvm.ClassFile.FieldType), Jvm.Cond.code ({ cls := "java/lang/StringUTF16", name := "compress", desc := "([CII)[B" } : Jvm.MethodName) jdk_52_method_16_code (6 : Nat) (Option.some (Jvm.ClassFile.FieldType.array Jvm.ClassFile.FieldType.byte)), Jvm.Cond.code ({ cls := "java/lang/StringUTF16", name := "compress", desc := "([CI[BII)I" } : Jvm.MethodName) jdk_52_method_21_code (7 : Nat) (Option.some Jvm.ClassFile.FieldType.int), Jvm.Cond.code ({ cls := "java/lang/StringUTF16", name := "coderFromArrayLen", desc := "([BI)B" } : Jvm.MethodName) jdk_52_method_15_code (2 : Nat) (Option.some Jvm.ClassFile.FieldType.byte), Jvm.Cond.code ({ cls := "com/example/quiescence/quiescence/model/SExpression$Balance", name := "add", desc := "(Ljava/lang/CharSequence;)V" } : Jvm.MethodName) prog_88_method_2_code (4 : Nat) (Option.none : Option Jvm.ClassFile.FieldType), Jvm.Cond.code ({ cls := "java/lang/String", name := "length", desc := "()I" } : Jvm.MethodName) jdk_42_method_54_code (1 : Nat) (Option.some Jvm.ClassFile.FieldType.int), Jvm.Cond.code ({ cls := "java/lang/String", name := "coder", desc := "()B" } : Jvm.MethodName) jdk_42_method_152_code (1 : Nat) (Option.some Jvm.ClassFile.FieldType.byte), Jvm.Cond.code ({ cls := "java/lang/String", name := "charAt", desc := "(I)C" } : Jvm.MethodName) jdk_42_method_56_code (2 : Nat) (Option.some Jvm.ClassFile.FieldType.char), Jvm.Cond.code ({ cls := "java/lang/String", name := "isLatin1", desc := "()Z" } : Jvm.MethodName) jdk_42_method_154_code (1 : Nat) (Option.some Jvm.ClassFile.FieldType.boolean), Jvm.Cond.code ({ cls := "java/lang/StringLatin1", name := "charAt", desc := "([BI)C" } : Jvm.MethodName) jdk_43_method_2_code (2 : Nat) (Option.some Jvm.ClassFile.FieldType.char), Jvm.Cond.code ({ cls := "java/lang/String", name := "checkIndex", desc := "(II)V" } : Jvm.MethodName) jdk_42_method_155_code (2 : Nat) (Option.none : Option Jvm.ClassFile.FieldType), Jvm.Cond.code ({ cls := "jdk/internal/util/Preconditions", name := "checkIndex", desc := "(IILjava/util/function/BiFunction;)I" } : Jvm.MethodName) jdk_41_method_11_code (3 : Nat) (Option.some Jvm.ClassFile.FieldType.int), Jvm.Cond.code ({ cls := "com/example/quiescence/quiescence/model/SExpression$Balance", name := "open", desc := "()Z" } : Jvm.MethodName) prog_88_method_3_code (1 : Nat) (Option.some Jvm.ClassFile.FieldType.boolean), Jvm.Cond.code ({ cls := "java/lang/StringUTF16", name := "toBytes", desc := "([CII)[B" } : Jvm.MethodName) jdk_52_method_14_code (5 : Nat) (Option.some (Jvm.ClassFile.FieldType.array Jvm.ClassFile.FieldType.byte)), Jvm.Cond.code ({ cls := "java/lang/StringUTF16", name := "newBytesFor", desc := "(I)[B" } : Jvm.MethodName) jdk_52_method_2_code (1 : Nat) (Option.some (Jvm.ClassFile.FieldType.array Jvm.ClassFile.FieldType.byte)), Jvm.Cond.code ({ cls := "java/lang/StringUTF16", name := "newBytesLength", desc := "(I)I" } : Jvm.MethodName) jdk_52_method_3_code (1 : Nat) (Option.some Jvm.ClassFile.FieldType.int), Jvm.Cond.code ({ cls := "java/lang/StringUTF16", name := "putChar", desc := "([BII)V" } : Jvm.MethodName) jdk_52_method_4_code (3 : Nat) (Option.none : Option Jvm.ClassFile.FieldType), Jvm.Cond.code ({ cls := "java/lang/StringUTF16", name := "getChar", desc := "([BI)C" } : Jvm.MethodName) jdk_52_method_5_code (2 : Nat) (Option.some Jvm.ClassFile.FieldType.char), Jvm.Cond.code ({ cls := "java/lang/StringUTF16", name := "charAt", desc := "([BI)C" } : Jvm.MethodName) jdk_52_method_83_code (2 : Nat) (Option.some Jvm.ClassFile.FieldType.char), Jvm.Cond.code ({ cls := "java/lang/StringUTF16", name := "checkIndex", desc := "(I[B)V" } : Jvm.MethodName) jdk_52_method_91_code (2 : Nat) (Option.none : Option Jvm.ClassFile.FieldType), Jvm.Cond.code ({ cls := "java/lang/StringUTF16", name := "length", desc := "([B)I" } : Jvm.MethodName) jdk_52_method_6_code (1 : Nat) (Option.some Jvm.ClassFile.FieldType.int)]
set_option maxRecDepth 65536 in
theorem codes_eq : words1.filter isCode = codes1 := rfl
theorem w_codes : ∀ c ∈ words1.filter isCode, c.before args0 about1 = true := by
  rw [codes_eq]
  intro c hc
  simp only [codes1, List.mem_cons, List.not_mem_nil, or_false] at hc
  rcases hc with rfl | rfl | rfl | rfl | rfl | rfl | rfl | rfl | rfl | rfl | rfl | rfl | rfl | rfl | rfl | rfl | rfl | rfl | rfl | rfl | rfl | rfl | rfl | rfl | rfl | rfl
  · exact w_c0
  · exact w_c1
  · exact w_c2
  · exact w_c3
  · exact w_c4
  · exact w_c5
  · exact w_c6
  · exact w_c7
  · exact w_c8
  · exact w_c9
  · exact w_c10
  · exact w_c11
  · exact w_c12
  · exact w_c13
  · exact w_c14
  · exact w_c15
  · exact w_c16
  · exact w_c17
  · exact w_c18
  · exact w_c19
  · exact w_c20
  · exact w_c21
  · exact w_c22
  · exact w_c23
  · exact w_c24
  · exact w_c25
set_option maxRecDepth 65536 in
theorem w_t1 : (words1.take 24).all (fun c => isCode c || c.before args0 about1) = true := by decide +kernel
set_option maxRecDepth 65536 in
theorem w_t2 : ((words1.drop 24).take 24).all (fun c => isCode c || c.before args0 about1) = true := by decide +kernel
set_option maxRecDepth 65536 in
theorem w_t3 : (((words1.drop 24).drop 24).take 24).all (fun c => isCode c || c.before args0 about1) = true := by decide +kernel
set_option maxRecDepth 65536 in
theorem w_t4 : ((((words1.drop 24).drop 24).drop 24).take 24).all (fun c => isCode c || c.before args0 about1) = true := by decide +kernel
set_option maxRecDepth 65536 in
theorem w_t5 : (((((words1.drop 24).drop 24).drop 24).drop 24).take 24).all (fun c => isCode c || c.before args0 about1) = true := by decide +kernel
set_option maxRecDepth 65536 in
theorem w_t6 : (((((words1.drop 24).drop 24).drop 24).drop 24).drop 24).all (fun c => isCode c || c.before args0 about1) = true := by decide +kernel
theorem w_tables : (allAtoms (Jvm.Cond.code x code maxLocals ret :: tables_1)).before args0 about1 = true := by
  rw [allAtoms_all]
  show words1.all (fun c => c.before args0 about1) = true
  refine all_split ?_ w_codes
  rw [← List.take_append_drop 24 words1, List.all_append, w_t1, ← List.take_append_drop 24 (words1.drop 24), List.all_append, w_t2, ← List.take_append_drop 24 ((words1.drop 24).drop 24), List.all_append, w_t3, ← List.take_append_drop 24 (((words1.drop 24).drop 24).drop 24), List.all_append, w_t4, ← List.take_append_drop 24 ((((words1.drop 24).drop 24).drop 24).drop 24), List.all_append, w_t5, w_t6]
  rfl
set_option maxRecDepth 65536 in
theorem w_rest : rest_1_c.before args0 about1 = true := by decide +kernel
set_option maxRecDepth 65536 in
theorem w_case : (Jvm.Cond.and given_1 narrow_1).before args0 about1 = true := by decide +kernel
theorem w_applies : (headSpec (Jvm.Cond.code x code maxLocals ret :: tables_1) room_1).applies x e0.platform about1 = true :=
  (Spec.applies_iff w_frames).mpr ⟨w_running, w_runnable, w_alone, w_named, w_hears, w_ripe, w_room, w_tables⟩
theorem atStart : AtStart classFile x code maxLocals ret World_1 tables_1 room_1 Calls_1 rest_1 Pre_1 launch0 p0 e0 about1 theMethod args0 below0 :=
  ⟨lists_1, trivial, launch0.admits_env _ _ _, launch0.least_env, fairChoices_fair.cas, fairChoices_fair.clock, w_frames, w_args, w_heap, w_applies, trivial, w_rest, w_case⟩
end start1
theorem witness_1 : WitnessClaimed_1 := ⟨start1.p0, start1.e0, start1.about1, start1.theMethod, start1.args0, start1.below0, start1.atStart⟩
end Jvm.Pilot.@@N@@
