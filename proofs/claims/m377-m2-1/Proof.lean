import JvmDerived
import JvmDerived.Pilot.@@N@@Statement
import JvmDerived.Pilot.@@N@@Code
set_option linter.unusedVariables false
set_option linter.unusedSimpArgs false
namespace Jvm.RoadKit
open Sem ClassFile Op Lib Jvm.Stand Jvm.Free Jvm.LawKit
section New
variable {p : Program} {l : Launch} {e : Env} {R : Room} {s : State} {m : MethodId} {args : Array Value} {below : List Frame} {meth : Method} {c : Code} {T : State} {locs : List Loc} {cells slots : Nat}
theorem retI (X : Stand p l e R s m args below meth c T locs cells slots) (hx : p.tables.exec = Jvm.exec) {pc : Nat} {Ls : Array Slot} {z : Int32} {rest : List Value} (hret : meth.sig.returnType = some .int) (hd : decode c.code pc = .ok (.ireturn, 1)) {fs : List Frame}
    (hl : ∀ (f : JFrame) (acts : List Action), f.method = m → f.locked = none → f.entered = [] → (doReturn e (T.setTop f) acts (some (.int z))).1 = T.setFrames fs) : Steps p.tables e below (T.setTop (mkF m pc Ls (.int z :: rest))) (T.setFrames fs) := by
  have hm' : T.vm.method? m = some meth := X.method'
  have hn : narrow .int (.int z) = .int z := rfl
  show Steps p.tables e below (T.setTop { method := m, pc := pc, locals := Ls, stack := _ :: rest, locked := none }) _
  jvm_step X.here [X.here.top, hx, hd, hm', hret, hn]
  first | (intro acts; rw [hl _ acts rfl rfl rfl]) | rw [hl _ _ rfl rfl rfl]
  exact Steps.refl _
end New
end Jvm.RoadKit
namespace Jvm.Pilot.@@N@@
open Jvm Jvm.ClassFile Sem Op Lib Jvm.Free Jvm.Stand Jvm.LawKit Jvm.RoadKit Bundle Jvm.Pilot.@@N@@.Jvm.D
theorem own_w {a0 : Array Value} {Z : State} (hw : ∀ d ∈ tables_1, d.before a0 Z = true) (k : Nat) {d : Jvm.Cond} (h : tables_1[k]? = some d := by rfl) : d.before a0 Z = true := hw _ (List.mem_of_getElem? h)
theorem own_neq {a b : Nat} (h : a < b ∨ b < a) : a ≠ b := by omega
abbrev oI (x : Int32) : Slot := .val (.int x)
abbrev oR (a : Addr) : Slot := .val (.ref a)
abbrev oJ (x : Int64) : Slot := .val (.long x)
abbrev oD (x : UInt64) : Slot := .val (.double x)
/-- from the state A the run comes to an end of which Q holds -/
def own_Go (p : Program) (e : Env) (below : List Frame) (Q : Outcome → State → Prop) (A : State) : Prop := ∃ s₂ o, Steps p.tables e below A s₂ ∧ s₂.status = .running ∧ Ended s₂ below o ∧ Q o s₂
theorem own_via {p : Program} {e : Env} {below : List Frame} {Q : Outcome → State → Prop} {A B : State} (h : ∀ t, Steps p.tables e below B t → Steps p.tables e below A t) (g : own_Go p e below Q B) : own_Go p e below Q A := by
  obtain ⟨s₂, o, h1, h2⟩ := g
  exact ⟨s₂, o, h _ h1, h2⟩
theorem own_tr {p : Program} {e : Env} {below : List Frame} {Q : Outcome → State → Prop} {A B : State} (h : Steps p.tables e below A B) (g : own_Go p e below Q B) : own_Go p e below Q A := by
  obtain ⟨s₂, o, h1, h2⟩ := g
  exact ⟨s₂, o, h.trans h1, h2⟩
/-- from the state A the run comes to a state B of which Φ holds -/
def own_Pc (p : Program) (e : Env) (below : List Frame) (Φ : State → Prop) (A : State) : Prop := ∃ B, (∀ t, Steps p.tables e below B t → Steps p.tables e below A t) ∧ Φ B
theorem own_pvia {p : Program} {e : Env} {below : List Frame} {Φ : State → Prop} {A B : State} (h : ∀ t, Steps p.tables e below B t → Steps p.tables e below A t) (g : own_Pc p e below Φ B) : own_Pc p e below Φ A := by
  obtain ⟨B', h1, h2⟩ := g
  exact ⟨B', fun t k => h t (h1 t k), h2⟩
theorem own_ptr {p : Program} {e : Env} {below : List Frame} {Φ : State → Prop} {A B : State} (h : Steps p.tables e below A B) (g : own_Pc p e below Φ B) : own_Pc p e below Φ A := own_pvia (fun t k => h.trans k) g
theorem own_start {p : Program} {e : Env} {below : List Frame} {Q : Outcome → State → Prop} {A : State} (h : own_Go p e below Q A) : ∃ s₂ o, Steps p.tables e below A s₂ ∧ s₂.status = .running ∧ Ended s₂ below o ∧ Q o s₂ := h
theorem own_narb (x : Int32) : nar .byte (x.toInt8.toInt32) = x.toInt8.toInt32 := by simp only [nar, Int8.toInt8_toInt32]
def own_ch (c : Int32) : Prop := ¬ c < (0 : Int32) ∧ ¬ (65535 : Int32) < c
theorem own_ch_r {c : Int32} (h : own_ch c) : 0 ≤ c.toInt ∧ c.toInt ≤ 65535 := by
  obtain ⟨a, b⟩ := h
  simp only [Int32.lt_iff_toInt_lt, Int32.reduceToInt] at a b
  omega
theorem own_lat {c : Int32} (h : own_ch c) (h2 : ¬ (255 : Int32) < c) : ((c.toInt8.toInt32) &&& (255 : Int32)).toUInt32.toUInt16.toUInt32.toInt32 = c := by
  obtain ⟨a, b⟩ := own_ch_r h
  rw [Int32.lt_iff_toInt_lt] at h2
  have e1 := c_i2b c
  have e2 := c_mask (c.toInt8.toInt32) 255 8 (by decide) (by decide)
  have e3 := c_i2c ((c.toInt8.toInt32) &&& 255)
  simp only [Int32.reduceToInt] at h2
  exact Int32.toInt_inj.mp (by omega)
theorem own_utf {c : Int32} (h : own_ch c) : (((((c >>> ((0 : Int32) &&& 31)).toInt8.toInt32) &&& (255 : Int32)) <<< ((0 : Int32) &&& 31)) ||| ((((c >>> ((8 : Int32) &&& 31)).toInt8.toInt32) &&& (255 : Int32)) <<< ((8 : Int32) &&& 31))).toUInt32.toUInt16.toUInt32.toInt32 = c := by
  obtain ⟨a, b⟩ := own_ch_r h
  have s0 := c_ishr c 0 0 (by decide)
  have s8 := c_ishr c 8 8 (by decide)
  have e1 := c_i2b (c >>> ((0 : Int32) &&& 31))
  have e2 := c_i2b (c >>> ((8 : Int32) &&& 31))
  have m1 := c_mask ((c >>> ((0 : Int32) &&& 31)).toInt8.toInt32) 255 8 (by decide) (by decide)
  have m2 := c_mask ((c >>> ((8 : Int32) &&& 31)).toInt8.toInt32) 255 8 (by decide) (by decide)
  generalize ((c >>> ((0 : Int32) &&& 31)).toInt8.toInt32 &&& (255 : Int32)) = x at *
  generalize ((c >>> ((8 : Int32) &&& 31)).toInt8.toInt32 &&& (255 : Int32)) = y at *
  have l1 := c_ishl x 0 0 (by decide)
  have l2 := c_ishl y 8 8 (by decide)
  have r1 := rng32 (x <<< ((0 : Int32) &&& 31))
  have r2 := rng32 (y <<< ((8 : Int32) &&& 31))
  generalize (x <<< ((0 : Int32) &&& 31)) = u at *
  generalize (y <<< ((8 : Int32) &&& 31)) = v at *
  have o := c_or' u v 8 (by decide) 256 (by decide) (by omega) (by omega) (by omega)
  have ro := rng32 (u ||| v)
  have i := c_i2c (u ||| v)
  exact Int32.toInt_inj.mp (by omega)
theorem own_nch {c : Int32} (h : own_ch c) : narrow .char (.int c) = .int c := by
  obtain ⟨a, b⟩ := own_ch_r h
  have e := c_i2c c
  show Value.int (c.toUInt32.toUInt16.toUInt32.toInt32) = _
  exact congrArg Value.int (Int32.toInt_inj.mp (by omega))
theorem own_fch {c : Int32} (h : own_ch c) : fits .char (.int c) = true := by
  have q := fits_nar_char c
  have e := c_i2c c
  obtain ⟨a, b⟩ := own_ch_r h
  have z : nar .char c = c := by
    show c.toUInt32.toUInt16.toUInt32.toInt32 = c
    exact Int32.toInt_inj.mp (by omega)
  rw [z] at q; exact q
theorem own_ne0 {args : Array Value} {s : State} {t : Term} {x : Int32} (ev : t.eval args s none [] s = some (.int x)) (h : (Jvm.Cond.not (Jvm.Cond.eq t (Jvm.Term.int (0 : Int32)))).value args s none s [] = some true) : ¬ (x = (0 : Int32)) := by
  have e2 : (Term.int (0 : Int32)).eval args s none [] s = some (.int 0) := rfl
  simpa [Cond.value, ev, e2] using h
theorem own_seq {args : Array Value} {s : State} {t : Term} {k : Int32} (h : (Jvm.Cond.eq t (Jvm.Term.int k)).value args s none s [] = some true) : t.eval args s none [] s = some (.int k) := by
  have e2 : (Term.int k).eval args s none [] s = some (.int k) := rfl
  cases q : t.eval args s none [] s with
  | none => simp [Cond.value, q] at h
  | some v => cases v <;> simp [Cond.value, e2, q] at h ⊢; exact h
open Jvm.Free.XT (narrow_c)
def own_EL : List (String × Nat) := [("java/lang/String", 7)]
theorem own_hEL {a0 : Array Value} {Z : State} (hw : ∀ d ∈ tables_1, d.before a0 Z = true) : EW Z a0 own_EL := (EW.cons (own_w hw 18) (by decide) EW.nil)
theorem own_sa {a0 : Array Value} {Z : State} (hw : ∀ d ∈ tables_1, d.before a0 Z = true) : ∀ a ∈ Bundle.stringAtoms, a.before a0 Z = true := by
  intro a ha
  simp only [Bundle.stringAtoms, Bundle.sN, List.mem_cons, List.not_mem_nil, or_false] at ha
  rcases ha with rfl | rfl | rfl | rfl | rfl | rfl | rfl
  · exact own_w hw 6
  · exact own_w hw 5
  · exact own_w hw 19
  · exact own_w hw 20
  · exact own_w hw 21
  · exact own_w hw 22
  · exact own_w hw 23
theorem own_backSH {p : Program} {l : Launch} {e : Env} {R : Room} {s Z : State} {vm0 : Vm} {args a0 : Array Value} {below : List Frame} {h : Heap} {EL : List (String × Nat)} {P : Vm → Prop} {y : MethodName} {bytes : ByteArray} {maxL : Nat} {ret : Option FieldType} {rm : Room} {len W : Nat} {as' : Array Value} {Q : Option Value → Heap → List Loc → Prop}
    (hM : MetFree l y (head1 [Cond.code y bytes maxL ret] rm) (fun a U => a = as' ∧ Z.Warmed39 U.vm ∧ U.heap = h ∧ CHv Z EL U.vm h ∧ P U.vm) (fun _ _ _ _ _ => True) (fun _ U o U' => ∃ v L, o = .returned v ∧ Q v U'.heap L ∧ CHr Z EL U.vm U.heap U'.vm U'.heap ∧ ReturnedEndW U o U' L rm.cells rm.slots))
    (hZ : Z.Warmed39 vm0) (wc : (Cond.code y bytes maxL ret).before a0 Z = true) (wz : (Cond.initialized y.cls).before a0 Z = true) (hf : rm.frames + 1 ≤ R.frames) (hl : W + (maxL + 11) + rm.locals ≤ R.locals) (hEL : EW Z a0 EL) (H : CHv Z EL vm0 h) (hP : ∀ vm, CHr Z EL vm0 h vm h → P vm) :
    BackS l R p e below (s.setVm vm0) args y len W (fun A a => a = as' ∧ A.U.heap = h ∧ A.cells + rm.cells ≤ R.cells ∧ A.slots + rm.slots ≤ R.slots)
      (fun A _ v B => ∃ L, Q v B.U.heap L ∧ B.locs = A.locs ++ L ∧ B.cells = A.cells + rm.cells ∧ B.slots = A.slots + rm.slots ∧ CHr Z EL vm0 h B.U.vm B.U.heap) :=
  BackS.of_freeW (bytes := bytes) (maxL := maxL) (ret := ret) (E := fun _ first o t L k n => k = rm.cells ∧ n = rm.slots ∧ (∃ v, o = .returned v ∧ Q v t.heap L) ∧ CHr Z EL first.vm first.heap t.vm t.heap) hM hf hl
    (fun m meth c A a Y hp => have hU : Z.Warmed39 A.U.vm := wtrans (s := s.setVm vm0) hZ Y.warmed
      ⟨by show (Cond.and _ .tt).before a A.U = true; rw [Cond.before_and, mv hU wc]; rfl, mv hU wc, mv hU wz, hp.2.2.1, hp.2.2.2⟩)
    (fun m meth c A a g mk Y hp => ⟨hp.1, wtrans (s := s.setVm vm0) hZ Y.warmed, hp.2.1, (CHv.at Y hZ hEL H).1, (show P A.U.vm from hP A.U.vm (CHv.at Y hZ hEL H))⟩) (fun _ _ _ _ _ _ _ _ _ => trivial)
    (fun _ _ _ _ ⟨v, L, h1, h2, h3, h4⟩ => ⟨L, _, _, h4, rfl, rfl, ⟨v, h1, h2⟩, h3⟩)
    (fun m meth c A a g mk v t L k n Y hp _ _ ⟨e1, e2, ⟨v', e3, e4⟩, e5⟩ => by
      cases e3; subst e1 e2
      refine ⟨L, e4, rfl, rfl, rfl, (CHv.at Y hZ hEL H).trans ?_⟩
      rw [← hp.2.1]; exact e5)
def f20 (p0 : Int32) : Int32 := (p0 <<< ((1 : Int32) &&& 31))
theorem d20_0 : decode jdk_52_method_3_code 0 = .ok (.iload_n 0, 1) := by decide +kernel
theorem d20_1 : decode jdk_52_method_3_code 1 = .ok (.ifCond .ge 11, 3) := by decide +kernel
theorem d20_12 : decode jdk_52_method_3_code 12 = .ok (.iload_n 0, 1) := by decide +kernel
theorem d20_13 : decode jdk_52_method_3_code 13 = .ok (.ldc 20, 2) := by decide +kernel
theorem d20_15 : decode jdk_52_method_3_code 15 = .ok (.if_icmp .lt 40, 3) := by decide +kernel
theorem d20_55 : decode jdk_52_method_3_code 55 = .ok (.iload_n 0, 1) := by decide +kernel
theorem d20_56 : decode jdk_52_method_3_code 56 = .ok (.iconst 1, 1) := by decide +kernel
theorem d20_57 : decode jdk_52_method_3_code 57 = .ok (.ishl, 1) := by decide +kernel
theorem d20_58 : decode jdk_52_method_3_code 58 = .ok (.ireturn, 1) := by decide +kernel
theorem pn_20 : plainName "java/lang/StringUTF16" = true := by first | (simp [plainName, overriddenIn]; done) | decide +kernel
theorem ef_rm20 (m : MethodId) (q0 : Int32) : entryFrame m #[(.int q0)] 1 = mkF m 0 #[oI q0] [] := by first | (simp [entryFrame, mkF, argsToLocals, Value.category]; done) | rfl
def Q20 (Z : State) (p0 : Int32) (r : Int32) (h0 : Heap) (n0 : Nat) (v : Option Value) (h : Heap) (L : List Loc) : Prop := v = some (.int r) ∧ Fr n0 L ∧ h = h0
set_option maxRecDepth 65536 in
set_option maxHeartbeats 40000000 in
theorem rm20 (l : Launch) (Z : State) (a0 : Array Value) (hw : ∀ d ∈ tables_1, d.before a0 Z = true) (ws : List Jvm.Cond) (p0 : Int32) (r : Int32) (h0 : Heap) (n0 : Nat) (Z0 : n0 ≤ h0.size) (hn0 : ¬ (p0 < (0 : Int32))) (hn1 : p0 < (1073741823 : Int32)) (hr0 : (f20 p0) = r) :
    MetFree l (⟨"java/lang/StringUTF16", "newBytesLength", "(I)I"⟩ : MethodName) (head1 (Jvm.Cond.code (⟨"java/lang/StringUTF16", "newBytesLength", "(I)I"⟩ : MethodName) jdk_52_method_3_code 1 (some .int) :: ws) ({ frames := 0, cells := 0, slots := 0, locals := 0 } : Room)) (fun a U => a = #[(.int p0)] ∧ Z.Warmed39 U.vm ∧ U.heap = h0) (fun _ _ _ _ _ => True) (fun _ U o U' => ∃ v L, o = .returned v ∧ Q20 Z p0 r h0 n0 v U'.heap L ∧ FrameEnd U o U' L ({ frames := 0, cells := 0, slots := 0, locals := 0 } : Room).cells ({ frames := 0, cells := 0, slots := 0, locals := 0 } : Room).slots) := by
  refine MetFree.of_bodySF (plainFor_of_name pn_20) hisR ?_
  intro p e s m args below meth c s₁ Bd hml0 hP hK
  obtain ⟨rfl, hZ, hh⟩ := hP
  have hx := Bd.exec
  have hby := Bd.bytes
  have hml : c.maxLocals = 1 := hml0
  have hown : s.vm.findClass "java/lang/StringUTF16" = some m.cls := findClass_of_methodNamed Bd.named
  have hnm := (name_of_methodNamed Bd.named Bd.method).1
  have X0 : Stand p l e ({ frames := 0, cells := 0, slots := 0, locals := 0 } : Room) s m #[(.int p0)] below meth c s₁ [] 0 0 := Stand.of_body Bd
  have e0 : s₁.heap = h0 := by rw [← hh, Bd.state]; rfl
  have N0 := Fr.nil n0
  refine own_start ?_
  refine own_via (fun t k => castTop (ef_rm20 m p0) k) ?_
  show own_Go p e below _ (s₁.setTop (mkF m 0 #[oI p0] []))
  refine own_via (fun t kz => XS.iloadN X0.here hx rfl (hb hby d20_0) rfl kz) ?_
  show own_Go p e below _ (s₁.setTop (mkF m 1 #[oI p0] [(.int p0)]))
  refine own_via (fun t kz => XS.ifYes X0.here hx rfl (pc0 := 1) (pc' := 12) rfl (hb hby d20_1) rfl ((if0 _ _).trans (flt hn0).2.1) (by decide) (by decide) kz) ?_
  refine own_via (fun t kz => XS.iloadN X0.here hx rfl (hb hby d20_12) rfl kz) ?_
  show own_Go p e below _ (s₁.setTop (mkF m 13 #[oI p0] [(.int p0)]))
  refine own_via (fun t kz => X0.ldcInt hx hown (mvT hZ (own_w hw 88)) (g := (mkF m 13 #[oI p0] [(.int p0)])) rfl (hb hby d20_13) t kz) ?_
  show own_Go p e below _ (s₁.setTop (mkF m 15 #[oI p0] [(.int (1073741823 : Int32)), (.int p0)]))
  refine own_via (fun t kz => XS.icmpYes X0.here hx rfl (pc0 := 15) (pc' := 55) rfl (hb hby d20_15) rfl (tlt hn1).1 (by decide) (by decide) kz) ?_
  refine own_via (fun t kz => XS.iloadN X0.here hx rfl (hb hby d20_55) rfl kz) ?_
  refine own_via (fun t kz => XS.iconst X0.here hx rfl (hb hby d20_56) kz) ?_
  show own_Go p e below _ (s₁.setTop (mkF m 57 #[oI p0] [(.int (1 : Int32)), (.int p0)]))
  refine own_via (fun t kz => XS.ishl X0.here hx rfl (hb hby d20_57) rfl kz) ?_
  show own_Go p e below _ (s₁.setTop (mkF m 58 #[oI p0] [(.int (p0 <<< ((1 : Int32) &&& 31)))]))
  have hv : (f20 p0) = (p0 <<< ((1 : Int32) &&& 31)) := by unfold f20; rfl
  obtain ⟨fs, hr, hrun, hended, hW, hsame⟩ := X0.leave (v := some (.int (p0 <<< ((1 : Int32) &&& 31)))) (fun h => by rw [Bd.returns] at h; cases h)
  refine ⟨_, _, retI X0 hx Bd.returns (hb hby d20_58) hr, hrun, hended, _, _, rfl, ?_, ⟨_, rfl⟩, hW, hsame.mono (by decide) (by decide)⟩
  show Q20 Z p0 r h0 n0 _ s₁.heap _
  rw [e0]
  exact ⟨by rw [← hr0, hv], N0, rfl⟩
def f16 (p0 : Int32) : Int32 := p0
theorem d16_0 : decode jdk_41_method_11_code 0 = .ok (.iload_n 0, 1) := by decide +kernel
theorem d16_1 : decode jdk_41_method_11_code 1 = .ok (.ifCond .lt 8, 3) := by decide +kernel
theorem d16_4 : decode jdk_41_method_11_code 4 = .ok (.iload_n 0, 1) := by decide +kernel
theorem d16_5 : decode jdk_41_method_11_code 5 = .ok (.iload_n 1, 1) := by decide +kernel
theorem d16_6 : decode jdk_41_method_11_code 6 = .ok (.if_icmp .lt 10, 3) := by decide +kernel
theorem d16_16 : decode jdk_41_method_11_code 16 = .ok (.iload_n 0, 1) := by decide +kernel
theorem d16_17 : decode jdk_41_method_11_code 17 = .ok (.ireturn, 1) := by decide +kernel
theorem pn_16 : plainName "jdk/internal/util/Preconditions" = true := by first | (simp [plainName, overriddenIn]; done) | decide +kernel
theorem ef_rm16 (m : MethodId) (q0 : Int32) (q1 : Int32) (q2 : Value) (hq2 : q2.isRef = true) : entryFrame m #[(.int q0), (.int q1), q2] 3 = mkF m 0 #[oI q0, oI q1, .val q2] [] := by rcases ref_cases hq2 with rfl | ⟨_, rfl⟩ <;> (first | (simp [entryFrame, mkF, argsToLocals, Value.category]; done) | rfl)
def Q16 (Z : State) (p0 : Int32) (p1 : Int32) (p2 : Value) (r : Int32) (h0 : Heap) (n0 : Nat) (v : Option Value) (h : Heap) (L : List Loc) : Prop := v = some (.int r) ∧ Fr n0 L ∧ h = h0
set_option maxRecDepth 65536 in
set_option maxHeartbeats 40000000 in
theorem rm16 (l : Launch) (Z : State) (a0 : Array Value) (hw : ∀ d ∈ tables_1, d.before a0 Z = true) (ws : List Jvm.Cond) (p0 : Int32) (p1 : Int32) (p2 : Value) (r : Int32) (h0 : Heap) (n0 : Nat) (Z0 : n0 ≤ h0.size) (r_p2 : p2.isRef = true) (hq0 : ¬ (p0 < (0 : Int32))) (hq1 : p0 < p1) (hr0 : (f16 p0) = r) :
    MetFree l (⟨"jdk/internal/util/Preconditions", "checkIndex", "(IILjava/util/function/BiFunction;)I"⟩ : MethodName) (head1 (Jvm.Cond.code (⟨"jdk/internal/util/Preconditions", "checkIndex", "(IILjava/util/function/BiFunction;)I"⟩ : MethodName) jdk_41_method_11_code 3 (some .int) :: ws) ({ frames := 0, cells := 0, slots := 0, locals := 0 } : Room)) (fun a U => a = #[(.int p0), (.int p1), p2] ∧ Z.Warmed39 U.vm ∧ U.heap = h0) (fun _ _ _ _ _ => True) (fun _ U o U' => ∃ v L, o = .returned v ∧ Q16 Z p0 p1 p2 r h0 n0 v U'.heap L ∧ FrameEnd U o U' L ({ frames := 0, cells := 0, slots := 0, locals := 0 } : Room).cells ({ frames := 0, cells := 0, slots := 0, locals := 0 } : Room).slots) := by
  refine MetFree.of_bodySF (plainFor_of_name pn_16) hisR ?_
  intro p e s m args below meth c s₁ Bd hml0 hP hK
  obtain ⟨rfl, hZ, hh⟩ := hP
  have hx := Bd.exec
  have hby := Bd.bytes
  have hml : c.maxLocals = 3 := hml0
  have hown : s.vm.findClass "jdk/internal/util/Preconditions" = some m.cls := findClass_of_methodNamed Bd.named
  have hnm := (name_of_methodNamed Bd.named Bd.method).1
  have X0 : Stand p l e ({ frames := 0, cells := 0, slots := 0, locals := 0 } : Room) s m #[(.int p0), (.int p1), p2] below meth c s₁ [] 0 0 := Stand.of_body Bd
  have e0 : s₁.heap = h0 := by rw [← hh, Bd.state]; rfl
  have N0 := Fr.nil n0
  refine own_start ?_
  refine own_via (fun t k => castTop (ef_rm16 m p0 p1 p2 r_p2) k) ?_
  show own_Go p e below _ (s₁.setTop (mkF m 0 #[oI p0, oI p1, .val p2] []))
  refine own_via (fun t kz => XS.iloadN X0.here hx rfl (hb hby d16_0) rfl kz) ?_
  show own_Go p e below _ (s₁.setTop (mkF m 1 #[oI p0, oI p1, .val p2] [(.int p0)]))
  refine own_via (fun t kz => XS.ifNo X0.here hx rfl (hb hby d16_1) rfl ((if0 _ _).trans (flt hq0).1) kz) ?_
  refine own_via (fun t kz => XS.iloadN X0.here hx rfl (hb hby d16_4) rfl kz) ?_
  refine own_via (fun t kz => XS.iloadN X0.here hx rfl (hb hby d16_5) rfl kz) ?_
  show own_Go p e below _ (s₁.setTop (mkF m 6 #[oI p0, oI p1, .val p2] [(.int p1), (.int p0)]))
  refine own_via (fun t kz => XS.icmpYes X0.here hx rfl (pc0 := 6) (pc' := 16) rfl (hb hby d16_6) rfl (tlt hq1).1 (by decide) (by decide) kz) ?_
  refine own_via (fun t kz => XS.iloadN X0.here hx rfl (hb hby d16_16) rfl kz) ?_
  show own_Go p e below _ (s₁.setTop (mkF m 17 #[oI p0, oI p1, .val p2] [(.int p0)]))
  have hv : (f16 p0) = p0 := by unfold f16; rfl
  obtain ⟨fs, hr, hrun, hended, hW, hsame⟩ := X0.leave (v := some (.int p0)) (fun h => by rw [Bd.returns] at h; cases h)
  refine ⟨_, _, retI X0 hx Bd.returns (hb hby d16_17) hr, hrun, hended, _, _, rfl, ?_, ⟨_, rfl⟩, hW, hsame.mono (by decide) (by decide)⟩
  show Q16 Z p0 p1 p2 r h0 n0 _ s₁.heap _
  rw [e0]
  exact ⟨by rw [← hr0, hv], N0, rfl⟩
theorem d15_0 : decode jdk_42_method_155_code 0 = .ok (.iload_n 0, 1) := by decide +kernel
theorem d15_1 : decode jdk_42_method_155_code 1 = .ok (.iload_n 1, 1) := by decide +kernel
theorem d15_2 : decode jdk_42_method_155_code 2 = .ok (.getstatic 1053, 3) := by decide +kernel
theorem d15_5 : decode jdk_42_method_155_code 5 = .ok (.invokestatic 1059, 3) := by decide +kernel
theorem d15_8 : decode jdk_42_method_155_code 8 = .ok (.pop, 1) := by decide +kernel
theorem d15_9 : decode jdk_42_method_155_code 9 = .ok (.return_, 1) := by decide +kernel
theorem pn_15 : plainName "java/lang/String" = true := by first | (simp [plainName, overriddenIn]; done) | decide +kernel
theorem pd_15_0 : parseMethodDescriptor "(IILjava/util/function/BiFunction;)I" = some ⟨[.int, .int, (.object "java/util/function/BiFunction")], some .int⟩ := by decide +kernel
theorem ef_rm15 (m : MethodId) (q0 : Int32) (q1 : Int32) : entryFrame m #[(.int q0), (.int q1)] 2 = mkF m 0 #[oI q0, oI q1] [] := by first | (simp [entryFrame, mkF, argsToLocals, Value.category]; done) | rfl
def Q15 (Z : State) (p0 : Int32) (p1 : Int32) (wsf : Value) (h0 : Heap) (n0 : Nat) (v : Option Value) (h : Heap) (L : List Loc) : Prop := v = none ∧ Fr n0 L ∧ h = h0
set_option maxRecDepth 65536 in
set_option maxHeartbeats 40000000 in
theorem rm15 (l : Launch) (Z : State) (a0 : Array Value) (hw : ∀ d ∈ tables_1, d.before a0 Z = true) (ws : List Jvm.Cond) (p0 : Int32) (p1 : Int32) (wsf : Value) (h0 : Heap) (n0 : Nat) (Z0 : n0 ≤ h0.size) (rsf : wsf.isRef = true) (S_wsf : Sta Z h0 "jdk/internal/util/Preconditions" "SIOOBE_FORMATTER" "Ljava/util/function/BiFunction;" wsf) (hq0 : ¬ (p0 < (0 : Int32))) (hq1 : p0 < p1) :
    MetFree l (⟨"java/lang/String", "checkIndex", "(II)V"⟩ : MethodName) (head1 (Jvm.Cond.code (⟨"java/lang/String", "checkIndex", "(II)V"⟩ : MethodName) jdk_42_method_155_code 2 none :: ws) ({ frames := 1, cells := 0, slots := 0, locals := 14 } : Room)) (fun a U => a = #[(.int p0), (.int p1)] ∧ Z.Warmed39 U.vm ∧ U.heap = h0) (fun _ _ _ _ _ => True) (fun _ U o U' => ∃ v L, o = .returned v ∧ Q15 Z p0 p1 wsf h0 n0 v U'.heap L ∧ FrameEnd U o U' L ({ frames := 1, cells := 0, slots := 0, locals := 14 } : Room).cells ({ frames := 1, cells := 0, slots := 0, locals := 14 } : Room).slots) := by
  refine MetFree.of_bodySF (plainFor_of_name pn_15) hisR ?_
  intro p e s m args below meth c s₁ Bd hml0 hP hK
  obtain ⟨rfl, hZ, hh⟩ := hP
  have hx := Bd.exec
  have hby := Bd.bytes
  have hml : c.maxLocals = 2 := hml0
  have hown : s.vm.findClass "java/lang/String" = some m.cls := findClass_of_methodNamed Bd.named
  have hnm := (name_of_methodNamed Bd.named Bd.method).1
  have X0 : Stand p l e ({ frames := 1, cells := 0, slots := 0, locals := 14 } : Room) s m #[(.int p0), (.int p1)] below meth c s₁ [] 0 0 := Stand.of_body Bd
  have e0 : s₁.heap = h0 := by rw [← hh, Bd.state]; rfl
  have N0 := Fr.nil n0
  refine own_start ?_
  refine own_via (fun t k => castTop (ef_rm15 m p0 p1) k) ?_
  show own_Go p e below _ (s₁.setTop (mkF m 0 #[oI p0, oI p1] []))
  refine own_via (fun t kz => XS.iloadN X0.here hx rfl (hb hby d15_0) rfl kz) ?_
  refine own_via (fun t kz => XS.iloadN X0.here hx rfl (hb hby d15_1) rfl kz) ?_
  show own_Go p e below _ (s₁.setTop (mkF m 2 #[oI p0, oI p1] [(.int p1), (.int p0)]))
  obtain ⟨T1, X1, e1, st1⟩ := getS2 X0 hx hZ hown (host := "") (Or.inl (own_w hw 71)) Via.refl e0 S_wsf (g := (mkF m 2 #[oI p0, oI p1] [(.int p1), (.int p0)])) rfl (hb hby d15_2)
  refine own_via st1 ?_
  show own_Go p e below _ (T1.setTop (mkF m 5 #[oI p0, oI p1] [wsf, (.int p1), (.int p0)]))
  obtain ⟨_, _, ⟨T2, L2, k2, n2⟩, -, X2, ⟨Lc2, hQ2, l2, y2, z2⟩, st2⟩ := Jvm.LawKit.callS X1 hx (y := (⟨"jdk/internal/util/Preconditions", "checkIndex", "(IILjava/util/function/BiFunction;)I"⟩ : MethodName)) hown (mvT hZ (own_w hw 73)) (mvT hZ (own_w hw 74)) (mvT hZ (own_w hw 72)) (mvT hZ (own_w hw 75)) (by decide) (backOf (W := 0) (rm16 l Z a0 hw [] p0 p1 wsf p0 h0 n0 Z0 rsf hq0 hq1 rfl) hZ (own_w hw 75) (own_w hw 72) (by decide) (by decide)) (g := (mkF m 5 #[oI p0, oI p1] [wsf, (.int p1), (.int p0)])) rfl (by rw [hml]; rfl) (argsL := [(.int p0), (.int p1), wsf]) (rest := []) (lenOf pd_15_0 rfl) rfl (by show 2 * 0 + _ ≤ _; exact Nat.le_of_eq rfl) (hb hby d15_5) (fun _ _ => ⟨rfl, e1, (by decide : 0 + 0 ≤ _), (by decide : 0 + 0 ≤ _)⟩)
  dsimp only [Pt.U, Pt.locs, Pt.cells, Pt.slots] at X2 l2 y2 z2 st2 hQ2
  subst l2 y2 z2
  obtain ⟨rfl, Nq2, e2⟩ := hQ2
  have N3 := Fr.app N0 Nq2
  refine own_via st2 ?_
  show own_Go p e below _ (T2.setTop (mkF m 8 #[oI p0, oI p1] [(.int p0)]))
  refine own_via (fun t kz => XS.pop X2.here hx rfl (hb hby d15_8) rfl rfl kz) ?_
  show own_Go p e below _ (T2.setTop (mkF m 9 #[oI p0, oI p1] []))
  obtain ⟨fs, hr, hrun, hended, hW, hsame⟩ := X2.leave (v := none) (fun _ => rfl)
  refine ⟨_, _, X2.returnOut hx Bd.returns (hb hby d15_9) hr, hrun, hended, _, _, rfl, ?_, ⟨_, rfl⟩, hW, hsame.mono (by decide) (by decide)⟩
  show Q15 Z p0 p1 wsf h0 n0 _ T2.heap _
  rw [e2]
  exact ⟨rfl, N3, rfl⟩
def f7 (wco : Int32) : Int32 := wco
theorem d7_0 : decode jdk_42_method_152_code 0 = .ok (.getstatic 38, 3) := by decide +kernel
theorem d7_3 : decode jdk_42_method_152_code 3 = .ok (.ifCond .eq 10, 3) := by decide +kernel
theorem d7_6 : decode jdk_42_method_152_code 6 = .ok (.aload_n 0, 1) := by decide +kernel
theorem d7_7 : decode jdk_42_method_152_code 7 = .ok (.getfield 15, 3) := by decide +kernel
theorem d7_10 : decode jdk_42_method_152_code 10 = .ok (.goto 4, 3) := by decide +kernel
theorem d7_14 : decode jdk_42_method_152_code 14 = .ok (.ireturn, 1) := by decide +kernel
theorem ef_rm7 (m : MethodId) (q0 : Addr) : entryFrame m #[(.ref q0)] 1 = mkF m 0 #[oR q0] [] := by first | (simp [entryFrame, mkF, argsToLocals, Value.category]; done) | rfl
def Q7 (Z : State) (this : Addr) (wco : Int32) (wcs : Int32) (r : Int32) (h0 : Heap) (n0 : Nat) (v : Option Value) (h : Heap) (L : List Loc) : Prop := v = some (.int r) ∧ Fr n0 L ∧ h = h0
set_option maxRecDepth 65536 in
set_option maxHeartbeats 40000000 in
theorem rm7 (l : Launch) (Z : State) (a0 : Array Value) (hw : ∀ d ∈ tables_1, d.before a0 Z = true) (ws : List Jvm.Cond) (this : Addr) (wco : Int32) (wcs : Int32) (r : Int32) (h0 : Heap) (n0 : Nat) (Z0 : n0 ≤ h0.size) (hcs : ¬ (wcs = (0 : Int32))) (hnw : narrow .byte (.int wco) = .int wco) (F_wco : Fld Z h0 this "java/lang/String" "coder" "B" (.int wco)) (S_wcs : Sta Z h0 "java/lang/String" "COMPACT_STRINGS" "Z" (.int wcs)) (hr0 : (f7 wco) = r) :
    MetFree l (⟨"java/lang/String", "coder", "()B"⟩ : MethodName) (head1 (Jvm.Cond.code (⟨"java/lang/String", "coder", "()B"⟩ : MethodName) jdk_42_method_152_code 1 (some .byte) :: ws) ({ frames := 0, cells := 0, slots := 0, locals := 0 } : Room)) (fun a U => a = #[(.ref this)] ∧ Z.Warmed39 U.vm ∧ U.heap = h0) (fun _ _ _ _ _ => True) (fun _ U o U' => ∃ v L, o = .returned v ∧ Q7 Z this wco wcs r h0 n0 v U'.heap L ∧ FrameEnd U o U' L ({ frames := 0, cells := 0, slots := 0, locals := 0 } : Room).cells ({ frames := 0, cells := 0, slots := 0, locals := 0 } : Room).slots) := by
  refine MetFree.of_bodySF (plainFor_of_name pn_15) hisR ?_
  intro p e s m args below meth c s₁ Bd hml0 hP hK
  obtain ⟨rfl, hZ, hh⟩ := hP
  have hx := Bd.exec
  have hby := Bd.bytes
  have hml : c.maxLocals = 1 := hml0
  have hown : s.vm.findClass "java/lang/String" = some m.cls := findClass_of_methodNamed Bd.named
  have hnm := (name_of_methodNamed Bd.named Bd.method).1
  have X0 : Stand p l e ({ frames := 0, cells := 0, slots := 0, locals := 0 } : Room) s m #[(.ref this)] below meth c s₁ [] 0 0 := Stand.of_body Bd
  have e0 : s₁.heap = h0 := by rw [← hh, Bd.state]; rfl
  have N0 := Fr.nil n0
  refine own_start ?_
  refine own_via (fun t k => castTop (ef_rm7 m this) k) ?_
  show own_Go p e below _ (s₁.setTop (mkF m 0 #[oR this] []))
  obtain ⟨T1, X1, e1, st1⟩ := getS2 X0 hx hZ hown (host := "") (Or.inl (own_w hw 40)) Via.refl e0 S_wcs (g := (mkF m 0 #[oR this] [])) rfl (hb hby d7_0)
  refine own_via st1 ?_
  show own_Go p e below _ (T1.setTop (mkF m 3 #[oR this] [(.int wcs)]))
  refine own_via (fun t kz => XS.ifNo X1.here hx rfl (hb hby d7_3) rfl ((if0 _ _).trans (feq hcs).1) kz) ?_
  refine own_via (fun t kz => XS.aloadN X1.here hx rfl (hb hby d7_6) rfl rfl kz) ?_
  show own_Go p e below _ (T1.setTop (mkF m 7 #[oR this] [(.ref this)]))
  obtain ⟨T2, X2, e2, st2⟩ := getF X1 hx hZ hown (host := "") (Or.inl (own_w hw 25)) Via.refl e1 F_wco (g := (mkF m 7 #[oR this] [(.ref this)])) rfl rfl (hb hby d7_7)
  refine own_via st2 ?_
  refine own_via (fun t kz => XS.goto X2.here hx rfl (pc0 := 10) (pc' := 14) rfl (hb hby d7_10) (by decide) (by decide) kz) ?_
  show own_Go p e below _ (T2.setTop (mkF m 14 #[oR this] [(.int wco)]))
  have hv : (f7 wco) = wco := by unfold f7; rfl
  obtain ⟨fs, hr, hrun, hended, hW, hsame⟩ := X2.leave (v := some (.int wco)) (fun h => by rw [Bd.returns] at h; cases h)
  refine ⟨_, _, retOut X2 hx (i := .ireturn) Bd.returns (hnw) (Or.inl ⟨rfl, by simp, _, rfl⟩) (hb hby d7_14) hr, hrun, hended, _, _, rfl, ?_, ⟨_, rfl⟩, hW, hsame.mono (by decide) (by decide)⟩
  show Q7 Z this wco wcs r h0 n0 _ T2.heap _
  rw [e2]
  exact ⟨by rw [← hr0, hv], N0, rfl⟩
def f13 (wco : Int32) : Int32 := (if wco = (0 : Int32) then (1 : Int32) else (0 : Int32))
theorem d13_0 : decode jdk_42_method_154_code 0 = .ok (.getstatic 38, 3) := by decide +kernel
theorem d13_3 : decode jdk_42_method_154_code 3 = .ok (.ifCond .eq 14, 3) := by decide +kernel
theorem d13_6 : decode jdk_42_method_154_code 6 = .ok (.aload_n 0, 1) := by decide +kernel
theorem d13_7 : decode jdk_42_method_154_code 7 = .ok (.getfield 15, 3) := by decide +kernel
theorem d13_10 : decode jdk_42_method_154_code 10 = .ok (.ifCond .ne 7, 3) := by decide +kernel
theorem d13_13 : decode jdk_42_method_154_code 13 = .ok (.iconst 1, 1) := by decide +kernel
theorem d13_14 : decode jdk_42_method_154_code 14 = .ok (.goto 4, 3) := by decide +kernel
theorem d13_17 : decode jdk_42_method_154_code 17 = .ok (.iconst 0, 1) := by decide +kernel
theorem d13_18 : decode jdk_42_method_154_code 18 = .ok (.ireturn, 1) := by decide +kernel
theorem ef_rm13 (m : MethodId) (q0 : Addr) : entryFrame m #[(.ref q0)] 1 = mkF m 0 #[oR q0] [] := by first | (simp [entryFrame, mkF, argsToLocals, Value.category]; done) | rfl
def Q13 (Z : State) (this : Addr) (wco : Int32) (wcs : Int32) (r : Int32) (h0 : Heap) (n0 : Nat) (v : Option Value) (h : Heap) (L : List Loc) : Prop := v = some (.int r) ∧ Fr n0 L ∧ h = h0
set_option maxRecDepth 65536 in
set_option maxHeartbeats 40000000 in
theorem rm13 (l : Launch) (Z : State) (a0 : Array Value) (hw : ∀ d ∈ tables_1, d.before a0 Z = true) (ws : List Jvm.Cond) (this : Addr) (wco : Int32) (wcs : Int32) (r : Int32) (h0 : Heap) (n0 : Nat) (Z0 : n0 ≤ h0.size) (hcs : ¬ (wcs = (0 : Int32))) (F_wco : Fld Z h0 this "java/lang/String" "coder" "B" (.int wco)) (S_wcs : Sta Z h0 "java/lang/String" "COMPACT_STRINGS" "Z" (.int wcs)) (hr0 : (f13 wco) = r) :
    MetFree l (⟨"java/lang/String", "isLatin1", "()Z"⟩ : MethodName) (head1 (Jvm.Cond.code (⟨"java/lang/String", "isLatin1", "()Z"⟩ : MethodName) jdk_42_method_154_code 1 (some .boolean) :: ws) ({ frames := 0, cells := 0, slots := 0, locals := 0 } : Room)) (fun a U => a = #[(.ref this)] ∧ Z.Warmed39 U.vm ∧ U.heap = h0) (fun _ _ _ _ _ => True) (fun _ U o U' => ∃ v L, o = .returned v ∧ Q13 Z this wco wcs r h0 n0 v U'.heap L ∧ FrameEnd U o U' L ({ frames := 0, cells := 0, slots := 0, locals := 0 } : Room).cells ({ frames := 0, cells := 0, slots := 0, locals := 0 } : Room).slots) := by
  refine MetFree.of_bodySF (plainFor_of_name pn_15) hisR ?_
  intro p e s m args below meth c s₁ Bd hml0 hP hK
  obtain ⟨rfl, hZ, hh⟩ := hP
  have hx := Bd.exec
  have hby := Bd.bytes
  have hml : c.maxLocals = 1 := hml0
  have hown : s.vm.findClass "java/lang/String" = some m.cls := findClass_of_methodNamed Bd.named
  have hnm := (name_of_methodNamed Bd.named Bd.method).1
  have X0 : Stand p l e ({ frames := 0, cells := 0, slots := 0, locals := 0 } : Room) s m #[(.ref this)] below meth c s₁ [] 0 0 := Stand.of_body Bd
  have e0 : s₁.heap = h0 := by rw [← hh, Bd.state]; rfl
  have N0 := Fr.nil n0
  refine own_start ?_
  refine own_via (fun t k => castTop (ef_rm13 m this) k) ?_
  show own_Go p e below _ (s₁.setTop (mkF m 0 #[oR this] []))
  obtain ⟨T1, X1, e1, st1⟩ := getS2 X0 hx hZ hown (host := "") (Or.inl (own_w hw 40)) Via.refl e0 S_wcs (g := (mkF m 0 #[oR this] [])) rfl (hb hby d13_0)
  refine own_via st1 ?_
  show own_Go p e below _ (T1.setTop (mkF m 3 #[oR this] [(.int wcs)]))
  refine own_via (fun t kz => XS.ifNo X1.here hx rfl (hb hby d13_3) rfl ((if0 _ _).trans (feq hcs).1) kz) ?_
  refine own_via (fun t kz => XS.aloadN X1.here hx rfl (hb hby d13_6) rfl rfl kz) ?_
  show own_Go p e below _ (T1.setTop (mkF m 7 #[oR this] [(.ref this)]))
  obtain ⟨T2, X2, e2, st2⟩ := getF X1 hx hZ hown (host := "") (Or.inl (own_w hw 25)) Via.refl e1 F_wco (g := (mkF m 7 #[oR this] [(.ref this)])) rfl rfl (hb hby d13_7)
  refine own_via st2 ?_
  show own_Go p e below _ (T2.setTop (mkF m 10 #[oR this] [(.int wco)]))
  by_cases hc10_3 : wco = (0 : Int32)
  · refine own_via (fun t kz => XS.ifNo X2.here hx rfl (hb hby d13_10) rfl ((if0 _ _).trans (teq hc10_3).2) kz) ?_
    refine own_via (fun t kz => XS.iconst X2.here hx rfl (hb hby d13_13) kz) ?_
    refine own_via (fun t kz => XS.goto X2.here hx rfl (pc0 := 14) (pc' := 18) rfl (hb hby d13_14) (by decide) (by decide) kz) ?_
    show own_Go p e below _ (T2.setTop (mkF m 18 #[oR this] [(.int (1 : Int32))]))
    have hv : (f13 wco) = (1 : Int32) := by unfold f13; rw [if_pos hc10_3]
    obtain ⟨fs, hr, hrun, hended, hW, hsame⟩ := X2.leave (v := some (.int (1 : Int32))) (fun h => by rw [Bd.returns] at h; cases h)
    refine ⟨_, _, retN X2 hx (t := .boolean) Bd.returns (by simp) (hb hby d13_18) hr, hrun, hended, _, _, rfl, ?_, ⟨_, rfl⟩, hW, hsame.mono (by decide) (by decide)⟩
    show Q13 Z this wco wcs r h0 n0 _ T2.heap _
    rw [e2]
    exact ⟨by rw [← hr0, hv], N0, rfl⟩
  · refine own_via (fun t kz => XS.ifYes X2.here hx rfl (pc0 := 10) (pc' := 17) rfl (hb hby d13_10) rfl ((if0 _ _).trans (feq hc10_3).2) (by decide) (by decide) kz) ?_
    refine own_via (fun t kz => XS.iconst X2.here hx rfl (hb hby d13_17) kz) ?_
    show own_Go p e below _ (T2.setTop (mkF m 18 #[oR this] [(.int (0 : Int32))]))
    have hv : (f13 wco) = (0 : Int32) := by unfold f13; rw [if_neg hc10_3]
    obtain ⟨fs, hr, hrun, hended, hW, hsame⟩ := X2.leave (v := some (.int (0 : Int32))) (fun h => by rw [Bd.returns] at h; cases h)
    refine ⟨_, _, retN X2 hx (t := .boolean) Bd.returns (by simp) (hb hby d13_18) hr, hrun, hended, _, _, rfl, ?_, ⟨_, rfl⟩, hW, hsame.mono (by decide) (by decide)⟩
    show Q13 Z this wco wcs r h0 n0 _ T2.heap _
    rw [e2]
    exact ⟨by rw [← hr0, hv], N0, rfl⟩
def own_cnt1 (c0_ : Int32) : Int32 := if (255 : Int32) < c0_ then (0 : Int32) else (1 : Int32)
def fC1_1  : Int32 := (((((1 : Int32) - (1 : Int32)).toUInt32 >>> ((31 : Int32) &&& 31).toUInt32).toInt32).toInt8.toInt32)
theorem d10_0 : decode jdk_52_method_15_code 0 = .ok (.iload_n 1, 1) := by decide +kernel
theorem d10_1 : decode jdk_52_method_15_code 1 = .ok (.aload_n 0, 1) := by decide +kernel
theorem d10_2 : decode jdk_52_method_15_code 2 = .ok (.arraylength, 1) := by decide +kernel
theorem d10_3 : decode jdk_52_method_15_code 3 = .ok (.isub, 1) := by decide +kernel
theorem d10_4 : decode jdk_52_method_15_code 4 = .ok (.bipush 31, 2) := by decide +kernel
theorem d10_6 : decode jdk_52_method_15_code 6 = .ok (.iushr, 1) := by decide +kernel
theorem d10_7 : decode jdk_52_method_15_code 7 = .ok (.i2b, 1) := by decide +kernel
theorem d10_8 : decode jdk_52_method_15_code 8 = .ok (.ireturn, 1) := by decide +kernel
theorem ef_rmC1_1 (m : MethodId) (q0 : Addr) : entryFrame m #[(.ref q0), (.int (1 : Int32))] 2 = mkF m 0 #[oR q0, oI (1 : Int32)] [] := by first | (simp [entryFrame, mkF, argsToLocals, Value.category]; done) | rfl
def QC1_1 (Z : State) (p0 : Addr) (ka : ClassId) (b0_ : Int32) (r : Int32) (h0 : Heap) (n0 : Nat) (v : Option Value) (h : Heap) (L : List Loc) : Prop := v = some (.int r) ∧ Fr n0 L ∧ h = h0
set_option maxRecDepth 65536 in
set_option maxHeartbeats 40000000 in
theorem rmC1_1 (l : Launch) (Z : State) (a0 : Array Value) (hw : ∀ d ∈ tables_1, d.before a0 Z = true) (ws : List Jvm.Cond) (p0 : Addr) (ka : ClassId) (b0_ : Int32) (r : Int32) (h0 : Heap) (n0 : Nat) (Z0 : n0 ≤ h0.size) (V_p0 : Arv Z h0 p0 ka .byte (1 : Int32) [(.int b0_)] (.int (0 : Int32))) (hr0 : fC1_1 = r) :
    MetFree l (⟨"java/lang/StringUTF16", "coderFromArrayLen", "([BI)B"⟩ : MethodName) (head1 (Jvm.Cond.code (⟨"java/lang/StringUTF16", "coderFromArrayLen", "([BI)B"⟩ : MethodName) jdk_52_method_15_code 2 (some .byte) :: ws) ({ frames := 0, cells := 0, slots := 0, locals := 0 } : Room)) (fun a U => a = #[(.ref p0), (.int (1 : Int32))] ∧ Z.Warmed39 U.vm ∧ U.heap = h0) (fun _ _ _ _ _ => True) (fun _ U o U' => ∃ v L, o = .returned v ∧ QC1_1 Z p0 ka b0_ r h0 n0 v U'.heap L ∧ FrameEnd U o U' L ({ frames := 0, cells := 0, slots := 0, locals := 0 } : Room).cells ({ frames := 0, cells := 0, slots := 0, locals := 0 } : Room).slots) := by
  refine MetFree.of_bodySF (plainFor_of_name pn_20) hisR ?_
  intro p e s m args below meth c s₁ Bd hml0 hP hK
  obtain ⟨rfl, hZ, hh⟩ := hP
  have hx := Bd.exec
  have hby := Bd.bytes
  have hml : c.maxLocals = 2 := hml0
  have hown : s.vm.findClass "java/lang/StringUTF16" = some m.cls := findClass_of_methodNamed Bd.named
  have hnm := (name_of_methodNamed Bd.named Bd.method).1
  have X0 : Stand p l e ({ frames := 0, cells := 0, slots := 0, locals := 0 } : Room) s m #[(.ref p0), (.int (1 : Int32))] below meth c s₁ [] 0 0 := Stand.of_body Bd
  have e0 : s₁.heap = h0 := by rw [← hh, Bd.state]; rfl
  have N0 := Fr.nil n0
  refine own_start ?_
  refine own_via (fun t k => castTop (ef_rmC1_1 m p0) k) ?_
  show own_Go p e below _ (s₁.setTop (mkF m 0 #[oR p0, oI (1 : Int32)] []))
  refine own_via (fun t kz => XS.iloadN X0.here hx rfl (hb hby d10_0) rfl kz) ?_
  refine own_via (fun t kz => XS.aloadN X0.here hx rfl (hb hby d10_1) rfl rfl kz) ?_
  show own_Go p e below _ (s₁.setTop (mkF m 2 #[oR p0, oI (1 : Int32)] [(.ref p0), (.int (1 : Int32))]))
  obtain ⟨cl1, Ar1, kc1, Sz1, Nn1, Hs1, Gs1⟩ := id V_p0
  refine own_via (fun t kz => X0.arraylength hx (by rw [e0]; exact Ar1.1) (State.isArrayOf_alike hZ.alike Ar1.2.1) (g := (mkF m 2 #[oR p0, oI (1 : Int32)] [(.ref p0), (.int (1 : Int32))])) rfl rfl (hb hby d10_2) t kz) ?_
  show own_Go p e below _ (s₁.setTop (mkF m 3 #[oR p0, oI (1 : Int32)] [(.int (cl1.slots.size.toInt32)), (.int (1 : Int32))]))
  rw [len_of Sz1 Nn1]
  show own_Go p e below _ (s₁.setTop (mkF m 3 #[oR p0, oI (1 : Int32)] [(.int (1 : Int32)), (.int (1 : Int32))]))
  refine own_via (fun t kz => XS.isub X0.here hx rfl (hb hby d10_3) rfl kz) ?_
  refine own_via (fun t kz => XS.bipush X0.here hx rfl (hb hby d10_4) kz) ?_
  show own_Go p e below _ (s₁.setTop (mkF m 6 #[oR p0, oI (1 : Int32)] [(.int (31 : Int32)), (.int ((1 : Int32) - (1 : Int32)))]))
  refine own_via (fun t kz => XS.iushr X0.here hx rfl (hb hby d10_6) rfl kz) ?_
  show own_Go p e below _ (s₁.setTop (mkF m 7 #[oR p0, oI (1 : Int32)] [(.int ((((1 : Int32) - (1 : Int32)).toUInt32 >>> ((31 : Int32) &&& 31).toUInt32).toInt32))]))
  refine own_via (fun t kz => XS.i2b X0.here hx rfl (hb hby d10_7) rfl kz) ?_
  show own_Go p e below _ (s₁.setTop (mkF m 8 #[oR p0, oI (1 : Int32)] [(.int (((((1 : Int32) - (1 : Int32)).toUInt32 >>> ((31 : Int32) &&& 31).toUInt32).toInt32).toInt8.toInt32))]))
  have hv : fC1_1 = (((((1 : Int32) - (1 : Int32)).toUInt32 >>> ((31 : Int32) &&& 31).toUInt32).toInt32).toInt8.toInt32) := by unfold fC1_1; rfl
  obtain ⟨fs, hr, hrun, hended, hW, hsame⟩ := X0.leave (v := some (.int (((((1 : Int32) - (1 : Int32)).toUInt32 >>> ((31 : Int32) &&& 31).toUInt32).toInt32).toInt8.toInt32))) (fun h => by rw [Bd.returns] at h; cases h)
  refine ⟨_, _, retOut X0 hx (i := .ireturn) Bd.returns (by decide) (Or.inl ⟨rfl, by simp, _, rfl⟩) (hb hby d10_8) hr, hrun, hended, _, _, rfl, ?_, ⟨_, rfl⟩, hW, hsame.mono (by decide) (by decide)⟩
  show QC1_1 Z p0 ka b0_ r h0 n0 _ s₁.heap _
  rw [e0]
  exact ⟨by rw [← hr0, hv], N0, rfl⟩
def fC1_2  : Int32 := (((((1 : Int32) - (2 : Int32)).toUInt32 >>> ((31 : Int32) &&& 31).toUInt32).toInt32).toInt8.toInt32)
theorem ef_rmC1_2 (m : MethodId) (q0 : Addr) : entryFrame m #[(.ref q0), (.int (1 : Int32))] 2 = mkF m 0 #[oR q0, oI (1 : Int32)] [] := by first | (simp [entryFrame, mkF, argsToLocals, Value.category]; done) | rfl
def QC1_2 (Z : State) (p0 : Addr) (ka : ClassId) (b0_ : Int32) (b1_ : Int32) (r : Int32) (h0 : Heap) (n0 : Nat) (v : Option Value) (h : Heap) (L : List Loc) : Prop := v = some (.int r) ∧ Fr n0 L ∧ h = h0
set_option maxRecDepth 65536 in
set_option maxHeartbeats 40000000 in
theorem rmC1_2 (l : Launch) (Z : State) (a0 : Array Value) (hw : ∀ d ∈ tables_1, d.before a0 Z = true) (ws : List Jvm.Cond) (p0 : Addr) (ka : ClassId) (b0_ : Int32) (b1_ : Int32) (r : Int32) (h0 : Heap) (n0 : Nat) (Z0 : n0 ≤ h0.size) (V_p0 : Arv Z h0 p0 ka .byte (2 : Int32) [(.int b0_), (.int b1_)] (.int (0 : Int32))) (hr0 : fC1_2 = r) :
    MetFree l (⟨"java/lang/StringUTF16", "coderFromArrayLen", "([BI)B"⟩ : MethodName) (head1 (Jvm.Cond.code (⟨"java/lang/StringUTF16", "coderFromArrayLen", "([BI)B"⟩ : MethodName) jdk_52_method_15_code 2 (some .byte) :: ws) ({ frames := 0, cells := 0, slots := 0, locals := 0 } : Room)) (fun a U => a = #[(.ref p0), (.int (1 : Int32))] ∧ Z.Warmed39 U.vm ∧ U.heap = h0) (fun _ _ _ _ _ => True) (fun _ U o U' => ∃ v L, o = .returned v ∧ QC1_2 Z p0 ka b0_ b1_ r h0 n0 v U'.heap L ∧ FrameEnd U o U' L ({ frames := 0, cells := 0, slots := 0, locals := 0 } : Room).cells ({ frames := 0, cells := 0, slots := 0, locals := 0 } : Room).slots) := by
  refine MetFree.of_bodySF (plainFor_of_name pn_20) hisR ?_
  intro p e s m args below meth c s₁ Bd hml0 hP hK
  obtain ⟨rfl, hZ, hh⟩ := hP
  have hx := Bd.exec
  have hby := Bd.bytes
  have hml : c.maxLocals = 2 := hml0
  have hown : s.vm.findClass "java/lang/StringUTF16" = some m.cls := findClass_of_methodNamed Bd.named
  have hnm := (name_of_methodNamed Bd.named Bd.method).1
  have X0 : Stand p l e ({ frames := 0, cells := 0, slots := 0, locals := 0 } : Room) s m #[(.ref p0), (.int (1 : Int32))] below meth c s₁ [] 0 0 := Stand.of_body Bd
  have e0 : s₁.heap = h0 := by rw [← hh, Bd.state]; rfl
  have N0 := Fr.nil n0
  refine own_start ?_
  refine own_via (fun t k => castTop (ef_rmC1_2 m p0) k) ?_
  show own_Go p e below _ (s₁.setTop (mkF m 0 #[oR p0, oI (1 : Int32)] []))
  refine own_via (fun t kz => XS.iloadN X0.here hx rfl (hb hby d10_0) rfl kz) ?_
  refine own_via (fun t kz => XS.aloadN X0.here hx rfl (hb hby d10_1) rfl rfl kz) ?_
  show own_Go p e below _ (s₁.setTop (mkF m 2 #[oR p0, oI (1 : Int32)] [(.ref p0), (.int (1 : Int32))]))
  obtain ⟨cl1, Ar1, kc1, Sz1, Nn1, Hs1, Gs1⟩ := id V_p0
  refine own_via (fun t kz => X0.arraylength hx (by rw [e0]; exact Ar1.1) (State.isArrayOf_alike hZ.alike Ar1.2.1) (g := (mkF m 2 #[oR p0, oI (1 : Int32)] [(.ref p0), (.int (1 : Int32))])) rfl rfl (hb hby d10_2) t kz) ?_
  show own_Go p e below _ (s₁.setTop (mkF m 3 #[oR p0, oI (1 : Int32)] [(.int (cl1.slots.size.toInt32)), (.int (1 : Int32))]))
  rw [len_of Sz1 Nn1]
  show own_Go p e below _ (s₁.setTop (mkF m 3 #[oR p0, oI (1 : Int32)] [(.int (2 : Int32)), (.int (1 : Int32))]))
  refine own_via (fun t kz => XS.isub X0.here hx rfl (hb hby d10_3) rfl kz) ?_
  refine own_via (fun t kz => XS.bipush X0.here hx rfl (hb hby d10_4) kz) ?_
  show own_Go p e below _ (s₁.setTop (mkF m 6 #[oR p0, oI (1 : Int32)] [(.int (31 : Int32)), (.int ((1 : Int32) - (2 : Int32)))]))
  refine own_via (fun t kz => XS.iushr X0.here hx rfl (hb hby d10_6) rfl kz) ?_
  show own_Go p e below _ (s₁.setTop (mkF m 7 #[oR p0, oI (1 : Int32)] [(.int ((((1 : Int32) - (2 : Int32)).toUInt32 >>> ((31 : Int32) &&& 31).toUInt32).toInt32))]))
  refine own_via (fun t kz => XS.i2b X0.here hx rfl (hb hby d10_7) rfl kz) ?_
  show own_Go p e below _ (s₁.setTop (mkF m 8 #[oR p0, oI (1 : Int32)] [(.int (((((1 : Int32) - (2 : Int32)).toUInt32 >>> ((31 : Int32) &&& 31).toUInt32).toInt32).toInt8.toInt32))]))
  have hv : fC1_2 = (((((1 : Int32) - (2 : Int32)).toUInt32 >>> ((31 : Int32) &&& 31).toUInt32).toInt32).toInt8.toInt32) := by unfold fC1_2; rfl
  obtain ⟨fs, hr, hrun, hended, hW, hsame⟩ := X0.leave (v := some (.int (((((1 : Int32) - (2 : Int32)).toUInt32 >>> ((31 : Int32) &&& 31).toUInt32).toInt32).toInt8.toInt32))) (fun h => by rw [Bd.returns] at h; cases h)
  refine ⟨_, _, retOut X0 hx (i := .ireturn) Bd.returns (by decide) (Or.inl ⟨rfl, by simp, _, rfl⟩) (hb hby d10_8) hr, hrun, hended, _, _, rfl, ?_, ⟨_, rfl⟩, hW, hsame.mono (by decide) (by decide)⟩
  show QC1_2 Z p0 ka b0_ b1_ r h0 n0 _ s₁.heap _
  rw [e0]
  exact ⟨by rw [← hr0, hv], N0, rfl⟩
theorem d9_0 : decode jdk_52_method_21_code 0 = .ok (.iconst 0, 1) := by decide +kernel
theorem d9_1 : decode jdk_52_method_21_code 1 = .ok (.istore 5, 2) := by decide +kernel
theorem d9_3 : decode jdk_52_method_21_code 3 = .ok (.iload 5, 2) := by decide +kernel
theorem d9_5 : decode jdk_52_method_21_code 5 = .ok (.iload 4, 2) := by decide +kernel
theorem d9_7 : decode jdk_52_method_21_code 7 = .ok (.if_icmp .ge 37, 3) := by decide +kernel
theorem d9_10 : decode jdk_52_method_21_code 10 = .ok (.aload_n 0, 1) := by decide +kernel
theorem d9_11 : decode jdk_52_method_21_code 11 = .ok (.iload_n 1, 1) := by decide +kernel
theorem d9_12 : decode jdk_52_method_21_code 12 = .ok (.caload, 1) := by decide +kernel
theorem d9_13 : decode jdk_52_method_21_code 13 = .ok (.istore 6, 2) := by decide +kernel
theorem d9_15 : decode jdk_52_method_21_code 15 = .ok (.iload 6, 2) := by decide +kernel
theorem d9_17 : decode jdk_52_method_21_code 17 = .ok (.sipush 255, 3) := by decide +kernel
theorem d9_20 : decode jdk_52_method_21_code 20 = .ok (.if_icmp .le 6, 3) := by decide +kernel
theorem d9_23 : decode jdk_52_method_21_code 23 = .ok (.iload 5, 2) := by decide +kernel
theorem d9_25 : decode jdk_52_method_21_code 25 = .ok (.ireturn, 1) := by decide +kernel
theorem d9_26 : decode jdk_52_method_21_code 26 = .ok (.aload_n 2, 1) := by decide +kernel
theorem d9_27 : decode jdk_52_method_21_code 27 = .ok (.iload_n 3, 1) := by decide +kernel
theorem d9_28 : decode jdk_52_method_21_code 28 = .ok (.iload 6, 2) := by decide +kernel
theorem d9_30 : decode jdk_52_method_21_code 30 = .ok (.i2b, 1) := by decide +kernel
theorem d9_31 : decode jdk_52_method_21_code 31 = .ok (.bastore, 1) := by decide +kernel
theorem d9_32 : decode jdk_52_method_21_code 32 = .ok (.iinc 1 1, 3) := by decide +kernel
theorem d9_35 : decode jdk_52_method_21_code 35 = .ok (.iinc 3 1, 3) := by decide +kernel
theorem d9_38 : decode jdk_52_method_21_code 38 = .ok (.iinc 5 1, 3) := by decide +kernel
theorem d9_41 : decode jdk_52_method_21_code 41 = .ok (.goto (-38), 3) := by decide +kernel
theorem d9_44 : decode jdk_52_method_21_code 44 = .ok (.iload 4, 2) := by decide +kernel
theorem d9_46 : decode jdk_52_method_21_code 46 = .ok (.ireturn, 1) := by decide +kernel
theorem ef_rmK1 (m : MethodId) (q0 : Addr) (q1 : Addr) : entryFrame m #[(.ref q0), (.int (0 : Int32)), (.ref q1), (.int (0 : Int32)), (.int (1 : Int32))] 7 = mkF m 0 #[oR q0, oI (0 : Int32), oR q1, oI (0 : Int32), oI (1 : Int32), .unset, .unset] [] := by first | (simp [entryFrame, mkF, argsToLocals, Value.category]; done) | rfl
def QK1 (Z : State) (p0 : Addr) (p2 : Addr) (kc : ClassId) (kb : ClassId) (c0_ : Int32) (r : Int32) (h0 : Heap) (n0 : Nat) (v : Option Value) (h : Heap) (L : List Loc) : Prop := v = some (.int r) ∧ Fr n0 L ∧ Keep h0 h [p2] ∧ ((¬ (255 : Int32) < c0_) → Arv Z h p2 kb .byte (1 : Int32) [(.int (c0_.toInt8.toInt32))] (.int (0 : Int32)))
set_option maxRecDepth 65536 in
set_option maxHeartbeats 40000000 in
theorem rmK1 (l : Launch) (Z : State) (a0 : Array Value) (hw : ∀ d ∈ tables_1, d.before a0 Z = true) (ws : List Jvm.Cond) (p0 : Addr) (p2 : Addr) (kc : ClassId) (kb : ClassId) (c0_ : Int32) (r : Int32) (h0 : Heap) (n0 : Nat) (Z0 : n0 ≤ h0.size) (g_p2 : n0 ≤ p2) (ne02 : p0 ≠ p2) (VC : Arv Z h0 p0 kc .char (1 : Int32) [(.int c0_)] (.int (0 : Int32))) (VB : Arv Z h0 p2 kb .byte (1 : Int32) [(.int (0 : Int32))] (.int (0 : Int32))) (hr0 : own_cnt1 c0_ = r) :
    MetFree l (⟨"java/lang/StringUTF16", "compress", "([CI[BII)I"⟩ : MethodName) (head1 (Jvm.Cond.code (⟨"java/lang/StringUTF16", "compress", "([CI[BII)I"⟩ : MethodName) jdk_52_method_21_code 7 (some .int) :: ws) ({ frames := 0, cells := 0, slots := 0, locals := 0 } : Room)) (fun a U => a = #[(.ref p0), (.int (0 : Int32)), (.ref p2), (.int (0 : Int32)), (.int (1 : Int32))] ∧ Z.Warmed39 U.vm ∧ U.heap = h0) (fun _ _ _ _ _ => True) (fun _ U o U' => ∃ v L, o = .returned v ∧ QK1 Z p0 p2 kc kb c0_ r h0 n0 v U'.heap L ∧ FrameEnd U o U' L ({ frames := 0, cells := 0, slots := 0, locals := 0 } : Room).cells ({ frames := 0, cells := 0, slots := 0, locals := 0 } : Room).slots) := by
  refine MetFree.of_bodySF (plainFor_of_name pn_20) hisR ?_
  intro p e s m args below meth c s₁ Bd hml0 hP hK
  obtain ⟨rfl, hZ, hh⟩ := hP
  have hx := Bd.exec
  have hby := Bd.bytes
  have hml : c.maxLocals = 7 := hml0
  have hown : s.vm.findClass "java/lang/StringUTF16" = some m.cls := findClass_of_methodNamed Bd.named
  have hnm := (name_of_methodNamed Bd.named Bd.method).1
  have X0 : Stand p l e ({ frames := 0, cells := 0, slots := 0, locals := 0 } : Room) s m #[(.ref p0), (.int (0 : Int32)), (.ref p2), (.int (0 : Int32)), (.int (1 : Int32))] below meth c s₁ [] 0 0 := Stand.of_body Bd
  have e0 : s₁.heap = h0 := by rw [← hh, Bd.state]; rfl
  have N0 := Fr.nil n0
  refine own_start ?_
  refine own_via (fun t k => castTop (ef_rmK1 m p0 p2) k) ?_
  show own_Go p e below _ (s₁.setTop (mkF m 0 #[oR p0, oI (0 : Int32), oR p2, oI (0 : Int32), oI (1 : Int32), .unset, .unset] []))
  refine own_via (fun t kz => XS.iconst X0.here hx rfl (hb hby d9_0) kz) ?_
  refine own_via (fun t kz => XS.istore X0.here hx rfl (hb hby d9_1) rfl (l' := #[oR p0, oI (0 : Int32), oR p2, oI (0 : Int32), oI (1 : Int32), oI (0 : Int32), .unset]) rfl kz) ?_
  refine own_via (fun t kz => XS.iload X0.here hx rfl (hb hby d9_3) rfl kz) ?_
  refine own_via (fun t kz => XS.iload X0.here hx rfl (hb hby d9_5) rfl kz) ?_
  show own_Go p e below _ (s₁.setTop (mkF m 7 #[oR p0, oI (0 : Int32), oR p2, oI (0 : Int32), oI (1 : Int32), oI (0 : Int32), .unset] [(.int (1 : Int32)), (.int (0 : Int32))]))
  refine own_via (fun t kz => XS.icmpNo X0.here hx rfl (hb hby d9_7) rfl (tlt (by decide : (0 : Int32) < (1 : Int32))).2.1 kz) ?_
  refine own_via (fun t kz => XS.aloadN X0.here hx rfl (hb hby d9_10) rfl rfl kz) ?_
  refine own_via (fun t kz => XS.iloadN X0.here hx rfl (hb hby d9_11) rfl kz) ?_
  show own_Go p e below _ (s₁.setTop (mkF m 12 #[oR p0, oI (0 : Int32), oR p2, oI (0 : Int32), oI (1 : Int32), oI (0 : Int32), .unset] [(.int (0 : Int32)), (.ref p0)]))
  obtain ⟨cl1, Ar1, kc1, Sz1, Nn1, Hs1, Gs1⟩ := id VC
  have in1 := inb_of (j := (0 : Int32)) Sz1 ⟨by decide, by decide⟩
  have at1 : cl1.slots[((0 : Int32)).toNatClampNeg]? = some (.int c0_) := Hs1.at in1 rfl
  refine own_via (fun t kz => X0.caload hx (j := (0 : Int32)) (v := (.int c0_)) (by rw [e0]; exact Ar1.1) (State.isArrayOf_alike hZ.alike Ar1.2.1) Ar1.2.2 in1 at1 (g := (mkF m 12 #[oR p0, oI (0 : Int32), oR p2, oI (0 : Int32), oI (1 : Int32), oI (0 : Int32), .unset] [(.int (0 : Int32)), (.ref p0)])) rfl rfl (hb hby d9_12) t kz) ?_
  refine own_via (fun t kz => XS.istore X0.here hx rfl (hb hby d9_13) rfl (l' := #[oR p0, oI (0 : Int32), oR p2, oI (0 : Int32), oI (1 : Int32), oI (0 : Int32), oI c0_]) rfl kz) ?_
  refine own_via (fun t kz => XS.iload X0.here hx rfl (hb hby d9_15) rfl kz) ?_
  refine own_via (fun t kz => XS.sipush X0.here hx rfl (hb hby d9_17) kz) ?_
  show own_Go p e below _ (s₁.setTop (mkF m 20 #[oR p0, oI (0 : Int32), oR p2, oI (0 : Int32), oI (1 : Int32), oI (0 : Int32), oI c0_] [(.int (255 : Int32)), (.int c0_)]))
  by_cases hc20_2 : (255 : Int32) < c0_
  · refine own_via (fun t kz => XS.icmpNo X0.here hx rfl (hb hby d9_20) rfl (tlt hc20_2).2.2.2 kz) ?_
    refine own_via (fun t kz => XS.iload X0.here hx rfl (hb hby d9_23) rfl kz) ?_
    show own_Go p e below _ (s₁.setTop (mkF m 25 #[oR p0, oI (0 : Int32), oR p2, oI (0 : Int32), oI (1 : Int32), oI (0 : Int32), oI c0_] [(.int (0 : Int32))]))
    obtain ⟨fs, hr, hrun, hended, hW, hsame⟩ := X0.leave (v := some (.int (0 : Int32))) (fun h => by rw [Bd.returns] at h; cases h)
    refine ⟨_, _, retI X0 hx Bd.returns (hb hby d9_25) hr, hrun, hended, _, _, rfl, ?_, ⟨_, rfl⟩, hW, hsame.mono (by decide) (by decide)⟩
    show QK1 Z p0 p2 kc kb c0_ r h0 n0 _ s₁.heap _
    rw [e0]
    exact ⟨by rw [← hr0]; unfold own_cnt1; rw [if_pos hc20_2], N0, (Keep.refl h0 [p2]), fun hl => absurd hc20_2 hl⟩
  · refine own_via (fun t kz => XS.icmpYes X0.here hx rfl (pc0 := 20) (pc' := 26) rfl (hb hby d9_20) rfl (flt hc20_2).2.2.2 (by decide) (by decide) kz) ?_
    refine own_via (fun t kz => XS.aloadN X0.here hx rfl (hb hby d9_26) rfl rfl kz) ?_
    refine own_via (fun t kz => XS.iloadN X0.here hx rfl (hb hby d9_27) rfl kz) ?_
    refine own_via (fun t kz => XS.iload X0.here hx rfl (hb hby d9_28) rfl kz) ?_
    show own_Go p e below _ (s₁.setTop (mkF m 30 #[oR p0, oI (0 : Int32), oR p2, oI (0 : Int32), oI (1 : Int32), oI (0 : Int32), oI c0_] [(.int c0_), (.int (0 : Int32)), (.ref p2)]))
    refine own_via (fun t kz => XS.i2b X0.here hx rfl (hb hby d9_30) rfl kz) ?_
    show own_Go p e below _ (s₁.setTop (mkF m 31 #[oR p0, oI (0 : Int32), oR p2, oI (0 : Int32), oI (1 : Int32), oI (0 : Int32), oI c0_] [(.int (c0_.toInt8.toInt32)), (.int (0 : Int32)), (.ref p2)]))
    obtain ⟨cl4, Ar4, kc4, Sz4, Nn4, Hs4, Gs4⟩ := id VB
    obtain ⟨T4, h4, X4, e4, W4, st4⟩ := stB X0 hx hZ e0 Ar4 (j := (0 : Int32)) (inb_of Sz4 ⟨by decide, by decide⟩) (g := (mkF m 31 #[oR p0, oI (0 : Int32), oR p2, oI (0 : Int32), oI (1 : Int32), oI (0 : Int32), oI c0_] [(.int (c0_.toInt8.toInt32)), (.int (0 : Int32)), (.ref p2)])) rfl rfl (hb hby d9_31)
    refine own_via st4 ?_
    have na4 : nar .byte (c0_.toInt8.toInt32) = (c0_.toInt8.toInt32) := own_narb _
    rw [na4] at W4
    have V5 := VC.other W4 ne02
    have Zs6 : n0 ≤ h4.size := Nat.le_trans Z0 (Keep.of_wr W4).1
    have N7 := Fr.snoc X4 N0 g_p2
    have K8 : Keep h0 h4 [p2] := (Keep.refl h0 [p2]).wr W4 (Or.inl (List.mem_of_getElem? (i := 0) rfl))
    have V9 : Arv Z h4 p2 kb .byte (1 : Int32) [(.int (c0_.toInt8.toInt32))] (.int (0 : Int32)) := Arv.set Ar4 kc4 Sz4 Nn4 Hs4 Gs4 (fits_nar_byte _) W4 0 (by first | decide | (show 0 < 1; decide)) (by first | decide | (show 0 < 1; decide))
    show own_Go p e below _ (T4.setTop (mkF m 32 #[oR p0, oI (0 : Int32), oR p2, oI (0 : Int32), oI (1 : Int32), oI (0 : Int32), oI c0_] []))
    refine own_via (fun t kz => XS.iinc X4.here hx rfl (hb hby d9_32) rfl (l' := #[oR p0, oI (1 : Int32), oR p2, oI (0 : Int32), oI (1 : Int32), oI (0 : Int32), oI c0_]) rfl kz) ?_
    show own_Go p e below _ (T4.setTop (mkF m 35 #[oR p0, oI (1 : Int32), oR p2, oI (0 : Int32), oI (1 : Int32), oI (0 : Int32), oI c0_] []))
    refine own_via (fun t kz => XS.iinc X4.here hx rfl (hb hby d9_35) rfl (l' := #[oR p0, oI (1 : Int32), oR p2, oI (1 : Int32), oI (1 : Int32), oI (0 : Int32), oI c0_]) rfl kz) ?_
    show own_Go p e below _ (T4.setTop (mkF m 38 #[oR p0, oI (1 : Int32), oR p2, oI (1 : Int32), oI (1 : Int32), oI (0 : Int32), oI c0_] []))
    refine own_via (fun t kz => XS.iinc X4.here hx rfl (hb hby d9_38) rfl (l' := #[oR p0, oI (1 : Int32), oR p2, oI (1 : Int32), oI (1 : Int32), oI (1 : Int32), oI c0_]) rfl kz) ?_
    refine own_via (fun t kz => XS.goto X4.here hx rfl (pc0 := 41) (pc' := 3) rfl (hb hby d9_41) (by decide) (by decide) kz) ?_
    refine own_via (fun t kz => XS.iload X4.here hx rfl (hb hby d9_3) rfl kz) ?_
    refine own_via (fun t kz => XS.iload X4.here hx rfl (hb hby d9_5) rfl kz) ?_
    show own_Go p e below _ (T4.setTop (mkF m 7 #[oR p0, oI (1 : Int32), oR p2, oI (1 : Int32), oI (1 : Int32), oI (1 : Int32), oI c0_] [(.int (1 : Int32)), (.int (1 : Int32))]))
    refine own_via (fun t kz => XS.icmpYes X4.here hx rfl (pc0 := 7) (pc' := 44) rfl (hb hby d9_7) rfl (flt (by decide : ¬ ((1 : Int32) < (1 : Int32)))).2.1 (by decide) (by decide) kz) ?_
    refine own_via (fun t kz => XS.iload X4.here hx rfl (hb hby d9_44) rfl kz) ?_
    show own_Go p e below _ (T4.setTop (mkF m 46 #[oR p0, oI (1 : Int32), oR p2, oI (1 : Int32), oI (1 : Int32), oI (1 : Int32), oI c0_] [(.int (1 : Int32))]))
    obtain ⟨fs, hr, hrun, hended, hW, hsame⟩ := X4.leave (v := some (.int (1 : Int32))) (fun h => by rw [Bd.returns] at h; cases h)
    refine ⟨_, _, retI X4 hx Bd.returns (hb hby d9_46) hr, hrun, hended, _, _, rfl, ?_, ⟨_, rfl⟩, hW, hsame.mono (by decide) (by decide)⟩
    show QK1 Z p0 p2 kc kb c0_ r h0 n0 _ T4.heap _
    rw [e4]
    exact ⟨by rw [← hr0]; unfold own_cnt1; rw [if_neg hc20_2], N7, K8, fun _ => V9⟩
theorem d21_0 : decode jdk_52_method_4_code 0 = .ok (.getstatic 44, 3) := by decide +kernel
theorem d21_3 : decode jdk_52_method_4_code 3 = .ok (.ifCond .ne 25, 3) := by decide +kernel
theorem d21_28 : decode jdk_52_method_4_code 28 = .ok (.iload_n 1, 1) := by decide +kernel
theorem d21_29 : decode jdk_52_method_4_code 29 = .ok (.iconst 1, 1) := by decide +kernel
theorem d21_30 : decode jdk_52_method_4_code 30 = .ok (.ishl, 1) := by decide +kernel
theorem d21_31 : decode jdk_52_method_4_code 31 = .ok (.istore_n 1, 1) := by decide +kernel
theorem d21_32 : decode jdk_52_method_4_code 32 = .ok (.aload_n 0, 1) := by decide +kernel
theorem d21_33 : decode jdk_52_method_4_code 33 = .ok (.iload_n 1, 1) := by decide +kernel
theorem d21_34 : decode jdk_52_method_4_code 34 = .ok (.iinc 1 1, 3) := by decide +kernel
theorem d21_37 : decode jdk_52_method_4_code 37 = .ok (.iload_n 2, 1) := by decide +kernel
theorem d21_38 : decode jdk_52_method_4_code 38 = .ok (.getstatic 59, 3) := by decide +kernel
theorem d21_41 : decode jdk_52_method_4_code 41 = .ok (.ishr, 1) := by decide +kernel
theorem d21_42 : decode jdk_52_method_4_code 42 = .ok (.i2b, 1) := by decide +kernel
theorem d21_43 : decode jdk_52_method_4_code 43 = .ok (.bastore, 1) := by decide +kernel
theorem d21_44 : decode jdk_52_method_4_code 44 = .ok (.aload_n 0, 1) := by decide +kernel
theorem d21_45 : decode jdk_52_method_4_code 45 = .ok (.iload_n 1, 1) := by decide +kernel
theorem d21_46 : decode jdk_52_method_4_code 46 = .ok (.iload_n 2, 1) := by decide +kernel
theorem d21_47 : decode jdk_52_method_4_code 47 = .ok (.getstatic 63, 3) := by decide +kernel
theorem d21_50 : decode jdk_52_method_4_code 50 = .ok (.ishr, 1) := by decide +kernel
theorem d21_51 : decode jdk_52_method_4_code 51 = .ok (.i2b, 1) := by decide +kernel
theorem d21_52 : decode jdk_52_method_4_code 52 = .ok (.bastore, 1) := by decide +kernel
theorem d21_53 : decode jdk_52_method_4_code 53 = .ok (.return_, 1) := by decide +kernel
theorem ef_rmP1_0 (m : MethodId) (q0 : Addr) (q1 : Int32) : entryFrame m #[(.ref q0), (.int (0 : Int32)), (.int q1)] 3 = mkF m 0 #[oR q0, oI (0 : Int32), oI q1] [] := by first | (simp [entryFrame, mkF, argsToLocals, Value.category]; done) | rfl
def QP1_0 (Z : State) (p0 : Addr) (p2 : Int32) (kb : ClassId) (b0_ : Int32) (b1_ : Int32) (h0 : Heap) (n0 : Nat) (v : Option Value) (h : Heap) (L : List Loc) : Prop := v = none ∧ Fr n0 L ∧ Keep h0 h [p0] ∧ Arv Z h p0 kb .byte (2 : Int32) [(.int ((p2 >>> ((0 : Int32) &&& 31)).toInt8.toInt32)), (.int ((p2 >>> ((8 : Int32) &&& 31)).toInt8.toInt32))] (.int (0 : Int32))
set_option maxRecDepth 65536 in
set_option maxHeartbeats 40000000 in
theorem rmP1_0 (l : Launch) (Z : State) (a0 : Array Value) (hw : ∀ d ∈ tables_1, d.before a0 Z = true) (ws : List Jvm.Cond) (p0 : Addr) (p2 : Int32) (kb : ClassId) (b0_ : Int32) (b1_ : Int32) (h0 : Heap) (n0 : Nat) (Z0 : n0 ≤ h0.size) (g_p0 : n0 ≤ p0) (VB : Arv Z h0 p0 kb .byte (2 : Int32) [(.int b0_), (.int b1_)] (.int (0 : Int32))) (S_wad : Sta Z h0 "java/lang/StringUTF16" "$assertionsDisabled" "Z" (.int (1 : Int32))) (S_whi : Sta Z h0 "java/lang/StringUTF16" "HI_BYTE_SHIFT" "I" (.int (0 : Int32))) (S_wlo : Sta Z h0 "java/lang/StringUTF16" "LO_BYTE_SHIFT" "I" (.int (8 : Int32))) :
    MetFree l (⟨"java/lang/StringUTF16", "putChar", "([BII)V"⟩ : MethodName) (head1 (Jvm.Cond.code (⟨"java/lang/StringUTF16", "putChar", "([BII)V"⟩ : MethodName) jdk_52_method_4_code 3 none :: ws) ({ frames := 0, cells := 0, slots := 0, locals := 0 } : Room)) (fun a U => a = #[(.ref p0), (.int (0 : Int32)), (.int p2)] ∧ Z.Warmed39 U.vm ∧ U.heap = h0) (fun _ _ _ _ _ => True) (fun _ U o U' => ∃ v L, o = .returned v ∧ QP1_0 Z p0 p2 kb b0_ b1_ h0 n0 v U'.heap L ∧ FrameEnd U o U' L ({ frames := 0, cells := 0, slots := 0, locals := 0 } : Room).cells ({ frames := 0, cells := 0, slots := 0, locals := 0 } : Room).slots) := by
  refine MetFree.of_bodySF (plainFor_of_name pn_20) hisR ?_
  intro p e s m args below meth c s₁ Bd hml0 hP hK
  obtain ⟨rfl, hZ, hh⟩ := hP
  have hx := Bd.exec
  have hby := Bd.bytes
  have hml : c.maxLocals = 3 := hml0
  have hown : s.vm.findClass "java/lang/StringUTF16" = some m.cls := findClass_of_methodNamed Bd.named
  have hnm := (name_of_methodNamed Bd.named Bd.method).1
  have X0 : Stand p l e ({ frames := 0, cells := 0, slots := 0, locals := 0 } : Room) s m #[(.ref p0), (.int (0 : Int32)), (.int p2)] below meth c s₁ [] 0 0 := Stand.of_body Bd
  have e0 : s₁.heap = h0 := by rw [← hh, Bd.state]; rfl
  have N0 := Fr.nil n0
  refine own_start ?_
  refine own_via (fun t k => castTop (ef_rmP1_0 m p0 p2) k) ?_
  show own_Go p e below _ (s₁.setTop (mkF m 0 #[oR p0, oI (0 : Int32), oI p2] []))
  obtain ⟨T1, X1, e1, st1⟩ := getS2 X0 hx hZ hown (host := "") (Or.inl (own_w hw 92)) Via.refl e0 S_wad (g := (mkF m 0 #[oR p0, oI (0 : Int32), oI p2] [])) rfl (hb hby d21_0)
  refine own_via st1 ?_
  show own_Go p e below _ (T1.setTop (mkF m 3 #[oR p0, oI (0 : Int32), oI p2] [(.int (1 : Int32))]))
  refine own_via (fun t kz => XS.ifYes X1.here hx rfl (pc0 := 3) (pc' := 28) rfl (hb hby d21_3) rfl ((if0 _ _).trans (feq (by decide : ¬ ((1 : Int32) = (0 : Int32)))).2) (by decide) (by decide) kz) ?_
  refine own_via (fun t kz => XS.iloadN X1.here hx rfl (hb hby d21_28) rfl kz) ?_
  refine own_via (fun t kz => XS.iconst X1.here hx rfl (hb hby d21_29) kz) ?_
  show own_Go p e below _ (T1.setTop (mkF m 30 #[oR p0, oI (0 : Int32), oI p2] [(.int (1 : Int32)), (.int (0 : Int32))]))
  refine own_via (fun t kz => XS.ishl X1.here hx rfl (hb hby d21_30) rfl kz) ?_
  refine own_via (fun t kz => XS.istoreN X1.here hx rfl (hb hby d21_31) rfl (l' := #[oR p0, oI (0 : Int32), oI p2]) rfl kz) ?_
  refine own_via (fun t kz => XS.aloadN X1.here hx rfl (hb hby d21_32) rfl rfl kz) ?_
  refine own_via (fun t kz => XS.iloadN X1.here hx rfl (hb hby d21_33) rfl kz) ?_
  show own_Go p e below _ (T1.setTop (mkF m 34 #[oR p0, oI (0 : Int32), oI p2] [(.int (0 : Int32)), (.ref p0)]))
  refine own_via (fun t kz => XS.iinc X1.here hx rfl (hb hby d21_34) rfl (l' := #[oR p0, oI (1 : Int32), oI p2]) rfl kz) ?_
  refine own_via (fun t kz => XS.iloadN X1.here hx rfl (hb hby d21_37) rfl kz) ?_
  show own_Go p e below _ (T1.setTop (mkF m 38 #[oR p0, oI (1 : Int32), oI p2] [(.int p2), (.int (0 : Int32)), (.ref p0)]))
  obtain ⟨T2, X2, e2, st2⟩ := getS2 X1 hx hZ hown (host := "") (Or.inl (own_w hw 93)) Via.refl e1 S_whi (g := (mkF m 38 #[oR p0, oI (1 : Int32), oI p2] [(.int p2), (.int (0 : Int32)), (.ref p0)])) rfl (hb hby d21_38)
  refine own_via st2 ?_
  show own_Go p e below _ (T2.setTop (mkF m 41 #[oR p0, oI (1 : Int32), oI p2] [(.int (0 : Int32)), (.int p2), (.int (0 : Int32)), (.ref p0)]))
  refine own_via (fun t kz => XS.ishr X2.here hx rfl (hb hby d21_41) rfl kz) ?_
  show own_Go p e below _ (T2.setTop (mkF m 42 #[oR p0, oI (1 : Int32), oI p2] [(.int (p2 >>> ((0 : Int32) &&& 31))), (.int (0 : Int32)), (.ref p0)]))
  refine own_via (fun t kz => XS.i2b X2.here hx rfl (hb hby d21_42) rfl kz) ?_
  show own_Go p e below _ (T2.setTop (mkF m 43 #[oR p0, oI (1 : Int32), oI p2] [(.int ((p2 >>> ((0 : Int32) &&& 31)).toInt8.toInt32)), (.int (0 : Int32)), (.ref p0)]))
  obtain ⟨cl3, Ar3, kc3, Sz3, Nn3, Hs3, Gs3⟩ := id VB
  obtain ⟨T3, h3, X3, e3, W3, st3⟩ := stB X2 hx hZ e2 Ar3 (j := (0 : Int32)) (inb_of Sz3 ⟨by decide, by decide⟩) (g := (mkF m 43 #[oR p0, oI (1 : Int32), oI p2] [(.int ((p2 >>> ((0 : Int32) &&& 31)).toInt8.toInt32)), (.int (0 : Int32)), (.ref p0)])) rfl rfl (hb hby d21_43)
  refine own_via st3 ?_
  have na3 : nar .byte ((p2 >>> ((0 : Int32) &&& 31)).toInt8.toInt32) = ((p2 >>> ((0 : Int32) &&& 31)).toInt8.toInt32) := own_narb _
  rw [na3] at W3
  have S4 := S_wad.wr W3
  have S5 := S_whi.wr W3
  have S6 := S_wlo.wr W3
  have Zs7 : n0 ≤ h3.size := Nat.le_trans Z0 (Keep.of_wr W3).1
  have N8 := Fr.snoc X3 N0 g_p0
  have K9 : Keep h0 h3 [p0] := (Keep.refl h0 [p0]).wr W3 (Or.inl (List.mem_of_getElem? (i := 0) rfl))
  have V10 : Arv Z h3 p0 kb .byte (2 : Int32) [(.int ((p2 >>> ((0 : Int32) &&& 31)).toInt8.toInt32)), (.int b1_)] (.int (0 : Int32)) := Arv.set Ar3 kc3 Sz3 Nn3 Hs3 Gs3 (fits_nar_byte _) W3 0 (by first | decide | (show 0 < 2; decide)) (by first | decide | (show 0 < 2; decide))
  refine own_via (fun t kz => XS.aloadN X3.here hx rfl (hb hby d21_44) rfl rfl kz) ?_
  refine own_via (fun t kz => XS.iloadN X3.here hx rfl (hb hby d21_45) rfl kz) ?_
  refine own_via (fun t kz => XS.iloadN X3.here hx rfl (hb hby d21_46) rfl kz) ?_
  show own_Go p e below _ (T3.setTop (mkF m 47 #[oR p0, oI (1 : Int32), oI p2] [(.int p2), (.int (1 : Int32)), (.ref p0)]))
  obtain ⟨T11, X11, e11, st11⟩ := getS2 X3 hx hZ hown (host := "") (Or.inl (own_w hw 94)) Via.refl e3 S6 (g := (mkF m 47 #[oR p0, oI (1 : Int32), oI p2] [(.int p2), (.int (1 : Int32)), (.ref p0)])) rfl (hb hby d21_47)
  refine own_via st11 ?_
  show own_Go p e below _ (T11.setTop (mkF m 50 #[oR p0, oI (1 : Int32), oI p2] [(.int (8 : Int32)), (.int p2), (.int (1 : Int32)), (.ref p0)]))
  refine own_via (fun t kz => XS.ishr X11.here hx rfl (hb hby d21_50) rfl kz) ?_
  show own_Go p e below _ (T11.setTop (mkF m 51 #[oR p0, oI (1 : Int32), oI p2] [(.int (p2 >>> ((8 : Int32) &&& 31))), (.int (1 : Int32)), (.ref p0)]))
  refine own_via (fun t kz => XS.i2b X11.here hx rfl (hb hby d21_51) rfl kz) ?_
  show own_Go p e below _ (T11.setTop (mkF m 52 #[oR p0, oI (1 : Int32), oI p2] [(.int ((p2 >>> ((8 : Int32) &&& 31)).toInt8.toInt32)), (.int (1 : Int32)), (.ref p0)]))
  obtain ⟨cl12, Ar12, kc12, Sz12, Nn12, Hs12, Gs12⟩ := id V10
  obtain ⟨T12, h12, X12, e12, W12, st12⟩ := stB X11 hx hZ e11 Ar12 (j := (1 : Int32)) (inb_of Sz12 ⟨by decide, by decide⟩) (g := (mkF m 52 #[oR p0, oI (1 : Int32), oI p2] [(.int ((p2 >>> ((8 : Int32) &&& 31)).toInt8.toInt32)), (.int (1 : Int32)), (.ref p0)])) rfl rfl (hb hby d21_52)
  refine own_via st12 ?_
  have na12 : nar .byte ((p2 >>> ((8 : Int32) &&& 31)).toInt8.toInt32) = ((p2 >>> ((8 : Int32) &&& 31)).toInt8.toInt32) := own_narb _
  rw [na12] at W12
  have S13 := S4.wr W12
  have S14 := S5.wr W12
  have S15 := S6.wr W12
  have Zs16 : n0 ≤ h12.size := Nat.le_trans Zs7 (Keep.of_wr W12).1
  have N17 := Fr.snoc X12 N8 g_p0
  have K18 : Keep h0 h12 [p0] := K9.wr W12 (Or.inl (List.mem_of_getElem? (i := 0) rfl))
  have V19 : Arv Z h12 p0 kb .byte (2 : Int32) [(.int ((p2 >>> ((0 : Int32) &&& 31)).toInt8.toInt32)), (.int ((p2 >>> ((8 : Int32) &&& 31)).toInt8.toInt32))] (.int (0 : Int32)) := Arv.set Ar12 kc12 Sz12 Nn12 Hs12 Gs12 (fits_nar_byte _) W12 1 (by first | decide | (show 1 < 2; decide)) (by first | decide | (show 1 < 2; decide))
  show own_Go p e below _ (T12.setTop (mkF m 53 #[oR p0, oI (1 : Int32), oI p2] []))
  obtain ⟨fs, hr, hrun, hended, hW, hsame⟩ := X12.leave (v := none) (fun _ => rfl)
  refine ⟨_, _, X12.returnOut hx Bd.returns (hb hby d21_53) hr, hrun, hended, _, _, rfl, ?_, ⟨_, rfl⟩, hW, hsame.mono (by decide) (by decide)⟩
  show QP1_0 Z p0 p2 kb b0_ b1_ h0 n0 _ T12.heap _
  rw [e12]
  exact ⟨rfl, N17, K18, V19⟩
theorem d19_0 : decode jdk_52_method_2_code 0 = .ok (.iload_n 0, 1) := by decide +kernel
theorem d19_1 : decode jdk_52_method_2_code 1 = .ok (.invokestatic 11, 3) := by decide +kernel
theorem d19_4 : decode jdk_52_method_2_code 4 = .ok (.newarray .byte, 2) := by decide +kernel
theorem d19_6 : decode jdk_52_method_2_code 6 = .ok (.areturn, 1) := by decide +kernel
theorem pd_19_0 : parseMethodDescriptor "(I)I" = some ⟨[.int], some .int⟩ := by decide +kernel
theorem ef_rmN1 (m : MethodId)  : entryFrame m #[(.int (1 : Int32))] 1 = mkF m 0 #[oI (1 : Int32)] [] := by first | (simp [entryFrame, mkF, argsToLocals, Value.category]; done) | rfl
def QN1 (Z : State)  (h0 : Heap) (n0 : Nat) (v : Option Value) (h : Heap) (L : List Loc) : Prop := v = some (.ref h0.size) ∧ Fr n0 L ∧ Keep h0 h [] ∧ ∃ kb, Arv Z h h0.size kb .byte (2 : Int32) [(.int (0 : Int32)), (.int (0 : Int32))] (.int (0 : Int32))
set_option maxRecDepth 65536 in
set_option maxHeartbeats 40000000 in
theorem rmN1 (l : Launch) (Z : State) (a0 : Array Value) (hw : ∀ d ∈ tables_1, d.before a0 Z = true) (ws : List Jvm.Cond)  (h0 : Heap) (n0 : Nat) (Z0 : n0 ≤ h0.size) :
    MetFree l (⟨"java/lang/StringUTF16", "newBytesFor", "(I)[B"⟩ : MethodName) (head1 (Jvm.Cond.code (⟨"java/lang/StringUTF16", "newBytesFor", "(I)[B"⟩ : MethodName) jdk_52_method_2_code 1 (some (.array .byte)) :: ws) ({ frames := 1, cells := 1, slots := 2, locals := 12 } : Room)) (fun a U => a = #[(.int (1 : Int32))] ∧ Z.Warmed39 U.vm ∧ U.heap = h0) (fun _ _ _ _ _ => True) (fun _ U o U' => ∃ v L, o = .returned v ∧ QN1 Z  h0 n0 v U'.heap L ∧ FrameEnd U o U' L ({ frames := 1, cells := 1, slots := 2, locals := 12 } : Room).cells ({ frames := 1, cells := 1, slots := 2, locals := 12 } : Room).slots) := by
  refine MetFree.of_bodySF (plainFor_of_name pn_20) hisR ?_
  intro p e s m args below meth c s₁ Bd hml0 hP hK
  obtain ⟨rfl, hZ, hh⟩ := hP
  have hx := Bd.exec
  have hby := Bd.bytes
  have hml : c.maxLocals = 1 := hml0
  have hown : s.vm.findClass "java/lang/StringUTF16" = some m.cls := findClass_of_methodNamed Bd.named
  have hnm := (name_of_methodNamed Bd.named Bd.method).1
  have X0 : Stand p l e ({ frames := 1, cells := 1, slots := 2, locals := 12 } : Room) s m #[(.int (1 : Int32))] below meth c s₁ [] 0 0 := Stand.of_body Bd
  have e0 : s₁.heap = h0 := by rw [← hh, Bd.state]; rfl
  have N0 := Fr.nil n0
  refine own_start ?_
  refine own_via (fun t k => castTop (ef_rmN1 m ) k) ?_
  show own_Go p e below _ (s₁.setTop (mkF m 0 #[oI (1 : Int32)] []))
  refine own_via (fun t kz => XS.iloadN X0.here hx rfl (hb hby d19_0) rfl kz) ?_
  show own_Go p e below _ (s₁.setTop (mkF m 1 #[oI (1 : Int32)] [(.int (1 : Int32))]))
  obtain ⟨_, _, ⟨T1, L1, k1, n1⟩, -, X1, ⟨Lc1, hQ1, l1, y1, z1⟩, st1⟩ := Jvm.LawKit.callS X0 hx (y := (⟨"java/lang/StringUTF16", "newBytesLength", "(I)I"⟩ : MethodName)) hown (mvT hZ (own_w hw 85)) (mvT hZ (own_w hw 86)) (mvT hZ (own_w hw 43)) (mvT hZ (own_w hw 87)) (by decide) (backOf (W := 0) (rm20 l Z a0 hw [] (1 : Int32) (2 : Int32) h0 n0 Z0 (by decide) (by decide) (by decide)) hZ (own_w hw 87) (own_w hw 43) (by decide) (by decide)) (g := (mkF m 1 #[oI (1 : Int32)] [(.int (1 : Int32))])) rfl (by rw [hml]; rfl) (argsL := [(.int (1 : Int32))]) (rest := []) (lenOf pd_19_0 rfl) rfl (by show 2 * 0 + _ ≤ _; exact Nat.le_of_eq rfl) (hb hby d19_1) (fun _ _ => ⟨rfl, e0, (by decide : 0 + 0 ≤ _), (by decide : 0 + 0 ≤ _)⟩)
  dsimp only [Pt.U, Pt.locs, Pt.cells, Pt.slots] at X1 l1 y1 z1 st1 hQ1
  subst l1 y1 z1
  obtain ⟨rfl, Nq1, e1⟩ := hQ1
  have N2 := Fr.app N0 Nq1
  refine own_via st1 ?_
  show own_Go p e below _ (T1.setTop (mkF m 4 #[oI (1 : Int32)] [(.int (2 : Int32))]))
  obtain ⟨T3, h3, k3, X3, e3, E3, A3, st3⟩ := newP X1 hx hZ (aty := .byte) (own_w hw 19) e1 (g := (mkF m 4 #[oI (1 : Int32)] [(.int (2 : Int32))])) rfl (hb hby d19_4) rfl (by decide) (cap := 2) (by decide) (by decide) (by decide) (by decide)
  obtain ⟨a3, g3⟩ : ∃ z, z = h0.size := ⟨_, rfl⟩
  rw [← g3] at A3 st3
  refine own_via st3 ?_
  have fr4 : n0 ≤ a3 := Nat.le_trans Z0 (Nat.le_of_eq g3.symm)
  have hf5 : h0.size ≤ a3 := Nat.le_trans (Keep.refl h0 []).1 (Nat.le_of_eq g3.symm)
  have Zs6 : n0 ≤ h3.size := Nat.le_trans Z0 E3.1
  have K7 : Keep h0 h3 [] := (Keep.refl h0 []).ext E3
  have V8 : Arv Z h3 a3 k3 .byte (2 : Int32) [(.int (0 : Int32)), (.int (0 : Int32))] (.int (0 : Int32)) := (Arv.new A3 (by decide)).pad (pad_rep [] (.int (0 : Int32)) 2)
  show own_Go p e below _ (T3.setTop (mkF m 6 #[oI (1 : Int32)] [(.ref a3)]))
  obtain ⟨fs, hr, hrun, hended, hW, hsame⟩ := X3.leave (v := some (.ref a3)) (fun h => by rw [Bd.returns] at h; cases h)
  refine ⟨_, _, retOut X3 hx (i := .areturn) Bd.returns rfl (Or.inr (Or.inr (Or.inr (Or.inr ⟨rfl, rfl, rfl⟩)))) (hb hby d19_6) hr, hrun, hended, _, _, rfl, ?_, ⟨_, rfl⟩, hW, hsame.mono (by decide) (by decide)⟩
  show QN1 Z  h0 n0 _ T3.heap _
  rw [e3]
  exact ⟨by rw [g3], N2, K7, _, by rw [← g3]; exact V8⟩
theorem d18_0 : decode jdk_52_method_14_code 0 = .ok (.iload_n 2, 1) := by decide +kernel
theorem d18_1 : decode jdk_52_method_14_code 1 = .ok (.invokestatic 107, 3) := by decide +kernel
theorem d18_4 : decode jdk_52_method_14_code 4 = .ok (.astore_n 3, 1) := by decide +kernel
theorem d18_5 : decode jdk_52_method_14_code 5 = .ok (.iconst 0, 1) := by decide +kernel
theorem d18_6 : decode jdk_52_method_14_code 6 = .ok (.istore 4, 2) := by decide +kernel
theorem d18_8 : decode jdk_52_method_14_code 8 = .ok (.iload 4, 2) := by decide +kernel
theorem d18_10 : decode jdk_52_method_14_code 10 = .ok (.iload_n 2, 1) := by decide +kernel
theorem d18_11 : decode jdk_52_method_14_code 11 = .ok (.if_icmp .ge 21, 3) := by decide +kernel
theorem d18_14 : decode jdk_52_method_14_code 14 = .ok (.aload_n 3, 1) := by decide +kernel
theorem d18_15 : decode jdk_52_method_14_code 15 = .ok (.iload 4, 2) := by decide +kernel
theorem d18_17 : decode jdk_52_method_14_code 17 = .ok (.aload_n 0, 1) := by decide +kernel
theorem d18_18 : decode jdk_52_method_14_code 18 = .ok (.iload_n 1, 1) := by decide +kernel
theorem d18_19 : decode jdk_52_method_14_code 19 = .ok (.caload, 1) := by decide +kernel
theorem d18_20 : decode jdk_52_method_14_code 20 = .ok (.invokestatic 111, 3) := by decide +kernel
theorem d18_23 : decode jdk_52_method_14_code 23 = .ok (.iinc 1 1, 3) := by decide +kernel
theorem d18_26 : decode jdk_52_method_14_code 26 = .ok (.iinc 4 1, 3) := by decide +kernel
theorem d18_29 : decode jdk_52_method_14_code 29 = .ok (.goto (-21), 3) := by decide +kernel
theorem d18_32 : decode jdk_52_method_14_code 32 = .ok (.aload_n 3, 1) := by decide +kernel
theorem d18_33 : decode jdk_52_method_14_code 33 = .ok (.areturn, 1) := by decide +kernel
theorem pd_18_0 : parseMethodDescriptor "(I)[B" = some ⟨[.int], some (.array .byte)⟩ := by decide +kernel
theorem pd_18_1 : parseMethodDescriptor "([BII)V" = some ⟨[(.array .byte), .int, .int], none⟩ := by decide +kernel
theorem ef_rmT1 (m : MethodId) (q0 : Addr) : entryFrame m #[(.ref q0), (.int (0 : Int32)), (.int (1 : Int32))] 5 = mkF m 0 #[oR q0, oI (0 : Int32), oI (1 : Int32), .unset, .unset] [] := by first | (simp [entryFrame, mkF, argsToLocals, Value.category]; done) | rfl
def QT1 (Z : State) (p0 : Addr) (kc : ClassId) (c0_ : Int32) (wcs : Int32) (wsf : Value) (h0 : Heap) (n0 : Nat) (v : Option Value) (h : Heap) (L : List Loc) : Prop := v = some (.ref h0.size) ∧ Fr n0 L ∧ Keep h0 h [] ∧ ∃ kb, Arv Z h h0.size kb .byte (2 : Int32) [(.int ((c0_ >>> ((0 : Int32) &&& 31)).toInt8.toInt32)), (.int ((c0_ >>> ((8 : Int32) &&& 31)).toInt8.toInt32))] (.int (0 : Int32))
set_option maxRecDepth 65536 in
set_option maxHeartbeats 40000000 in
theorem rmT1 (l : Launch) (Z : State) (a0 : Array Value) (hw : ∀ d ∈ tables_1, d.before a0 Z = true) (ws : List Jvm.Cond) (p0 : Addr) (kc : ClassId) (c0_ : Int32) (wcs : Int32) (wsf : Value) (h0 : Heap) (n0 : Nat) (Z0 : n0 ≤ h0.size) (VC : Arv Z h0 p0 kc .char (1 : Int32) [(.int c0_)] (.int (0 : Int32))) (OLD : Old Z n0 h0) (hcs : ¬ (wcs = (0 : Int32))) (rsf : wsf.isRef = true) (B_wcs : Sta Z Z.heap "java/lang/String" "COMPACT_STRINGS" "Z" (.int wcs)) (B_wsf : Sta Z Z.heap "jdk/internal/util/Preconditions" "SIOOBE_FORMATTER" "Ljava/util/function/BiFunction;" wsf) (B_wad : Sta Z Z.heap "java/lang/StringUTF16" "$assertionsDisabled" "Z" (.int (1 : Int32))) (B_whi : Sta Z Z.heap "java/lang/StringUTF16" "HI_BYTE_SHIFT" "I" (.int (0 : Int32))) (B_wlo : Sta Z Z.heap "java/lang/StringUTF16" "LO_BYTE_SHIFT" "I" (.int (8 : Int32))) :
    MetFree l (⟨"java/lang/StringUTF16", "toBytes", "([CII)[B"⟩ : MethodName) (head1 (Jvm.Cond.code (⟨"java/lang/StringUTF16", "toBytes", "([CII)[B"⟩ : MethodName) jdk_52_method_14_code 5 (some (.array .byte)) :: ws) ({ frames := 2, cells := 1, slots := 2, locals := 24 } : Room)) (fun a U => a = #[(.ref p0), (.int (0 : Int32)), (.int (1 : Int32))] ∧ Z.Warmed39 U.vm ∧ U.heap = h0) (fun _ _ _ _ _ => True) (fun _ U o U' => ∃ v L, o = .returned v ∧ QT1 Z p0 kc c0_ wcs wsf h0 n0 v U'.heap L ∧ FrameEnd U o U' L ({ frames := 2, cells := 1, slots := 2, locals := 24 } : Room).cells ({ frames := 2, cells := 1, slots := 2, locals := 24 } : Room).slots) := by
  refine MetFree.of_bodySF (plainFor_of_name pn_20) hisR ?_
  intro p e s m args below meth c s₁ Bd hml0 hP hK
  obtain ⟨rfl, hZ, hh⟩ := hP
  have hx := Bd.exec
  have hby := Bd.bytes
  have hml : c.maxLocals = 5 := hml0
  have hown : s.vm.findClass "java/lang/StringUTF16" = some m.cls := findClass_of_methodNamed Bd.named
  have hnm := (name_of_methodNamed Bd.named Bd.method).1
  have X0 : Stand p l e ({ frames := 2, cells := 1, slots := 2, locals := 24 } : Room) s m #[(.ref p0), (.int (0 : Int32)), (.int (1 : Int32))] below meth c s₁ [] 0 0 := Stand.of_body Bd
  have e0 : s₁.heap = h0 := by rw [← hh, Bd.state]; rfl
  have N0 := Fr.nil n0
  refine own_start ?_
  refine own_via (fun t k => castTop (ef_rmT1 m p0) k) ?_
  show own_Go p e below _ (s₁.setTop (mkF m 0 #[oR p0, oI (0 : Int32), oI (1 : Int32), .unset, .unset] []))
  refine own_via (fun t kz => XS.iloadN X0.here hx rfl (hb hby d18_0) rfl kz) ?_
  show own_Go p e below _ (s₁.setTop (mkF m 1 #[oR p0, oI (0 : Int32), oI (1 : Int32), .unset, .unset] [(.int (1 : Int32))]))
  obtain ⟨_, _, ⟨T1, L1, k1, n1⟩, -, X1, ⟨Lc1, hQ1, l1, y1, z1⟩, st1⟩ := Jvm.LawKit.callS X0 hx (y := (⟨"java/lang/StringUTF16", "newBytesFor", "(I)[B"⟩ : MethodName)) hown (mvT hZ (own_w hw 82)) (mvT hZ (own_w hw 83)) (mvT hZ (own_w hw 43)) (mvT hZ (own_w hw 84)) (by decide) (backOf (W := 0) (rmN1 l Z a0 hw [] h0 n0 Z0) hZ (own_w hw 84) (own_w hw 43) (by decide) (by decide)) (g := (mkF m 1 #[oR p0, oI (0 : Int32), oI (1 : Int32), .unset, .unset] [(.int (1 : Int32))])) rfl (by rw [hml]; rfl) (argsL := [(.int (1 : Int32))]) (rest := []) (lenOf pd_18_0 rfl) rfl (by show 2 * 0 + _ ≤ _; exact Nat.le_of_eq rfl) (hb hby d18_1) (fun _ _ => ⟨rfl, e0, (by decide : 0 + 1 ≤ _), (by decide : 0 + 2 ≤ _)⟩)
  dsimp only [Pt.U, Pt.locs, Pt.cells, Pt.slots] at X1 l1 y1 z1 st1 hQ1
  subst l1 y1 z1
  obtain ⟨rfl, Nq1, Kc1, kb1, Vc1⟩ := hQ1
  have N2 := Fr.app N0 Nq1
  refine own_via st1 ?_
  obtain ⟨a1, g1⟩ : ∃ z, z = h0.size := ⟨_, rfl⟩
  rw [← g1] at Vc1 ⊢
  have lt3 : p0 < a1 := Nat.lt_of_lt_of_le VC.lt (Nat.le_of_eq g1.symm)
  have fr4 : n0 ≤ a1 := Nat.le_trans Z0 (Nat.le_of_eq g1.symm)
  have hf5 : h0.size ≤ a1 := Nat.le_trans (Keep.refl h0 []).1 (Nat.le_of_eq g1.symm)
  have O6 : Old Z n0 T1.heap := OLD.keep Kc1 all0
  have V7 := VC.keep Kc1 nin0
  have Zs8 : n0 ≤ T1.heap.size := Nat.le_trans Z0 Kc1.1
  have K9 : Keep h0 T1.heap [] := (Keep.refl h0 []).trans Kc1 all0
  refine own_via (fun t kz => XS.astoreN X1.here hx rfl (hb hby d18_4) rfl rfl (l' := #[oR p0, oI (0 : Int32), oI (1 : Int32), oR a1, .unset]) rfl kz) ?_
  refine own_via (fun t kz => XS.iconst X1.here hx rfl (hb hby d18_5) kz) ?_
  refine own_via (fun t kz => XS.istore X1.here hx rfl (hb hby d18_6) rfl (l' := #[oR p0, oI (0 : Int32), oI (1 : Int32), oR a1, oI (0 : Int32)]) rfl kz) ?_
  refine own_via (fun t kz => XS.iload X1.here hx rfl (hb hby d18_8) rfl kz) ?_
  refine own_via (fun t kz => XS.iloadN X1.here hx rfl (hb hby d18_10) rfl kz) ?_
  show own_Go p e below _ (T1.setTop (mkF m 11 #[oR p0, oI (0 : Int32), oI (1 : Int32), oR a1, oI (0 : Int32)] [(.int (1 : Int32)), (.int (0 : Int32))]))
  refine own_via (fun t kz => XS.icmpNo X1.here hx rfl (hb hby d18_11) rfl (tlt (by decide : (0 : Int32) < (1 : Int32))).2.1 kz) ?_
  refine own_via (fun t kz => XS.aloadN X1.here hx rfl (hb hby d18_14) rfl rfl kz) ?_
  refine own_via (fun t kz => XS.iload X1.here hx rfl (hb hby d18_15) rfl kz) ?_
  refine own_via (fun t kz => XS.aloadN X1.here hx rfl (hb hby d18_17) rfl rfl kz) ?_
  refine own_via (fun t kz => XS.iloadN X1.here hx rfl (hb hby d18_18) rfl kz) ?_
  show own_Go p e below _ (T1.setTop (mkF m 19 #[oR p0, oI (0 : Int32), oI (1 : Int32), oR a1, oI (0 : Int32)] [(.int (0 : Int32)), (.ref p0), (.int (0 : Int32)), (.ref a1)]))
  obtain ⟨cl10, Ar10, kc10, Sz10, Nn10, Hs10, Gs10⟩ := id V7
  have in10 := inb_of (j := (0 : Int32)) Sz10 ⟨by decide, by decide⟩
  have at10 : cl10.slots[((0 : Int32)).toNatClampNeg]? = some (.int c0_) := Hs10.at in10 rfl
  refine own_via (fun t kz => X1.caload hx (j := (0 : Int32)) (v := (.int c0_)) Ar10.1 (State.isArrayOf_alike hZ.alike Ar10.2.1) Ar10.2.2 in10 at10 (g := (mkF m 19 #[oR p0, oI (0 : Int32), oI (1 : Int32), oR a1, oI (0 : Int32)] [(.int (0 : Int32)), (.ref p0), (.int (0 : Int32)), (.ref a1)])) rfl rfl (hb hby d18_19) t kz) ?_
  show own_Go p e below _ (T1.setTop (mkF m 20 #[oR p0, oI (0 : Int32), oI (1 : Int32), oR a1, oI (0 : Int32)] [(.int c0_), (.int (0 : Int32)), (.ref a1)]))
  obtain ⟨_, _, ⟨T11, L11, k11, n11⟩, -, X11, ⟨Lc11, hQ11, l11, y11, z11⟩, st11⟩ := Jvm.LawKit.callS X1 hx (y := (⟨"java/lang/StringUTF16", "putChar", "([BII)V"⟩ : MethodName)) hown (mvT hZ (own_w hw 89)) (mvT hZ (own_w hw 90)) (mvT hZ (own_w hw 43)) (mvT hZ (own_w hw 91)) (by decide) (backOf (W := 0) (rmP1_0 l Z a0 hw [] a1 c0_ kb1 (0 : Int32) (0 : Int32) T1.heap n0 Zs8 fr4 Vc1 (B_wad.ext O6.2) (B_whi.ext O6.2) (B_wlo.ext O6.2)) hZ (own_w hw 91) (own_w hw 43) (by decide) (by decide)) (g := (mkF m 20 #[oR p0, oI (0 : Int32), oI (1 : Int32), oR a1, oI (0 : Int32)] [(.int c0_), (.int (0 : Int32)), (.ref a1)])) rfl (by rw [hml]; rfl) (argsL := [(.ref a1), (.int (0 : Int32)), (.int c0_)]) (rest := []) (lenOf pd_18_1 rfl) rfl (by show 2 * 0 + _ ≤ _; exact Nat.le_of_eq rfl) (hb hby d18_20) (fun _ _ => ⟨rfl, rfl, (by decide : 1 + 0 ≤ _), (by decide : 2 + 0 ≤ _)⟩)
  dsimp only [Pt.U, Pt.locs, Pt.cells, Pt.slots] at X11 l11 y11 z11 st11 hQ11
  subst l11 y11 z11
  obtain ⟨rfl, Nq11, Kc11, Vc11⟩ := hQ11
  have N12 := Fr.app N2 Nq11
  refine own_via st11 ?_
  have O13 : Old Z n0 T11.heap := O6.keep Kc11 (allS fr4 all0)
  have V14 := V7.keep Kc11 (ninS (Nat.ne_of_lt lt3) nin0)
  have Zs15 : n0 ≤ T11.heap.size := Nat.le_trans Zs8 Kc11.1
  have K16 : Keep h0 T11.heap [] := K9.trans Kc11 (allS (Or.inr hf5) all0)
  show own_Go p e below _ (T11.setTop (mkF m 23 #[oR p0, oI (0 : Int32), oI (1 : Int32), oR a1, oI (0 : Int32)] []))
  refine own_via (fun t kz => XS.iinc X11.here hx rfl (hb hby d18_23) rfl (l' := #[oR p0, oI (1 : Int32), oI (1 : Int32), oR a1, oI (0 : Int32)]) rfl kz) ?_
  show own_Go p e below _ (T11.setTop (mkF m 26 #[oR p0, oI (1 : Int32), oI (1 : Int32), oR a1, oI (0 : Int32)] []))
  refine own_via (fun t kz => XS.iinc X11.here hx rfl (hb hby d18_26) rfl (l' := #[oR p0, oI (1 : Int32), oI (1 : Int32), oR a1, oI (1 : Int32)]) rfl kz) ?_
  refine own_via (fun t kz => XS.goto X11.here hx rfl (pc0 := 29) (pc' := 8) rfl (hb hby d18_29) (by decide) (by decide) kz) ?_
  refine own_via (fun t kz => XS.iload X11.here hx rfl (hb hby d18_8) rfl kz) ?_
  refine own_via (fun t kz => XS.iloadN X11.here hx rfl (hb hby d18_10) rfl kz) ?_
  show own_Go p e below _ (T11.setTop (mkF m 11 #[oR p0, oI (1 : Int32), oI (1 : Int32), oR a1, oI (1 : Int32)] [(.int (1 : Int32)), (.int (1 : Int32))]))
  refine own_via (fun t kz => XS.icmpYes X11.here hx rfl (pc0 := 11) (pc' := 32) rfl (hb hby d18_11) rfl (flt (by decide : ¬ ((1 : Int32) < (1 : Int32)))).2.1 (by decide) (by decide) kz) ?_
  refine own_via (fun t kz => XS.aloadN X11.here hx rfl (hb hby d18_32) rfl rfl kz) ?_
  show own_Go p e below _ (T11.setTop (mkF m 33 #[oR p0, oI (1 : Int32), oI (1 : Int32), oR a1, oI (1 : Int32)] [(.ref a1)]))
  obtain ⟨fs, hr, hrun, hended, hW, hsame⟩ := X11.leave (v := some (.ref a1)) (fun h => by rw [Bd.returns] at h; cases h)
  refine ⟨_, _, retOut X11 hx (i := .areturn) Bd.returns rfl (Or.inr (Or.inr (Or.inr (Or.inr ⟨rfl, rfl, rfl⟩)))) (hb hby d18_33) hr, hrun, hended, _, _, rfl, ?_, ⟨_, rfl⟩, hW, hsame.mono (by decide) (by decide)⟩
  show QT1 Z p0 kc c0_ wcs wsf h0 n0 _ T11.heap _
  exact ⟨by rw [g1], N12, K16, _, by rw [← g1]; exact Vc11⟩
def fG1_0 (whi : Int32) (wlo : Int32) (b0_ : Int32) (b1_ : Int32) : Int32 := ((((b0_ &&& (255 : Int32)) <<< (whi &&& 31)) ||| ((b1_ &&& (255 : Int32)) <<< (wlo &&& 31))).toUInt32.toUInt16.toUInt32.toInt32)
theorem d22_0 : decode jdk_52_method_5_code 0 = .ok (.getstatic 44, 3) := by decide +kernel
theorem d22_3 : decode jdk_52_method_5_code 3 = .ok (.ifCond .ne 25, 3) := by decide +kernel
theorem d22_28 : decode jdk_52_method_5_code 28 = .ok (.iload_n 1, 1) := by decide +kernel
theorem d22_29 : decode jdk_52_method_5_code 29 = .ok (.iconst 1, 1) := by decide +kernel
theorem d22_30 : decode jdk_52_method_5_code 30 = .ok (.ishl, 1) := by decide +kernel
theorem d22_31 : decode jdk_52_method_5_code 31 = .ok (.istore_n 1, 1) := by decide +kernel
theorem d22_32 : decode jdk_52_method_5_code 32 = .ok (.aload_n 0, 1) := by decide +kernel
theorem d22_33 : decode jdk_52_method_5_code 33 = .ok (.iload_n 1, 1) := by decide +kernel
theorem d22_34 : decode jdk_52_method_5_code 34 = .ok (.iinc 1 1, 3) := by decide +kernel
theorem d22_37 : decode jdk_52_method_5_code 37 = .ok (.baload, 1) := by decide +kernel
theorem d22_38 : decode jdk_52_method_5_code 38 = .ok (.sipush 255, 3) := by decide +kernel
theorem d22_41 : decode jdk_52_method_5_code 41 = .ok (.iand, 1) := by decide +kernel
theorem d22_42 : decode jdk_52_method_5_code 42 = .ok (.getstatic 59, 3) := by decide +kernel
theorem d22_45 : decode jdk_52_method_5_code 45 = .ok (.ishl, 1) := by decide +kernel
theorem d22_46 : decode jdk_52_method_5_code 46 = .ok (.aload_n 0, 1) := by decide +kernel
theorem d22_47 : decode jdk_52_method_5_code 47 = .ok (.iload_n 1, 1) := by decide +kernel
theorem d22_48 : decode jdk_52_method_5_code 48 = .ok (.baload, 1) := by decide +kernel
theorem d22_49 : decode jdk_52_method_5_code 49 = .ok (.sipush 255, 3) := by decide +kernel
theorem d22_52 : decode jdk_52_method_5_code 52 = .ok (.iand, 1) := by decide +kernel
theorem d22_53 : decode jdk_52_method_5_code 53 = .ok (.getstatic 63, 3) := by decide +kernel
theorem d22_56 : decode jdk_52_method_5_code 56 = .ok (.ishl, 1) := by decide +kernel
theorem d22_57 : decode jdk_52_method_5_code 57 = .ok (.ior, 1) := by decide +kernel
theorem d22_58 : decode jdk_52_method_5_code 58 = .ok (.i2c, 1) := by decide +kernel
theorem d22_59 : decode jdk_52_method_5_code 59 = .ok (.ireturn, 1) := by decide +kernel
theorem ef_rmG1_0 (m : MethodId) (q0 : Addr) : entryFrame m #[(.ref q0), (.int (0 : Int32))] 2 = mkF m 0 #[oR q0, oI (0 : Int32)] [] := by first | (simp [entryFrame, mkF, argsToLocals, Value.category]; done) | rfl
def QG1_0 (Z : State) (p0 : Addr) (wad : Int32) (whi : Int32) (wlo : Int32) (ka : ClassId) (b0_ : Int32) (b1_ : Int32) (r : Int32) (h0 : Heap) (n0 : Nat) (v : Option Value) (h : Heap) (L : List Loc) : Prop := v = some (.int r) ∧ Fr n0 L ∧ h = h0
set_option maxRecDepth 65536 in
set_option maxHeartbeats 40000000 in
theorem rmG1_0 (l : Launch) (Z : State) (a0 : Array Value) (hw : ∀ d ∈ tables_1, d.before a0 Z = true) (ws : List Jvm.Cond) (p0 : Addr) (wad : Int32) (whi : Int32) (wlo : Int32) (ka : ClassId) (b0_ : Int32) (b1_ : Int32) (r : Int32) (h0 : Heap) (n0 : Nat) (Z0 : n0 ≤ h0.size) (hwad : wad = (1 : Int32)) (S_wad : Sta Z h0 "java/lang/StringUTF16" "$assertionsDisabled" "Z" (.int wad)) (S_whi : Sta Z h0 "java/lang/StringUTF16" "HI_BYTE_SHIFT" "I" (.int whi)) (S_wlo : Sta Z h0 "java/lang/StringUTF16" "LO_BYTE_SHIFT" "I" (.int wlo)) (V_p0 : Arv Z h0 p0 ka .byte (2 : Int32) [(.int b0_), (.int b1_)] (.int (0 : Int32))) (hr0 : (fG1_0 whi wlo b0_ b1_) = r) :
    MetFree l (⟨"java/lang/StringUTF16", "getChar", "([BI)C"⟩ : MethodName) (head1 (Jvm.Cond.code (⟨"java/lang/StringUTF16", "getChar", "([BI)C"⟩ : MethodName) jdk_52_method_5_code 2 (some .char) :: ws) ({ frames := 0, cells := 0, slots := 0, locals := 0 } : Room)) (fun a U => a = #[(.ref p0), (.int (0 : Int32))] ∧ Z.Warmed39 U.vm ∧ U.heap = h0) (fun _ _ _ _ _ => True) (fun _ U o U' => ∃ v L, o = .returned v ∧ QG1_0 Z p0 wad whi wlo ka b0_ b1_ r h0 n0 v U'.heap L ∧ FrameEnd U o U' L ({ frames := 0, cells := 0, slots := 0, locals := 0 } : Room).cells ({ frames := 0, cells := 0, slots := 0, locals := 0 } : Room).slots) := by
  refine MetFree.of_bodySF (plainFor_of_name pn_20) hisR ?_
  intro p e s m args below meth c s₁ Bd hml0 hP hK
  obtain ⟨rfl, hZ, hh⟩ := hP
  have hx := Bd.exec
  have hby := Bd.bytes
  have hml : c.maxLocals = 2 := hml0
  have hown : s.vm.findClass "java/lang/StringUTF16" = some m.cls := findClass_of_methodNamed Bd.named
  have hnm := (name_of_methodNamed Bd.named Bd.method).1
  have X0 : Stand p l e ({ frames := 0, cells := 0, slots := 0, locals := 0 } : Room) s m #[(.ref p0), (.int (0 : Int32))] below meth c s₁ [] 0 0 := Stand.of_body Bd
  have e0 : s₁.heap = h0 := by rw [← hh, Bd.state]; rfl
  have N0 := Fr.nil n0
  refine own_start ?_
  refine own_via (fun t k => castTop (ef_rmG1_0 m p0) k) ?_
  show own_Go p e below _ (s₁.setTop (mkF m 0 #[oR p0, oI (0 : Int32)] []))
  obtain ⟨T1, X1, e1, st1⟩ := getS2 X0 hx hZ hown (host := "") (Or.inl (own_w hw 92)) Via.refl e0 S_wad (g := (mkF m 0 #[oR p0, oI (0 : Int32)] [])) rfl (hb hby d22_0)
  refine own_via st1 ?_
  show own_Go p e below _ (T1.setTop (mkF m 3 #[oR p0, oI (0 : Int32)] [(.int wad)]))
  refine own_via (fun t kz => XS.ifYes X1.here hx rfl (pc0 := 3) (pc' := 28) rfl (hb hby d22_3) rfl ((if0 _ _).trans (feq (by rw [hwad]; decide : ¬ wad = (0 : Int32))).2) (by decide) (by decide) kz) ?_
  refine own_via (fun t kz => XS.iloadN X1.here hx rfl (hb hby d22_28) rfl kz) ?_
  refine own_via (fun t kz => XS.iconst X1.here hx rfl (hb hby d22_29) kz) ?_
  show own_Go p e below _ (T1.setTop (mkF m 30 #[oR p0, oI (0 : Int32)] [(.int (1 : Int32)), (.int (0 : Int32))]))
  refine own_via (fun t kz => XS.ishl X1.here hx rfl (hb hby d22_30) rfl kz) ?_
  refine own_via (fun t kz => XS.istoreN X1.here hx rfl (hb hby d22_31) rfl (l' := #[oR p0, oI (0 : Int32)]) rfl kz) ?_
  refine own_via (fun t kz => XS.aloadN X1.here hx rfl (hb hby d22_32) rfl rfl kz) ?_
  refine own_via (fun t kz => XS.iloadN X1.here hx rfl (hb hby d22_33) rfl kz) ?_
  show own_Go p e below _ (T1.setTop (mkF m 34 #[oR p0, oI (0 : Int32)] [(.int (0 : Int32)), (.ref p0)]))
  refine own_via (fun t kz => XS.iinc X1.here hx rfl (hb hby d22_34) rfl (l' := #[oR p0, oI (1 : Int32)]) rfl kz) ?_
  show own_Go p e below _ (T1.setTop (mkF m 37 #[oR p0, oI (1 : Int32)] [(.int (0 : Int32)), (.ref p0)]))
  obtain ⟨cl2, Ar2, kc2, Sz2, Nn2, Hs2, Gs2⟩ := id V_p0
  have in2 := inb_of (j := (0 : Int32)) Sz2 ⟨by decide, by decide⟩
  have at2 : cl2.slots[((0 : Int32)).toNatClampNeg]? = some (.int b0_) := Hs2.at in2 rfl
  refine own_via (fun t kz => X1.baloadBytes hx (j := (0 : Int32)) (v := (.int b0_)) (by rw [e1]; exact Ar2.1) (State.isArrayOf_alike hZ.alike Ar2.2.1) Ar2.2.2 in2 at2 (g := (mkF m 37 #[oR p0, oI (1 : Int32)] [(.int (0 : Int32)), (.ref p0)])) rfl rfl (hb hby d22_37) t kz) ?_
  refine own_via (fun t kz => XS.sipush X1.here hx rfl (hb hby d22_38) kz) ?_
  refine own_via (fun t kz => XS.iand X1.here hx rfl (hb hby d22_41) rfl kz) ?_
  show own_Go p e below _ (T1.setTop (mkF m 42 #[oR p0, oI (1 : Int32)] [(.int (b0_ &&& (255 : Int32)))]))
  obtain ⟨T3, X3, e3, st3⟩ := getS2 X1 hx hZ hown (host := "") (Or.inl (own_w hw 93)) Via.refl e1 S_whi (g := (mkF m 42 #[oR p0, oI (1 : Int32)] [(.int (b0_ &&& (255 : Int32)))])) rfl (hb hby d22_42)
  refine own_via st3 ?_
  show own_Go p e below _ (T3.setTop (mkF m 45 #[oR p0, oI (1 : Int32)] [(.int whi), (.int (b0_ &&& (255 : Int32)))]))
  refine own_via (fun t kz => XS.ishl X3.here hx rfl (hb hby d22_45) rfl kz) ?_
  refine own_via (fun t kz => XS.aloadN X3.here hx rfl (hb hby d22_46) rfl rfl kz) ?_
  refine own_via (fun t kz => XS.iloadN X3.here hx rfl (hb hby d22_47) rfl kz) ?_
  show own_Go p e below _ (T3.setTop (mkF m 48 #[oR p0, oI (1 : Int32)] [(.int (1 : Int32)), (.ref p0), (.int ((b0_ &&& (255 : Int32)) <<< (whi &&& 31)))]))
  obtain ⟨cl4, Ar4, kc4, Sz4, Nn4, Hs4, Gs4⟩ := id V_p0
  have in4 := inb_of (j := (1 : Int32)) Sz4 ⟨by decide, by decide⟩
  have at4 : cl4.slots[((1 : Int32)).toNatClampNeg]? = some (.int b1_) := Hs4.at in4 rfl
  refine own_via (fun t kz => X3.baloadBytes hx (j := (1 : Int32)) (v := (.int b1_)) (by rw [e3]; exact Ar4.1) (State.isArrayOf_alike hZ.alike Ar4.2.1) Ar4.2.2 in4 at4 (g := (mkF m 48 #[oR p0, oI (1 : Int32)] [(.int (1 : Int32)), (.ref p0), (.int ((b0_ &&& (255 : Int32)) <<< (whi &&& 31)))])) rfl rfl (hb hby d22_48) t kz) ?_
  refine own_via (fun t kz => XS.sipush X3.here hx rfl (hb hby d22_49) kz) ?_
  refine own_via (fun t kz => XS.iand X3.here hx rfl (hb hby d22_52) rfl kz) ?_
  show own_Go p e below _ (T3.setTop (mkF m 53 #[oR p0, oI (1 : Int32)] [(.int (b1_ &&& (255 : Int32))), (.int ((b0_ &&& (255 : Int32)) <<< (whi &&& 31)))]))
  obtain ⟨T5, X5, e5, st5⟩ := getS2 X3 hx hZ hown (host := "") (Or.inl (own_w hw 94)) Via.refl e3 S_wlo (g := (mkF m 53 #[oR p0, oI (1 : Int32)] [(.int (b1_ &&& (255 : Int32))), (.int ((b0_ &&& (255 : Int32)) <<< (whi &&& 31)))])) rfl (hb hby d22_53)
  refine own_via st5 ?_
  show own_Go p e below _ (T5.setTop (mkF m 56 #[oR p0, oI (1 : Int32)] [(.int wlo), (.int (b1_ &&& (255 : Int32))), (.int ((b0_ &&& (255 : Int32)) <<< (whi &&& 31)))]))
  refine own_via (fun t kz => XS.ishl X5.here hx rfl (hb hby d22_56) rfl kz) ?_
  show own_Go p e below _ (T5.setTop (mkF m 57 #[oR p0, oI (1 : Int32)] [(.int ((b1_ &&& (255 : Int32)) <<< (wlo &&& 31))), (.int ((b0_ &&& (255 : Int32)) <<< (whi &&& 31)))]))
  refine own_via (fun t kz => XS.ior X5.here hx rfl (hb hby d22_57) rfl kz) ?_
  show own_Go p e below _ (T5.setTop (mkF m 58 #[oR p0, oI (1 : Int32)] [(.int (((b0_ &&& (255 : Int32)) <<< (whi &&& 31)) ||| ((b1_ &&& (255 : Int32)) <<< (wlo &&& 31))))]))
  refine own_via (fun t kz => XS.i2c X5.here hx rfl (hb hby d22_58) rfl kz) ?_
  show own_Go p e below _ (T5.setTop (mkF m 59 #[oR p0, oI (1 : Int32)] [(.int ((((b0_ &&& (255 : Int32)) <<< (whi &&& 31)) ||| ((b1_ &&& (255 : Int32)) <<< (wlo &&& 31))).toUInt32.toUInt16.toUInt32.toInt32))]))
  have hv : (fG1_0 whi wlo b0_ b1_) = ((((b0_ &&& (255 : Int32)) <<< (whi &&& 31)) ||| ((b1_ &&& (255 : Int32)) <<< (wlo &&& 31))).toUInt32.toUInt16.toUInt32.toInt32) := by unfold fG1_0; rfl
  obtain ⟨fs, hr, hrun, hended, hW, hsame⟩ := X5.leave (v := some (.int ((((b0_ &&& (255 : Int32)) <<< (whi &&& 31)) ||| ((b1_ &&& (255 : Int32)) <<< (wlo &&& 31))).toUInt32.toUInt16.toUInt32.toInt32))) (fun h => by rw [Bd.returns] at h; cases h)
  refine ⟨_, _, retOut X5 hx (i := .ireturn) Bd.returns (narrow_c _) (Or.inl ⟨rfl, by simp, _, rfl⟩) (hb hby d22_59) hr, hrun, hended, _, _, rfl, ?_, ⟨_, rfl⟩, hW, hsame.mono (by decide) (by decide)⟩
  show QG1_0 Z p0 wad whi wlo ka b0_ b1_ r h0 n0 _ T5.heap _
  rw [e5]
  exact ⟨by rw [← hr0, hv], N0, rfl⟩
def own_rep1 (Z : State) (h : Heap) (r : Addr) (c0_ : Int32) : Prop := ((¬ (255 : Int32) < c0_) ∧ ∃ kb : ClassId, Arv Z h r kb .byte (1 : Int32) [(.int (c0_.toInt8.toInt32))] (.int (0 : Int32))) ∨ (∃ kb : ClassId, Arv Z h r kb .byte (2 : Int32) [(.int ((c0_ >>> ((0 : Int32) &&& 31)).toInt8.toInt32)), (.int ((c0_ >>> ((8 : Int32) &&& 31)).toInt8.toInt32))] (.int (0 : Int32)))
theorem d8_0 : decode jdk_52_method_16_code 0 = .ok (.iload_n 2, 1) := by decide +kernel
theorem d8_1 : decode jdk_52_method_16_code 1 = .ok (.newarray .byte, 2) := by decide +kernel
theorem d8_3 : decode jdk_52_method_16_code 3 = .ok (.astore_n 3, 1) := by decide +kernel
theorem d8_4 : decode jdk_52_method_16_code 4 = .ok (.aload_n 0, 1) := by decide +kernel
theorem d8_5 : decode jdk_52_method_16_code 5 = .ok (.iload_n 1, 1) := by decide +kernel
theorem d8_6 : decode jdk_52_method_16_code 6 = .ok (.aload_n 3, 1) := by decide +kernel
theorem d8_7 : decode jdk_52_method_16_code 7 = .ok (.iconst 0, 1) := by decide +kernel
theorem d8_8 : decode jdk_52_method_16_code 8 = .ok (.iload_n 2, 1) := by decide +kernel
theorem d8_9 : decode jdk_52_method_16_code 9 = .ok (.invokestatic 115, 3) := by decide +kernel
theorem d8_12 : decode jdk_52_method_16_code 12 = .ok (.istore 4, 2) := by decide +kernel
theorem d8_14 : decode jdk_52_method_16_code 14 = .ok (.iload 4, 2) := by decide +kernel
theorem d8_16 : decode jdk_52_method_16_code 16 = .ok (.iload_n 2, 1) := by decide +kernel
theorem d8_17 : decode jdk_52_method_16_code 17 = .ok (.if_icmp .eq 40, 3) := by decide +kernel
theorem d8_20 : decode jdk_52_method_16_code 20 = .ok (.aload_n 0, 1) := by decide +kernel
theorem d8_21 : decode jdk_52_method_16_code 21 = .ok (.iload_n 1, 1) := by decide +kernel
theorem d8_22 : decode jdk_52_method_16_code 22 = .ok (.iload_n 2, 1) := by decide +kernel
theorem d8_23 : decode jdk_52_method_16_code 23 = .ok (.invokestatic 119, 3) := by decide +kernel
theorem d8_26 : decode jdk_52_method_16_code 26 = .ok (.astore 5, 2) := by decide +kernel
theorem d8_28 : decode jdk_52_method_16_code 28 = .ok (.aload 5, 2) := by decide +kernel
theorem d8_30 : decode jdk_52_method_16_code 30 = .ok (.iload 4, 2) := by decide +kernel
theorem d8_32 : decode jdk_52_method_16_code 32 = .ok (.invokestatic 71, 3) := by decide +kernel
theorem d8_35 : decode jdk_52_method_16_code 35 = .ok (.sipush 255, 3) := by decide +kernel
theorem d8_38 : decode jdk_52_method_16_code 38 = .ok (.if_icmp .gt 16, 3) := by decide +kernel
theorem d8_54 : decode jdk_52_method_16_code 54 = .ok (.aload 5, 2) := by decide +kernel
theorem d8_56 : decode jdk_52_method_16_code 56 = .ok (.areturn, 1) := by decide +kernel
theorem d8_57 : decode jdk_52_method_16_code 57 = .ok (.aload_n 3, 1) := by decide +kernel
theorem d8_58 : decode jdk_52_method_16_code 58 = .ok (.areturn, 1) := by decide +kernel
theorem pd_8_0 : parseMethodDescriptor "([CI[BII)I" = some ⟨[(.array .char), .int, (.array .byte), .int, .int], some .int⟩ := by decide +kernel
theorem pd_8_1 : parseMethodDescriptor "([CII)[B" = some ⟨[(.array .char), .int, .int], some (.array .byte)⟩ := by decide +kernel
theorem pd_8_2 : parseMethodDescriptor "([BI)C" = some ⟨[(.array .byte), .int], some .char⟩ := by decide +kernel
theorem ef_rmB1 (m : MethodId) (q0 : Addr) : entryFrame m #[(.ref q0), (.int (0 : Int32)), (.int (1 : Int32))] 6 = mkF m 0 #[oR q0, oI (0 : Int32), oI (1 : Int32), .unset, .unset, .unset] [] := by first | (simp [entryFrame, mkF, argsToLocals, Value.category]; done) | rfl
def QB1 (Z : State) (p0 : Addr) (kc : ClassId) (c0_ : Int32) (wcs : Int32) (wsf : Value) (h0 : Heap) (n0 : Nat) (v : Option Value) (h : Heap) (L : List Loc) : Prop := ∃ r : Addr, v = some (.ref r) ∧ Fr n0 L ∧ Keep h0 h [] ∧ h0.size ≤ r ∧ own_rep1 Z h r c0_
set_option maxRecDepth 65536 in
set_option maxHeartbeats 40000000 in
theorem rmB1 (l : Launch) (Z : State) (a0 : Array Value) (hw : ∀ d ∈ tables_1, d.before a0 Z = true) (ws : List Jvm.Cond) (p0 : Addr) (kc : ClassId) (c0_ : Int32) (wcs : Int32) (wsf : Value) (h0 : Heap) (n0 : Nat) (Z0 : n0 ≤ h0.size) (VC : Arv Z h0 p0 kc .char (1 : Int32) [(.int c0_)] (.int (0 : Int32))) (hc0 : own_ch c0_) (OLD : Old Z n0 h0) (hcs : ¬ (wcs = (0 : Int32))) (rsf : wsf.isRef = true) (B_wcs : Sta Z Z.heap "java/lang/String" "COMPACT_STRINGS" "Z" (.int wcs)) (B_wsf : Sta Z Z.heap "jdk/internal/util/Preconditions" "SIOOBE_FORMATTER" "Ljava/util/function/BiFunction;" wsf) (B_wad : Sta Z Z.heap "java/lang/StringUTF16" "$assertionsDisabled" "Z" (.int (1 : Int32))) (B_whi : Sta Z Z.heap "java/lang/StringUTF16" "HI_BYTE_SHIFT" "I" (.int (0 : Int32))) (B_wlo : Sta Z Z.heap "java/lang/StringUTF16" "LO_BYTE_SHIFT" "I" (.int (8 : Int32))) :
    MetFree l (⟨"java/lang/StringUTF16", "compress", "([CII)[B"⟩ : MethodName) (head1 (Jvm.Cond.code (⟨"java/lang/StringUTF16", "compress", "([CII)[B"⟩ : MethodName) jdk_52_method_16_code 6 (some (.array .byte)) :: ws) ({ frames := 3, cells := 2, slots := 3, locals := 40 } : Room)) (fun a U => a = #[(.ref p0), (.int (0 : Int32)), (.int (1 : Int32))] ∧ Z.Warmed39 U.vm ∧ U.heap = h0) (fun _ _ _ _ _ => True) (fun _ U o U' => ∃ v L, o = .returned v ∧ QB1 Z p0 kc c0_ wcs wsf h0 n0 v U'.heap L ∧ FrameEnd U o U' L ({ frames := 3, cells := 2, slots := 3, locals := 40 } : Room).cells ({ frames := 3, cells := 2, slots := 3, locals := 40 } : Room).slots) := by
  refine MetFree.of_bodySF (plainFor_of_name pn_20) hisR ?_
  intro p e s m args below meth c s₁ Bd hml0 hP hK
  obtain ⟨rfl, hZ, hh⟩ := hP
  have hx := Bd.exec
  have hby := Bd.bytes
  have hml : c.maxLocals = 6 := hml0
  have hown : s.vm.findClass "java/lang/StringUTF16" = some m.cls := findClass_of_methodNamed Bd.named
  have hnm := (name_of_methodNamed Bd.named Bd.method).1
  have X0 : Stand p l e ({ frames := 3, cells := 2, slots := 3, locals := 40 } : Room) s m #[(.ref p0), (.int (0 : Int32)), (.int (1 : Int32))] below meth c s₁ [] 0 0 := Stand.of_body Bd
  have e0 : s₁.heap = h0 := by rw [← hh, Bd.state]; rfl
  have N0 := Fr.nil n0
  refine own_start ?_
  refine own_via (fun t k => castTop (ef_rmB1 m p0) k) ?_
  show own_Go p e below _ (s₁.setTop (mkF m 0 #[oR p0, oI (0 : Int32), oI (1 : Int32), .unset, .unset, .unset] []))
  refine own_via (fun t kz => XS.iloadN X0.here hx rfl (hb hby d8_0) rfl kz) ?_
  show own_Go p e below _ (s₁.setTop (mkF m 1 #[oR p0, oI (0 : Int32), oI (1 : Int32), .unset, .unset, .unset] [(.int (1 : Int32))]))
  obtain ⟨T1, h1, k1, X1, e1, E1, A1, st1⟩ := newP X0 hx hZ (aty := .byte) (own_w hw 19) e0 (g := (mkF m 1 #[oR p0, oI (0 : Int32), oI (1 : Int32), .unset, .unset, .unset] [(.int (1 : Int32))])) rfl (hb hby d8_1) rfl (by decide) (cap := 1) (by decide) (by decide) (by decide) (by decide)
  obtain ⟨a1, g1⟩ : ∃ z, z = h0.size := ⟨_, rfl⟩
  rw [← g1] at A1 st1
  refine own_via st1 ?_
  have lt2 : p0 < a1 := Nat.lt_of_lt_of_le VC.lt (Nat.le_of_eq g1.symm)
  have fr3 : n0 ≤ a1 := Nat.le_trans Z0 (Nat.le_of_eq g1.symm)
  have hf4 : h0.size ≤ a1 := Nat.le_trans (Keep.refl h0 []).1 (Nat.le_of_eq g1.symm)
  have O5 : Old Z n0 h1 := OLD.ext E1
  have V6 := VC.ext E1
  have Zs7 : n0 ≤ h1.size := Nat.le_trans Z0 E1.1
  have K8 : Keep h0 h1 [] := (Keep.refl h0 []).ext E1
  have V9 : Arv Z h1 a1 k1 .byte (1 : Int32) [(.int (0 : Int32))] (.int (0 : Int32)) := (Arv.new A1 (by decide)).pad (pad_rep [] (.int (0 : Int32)) 1)
  refine own_via (fun t kz => XS.astoreN X1.here hx rfl (hb hby d8_3) rfl rfl (l' := #[oR p0, oI (0 : Int32), oI (1 : Int32), oR a1, .unset, .unset]) rfl kz) ?_
  refine own_via (fun t kz => XS.aloadN X1.here hx rfl (hb hby d8_4) rfl rfl kz) ?_
  refine own_via (fun t kz => XS.iloadN X1.here hx rfl (hb hby d8_5) rfl kz) ?_
  refine own_via (fun t kz => XS.aloadN X1.here hx rfl (hb hby d8_6) rfl rfl kz) ?_
  refine own_via (fun t kz => XS.iconst X1.here hx rfl (hb hby d8_7) kz) ?_
  show own_Go p e below _ (T1.setTop (mkF m 8 #[oR p0, oI (0 : Int32), oI (1 : Int32), oR a1, .unset, .unset] [(.int (0 : Int32)), (.ref a1), (.int (0 : Int32)), (.ref p0)]))
  refine own_via (fun t kz => XS.iloadN X1.here hx rfl (hb hby d8_8) rfl kz) ?_
  show own_Go p e below _ (T1.setTop (mkF m 9 #[oR p0, oI (0 : Int32), oI (1 : Int32), oR a1, .unset, .unset] [(.int (1 : Int32)), (.int (0 : Int32)), (.ref a1), (.int (0 : Int32)), (.ref p0)]))
  by_cases hc9_10 : (255 : Int32) < c0_
  · obtain ⟨_, _, ⟨T11, L11, k11, n11⟩, -, X11, ⟨Lc11, hQ11, l11, y11, z11⟩, st11⟩ := Jvm.LawKit.callS X1 hx (y := (⟨"java/lang/StringUTF16", "compress", "([CI[BII)I"⟩ : MethodName)) hown (mvT hZ (own_w hw 45)) (mvT hZ (own_w hw 46)) (mvT hZ (own_w hw 43)) (mvT hZ (own_w hw 47)) (by decide) (backOf (W := 0) (rmK1 l Z a0 hw [] p0 a1 kc k1 c0_ (0 : Int32) h1 n0 Zs7 fr3 (Nat.ne_of_lt lt2) V6 V9 (by unfold own_cnt1; rw [if_pos hc9_10])) hZ (own_w hw 47) (own_w hw 43) (by decide) (by decide)) (g := (mkF m 9 #[oR p0, oI (0 : Int32), oI (1 : Int32), oR a1, .unset, .unset] [(.int (1 : Int32)), (.int (0 : Int32)), (.ref a1), (.int (0 : Int32)), (.ref p0)])) rfl (by rw [hml]; rfl) (argsL := [(.ref p0), (.int (0 : Int32)), (.ref a1), (.int (0 : Int32)), (.int (1 : Int32))]) (rest := []) (lenOf pd_8_0 rfl) rfl (by show 2 * 0 + _ ≤ _; exact Nat.le_of_eq rfl) (hb hby d8_9) (fun _ _ => ⟨rfl, e1, (by decide : 1 + 0 ≤ _), (by decide : 1 + 0 ≤ _)⟩)
    dsimp only [Pt.U, Pt.locs, Pt.cells, Pt.slots] at X11 l11 y11 z11 st11 hQ11
    subst l11 y11 z11
    obtain ⟨rfl, Nq11, Kc11, Im11⟩ := hQ11
    have N12 := Fr.app N0 Nq11
    refine own_via st11 ?_
    have O13 : Old Z n0 T11.heap := O5.keep Kc11 (allS fr3 all0)
    have V14 := V6.keep Kc11 (ninS (Nat.ne_of_lt lt2) nin0)
    have Zs15 : n0 ≤ T11.heap.size := Nat.le_trans Zs7 Kc11.1
    have K16 : Keep h0 T11.heap [] := K8.trans Kc11 (allS (Or.inr hf4) all0)
    refine own_via (fun t kz => XS.istore X11.here hx rfl (hb hby d8_12) rfl (l' := #[oR p0, oI (0 : Int32), oI (1 : Int32), oR a1, oI (0 : Int32), .unset]) rfl kz) ?_
    refine own_via (fun t kz => XS.iload X11.here hx rfl (hb hby d8_14) rfl kz) ?_
    refine own_via (fun t kz => XS.iloadN X11.here hx rfl (hb hby d8_16) rfl kz) ?_
    show own_Go p e below _ (T11.setTop (mkF m 17 #[oR p0, oI (0 : Int32), oI (1 : Int32), oR a1, oI (0 : Int32), .unset] [(.int (1 : Int32)), (.int (0 : Int32))]))
    refine own_via (fun t kz => XS.icmpNo X11.here hx rfl (hb hby d8_17) rfl (feq (by decide : ¬ ((0 : Int32) = (1 : Int32)))).1 kz) ?_
    refine own_via (fun t kz => XS.aloadN X11.here hx rfl (hb hby d8_20) rfl rfl kz) ?_
    refine own_via (fun t kz => XS.iloadN X11.here hx rfl (hb hby d8_21) rfl kz) ?_
    refine own_via (fun t kz => XS.iloadN X11.here hx rfl (hb hby d8_22) rfl kz) ?_
    show own_Go p e below _ (T11.setTop (mkF m 23 #[oR p0, oI (0 : Int32), oI (1 : Int32), oR a1, oI (0 : Int32), .unset] [(.int (1 : Int32)), (.int (0 : Int32)), (.ref p0)]))
    obtain ⟨_, _, ⟨T17, L17, k17, n17⟩, -, X17, ⟨Lc17, hQ17, l17, y17, z17⟩, st17⟩ := Jvm.LawKit.callS X11 hx (y := (⟨"java/lang/StringUTF16", "toBytes", "([CII)[B"⟩ : MethodName)) hown (mvT hZ (own_w hw 79)) (mvT hZ (own_w hw 80)) (mvT hZ (own_w hw 43)) (mvT hZ (own_w hw 81)) (by decide) (backOf (W := 0) (rmT1 l Z a0 hw [] p0 kc c0_ wcs wsf T11.heap n0 Zs15 V14 O13 hcs rsf B_wcs B_wsf B_wad B_whi B_wlo) hZ (own_w hw 81) (own_w hw 43) (by decide) (by decide)) (g := (mkF m 23 #[oR p0, oI (0 : Int32), oI (1 : Int32), oR a1, oI (0 : Int32), .unset] [(.int (1 : Int32)), (.int (0 : Int32)), (.ref p0)])) rfl (by rw [hml]; rfl) (argsL := [(.ref p0), (.int (0 : Int32)), (.int (1 : Int32))]) (rest := []) (lenOf pd_8_1 rfl) rfl (by show 2 * 0 + _ ≤ _; exact Nat.le_of_eq rfl) (hb hby d8_23) (fun _ _ => ⟨rfl, rfl, (by decide : 1 + 1 ≤ _), (by decide : 1 + 2 ≤ _)⟩)
    dsimp only [Pt.U, Pt.locs, Pt.cells, Pt.slots] at X17 l17 y17 z17 st17 hQ17
    subst l17 y17 z17
    obtain ⟨rfl, Nq17, Kc17, kb17, Vc17⟩ := hQ17
    have N18 := Fr.app N12 Nq17
    refine own_via st17 ?_
    obtain ⟨a17, g17⟩ : ∃ z, z = T11.heap.size := ⟨_, rfl⟩
    rw [← g17] at Vc17 ⊢
    have lt19 : p0 < a17 := Nat.lt_of_lt_of_le V14.lt (Nat.le_of_eq g17.symm)
    have fr20 : n0 ≤ a17 := Nat.le_trans Zs15 (Nat.le_of_eq g17.symm)
    have hf21 : h0.size ≤ a17 := Nat.le_trans K16.1 (Nat.le_of_eq g17.symm)
    have O22 : Old Z n0 T17.heap := O13.keep Kc17 all0
    have V23 := V14.keep Kc17 nin0
    have Zs24 : n0 ≤ T17.heap.size := Nat.le_trans Zs15 Kc17.1
    have K25 : Keep h0 T17.heap [] := K16.trans Kc17 all0
    refine own_via (fun t kz => XS.astore X17.here hx rfl (hb hby d8_26) rfl rfl (l' := #[oR p0, oI (0 : Int32), oI (1 : Int32), oR a1, oI (0 : Int32), oR a17]) rfl kz) ?_
    refine own_via (fun t kz => XS.aload X17.here hx rfl (hb hby d8_28) rfl rfl kz) ?_
    refine own_via (fun t kz => XS.iload X17.here hx rfl (hb hby d8_30) rfl kz) ?_
    show own_Go p e below _ (T17.setTop (mkF m 32 #[oR p0, oI (0 : Int32), oI (1 : Int32), oR a1, oI (0 : Int32), oR a17] [(.int (0 : Int32)), (.ref a17)]))
    obtain ⟨_, _, ⟨T26, L26, k26, n26⟩, -, X26, ⟨Lc26, hQ26, l26, y26, z26⟩, st26⟩ := Jvm.LawKit.callS X17 hx (y := (⟨"java/lang/StringUTF16", "getChar", "([BI)C"⟩ : MethodName)) hown (mvT hZ (own_w hw 95)) (mvT hZ (own_w hw 96)) (mvT hZ (own_w hw 43)) (mvT hZ (own_w hw 97)) (by decide) (backOf (W := 0) (rmG1_0 l Z a0 hw [] a17 (1 : Int32) (0 : Int32) (8 : Int32) kb17 ((c0_ >>> ((0 : Int32) &&& 31)).toInt8.toInt32) ((c0_ >>> ((8 : Int32) &&& 31)).toInt8.toInt32) c0_ T17.heap n0 Zs24 rfl (B_wad.ext O22.2) (B_whi.ext O22.2) (B_wlo.ext O22.2) Vc17 (by unfold fG1_0; exact own_utf hc0)) hZ (own_w hw 97) (own_w hw 43) (by decide) (by decide)) (g := (mkF m 32 #[oR p0, oI (0 : Int32), oI (1 : Int32), oR a1, oI (0 : Int32), oR a17] [(.int (0 : Int32)), (.ref a17)])) rfl (by rw [hml]; rfl) (argsL := [(.ref a17), (.int (0 : Int32))]) (rest := []) (lenOf pd_8_2 rfl) rfl (by show 2 * 0 + _ ≤ _; exact Nat.le_of_eq rfl) (hb hby d8_32) (fun _ _ => ⟨rfl, rfl, (by decide : 2 + 0 ≤ _), (by decide : 3 + 0 ≤ _)⟩)
    dsimp only [Pt.U, Pt.locs, Pt.cells, Pt.slots] at X26 l26 y26 z26 st26 hQ26
    subst l26 y26 z26
    obtain ⟨rfl, Nq26, e26⟩ := hQ26
    have N27 := Fr.app N18 Nq26
    refine own_via st26 ?_
    refine own_via (fun t kz => XS.sipush X26.here hx rfl (hb hby d8_35) kz) ?_
    show own_Go p e below _ (T26.setTop (mkF m 38 #[oR p0, oI (0 : Int32), oI (1 : Int32), oR a1, oI (0 : Int32), oR a17] [(.int (255 : Int32)), (.int c0_)]))
    refine own_via (fun t kz => XS.icmpYes X26.here hx rfl (pc0 := 38) (pc' := 54) rfl (hb hby d8_38) rfl (tlt hc9_10).2.2.1 (by decide) (by decide) kz) ?_
    refine own_via (fun t kz => XS.aload X26.here hx rfl (hb hby d8_54) rfl rfl kz) ?_
    show own_Go p e below _ (T26.setTop (mkF m 56 #[oR p0, oI (0 : Int32), oI (1 : Int32), oR a1, oI (0 : Int32), oR a17] [(.ref a17)]))
    obtain ⟨fs, hr, hrun, hended, hW, hsame⟩ := X26.leave (v := some (.ref a17)) (fun h => by rw [Bd.returns] at h; cases h)
    refine ⟨_, _, retOut X26 hx (i := .areturn) Bd.returns rfl (Or.inr (Or.inr (Or.inr (Or.inr ⟨rfl, rfl, rfl⟩)))) (hb hby d8_56) hr, hrun, hended, _, _, rfl, ?_, ⟨_, rfl⟩, hW, hsame.mono (by decide) (by decide)⟩
    show QB1 Z p0 kc c0_ wcs wsf h0 n0 _ T26.heap _
    rw [e26]
    exact ⟨a17, rfl, N27, K25, hf21, Or.inr ⟨_, Vc17⟩⟩
  · obtain ⟨_, _, ⟨T29, L29, k29, n29⟩, -, X29, ⟨Lc29, hQ29, l29, y29, z29⟩, st29⟩ := Jvm.LawKit.callS X1 hx (y := (⟨"java/lang/StringUTF16", "compress", "([CI[BII)I"⟩ : MethodName)) hown (mvT hZ (own_w hw 45)) (mvT hZ (own_w hw 46)) (mvT hZ (own_w hw 43)) (mvT hZ (own_w hw 47)) (by decide) (backOf (W := 0) (rmK1 l Z a0 hw [] p0 a1 kc k1 c0_ (1 : Int32) h1 n0 Zs7 fr3 (Nat.ne_of_lt lt2) V6 V9 (by unfold own_cnt1; rw [if_neg hc9_10])) hZ (own_w hw 47) (own_w hw 43) (by decide) (by decide)) (g := (mkF m 9 #[oR p0, oI (0 : Int32), oI (1 : Int32), oR a1, .unset, .unset] [(.int (1 : Int32)), (.int (0 : Int32)), (.ref a1), (.int (0 : Int32)), (.ref p0)])) rfl (by rw [hml]; rfl) (argsL := [(.ref p0), (.int (0 : Int32)), (.ref a1), (.int (0 : Int32)), (.int (1 : Int32))]) (rest := []) (lenOf pd_8_0 rfl) rfl (by show 2 * 0 + _ ≤ _; exact Nat.le_of_eq rfl) (hb hby d8_9) (fun _ _ => ⟨rfl, e1, (by decide : 1 + 0 ≤ _), (by decide : 1 + 0 ≤ _)⟩)
    dsimp only [Pt.U, Pt.locs, Pt.cells, Pt.slots] at X29 l29 y29 z29 st29 hQ29
    subst l29 y29 z29
    obtain ⟨rfl, Nq29, Kc29, Im29⟩ := hQ29
    have N30 := Fr.app N0 Nq29
    refine own_via st29 ?_
    have O31 : Old Z n0 T29.heap := O5.keep Kc29 (allS fr3 all0)
    have V32 := V6.keep Kc29 (ninS (Nat.ne_of_lt lt2) nin0)
    have Zs33 : n0 ≤ T29.heap.size := Nat.le_trans Zs7 Kc29.1
    have K34 : Keep h0 T29.heap [] := K8.trans Kc29 (allS (Or.inr hf4) all0)
    refine own_via (fun t kz => XS.istore X29.here hx rfl (hb hby d8_12) rfl (l' := #[oR p0, oI (0 : Int32), oI (1 : Int32), oR a1, oI (1 : Int32), .unset]) rfl kz) ?_
    refine own_via (fun t kz => XS.iload X29.here hx rfl (hb hby d8_14) rfl kz) ?_
    refine own_via (fun t kz => XS.iloadN X29.here hx rfl (hb hby d8_16) rfl kz) ?_
    show own_Go p e below _ (T29.setTop (mkF m 17 #[oR p0, oI (0 : Int32), oI (1 : Int32), oR a1, oI (1 : Int32), .unset] [(.int (1 : Int32)), (.int (1 : Int32))]))
    refine own_via (fun t kz => XS.icmpYes X29.here hx rfl (pc0 := 17) (pc' := 57) rfl (hb hby d8_17) rfl (teq (by decide : (1 : Int32) = (1 : Int32))).1 (by decide) (by decide) kz) ?_
    refine own_via (fun t kz => XS.aloadN X29.here hx rfl (hb hby d8_57) rfl rfl kz) ?_
    show own_Go p e below _ (T29.setTop (mkF m 58 #[oR p0, oI (0 : Int32), oI (1 : Int32), oR a1, oI (1 : Int32), .unset] [(.ref a1)]))
    obtain ⟨fs, hr, hrun, hended, hW, hsame⟩ := X29.leave (v := some (.ref a1)) (fun h => by rw [Bd.returns] at h; cases h)
    refine ⟨_, _, retOut X29 hx (i := .areturn) Bd.returns rfl (Or.inr (Or.inr (Or.inr (Or.inr ⟨rfl, rfl, rfl⟩)))) (hb hby d8_58) hr, hrun, hended, _, _, rfl, ?_, ⟨_, rfl⟩, hW, hsame.mono (by decide) (by decide)⟩
    show QB1 Z p0 kc c0_ wcs wsf h0 n0 _ T29.heap _
    exact ⟨a1, rfl, N30, K34, hf4, Or.inl ⟨hc9_10, _, (Im29 hc9_10)⟩⟩
def own_Str1 (Z : State) (h : Heap) (n0 : Nat) (this : Addr) (c0_ : Int32) : Prop := ∃ (arr : Addr) (kb : ClassId), (n0 ≤ this ∧ @LT.lt Nat instLTNat this arr) ∧ Exa Z h this "java/lang/String" ∧ Fld Z h this "java/lang/String" "value" "[B" (.ref arr) ∧ (((¬ (255 : Int32) < c0_) ∧ Fld Z h this "java/lang/String" "coder" "B" (.int (0 : Int32)) ∧ Arv Z h arr kb .byte (1 : Int32) [(.int (c0_.toInt8.toInt32))] (.int (0 : Int32))) ∨ (Fld Z h this "java/lang/String" "coder" "B" (.int (1 : Int32)) ∧ Arv Z h arr kb .byte (2 : Int32) [(.int ((c0_ >>> ((0 : Int32) &&& 31)).toInt8.toInt32)), (.int ((c0_ >>> ((8 : Int32) &&& 31)).toInt8.toInt32))] (.int (0 : Int32))))
theorem d3_0 : decode jdk_42_method_149_code 0 = .ok (.aload_n 0, 1) := by decide +kernel
theorem d3_1 : decode jdk_42_method_149_code 1 = .ok (.invokespecial 1, 3) := by decide +kernel
theorem d3_4 : decode jdk_42_method_149_code 4 = .ok (.iload_n 3, 1) := by decide +kernel
theorem d3_5 : decode jdk_42_method_149_code 5 = .ok (.ifCond .ne 22, 3) := by decide +kernel
theorem d3_27 : decode jdk_42_method_149_code 27 = .ok (.getstatic 38, 3) := by decide +kernel
theorem d3_30 : decode jdk_42_method_149_code 30 = .ok (.ifCond .eq 28, 3) := by decide +kernel
theorem d3_33 : decode jdk_42_method_149_code 33 = .ok (.aload_n 1, 1) := by decide +kernel
theorem d3_34 : decode jdk_42_method_149_code 34 = .ok (.iload_n 2, 1) := by decide +kernel
theorem d3_35 : decode jdk_42_method_149_code 35 = .ok (.iload_n 3, 1) := by decide +kernel
theorem d3_36 : decode jdk_42_method_149_code 36 = .ok (.invokestatic 177, 3) := by decide +kernel
theorem d3_39 : decode jdk_42_method_149_code 39 = .ok (.astore 5, 2) := by decide +kernel
theorem d3_41 : decode jdk_42_method_149_code 41 = .ok (.aload_n 0, 1) := by decide +kernel
theorem d3_42 : decode jdk_42_method_149_code 42 = .ok (.aload 5, 2) := by decide +kernel
theorem d3_44 : decode jdk_42_method_149_code 44 = .ok (.iload_n 3, 1) := by decide +kernel
theorem d3_45 : decode jdk_42_method_149_code 45 = .ok (.invokestatic 47, 3) := by decide +kernel
theorem d3_48 : decode jdk_42_method_149_code 48 = .ok (.putfield 15, 3) := by decide +kernel
theorem d3_51 : decode jdk_42_method_149_code 51 = .ok (.aload_n 0, 1) := by decide +kernel
theorem d3_52 : decode jdk_42_method_149_code 52 = .ok (.aload 5, 2) := by decide +kernel
theorem d3_54 : decode jdk_42_method_149_code 54 = .ok (.putfield 9, 3) := by decide +kernel
theorem d3_57 : decode jdk_42_method_149_code 57 = .ok (.return_, 1) := by decide +kernel
theorem pd_3_0 : parseMethodDescriptor "([CII)[B" = some ⟨[(.array .char), .int, .int], some (.array .byte)⟩ := by decide +kernel
theorem pd_3_1 : parseMethodDescriptor "([BI)B" = some ⟨[(.array .byte), .int], some .byte⟩ := by decide +kernel
theorem ef_rmI4_1 (m : MethodId) (q0 : Addr) (q1 : Addr) : entryFrame m #[(.ref q0), (.ref q1), (.int (0 : Int32)), (.int (1 : Int32)), .null] 6 = mkF m 0 #[oR q0, oR q1, oI (0 : Int32), oI (1 : Int32), .val .null, .unset] [] := by first | (simp [entryFrame, mkF, argsToLocals, Value.category]; done) | rfl
def QI4_1 (Z : State) (this : Addr) (p1 : Addr) (kc : ClassId) (c0_ : Int32) (wcs : Int32) (wsf : Value) (h0 : Heap) (n0 : Nat) (v : Option Value) (h : Heap) (L : List Loc) : Prop := v = none ∧ Fr n0 L ∧ Keep h0 h [this] ∧ own_Str1 Z h n0 this c0_
set_option maxRecDepth 65536 in
set_option maxHeartbeats 40000000 in
theorem rmI4_1 (l : Launch) (Z : State) (a0 : Array Value) (hw : ∀ d ∈ tables_1, d.before a0 Z = true) (ws : List Jvm.Cond) (this : Addr) (p1 : Addr) (kc : ClassId) (c0_ : Int32) (wcs : Int32) (wsf : Value) (h0 : Heap) (n0 : Nat) (Z0 : n0 ≤ h0.size) (g_this : n0 ≤ this) (E_this : Exa Z h0 this "java/lang/String") (F_value : Fld Z h0 this "java/lang/String" "value" "[B" .null) (F_coder : Fld Z h0 this "java/lang/String" "coder" "B" (.int (0 : Int32))) (VC : Arv Z h0 p1 kc .char (1 : Int32) [(.int c0_)] (.int (0 : Int32))) (nec : p1 ≠ this) (hc0 : own_ch c0_) (OLD : Old Z n0 h0) (hcs : ¬ (wcs = (0 : Int32))) (rsf : wsf.isRef = true) (B_wcs : Sta Z Z.heap "java/lang/String" "COMPACT_STRINGS" "Z" (.int wcs)) (B_wsf : Sta Z Z.heap "jdk/internal/util/Preconditions" "SIOOBE_FORMATTER" "Ljava/util/function/BiFunction;" wsf) (B_wad : Sta Z Z.heap "java/lang/StringUTF16" "$assertionsDisabled" "Z" (.int (1 : Int32))) (B_whi : Sta Z Z.heap "java/lang/StringUTF16" "HI_BYTE_SHIFT" "I" (.int (0 : Int32))) (B_wlo : Sta Z Z.heap "java/lang/StringUTF16" "LO_BYTE_SHIFT" "I" (.int (8 : Int32))) :
    MetFree l (⟨"java/lang/String", "<init>", "([CIILjava/lang/Void;)V"⟩ : MethodName) (head1 (Jvm.Cond.code (⟨"java/lang/String", "<init>", "([CIILjava/lang/Void;)V"⟩ : MethodName) jdk_42_method_149_code 6 none :: ws) ({ frames := 4, cells := 2, slots := 3, locals := 57 } : Room)) (fun a U => a = #[(.ref this), (.ref p1), (.int (0 : Int32)), (.int (1 : Int32)), .null] ∧ Z.Warmed39 U.vm ∧ U.heap = h0) (fun _ _ _ _ _ => True) (fun _ U o U' => ∃ v L, o = .returned v ∧ QI4_1 Z this p1 kc c0_ wcs wsf h0 n0 v U'.heap L ∧ FrameEnd U o U' L ({ frames := 4, cells := 2, slots := 3, locals := 57 } : Room).cells ({ frames := 4, cells := 2, slots := 3, locals := 57 } : Room).slots) := by
  refine MetFree.of_bodySF (plainFor_of_name pn_15) hisR ?_
  intro p e s m args below meth c s₁ Bd hml0 hP hK
  obtain ⟨rfl, hZ, hh⟩ := hP
  have hx := Bd.exec
  have hby := Bd.bytes
  have hml : c.maxLocals = 6 := hml0
  have hown : s.vm.findClass "java/lang/String" = some m.cls := findClass_of_methodNamed Bd.named
  have hnm := (name_of_methodNamed Bd.named Bd.method).1
  have X0 : Stand p l e ({ frames := 4, cells := 2, slots := 3, locals := 57 } : Room) s m #[(.ref this), (.ref p1), (.int (0 : Int32)), (.int (1 : Int32)), .null] below meth c s₁ [] 0 0 := Stand.of_body Bd
  have e0 : s₁.heap = h0 := by rw [← hh, Bd.state]; rfl
  have N0 := Fr.nil n0
  refine own_start ?_
  refine own_via (fun t k => castTop (ef_rmI4_1 m this p1) k) ?_
  show own_Go p e below _ (s₁.setTop (mkF m 0 #[oR this, oR p1, oI (0 : Int32), oI (1 : Int32), .val .null, .unset] []))
  refine own_via (fun t kz => XS.aloadN X0.here hx rfl (hb hby d3_0) rfl rfl kz) ?_
  show own_Go p e below _ (s₁.setTop (mkF m 1 #[oR this, oR p1, oI (0 : Int32), oI (1 : Int32), .val .null, .unset] [(.ref this)]))
  obtain ⟨T1, X1, e1, st1⟩ := initO X0 hx hZ hown (own_w hw 15) (own_w hw 16) (own_w hw 17) e0 (g := (mkF m 1 #[oR this, oR p1, oI (0 : Int32), oI (1 : Int32), .val .null, .unset] [(.ref this)])) rfl (by rw [hml]; rfl) rfl (hb hby d3_1) (by decide) (W := 0) (by show 2 * 0 + _ ≤ _; exact Nat.le_of_eq rfl) (by decide)
  refine own_via st1 ?_
  refine own_via (fun t kz => XS.iloadN X1.here hx rfl (hb hby d3_4) rfl kz) ?_
  show own_Go p e below _ (T1.setTop (mkF m 5 #[oR this, oR p1, oI (0 : Int32), oI (1 : Int32), .val .null, .unset] [(.int (1 : Int32))]))
  refine own_via (fun t kz => XS.ifYes X1.here hx rfl (pc0 := 5) (pc' := 27) rfl (hb hby d3_5) rfl ((if0 _ _).trans (feq (by decide : ¬ ((1 : Int32) = (0 : Int32)))).2) (by decide) (by decide) kz) ?_
  show own_Go p e below _ (T1.setTop (mkF m 27 #[oR this, oR p1, oI (0 : Int32), oI (1 : Int32), .val .null, .unset] []))
  obtain ⟨T2, X2, e2, st2⟩ := getS2 X1 hx hZ hown (host := "") (Or.inl (own_w hw 40)) Via.refl e1 (B_wcs.ext OLD.2) (g := (mkF m 27 #[oR this, oR p1, oI (0 : Int32), oI (1 : Int32), .val .null, .unset] [])) rfl (hb hby d3_27)
  refine own_via st2 ?_
  show own_Go p e below _ (T2.setTop (mkF m 30 #[oR this, oR p1, oI (0 : Int32), oI (1 : Int32), .val .null, .unset] [(.int wcs)]))
  refine own_via (fun t kz => XS.ifNo X2.here hx rfl (hb hby d3_30) rfl ((if0 _ _).trans (feq hcs).1) kz) ?_
  refine own_via (fun t kz => XS.aloadN X2.here hx rfl (hb hby d3_33) rfl rfl kz) ?_
  refine own_via (fun t kz => XS.iloadN X2.here hx rfl (hb hby d3_34) rfl kz) ?_
  refine own_via (fun t kz => XS.iloadN X2.here hx rfl (hb hby d3_35) rfl kz) ?_
  show own_Go p e below _ (T2.setTop (mkF m 36 #[oR this, oR p1, oI (0 : Int32), oI (1 : Int32), .val .null, .unset] [(.int (1 : Int32)), (.int (0 : Int32)), (.ref p1)]))
  obtain ⟨_, _, ⟨T3, L3, k3, n3⟩, -, X3, ⟨Lc3, hQ3, l3, y3, z3⟩, st3⟩ := Jvm.LawKit.callS X2 hx (y := (⟨"java/lang/StringUTF16", "compress", "([CII)[B"⟩ : MethodName)) hown (mvT hZ (own_w hw 41)) (mvT hZ (own_w hw 42)) (mvT hZ (own_w hw 43)) (mvT hZ (own_w hw 44)) (by decide) (backOf (W := 0) (rmB1 l Z a0 hw [] p1 kc c0_ wcs wsf h0 n0 Z0 VC hc0 OLD hcs rsf B_wcs B_wsf B_wad B_whi B_wlo) hZ (own_w hw 44) (own_w hw 43) (by decide) (by decide)) (g := (mkF m 36 #[oR this, oR p1, oI (0 : Int32), oI (1 : Int32), .val .null, .unset] [(.int (1 : Int32)), (.int (0 : Int32)), (.ref p1)])) rfl (by rw [hml]; rfl) (argsL := [(.ref p1), (.int (0 : Int32)), (.int (1 : Int32))]) (rest := []) (lenOf pd_3_0 rfl) rfl (by show 2 * 0 + _ ≤ _; exact Nat.le_of_eq rfl) (hb hby d3_36) (fun _ _ => ⟨rfl, e2, (by decide : 0 + 2 ≤ _), (by decide : 0 + 3 ≤ _)⟩)
  dsimp only [Pt.U, Pt.locs, Pt.cells, Pt.slots] at X3 l3 y3 z3 st3 hQ3
  subst l3 y3 z3
  obtain ⟨r3, rfl, Nq3, Kc3, ge3, Rep3⟩ := hQ3
  have N4 := Fr.app N0 Nq3
  refine own_via st3 ?_
  have lt5 : this < r3 := Nat.lt_of_lt_of_le E_this.lt ge3
  have lt6 : p1 < r3 := Nat.lt_of_lt_of_le VC.lt ge3
  have fr7 : n0 ≤ r3 := Nat.le_trans Z0 ge3
  have hf8 : h0.size ≤ r3 := Nat.le_trans (Keep.refl h0 [this]).1 ge3
  have O9 : Old Z n0 T3.heap := OLD.keep Kc3 all0
  have E10 := E_this.keep Kc3
  have F11 := F_value.keep Kc3 nin0
  have F12 := F_coder.keep Kc3 nin0
  have V13 := VC.keep Kc3 nin0
  have Zs14 : n0 ≤ T3.heap.size := Nat.le_trans Z0 Kc3.1
  have K15 : Keep h0 T3.heap [this] := (Keep.refl h0 [this]).trans Kc3 all0
  rcases Rep3 with ⟨hl3, kb3, Vr3⟩ | ⟨kb3, Vr3⟩
  · refine own_via (fun t kz => XS.astore X3.here hx rfl (hb hby d3_39) rfl rfl (l' := #[oR this, oR p1, oI (0 : Int32), oI (1 : Int32), .val .null, oR r3]) rfl kz) ?_
    refine own_via (fun t kz => XS.aloadN X3.here hx rfl (hb hby d3_41) rfl rfl kz) ?_
    refine own_via (fun t kz => XS.aload X3.here hx rfl (hb hby d3_42) rfl rfl kz) ?_
    refine own_via (fun t kz => XS.iloadN X3.here hx rfl (hb hby d3_44) rfl kz) ?_
    show own_Go p e below _ (T3.setTop (mkF m 45 #[oR this, oR p1, oI (0 : Int32), oI (1 : Int32), .val .null, oR r3] [(.int (1 : Int32)), (.ref r3), (.ref this)]))
    obtain ⟨_, _, ⟨T16, L16, k16, n16⟩, -, X16, ⟨Lc16, hQ16, l16, y16, z16⟩, st16⟩ := Jvm.LawKit.callS X3 hx (y := (⟨"java/lang/StringUTF16", "coderFromArrayLen", "([BI)B"⟩ : MethodName)) hown (mvT hZ (own_w hw 48)) (mvT hZ (own_w hw 49)) (mvT hZ (own_w hw 43)) (mvT hZ (own_w hw 50)) (by decide) (backOf (W := 1) (rmC1_1 l Z a0 hw [] r3 kb3 (c0_.toInt8.toInt32) (0 : Int32) T3.heap n0 Zs14 Vr3 (by decide +kernel)) hZ (own_w hw 50) (own_w hw 43) (by decide) (by decide)) (g := (mkF m 45 #[oR this, oR p1, oI (0 : Int32), oI (1 : Int32), .val .null, oR r3] [(.int (1 : Int32)), (.ref r3), (.ref this)])) rfl (by rw [hml]; rfl) (argsL := [(.ref r3), (.int (1 : Int32))]) (rest := [(.ref this)]) (lenOf pd_3_1 rfl) rfl (by show 2 * 0 + _ ≤ _; exact Nat.le_of_eq rfl) (hb hby d3_45) (fun _ _ => ⟨rfl, rfl, (by decide : 2 + 0 ≤ _), (by decide : 3 + 0 ≤ _)⟩)
    dsimp only [Pt.U, Pt.locs, Pt.cells, Pt.slots] at X16 l16 y16 z16 st16 hQ16
    subst l16 y16 z16
    obtain ⟨rfl, Nq16, e16⟩ := hQ16
    have N17 := Fr.app N4 Nq16
    refine own_via st16 ?_
    show own_Go p e below _ (T16.setTop (mkF m 48 #[oR this, oR p1, oI (0 : Int32), oI (1 : Int32), .val .null, oR r3] [(.int (0 : Int32)), (.ref this)]))
    obtain ⟨T18, h18, X18, e18, W18, st18⟩ := putF X16 hx hZ hown (host := "") (Or.inl (own_w hw 25)) Via.refl e16 F12 E10 (Or.inr ⟨(own_w hw 21), rfl, hnm⟩) (own_w hw 5) (ty := .byte) (by decide) rfl rfl (g := (mkF m 48 #[oR this, oR p1, oI (0 : Int32), oI (1 : Int32), .val .null, oR r3] [(.int (0 : Int32)), (.ref this)])) rfl rfl (hb hby d3_48)
    refine own_via st18 ?_
    have O19 : Old Z n0 h18 := O9.wr W18 g_this
    have E20 := E10.wr W18
    have F21 := F11.other W18 (Or.inr (slot_ne (Or.inr (own_w hw 20)) (Or.inr (own_w hw 21)) (by decide) (t := (.array .byte)) (t' := .byte) (by decide) (by decide)))
    have F22 := F12.same W18
    have V23 := V13.other W18 nec
    have V24 := Vr3.other W18 (Ne.symm (Nat.ne_of_lt lt5))
    have Zs25 : n0 ≤ h18.size := Nat.le_trans Zs14 (Keep.of_wr W18).1
    have N26 := Fr.snoc X18 N17 g_this
    have K27 : Keep h0 h18 [this] := K15.wr W18 (Or.inl (List.mem_of_getElem? (i := 0) rfl))
    refine own_via (fun t kz => XS.aloadN X18.here hx rfl (hb hby d3_51) rfl rfl kz) ?_
    refine own_via (fun t kz => XS.aload X18.here hx rfl (hb hby d3_52) rfl rfl kz) ?_
    show own_Go p e below _ (T18.setTop (mkF m 54 #[oR this, oR p1, oI (0 : Int32), oI (1 : Int32), .val .null, oR r3] [(.ref r3), (.ref this)]))
    obtain ⟨T28, h28, X28, e28, W28, st28⟩ := putF X18 hx hZ hown (host := "") (Or.inl (own_w hw 24)) Via.refl e18 F21 E20 (Or.inr ⟨(own_w hw 20), rfl, hnm⟩) (own_w hw 5) (ty := (.array .byte)) (by decide) rfl rfl (g := (mkF m 54 #[oR this, oR p1, oI (0 : Int32), oI (1 : Int32), .val .null, oR r3] [(.ref r3), (.ref this)])) rfl rfl (hb hby d3_54)
    refine own_via st28 ?_
    have O29 : Old Z n0 h28 := O19.wr W28 g_this
    have E30 := E20.wr W28
    have F31 := F21.same W28
    have F32 := F22.other W28 (Or.inr (slot_ne (Or.inr (own_w hw 21)) (Or.inr (own_w hw 20)) (by decide) (t := .byte) (t' := (.array .byte)) (by decide) (by decide)))
    have V33 := V23.other W28 nec
    have V34 := V24.other W28 (Ne.symm (Nat.ne_of_lt lt5))
    have Zs35 : n0 ≤ h28.size := Nat.le_trans Zs25 (Keep.of_wr W28).1
    have N36 := Fr.snoc X28 N26 g_this
    have K37 : Keep h0 h28 [this] := K27.wr W28 (Or.inl (List.mem_of_getElem? (i := 0) rfl))
    show own_Go p e below _ (T28.setTop (mkF m 57 #[oR this, oR p1, oI (0 : Int32), oI (1 : Int32), .val .null, oR r3] []))
    obtain ⟨fs, hr, hrun, hended, hW, hsame⟩ := X28.leave (v := none) (fun _ => rfl)
    refine ⟨_, _, X28.returnOut hx Bd.returns (hb hby d3_57) hr, hrun, hended, _, _, rfl, ?_, ⟨_, rfl⟩, hW, hsame.mono (by decide) (by decide)⟩
    show QI4_1 Z this p1 kc c0_ wcs wsf h0 n0 _ T28.heap _
    rw [e28]
    exact ⟨rfl, N36, K37, r3, kb3, ⟨g_this, lt5⟩, E30, F31, Or.inl ⟨hl3, F32, V34⟩⟩
  · refine own_via (fun t kz => XS.astore X3.here hx rfl (hb hby d3_39) rfl rfl (l' := #[oR this, oR p1, oI (0 : Int32), oI (1 : Int32), .val .null, oR r3]) rfl kz) ?_
    refine own_via (fun t kz => XS.aloadN X3.here hx rfl (hb hby d3_41) rfl rfl kz) ?_
    refine own_via (fun t kz => XS.aload X3.here hx rfl (hb hby d3_42) rfl rfl kz) ?_
    refine own_via (fun t kz => XS.iloadN X3.here hx rfl (hb hby d3_44) rfl kz) ?_
    show own_Go p e below _ (T3.setTop (mkF m 45 #[oR this, oR p1, oI (0 : Int32), oI (1 : Int32), .val .null, oR r3] [(.int (1 : Int32)), (.ref r3), (.ref this)]))
    obtain ⟨_, _, ⟨T39, L39, k39, n39⟩, -, X39, ⟨Lc39, hQ39, l39, y39, z39⟩, st39⟩ := Jvm.LawKit.callS X3 hx (y := (⟨"java/lang/StringUTF16", "coderFromArrayLen", "([BI)B"⟩ : MethodName)) hown (mvT hZ (own_w hw 48)) (mvT hZ (own_w hw 49)) (mvT hZ (own_w hw 43)) (mvT hZ (own_w hw 50)) (by decide) (backOf (W := 1) (rmC1_2 l Z a0 hw [] r3 kb3 ((c0_ >>> ((0 : Int32) &&& 31)).toInt8.toInt32) ((c0_ >>> ((8 : Int32) &&& 31)).toInt8.toInt32) (1 : Int32) T3.heap n0 Zs14 Vr3 (by decide +kernel)) hZ (own_w hw 50) (own_w hw 43) (by decide) (by decide)) (g := (mkF m 45 #[oR this, oR p1, oI (0 : Int32), oI (1 : Int32), .val .null, oR r3] [(.int (1 : Int32)), (.ref r3), (.ref this)])) rfl (by rw [hml]; rfl) (argsL := [(.ref r3), (.int (1 : Int32))]) (rest := [(.ref this)]) (lenOf pd_3_1 rfl) rfl (by show 2 * 0 + _ ≤ _; exact Nat.le_of_eq rfl) (hb hby d3_45) (fun _ _ => ⟨rfl, rfl, (by decide : 2 + 0 ≤ _), (by decide : 3 + 0 ≤ _)⟩)
    dsimp only [Pt.U, Pt.locs, Pt.cells, Pt.slots] at X39 l39 y39 z39 st39 hQ39
    subst l39 y39 z39
    obtain ⟨rfl, Nq39, e39⟩ := hQ39
    have N40 := Fr.app N4 Nq39
    refine own_via st39 ?_
    show own_Go p e below _ (T39.setTop (mkF m 48 #[oR this, oR p1, oI (0 : Int32), oI (1 : Int32), .val .null, oR r3] [(.int (1 : Int32)), (.ref this)]))
    obtain ⟨T41, h41, X41, e41, W41, st41⟩ := putF X39 hx hZ hown (host := "") (Or.inl (own_w hw 25)) Via.refl e39 F12 E10 (Or.inr ⟨(own_w hw 21), rfl, hnm⟩) (own_w hw 5) (ty := .byte) (by decide) rfl rfl (g := (mkF m 48 #[oR this, oR p1, oI (0 : Int32), oI (1 : Int32), .val .null, oR r3] [(.int (1 : Int32)), (.ref this)])) rfl rfl (hb hby d3_48)
    refine own_via st41 ?_
    have O42 : Old Z n0 h41 := O9.wr W41 g_this
    have E43 := E10.wr W41
    have F44 := F11.other W41 (Or.inr (slot_ne (Or.inr (own_w hw 20)) (Or.inr (own_w hw 21)) (by decide) (t := (.array .byte)) (t' := .byte) (by decide) (by decide)))
    have F45 := F12.same W41
    have V46 := V13.other W41 nec
    have V47 := Vr3.other W41 (Ne.symm (Nat.ne_of_lt lt5))
    have Zs48 : n0 ≤ h41.size := Nat.le_trans Zs14 (Keep.of_wr W41).1
    have N49 := Fr.snoc X41 N40 g_this
    have K50 : Keep h0 h41 [this] := K15.wr W41 (Or.inl (List.mem_of_getElem? (i := 0) rfl))
    refine own_via (fun t kz => XS.aloadN X41.here hx rfl (hb hby d3_51) rfl rfl kz) ?_
    refine own_via (fun t kz => XS.aload X41.here hx rfl (hb hby d3_52) rfl rfl kz) ?_
    show own_Go p e below _ (T41.setTop (mkF m 54 #[oR this, oR p1, oI (0 : Int32), oI (1 : Int32), .val .null, oR r3] [(.ref r3), (.ref this)]))
    obtain ⟨T51, h51, X51, e51, W51, st51⟩ := putF X41 hx hZ hown (host := "") (Or.inl (own_w hw 24)) Via.refl e41 F44 E43 (Or.inr ⟨(own_w hw 20), rfl, hnm⟩) (own_w hw 5) (ty := (.array .byte)) (by decide) rfl rfl (g := (mkF m 54 #[oR this, oR p1, oI (0 : Int32), oI (1 : Int32), .val .null, oR r3] [(.ref r3), (.ref this)])) rfl rfl (hb hby d3_54)
    refine own_via st51 ?_
    have O52 : Old Z n0 h51 := O42.wr W51 g_this
    have E53 := E43.wr W51
    have F54 := F44.same W51
    have F55 := F45.other W51 (Or.inr (slot_ne (Or.inr (own_w hw 21)) (Or.inr (own_w hw 20)) (by decide) (t := .byte) (t' := (.array .byte)) (by decide) (by decide)))
    have V56 := V46.other W51 nec
    have V57 := V47.other W51 (Ne.symm (Nat.ne_of_lt lt5))
    have Zs58 : n0 ≤ h51.size := Nat.le_trans Zs48 (Keep.of_wr W51).1
    have N59 := Fr.snoc X51 N49 g_this
    have K60 : Keep h0 h51 [this] := K50.wr W51 (Or.inl (List.mem_of_getElem? (i := 0) rfl))
    show own_Go p e below _ (T51.setTop (mkF m 57 #[oR this, oR p1, oI (0 : Int32), oI (1 : Int32), .val .null, oR r3] []))
    obtain ⟨fs, hr, hrun, hended, hW, hsame⟩ := X51.leave (v := none) (fun _ => rfl)
    refine ⟨_, _, X51.returnOut hx Bd.returns (hb hby d3_57) hr, hrun, hended, _, _, rfl, ?_, ⟨_, rfl⟩, hW, hsame.mono (by decide) (by decide)⟩
    show QI4_1 Z this p1 kc c0_ wcs wsf h0 n0 _ T51.heap _
    rw [e51]
    exact ⟨rfl, N59, K60, r3, kb3, ⟨g_this, lt5⟩, E53, F54, Or.inr ⟨F55, V57⟩⟩
theorem d2_0 : decode jdk_42_method_3_code 0 = .ok (.aload_n 0, 1) := by decide +kernel
theorem d2_1 : decode jdk_42_method_3_code 1 = .ok (.aload_n 1, 1) := by decide +kernel
theorem d2_2 : decode jdk_42_method_3_code 2 = .ok (.iconst 0, 1) := by decide +kernel
theorem d2_3 : decode jdk_42_method_3_code 3 = .ok (.aload_n 1, 1) := by decide +kernel
theorem d2_4 : decode jdk_42_method_3_code 4 = .ok (.arraylength, 1) := by decide +kernel
theorem d2_5 : decode jdk_42_method_3_code 5 = .ok (.aconst_null, 1) := by decide +kernel
theorem d2_6 : decode jdk_42_method_3_code 6 = .ok (.invokespecial 27, 3) := by decide +kernel
theorem d2_9 : decode jdk_42_method_3_code 9 = .ok (.return_, 1) := by decide +kernel
theorem pd_2_0 : parseMethodDescriptor "([CIILjava/lang/Void;)V" = some ⟨[(.array .char), .int, .int, (.object "java/lang/Void")], none⟩ := by decide +kernel
theorem ef_rmI_1 (m : MethodId) (q0 : Addr) (q1 : Addr) : entryFrame m #[(.ref q0), (.ref q1)] 2 = mkF m 0 #[oR q0, oR q1] [] := by first | (simp [entryFrame, mkF, argsToLocals, Value.category]; done) | rfl
def QI_1 (Z : State) (this : Addr) (p1 : Addr) (kc : ClassId) (c0_ : Int32) (wcs : Int32) (wsf : Value) (h0 : Heap) (n0 : Nat) (v : Option Value) (h : Heap) (L : List Loc) : Prop := v = none ∧ Fr n0 L ∧ Keep h0 h [this] ∧ own_Str1 Z h n0 this c0_
set_option maxRecDepth 65536 in
set_option maxHeartbeats 40000000 in
theorem rmI_1 (l : Launch) (Z : State) (a0 : Array Value) (hw : ∀ d ∈ tables_1, d.before a0 Z = true) (ws : List Jvm.Cond) (this : Addr) (p1 : Addr) (kc : ClassId) (c0_ : Int32) (wcs : Int32) (wsf : Value) (h0 : Heap) (n0 : Nat) (Z0 : n0 ≤ h0.size) (g_this : n0 ≤ this) (E_this : Exa Z h0 this "java/lang/String") (F_value : Fld Z h0 this "java/lang/String" "value" "[B" .null) (F_coder : Fld Z h0 this "java/lang/String" "coder" "B" (.int (0 : Int32))) (VC : Arv Z h0 p1 kc .char (1 : Int32) [(.int c0_)] (.int (0 : Int32))) (nec : p1 ≠ this) (hc0 : own_ch c0_) (OLD : Old Z n0 h0) (hcs : ¬ (wcs = (0 : Int32))) (rsf : wsf.isRef = true) (B_wcs : Sta Z Z.heap "java/lang/String" "COMPACT_STRINGS" "Z" (.int wcs)) (B_wsf : Sta Z Z.heap "jdk/internal/util/Preconditions" "SIOOBE_FORMATTER" "Ljava/util/function/BiFunction;" wsf) (B_wad : Sta Z Z.heap "java/lang/StringUTF16" "$assertionsDisabled" "Z" (.int (1 : Int32))) (B_whi : Sta Z Z.heap "java/lang/StringUTF16" "HI_BYTE_SHIFT" "I" (.int (0 : Int32))) (B_wlo : Sta Z Z.heap "java/lang/StringUTF16" "LO_BYTE_SHIFT" "I" (.int (8 : Int32))) :
    MetFree l (⟨"java/lang/String", "<init>", "([C)V"⟩ : MethodName) (head1 (Jvm.Cond.code (⟨"java/lang/String", "<init>", "([C)V"⟩ : MethodName) jdk_42_method_3_code 2 none :: ws) ({ frames := 5, cells := 2, slots := 3, locals := 74 } : Room)) (fun a U => a = #[(.ref this), (.ref p1)] ∧ Z.Warmed39 U.vm ∧ U.heap = h0) (fun _ _ _ _ _ => True) (fun _ U o U' => ∃ v L, o = .returned v ∧ QI_1 Z this p1 kc c0_ wcs wsf h0 n0 v U'.heap L ∧ FrameEnd U o U' L ({ frames := 5, cells := 2, slots := 3, locals := 74 } : Room).cells ({ frames := 5, cells := 2, slots := 3, locals := 74 } : Room).slots) := by
  refine MetFree.of_bodySF (plainFor_of_name pn_15) hisR ?_
  intro p e s m args below meth c s₁ Bd hml0 hP hK
  obtain ⟨rfl, hZ, hh⟩ := hP
  have hx := Bd.exec
  have hby := Bd.bytes
  have hml : c.maxLocals = 2 := hml0
  have hown : s.vm.findClass "java/lang/String" = some m.cls := findClass_of_methodNamed Bd.named
  have hnm := (name_of_methodNamed Bd.named Bd.method).1
  have X0 : Stand p l e ({ frames := 5, cells := 2, slots := 3, locals := 74 } : Room) s m #[(.ref this), (.ref p1)] below meth c s₁ [] 0 0 := Stand.of_body Bd
  have e0 : s₁.heap = h0 := by rw [← hh, Bd.state]; rfl
  have N0 := Fr.nil n0
  refine own_start ?_
  refine own_via (fun t k => castTop (ef_rmI_1 m this p1) k) ?_
  show own_Go p e below _ (s₁.setTop (mkF m 0 #[oR this, oR p1] []))
  refine own_via (fun t kz => XS.aloadN X0.here hx rfl (hb hby d2_0) rfl rfl kz) ?_
  refine own_via (fun t kz => XS.aloadN X0.here hx rfl (hb hby d2_1) rfl rfl kz) ?_
  refine own_via (fun t kz => XS.iconst X0.here hx rfl (hb hby d2_2) kz) ?_
  refine own_via (fun t kz => XS.aloadN X0.here hx rfl (hb hby d2_3) rfl rfl kz) ?_
  show own_Go p e below _ (s₁.setTop (mkF m 4 #[oR this, oR p1] [(.ref p1), (.int (0 : Int32)), (.ref p1), (.ref this)]))
  obtain ⟨cl1, Ar1, kc1, Sz1, Nn1, Hs1, Gs1⟩ := id VC
  refine own_via (fun t kz => X0.arraylength hx (by rw [e0]; exact Ar1.1) (State.isArrayOf_alike hZ.alike Ar1.2.1) (g := (mkF m 4 #[oR this, oR p1] [(.ref p1), (.int (0 : Int32)), (.ref p1), (.ref this)])) rfl rfl (hb hby d2_4) t kz) ?_
  show own_Go p e below _ (s₁.setTop (mkF m 5 #[oR this, oR p1] [(.int (cl1.slots.size.toInt32)), (.int (0 : Int32)), (.ref p1), (.ref this)]))
  rw [len_of Sz1 Nn1]
  show own_Go p e below _ (s₁.setTop (mkF m 5 #[oR this, oR p1] [(.int (1 : Int32)), (.int (0 : Int32)), (.ref p1), (.ref this)]))
  refine own_via (fun t kz => XS.aconstNull X0.here hx rfl (hb hby d2_5) kz) ?_
  show own_Go p e below _ (s₁.setTop (mkF m 6 #[oR this, oR p1] [.null, (.int (1 : Int32)), (.int (0 : Int32)), (.ref p1), (.ref this)]))
  obtain ⟨_, _, ⟨T2, L2, k2, n2⟩, -, X2, ⟨Lc2, hQ2, l2, y2, z2⟩, st2⟩ := X0.specialBack hx (y := (⟨"java/lang/String", "<init>", "([CIILjava/lang/Void;)V"⟩ : MethodName)) rfl hown (mvT hZ (own_w hw 11)) (mvT hZ (own_w hw 12)) (mvT hZ (own_w hw 14)) (by decide) (backOf (W := 0) (rmI4_1 l Z a0 hw [] this p1 kc c0_ wcs wsf h0 n0 Z0 g_this E_this F_value F_coder VC nec hc0 OLD hcs rsf B_wcs B_wsf B_wad B_whi B_wlo) hZ (own_w hw 14) (own_w hw 6) (by decide) (by decide)) (g := (mkF m 6 #[oR this, oR p1] [.null, (.int (1 : Int32)), (.int (0 : Int32)), (.ref p1), (.ref this)])) rfl (by rw [hml]; rfl) (Steps.refl _) (a := this) (argsL := [(.ref p1), (.int (0 : Int32)), (.int (1 : Int32)), .null]) (rest := []) (lenOf pd_2_0 rfl) rfl (by show 2 * 0 + _ ≤ _; exact Nat.le_of_eq rfl) (hb hby d2_6) (fun _ _ => ⟨rfl, e0, (by decide : 0 + 2 ≤ _), (by decide : 0 + 3 ≤ _)⟩)
  dsimp only [Pt.U, Pt.locs, Pt.cells, Pt.slots] at X2 l2 y2 z2 st2 hQ2
  subst l2 y2 z2
  obtain ⟨rfl, Nq2, Kc2, SR2⟩ := hQ2
  have N3 := Fr.app N0 Nq2
  refine own_tr st2 ?_
  have O4 : Old Z n0 T2.heap := OLD.keep Kc2 (allS g_this all0)
  have E5 := E_this.keep Kc2
  have V6 := VC.keep Kc2 (ninS nec nin0)
  have Zs7 : n0 ≤ T2.heap.size := Nat.le_trans Z0 Kc2.1
  have K8 : Keep h0 T2.heap [this] := (Keep.refl h0 [this]).trans Kc2 (allS (Or.inl (List.mem_of_getElem? (i := 0) rfl)) all0)
  show own_Go p e below _ (T2.setTop (mkF m 9 #[oR this, oR p1] []))
  obtain ⟨fs, hr, hrun, hended, hW, hsame⟩ := X2.leave (v := none) (fun _ => rfl)
  refine ⟨_, _, X2.returnOut hx Bd.returns (hb hby d2_9) hr, hrun, hended, _, _, rfl, ?_, ⟨_, rfl⟩, hW, hsame.mono (by decide) (by decide)⟩
  show QI_1 Z this p1 kc c0_ wcs wsf h0 n0 _ T2.heap _
  exact ⟨rfl, N3, K8, SR2⟩
theorem d6_0 : decode jdk_42_method_54_code 0 = .ok (.aload_n 0, 1) := by decide +kernel
theorem d6_1 : decode jdk_42_method_54_code 1 = .ok (.getfield 9, 3) := by decide +kernel
theorem d6_4 : decode jdk_42_method_54_code 4 = .ok (.arraylength, 1) := by decide +kernel
theorem d6_5 : decode jdk_42_method_54_code 5 = .ok (.aload_n 0, 1) := by decide +kernel
theorem d6_6 : decode jdk_42_method_54_code 6 = .ok (.invokevirtual 335, 3) := by decide +kernel
theorem d6_9 : decode jdk_42_method_54_code 9 = .ok (.ishr, 1) := by decide +kernel
theorem d6_10 : decode jdk_42_method_54_code 10 = .ok (.ireturn, 1) := by decide +kernel
theorem pd_6_0 : parseMethodDescriptor "()B" = some ⟨[], some .byte⟩ := by decide +kernel
theorem ef_rmL1 (m : MethodId) (q0 : Addr) : entryFrame m #[(.ref q0)] 1 = mkF m 0 #[oR q0] [] := by first | (simp [entryFrame, mkF, argsToLocals, Value.category]; done) | rfl
def QL1 (Z : State) (this : Addr) (c0_ : Int32) (wcs : Int32) (wsf : Value) (h0 : Heap) (n0 : Nat) (v : Option Value) (h : Heap) (L : List Loc) : Prop := v = some (.int (1 : Int32)) ∧ Fr n0 L ∧ h = h0
set_option maxRecDepth 65536 in
set_option maxHeartbeats 40000000 in
theorem rmL1 (l : Launch) (Z : State) (a0 : Array Value) (hw : ∀ d ∈ tables_1, d.before a0 Z = true) (ws : List Jvm.Cond) (this : Addr) (c0_ : Int32) (wcs : Int32) (wsf : Value) (h0 : Heap) (n0 : Nat) (Z0 : n0 ≤ h0.size) (SR : own_Str1 Z h0 n0 this c0_) (OLD : Old Z n0 h0) (hcs : ¬ (wcs = (0 : Int32))) (rsf : wsf.isRef = true) (B_wcs : Sta Z Z.heap "java/lang/String" "COMPACT_STRINGS" "Z" (.int wcs)) (B_wsf : Sta Z Z.heap "jdk/internal/util/Preconditions" "SIOOBE_FORMATTER" "Ljava/util/function/BiFunction;" wsf) (B_wad : Sta Z Z.heap "java/lang/StringUTF16" "$assertionsDisabled" "Z" (.int (1 : Int32))) (B_whi : Sta Z Z.heap "java/lang/StringUTF16" "HI_BYTE_SHIFT" "I" (.int (0 : Int32))) (B_wlo : Sta Z Z.heap "java/lang/StringUTF16" "LO_BYTE_SHIFT" "I" (.int (8 : Int32))) :
    MetFree l (⟨"java/lang/String", "length", "()I"⟩ : MethodName) (head1 (Jvm.Cond.code (⟨"java/lang/String", "length", "()I"⟩ : MethodName) jdk_42_method_54_code 1 (some .int) :: ws) ({ frames := 1, cells := 0, slots := 0, locals := 13 } : Room)) (fun a U => a = #[(.ref this)] ∧ Z.Warmed39 U.vm ∧ U.heap = h0) (fun _ _ _ _ _ => True) (fun _ U o U' => ∃ v L, o = .returned v ∧ QL1 Z this c0_ wcs wsf h0 n0 v U'.heap L ∧ FrameEnd U o U' L ({ frames := 1, cells := 0, slots := 0, locals := 13 } : Room).cells ({ frames := 1, cells := 0, slots := 0, locals := 13 } : Room).slots) := by
  refine MetFree.of_bodySF (plainFor_of_name pn_15) hisR ?_
  intro p e s m args below meth c s₁ Bd hml0 hP hK
  obtain ⟨rfl, hZ, hh⟩ := hP
  have hx := Bd.exec
  have hby := Bd.bytes
  have hml : c.maxLocals = 1 := hml0
  have hown : s.vm.findClass "java/lang/String" = some m.cls := findClass_of_methodNamed Bd.named
  have hnm := (name_of_methodNamed Bd.named Bd.method).1
  have X0 : Stand p l e ({ frames := 1, cells := 0, slots := 0, locals := 13 } : Room) s m #[(.ref this)] below meth c s₁ [] 0 0 := Stand.of_body Bd
  have e0 : s₁.heap = h0 := by rw [← hh, Bd.state]; rfl
  have N0 := Fr.nil n0
  refine own_start ?_
  refine own_via (fun t k => castTop (ef_rmL1 m this) k) ?_
  obtain ⟨arr, kb, ⟨ch0, ch1⟩, Eq, Fv, Rp⟩ := SR
  rcases Rp with ⟨hl, Fc, Va⟩ | ⟨Fc, Va⟩
  · show own_Go p e below _ (s₁.setTop (mkF m 0 #[oR this] []))
    refine own_via (fun t kz => XS.aloadN X0.here hx rfl (hb hby d6_0) rfl rfl kz) ?_
    show own_Go p e below _ (s₁.setTop (mkF m 1 #[oR this] [(.ref this)]))
    obtain ⟨T1, X1, e1, st1⟩ := getF X0 hx hZ hown (host := "") (Or.inl (own_w hw 24)) Via.refl e0 Fv (g := (mkF m 1 #[oR this] [(.ref this)])) rfl rfl (hb hby d6_1)
    refine own_via st1 ?_
    show own_Go p e below _ (T1.setTop (mkF m 4 #[oR this] [(.ref arr)]))
    obtain ⟨cl2, Ar2, kc2, Sz2, Nn2, Hs2, Gs2⟩ := id Va
    refine own_via (fun t kz => X1.arraylength hx (by rw [e1]; exact Ar2.1) (State.isArrayOf_alike hZ.alike Ar2.2.1) (g := (mkF m 4 #[oR this] [(.ref arr)])) rfl rfl (hb hby d6_4) t kz) ?_
    show own_Go p e below _ (T1.setTop (mkF m 5 #[oR this] [(.int (cl2.slots.size.toInt32))]))
    rw [len_of Sz2 Nn2]
    show own_Go p e below _ (T1.setTop (mkF m 5 #[oR this] [(.int (1 : Int32))]))
    refine own_via (fun t kz => XS.aloadN X1.here hx rfl (hb hby d6_5) rfl rfl kz) ?_
    show own_Go p e below _ (T1.setTop (mkF m 6 #[oR this] [(.ref this), (.int (1 : Int32))]))
    obtain ⟨cq3, kq3, qa3, qb3, qc3⟩ := isOf hZ e1 Eq
    obtain ⟨_, _, ⟨T3, L3, k3, n3⟩, -, X3, ⟨Lc3, hQ3, l3, y3, z3⟩, st3⟩ := X1.virtualBack hx (y := (⟨"java/lang/String", "coder", "()B"⟩ : MethodName)) (z := (⟨"java/lang/String", "coder", "()B"⟩ : MethodName)) hown (mvT hZ (own_w hw 35)) (mvT hZ (own_w hw 36)) (notFace_of_selects (args := #[]) (mvT hZ (own_w hw 38))) (mvT hZ (own_w hw 38)) (mvT hZ (own_w hw 37)) (by decide) (backOf (W := 1) (rm7 l Z a0 hw [] this (0 : Int32) wcs (0 : Int32) h0 n0 Z0 hcs rfl Fc (B_wcs.ext OLD.2) (by unfold f7; rfl)) hZ (own_w hw 39) (own_w hw 6) (by decide) (by decide)) qa3 qc3 (g := (mkF m 6 #[oR this] [(.ref this), (.int (1 : Int32))])) rfl (by rw [hml]; rfl) (Steps.refl _) (argsL := []) (rest := [(.int (1 : Int32))]) (lenOf pd_6_0 rfl) rfl (by show 2 * 0 + _ ≤ _; exact Nat.le_of_eq rfl) (hb hby d6_6) (fun _ _ => ⟨rfl, e1, (by decide : 0 + 0 ≤ _), (by decide : 0 + 0 ≤ _)⟩)
    dsimp only [Pt.U, Pt.locs, Pt.cells, Pt.slots] at X3 l3 y3 z3 st3 hQ3
    subst l3 y3 z3
    obtain ⟨rfl, Nq3, e3⟩ := hQ3
    have N4 := Fr.app N0 Nq3
    refine own_tr st3 ?_
    show own_Go p e below _ (T3.setTop (mkF m 9 #[oR this] [(.int (0 : Int32)), (.int (1 : Int32))]))
    refine own_via (fun t kz => XS.ishr X3.here hx rfl (hb hby d6_9) rfl kz) ?_
    show own_Go p e below _ (T3.setTop (mkF m 10 #[oR this] [(.int (1 : Int32))]))
    obtain ⟨fs, hr, hrun, hended, hW, hsame⟩ := X3.leave (v := some (.int (1 : Int32))) (fun h => by rw [Bd.returns] at h; cases h)
    refine ⟨_, _, retI X3 hx Bd.returns (hb hby d6_10) hr, hrun, hended, _, _, rfl, ?_, ⟨_, rfl⟩, hW, hsame.mono (by decide) (by decide)⟩
    show QL1 Z this c0_ wcs wsf h0 n0 _ T3.heap _
    rw [e3]
    exact ⟨rfl, N4, rfl⟩
  · show own_Go p e below _ (s₁.setTop (mkF m 0 #[oR this] []))
    refine own_via (fun t kz => XS.aloadN X0.here hx rfl (hb hby d6_0) rfl rfl kz) ?_
    show own_Go p e below _ (s₁.setTop (mkF m 1 #[oR this] [(.ref this)]))
    obtain ⟨T6, X6, e6, st6⟩ := getF X0 hx hZ hown (host := "") (Or.inl (own_w hw 24)) Via.refl e0 Fv (g := (mkF m 1 #[oR this] [(.ref this)])) rfl rfl (hb hby d6_1)
    refine own_via st6 ?_
    show own_Go p e below _ (T6.setTop (mkF m 4 #[oR this] [(.ref arr)]))
    obtain ⟨cl7, Ar7, kc7, Sz7, Nn7, Hs7, Gs7⟩ := id Va
    refine own_via (fun t kz => X6.arraylength hx (by rw [e6]; exact Ar7.1) (State.isArrayOf_alike hZ.alike Ar7.2.1) (g := (mkF m 4 #[oR this] [(.ref arr)])) rfl rfl (hb hby d6_4) t kz) ?_
    show own_Go p e below _ (T6.setTop (mkF m 5 #[oR this] [(.int (cl7.slots.size.toInt32))]))
    rw [len_of Sz7 Nn7]
    show own_Go p e below _ (T6.setTop (mkF m 5 #[oR this] [(.int (2 : Int32))]))
    refine own_via (fun t kz => XS.aloadN X6.here hx rfl (hb hby d6_5) rfl rfl kz) ?_
    show own_Go p e below _ (T6.setTop (mkF m 6 #[oR this] [(.ref this), (.int (2 : Int32))]))
    obtain ⟨cq8, kq8, qa8, qb8, qc8⟩ := isOf hZ e6 Eq
    obtain ⟨_, _, ⟨T8, L8, k8, n8⟩, -, X8, ⟨Lc8, hQ8, l8, y8, z8⟩, st8⟩ := X6.virtualBack hx (y := (⟨"java/lang/String", "coder", "()B"⟩ : MethodName)) (z := (⟨"java/lang/String", "coder", "()B"⟩ : MethodName)) hown (mvT hZ (own_w hw 35)) (mvT hZ (own_w hw 36)) (notFace_of_selects (args := #[]) (mvT hZ (own_w hw 38))) (mvT hZ (own_w hw 38)) (mvT hZ (own_w hw 37)) (by decide) (backOf (W := 1) (rm7 l Z a0 hw [] this (1 : Int32) wcs (1 : Int32) h0 n0 Z0 hcs rfl Fc (B_wcs.ext OLD.2) (by unfold f7; rfl)) hZ (own_w hw 39) (own_w hw 6) (by decide) (by decide)) qa8 qc8 (g := (mkF m 6 #[oR this] [(.ref this), (.int (2 : Int32))])) rfl (by rw [hml]; rfl) (Steps.refl _) (argsL := []) (rest := [(.int (2 : Int32))]) (lenOf pd_6_0 rfl) rfl (by show 2 * 0 + _ ≤ _; exact Nat.le_of_eq rfl) (hb hby d6_6) (fun _ _ => ⟨rfl, e6, (by decide : 0 + 0 ≤ _), (by decide : 0 + 0 ≤ _)⟩)
    dsimp only [Pt.U, Pt.locs, Pt.cells, Pt.slots] at X8 l8 y8 z8 st8 hQ8
    subst l8 y8 z8
    obtain ⟨rfl, Nq8, e8⟩ := hQ8
    have N9 := Fr.app N0 Nq8
    refine own_tr st8 ?_
    show own_Go p e below _ (T8.setTop (mkF m 9 #[oR this] [(.int (1 : Int32)), (.int (2 : Int32))]))
    refine own_via (fun t kz => XS.ishr X8.here hx rfl (hb hby d6_9) rfl kz) ?_
    show own_Go p e below _ (T8.setTop (mkF m 10 #[oR this] [(.int (1 : Int32))]))
    obtain ⟨fs, hr, hrun, hended, hW, hsame⟩ := X8.leave (v := some (.int (1 : Int32))) (fun h => by rw [Bd.returns] at h; cases h)
    refine ⟨_, _, retI X8 hx Bd.returns (hb hby d6_10) hr, hrun, hended, _, _, rfl, ?_, ⟨_, rfl⟩, hW, hsame.mono (by decide) (by decide)⟩
    show QL1 Z this c0_ wcs wsf h0 n0 _ T8.heap _
    rw [e8]
    exact ⟨rfl, N9, rfl⟩
def fU1  : Int32 := (1 : Int32)
theorem d25_0 : decode jdk_52_method_6_code 0 = .ok (.aload_n 0, 1) := by decide +kernel
theorem d25_1 : decode jdk_52_method_6_code 1 = .ok (.arraylength, 1) := by decide +kernel
theorem d25_2 : decode jdk_52_method_6_code 2 = .ok (.iconst 1, 1) := by decide +kernel
theorem d25_3 : decode jdk_52_method_6_code 3 = .ok (.ishr, 1) := by decide +kernel
theorem d25_4 : decode jdk_52_method_6_code 4 = .ok (.ireturn, 1) := by decide +kernel
theorem ef_rmU1 (m : MethodId) (q0 : Addr) : entryFrame m #[(.ref q0)] 1 = mkF m 0 #[oR q0] [] := by first | (simp [entryFrame, mkF, argsToLocals, Value.category]; done) | rfl
def QU1 (Z : State) (p0 : Addr) (ka : ClassId) (b0_ : Int32) (b1_ : Int32) (r : Int32) (h0 : Heap) (n0 : Nat) (v : Option Value) (h : Heap) (L : List Loc) : Prop := v = some (.int r) ∧ Fr n0 L ∧ h = h0
set_option maxRecDepth 65536 in
set_option maxHeartbeats 40000000 in
theorem rmU1 (l : Launch) (Z : State) (a0 : Array Value) (hw : ∀ d ∈ tables_1, d.before a0 Z = true) (ws : List Jvm.Cond) (p0 : Addr) (ka : ClassId) (b0_ : Int32) (b1_ : Int32) (r : Int32) (h0 : Heap) (n0 : Nat) (Z0 : n0 ≤ h0.size) (V_p0 : Arv Z h0 p0 ka .byte (2 : Int32) [(.int b0_), (.int b1_)] (.int (0 : Int32))) (hr0 : fU1 = r) :
    MetFree l (⟨"java/lang/StringUTF16", "length", "([B)I"⟩ : MethodName) (head1 (Jvm.Cond.code (⟨"java/lang/StringUTF16", "length", "([B)I"⟩ : MethodName) jdk_52_method_6_code 1 (some .int) :: ws) ({ frames := 0, cells := 0, slots := 0, locals := 0 } : Room)) (fun a U => a = #[(.ref p0)] ∧ Z.Warmed39 U.vm ∧ U.heap = h0) (fun _ _ _ _ _ => True) (fun _ U o U' => ∃ v L, o = .returned v ∧ QU1 Z p0 ka b0_ b1_ r h0 n0 v U'.heap L ∧ FrameEnd U o U' L ({ frames := 0, cells := 0, slots := 0, locals := 0 } : Room).cells ({ frames := 0, cells := 0, slots := 0, locals := 0 } : Room).slots) := by
  refine MetFree.of_bodySF (plainFor_of_name pn_20) hisR ?_
  intro p e s m args below meth c s₁ Bd hml0 hP hK
  obtain ⟨rfl, hZ, hh⟩ := hP
  have hx := Bd.exec
  have hby := Bd.bytes
  have hml : c.maxLocals = 1 := hml0
  have hown : s.vm.findClass "java/lang/StringUTF16" = some m.cls := findClass_of_methodNamed Bd.named
  have hnm := (name_of_methodNamed Bd.named Bd.method).1
  have X0 : Stand p l e ({ frames := 0, cells := 0, slots := 0, locals := 0 } : Room) s m #[(.ref p0)] below meth c s₁ [] 0 0 := Stand.of_body Bd
  have e0 : s₁.heap = h0 := by rw [← hh, Bd.state]; rfl
  have N0 := Fr.nil n0
  refine own_start ?_
  refine own_via (fun t k => castTop (ef_rmU1 m p0) k) ?_
  show own_Go p e below _ (s₁.setTop (mkF m 0 #[oR p0] []))
  refine own_via (fun t kz => XS.aloadN X0.here hx rfl (hb hby d25_0) rfl rfl kz) ?_
  show own_Go p e below _ (s₁.setTop (mkF m 1 #[oR p0] [(.ref p0)]))
  obtain ⟨cl1, Ar1, kc1, Sz1, Nn1, Hs1, Gs1⟩ := id V_p0
  refine own_via (fun t kz => X0.arraylength hx (by rw [e0]; exact Ar1.1) (State.isArrayOf_alike hZ.alike Ar1.2.1) (g := (mkF m 1 #[oR p0] [(.ref p0)])) rfl rfl (hb hby d25_1) t kz) ?_
  show own_Go p e below _ (s₁.setTop (mkF m 2 #[oR p0] [(.int (cl1.slots.size.toInt32))]))
  rw [len_of Sz1 Nn1]
  show own_Go p e below _ (s₁.setTop (mkF m 2 #[oR p0] [(.int (2 : Int32))]))
  refine own_via (fun t kz => XS.iconst X0.here hx rfl (hb hby d25_2) kz) ?_
  show own_Go p e below _ (s₁.setTop (mkF m 3 #[oR p0] [(.int (1 : Int32)), (.int (2 : Int32))]))
  refine own_via (fun t kz => XS.ishr X0.here hx rfl (hb hby d25_3) rfl kz) ?_
  show own_Go p e below _ (s₁.setTop (mkF m 4 #[oR p0] [(.int (1 : Int32))]))
  have hv : fU1 = (1 : Int32) := by unfold fU1; rfl
  obtain ⟨fs, hr, hrun, hended, hW, hsame⟩ := X0.leave (v := some (.int (1 : Int32))) (fun h => by rw [Bd.returns] at h; cases h)
  refine ⟨_, _, retI X0 hx Bd.returns (hb hby d25_4) hr, hrun, hended, _, _, rfl, ?_, ⟨_, rfl⟩, hW, hsame.mono (by decide) (by decide)⟩
  show QU1 Z p0 ka b0_ b1_ r h0 n0 _ s₁.heap _
  rw [e0]
  exact ⟨by rw [← hr0, hv], N0, rfl⟩
def fH1_0 (b0_ : Int32) : Int32 := ((b0_ &&& (255 : Int32)).toUInt32.toUInt16.toUInt32.toInt32)
theorem d14_0 : decode jdk_43_method_2_code 0 = .ok (.iload_n 1, 1) := by decide +kernel
theorem d14_1 : decode jdk_43_method_2_code 1 = .ok (.aload_n 0, 1) := by decide +kernel
theorem d14_2 : decode jdk_43_method_2_code 2 = .ok (.arraylength, 1) := by decide +kernel
theorem d14_3 : decode jdk_43_method_2_code 3 = .ok (.invokestatic 9, 3) := by decide +kernel
theorem d14_6 : decode jdk_43_method_2_code 6 = .ok (.aload_n 0, 1) := by decide +kernel
theorem d14_7 : decode jdk_43_method_2_code 7 = .ok (.iload_n 1, 1) := by decide +kernel
theorem d14_8 : decode jdk_43_method_2_code 8 = .ok (.baload, 1) := by decide +kernel
theorem d14_9 : decode jdk_43_method_2_code 9 = .ok (.sipush 255, 3) := by decide +kernel
theorem d14_12 : decode jdk_43_method_2_code 12 = .ok (.iand, 1) := by decide +kernel
theorem d14_13 : decode jdk_43_method_2_code 13 = .ok (.i2c, 1) := by decide +kernel
theorem d14_14 : decode jdk_43_method_2_code 14 = .ok (.ireturn, 1) := by decide +kernel
theorem pn_14 : plainName "java/lang/StringLatin1" = true := by first | (simp [plainName, overriddenIn]; done) | decide +kernel
theorem pd_14_0 : parseMethodDescriptor "(II)V" = some ⟨[.int, .int], none⟩ := by decide +kernel
theorem ef_rmH1_0 (m : MethodId) (q0 : Addr) : entryFrame m #[(.ref q0), (.int (0 : Int32))] 2 = mkF m 0 #[oR q0, oI (0 : Int32)] [] := by first | (simp [entryFrame, mkF, argsToLocals, Value.category]; done) | rfl
def QH1_0 (Z : State) (p0 : Addr) (wcs : Int32) (wsf : Value) (ka : ClassId) (b0_ : Int32) (r : Int32) (h0 : Heap) (n0 : Nat) (v : Option Value) (h : Heap) (L : List Loc) : Prop := v = some (.int r) ∧ Fr n0 L ∧ h = h0
set_option maxRecDepth 65536 in
set_option maxHeartbeats 40000000 in
theorem rmH1_0 (l : Launch) (Z : State) (a0 : Array Value) (hw : ∀ d ∈ tables_1, d.before a0 Z = true) (ws : List Jvm.Cond) (p0 : Addr) (wcs : Int32) (wsf : Value) (ka : ClassId) (b0_ : Int32) (r : Int32) (h0 : Heap) (n0 : Nat) (Z0 : n0 ≤ h0.size) (OLD : Old Z n0 h0) (hcs : ¬ (wcs = (0 : Int32))) (rsf : wsf.isRef = true) (B_wcs : Sta Z Z.heap "java/lang/String" "COMPACT_STRINGS" "Z" (.int wcs)) (B_wsf : Sta Z Z.heap "jdk/internal/util/Preconditions" "SIOOBE_FORMATTER" "Ljava/util/function/BiFunction;" wsf) (B_wad : Sta Z Z.heap "java/lang/StringUTF16" "$assertionsDisabled" "Z" (.int (1 : Int32))) (B_whi : Sta Z Z.heap "java/lang/StringUTF16" "HI_BYTE_SHIFT" "I" (.int (0 : Int32))) (B_wlo : Sta Z Z.heap "java/lang/StringUTF16" "LO_BYTE_SHIFT" "I" (.int (8 : Int32))) (V_p0 : Arv Z h0 p0 ka .byte (1 : Int32) [(.int b0_)] (.int (0 : Int32))) (hr0 : (fH1_0 b0_) = r) :
    MetFree l (⟨"java/lang/StringLatin1", "charAt", "([BI)C"⟩ : MethodName) (head1 (Jvm.Cond.code (⟨"java/lang/StringLatin1", "charAt", "([BI)C"⟩ : MethodName) jdk_43_method_2_code 2 (some .char) :: ws) ({ frames := 2, cells := 0, slots := 0, locals := 27 } : Room)) (fun a U => a = #[(.ref p0), (.int (0 : Int32))] ∧ Z.Warmed39 U.vm ∧ U.heap = h0) (fun _ _ _ _ _ => True) (fun _ U o U' => ∃ v L, o = .returned v ∧ QH1_0 Z p0 wcs wsf ka b0_ r h0 n0 v U'.heap L ∧ FrameEnd U o U' L ({ frames := 2, cells := 0, slots := 0, locals := 27 } : Room).cells ({ frames := 2, cells := 0, slots := 0, locals := 27 } : Room).slots) := by
  refine MetFree.of_bodySF (plainFor_of_name pn_14) hisR ?_
  intro p e s m args below meth c s₁ Bd hml0 hP hK
  obtain ⟨rfl, hZ, hh⟩ := hP
  have hx := Bd.exec
  have hby := Bd.bytes
  have hml : c.maxLocals = 2 := hml0
  have hown : s.vm.findClass "java/lang/StringLatin1" = some m.cls := findClass_of_methodNamed Bd.named
  have hnm := (name_of_methodNamed Bd.named Bd.method).1
  have X0 : Stand p l e ({ frames := 2, cells := 0, slots := 0, locals := 27 } : Room) s m #[(.ref p0), (.int (0 : Int32))] below meth c s₁ [] 0 0 := Stand.of_body Bd
  have e0 : s₁.heap = h0 := by rw [← hh, Bd.state]; rfl
  have N0 := Fr.nil n0
  refine own_start ?_
  refine own_via (fun t k => castTop (ef_rmH1_0 m p0) k) ?_
  show own_Go p e below _ (s₁.setTop (mkF m 0 #[oR p0, oI (0 : Int32)] []))
  refine own_via (fun t kz => XS.iloadN X0.here hx rfl (hb hby d14_0) rfl kz) ?_
  refine own_via (fun t kz => XS.aloadN X0.here hx rfl (hb hby d14_1) rfl rfl kz) ?_
  show own_Go p e below _ (s₁.setTop (mkF m 2 #[oR p0, oI (0 : Int32)] [(.ref p0), (.int (0 : Int32))]))
  obtain ⟨cl1, Ar1, kc1, Sz1, Nn1, Hs1, Gs1⟩ := id V_p0
  refine own_via (fun t kz => X0.arraylength hx (by rw [e0]; exact Ar1.1) (State.isArrayOf_alike hZ.alike Ar1.2.1) (g := (mkF m 2 #[oR p0, oI (0 : Int32)] [(.ref p0), (.int (0 : Int32))])) rfl rfl (hb hby d14_2) t kz) ?_
  show own_Go p e below _ (s₁.setTop (mkF m 3 #[oR p0, oI (0 : Int32)] [(.int (cl1.slots.size.toInt32)), (.int (0 : Int32))]))
  rw [len_of Sz1 Nn1]
  show own_Go p e below _ (s₁.setTop (mkF m 3 #[oR p0, oI (0 : Int32)] [(.int (1 : Int32)), (.int (0 : Int32))]))
  obtain ⟨_, _, ⟨T2, L2, k2, n2⟩, -, X2, ⟨Lc2, hQ2, l2, y2, z2⟩, st2⟩ := Jvm.LawKit.callS X0 hx (y := (⟨"java/lang/String", "checkIndex", "(II)V"⟩ : MethodName)) hown (mvT hZ (own_w hw 68)) (mvT hZ (own_w hw 69)) (mvT hZ (own_w hw 6)) (mvT hZ (own_w hw 70)) (by decide) (backOf (W := 0) (rm15 l Z a0 hw [] (0 : Int32) (1 : Int32) wsf h0 n0 Z0 rsf (B_wsf.ext OLD.2) (by decide) (by decide)) hZ (own_w hw 70) (own_w hw 6) (by decide) (by decide)) (g := (mkF m 3 #[oR p0, oI (0 : Int32)] [(.int (1 : Int32)), (.int (0 : Int32))])) rfl (by rw [hml]; rfl) (argsL := [(.int (0 : Int32)), (.int (1 : Int32))]) (rest := []) (lenOf pd_14_0 rfl) rfl (by show 2 * 0 + _ ≤ _; exact Nat.le_of_eq rfl) (hb hby d14_3) (fun _ _ => ⟨rfl, e0, (by decide : 0 + 0 ≤ _), (by decide : 0 + 0 ≤ _)⟩)
  dsimp only [Pt.U, Pt.locs, Pt.cells, Pt.slots] at X2 l2 y2 z2 st2 hQ2
  subst l2 y2 z2
  obtain ⟨rfl, Nq2, e2⟩ := hQ2
  have N3 := Fr.app N0 Nq2
  refine own_via st2 ?_
  refine own_via (fun t kz => XS.aloadN X2.here hx rfl (hb hby d14_6) rfl rfl kz) ?_
  refine own_via (fun t kz => XS.iloadN X2.here hx rfl (hb hby d14_7) rfl kz) ?_
  show own_Go p e below _ (T2.setTop (mkF m 8 #[oR p0, oI (0 : Int32)] [(.int (0 : Int32)), (.ref p0)]))
  obtain ⟨cl4, Ar4, kc4, Sz4, Nn4, Hs4, Gs4⟩ := id V_p0
  have in4 := inb_of (j := (0 : Int32)) Sz4 ⟨by decide, by decide⟩
  have at4 : cl4.slots[((0 : Int32)).toNatClampNeg]? = some (.int b0_) := Hs4.at in4 rfl
  refine own_via (fun t kz => X2.baloadBytes hx (j := (0 : Int32)) (v := (.int b0_)) (by rw [e2]; exact Ar4.1) (State.isArrayOf_alike hZ.alike Ar4.2.1) Ar4.2.2 in4 at4 (g := (mkF m 8 #[oR p0, oI (0 : Int32)] [(.int (0 : Int32)), (.ref p0)])) rfl rfl (hb hby d14_8) t kz) ?_
  refine own_via (fun t kz => XS.sipush X2.here hx rfl (hb hby d14_9) kz) ?_
  refine own_via (fun t kz => XS.iand X2.here hx rfl (hb hby d14_12) rfl kz) ?_
  show own_Go p e below _ (T2.setTop (mkF m 13 #[oR p0, oI (0 : Int32)] [(.int (b0_ &&& (255 : Int32)))]))
  refine own_via (fun t kz => XS.i2c X2.here hx rfl (hb hby d14_13) rfl kz) ?_
  show own_Go p e below _ (T2.setTop (mkF m 14 #[oR p0, oI (0 : Int32)] [(.int ((b0_ &&& (255 : Int32)).toUInt32.toUInt16.toUInt32.toInt32))]))
  have hv : (fH1_0 b0_) = ((b0_ &&& (255 : Int32)).toUInt32.toUInt16.toUInt32.toInt32) := by unfold fH1_0; rfl
  obtain ⟨fs, hr, hrun, hended, hW, hsame⟩ := X2.leave (v := some (.int ((b0_ &&& (255 : Int32)).toUInt32.toUInt16.toUInt32.toInt32))) (fun h => by rw [Bd.returns] at h; cases h)
  refine ⟨_, _, retOut X2 hx (i := .ireturn) Bd.returns (narrow_c _) (Or.inl ⟨rfl, by simp, _, rfl⟩) (hb hby d14_14) hr, hrun, hended, _, _, rfl, ?_, ⟨_, rfl⟩, hW, hsame.mono (by decide) (by decide)⟩
  show QH1_0 Z p0 wcs wsf ka b0_ r h0 n0 _ T2.heap _
  rw [e2]
  exact ⟨by rw [← hr0, hv], N3, rfl⟩
theorem d24_0 : decode jdk_52_method_91_code 0 = .ok (.iload_n 0, 1) := by decide +kernel
theorem d24_1 : decode jdk_52_method_91_code 1 = .ok (.aload_n 1, 1) := by decide +kernel
theorem d24_2 : decode jdk_52_method_91_code 2 = .ok (.invokestatic 48, 3) := by decide +kernel
theorem d24_5 : decode jdk_52_method_91_code 5 = .ok (.invokestatic 414, 3) := by decide +kernel
theorem d24_8 : decode jdk_52_method_91_code 8 = .ok (.return_, 1) := by decide +kernel
theorem pd_24_0 : parseMethodDescriptor "([B)I" = some ⟨[(.array .byte)], some .int⟩ := by decide +kernel
theorem pd_24_1 : parseMethodDescriptor "(II)V" = some ⟨[.int, .int], none⟩ := by decide +kernel
theorem ef_rmX1_0 (m : MethodId) (q0 : Addr) : entryFrame m #[(.int (0 : Int32)), (.ref q0)] 2 = mkF m 0 #[oI (0 : Int32), oR q0] [] := by first | (simp [entryFrame, mkF, argsToLocals, Value.category]; done) | rfl
def QX1_0 (Z : State) (p1 : Addr) (kb : ClassId) (b0_ : Int32) (b1_ : Int32) (wcs : Int32) (wsf : Value) (h0 : Heap) (n0 : Nat) (v : Option Value) (h : Heap) (L : List Loc) : Prop := v = none ∧ Fr n0 L ∧ h = h0
set_option maxRecDepth 65536 in
set_option maxHeartbeats 40000000 in
theorem rmX1_0 (l : Launch) (Z : State) (a0 : Array Value) (hw : ∀ d ∈ tables_1, d.before a0 Z = true) (ws : List Jvm.Cond) (p1 : Addr) (kb : ClassId) (b0_ : Int32) (b1_ : Int32) (wcs : Int32) (wsf : Value) (h0 : Heap) (n0 : Nat) (Z0 : n0 ≤ h0.size) (VB : Arv Z h0 p1 kb .byte (2 : Int32) [(.int b0_), (.int b1_)] (.int (0 : Int32))) (OLD : Old Z n0 h0) (hcs : ¬ (wcs = (0 : Int32))) (rsf : wsf.isRef = true) (B_wcs : Sta Z Z.heap "java/lang/String" "COMPACT_STRINGS" "Z" (.int wcs)) (B_wsf : Sta Z Z.heap "jdk/internal/util/Preconditions" "SIOOBE_FORMATTER" "Ljava/util/function/BiFunction;" wsf) (B_wad : Sta Z Z.heap "java/lang/StringUTF16" "$assertionsDisabled" "Z" (.int (1 : Int32))) (B_whi : Sta Z Z.heap "java/lang/StringUTF16" "HI_BYTE_SHIFT" "I" (.int (0 : Int32))) (B_wlo : Sta Z Z.heap "java/lang/StringUTF16" "LO_BYTE_SHIFT" "I" (.int (8 : Int32))) :
    MetFree l (⟨"java/lang/StringUTF16", "checkIndex", "(I[B)V"⟩ : MethodName) (head1 (Jvm.Cond.code (⟨"java/lang/StringUTF16", "checkIndex", "(I[B)V"⟩ : MethodName) jdk_52_method_91_code 2 none :: ws) ({ frames := 2, cells := 0, slots := 0, locals := 27 } : Room)) (fun a U => a = #[(.int (0 : Int32)), (.ref p1)] ∧ Z.Warmed39 U.vm ∧ U.heap = h0) (fun _ _ _ _ _ => True) (fun _ U o U' => ∃ v L, o = .returned v ∧ QX1_0 Z p1 kb b0_ b1_ wcs wsf h0 n0 v U'.heap L ∧ FrameEnd U o U' L ({ frames := 2, cells := 0, slots := 0, locals := 27 } : Room).cells ({ frames := 2, cells := 0, slots := 0, locals := 27 } : Room).slots) := by
  refine MetFree.of_bodySF (plainFor_of_name pn_20) hisR ?_
  intro p e s m args below meth c s₁ Bd hml0 hP hK
  obtain ⟨rfl, hZ, hh⟩ := hP
  have hx := Bd.exec
  have hby := Bd.bytes
  have hml : c.maxLocals = 2 := hml0
  have hown : s.vm.findClass "java/lang/StringUTF16" = some m.cls := findClass_of_methodNamed Bd.named
  have hnm := (name_of_methodNamed Bd.named Bd.method).1
  have X0 : Stand p l e ({ frames := 2, cells := 0, slots := 0, locals := 27 } : Room) s m #[(.int (0 : Int32)), (.ref p1)] below meth c s₁ [] 0 0 := Stand.of_body Bd
  have e0 : s₁.heap = h0 := by rw [← hh, Bd.state]; rfl
  have N0 := Fr.nil n0
  refine own_start ?_
  refine own_via (fun t k => castTop (ef_rmX1_0 m p1) k) ?_
  show own_Go p e below _ (s₁.setTop (mkF m 0 #[oI (0 : Int32), oR p1] []))
  refine own_via (fun t kz => XS.iloadN X0.here hx rfl (hb hby d24_0) rfl kz) ?_
  refine own_via (fun t kz => XS.aloadN X0.here hx rfl (hb hby d24_1) rfl rfl kz) ?_
  show own_Go p e below _ (s₁.setTop (mkF m 2 #[oI (0 : Int32), oR p1] [(.ref p1), (.int (0 : Int32))]))
  obtain ⟨_, _, ⟨T1, L1, k1, n1⟩, -, X1, ⟨Lc1, hQ1, l1, y1, z1⟩, st1⟩ := Jvm.LawKit.callS X0 hx (y := (⟨"java/lang/StringUTF16", "length", "([B)I"⟩ : MethodName)) hown (mvT hZ (own_w hw 104)) (mvT hZ (own_w hw 105)) (mvT hZ (own_w hw 43)) (mvT hZ (own_w hw 106)) (by decide) (backOf (W := 1) (rmU1 l Z a0 hw [] p1 kb b0_ b1_ (1 : Int32) h0 n0 Z0 VB (by unfold fU1; rfl)) hZ (own_w hw 106) (own_w hw 43) (by decide) (by decide)) (g := (mkF m 2 #[oI (0 : Int32), oR p1] [(.ref p1), (.int (0 : Int32))])) rfl (by rw [hml]; rfl) (argsL := [(.ref p1)]) (rest := [(.int (0 : Int32))]) (lenOf pd_24_0 rfl) rfl (by show 2 * 0 + _ ≤ _; exact Nat.le_of_eq rfl) (hb hby d24_2) (fun _ _ => ⟨rfl, e0, (by decide : 0 + 0 ≤ _), (by decide : 0 + 0 ≤ _)⟩)
  dsimp only [Pt.U, Pt.locs, Pt.cells, Pt.slots] at X1 l1 y1 z1 st1 hQ1
  subst l1 y1 z1
  obtain ⟨rfl, Nq1, e1⟩ := hQ1
  have N2 := Fr.app N0 Nq1
  refine own_via st1 ?_
  show own_Go p e below _ (T1.setTop (mkF m 5 #[oI (0 : Int32), oR p1] [(.int (1 : Int32)), (.int (0 : Int32))]))
  obtain ⟨_, _, ⟨T3, L3, k3, n3⟩, -, X3, ⟨Lc3, hQ3, l3, y3, z3⟩, st3⟩ := Jvm.LawKit.callS X1 hx (y := (⟨"java/lang/String", "checkIndex", "(II)V"⟩ : MethodName)) hown (mvT hZ (own_w hw 107)) (mvT hZ (own_w hw 69)) (mvT hZ (own_w hw 6)) (mvT hZ (own_w hw 70)) (by decide) (backOf (W := 0) (rm15 l Z a0 hw [] (0 : Int32) (1 : Int32) wsf h0 n0 Z0 rsf (B_wsf.ext OLD.2) (by decide) (by decide)) hZ (own_w hw 70) (own_w hw 6) (by decide) (by decide)) (g := (mkF m 5 #[oI (0 : Int32), oR p1] [(.int (1 : Int32)), (.int (0 : Int32))])) rfl (by rw [hml]; rfl) (argsL := [(.int (0 : Int32)), (.int (1 : Int32))]) (rest := []) (lenOf pd_24_1 rfl) rfl (by show 2 * 0 + _ ≤ _; exact Nat.le_of_eq rfl) (hb hby d24_5) (fun _ _ => ⟨rfl, e1, (by decide : 0 + 0 ≤ _), (by decide : 0 + 0 ≤ _)⟩)
  dsimp only [Pt.U, Pt.locs, Pt.cells, Pt.slots] at X3 l3 y3 z3 st3 hQ3
  subst l3 y3 z3
  obtain ⟨rfl, Nq3, e3⟩ := hQ3
  have N4 := Fr.app N2 Nq3
  refine own_via st3 ?_
  show own_Go p e below _ (T3.setTop (mkF m 8 #[oI (0 : Int32), oR p1] []))
  obtain ⟨fs, hr, hrun, hended, hW, hsame⟩ := X3.leave (v := none) (fun _ => rfl)
  refine ⟨_, _, X3.returnOut hx Bd.returns (hb hby d24_8) hr, hrun, hended, _, _, rfl, ?_, ⟨_, rfl⟩, hW, hsame.mono (by decide) (by decide)⟩
  show QX1_0 Z p1 kb b0_ b1_ wcs wsf h0 n0 _ T3.heap _
  rw [e3]
  exact ⟨rfl, N4, rfl⟩
def fY1_0 (b0_ : Int32) (b1_ : Int32) : Int32 := ((((b0_ &&& (255 : Int32)) <<< ((0 : Int32) &&& 31)) ||| ((b1_ &&& (255 : Int32)) <<< ((8 : Int32) &&& 31))).toUInt32.toUInt16.toUInt32.toInt32)
theorem d23_0 : decode jdk_52_method_83_code 0 = .ok (.iload_n 1, 1) := by decide +kernel
theorem d23_1 : decode jdk_52_method_83_code 1 = .ok (.aload_n 0, 1) := by decide +kernel
theorem d23_2 : decode jdk_52_method_83_code 2 = .ok (.invokestatic 67, 3) := by decide +kernel
theorem d23_5 : decode jdk_52_method_83_code 5 = .ok (.aload_n 0, 1) := by decide +kernel
theorem d23_6 : decode jdk_52_method_83_code 6 = .ok (.iload_n 1, 1) := by decide +kernel
theorem d23_7 : decode jdk_52_method_83_code 7 = .ok (.invokestatic 71, 3) := by decide +kernel
theorem d23_10 : decode jdk_52_method_83_code 10 = .ok (.ireturn, 1) := by decide +kernel
theorem pd_23_0 : parseMethodDescriptor "(I[B)V" = some ⟨[.int, (.array .byte)], none⟩ := by decide +kernel
theorem pd_23_1 : parseMethodDescriptor "([BI)C" = some ⟨[(.array .byte), .int], some .char⟩ := by decide +kernel
theorem ef_rmY1_0 (m : MethodId) (q0 : Addr) : entryFrame m #[(.ref q0), (.int (0 : Int32))] 2 = mkF m 0 #[oR q0, oI (0 : Int32)] [] := by first | (simp [entryFrame, mkF, argsToLocals, Value.category]; done) | rfl
def QY1_0 (Z : State) (p0 : Addr) (wcs : Int32) (wsf : Value) (ka : ClassId) (b0_ : Int32) (b1_ : Int32) (r : Int32) (h0 : Heap) (n0 : Nat) (v : Option Value) (h : Heap) (L : List Loc) : Prop := v = some (.int r) ∧ Fr n0 L ∧ h = h0
set_option maxRecDepth 65536 in
set_option maxHeartbeats 40000000 in
theorem rmY1_0 (l : Launch) (Z : State) (a0 : Array Value) (hw : ∀ d ∈ tables_1, d.before a0 Z = true) (ws : List Jvm.Cond) (p0 : Addr) (wcs : Int32) (wsf : Value) (ka : ClassId) (b0_ : Int32) (b1_ : Int32) (r : Int32) (h0 : Heap) (n0 : Nat) (Z0 : n0 ≤ h0.size) (OLD : Old Z n0 h0) (hcs : ¬ (wcs = (0 : Int32))) (rsf : wsf.isRef = true) (B_wcs : Sta Z Z.heap "java/lang/String" "COMPACT_STRINGS" "Z" (.int wcs)) (B_wsf : Sta Z Z.heap "jdk/internal/util/Preconditions" "SIOOBE_FORMATTER" "Ljava/util/function/BiFunction;" wsf) (B_wad : Sta Z Z.heap "java/lang/StringUTF16" "$assertionsDisabled" "Z" (.int (1 : Int32))) (B_whi : Sta Z Z.heap "java/lang/StringUTF16" "HI_BYTE_SHIFT" "I" (.int (0 : Int32))) (B_wlo : Sta Z Z.heap "java/lang/StringUTF16" "LO_BYTE_SHIFT" "I" (.int (8 : Int32))) (V_p0 : Arv Z h0 p0 ka .byte (2 : Int32) [(.int b0_), (.int b1_)] (.int (0 : Int32))) (hr0 : (fY1_0 b0_ b1_) = r) :
    MetFree l (⟨"java/lang/StringUTF16", "charAt", "([BI)C"⟩ : MethodName) (head1 (Jvm.Cond.code (⟨"java/lang/StringUTF16", "charAt", "([BI)C"⟩ : MethodName) jdk_52_method_83_code 2 (some .char) :: ws) ({ frames := 3, cells := 0, slots := 0, locals := 40 } : Room)) (fun a U => a = #[(.ref p0), (.int (0 : Int32))] ∧ Z.Warmed39 U.vm ∧ U.heap = h0) (fun _ _ _ _ _ => True) (fun _ U o U' => ∃ v L, o = .returned v ∧ QY1_0 Z p0 wcs wsf ka b0_ b1_ r h0 n0 v U'.heap L ∧ FrameEnd U o U' L ({ frames := 3, cells := 0, slots := 0, locals := 40 } : Room).cells ({ frames := 3, cells := 0, slots := 0, locals := 40 } : Room).slots) := by
  refine MetFree.of_bodySF (plainFor_of_name pn_20) hisR ?_
  intro p e s m args below meth c s₁ Bd hml0 hP hK
  obtain ⟨rfl, hZ, hh⟩ := hP
  have hx := Bd.exec
  have hby := Bd.bytes
  have hml : c.maxLocals = 2 := hml0
  have hown : s.vm.findClass "java/lang/StringUTF16" = some m.cls := findClass_of_methodNamed Bd.named
  have hnm := (name_of_methodNamed Bd.named Bd.method).1
  have X0 : Stand p l e ({ frames := 3, cells := 0, slots := 0, locals := 40 } : Room) s m #[(.ref p0), (.int (0 : Int32))] below meth c s₁ [] 0 0 := Stand.of_body Bd
  have e0 : s₁.heap = h0 := by rw [← hh, Bd.state]; rfl
  have N0 := Fr.nil n0
  refine own_start ?_
  refine own_via (fun t k => castTop (ef_rmY1_0 m p0) k) ?_
  show own_Go p e below _ (s₁.setTop (mkF m 0 #[oR p0, oI (0 : Int32)] []))
  refine own_via (fun t kz => XS.iloadN X0.here hx rfl (hb hby d23_0) rfl kz) ?_
  refine own_via (fun t kz => XS.aloadN X0.here hx rfl (hb hby d23_1) rfl rfl kz) ?_
  show own_Go p e below _ (s₁.setTop (mkF m 2 #[oR p0, oI (0 : Int32)] [(.ref p0), (.int (0 : Int32))]))
  obtain ⟨_, _, ⟨T1, L1, k1, n1⟩, -, X1, ⟨Lc1, hQ1, l1, y1, z1⟩, st1⟩ := Jvm.LawKit.callS X0 hx (y := (⟨"java/lang/StringUTF16", "checkIndex", "(I[B)V"⟩ : MethodName)) hown (mvT hZ (own_w hw 101)) (mvT hZ (own_w hw 102)) (mvT hZ (own_w hw 43)) (mvT hZ (own_w hw 103)) (by decide) (backOf (W := 0) (rmX1_0 l Z a0 hw [] p0 ka b0_ b1_ wcs wsf h0 n0 Z0 V_p0 OLD hcs rsf B_wcs B_wsf B_wad B_whi B_wlo) hZ (own_w hw 103) (own_w hw 43) (by decide) (by decide)) (g := (mkF m 2 #[oR p0, oI (0 : Int32)] [(.ref p0), (.int (0 : Int32))])) rfl (by rw [hml]; rfl) (argsL := [(.int (0 : Int32)), (.ref p0)]) (rest := []) (lenOf pd_23_0 rfl) rfl (by show 2 * 0 + _ ≤ _; exact Nat.le_of_eq rfl) (hb hby d23_2) (fun _ _ => ⟨rfl, e0, (by decide : 0 + 0 ≤ _), (by decide : 0 + 0 ≤ _)⟩)
  dsimp only [Pt.U, Pt.locs, Pt.cells, Pt.slots] at X1 l1 y1 z1 st1 hQ1
  subst l1 y1 z1
  obtain ⟨rfl, Nq1, e1⟩ := hQ1
  have N2 := Fr.app N0 Nq1
  refine own_via st1 ?_
  refine own_via (fun t kz => XS.aloadN X1.here hx rfl (hb hby d23_5) rfl rfl kz) ?_
  refine own_via (fun t kz => XS.iloadN X1.here hx rfl (hb hby d23_6) rfl kz) ?_
  show own_Go p e below _ (T1.setTop (mkF m 7 #[oR p0, oI (0 : Int32)] [(.int (0 : Int32)), (.ref p0)]))
  obtain ⟨_, _, ⟨T3, L3, k3, n3⟩, -, X3, ⟨Lc3, hQ3, l3, y3, z3⟩, st3⟩ := Jvm.LawKit.callS X1 hx (y := (⟨"java/lang/StringUTF16", "getChar", "([BI)C"⟩ : MethodName)) hown (mvT hZ (own_w hw 95)) (mvT hZ (own_w hw 96)) (mvT hZ (own_w hw 43)) (mvT hZ (own_w hw 97)) (by decide) (backOf (W := 0) (rmG1_0 l Z a0 hw [] p0 (1 : Int32) (0 : Int32) (8 : Int32) ka b0_ b1_ ((((b0_ &&& (255 : Int32)) <<< ((0 : Int32) &&& 31)) ||| ((b1_ &&& (255 : Int32)) <<< ((8 : Int32) &&& 31))).toUInt32.toUInt16.toUInt32.toInt32) h0 n0 Z0 rfl (B_wad.ext OLD.2) (B_whi.ext OLD.2) (B_wlo.ext OLD.2) V_p0 (by unfold fG1_0; rfl)) hZ (own_w hw 97) (own_w hw 43) (by decide) (by decide)) (g := (mkF m 7 #[oR p0, oI (0 : Int32)] [(.int (0 : Int32)), (.ref p0)])) rfl (by rw [hml]; rfl) (argsL := [(.ref p0), (.int (0 : Int32))]) (rest := []) (lenOf pd_23_1 rfl) rfl (by show 2 * 0 + _ ≤ _; exact Nat.le_of_eq rfl) (hb hby d23_7) (fun _ _ => ⟨rfl, e1, (by decide : 0 + 0 ≤ _), (by decide : 0 + 0 ≤ _)⟩)
  dsimp only [Pt.U, Pt.locs, Pt.cells, Pt.slots] at X3 l3 y3 z3 st3 hQ3
  subst l3 y3 z3
  obtain ⟨rfl, Nq3, e3⟩ := hQ3
  have N4 := Fr.app N2 Nq3
  refine own_via st3 ?_
  show own_Go p e below _ (T3.setTop (mkF m 10 #[oR p0, oI (0 : Int32)] [(.int ((((b0_ &&& (255 : Int32)) <<< ((0 : Int32) &&& 31)) ||| ((b1_ &&& (255 : Int32)) <<< ((8 : Int32) &&& 31))).toUInt32.toUInt16.toUInt32.toInt32))]))
  have hv : (fY1_0 b0_ b1_) = ((((b0_ &&& (255 : Int32)) <<< ((0 : Int32) &&& 31)) ||| ((b1_ &&& (255 : Int32)) <<< ((8 : Int32) &&& 31))).toUInt32.toUInt16.toUInt32.toInt32) := by unfold fY1_0; rfl
  obtain ⟨fs, hr, hrun, hended, hW, hsame⟩ := X3.leave (v := some (.int ((((b0_ &&& (255 : Int32)) <<< ((0 : Int32) &&& 31)) ||| ((b1_ &&& (255 : Int32)) <<< ((8 : Int32) &&& 31))).toUInt32.toUInt16.toUInt32.toInt32))) (fun h => by rw [Bd.returns] at h; cases h)
  refine ⟨_, _, retOut X3 hx (i := .ireturn) Bd.returns (narrow_c _) (Or.inl ⟨rfl, by simp, _, rfl⟩) (hb hby d23_10) hr, hrun, hended, _, _, rfl, ?_, ⟨_, rfl⟩, hW, hsame.mono (by decide) (by decide)⟩
  show QY1_0 Z p0 wcs wsf ka b0_ b1_ r h0 n0 _ T3.heap _
  rw [e3]
  exact ⟨by rw [← hr0, hv], N4, rfl⟩
theorem d12_0 : decode jdk_42_method_56_code 0 = .ok (.aload_n 0, 1) := by decide +kernel
theorem d12_1 : decode jdk_42_method_56_code 1 = .ok (.invokevirtual 492, 3) := by decide +kernel
theorem d12_4 : decode jdk_42_method_56_code 4 = .ok (.ifCond .eq 12, 3) := by decide +kernel
theorem d12_7 : decode jdk_42_method_56_code 7 = .ok (.aload_n 0, 1) := by decide +kernel
theorem d12_8 : decode jdk_42_method_56_code 8 = .ok (.getfield 9, 3) := by decide +kernel
theorem d12_11 : decode jdk_42_method_56_code 11 = .ok (.iload_n 1, 1) := by decide +kernel
theorem d12_12 : decode jdk_42_method_56_code 12 = .ok (.invokestatic 495, 3) := by decide +kernel
theorem d12_15 : decode jdk_42_method_56_code 15 = .ok (.ireturn, 1) := by decide +kernel
theorem d12_16 : decode jdk_42_method_56_code 16 = .ok (.aload_n 0, 1) := by decide +kernel
theorem d12_17 : decode jdk_42_method_56_code 17 = .ok (.getfield 9, 3) := by decide +kernel
theorem d12_20 : decode jdk_42_method_56_code 20 = .ok (.iload_n 1, 1) := by decide +kernel
theorem d12_21 : decode jdk_42_method_56_code 21 = .ok (.invokestatic 498, 3) := by decide +kernel
theorem d12_24 : decode jdk_42_method_56_code 24 = .ok (.ireturn, 1) := by decide +kernel
theorem pd_12_0 : parseMethodDescriptor "()Z" = some ⟨[], some .boolean⟩ := by decide +kernel
theorem pd_12_1 : parseMethodDescriptor "([BI)C" = some ⟨[(.array .byte), .int], some .char⟩ := by decide +kernel
theorem ef_rmA1_0 (m : MethodId) (q0 : Addr) : entryFrame m #[(.ref q0), (.int (0 : Int32))] 2 = mkF m 0 #[oR q0, oI (0 : Int32)] [] := by first | (simp [entryFrame, mkF, argsToLocals, Value.category]; done) | rfl
def QA1_0 (Z : State) (this : Addr) (c0_ : Int32) (wcs : Int32) (wsf : Value) (h0 : Heap) (n0 : Nat) (v : Option Value) (h : Heap) (L : List Loc) : Prop := v = some (.int c0_) ∧ Fr n0 L ∧ h = h0
set_option maxRecDepth 65536 in
set_option maxHeartbeats 40000000 in
theorem rmA1_0 (l : Launch) (Z : State) (a0 : Array Value) (hw : ∀ d ∈ tables_1, d.before a0 Z = true) (ws : List Jvm.Cond) (this : Addr) (c0_ : Int32) (wcs : Int32) (wsf : Value) (h0 : Heap) (n0 : Nat) (Z0 : n0 ≤ h0.size) (SR : own_Str1 Z h0 n0 this c0_) (hc0 : own_ch c0_) (OLD : Old Z n0 h0) (hcs : ¬ (wcs = (0 : Int32))) (rsf : wsf.isRef = true) (B_wcs : Sta Z Z.heap "java/lang/String" "COMPACT_STRINGS" "Z" (.int wcs)) (B_wsf : Sta Z Z.heap "jdk/internal/util/Preconditions" "SIOOBE_FORMATTER" "Ljava/util/function/BiFunction;" wsf) (B_wad : Sta Z Z.heap "java/lang/StringUTF16" "$assertionsDisabled" "Z" (.int (1 : Int32))) (B_whi : Sta Z Z.heap "java/lang/StringUTF16" "HI_BYTE_SHIFT" "I" (.int (0 : Int32))) (B_wlo : Sta Z Z.heap "java/lang/StringUTF16" "LO_BYTE_SHIFT" "I" (.int (8 : Int32))) :
    MetFree l (⟨"java/lang/String", "charAt", "(I)C"⟩ : MethodName) (head1 (Jvm.Cond.code (⟨"java/lang/String", "charAt", "(I)C"⟩ : MethodName) jdk_42_method_56_code 2 (some .char) :: ws) ({ frames := 4, cells := 0, slots := 0, locals := 53 } : Room)) (fun a U => a = #[(.ref this), (.int (0 : Int32))] ∧ Z.Warmed39 U.vm ∧ U.heap = h0) (fun _ _ _ _ _ => True) (fun _ U o U' => ∃ v L, o = .returned v ∧ QA1_0 Z this c0_ wcs wsf h0 n0 v U'.heap L ∧ FrameEnd U o U' L ({ frames := 4, cells := 0, slots := 0, locals := 53 } : Room).cells ({ frames := 4, cells := 0, slots := 0, locals := 53 } : Room).slots) := by
  refine MetFree.of_bodySF (plainFor_of_name pn_15) hisR ?_
  intro p e s m args below meth c s₁ Bd hml0 hP hK
  obtain ⟨rfl, hZ, hh⟩ := hP
  have hx := Bd.exec
  have hby := Bd.bytes
  have hml : c.maxLocals = 2 := hml0
  have hown : s.vm.findClass "java/lang/String" = some m.cls := findClass_of_methodNamed Bd.named
  have hnm := (name_of_methodNamed Bd.named Bd.method).1
  have X0 : Stand p l e ({ frames := 4, cells := 0, slots := 0, locals := 53 } : Room) s m #[(.ref this), (.int (0 : Int32))] below meth c s₁ [] 0 0 := Stand.of_body Bd
  have e0 : s₁.heap = h0 := by rw [← hh, Bd.state]; rfl
  have N0 := Fr.nil n0
  refine own_start ?_
  refine own_via (fun t k => castTop (ef_rmA1_0 m this) k) ?_
  obtain ⟨arr, kb, ⟨ch0, ch1⟩, Eq, Fv, Rp⟩ := SR
  rcases Rp with ⟨hl, Fc, Va⟩ | ⟨Fc, Va⟩
  · show own_Go p e below _ (s₁.setTop (mkF m 0 #[oR this, oI (0 : Int32)] []))
    refine own_via (fun t kz => XS.aloadN X0.here hx rfl (hb hby d12_0) rfl rfl kz) ?_
    show own_Go p e below _ (s₁.setTop (mkF m 1 #[oR this, oI (0 : Int32)] [(.ref this)]))
    obtain ⟨cq1, kq1, qa1, qb1, qc1⟩ := isOf hZ e0 Eq
    obtain ⟨_, _, ⟨T1, L1, k1, n1⟩, -, X1, ⟨Lc1, hQ1, l1, y1, z1⟩, st1⟩ := X0.virtualBack hx (y := (⟨"java/lang/String", "isLatin1", "()Z"⟩ : MethodName)) (z := (⟨"java/lang/String", "isLatin1", "()Z"⟩ : MethodName)) hown (mvT hZ (own_w hw 59)) (mvT hZ (own_w hw 60)) (notFace_of_selects (args := #[]) (mvT hZ (own_w hw 62))) (mvT hZ (own_w hw 62)) (mvT hZ (own_w hw 61)) (by decide) (backOf (W := 0) (rm13 l Z a0 hw [] this (0 : Int32) wcs (1 : Int32) h0 n0 Z0 hcs Fc (B_wcs.ext OLD.2) (by unfold f13; rw [if_pos (by decide : (0 : Int32) = (0 : Int32))])) hZ (own_w hw 63) (own_w hw 6) (by decide) (by decide)) qa1 qc1 (g := (mkF m 1 #[oR this, oI (0 : Int32)] [(.ref this)])) rfl (by rw [hml]; rfl) (Steps.refl _) (argsL := []) (rest := []) (lenOf pd_12_0 rfl) rfl (by show 2 * 0 + _ ≤ _; exact Nat.le_of_eq rfl) (hb hby d12_1) (fun _ _ => ⟨rfl, e0, (by decide : 0 + 0 ≤ _), (by decide : 0 + 0 ≤ _)⟩)
    dsimp only [Pt.U, Pt.locs, Pt.cells, Pt.slots] at X1 l1 y1 z1 st1 hQ1
    subst l1 y1 z1
    obtain ⟨rfl, Nq1, e1⟩ := hQ1
    have N2 := Fr.app N0 Nq1
    refine own_tr st1 ?_
    show own_Go p e below _ (T1.setTop (mkF m 4 #[oR this, oI (0 : Int32)] [(.int (1 : Int32))]))
    refine own_via (fun t kz => XS.ifNo X1.here hx rfl (hb hby d12_4) rfl ((if0 _ _).trans (feq (by decide : ¬ ((1 : Int32) = (0 : Int32)))).1) kz) ?_
    refine own_via (fun t kz => XS.aloadN X1.here hx rfl (hb hby d12_7) rfl rfl kz) ?_
    show own_Go p e below _ (T1.setTop (mkF m 8 #[oR this, oI (0 : Int32)] [(.ref this)]))
    obtain ⟨T3, X3, e3, st3⟩ := getF X1 hx hZ hown (host := "") (Or.inl (own_w hw 24)) Via.refl e1 Fv (g := (mkF m 8 #[oR this, oI (0 : Int32)] [(.ref this)])) rfl rfl (hb hby d12_8)
    refine own_via st3 ?_
    refine own_via (fun t kz => XS.iloadN X3.here hx rfl (hb hby d12_11) rfl kz) ?_
    show own_Go p e below _ (T3.setTop (mkF m 12 #[oR this, oI (0 : Int32)] [(.int (0 : Int32)), (.ref arr)]))
    obtain ⟨_, _, ⟨T4, L4, k4, n4⟩, -, X4, ⟨Lc4, hQ4, l4, y4, z4⟩, st4⟩ := Jvm.LawKit.callS X3 hx (y := (⟨"java/lang/StringLatin1", "charAt", "([BI)C"⟩ : MethodName)) hown (mvT hZ (own_w hw 64)) (mvT hZ (own_w hw 65)) (mvT hZ (own_w hw 66)) (mvT hZ (own_w hw 67)) (by decide) (backOf (W := 0) (rmH1_0 l Z a0 hw [] arr wcs wsf kb (c0_.toInt8.toInt32) c0_ h0 n0 Z0 OLD hcs rsf B_wcs B_wsf B_wad B_whi B_wlo Va (by unfold fH1_0; exact own_lat hc0 hl)) hZ (own_w hw 67) (own_w hw 66) (by decide) (by decide)) (g := (mkF m 12 #[oR this, oI (0 : Int32)] [(.int (0 : Int32)), (.ref arr)])) rfl (by rw [hml]; rfl) (argsL := [(.ref arr), (.int (0 : Int32))]) (rest := []) (lenOf pd_12_1 rfl) rfl (by show 2 * 0 + _ ≤ _; exact Nat.le_of_eq rfl) (hb hby d12_12) (fun _ _ => ⟨rfl, e3, (by decide : 0 + 0 ≤ _), (by decide : 0 + 0 ≤ _)⟩)
    dsimp only [Pt.U, Pt.locs, Pt.cells, Pt.slots] at X4 l4 y4 z4 st4 hQ4
    subst l4 y4 z4
    obtain ⟨rfl, Nq4, e4⟩ := hQ4
    have N5 := Fr.app N2 Nq4
    refine own_via st4 ?_
    show own_Go p e below _ (T4.setTop (mkF m 15 #[oR this, oI (0 : Int32)] [(.int c0_)]))
    obtain ⟨fs, hr, hrun, hended, hW, hsame⟩ := X4.leave (v := some (.int c0_)) (fun h => by rw [Bd.returns] at h; cases h)
    refine ⟨_, _, retOut X4 hx (i := .ireturn) Bd.returns (own_nch hc0) (Or.inl ⟨rfl, by simp, _, rfl⟩) (hb hby d12_15) hr, hrun, hended, _, _, rfl, ?_, ⟨_, rfl⟩, hW, hsame.mono (by decide) (by decide)⟩
    show QA1_0 Z this c0_ wcs wsf h0 n0 _ T4.heap _
    rw [e4]
    exact ⟨rfl, N5, rfl⟩
  · show own_Go p e below _ (s₁.setTop (mkF m 0 #[oR this, oI (0 : Int32)] []))
    refine own_via (fun t kz => XS.aloadN X0.here hx rfl (hb hby d12_0) rfl rfl kz) ?_
    show own_Go p e below _ (s₁.setTop (mkF m 1 #[oR this, oI (0 : Int32)] [(.ref this)]))
    obtain ⟨cq7, kq7, qa7, qb7, qc7⟩ := isOf hZ e0 Eq
    obtain ⟨_, _, ⟨T7, L7, k7, n7⟩, -, X7, ⟨Lc7, hQ7, l7, y7, z7⟩, st7⟩ := X0.virtualBack hx (y := (⟨"java/lang/String", "isLatin1", "()Z"⟩ : MethodName)) (z := (⟨"java/lang/String", "isLatin1", "()Z"⟩ : MethodName)) hown (mvT hZ (own_w hw 59)) (mvT hZ (own_w hw 60)) (notFace_of_selects (args := #[]) (mvT hZ (own_w hw 62))) (mvT hZ (own_w hw 62)) (mvT hZ (own_w hw 61)) (by decide) (backOf (W := 0) (rm13 l Z a0 hw [] this (1 : Int32) wcs (0 : Int32) h0 n0 Z0 hcs Fc (B_wcs.ext OLD.2) (by unfold f13; rw [if_neg (by decide : ¬ ((1 : Int32) = (0 : Int32)))])) hZ (own_w hw 63) (own_w hw 6) (by decide) (by decide)) qa7 qc7 (g := (mkF m 1 #[oR this, oI (0 : Int32)] [(.ref this)])) rfl (by rw [hml]; rfl) (Steps.refl _) (argsL := []) (rest := []) (lenOf pd_12_0 rfl) rfl (by show 2 * 0 + _ ≤ _; exact Nat.le_of_eq rfl) (hb hby d12_1) (fun _ _ => ⟨rfl, e0, (by decide : 0 + 0 ≤ _), (by decide : 0 + 0 ≤ _)⟩)
    dsimp only [Pt.U, Pt.locs, Pt.cells, Pt.slots] at X7 l7 y7 z7 st7 hQ7
    subst l7 y7 z7
    obtain ⟨rfl, Nq7, e7⟩ := hQ7
    have N8 := Fr.app N0 Nq7
    refine own_tr st7 ?_
    show own_Go p e below _ (T7.setTop (mkF m 4 #[oR this, oI (0 : Int32)] [(.int (0 : Int32))]))
    refine own_via (fun t kz => XS.ifYes X7.here hx rfl (pc0 := 4) (pc' := 16) rfl (hb hby d12_4) rfl ((if0 _ _).trans (teq (by decide : (0 : Int32) = (0 : Int32))).1) (by decide) (by decide) kz) ?_
    refine own_via (fun t kz => XS.aloadN X7.here hx rfl (hb hby d12_16) rfl rfl kz) ?_
    show own_Go p e below _ (T7.setTop (mkF m 17 #[oR this, oI (0 : Int32)] [(.ref this)]))
    obtain ⟨T9, X9, e9, st9⟩ := getF X7 hx hZ hown (host := "") (Or.inl (own_w hw 24)) Via.refl e7 Fv (g := (mkF m 17 #[oR this, oI (0 : Int32)] [(.ref this)])) rfl rfl (hb hby d12_17)
    refine own_via st9 ?_
    refine own_via (fun t kz => XS.iloadN X9.here hx rfl (hb hby d12_20) rfl kz) ?_
    show own_Go p e below _ (T9.setTop (mkF m 21 #[oR this, oI (0 : Int32)] [(.int (0 : Int32)), (.ref arr)]))
    obtain ⟨_, _, ⟨T10, L10, k10, n10⟩, -, X10, ⟨Lc10, hQ10, l10, y10, z10⟩, st10⟩ := Jvm.LawKit.callS X9 hx (y := (⟨"java/lang/StringUTF16", "charAt", "([BI)C"⟩ : MethodName)) hown (mvT hZ (own_w hw 98)) (mvT hZ (own_w hw 99)) (mvT hZ (own_w hw 43)) (mvT hZ (own_w hw 100)) (by decide) (backOf (W := 0) (rmY1_0 l Z a0 hw [] arr wcs wsf kb ((c0_ >>> ((0 : Int32) &&& 31)).toInt8.toInt32) ((c0_ >>> ((8 : Int32) &&& 31)).toInt8.toInt32) c0_ h0 n0 Z0 OLD hcs rsf B_wcs B_wsf B_wad B_whi B_wlo Va (by unfold fY1_0; exact own_utf hc0)) hZ (own_w hw 100) (own_w hw 43) (by decide) (by decide)) (g := (mkF m 21 #[oR this, oI (0 : Int32)] [(.int (0 : Int32)), (.ref arr)])) rfl (by rw [hml]; rfl) (argsL := [(.ref arr), (.int (0 : Int32))]) (rest := []) (lenOf pd_12_1 rfl) rfl (by show 2 * 0 + _ ≤ _; exact Nat.le_of_eq rfl) (hb hby d12_21) (fun _ _ => ⟨rfl, e9, (by decide : 0 + 0 ≤ _), (by decide : 0 + 0 ≤ _)⟩)
    dsimp only [Pt.U, Pt.locs, Pt.cells, Pt.slots] at X10 l10 y10 z10 st10 hQ10
    subst l10 y10 z10
    obtain ⟨rfl, Nq10, e10⟩ := hQ10
    have N11 := Fr.app N8 Nq10
    refine own_via st10 ?_
    show own_Go p e below _ (T10.setTop (mkF m 24 #[oR this, oI (0 : Int32)] [(.int c0_)]))
    obtain ⟨fs, hr, hrun, hended, hW, hsame⟩ := X10.leave (v := some (.int c0_)) (fun h => by rw [Bd.returns] at h; cases h)
    refine ⟨_, _, retOut X10 hx (i := .ireturn) Bd.returns (own_nch hc0) (Or.inl ⟨rfl, by simp, _, rfl⟩) (hb hby d12_24) hr, hrun, hended, _, _, rfl, ?_, ⟨_, rfl⟩, hW, hsame.mono (by decide) (by decide)⟩
    show QA1_0 Z this c0_ wcs wsf h0 n0 _ T10.heap _
    rw [e10]
    exact ⟨rfl, N11, rfl⟩
def own_cnt2 (c0_ c1_ : Int32) : Int32 := if (255 : Int32) < c0_ then (0 : Int32) else if (255 : Int32) < c1_ then (1 : Int32) else (2 : Int32)
def fC2_2  : Int32 := (((((2 : Int32) - (2 : Int32)).toUInt32 >>> ((31 : Int32) &&& 31).toUInt32).toInt32).toInt8.toInt32)
theorem ef_rmC2_2 (m : MethodId) (q0 : Addr) : entryFrame m #[(.ref q0), (.int (2 : Int32))] 2 = mkF m 0 #[oR q0, oI (2 : Int32)] [] := by first | (simp [entryFrame, mkF, argsToLocals, Value.category]; done) | rfl
def QC2_2 (Z : State) (p0 : Addr) (ka : ClassId) (b0_ : Int32) (b1_ : Int32) (r : Int32) (h0 : Heap) (n0 : Nat) (v : Option Value) (h : Heap) (L : List Loc) : Prop := v = some (.int r) ∧ Fr n0 L ∧ h = h0
set_option maxRecDepth 65536 in
set_option maxHeartbeats 40000000 in
theorem rmC2_2 (l : Launch) (Z : State) (a0 : Array Value) (hw : ∀ d ∈ tables_1, d.before a0 Z = true) (ws : List Jvm.Cond) (p0 : Addr) (ka : ClassId) (b0_ : Int32) (b1_ : Int32) (r : Int32) (h0 : Heap) (n0 : Nat) (Z0 : n0 ≤ h0.size) (V_p0 : Arv Z h0 p0 ka .byte (2 : Int32) [(.int b0_), (.int b1_)] (.int (0 : Int32))) (hr0 : fC2_2 = r) :
    MetFree l (⟨"java/lang/StringUTF16", "coderFromArrayLen", "([BI)B"⟩ : MethodName) (head1 (Jvm.Cond.code (⟨"java/lang/StringUTF16", "coderFromArrayLen", "([BI)B"⟩ : MethodName) jdk_52_method_15_code 2 (some .byte) :: ws) ({ frames := 0, cells := 0, slots := 0, locals := 0 } : Room)) (fun a U => a = #[(.ref p0), (.int (2 : Int32))] ∧ Z.Warmed39 U.vm ∧ U.heap = h0) (fun _ _ _ _ _ => True) (fun _ U o U' => ∃ v L, o = .returned v ∧ QC2_2 Z p0 ka b0_ b1_ r h0 n0 v U'.heap L ∧ FrameEnd U o U' L ({ frames := 0, cells := 0, slots := 0, locals := 0 } : Room).cells ({ frames := 0, cells := 0, slots := 0, locals := 0 } : Room).slots) := by
  refine MetFree.of_bodySF (plainFor_of_name pn_20) hisR ?_
  intro p e s m args below meth c s₁ Bd hml0 hP hK
  obtain ⟨rfl, hZ, hh⟩ := hP
  have hx := Bd.exec
  have hby := Bd.bytes
  have hml : c.maxLocals = 2 := hml0
  have hown : s.vm.findClass "java/lang/StringUTF16" = some m.cls := findClass_of_methodNamed Bd.named
  have hnm := (name_of_methodNamed Bd.named Bd.method).1
  have X0 : Stand p l e ({ frames := 0, cells := 0, slots := 0, locals := 0 } : Room) s m #[(.ref p0), (.int (2 : Int32))] below meth c s₁ [] 0 0 := Stand.of_body Bd
  have e0 : s₁.heap = h0 := by rw [← hh, Bd.state]; rfl
  have N0 := Fr.nil n0
  refine own_start ?_
  refine own_via (fun t k => castTop (ef_rmC2_2 m p0) k) ?_
  show own_Go p e below _ (s₁.setTop (mkF m 0 #[oR p0, oI (2 : Int32)] []))
  refine own_via (fun t kz => XS.iloadN X0.here hx rfl (hb hby d10_0) rfl kz) ?_
  refine own_via (fun t kz => XS.aloadN X0.here hx rfl (hb hby d10_1) rfl rfl kz) ?_
  show own_Go p e below _ (s₁.setTop (mkF m 2 #[oR p0, oI (2 : Int32)] [(.ref p0), (.int (2 : Int32))]))
  obtain ⟨cl1, Ar1, kc1, Sz1, Nn1, Hs1, Gs1⟩ := id V_p0
  refine own_via (fun t kz => X0.arraylength hx (by rw [e0]; exact Ar1.1) (State.isArrayOf_alike hZ.alike Ar1.2.1) (g := (mkF m 2 #[oR p0, oI (2 : Int32)] [(.ref p0), (.int (2 : Int32))])) rfl rfl (hb hby d10_2) t kz) ?_
  show own_Go p e below _ (s₁.setTop (mkF m 3 #[oR p0, oI (2 : Int32)] [(.int (cl1.slots.size.toInt32)), (.int (2 : Int32))]))
  rw [len_of Sz1 Nn1]
  show own_Go p e below _ (s₁.setTop (mkF m 3 #[oR p0, oI (2 : Int32)] [(.int (2 : Int32)), (.int (2 : Int32))]))
  refine own_via (fun t kz => XS.isub X0.here hx rfl (hb hby d10_3) rfl kz) ?_
  refine own_via (fun t kz => XS.bipush X0.here hx rfl (hb hby d10_4) kz) ?_
  show own_Go p e below _ (s₁.setTop (mkF m 6 #[oR p0, oI (2 : Int32)] [(.int (31 : Int32)), (.int ((2 : Int32) - (2 : Int32)))]))
  refine own_via (fun t kz => XS.iushr X0.here hx rfl (hb hby d10_6) rfl kz) ?_
  show own_Go p e below _ (s₁.setTop (mkF m 7 #[oR p0, oI (2 : Int32)] [(.int ((((2 : Int32) - (2 : Int32)).toUInt32 >>> ((31 : Int32) &&& 31).toUInt32).toInt32))]))
  refine own_via (fun t kz => XS.i2b X0.here hx rfl (hb hby d10_7) rfl kz) ?_
  show own_Go p e below _ (s₁.setTop (mkF m 8 #[oR p0, oI (2 : Int32)] [(.int (((((2 : Int32) - (2 : Int32)).toUInt32 >>> ((31 : Int32) &&& 31).toUInt32).toInt32).toInt8.toInt32))]))
  have hv : fC2_2 = (((((2 : Int32) - (2 : Int32)).toUInt32 >>> ((31 : Int32) &&& 31).toUInt32).toInt32).toInt8.toInt32) := by unfold fC2_2; rfl
  obtain ⟨fs, hr, hrun, hended, hW, hsame⟩ := X0.leave (v := some (.int (((((2 : Int32) - (2 : Int32)).toUInt32 >>> ((31 : Int32) &&& 31).toUInt32).toInt32).toInt8.toInt32))) (fun h => by rw [Bd.returns] at h; cases h)
  refine ⟨_, _, retOut X0 hx (i := .ireturn) Bd.returns (by decide) (Or.inl ⟨rfl, by simp, _, rfl⟩) (hb hby d10_8) hr, hrun, hended, _, _, rfl, ?_, ⟨_, rfl⟩, hW, hsame.mono (by decide) (by decide)⟩
  show QC2_2 Z p0 ka b0_ b1_ r h0 n0 _ s₁.heap _
  rw [e0]
  exact ⟨by rw [← hr0, hv], N0, rfl⟩
def fC2_4  : Int32 := (((((2 : Int32) - (4 : Int32)).toUInt32 >>> ((31 : Int32) &&& 31).toUInt32).toInt32).toInt8.toInt32)
theorem ef_rmC2_4 (m : MethodId) (q0 : Addr) : entryFrame m #[(.ref q0), (.int (2 : Int32))] 2 = mkF m 0 #[oR q0, oI (2 : Int32)] [] := by first | (simp [entryFrame, mkF, argsToLocals, Value.category]; done) | rfl
def QC2_4 (Z : State) (p0 : Addr) (ka : ClassId) (b0_ : Int32) (b1_ : Int32) (b2_ : Int32) (b3_ : Int32) (r : Int32) (h0 : Heap) (n0 : Nat) (v : Option Value) (h : Heap) (L : List Loc) : Prop := v = some (.int r) ∧ Fr n0 L ∧ h = h0
set_option maxRecDepth 65536 in
set_option maxHeartbeats 40000000 in
theorem rmC2_4 (l : Launch) (Z : State) (a0 : Array Value) (hw : ∀ d ∈ tables_1, d.before a0 Z = true) (ws : List Jvm.Cond) (p0 : Addr) (ka : ClassId) (b0_ : Int32) (b1_ : Int32) (b2_ : Int32) (b3_ : Int32) (r : Int32) (h0 : Heap) (n0 : Nat) (Z0 : n0 ≤ h0.size) (V_p0 : Arv Z h0 p0 ka .byte (4 : Int32) [(.int b0_), (.int b1_), (.int b2_), (.int b3_)] (.int (0 : Int32))) (hr0 : fC2_4 = r) :
    MetFree l (⟨"java/lang/StringUTF16", "coderFromArrayLen", "([BI)B"⟩ : MethodName) (head1 (Jvm.Cond.code (⟨"java/lang/StringUTF16", "coderFromArrayLen", "([BI)B"⟩ : MethodName) jdk_52_method_15_code 2 (some .byte) :: ws) ({ frames := 0, cells := 0, slots := 0, locals := 0 } : Room)) (fun a U => a = #[(.ref p0), (.int (2 : Int32))] ∧ Z.Warmed39 U.vm ∧ U.heap = h0) (fun _ _ _ _ _ => True) (fun _ U o U' => ∃ v L, o = .returned v ∧ QC2_4 Z p0 ka b0_ b1_ b2_ b3_ r h0 n0 v U'.heap L ∧ FrameEnd U o U' L ({ frames := 0, cells := 0, slots := 0, locals := 0 } : Room).cells ({ frames := 0, cells := 0, slots := 0, locals := 0 } : Room).slots) := by
  refine MetFree.of_bodySF (plainFor_of_name pn_20) hisR ?_
  intro p e s m args below meth c s₁ Bd hml0 hP hK
  obtain ⟨rfl, hZ, hh⟩ := hP
  have hx := Bd.exec
  have hby := Bd.bytes
  have hml : c.maxLocals = 2 := hml0
  have hown : s.vm.findClass "java/lang/StringUTF16" = some m.cls := findClass_of_methodNamed Bd.named
  have hnm := (name_of_methodNamed Bd.named Bd.method).1
  have X0 : Stand p l e ({ frames := 0, cells := 0, slots := 0, locals := 0 } : Room) s m #[(.ref p0), (.int (2 : Int32))] below meth c s₁ [] 0 0 := Stand.of_body Bd
  have e0 : s₁.heap = h0 := by rw [← hh, Bd.state]; rfl
  have N0 := Fr.nil n0
  refine own_start ?_
  refine own_via (fun t k => castTop (ef_rmC2_4 m p0) k) ?_
  show own_Go p e below _ (s₁.setTop (mkF m 0 #[oR p0, oI (2 : Int32)] []))
  refine own_via (fun t kz => XS.iloadN X0.here hx rfl (hb hby d10_0) rfl kz) ?_
  refine own_via (fun t kz => XS.aloadN X0.here hx rfl (hb hby d10_1) rfl rfl kz) ?_
  show own_Go p e below _ (s₁.setTop (mkF m 2 #[oR p0, oI (2 : Int32)] [(.ref p0), (.int (2 : Int32))]))
  obtain ⟨cl1, Ar1, kc1, Sz1, Nn1, Hs1, Gs1⟩ := id V_p0
  refine own_via (fun t kz => X0.arraylength hx (by rw [e0]; exact Ar1.1) (State.isArrayOf_alike hZ.alike Ar1.2.1) (g := (mkF m 2 #[oR p0, oI (2 : Int32)] [(.ref p0), (.int (2 : Int32))])) rfl rfl (hb hby d10_2) t kz) ?_
  show own_Go p e below _ (s₁.setTop (mkF m 3 #[oR p0, oI (2 : Int32)] [(.int (cl1.slots.size.toInt32)), (.int (2 : Int32))]))
  rw [len_of Sz1 Nn1]
  show own_Go p e below _ (s₁.setTop (mkF m 3 #[oR p0, oI (2 : Int32)] [(.int (4 : Int32)), (.int (2 : Int32))]))
  refine own_via (fun t kz => XS.isub X0.here hx rfl (hb hby d10_3) rfl kz) ?_
  refine own_via (fun t kz => XS.bipush X0.here hx rfl (hb hby d10_4) kz) ?_
  show own_Go p e below _ (s₁.setTop (mkF m 6 #[oR p0, oI (2 : Int32)] [(.int (31 : Int32)), (.int ((2 : Int32) - (4 : Int32)))]))
  refine own_via (fun t kz => XS.iushr X0.here hx rfl (hb hby d10_6) rfl kz) ?_
  show own_Go p e below _ (s₁.setTop (mkF m 7 #[oR p0, oI (2 : Int32)] [(.int ((((2 : Int32) - (4 : Int32)).toUInt32 >>> ((31 : Int32) &&& 31).toUInt32).toInt32))]))
  refine own_via (fun t kz => XS.i2b X0.here hx rfl (hb hby d10_7) rfl kz) ?_
  show own_Go p e below _ (s₁.setTop (mkF m 8 #[oR p0, oI (2 : Int32)] [(.int (((((2 : Int32) - (4 : Int32)).toUInt32 >>> ((31 : Int32) &&& 31).toUInt32).toInt32).toInt8.toInt32))]))
  have hv : fC2_4 = (((((2 : Int32) - (4 : Int32)).toUInt32 >>> ((31 : Int32) &&& 31).toUInt32).toInt32).toInt8.toInt32) := by unfold fC2_4; rfl
  obtain ⟨fs, hr, hrun, hended, hW, hsame⟩ := X0.leave (v := some (.int (((((2 : Int32) - (4 : Int32)).toUInt32 >>> ((31 : Int32) &&& 31).toUInt32).toInt32).toInt8.toInt32))) (fun h => by rw [Bd.returns] at h; cases h)
  refine ⟨_, _, retOut X0 hx (i := .ireturn) Bd.returns (by decide) (Or.inl ⟨rfl, by simp, _, rfl⟩) (hb hby d10_8) hr, hrun, hended, _, _, rfl, ?_, ⟨_, rfl⟩, hW, hsame.mono (by decide) (by decide)⟩
  show QC2_4 Z p0 ka b0_ b1_ b2_ b3_ r h0 n0 _ s₁.heap _
  rw [e0]
  exact ⟨by rw [← hr0, hv], N0, rfl⟩
theorem ef_rmK2 (m : MethodId) (q0 : Addr) (q1 : Addr) : entryFrame m #[(.ref q0), (.int (0 : Int32)), (.ref q1), (.int (0 : Int32)), (.int (2 : Int32))] 7 = mkF m 0 #[oR q0, oI (0 : Int32), oR q1, oI (0 : Int32), oI (2 : Int32), .unset, .unset] [] := by first | (simp [entryFrame, mkF, argsToLocals, Value.category]; done) | rfl
def QK2 (Z : State) (p0 : Addr) (p2 : Addr) (kc : ClassId) (kb : ClassId) (c0_ : Int32) (c1_ : Int32) (r : Int32) (h0 : Heap) (n0 : Nat) (v : Option Value) (h : Heap) (L : List Loc) : Prop := v = some (.int r) ∧ Fr n0 L ∧ Keep h0 h [p2] ∧ ((¬ (255 : Int32) < c0_ ∧ ¬ (255 : Int32) < c1_) → Arv Z h p2 kb .byte (2 : Int32) [(.int (c0_.toInt8.toInt32)), (.int (c1_.toInt8.toInt32))] (.int (0 : Int32)))
set_option maxRecDepth 65536 in
set_option maxHeartbeats 40000000 in
theorem rmK2 (l : Launch) (Z : State) (a0 : Array Value) (hw : ∀ d ∈ tables_1, d.before a0 Z = true) (ws : List Jvm.Cond) (p0 : Addr) (p2 : Addr) (kc : ClassId) (kb : ClassId) (c0_ : Int32) (c1_ : Int32) (r : Int32) (h0 : Heap) (n0 : Nat) (Z0 : n0 ≤ h0.size) (g_p2 : n0 ≤ p2) (ne02 : p0 ≠ p2) (VC : Arv Z h0 p0 kc .char (2 : Int32) [(.int c0_), (.int c1_)] (.int (0 : Int32))) (VB : Arv Z h0 p2 kb .byte (2 : Int32) [(.int (0 : Int32)), (.int (0 : Int32))] (.int (0 : Int32))) (hr0 : own_cnt2 c0_ c1_ = r) :
    MetFree l (⟨"java/lang/StringUTF16", "compress", "([CI[BII)I"⟩ : MethodName) (head1 (Jvm.Cond.code (⟨"java/lang/StringUTF16", "compress", "([CI[BII)I"⟩ : MethodName) jdk_52_method_21_code 7 (some .int) :: ws) ({ frames := 0, cells := 0, slots := 0, locals := 0 } : Room)) (fun a U => a = #[(.ref p0), (.int (0 : Int32)), (.ref p2), (.int (0 : Int32)), (.int (2 : Int32))] ∧ Z.Warmed39 U.vm ∧ U.heap = h0) (fun _ _ _ _ _ => True) (fun _ U o U' => ∃ v L, o = .returned v ∧ QK2 Z p0 p2 kc kb c0_ c1_ r h0 n0 v U'.heap L ∧ FrameEnd U o U' L ({ frames := 0, cells := 0, slots := 0, locals := 0 } : Room).cells ({ frames := 0, cells := 0, slots := 0, locals := 0 } : Room).slots) := by
  refine MetFree.of_bodySF (plainFor_of_name pn_20) hisR ?_
  intro p e s m args below meth c s₁ Bd hml0 hP hK
  obtain ⟨rfl, hZ, hh⟩ := hP
  have hx := Bd.exec
  have hby := Bd.bytes
  have hml : c.maxLocals = 7 := hml0
  have hown : s.vm.findClass "java/lang/StringUTF16" = some m.cls := findClass_of_methodNamed Bd.named
  have hnm := (name_of_methodNamed Bd.named Bd.method).1
  have X0 : Stand p l e ({ frames := 0, cells := 0, slots := 0, locals := 0 } : Room) s m #[(.ref p0), (.int (0 : Int32)), (.ref p2), (.int (0 : Int32)), (.int (2 : Int32))] below meth c s₁ [] 0 0 := Stand.of_body Bd
  have e0 : s₁.heap = h0 := by rw [← hh, Bd.state]; rfl
  have N0 := Fr.nil n0
  refine own_start ?_
  refine own_via (fun t k => castTop (ef_rmK2 m p0 p2) k) ?_
  show own_Go p e below _ (s₁.setTop (mkF m 0 #[oR p0, oI (0 : Int32), oR p2, oI (0 : Int32), oI (2 : Int32), .unset, .unset] []))
  refine own_via (fun t kz => XS.iconst X0.here hx rfl (hb hby d9_0) kz) ?_
  refine own_via (fun t kz => XS.istore X0.here hx rfl (hb hby d9_1) rfl (l' := #[oR p0, oI (0 : Int32), oR p2, oI (0 : Int32), oI (2 : Int32), oI (0 : Int32), .unset]) rfl kz) ?_
  refine own_via (fun t kz => XS.iload X0.here hx rfl (hb hby d9_3) rfl kz) ?_
  refine own_via (fun t kz => XS.iload X0.here hx rfl (hb hby d9_5) rfl kz) ?_
  show own_Go p e below _ (s₁.setTop (mkF m 7 #[oR p0, oI (0 : Int32), oR p2, oI (0 : Int32), oI (2 : Int32), oI (0 : Int32), .unset] [(.int (2 : Int32)), (.int (0 : Int32))]))
  refine own_via (fun t kz => XS.icmpNo X0.here hx rfl (hb hby d9_7) rfl (tlt (by decide : (0 : Int32) < (2 : Int32))).2.1 kz) ?_
  refine own_via (fun t kz => XS.aloadN X0.here hx rfl (hb hby d9_10) rfl rfl kz) ?_
  refine own_via (fun t kz => XS.iloadN X0.here hx rfl (hb hby d9_11) rfl kz) ?_
  show own_Go p e below _ (s₁.setTop (mkF m 12 #[oR p0, oI (0 : Int32), oR p2, oI (0 : Int32), oI (2 : Int32), oI (0 : Int32), .unset] [(.int (0 : Int32)), (.ref p0)]))
  obtain ⟨cl1, Ar1, kc1, Sz1, Nn1, Hs1, Gs1⟩ := id VC
  have in1 := inb_of (j := (0 : Int32)) Sz1 ⟨by decide, by decide⟩
  have at1 : cl1.slots[((0 : Int32)).toNatClampNeg]? = some (.int c0_) := Hs1.at in1 rfl
  refine own_via (fun t kz => X0.caload hx (j := (0 : Int32)) (v := (.int c0_)) (by rw [e0]; exact Ar1.1) (State.isArrayOf_alike hZ.alike Ar1.2.1) Ar1.2.2 in1 at1 (g := (mkF m 12 #[oR p0, oI (0 : Int32), oR p2, oI (0 : Int32), oI (2 : Int32), oI (0 : Int32), .unset] [(.int (0 : Int32)), (.ref p0)])) rfl rfl (hb hby d9_12) t kz) ?_
  refine own_via (fun t kz => XS.istore X0.here hx rfl (hb hby d9_13) rfl (l' := #[oR p0, oI (0 : Int32), oR p2, oI (0 : Int32), oI (2 : Int32), oI (0 : Int32), oI c0_]) rfl kz) ?_
  refine own_via (fun t kz => XS.iload X0.here hx rfl (hb hby d9_15) rfl kz) ?_
  refine own_via (fun t kz => XS.sipush X0.here hx rfl (hb hby d9_17) kz) ?_
  show own_Go p e below _ (s₁.setTop (mkF m 20 #[oR p0, oI (0 : Int32), oR p2, oI (0 : Int32), oI (2 : Int32), oI (0 : Int32), oI c0_] [(.int (255 : Int32)), (.int c0_)]))
  by_cases hc20_2 : (255 : Int32) < c0_
  · refine own_via (fun t kz => XS.icmpNo X0.here hx rfl (hb hby d9_20) rfl (tlt hc20_2).2.2.2 kz) ?_
    refine own_via (fun t kz => XS.iload X0.here hx rfl (hb hby d9_23) rfl kz) ?_
    show own_Go p e below _ (s₁.setTop (mkF m 25 #[oR p0, oI (0 : Int32), oR p2, oI (0 : Int32), oI (2 : Int32), oI (0 : Int32), oI c0_] [(.int (0 : Int32))]))
    obtain ⟨fs, hr, hrun, hended, hW, hsame⟩ := X0.leave (v := some (.int (0 : Int32))) (fun h => by rw [Bd.returns] at h; cases h)
    refine ⟨_, _, retI X0 hx Bd.returns (hb hby d9_25) hr, hrun, hended, _, _, rfl, ?_, ⟨_, rfl⟩, hW, hsame.mono (by decide) (by decide)⟩
    show QK2 Z p0 p2 kc kb c0_ c1_ r h0 n0 _ s₁.heap _
    rw [e0]
    exact ⟨by rw [← hr0]; unfold own_cnt2; rw [if_pos hc20_2], N0, (Keep.refl h0 [p2]), fun hl => absurd hc20_2 hl.1⟩
  · refine own_via (fun t kz => XS.icmpYes X0.here hx rfl (pc0 := 20) (pc' := 26) rfl (hb hby d9_20) rfl (flt hc20_2).2.2.2 (by decide) (by decide) kz) ?_
    refine own_via (fun t kz => XS.aloadN X0.here hx rfl (hb hby d9_26) rfl rfl kz) ?_
    refine own_via (fun t kz => XS.iloadN X0.here hx rfl (hb hby d9_27) rfl kz) ?_
    refine own_via (fun t kz => XS.iload X0.here hx rfl (hb hby d9_28) rfl kz) ?_
    show own_Go p e below _ (s₁.setTop (mkF m 30 #[oR p0, oI (0 : Int32), oR p2, oI (0 : Int32), oI (2 : Int32), oI (0 : Int32), oI c0_] [(.int c0_), (.int (0 : Int32)), (.ref p2)]))
    refine own_via (fun t kz => XS.i2b X0.here hx rfl (hb hby d9_30) rfl kz) ?_
    show own_Go p e below _ (s₁.setTop (mkF m 31 #[oR p0, oI (0 : Int32), oR p2, oI (0 : Int32), oI (2 : Int32), oI (0 : Int32), oI c0_] [(.int (c0_.toInt8.toInt32)), (.int (0 : Int32)), (.ref p2)]))
    obtain ⟨cl4, Ar4, kc4, Sz4, Nn4, Hs4, Gs4⟩ := id VB
    obtain ⟨T4, h4, X4, e4, W4, st4⟩ := stB X0 hx hZ e0 Ar4 (j := (0 : Int32)) (inb_of Sz4 ⟨by decide, by decide⟩) (g := (mkF m 31 #[oR p0, oI (0 : Int32), oR p2, oI (0 : Int32), oI (2 : Int32), oI (0 : Int32), oI c0_] [(.int (c0_.toInt8.toInt32)), (.int (0 : Int32)), (.ref p2)])) rfl rfl (hb hby d9_31)
    refine own_via st4 ?_
    have na4 : nar .byte (c0_.toInt8.toInt32) = (c0_.toInt8.toInt32) := own_narb _
    rw [na4] at W4
    have V5 := VC.other W4 ne02
    have Zs6 : n0 ≤ h4.size := Nat.le_trans Z0 (Keep.of_wr W4).1
    have N7 := Fr.snoc X4 N0 g_p2
    have K8 : Keep h0 h4 [p2] := (Keep.refl h0 [p2]).wr W4 (Or.inl (List.mem_of_getElem? (i := 0) rfl))
    have V9 : Arv Z h4 p2 kb .byte (2 : Int32) [(.int (c0_.toInt8.toInt32)), (.int (0 : Int32))] (.int (0 : Int32)) := Arv.set Ar4 kc4 Sz4 Nn4 Hs4 Gs4 (fits_nar_byte _) W4 0 (by first | decide | (show 0 < 2; decide)) (by first | decide | (show 0 < 2; decide))
    show own_Go p e below _ (T4.setTop (mkF m 32 #[oR p0, oI (0 : Int32), oR p2, oI (0 : Int32), oI (2 : Int32), oI (0 : Int32), oI c0_] []))
    refine own_via (fun t kz => XS.iinc X4.here hx rfl (hb hby d9_32) rfl (l' := #[oR p0, oI (1 : Int32), oR p2, oI (0 : Int32), oI (2 : Int32), oI (0 : Int32), oI c0_]) rfl kz) ?_
    show own_Go p e below _ (T4.setTop (mkF m 35 #[oR p0, oI (1 : Int32), oR p2, oI (0 : Int32), oI (2 : Int32), oI (0 : Int32), oI c0_] []))
    refine own_via (fun t kz => XS.iinc X4.here hx rfl (hb hby d9_35) rfl (l' := #[oR p0, oI (1 : Int32), oR p2, oI (1 : Int32), oI (2 : Int32), oI (0 : Int32), oI c0_]) rfl kz) ?_
    show own_Go p e below _ (T4.setTop (mkF m 38 #[oR p0, oI (1 : Int32), oR p2, oI (1 : Int32), oI (2 : Int32), oI (0 : Int32), oI c0_] []))
    refine own_via (fun t kz => XS.iinc X4.here hx rfl (hb hby d9_38) rfl (l' := #[oR p0, oI (1 : Int32), oR p2, oI (1 : Int32), oI (2 : Int32), oI (1 : Int32), oI c0_]) rfl kz) ?_
    refine own_via (fun t kz => XS.goto X4.here hx rfl (pc0 := 41) (pc' := 3) rfl (hb hby d9_41) (by decide) (by decide) kz) ?_
    refine own_via (fun t kz => XS.iload X4.here hx rfl (hb hby d9_3) rfl kz) ?_
    refine own_via (fun t kz => XS.iload X4.here hx rfl (hb hby d9_5) rfl kz) ?_
    show own_Go p e below _ (T4.setTop (mkF m 7 #[oR p0, oI (1 : Int32), oR p2, oI (1 : Int32), oI (2 : Int32), oI (1 : Int32), oI c0_] [(.int (2 : Int32)), (.int (1 : Int32))]))
    refine own_via (fun t kz => XS.icmpNo X4.here hx rfl (hb hby d9_7) rfl (tlt (by decide : (1 : Int32) < (2 : Int32))).2.1 kz) ?_
    refine own_via (fun t kz => XS.aloadN X4.here hx rfl (hb hby d9_10) rfl rfl kz) ?_
    refine own_via (fun t kz => XS.iloadN X4.here hx rfl (hb hby d9_11) rfl kz) ?_
    show own_Go p e below _ (T4.setTop (mkF m 12 #[oR p0, oI (1 : Int32), oR p2, oI (1 : Int32), oI (2 : Int32), oI (1 : Int32), oI c0_] [(.int (1 : Int32)), (.ref p0)]))
    obtain ⟨cl10, Ar10, kc10, Sz10, Nn10, Hs10, Gs10⟩ := id V5
    have in10 := inb_of (j := (1 : Int32)) Sz10 ⟨by decide, by decide⟩
    have at10 : cl10.slots[((1 : Int32)).toNatClampNeg]? = some (.int c1_) := Hs10.at in10 rfl
    refine own_via (fun t kz => X4.caload hx (j := (1 : Int32)) (v := (.int c1_)) (by rw [e4]; exact Ar10.1) (State.isArrayOf_alike hZ.alike Ar10.2.1) Ar10.2.2 in10 at10 (g := (mkF m 12 #[oR p0, oI (1 : Int32), oR p2, oI (1 : Int32), oI (2 : Int32), oI (1 : Int32), oI c0_] [(.int (1 : Int32)), (.ref p0)])) rfl rfl (hb hby d9_12) t kz) ?_
    refine own_via (fun t kz => XS.istore X4.here hx rfl (hb hby d9_13) rfl (l' := #[oR p0, oI (1 : Int32), oR p2, oI (1 : Int32), oI (2 : Int32), oI (1 : Int32), oI c1_]) rfl kz) ?_
    refine own_via (fun t kz => XS.iload X4.here hx rfl (hb hby d9_15) rfl kz) ?_
    refine own_via (fun t kz => XS.sipush X4.here hx rfl (hb hby d9_17) kz) ?_
    show own_Go p e below _ (T4.setTop (mkF m 20 #[oR p0, oI (1 : Int32), oR p2, oI (1 : Int32), oI (2 : Int32), oI (1 : Int32), oI c1_] [(.int (255 : Int32)), (.int c1_)]))
    by_cases hc20_11 : (255 : Int32) < c1_
    · refine own_via (fun t kz => XS.icmpNo X4.here hx rfl (hb hby d9_20) rfl (tlt hc20_11).2.2.2 kz) ?_
      refine own_via (fun t kz => XS.iload X4.here hx rfl (hb hby d9_23) rfl kz) ?_
      show own_Go p e below _ (T4.setTop (mkF m 25 #[oR p0, oI (1 : Int32), oR p2, oI (1 : Int32), oI (2 : Int32), oI (1 : Int32), oI c1_] [(.int (1 : Int32))]))
      obtain ⟨fs, hr, hrun, hended, hW, hsame⟩ := X4.leave (v := some (.int (1 : Int32))) (fun h => by rw [Bd.returns] at h; cases h)
      refine ⟨_, _, retI X4 hx Bd.returns (hb hby d9_25) hr, hrun, hended, _, _, rfl, ?_, ⟨_, rfl⟩, hW, hsame.mono (by decide) (by decide)⟩
      show QK2 Z p0 p2 kc kb c0_ c1_ r h0 n0 _ T4.heap _
      rw [e4]
      exact ⟨by rw [← hr0]; unfold own_cnt2; rw [if_neg hc20_2, if_pos hc20_11], N7, K8, fun hl => absurd hc20_11 hl.2⟩
    · refine own_via (fun t kz => XS.icmpYes X4.here hx rfl (pc0 := 20) (pc' := 26) rfl (hb hby d9_20) rfl (flt hc20_11).2.2.2 (by decide) (by decide) kz) ?_
      refine own_via (fun t kz => XS.aloadN X4.here hx rfl (hb hby d9_26) rfl rfl kz) ?_
      refine own_via (fun t kz => XS.iloadN X4.here hx rfl (hb hby d9_27) rfl kz) ?_
      refine own_via (fun t kz => XS.iload X4.here hx rfl (hb hby d9_28) rfl kz) ?_
      show own_Go p e below _ (T4.setTop (mkF m 30 #[oR p0, oI (1 : Int32), oR p2, oI (1 : Int32), oI (2 : Int32), oI (1 : Int32), oI c1_] [(.int c1_), (.int (1 : Int32)), (.ref p2)]))
      refine own_via (fun t kz => XS.i2b X4.here hx rfl (hb hby d9_30) rfl kz) ?_
      show own_Go p e below _ (T4.setTop (mkF m 31 #[oR p0, oI (1 : Int32), oR p2, oI (1 : Int32), oI (2 : Int32), oI (1 : Int32), oI c1_] [(.int (c1_.toInt8.toInt32)), (.int (1 : Int32)), (.ref p2)]))
      obtain ⟨cl13, Ar13, kc13, Sz13, Nn13, Hs13, Gs13⟩ := id V9
      obtain ⟨T13, h13, X13, e13, W13, st13⟩ := stB X4 hx hZ e4 Ar13 (j := (1 : Int32)) (inb_of Sz13 ⟨by decide, by decide⟩) (g := (mkF m 31 #[oR p0, oI (1 : Int32), oR p2, oI (1 : Int32), oI (2 : Int32), oI (1 : Int32), oI c1_] [(.int (c1_.toInt8.toInt32)), (.int (1 : Int32)), (.ref p2)])) rfl rfl (hb hby d9_31)
      refine own_via st13 ?_
      have na13 : nar .byte (c1_.toInt8.toInt32) = (c1_.toInt8.toInt32) := own_narb _
      rw [na13] at W13
      have V14 := V5.other W13 ne02
      have Zs15 : n0 ≤ h13.size := Nat.le_trans Zs6 (Keep.of_wr W13).1
      have N16 := Fr.snoc X13 N7 g_p2
      have K17 : Keep h0 h13 [p2] := K8.wr W13 (Or.inl (List.mem_of_getElem? (i := 0) rfl))
      have V18 : Arv Z h13 p2 kb .byte (2 : Int32) [(.int (c0_.toInt8.toInt32)), (.int (c1_.toInt8.toInt32))] (.int (0 : Int32)) := Arv.set Ar13 kc13 Sz13 Nn13 Hs13 Gs13 (fits_nar_byte _) W13 1 (by first | decide | (show 1 < 2; decide)) (by first | decide | (show 1 < 2; decide))
      show own_Go p e below _ (T13.setTop (mkF m 32 #[oR p0, oI (1 : Int32), oR p2, oI (1 : Int32), oI (2 : Int32), oI (1 : Int32), oI c1_] []))
      refine own_via (fun t kz => XS.iinc X13.here hx rfl (hb hby d9_32) rfl (l' := #[oR p0, oI (2 : Int32), oR p2, oI (1 : Int32), oI (2 : Int32), oI (1 : Int32), oI c1_]) rfl kz) ?_
      show own_Go p e below _ (T13.setTop (mkF m 35 #[oR p0, oI (2 : Int32), oR p2, oI (1 : Int32), oI (2 : Int32), oI (1 : Int32), oI c1_] []))
      refine own_via (fun t kz => XS.iinc X13.here hx rfl (hb hby d9_35) rfl (l' := #[oR p0, oI (2 : Int32), oR p2, oI (2 : Int32), oI (2 : Int32), oI (1 : Int32), oI c1_]) rfl kz) ?_
      show own_Go p e below _ (T13.setTop (mkF m 38 #[oR p0, oI (2 : Int32), oR p2, oI (2 : Int32), oI (2 : Int32), oI (1 : Int32), oI c1_] []))
      refine own_via (fun t kz => XS.iinc X13.here hx rfl (hb hby d9_38) rfl (l' := #[oR p0, oI (2 : Int32), oR p2, oI (2 : Int32), oI (2 : Int32), oI (2 : Int32), oI c1_]) rfl kz) ?_
      refine own_via (fun t kz => XS.goto X13.here hx rfl (pc0 := 41) (pc' := 3) rfl (hb hby d9_41) (by decide) (by decide) kz) ?_
      refine own_via (fun t kz => XS.iload X13.here hx rfl (hb hby d9_3) rfl kz) ?_
      refine own_via (fun t kz => XS.iload X13.here hx rfl (hb hby d9_5) rfl kz) ?_
      show own_Go p e below _ (T13.setTop (mkF m 7 #[oR p0, oI (2 : Int32), oR p2, oI (2 : Int32), oI (2 : Int32), oI (2 : Int32), oI c1_] [(.int (2 : Int32)), (.int (2 : Int32))]))
      refine own_via (fun t kz => XS.icmpYes X13.here hx rfl (pc0 := 7) (pc' := 44) rfl (hb hby d9_7) rfl (flt (by decide : ¬ ((2 : Int32) < (2 : Int32)))).2.1 (by decide) (by decide) kz) ?_
      refine own_via (fun t kz => XS.iload X13.here hx rfl (hb hby d9_44) rfl kz) ?_
      show own_Go p e below _ (T13.setTop (mkF m 46 #[oR p0, oI (2 : Int32), oR p2, oI (2 : Int32), oI (2 : Int32), oI (2 : Int32), oI c1_] [(.int (2 : Int32))]))
      obtain ⟨fs, hr, hrun, hended, hW, hsame⟩ := X13.leave (v := some (.int (2 : Int32))) (fun h => by rw [Bd.returns] at h; cases h)
      refine ⟨_, _, retI X13 hx Bd.returns (hb hby d9_46) hr, hrun, hended, _, _, rfl, ?_, ⟨_, rfl⟩, hW, hsame.mono (by decide) (by decide)⟩
      show QK2 Z p0 p2 kc kb c0_ c1_ r h0 n0 _ T13.heap _
      rw [e13]
      exact ⟨by rw [← hr0]; unfold own_cnt2; rw [if_neg hc20_2, if_neg hc20_11], N16, K17, fun _ => V18⟩
theorem ef_rmP2_0 (m : MethodId) (q0 : Addr) (q1 : Int32) : entryFrame m #[(.ref q0), (.int (0 : Int32)), (.int q1)] 3 = mkF m 0 #[oR q0, oI (0 : Int32), oI q1] [] := by first | (simp [entryFrame, mkF, argsToLocals, Value.category]; done) | rfl
def QP2_0 (Z : State) (p0 : Addr) (p2 : Int32) (kb : ClassId) (b0_ : Int32) (b1_ : Int32) (b2_ : Int32) (b3_ : Int32) (h0 : Heap) (n0 : Nat) (v : Option Value) (h : Heap) (L : List Loc) : Prop := v = none ∧ Fr n0 L ∧ Keep h0 h [p0] ∧ Arv Z h p0 kb .byte (4 : Int32) [(.int ((p2 >>> ((0 : Int32) &&& 31)).toInt8.toInt32)), (.int ((p2 >>> ((8 : Int32) &&& 31)).toInt8.toInt32)), (.int b2_), (.int b3_)] (.int (0 : Int32))
set_option maxRecDepth 65536 in
set_option maxHeartbeats 40000000 in
theorem rmP2_0 (l : Launch) (Z : State) (a0 : Array Value) (hw : ∀ d ∈ tables_1, d.before a0 Z = true) (ws : List Jvm.Cond) (p0 : Addr) (p2 : Int32) (kb : ClassId) (b0_ : Int32) (b1_ : Int32) (b2_ : Int32) (b3_ : Int32) (h0 : Heap) (n0 : Nat) (Z0 : n0 ≤ h0.size) (g_p0 : n0 ≤ p0) (VB : Arv Z h0 p0 kb .byte (4 : Int32) [(.int b0_), (.int b1_), (.int b2_), (.int b3_)] (.int (0 : Int32))) (S_wad : Sta Z h0 "java/lang/StringUTF16" "$assertionsDisabled" "Z" (.int (1 : Int32))) (S_whi : Sta Z h0 "java/lang/StringUTF16" "HI_BYTE_SHIFT" "I" (.int (0 : Int32))) (S_wlo : Sta Z h0 "java/lang/StringUTF16" "LO_BYTE_SHIFT" "I" (.int (8 : Int32))) :
    MetFree l (⟨"java/lang/StringUTF16", "putChar", "([BII)V"⟩ : MethodName) (head1 (Jvm.Cond.code (⟨"java/lang/StringUTF16", "putChar", "([BII)V"⟩ : MethodName) jdk_52_method_4_code 3 none :: ws) ({ frames := 0, cells := 0, slots := 0, locals := 0 } : Room)) (fun a U => a = #[(.ref p0), (.int (0 : Int32)), (.int p2)] ∧ Z.Warmed39 U.vm ∧ U.heap = h0) (fun _ _ _ _ _ => True) (fun _ U o U' => ∃ v L, o = .returned v ∧ QP2_0 Z p0 p2 kb b0_ b1_ b2_ b3_ h0 n0 v U'.heap L ∧ FrameEnd U o U' L ({ frames := 0, cells := 0, slots := 0, locals := 0 } : Room).cells ({ frames := 0, cells := 0, slots := 0, locals := 0 } : Room).slots) := by
  refine MetFree.of_bodySF (plainFor_of_name pn_20) hisR ?_
  intro p e s m args below meth c s₁ Bd hml0 hP hK
  obtain ⟨rfl, hZ, hh⟩ := hP
  have hx := Bd.exec
  have hby := Bd.bytes
  have hml : c.maxLocals = 3 := hml0
  have hown : s.vm.findClass "java/lang/StringUTF16" = some m.cls := findClass_of_methodNamed Bd.named
  have hnm := (name_of_methodNamed Bd.named Bd.method).1
  have X0 : Stand p l e ({ frames := 0, cells := 0, slots := 0, locals := 0 } : Room) s m #[(.ref p0), (.int (0 : Int32)), (.int p2)] below meth c s₁ [] 0 0 := Stand.of_body Bd
  have e0 : s₁.heap = h0 := by rw [← hh, Bd.state]; rfl
  have N0 := Fr.nil n0
  refine own_start ?_
  refine own_via (fun t k => castTop (ef_rmP2_0 m p0 p2) k) ?_
  show own_Go p e below _ (s₁.setTop (mkF m 0 #[oR p0, oI (0 : Int32), oI p2] []))
  obtain ⟨T1, X1, e1, st1⟩ := getS2 X0 hx hZ hown (host := "") (Or.inl (own_w hw 92)) Via.refl e0 S_wad (g := (mkF m 0 #[oR p0, oI (0 : Int32), oI p2] [])) rfl (hb hby d21_0)
  refine own_via st1 ?_
  show own_Go p e below _ (T1.setTop (mkF m 3 #[oR p0, oI (0 : Int32), oI p2] [(.int (1 : Int32))]))
  refine own_via (fun t kz => XS.ifYes X1.here hx rfl (pc0 := 3) (pc' := 28) rfl (hb hby d21_3) rfl ((if0 _ _).trans (feq (by decide : ¬ ((1 : Int32) = (0 : Int32)))).2) (by decide) (by decide) kz) ?_
  refine own_via (fun t kz => XS.iloadN X1.here hx rfl (hb hby d21_28) rfl kz) ?_
  refine own_via (fun t kz => XS.iconst X1.here hx rfl (hb hby d21_29) kz) ?_
  show own_Go p e below _ (T1.setTop (mkF m 30 #[oR p0, oI (0 : Int32), oI p2] [(.int (1 : Int32)), (.int (0 : Int32))]))
  refine own_via (fun t kz => XS.ishl X1.here hx rfl (hb hby d21_30) rfl kz) ?_
  refine own_via (fun t kz => XS.istoreN X1.here hx rfl (hb hby d21_31) rfl (l' := #[oR p0, oI (0 : Int32), oI p2]) rfl kz) ?_
  refine own_via (fun t kz => XS.aloadN X1.here hx rfl (hb hby d21_32) rfl rfl kz) ?_
  refine own_via (fun t kz => XS.iloadN X1.here hx rfl (hb hby d21_33) rfl kz) ?_
  show own_Go p e below _ (T1.setTop (mkF m 34 #[oR p0, oI (0 : Int32), oI p2] [(.int (0 : Int32)), (.ref p0)]))
  refine own_via (fun t kz => XS.iinc X1.here hx rfl (hb hby d21_34) rfl (l' := #[oR p0, oI (1 : Int32), oI p2]) rfl kz) ?_
  refine own_via (fun t kz => XS.iloadN X1.here hx rfl (hb hby d21_37) rfl kz) ?_
  show own_Go p e below _ (T1.setTop (mkF m 38 #[oR p0, oI (1 : Int32), oI p2] [(.int p2), (.int (0 : Int32)), (.ref p0)]))
  obtain ⟨T2, X2, e2, st2⟩ := getS2 X1 hx hZ hown (host := "") (Or.inl (own_w hw 93)) Via.refl e1 S_whi (g := (mkF m 38 #[oR p0, oI (1 : Int32), oI p2] [(.int p2), (.int (0 : Int32)), (.ref p0)])) rfl (hb hby d21_38)
  refine own_via st2 ?_
  show own_Go p e below _ (T2.setTop (mkF m 41 #[oR p0, oI (1 : Int32), oI p2] [(.int (0 : Int32)), (.int p2), (.int (0 : Int32)), (.ref p0)]))
  refine own_via (fun t kz => XS.ishr X2.here hx rfl (hb hby d21_41) rfl kz) ?_
  show own_Go p e below _ (T2.setTop (mkF m 42 #[oR p0, oI (1 : Int32), oI p2] [(.int (p2 >>> ((0 : Int32) &&& 31))), (.int (0 : Int32)), (.ref p0)]))
  refine own_via (fun t kz => XS.i2b X2.here hx rfl (hb hby d21_42) rfl kz) ?_
  show own_Go p e below _ (T2.setTop (mkF m 43 #[oR p0, oI (1 : Int32), oI p2] [(.int ((p2 >>> ((0 : Int32) &&& 31)).toInt8.toInt32)), (.int (0 : Int32)), (.ref p0)]))
  obtain ⟨cl3, Ar3, kc3, Sz3, Nn3, Hs3, Gs3⟩ := id VB
  obtain ⟨T3, h3, X3, e3, W3, st3⟩ := stB X2 hx hZ e2 Ar3 (j := (0 : Int32)) (inb_of Sz3 ⟨by decide, by decide⟩) (g := (mkF m 43 #[oR p0, oI (1 : Int32), oI p2] [(.int ((p2 >>> ((0 : Int32) &&& 31)).toInt8.toInt32)), (.int (0 : Int32)), (.ref p0)])) rfl rfl (hb hby d21_43)
  refine own_via st3 ?_
  have na3 : nar .byte ((p2 >>> ((0 : Int32) &&& 31)).toInt8.toInt32) = ((p2 >>> ((0 : Int32) &&& 31)).toInt8.toInt32) := own_narb _
  rw [na3] at W3
  have S4 := S_wad.wr W3
  have S5 := S_whi.wr W3
  have S6 := S_wlo.wr W3
  have Zs7 : n0 ≤ h3.size := Nat.le_trans Z0 (Keep.of_wr W3).1
  have N8 := Fr.snoc X3 N0 g_p0
  have K9 : Keep h0 h3 [p0] := (Keep.refl h0 [p0]).wr W3 (Or.inl (List.mem_of_getElem? (i := 0) rfl))
  have V10 : Arv Z h3 p0 kb .byte (4 : Int32) [(.int ((p2 >>> ((0 : Int32) &&& 31)).toInt8.toInt32)), (.int b1_), (.int b2_), (.int b3_)] (.int (0 : Int32)) := Arv.set Ar3 kc3 Sz3 Nn3 Hs3 Gs3 (fits_nar_byte _) W3 0 (by first | decide | (show 0 < 4; decide)) (by first | decide | (show 0 < 4; decide))
  refine own_via (fun t kz => XS.aloadN X3.here hx rfl (hb hby d21_44) rfl rfl kz) ?_
  refine own_via (fun t kz => XS.iloadN X3.here hx rfl (hb hby d21_45) rfl kz) ?_
  refine own_via (fun t kz => XS.iloadN X3.here hx rfl (hb hby d21_46) rfl kz) ?_
  show own_Go p e below _ (T3.setTop (mkF m 47 #[oR p0, oI (1 : Int32), oI p2] [(.int p2), (.int (1 : Int32)), (.ref p0)]))
  obtain ⟨T11, X11, e11, st11⟩ := getS2 X3 hx hZ hown (host := "") (Or.inl (own_w hw 94)) Via.refl e3 S6 (g := (mkF m 47 #[oR p0, oI (1 : Int32), oI p2] [(.int p2), (.int (1 : Int32)), (.ref p0)])) rfl (hb hby d21_47)
  refine own_via st11 ?_
  show own_Go p e below _ (T11.setTop (mkF m 50 #[oR p0, oI (1 : Int32), oI p2] [(.int (8 : Int32)), (.int p2), (.int (1 : Int32)), (.ref p0)]))
  refine own_via (fun t kz => XS.ishr X11.here hx rfl (hb hby d21_50) rfl kz) ?_
  show own_Go p e below _ (T11.setTop (mkF m 51 #[oR p0, oI (1 : Int32), oI p2] [(.int (p2 >>> ((8 : Int32) &&& 31))), (.int (1 : Int32)), (.ref p0)]))
  refine own_via (fun t kz => XS.i2b X11.here hx rfl (hb hby d21_51) rfl kz) ?_
  show own_Go p e below _ (T11.setTop (mkF m 52 #[oR p0, oI (1 : Int32), oI p2] [(.int ((p2 >>> ((8 : Int32) &&& 31)).toInt8.toInt32)), (.int (1 : Int32)), (.ref p0)]))
  obtain ⟨cl12, Ar12, kc12, Sz12, Nn12, Hs12, Gs12⟩ := id V10
  obtain ⟨T12, h12, X12, e12, W12, st12⟩ := stB X11 hx hZ e11 Ar12 (j := (1 : Int32)) (inb_of Sz12 ⟨by decide, by decide⟩) (g := (mkF m 52 #[oR p0, oI (1 : Int32), oI p2] [(.int ((p2 >>> ((8 : Int32) &&& 31)).toInt8.toInt32)), (.int (1 : Int32)), (.ref p0)])) rfl rfl (hb hby d21_52)
  refine own_via st12 ?_
  have na12 : nar .byte ((p2 >>> ((8 : Int32) &&& 31)).toInt8.toInt32) = ((p2 >>> ((8 : Int32) &&& 31)).toInt8.toInt32) := own_narb _
  rw [na12] at W12
  have S13 := S4.wr W12
  have S14 := S5.wr W12
  have S15 := S6.wr W12
  have Zs16 : n0 ≤ h12.size := Nat.le_trans Zs7 (Keep.of_wr W12).1
  have N17 := Fr.snoc X12 N8 g_p0
  have K18 : Keep h0 h12 [p0] := K9.wr W12 (Or.inl (List.mem_of_getElem? (i := 0) rfl))
  have V19 : Arv Z h12 p0 kb .byte (4 : Int32) [(.int ((p2 >>> ((0 : Int32) &&& 31)).toInt8.toInt32)), (.int ((p2 >>> ((8 : Int32) &&& 31)).toInt8.toInt32)), (.int b2_), (.int b3_)] (.int (0 : Int32)) := Arv.set Ar12 kc12 Sz12 Nn12 Hs12 Gs12 (fits_nar_byte _) W12 1 (by first | decide | (show 1 < 4; decide)) (by first | decide | (show 1 < 4; decide))
  show own_Go p e below _ (T12.setTop (mkF m 53 #[oR p0, oI (1 : Int32), oI p2] []))
  obtain ⟨fs, hr, hrun, hended, hW, hsame⟩ := X12.leave (v := none) (fun _ => rfl)
  refine ⟨_, _, X12.returnOut hx Bd.returns (hb hby d21_53) hr, hrun, hended, _, _, rfl, ?_, ⟨_, rfl⟩, hW, hsame.mono (by decide) (by decide)⟩
  show QP2_0 Z p0 p2 kb b0_ b1_ b2_ b3_ h0 n0 _ T12.heap _
  rw [e12]
  exact ⟨rfl, N17, K18, V19⟩
theorem ef_rmP2_1 (m : MethodId) (q0 : Addr) (q1 : Int32) : entryFrame m #[(.ref q0), (.int (1 : Int32)), (.int q1)] 3 = mkF m 0 #[oR q0, oI (1 : Int32), oI q1] [] := by first | (simp [entryFrame, mkF, argsToLocals, Value.category]; done) | rfl
def QP2_1 (Z : State) (p0 : Addr) (p2 : Int32) (kb : ClassId) (b0_ : Int32) (b1_ : Int32) (b2_ : Int32) (b3_ : Int32) (h0 : Heap) (n0 : Nat) (v : Option Value) (h : Heap) (L : List Loc) : Prop := v = none ∧ Fr n0 L ∧ Keep h0 h [p0] ∧ Arv Z h p0 kb .byte (4 : Int32) [(.int b0_), (.int b1_), (.int ((p2 >>> ((0 : Int32) &&& 31)).toInt8.toInt32)), (.int ((p2 >>> ((8 : Int32) &&& 31)).toInt8.toInt32))] (.int (0 : Int32))
set_option maxRecDepth 65536 in
set_option maxHeartbeats 40000000 in
theorem rmP2_1 (l : Launch) (Z : State) (a0 : Array Value) (hw : ∀ d ∈ tables_1, d.before a0 Z = true) (ws : List Jvm.Cond) (p0 : Addr) (p2 : Int32) (kb : ClassId) (b0_ : Int32) (b1_ : Int32) (b2_ : Int32) (b3_ : Int32) (h0 : Heap) (n0 : Nat) (Z0 : n0 ≤ h0.size) (g_p0 : n0 ≤ p0) (VB : Arv Z h0 p0 kb .byte (4 : Int32) [(.int b0_), (.int b1_), (.int b2_), (.int b3_)] (.int (0 : Int32))) (S_wad : Sta Z h0 "java/lang/StringUTF16" "$assertionsDisabled" "Z" (.int (1 : Int32))) (S_whi : Sta Z h0 "java/lang/StringUTF16" "HI_BYTE_SHIFT" "I" (.int (0 : Int32))) (S_wlo : Sta Z h0 "java/lang/StringUTF16" "LO_BYTE_SHIFT" "I" (.int (8 : Int32))) :
    MetFree l (⟨"java/lang/StringUTF16", "putChar", "([BII)V"⟩ : MethodName) (head1 (Jvm.Cond.code (⟨"java/lang/StringUTF16", "putChar", "([BII)V"⟩ : MethodName) jdk_52_method_4_code 3 none :: ws) ({ frames := 0, cells := 0, slots := 0, locals := 0 } : Room)) (fun a U => a = #[(.ref p0), (.int (1 : Int32)), (.int p2)] ∧ Z.Warmed39 U.vm ∧ U.heap = h0) (fun _ _ _ _ _ => True) (fun _ U o U' => ∃ v L, o = .returned v ∧ QP2_1 Z p0 p2 kb b0_ b1_ b2_ b3_ h0 n0 v U'.heap L ∧ FrameEnd U o U' L ({ frames := 0, cells := 0, slots := 0, locals := 0 } : Room).cells ({ frames := 0, cells := 0, slots := 0, locals := 0 } : Room).slots) := by
  refine MetFree.of_bodySF (plainFor_of_name pn_20) hisR ?_
  intro p e s m args below meth c s₁ Bd hml0 hP hK
  obtain ⟨rfl, hZ, hh⟩ := hP
  have hx := Bd.exec
  have hby := Bd.bytes
  have hml : c.maxLocals = 3 := hml0
  have hown : s.vm.findClass "java/lang/StringUTF16" = some m.cls := findClass_of_methodNamed Bd.named
  have hnm := (name_of_methodNamed Bd.named Bd.method).1
  have X0 : Stand p l e ({ frames := 0, cells := 0, slots := 0, locals := 0 } : Room) s m #[(.ref p0), (.int (1 : Int32)), (.int p2)] below meth c s₁ [] 0 0 := Stand.of_body Bd
  have e0 : s₁.heap = h0 := by rw [← hh, Bd.state]; rfl
  have N0 := Fr.nil n0
  refine own_start ?_
  refine own_via (fun t k => castTop (ef_rmP2_1 m p0 p2) k) ?_
  show own_Go p e below _ (s₁.setTop (mkF m 0 #[oR p0, oI (1 : Int32), oI p2] []))
  obtain ⟨T1, X1, e1, st1⟩ := getS2 X0 hx hZ hown (host := "") (Or.inl (own_w hw 92)) Via.refl e0 S_wad (g := (mkF m 0 #[oR p0, oI (1 : Int32), oI p2] [])) rfl (hb hby d21_0)
  refine own_via st1 ?_
  show own_Go p e below _ (T1.setTop (mkF m 3 #[oR p0, oI (1 : Int32), oI p2] [(.int (1 : Int32))]))
  refine own_via (fun t kz => XS.ifYes X1.here hx rfl (pc0 := 3) (pc' := 28) rfl (hb hby d21_3) rfl ((if0 _ _).trans (feq (by decide : ¬ ((1 : Int32) = (0 : Int32)))).2) (by decide) (by decide) kz) ?_
  refine own_via (fun t kz => XS.iloadN X1.here hx rfl (hb hby d21_28) rfl kz) ?_
  refine own_via (fun t kz => XS.iconst X1.here hx rfl (hb hby d21_29) kz) ?_
  show own_Go p e below _ (T1.setTop (mkF m 30 #[oR p0, oI (1 : Int32), oI p2] [(.int (1 : Int32)), (.int (1 : Int32))]))
  refine own_via (fun t kz => XS.ishl X1.here hx rfl (hb hby d21_30) rfl kz) ?_
  refine own_via (fun t kz => XS.istoreN X1.here hx rfl (hb hby d21_31) rfl (l' := #[oR p0, oI (2 : Int32), oI p2]) rfl kz) ?_
  refine own_via (fun t kz => XS.aloadN X1.here hx rfl (hb hby d21_32) rfl rfl kz) ?_
  refine own_via (fun t kz => XS.iloadN X1.here hx rfl (hb hby d21_33) rfl kz) ?_
  show own_Go p e below _ (T1.setTop (mkF m 34 #[oR p0, oI (2 : Int32), oI p2] [(.int (2 : Int32)), (.ref p0)]))
  refine own_via (fun t kz => XS.iinc X1.here hx rfl (hb hby d21_34) rfl (l' := #[oR p0, oI (3 : Int32), oI p2]) rfl kz) ?_
  refine own_via (fun t kz => XS.iloadN X1.here hx rfl (hb hby d21_37) rfl kz) ?_
  show own_Go p e below _ (T1.setTop (mkF m 38 #[oR p0, oI (3 : Int32), oI p2] [(.int p2), (.int (2 : Int32)), (.ref p0)]))
  obtain ⟨T2, X2, e2, st2⟩ := getS2 X1 hx hZ hown (host := "") (Or.inl (own_w hw 93)) Via.refl e1 S_whi (g := (mkF m 38 #[oR p0, oI (3 : Int32), oI p2] [(.int p2), (.int (2 : Int32)), (.ref p0)])) rfl (hb hby d21_38)
  refine own_via st2 ?_
  show own_Go p e below _ (T2.setTop (mkF m 41 #[oR p0, oI (3 : Int32), oI p2] [(.int (0 : Int32)), (.int p2), (.int (2 : Int32)), (.ref p0)]))
  refine own_via (fun t kz => XS.ishr X2.here hx rfl (hb hby d21_41) rfl kz) ?_
  show own_Go p e below _ (T2.setTop (mkF m 42 #[oR p0, oI (3 : Int32), oI p2] [(.int (p2 >>> ((0 : Int32) &&& 31))), (.int (2 : Int32)), (.ref p0)]))
  refine own_via (fun t kz => XS.i2b X2.here hx rfl (hb hby d21_42) rfl kz) ?_
  show own_Go p e below _ (T2.setTop (mkF m 43 #[oR p0, oI (3 : Int32), oI p2] [(.int ((p2 >>> ((0 : Int32) &&& 31)).toInt8.toInt32)), (.int (2 : Int32)), (.ref p0)]))
  obtain ⟨cl3, Ar3, kc3, Sz3, Nn3, Hs3, Gs3⟩ := id VB
  obtain ⟨T3, h3, X3, e3, W3, st3⟩ := stB X2 hx hZ e2 Ar3 (j := (2 : Int32)) (inb_of Sz3 ⟨by decide, by decide⟩) (g := (mkF m 43 #[oR p0, oI (3 : Int32), oI p2] [(.int ((p2 >>> ((0 : Int32) &&& 31)).toInt8.toInt32)), (.int (2 : Int32)), (.ref p0)])) rfl rfl (hb hby d21_43)
  refine own_via st3 ?_
  have na3 : nar .byte ((p2 >>> ((0 : Int32) &&& 31)).toInt8.toInt32) = ((p2 >>> ((0 : Int32) &&& 31)).toInt8.toInt32) := own_narb _
  rw [na3] at W3
  have S4 := S_wad.wr W3
  have S5 := S_whi.wr W3
  have S6 := S_wlo.wr W3
  have Zs7 : n0 ≤ h3.size := Nat.le_trans Z0 (Keep.of_wr W3).1
  have N8 := Fr.snoc X3 N0 g_p0
  have K9 : Keep h0 h3 [p0] := (Keep.refl h0 [p0]).wr W3 (Or.inl (List.mem_of_getElem? (i := 0) rfl))
  have V10 : Arv Z h3 p0 kb .byte (4 : Int32) [(.int b0_), (.int b1_), (.int ((p2 >>> ((0 : Int32) &&& 31)).toInt8.toInt32)), (.int b3_)] (.int (0 : Int32)) := Arv.set Ar3 kc3 Sz3 Nn3 Hs3 Gs3 (fits_nar_byte _) W3 2 (by first | decide | (show 2 < 4; decide)) (by first | decide | (show 2 < 4; decide))
  refine own_via (fun t kz => XS.aloadN X3.here hx rfl (hb hby d21_44) rfl rfl kz) ?_
  refine own_via (fun t kz => XS.iloadN X3.here hx rfl (hb hby d21_45) rfl kz) ?_
  refine own_via (fun t kz => XS.iloadN X3.here hx rfl (hb hby d21_46) rfl kz) ?_
  show own_Go p e below _ (T3.setTop (mkF m 47 #[oR p0, oI (3 : Int32), oI p2] [(.int p2), (.int (3 : Int32)), (.ref p0)]))
  obtain ⟨T11, X11, e11, st11⟩ := getS2 X3 hx hZ hown (host := "") (Or.inl (own_w hw 94)) Via.refl e3 S6 (g := (mkF m 47 #[oR p0, oI (3 : Int32), oI p2] [(.int p2), (.int (3 : Int32)), (.ref p0)])) rfl (hb hby d21_47)
  refine own_via st11 ?_
  show own_Go p e below _ (T11.setTop (mkF m 50 #[oR p0, oI (3 : Int32), oI p2] [(.int (8 : Int32)), (.int p2), (.int (3 : Int32)), (.ref p0)]))
  refine own_via (fun t kz => XS.ishr X11.here hx rfl (hb hby d21_50) rfl kz) ?_
  show own_Go p e below _ (T11.setTop (mkF m 51 #[oR p0, oI (3 : Int32), oI p2] [(.int (p2 >>> ((8 : Int32) &&& 31))), (.int (3 : Int32)), (.ref p0)]))
  refine own_via (fun t kz => XS.i2b X11.here hx rfl (hb hby d21_51) rfl kz) ?_
  show own_Go p e below _ (T11.setTop (mkF m 52 #[oR p0, oI (3 : Int32), oI p2] [(.int ((p2 >>> ((8 : Int32) &&& 31)).toInt8.toInt32)), (.int (3 : Int32)), (.ref p0)]))
  obtain ⟨cl12, Ar12, kc12, Sz12, Nn12, Hs12, Gs12⟩ := id V10
  obtain ⟨T12, h12, X12, e12, W12, st12⟩ := stB X11 hx hZ e11 Ar12 (j := (3 : Int32)) (inb_of Sz12 ⟨by decide, by decide⟩) (g := (mkF m 52 #[oR p0, oI (3 : Int32), oI p2] [(.int ((p2 >>> ((8 : Int32) &&& 31)).toInt8.toInt32)), (.int (3 : Int32)), (.ref p0)])) rfl rfl (hb hby d21_52)
  refine own_via st12 ?_
  have na12 : nar .byte ((p2 >>> ((8 : Int32) &&& 31)).toInt8.toInt32) = ((p2 >>> ((8 : Int32) &&& 31)).toInt8.toInt32) := own_narb _
  rw [na12] at W12
  have S13 := S4.wr W12
  have S14 := S5.wr W12
  have S15 := S6.wr W12
  have Zs16 : n0 ≤ h12.size := Nat.le_trans Zs7 (Keep.of_wr W12).1
  have N17 := Fr.snoc X12 N8 g_p0
  have K18 : Keep h0 h12 [p0] := K9.wr W12 (Or.inl (List.mem_of_getElem? (i := 0) rfl))
  have V19 : Arv Z h12 p0 kb .byte (4 : Int32) [(.int b0_), (.int b1_), (.int ((p2 >>> ((0 : Int32) &&& 31)).toInt8.toInt32)), (.int ((p2 >>> ((8 : Int32) &&& 31)).toInt8.toInt32))] (.int (0 : Int32)) := Arv.set Ar12 kc12 Sz12 Nn12 Hs12 Gs12 (fits_nar_byte _) W12 3 (by first | decide | (show 3 < 4; decide)) (by first | decide | (show 3 < 4; decide))
  show own_Go p e below _ (T12.setTop (mkF m 53 #[oR p0, oI (3 : Int32), oI p2] []))
  obtain ⟨fs, hr, hrun, hended, hW, hsame⟩ := X12.leave (v := none) (fun _ => rfl)
  refine ⟨_, _, X12.returnOut hx Bd.returns (hb hby d21_53) hr, hrun, hended, _, _, rfl, ?_, ⟨_, rfl⟩, hW, hsame.mono (by decide) (by decide)⟩
  show QP2_1 Z p0 p2 kb b0_ b1_ b2_ b3_ h0 n0 _ T12.heap _
  rw [e12]
  exact ⟨rfl, N17, K18, V19⟩
theorem ef_rmN2 (m : MethodId)  : entryFrame m #[(.int (2 : Int32))] 1 = mkF m 0 #[oI (2 : Int32)] [] := by first | (simp [entryFrame, mkF, argsToLocals, Value.category]; done) | rfl
def QN2 (Z : State)  (h0 : Heap) (n0 : Nat) (v : Option Value) (h : Heap) (L : List Loc) : Prop := v = some (.ref h0.size) ∧ Fr n0 L ∧ Keep h0 h [] ∧ ∃ kb, Arv Z h h0.size kb .byte (4 : Int32) [(.int (0 : Int32)), (.int (0 : Int32)), (.int (0 : Int32)), (.int (0 : Int32))] (.int (0 : Int32))
set_option maxRecDepth 65536 in
set_option maxHeartbeats 40000000 in
theorem rmN2 (l : Launch) (Z : State) (a0 : Array Value) (hw : ∀ d ∈ tables_1, d.before a0 Z = true) (ws : List Jvm.Cond)  (h0 : Heap) (n0 : Nat) (Z0 : n0 ≤ h0.size) :
    MetFree l (⟨"java/lang/StringUTF16", "newBytesFor", "(I)[B"⟩ : MethodName) (head1 (Jvm.Cond.code (⟨"java/lang/StringUTF16", "newBytesFor", "(I)[B"⟩ : MethodName) jdk_52_method_2_code 1 (some (.array .byte)) :: ws) ({ frames := 1, cells := 1, slots := 4, locals := 12 } : Room)) (fun a U => a = #[(.int (2 : Int32))] ∧ Z.Warmed39 U.vm ∧ U.heap = h0) (fun _ _ _ _ _ => True) (fun _ U o U' => ∃ v L, o = .returned v ∧ QN2 Z  h0 n0 v U'.heap L ∧ FrameEnd U o U' L ({ frames := 1, cells := 1, slots := 4, locals := 12 } : Room).cells ({ frames := 1, cells := 1, slots := 4, locals := 12 } : Room).slots) := by
  refine MetFree.of_bodySF (plainFor_of_name pn_20) hisR ?_
  intro p e s m args below meth c s₁ Bd hml0 hP hK
  obtain ⟨rfl, hZ, hh⟩ := hP
  have hx := Bd.exec
  have hby := Bd.bytes
  have hml : c.maxLocals = 1 := hml0
  have hown : s.vm.findClass "java/lang/StringUTF16" = some m.cls := findClass_of_methodNamed Bd.named
  have hnm := (name_of_methodNamed Bd.named Bd.method).1
  have X0 : Stand p l e ({ frames := 1, cells := 1, slots := 4, locals := 12 } : Room) s m #[(.int (2 : Int32))] below meth c s₁ [] 0 0 := Stand.of_body Bd
  have e0 : s₁.heap = h0 := by rw [← hh, Bd.state]; rfl
  have N0 := Fr.nil n0
  refine own_start ?_
  refine own_via (fun t k => castTop (ef_rmN2 m ) k) ?_
  show own_Go p e below _ (s₁.setTop (mkF m 0 #[oI (2 : Int32)] []))
  refine own_via (fun t kz => XS.iloadN X0.here hx rfl (hb hby d19_0) rfl kz) ?_
  show own_Go p e below _ (s₁.setTop (mkF m 1 #[oI (2 : Int32)] [(.int (2 : Int32))]))
  obtain ⟨_, _, ⟨T1, L1, k1, n1⟩, -, X1, ⟨Lc1, hQ1, l1, y1, z1⟩, st1⟩ := Jvm.LawKit.callS X0 hx (y := (⟨"java/lang/StringUTF16", "newBytesLength", "(I)I"⟩ : MethodName)) hown (mvT hZ (own_w hw 85)) (mvT hZ (own_w hw 86)) (mvT hZ (own_w hw 43)) (mvT hZ (own_w hw 87)) (by decide) (backOf (W := 0) (rm20 l Z a0 hw [] (2 : Int32) (4 : Int32) h0 n0 Z0 (by decide) (by decide) (by decide)) hZ (own_w hw 87) (own_w hw 43) (by decide) (by decide)) (g := (mkF m 1 #[oI (2 : Int32)] [(.int (2 : Int32))])) rfl (by rw [hml]; rfl) (argsL := [(.int (2 : Int32))]) (rest := []) (lenOf pd_19_0 rfl) rfl (by show 2 * 0 + _ ≤ _; exact Nat.le_of_eq rfl) (hb hby d19_1) (fun _ _ => ⟨rfl, e0, (by decide : 0 + 0 ≤ _), (by decide : 0 + 0 ≤ _)⟩)
  dsimp only [Pt.U, Pt.locs, Pt.cells, Pt.slots] at X1 l1 y1 z1 st1 hQ1
  subst l1 y1 z1
  obtain ⟨rfl, Nq1, e1⟩ := hQ1
  have N2 := Fr.app N0 Nq1
  refine own_via st1 ?_
  show own_Go p e below _ (T1.setTop (mkF m 4 #[oI (2 : Int32)] [(.int (4 : Int32))]))
  obtain ⟨T3, h3, k3, X3, e3, E3, A3, st3⟩ := newP X1 hx hZ (aty := .byte) (own_w hw 19) e1 (g := (mkF m 4 #[oI (2 : Int32)] [(.int (4 : Int32))])) rfl (hb hby d19_4) rfl (by decide) (cap := 4) (by decide) (by decide) (by decide) (by decide)
  obtain ⟨a3, g3⟩ : ∃ z, z = h0.size := ⟨_, rfl⟩
  rw [← g3] at A3 st3
  refine own_via st3 ?_
  have fr4 : n0 ≤ a3 := Nat.le_trans Z0 (Nat.le_of_eq g3.symm)
  have hf5 : h0.size ≤ a3 := Nat.le_trans (Keep.refl h0 []).1 (Nat.le_of_eq g3.symm)
  have Zs6 : n0 ≤ h3.size := Nat.le_trans Z0 E3.1
  have K7 : Keep h0 h3 [] := (Keep.refl h0 []).ext E3
  have V8 : Arv Z h3 a3 k3 .byte (4 : Int32) [(.int (0 : Int32)), (.int (0 : Int32)), (.int (0 : Int32)), (.int (0 : Int32))] (.int (0 : Int32)) := (Arv.new A3 (by decide)).pad (pad_rep [] (.int (0 : Int32)) 4)
  show own_Go p e below _ (T3.setTop (mkF m 6 #[oI (2 : Int32)] [(.ref a3)]))
  obtain ⟨fs, hr, hrun, hended, hW, hsame⟩ := X3.leave (v := some (.ref a3)) (fun h => by rw [Bd.returns] at h; cases h)
  refine ⟨_, _, retOut X3 hx (i := .areturn) Bd.returns rfl (Or.inr (Or.inr (Or.inr (Or.inr ⟨rfl, rfl, rfl⟩)))) (hb hby d19_6) hr, hrun, hended, _, _, rfl, ?_, ⟨_, rfl⟩, hW, hsame.mono (by decide) (by decide)⟩
  show QN2 Z  h0 n0 _ T3.heap _
  rw [e3]
  exact ⟨by rw [g3], N2, K7, _, by rw [← g3]; exact V8⟩
theorem ef_rmT2 (m : MethodId) (q0 : Addr) : entryFrame m #[(.ref q0), (.int (0 : Int32)), (.int (2 : Int32))] 5 = mkF m 0 #[oR q0, oI (0 : Int32), oI (2 : Int32), .unset, .unset] [] := by first | (simp [entryFrame, mkF, argsToLocals, Value.category]; done) | rfl
def QT2 (Z : State) (p0 : Addr) (kc : ClassId) (c0_ : Int32) (c1_ : Int32) (wcs : Int32) (wsf : Value) (h0 : Heap) (n0 : Nat) (v : Option Value) (h : Heap) (L : List Loc) : Prop := v = some (.ref h0.size) ∧ Fr n0 L ∧ Keep h0 h [] ∧ ∃ kb, Arv Z h h0.size kb .byte (4 : Int32) [(.int ((c0_ >>> ((0 : Int32) &&& 31)).toInt8.toInt32)), (.int ((c0_ >>> ((8 : Int32) &&& 31)).toInt8.toInt32)), (.int ((c1_ >>> ((0 : Int32) &&& 31)).toInt8.toInt32)), (.int ((c1_ >>> ((8 : Int32) &&& 31)).toInt8.toInt32))] (.int (0 : Int32))
set_option maxRecDepth 65536 in
set_option maxHeartbeats 40000000 in
theorem rmT2 (l : Launch) (Z : State) (a0 : Array Value) (hw : ∀ d ∈ tables_1, d.before a0 Z = true) (ws : List Jvm.Cond) (p0 : Addr) (kc : ClassId) (c0_ : Int32) (c1_ : Int32) (wcs : Int32) (wsf : Value) (h0 : Heap) (n0 : Nat) (Z0 : n0 ≤ h0.size) (VC : Arv Z h0 p0 kc .char (2 : Int32) [(.int c0_), (.int c1_)] (.int (0 : Int32))) (OLD : Old Z n0 h0) (hcs : ¬ (wcs = (0 : Int32))) (rsf : wsf.isRef = true) (B_wcs : Sta Z Z.heap "java/lang/String" "COMPACT_STRINGS" "Z" (.int wcs)) (B_wsf : Sta Z Z.heap "jdk/internal/util/Preconditions" "SIOOBE_FORMATTER" "Ljava/util/function/BiFunction;" wsf) (B_wad : Sta Z Z.heap "java/lang/StringUTF16" "$assertionsDisabled" "Z" (.int (1 : Int32))) (B_whi : Sta Z Z.heap "java/lang/StringUTF16" "HI_BYTE_SHIFT" "I" (.int (0 : Int32))) (B_wlo : Sta Z Z.heap "java/lang/StringUTF16" "LO_BYTE_SHIFT" "I" (.int (8 : Int32))) :
    MetFree l (⟨"java/lang/StringUTF16", "toBytes", "([CII)[B"⟩ : MethodName) (head1 (Jvm.Cond.code (⟨"java/lang/StringUTF16", "toBytes", "([CII)[B"⟩ : MethodName) jdk_52_method_14_code 5 (some (.array .byte)) :: ws) ({ frames := 2, cells := 1, slots := 4, locals := 24 } : Room)) (fun a U => a = #[(.ref p0), (.int (0 : Int32)), (.int (2 : Int32))] ∧ Z.Warmed39 U.vm ∧ U.heap = h0) (fun _ _ _ _ _ => True) (fun _ U o U' => ∃ v L, o = .returned v ∧ QT2 Z p0 kc c0_ c1_ wcs wsf h0 n0 v U'.heap L ∧ FrameEnd U o U' L ({ frames := 2, cells := 1, slots := 4, locals := 24 } : Room).cells ({ frames := 2, cells := 1, slots := 4, locals := 24 } : Room).slots) := by
  refine MetFree.of_bodySF (plainFor_of_name pn_20) hisR ?_
  intro p e s m args below meth c s₁ Bd hml0 hP hK
  obtain ⟨rfl, hZ, hh⟩ := hP
  have hx := Bd.exec
  have hby := Bd.bytes
  have hml : c.maxLocals = 5 := hml0
  have hown : s.vm.findClass "java/lang/StringUTF16" = some m.cls := findClass_of_methodNamed Bd.named
  have hnm := (name_of_methodNamed Bd.named Bd.method).1
  have X0 : Stand p l e ({ frames := 2, cells := 1, slots := 4, locals := 24 } : Room) s m #[(.ref p0), (.int (0 : Int32)), (.int (2 : Int32))] below meth c s₁ [] 0 0 := Stand.of_body Bd
  have e0 : s₁.heap = h0 := by rw [← hh, Bd.state]; rfl
  have N0 := Fr.nil n0
  refine own_start ?_
  refine own_via (fun t k => castTop (ef_rmT2 m p0) k) ?_
  show own_Go p e below _ (s₁.setTop (mkF m 0 #[oR p0, oI (0 : Int32), oI (2 : Int32), .unset, .unset] []))
  refine own_via (fun t kz => XS.iloadN X0.here hx rfl (hb hby d18_0) rfl kz) ?_
  show own_Go p e below _ (s₁.setTop (mkF m 1 #[oR p0, oI (0 : Int32), oI (2 : Int32), .unset, .unset] [(.int (2 : Int32))]))
  obtain ⟨_, _, ⟨T1, L1, k1, n1⟩, -, X1, ⟨Lc1, hQ1, l1, y1, z1⟩, st1⟩ := Jvm.LawKit.callS X0 hx (y := (⟨"java/lang/StringUTF16", "newBytesFor", "(I)[B"⟩ : MethodName)) hown (mvT hZ (own_w hw 82)) (mvT hZ (own_w hw 83)) (mvT hZ (own_w hw 43)) (mvT hZ (own_w hw 84)) (by decide) (backOf (W := 0) (rmN2 l Z a0 hw [] h0 n0 Z0) hZ (own_w hw 84) (own_w hw 43) (by decide) (by decide)) (g := (mkF m 1 #[oR p0, oI (0 : Int32), oI (2 : Int32), .unset, .unset] [(.int (2 : Int32))])) rfl (by rw [hml]; rfl) (argsL := [(.int (2 : Int32))]) (rest := []) (lenOf pd_18_0 rfl) rfl (by show 2 * 0 + _ ≤ _; exact Nat.le_of_eq rfl) (hb hby d18_1) (fun _ _ => ⟨rfl, e0, (by decide : 0 + 1 ≤ _), (by decide : 0 + 4 ≤ _)⟩)
  dsimp only [Pt.U, Pt.locs, Pt.cells, Pt.slots] at X1 l1 y1 z1 st1 hQ1
  subst l1 y1 z1
  obtain ⟨rfl, Nq1, Kc1, kb1, Vc1⟩ := hQ1
  have N2 := Fr.app N0 Nq1
  refine own_via st1 ?_
  obtain ⟨a1, g1⟩ : ∃ z, z = h0.size := ⟨_, rfl⟩
  rw [← g1] at Vc1 ⊢
  have lt3 : p0 < a1 := Nat.lt_of_lt_of_le VC.lt (Nat.le_of_eq g1.symm)
  have fr4 : n0 ≤ a1 := Nat.le_trans Z0 (Nat.le_of_eq g1.symm)
  have hf5 : h0.size ≤ a1 := Nat.le_trans (Keep.refl h0 []).1 (Nat.le_of_eq g1.symm)
  have O6 : Old Z n0 T1.heap := OLD.keep Kc1 all0
  have V7 := VC.keep Kc1 nin0
  have Zs8 : n0 ≤ T1.heap.size := Nat.le_trans Z0 Kc1.1
  have K9 : Keep h0 T1.heap [] := (Keep.refl h0 []).trans Kc1 all0
  refine own_via (fun t kz => XS.astoreN X1.here hx rfl (hb hby d18_4) rfl rfl (l' := #[oR p0, oI (0 : Int32), oI (2 : Int32), oR a1, .unset]) rfl kz) ?_
  refine own_via (fun t kz => XS.iconst X1.here hx rfl (hb hby d18_5) kz) ?_
  refine own_via (fun t kz => XS.istore X1.here hx rfl (hb hby d18_6) rfl (l' := #[oR p0, oI (0 : Int32), oI (2 : Int32), oR a1, oI (0 : Int32)]) rfl kz) ?_
  refine own_via (fun t kz => XS.iload X1.here hx rfl (hb hby d18_8) rfl kz) ?_
  refine own_via (fun t kz => XS.iloadN X1.here hx rfl (hb hby d18_10) rfl kz) ?_
  show own_Go p e below _ (T1.setTop (mkF m 11 #[oR p0, oI (0 : Int32), oI (2 : Int32), oR a1, oI (0 : Int32)] [(.int (2 : Int32)), (.int (0 : Int32))]))
  refine own_via (fun t kz => XS.icmpNo X1.here hx rfl (hb hby d18_11) rfl (tlt (by decide : (0 : Int32) < (2 : Int32))).2.1 kz) ?_
  refine own_via (fun t kz => XS.aloadN X1.here hx rfl (hb hby d18_14) rfl rfl kz) ?_
  refine own_via (fun t kz => XS.iload X1.here hx rfl (hb hby d18_15) rfl kz) ?_
  refine own_via (fun t kz => XS.aloadN X1.here hx rfl (hb hby d18_17) rfl rfl kz) ?_
  refine own_via (fun t kz => XS.iloadN X1.here hx rfl (hb hby d18_18) rfl kz) ?_
  show own_Go p e below _ (T1.setTop (mkF m 19 #[oR p0, oI (0 : Int32), oI (2 : Int32), oR a1, oI (0 : Int32)] [(.int (0 : Int32)), (.ref p0), (.int (0 : Int32)), (.ref a1)]))
  obtain ⟨cl10, Ar10, kc10, Sz10, Nn10, Hs10, Gs10⟩ := id V7
  have in10 := inb_of (j := (0 : Int32)) Sz10 ⟨by decide, by decide⟩
  have at10 : cl10.slots[((0 : Int32)).toNatClampNeg]? = some (.int c0_) := Hs10.at in10 rfl
  refine own_via (fun t kz => X1.caload hx (j := (0 : Int32)) (v := (.int c0_)) Ar10.1 (State.isArrayOf_alike hZ.alike Ar10.2.1) Ar10.2.2 in10 at10 (g := (mkF m 19 #[oR p0, oI (0 : Int32), oI (2 : Int32), oR a1, oI (0 : Int32)] [(.int (0 : Int32)), (.ref p0), (.int (0 : Int32)), (.ref a1)])) rfl rfl (hb hby d18_19) t kz) ?_
  show own_Go p e below _ (T1.setTop (mkF m 20 #[oR p0, oI (0 : Int32), oI (2 : Int32), oR a1, oI (0 : Int32)] [(.int c0_), (.int (0 : Int32)), (.ref a1)]))
  obtain ⟨_, _, ⟨T11, L11, k11, n11⟩, -, X11, ⟨Lc11, hQ11, l11, y11, z11⟩, st11⟩ := Jvm.LawKit.callS X1 hx (y := (⟨"java/lang/StringUTF16", "putChar", "([BII)V"⟩ : MethodName)) hown (mvT hZ (own_w hw 89)) (mvT hZ (own_w hw 90)) (mvT hZ (own_w hw 43)) (mvT hZ (own_w hw 91)) (by decide) (backOf (W := 0) (rmP2_0 l Z a0 hw [] a1 c0_ kb1 (0 : Int32) (0 : Int32) (0 : Int32) (0 : Int32) T1.heap n0 Zs8 fr4 Vc1 (B_wad.ext O6.2) (B_whi.ext O6.2) (B_wlo.ext O6.2)) hZ (own_w hw 91) (own_w hw 43) (by decide) (by decide)) (g := (mkF m 20 #[oR p0, oI (0 : Int32), oI (2 : Int32), oR a1, oI (0 : Int32)] [(.int c0_), (.int (0 : Int32)), (.ref a1)])) rfl (by rw [hml]; rfl) (argsL := [(.ref a1), (.int (0 : Int32)), (.int c0_)]) (rest := []) (lenOf pd_18_1 rfl) rfl (by show 2 * 0 + _ ≤ _; exact Nat.le_of_eq rfl) (hb hby d18_20) (fun _ _ => ⟨rfl, rfl, (by decide : 1 + 0 ≤ _), (by decide : 4 + 0 ≤ _)⟩)
  dsimp only [Pt.U, Pt.locs, Pt.cells, Pt.slots] at X11 l11 y11 z11 st11 hQ11
  subst l11 y11 z11
  obtain ⟨rfl, Nq11, Kc11, Vc11⟩ := hQ11
  have N12 := Fr.app N2 Nq11
  refine own_via st11 ?_
  have O13 : Old Z n0 T11.heap := O6.keep Kc11 (allS fr4 all0)
  have V14 := V7.keep Kc11 (ninS (Nat.ne_of_lt lt3) nin0)
  have Zs15 : n0 ≤ T11.heap.size := Nat.le_trans Zs8 Kc11.1
  have K16 : Keep h0 T11.heap [] := K9.trans Kc11 (allS (Or.inr hf5) all0)
  show own_Go p e below _ (T11.setTop (mkF m 23 #[oR p0, oI (0 : Int32), oI (2 : Int32), oR a1, oI (0 : Int32)] []))
  refine own_via (fun t kz => XS.iinc X11.here hx rfl (hb hby d18_23) rfl (l' := #[oR p0, oI (1 : Int32), oI (2 : Int32), oR a1, oI (0 : Int32)]) rfl kz) ?_
  show own_Go p e below _ (T11.setTop (mkF m 26 #[oR p0, oI (1 : Int32), oI (2 : Int32), oR a1, oI (0 : Int32)] []))
  refine own_via (fun t kz => XS.iinc X11.here hx rfl (hb hby d18_26) rfl (l' := #[oR p0, oI (1 : Int32), oI (2 : Int32), oR a1, oI (1 : Int32)]) rfl kz) ?_
  refine own_via (fun t kz => XS.goto X11.here hx rfl (pc0 := 29) (pc' := 8) rfl (hb hby d18_29) (by decide) (by decide) kz) ?_
  refine own_via (fun t kz => XS.iload X11.here hx rfl (hb hby d18_8) rfl kz) ?_
  refine own_via (fun t kz => XS.iloadN X11.here hx rfl (hb hby d18_10) rfl kz) ?_
  show own_Go p e below _ (T11.setTop (mkF m 11 #[oR p0, oI (1 : Int32), oI (2 : Int32), oR a1, oI (1 : Int32)] [(.int (2 : Int32)), (.int (1 : Int32))]))
  refine own_via (fun t kz => XS.icmpNo X11.here hx rfl (hb hby d18_11) rfl (tlt (by decide : (1 : Int32) < (2 : Int32))).2.1 kz) ?_
  refine own_via (fun t kz => XS.aloadN X11.here hx rfl (hb hby d18_14) rfl rfl kz) ?_
  refine own_via (fun t kz => XS.iload X11.here hx rfl (hb hby d18_15) rfl kz) ?_
  refine own_via (fun t kz => XS.aloadN X11.here hx rfl (hb hby d18_17) rfl rfl kz) ?_
  refine own_via (fun t kz => XS.iloadN X11.here hx rfl (hb hby d18_18) rfl kz) ?_
  show own_Go p e below _ (T11.setTop (mkF m 19 #[oR p0, oI (1 : Int32), oI (2 : Int32), oR a1, oI (1 : Int32)] [(.int (1 : Int32)), (.ref p0), (.int (1 : Int32)), (.ref a1)]))
  obtain ⟨cl17, Ar17, kc17, Sz17, Nn17, Hs17, Gs17⟩ := id V14
  have in17 := inb_of (j := (1 : Int32)) Sz17 ⟨by decide, by decide⟩
  have at17 : cl17.slots[((1 : Int32)).toNatClampNeg]? = some (.int c1_) := Hs17.at in17 rfl
  refine own_via (fun t kz => X11.caload hx (j := (1 : Int32)) (v := (.int c1_)) Ar17.1 (State.isArrayOf_alike hZ.alike Ar17.2.1) Ar17.2.2 in17 at17 (g := (mkF m 19 #[oR p0, oI (1 : Int32), oI (2 : Int32), oR a1, oI (1 : Int32)] [(.int (1 : Int32)), (.ref p0), (.int (1 : Int32)), (.ref a1)])) rfl rfl (hb hby d18_19) t kz) ?_
  show own_Go p e below _ (T11.setTop (mkF m 20 #[oR p0, oI (1 : Int32), oI (2 : Int32), oR a1, oI (1 : Int32)] [(.int c1_), (.int (1 : Int32)), (.ref a1)]))
  obtain ⟨_, _, ⟨T18, L18, k18, n18⟩, -, X18, ⟨Lc18, hQ18, l18, y18, z18⟩, st18⟩ := Jvm.LawKit.callS X11 hx (y := (⟨"java/lang/StringUTF16", "putChar", "([BII)V"⟩ : MethodName)) hown (mvT hZ (own_w hw 89)) (mvT hZ (own_w hw 90)) (mvT hZ (own_w hw 43)) (mvT hZ (own_w hw 91)) (by decide) (backOf (W := 0) (rmP2_1 l Z a0 hw [] a1 c1_ kb1 ((c0_ >>> ((0 : Int32) &&& 31)).toInt8.toInt32) ((c0_ >>> ((8 : Int32) &&& 31)).toInt8.toInt32) (0 : Int32) (0 : Int32) T11.heap n0 Zs15 fr4 Vc11 (B_wad.ext O13.2) (B_whi.ext O13.2) (B_wlo.ext O13.2)) hZ (own_w hw 91) (own_w hw 43) (by decide) (by decide)) (g := (mkF m 20 #[oR p0, oI (1 : Int32), oI (2 : Int32), oR a1, oI (1 : Int32)] [(.int c1_), (.int (1 : Int32)), (.ref a1)])) rfl (by rw [hml]; rfl) (argsL := [(.ref a1), (.int (1 : Int32)), (.int c1_)]) (rest := []) (lenOf pd_18_1 rfl) rfl (by show 2 * 0 + _ ≤ _; exact Nat.le_of_eq rfl) (hb hby d18_20) (fun _ _ => ⟨rfl, rfl, (by decide : 1 + 0 ≤ _), (by decide : 4 + 0 ≤ _)⟩)
  dsimp only [Pt.U, Pt.locs, Pt.cells, Pt.slots] at X18 l18 y18 z18 st18 hQ18
  subst l18 y18 z18
  obtain ⟨rfl, Nq18, Kc18, Vc18⟩ := hQ18
  have N19 := Fr.app N12 Nq18
  refine own_via st18 ?_
  have O20 : Old Z n0 T18.heap := O13.keep Kc18 (allS fr4 all0)
  have V21 := V14.keep Kc18 (ninS (Nat.ne_of_lt lt3) nin0)
  have Zs22 : n0 ≤ T18.heap.size := Nat.le_trans Zs15 Kc18.1
  have K23 : Keep h0 T18.heap [] := K16.trans Kc18 (allS (Or.inr hf5) all0)
  show own_Go p e below _ (T18.setTop (mkF m 23 #[oR p0, oI (1 : Int32), oI (2 : Int32), oR a1, oI (1 : Int32)] []))
  refine own_via (fun t kz => XS.iinc X18.here hx rfl (hb hby d18_23) rfl (l' := #[oR p0, oI (2 : Int32), oI (2 : Int32), oR a1, oI (1 : Int32)]) rfl kz) ?_
  show own_Go p e below _ (T18.setTop (mkF m 26 #[oR p0, oI (2 : Int32), oI (2 : Int32), oR a1, oI (1 : Int32)] []))
  refine own_via (fun t kz => XS.iinc X18.here hx rfl (hb hby d18_26) rfl (l' := #[oR p0, oI (2 : Int32), oI (2 : Int32), oR a1, oI (2 : Int32)]) rfl kz) ?_
  refine own_via (fun t kz => XS.goto X18.here hx rfl (pc0 := 29) (pc' := 8) rfl (hb hby d18_29) (by decide) (by decide) kz) ?_
  refine own_via (fun t kz => XS.iload X18.here hx rfl (hb hby d18_8) rfl kz) ?_
  refine own_via (fun t kz => XS.iloadN X18.here hx rfl (hb hby d18_10) rfl kz) ?_
  show own_Go p e below _ (T18.setTop (mkF m 11 #[oR p0, oI (2 : Int32), oI (2 : Int32), oR a1, oI (2 : Int32)] [(.int (2 : Int32)), (.int (2 : Int32))]))
  refine own_via (fun t kz => XS.icmpYes X18.here hx rfl (pc0 := 11) (pc' := 32) rfl (hb hby d18_11) rfl (flt (by decide : ¬ ((2 : Int32) < (2 : Int32)))).2.1 (by decide) (by decide) kz) ?_
  refine own_via (fun t kz => XS.aloadN X18.here hx rfl (hb hby d18_32) rfl rfl kz) ?_
  show own_Go p e below _ (T18.setTop (mkF m 33 #[oR p0, oI (2 : Int32), oI (2 : Int32), oR a1, oI (2 : Int32)] [(.ref a1)]))
  obtain ⟨fs, hr, hrun, hended, hW, hsame⟩ := X18.leave (v := some (.ref a1)) (fun h => by rw [Bd.returns] at h; cases h)
  refine ⟨_, _, retOut X18 hx (i := .areturn) Bd.returns rfl (Or.inr (Or.inr (Or.inr (Or.inr ⟨rfl, rfl, rfl⟩)))) (hb hby d18_33) hr, hrun, hended, _, _, rfl, ?_, ⟨_, rfl⟩, hW, hsame.mono (by decide) (by decide)⟩
  show QT2 Z p0 kc c0_ c1_ wcs wsf h0 n0 _ T18.heap _
  exact ⟨by rw [g1], N19, K23, _, by rw [← g1]; exact Vc18⟩
def fG2_0 (whi : Int32) (wlo : Int32) (b0_ : Int32) (b1_ : Int32) : Int32 := ((((b0_ &&& (255 : Int32)) <<< (whi &&& 31)) ||| ((b1_ &&& (255 : Int32)) <<< (wlo &&& 31))).toUInt32.toUInt16.toUInt32.toInt32)
theorem ef_rmG2_0 (m : MethodId) (q0 : Addr) : entryFrame m #[(.ref q0), (.int (0 : Int32))] 2 = mkF m 0 #[oR q0, oI (0 : Int32)] [] := by first | (simp [entryFrame, mkF, argsToLocals, Value.category]; done) | rfl
def QG2_0 (Z : State) (p0 : Addr) (wad : Int32) (whi : Int32) (wlo : Int32) (ka : ClassId) (b0_ : Int32) (b1_ : Int32) (b2_ : Int32) (b3_ : Int32) (r : Int32) (h0 : Heap) (n0 : Nat) (v : Option Value) (h : Heap) (L : List Loc) : Prop := v = some (.int r) ∧ Fr n0 L ∧ h = h0
set_option maxRecDepth 65536 in
set_option maxHeartbeats 40000000 in
theorem rmG2_0 (l : Launch) (Z : State) (a0 : Array Value) (hw : ∀ d ∈ tables_1, d.before a0 Z = true) (ws : List Jvm.Cond) (p0 : Addr) (wad : Int32) (whi : Int32) (wlo : Int32) (ka : ClassId) (b0_ : Int32) (b1_ : Int32) (b2_ : Int32) (b3_ : Int32) (r : Int32) (h0 : Heap) (n0 : Nat) (Z0 : n0 ≤ h0.size) (hwad : wad = (1 : Int32)) (S_wad : Sta Z h0 "java/lang/StringUTF16" "$assertionsDisabled" "Z" (.int wad)) (S_whi : Sta Z h0 "java/lang/StringUTF16" "HI_BYTE_SHIFT" "I" (.int whi)) (S_wlo : Sta Z h0 "java/lang/StringUTF16" "LO_BYTE_SHIFT" "I" (.int wlo)) (V_p0 : Arv Z h0 p0 ka .byte (4 : Int32) [(.int b0_), (.int b1_), (.int b2_), (.int b3_)] (.int (0 : Int32))) (hr0 : (fG2_0 whi wlo b0_ b1_) = r) :
    MetFree l (⟨"java/lang/StringUTF16", "getChar", "([BI)C"⟩ : MethodName) (head1 (Jvm.Cond.code (⟨"java/lang/StringUTF16", "getChar", "([BI)C"⟩ : MethodName) jdk_52_method_5_code 2 (some .char) :: ws) ({ frames := 0, cells := 0, slots := 0, locals := 0 } : Room)) (fun a U => a = #[(.ref p0), (.int (0 : Int32))] ∧ Z.Warmed39 U.vm ∧ U.heap = h0) (fun _ _ _ _ _ => True) (fun _ U o U' => ∃ v L, o = .returned v ∧ QG2_0 Z p0 wad whi wlo ka b0_ b1_ b2_ b3_ r h0 n0 v U'.heap L ∧ FrameEnd U o U' L ({ frames := 0, cells := 0, slots := 0, locals := 0 } : Room).cells ({ frames := 0, cells := 0, slots := 0, locals := 0 } : Room).slots) := by
  refine MetFree.of_bodySF (plainFor_of_name pn_20) hisR ?_
  intro p e s m args below meth c s₁ Bd hml0 hP hK
  obtain ⟨rfl, hZ, hh⟩ := hP
  have hx := Bd.exec
  have hby := Bd.bytes
  have hml : c.maxLocals = 2 := hml0
  have hown : s.vm.findClass "java/lang/StringUTF16" = some m.cls := findClass_of_methodNamed Bd.named
  have hnm := (name_of_methodNamed Bd.named Bd.method).1
  have X0 : Stand p l e ({ frames := 0, cells := 0, slots := 0, locals := 0 } : Room) s m #[(.ref p0), (.int (0 : Int32))] below meth c s₁ [] 0 0 := Stand.of_body Bd
  have e0 : s₁.heap = h0 := by rw [← hh, Bd.state]; rfl
  have N0 := Fr.nil n0
  refine own_start ?_
  refine own_via (fun t k => castTop (ef_rmG2_0 m p0) k) ?_
  show own_Go p e below _ (s₁.setTop (mkF m 0 #[oR p0, oI (0 : Int32)] []))
  obtain ⟨T1, X1, e1, st1⟩ := getS2 X0 hx hZ hown (host := "") (Or.inl (own_w hw 92)) Via.refl e0 S_wad (g := (mkF m 0 #[oR p0, oI (0 : Int32)] [])) rfl (hb hby d22_0)
  refine own_via st1 ?_
  show own_Go p e below _ (T1.setTop (mkF m 3 #[oR p0, oI (0 : Int32)] [(.int wad)]))
  refine own_via (fun t kz => XS.ifYes X1.here hx rfl (pc0 := 3) (pc' := 28) rfl (hb hby d22_3) rfl ((if0 _ _).trans (feq (by rw [hwad]; decide : ¬ wad = (0 : Int32))).2) (by decide) (by decide) kz) ?_
  refine own_via (fun t kz => XS.iloadN X1.here hx rfl (hb hby d22_28) rfl kz) ?_
  refine own_via (fun t kz => XS.iconst X1.here hx rfl (hb hby d22_29) kz) ?_
  show own_Go p e below _ (T1.setTop (mkF m 30 #[oR p0, oI (0 : Int32)] [(.int (1 : Int32)), (.int (0 : Int32))]))
  refine own_via (fun t kz => XS.ishl X1.here hx rfl (hb hby d22_30) rfl kz) ?_
  refine own_via (fun t kz => XS.istoreN X1.here hx rfl (hb hby d22_31) rfl (l' := #[oR p0, oI (0 : Int32)]) rfl kz) ?_
  refine own_via (fun t kz => XS.aloadN X1.here hx rfl (hb hby d22_32) rfl rfl kz) ?_
  refine own_via (fun t kz => XS.iloadN X1.here hx rfl (hb hby d22_33) rfl kz) ?_
  show own_Go p e below _ (T1.setTop (mkF m 34 #[oR p0, oI (0 : Int32)] [(.int (0 : Int32)), (.ref p0)]))
  refine own_via (fun t kz => XS.iinc X1.here hx rfl (hb hby d22_34) rfl (l' := #[oR p0, oI (1 : Int32)]) rfl kz) ?_
  show own_Go p e below _ (T1.setTop (mkF m 37 #[oR p0, oI (1 : Int32)] [(.int (0 : Int32)), (.ref p0)]))
  obtain ⟨cl2, Ar2, kc2, Sz2, Nn2, Hs2, Gs2⟩ := id V_p0
  have in2 := inb_of (j := (0 : Int32)) Sz2 ⟨by decide, by decide⟩
  have at2 : cl2.slots[((0 : Int32)).toNatClampNeg]? = some (.int b0_) := Hs2.at in2 rfl
  refine own_via (fun t kz => X1.baloadBytes hx (j := (0 : Int32)) (v := (.int b0_)) (by rw [e1]; exact Ar2.1) (State.isArrayOf_alike hZ.alike Ar2.2.1) Ar2.2.2 in2 at2 (g := (mkF m 37 #[oR p0, oI (1 : Int32)] [(.int (0 : Int32)), (.ref p0)])) rfl rfl (hb hby d22_37) t kz) ?_
  refine own_via (fun t kz => XS.sipush X1.here hx rfl (hb hby d22_38) kz) ?_
  refine own_via (fun t kz => XS.iand X1.here hx rfl (hb hby d22_41) rfl kz) ?_
  show own_Go p e below _ (T1.setTop (mkF m 42 #[oR p0, oI (1 : Int32)] [(.int (b0_ &&& (255 : Int32)))]))
  obtain ⟨T3, X3, e3, st3⟩ := getS2 X1 hx hZ hown (host := "") (Or.inl (own_w hw 93)) Via.refl e1 S_whi (g := (mkF m 42 #[oR p0, oI (1 : Int32)] [(.int (b0_ &&& (255 : Int32)))])) rfl (hb hby d22_42)
  refine own_via st3 ?_
  show own_Go p e below _ (T3.setTop (mkF m 45 #[oR p0, oI (1 : Int32)] [(.int whi), (.int (b0_ &&& (255 : Int32)))]))
  refine own_via (fun t kz => XS.ishl X3.here hx rfl (hb hby d22_45) rfl kz) ?_
  refine own_via (fun t kz => XS.aloadN X3.here hx rfl (hb hby d22_46) rfl rfl kz) ?_
  refine own_via (fun t kz => XS.iloadN X3.here hx rfl (hb hby d22_47) rfl kz) ?_
  show own_Go p e below _ (T3.setTop (mkF m 48 #[oR p0, oI (1 : Int32)] [(.int (1 : Int32)), (.ref p0), (.int ((b0_ &&& (255 : Int32)) <<< (whi &&& 31)))]))
  obtain ⟨cl4, Ar4, kc4, Sz4, Nn4, Hs4, Gs4⟩ := id V_p0
  have in4 := inb_of (j := (1 : Int32)) Sz4 ⟨by decide, by decide⟩
  have at4 : cl4.slots[((1 : Int32)).toNatClampNeg]? = some (.int b1_) := Hs4.at in4 rfl
  refine own_via (fun t kz => X3.baloadBytes hx (j := (1 : Int32)) (v := (.int b1_)) (by rw [e3]; exact Ar4.1) (State.isArrayOf_alike hZ.alike Ar4.2.1) Ar4.2.2 in4 at4 (g := (mkF m 48 #[oR p0, oI (1 : Int32)] [(.int (1 : Int32)), (.ref p0), (.int ((b0_ &&& (255 : Int32)) <<< (whi &&& 31)))])) rfl rfl (hb hby d22_48) t kz) ?_
  refine own_via (fun t kz => XS.sipush X3.here hx rfl (hb hby d22_49) kz) ?_
  refine own_via (fun t kz => XS.iand X3.here hx rfl (hb hby d22_52) rfl kz) ?_
  show own_Go p e below _ (T3.setTop (mkF m 53 #[oR p0, oI (1 : Int32)] [(.int (b1_ &&& (255 : Int32))), (.int ((b0_ &&& (255 : Int32)) <<< (whi &&& 31)))]))
  obtain ⟨T5, X5, e5, st5⟩ := getS2 X3 hx hZ hown (host := "") (Or.inl (own_w hw 94)) Via.refl e3 S_wlo (g := (mkF m 53 #[oR p0, oI (1 : Int32)] [(.int (b1_ &&& (255 : Int32))), (.int ((b0_ &&& (255 : Int32)) <<< (whi &&& 31)))])) rfl (hb hby d22_53)
  refine own_via st5 ?_
  show own_Go p e below _ (T5.setTop (mkF m 56 #[oR p0, oI (1 : Int32)] [(.int wlo), (.int (b1_ &&& (255 : Int32))), (.int ((b0_ &&& (255 : Int32)) <<< (whi &&& 31)))]))
  refine own_via (fun t kz => XS.ishl X5.here hx rfl (hb hby d22_56) rfl kz) ?_
  show own_Go p e below _ (T5.setTop (mkF m 57 #[oR p0, oI (1 : Int32)] [(.int ((b1_ &&& (255 : Int32)) <<< (wlo &&& 31))), (.int ((b0_ &&& (255 : Int32)) <<< (whi &&& 31)))]))
  refine own_via (fun t kz => XS.ior X5.here hx rfl (hb hby d22_57) rfl kz) ?_
  show own_Go p e below _ (T5.setTop (mkF m 58 #[oR p0, oI (1 : Int32)] [(.int (((b0_ &&& (255 : Int32)) <<< (whi &&& 31)) ||| ((b1_ &&& (255 : Int32)) <<< (wlo &&& 31))))]))
  refine own_via (fun t kz => XS.i2c X5.here hx rfl (hb hby d22_58) rfl kz) ?_
  show own_Go p e below _ (T5.setTop (mkF m 59 #[oR p0, oI (1 : Int32)] [(.int ((((b0_ &&& (255 : Int32)) <<< (whi &&& 31)) ||| ((b1_ &&& (255 : Int32)) <<< (wlo &&& 31))).toUInt32.toUInt16.toUInt32.toInt32))]))
  have hv : (fG2_0 whi wlo b0_ b1_) = ((((b0_ &&& (255 : Int32)) <<< (whi &&& 31)) ||| ((b1_ &&& (255 : Int32)) <<< (wlo &&& 31))).toUInt32.toUInt16.toUInt32.toInt32) := by unfold fG2_0; rfl
  obtain ⟨fs, hr, hrun, hended, hW, hsame⟩ := X5.leave (v := some (.int ((((b0_ &&& (255 : Int32)) <<< (whi &&& 31)) ||| ((b1_ &&& (255 : Int32)) <<< (wlo &&& 31))).toUInt32.toUInt16.toUInt32.toInt32))) (fun h => by rw [Bd.returns] at h; cases h)
  refine ⟨_, _, retOut X5 hx (i := .ireturn) Bd.returns (narrow_c _) (Or.inl ⟨rfl, by simp, _, rfl⟩) (hb hby d22_59) hr, hrun, hended, _, _, rfl, ?_, ⟨_, rfl⟩, hW, hsame.mono (by decide) (by decide)⟩
  show QG2_0 Z p0 wad whi wlo ka b0_ b1_ b2_ b3_ r h0 n0 _ T5.heap _
  rw [e5]
  exact ⟨by rw [← hr0, hv], N0, rfl⟩
def fG2_1 (whi : Int32) (wlo : Int32) (b2_ : Int32) (b3_ : Int32) : Int32 := ((((b2_ &&& (255 : Int32)) <<< (whi &&& 31)) ||| ((b3_ &&& (255 : Int32)) <<< (wlo &&& 31))).toUInt32.toUInt16.toUInt32.toInt32)
theorem ef_rmG2_1 (m : MethodId) (q0 : Addr) : entryFrame m #[(.ref q0), (.int (1 : Int32))] 2 = mkF m 0 #[oR q0, oI (1 : Int32)] [] := by first | (simp [entryFrame, mkF, argsToLocals, Value.category]; done) | rfl
def QG2_1 (Z : State) (p0 : Addr) (wad : Int32) (whi : Int32) (wlo : Int32) (ka : ClassId) (b0_ : Int32) (b1_ : Int32) (b2_ : Int32) (b3_ : Int32) (r : Int32) (h0 : Heap) (n0 : Nat) (v : Option Value) (h : Heap) (L : List Loc) : Prop := v = some (.int r) ∧ Fr n0 L ∧ h = h0
set_option maxRecDepth 65536 in
set_option maxHeartbeats 40000000 in
theorem rmG2_1 (l : Launch) (Z : State) (a0 : Array Value) (hw : ∀ d ∈ tables_1, d.before a0 Z = true) (ws : List Jvm.Cond) (p0 : Addr) (wad : Int32) (whi : Int32) (wlo : Int32) (ka : ClassId) (b0_ : Int32) (b1_ : Int32) (b2_ : Int32) (b3_ : Int32) (r : Int32) (h0 : Heap) (n0 : Nat) (Z0 : n0 ≤ h0.size) (hwad : wad = (1 : Int32)) (S_wad : Sta Z h0 "java/lang/StringUTF16" "$assertionsDisabled" "Z" (.int wad)) (S_whi : Sta Z h0 "java/lang/StringUTF16" "HI_BYTE_SHIFT" "I" (.int whi)) (S_wlo : Sta Z h0 "java/lang/StringUTF16" "LO_BYTE_SHIFT" "I" (.int wlo)) (V_p0 : Arv Z h0 p0 ka .byte (4 : Int32) [(.int b0_), (.int b1_), (.int b2_), (.int b3_)] (.int (0 : Int32))) (hr0 : (fG2_1 whi wlo b2_ b3_) = r) :
    MetFree l (⟨"java/lang/StringUTF16", "getChar", "([BI)C"⟩ : MethodName) (head1 (Jvm.Cond.code (⟨"java/lang/StringUTF16", "getChar", "([BI)C"⟩ : MethodName) jdk_52_method_5_code 2 (some .char) :: ws) ({ frames := 0, cells := 0, slots := 0, locals := 0 } : Room)) (fun a U => a = #[(.ref p0), (.int (1 : Int32))] ∧ Z.Warmed39 U.vm ∧ U.heap = h0) (fun _ _ _ _ _ => True) (fun _ U o U' => ∃ v L, o = .returned v ∧ QG2_1 Z p0 wad whi wlo ka b0_ b1_ b2_ b3_ r h0 n0 v U'.heap L ∧ FrameEnd U o U' L ({ frames := 0, cells := 0, slots := 0, locals := 0 } : Room).cells ({ frames := 0, cells := 0, slots := 0, locals := 0 } : Room).slots) := by
  refine MetFree.of_bodySF (plainFor_of_name pn_20) hisR ?_
  intro p e s m args below meth c s₁ Bd hml0 hP hK
  obtain ⟨rfl, hZ, hh⟩ := hP
  have hx := Bd.exec
  have hby := Bd.bytes
  have hml : c.maxLocals = 2 := hml0
  have hown : s.vm.findClass "java/lang/StringUTF16" = some m.cls := findClass_of_methodNamed Bd.named
  have hnm := (name_of_methodNamed Bd.named Bd.method).1
  have X0 : Stand p l e ({ frames := 0, cells := 0, slots := 0, locals := 0 } : Room) s m #[(.ref p0), (.int (1 : Int32))] below meth c s₁ [] 0 0 := Stand.of_body Bd
  have e0 : s₁.heap = h0 := by rw [← hh, Bd.state]; rfl
  have N0 := Fr.nil n0
  refine own_start ?_
  refine own_via (fun t k => castTop (ef_rmG2_1 m p0) k) ?_
  show own_Go p e below _ (s₁.setTop (mkF m 0 #[oR p0, oI (1 : Int32)] []))
  obtain ⟨T1, X1, e1, st1⟩ := getS2 X0 hx hZ hown (host := "") (Or.inl (own_w hw 92)) Via.refl e0 S_wad (g := (mkF m 0 #[oR p0, oI (1 : Int32)] [])) rfl (hb hby d22_0)
  refine own_via st1 ?_
  show own_Go p e below _ (T1.setTop (mkF m 3 #[oR p0, oI (1 : Int32)] [(.int wad)]))
  refine own_via (fun t kz => XS.ifYes X1.here hx rfl (pc0 := 3) (pc' := 28) rfl (hb hby d22_3) rfl ((if0 _ _).trans (feq (by rw [hwad]; decide : ¬ wad = (0 : Int32))).2) (by decide) (by decide) kz) ?_
  refine own_via (fun t kz => XS.iloadN X1.here hx rfl (hb hby d22_28) rfl kz) ?_
  refine own_via (fun t kz => XS.iconst X1.here hx rfl (hb hby d22_29) kz) ?_
  show own_Go p e below _ (T1.setTop (mkF m 30 #[oR p0, oI (1 : Int32)] [(.int (1 : Int32)), (.int (1 : Int32))]))
  refine own_via (fun t kz => XS.ishl X1.here hx rfl (hb hby d22_30) rfl kz) ?_
  refine own_via (fun t kz => XS.istoreN X1.here hx rfl (hb hby d22_31) rfl (l' := #[oR p0, oI (2 : Int32)]) rfl kz) ?_
  refine own_via (fun t kz => XS.aloadN X1.here hx rfl (hb hby d22_32) rfl rfl kz) ?_
  refine own_via (fun t kz => XS.iloadN X1.here hx rfl (hb hby d22_33) rfl kz) ?_
  show own_Go p e below _ (T1.setTop (mkF m 34 #[oR p0, oI (2 : Int32)] [(.int (2 : Int32)), (.ref p0)]))
  refine own_via (fun t kz => XS.iinc X1.here hx rfl (hb hby d22_34) rfl (l' := #[oR p0, oI (3 : Int32)]) rfl kz) ?_
  show own_Go p e below _ (T1.setTop (mkF m 37 #[oR p0, oI (3 : Int32)] [(.int (2 : Int32)), (.ref p0)]))
  obtain ⟨cl2, Ar2, kc2, Sz2, Nn2, Hs2, Gs2⟩ := id V_p0
  have in2 := inb_of (j := (2 : Int32)) Sz2 ⟨by decide, by decide⟩
  have at2 : cl2.slots[((2 : Int32)).toNatClampNeg]? = some (.int b2_) := Hs2.at in2 rfl
  refine own_via (fun t kz => X1.baloadBytes hx (j := (2 : Int32)) (v := (.int b2_)) (by rw [e1]; exact Ar2.1) (State.isArrayOf_alike hZ.alike Ar2.2.1) Ar2.2.2 in2 at2 (g := (mkF m 37 #[oR p0, oI (3 : Int32)] [(.int (2 : Int32)), (.ref p0)])) rfl rfl (hb hby d22_37) t kz) ?_
  refine own_via (fun t kz => XS.sipush X1.here hx rfl (hb hby d22_38) kz) ?_
  refine own_via (fun t kz => XS.iand X1.here hx rfl (hb hby d22_41) rfl kz) ?_
  show own_Go p e below _ (T1.setTop (mkF m 42 #[oR p0, oI (3 : Int32)] [(.int (b2_ &&& (255 : Int32)))]))
  obtain ⟨T3, X3, e3, st3⟩ := getS2 X1 hx hZ hown (host := "") (Or.inl (own_w hw 93)) Via.refl e1 S_whi (g := (mkF m 42 #[oR p0, oI (3 : Int32)] [(.int (b2_ &&& (255 : Int32)))])) rfl (hb hby d22_42)
  refine own_via st3 ?_
  show own_Go p e below _ (T3.setTop (mkF m 45 #[oR p0, oI (3 : Int32)] [(.int whi), (.int (b2_ &&& (255 : Int32)))]))
  refine own_via (fun t kz => XS.ishl X3.here hx rfl (hb hby d22_45) rfl kz) ?_
  refine own_via (fun t kz => XS.aloadN X3.here hx rfl (hb hby d22_46) rfl rfl kz) ?_
  refine own_via (fun t kz => XS.iloadN X3.here hx rfl (hb hby d22_47) rfl kz) ?_
  show own_Go p e below _ (T3.setTop (mkF m 48 #[oR p0, oI (3 : Int32)] [(.int (3 : Int32)), (.ref p0), (.int ((b2_ &&& (255 : Int32)) <<< (whi &&& 31)))]))
  obtain ⟨cl4, Ar4, kc4, Sz4, Nn4, Hs4, Gs4⟩ := id V_p0
  have in4 := inb_of (j := (3 : Int32)) Sz4 ⟨by decide, by decide⟩
  have at4 : cl4.slots[((3 : Int32)).toNatClampNeg]? = some (.int b3_) := Hs4.at in4 rfl
  refine own_via (fun t kz => X3.baloadBytes hx (j := (3 : Int32)) (v := (.int b3_)) (by rw [e3]; exact Ar4.1) (State.isArrayOf_alike hZ.alike Ar4.2.1) Ar4.2.2 in4 at4 (g := (mkF m 48 #[oR p0, oI (3 : Int32)] [(.int (3 : Int32)), (.ref p0), (.int ((b2_ &&& (255 : Int32)) <<< (whi &&& 31)))])) rfl rfl (hb hby d22_48) t kz) ?_
  refine own_via (fun t kz => XS.sipush X3.here hx rfl (hb hby d22_49) kz) ?_
  refine own_via (fun t kz => XS.iand X3.here hx rfl (hb hby d22_52) rfl kz) ?_
  show own_Go p e below _ (T3.setTop (mkF m 53 #[oR p0, oI (3 : Int32)] [(.int (b3_ &&& (255 : Int32))), (.int ((b2_ &&& (255 : Int32)) <<< (whi &&& 31)))]))
  obtain ⟨T5, X5, e5, st5⟩ := getS2 X3 hx hZ hown (host := "") (Or.inl (own_w hw 94)) Via.refl e3 S_wlo (g := (mkF m 53 #[oR p0, oI (3 : Int32)] [(.int (b3_ &&& (255 : Int32))), (.int ((b2_ &&& (255 : Int32)) <<< (whi &&& 31)))])) rfl (hb hby d22_53)
  refine own_via st5 ?_
  show own_Go p e below _ (T5.setTop (mkF m 56 #[oR p0, oI (3 : Int32)] [(.int wlo), (.int (b3_ &&& (255 : Int32))), (.int ((b2_ &&& (255 : Int32)) <<< (whi &&& 31)))]))
  refine own_via (fun t kz => XS.ishl X5.here hx rfl (hb hby d22_56) rfl kz) ?_
  show own_Go p e below _ (T5.setTop (mkF m 57 #[oR p0, oI (3 : Int32)] [(.int ((b3_ &&& (255 : Int32)) <<< (wlo &&& 31))), (.int ((b2_ &&& (255 : Int32)) <<< (whi &&& 31)))]))
  refine own_via (fun t kz => XS.ior X5.here hx rfl (hb hby d22_57) rfl kz) ?_
  show own_Go p e below _ (T5.setTop (mkF m 58 #[oR p0, oI (3 : Int32)] [(.int (((b2_ &&& (255 : Int32)) <<< (whi &&& 31)) ||| ((b3_ &&& (255 : Int32)) <<< (wlo &&& 31))))]))
  refine own_via (fun t kz => XS.i2c X5.here hx rfl (hb hby d22_58) rfl kz) ?_
  show own_Go p e below _ (T5.setTop (mkF m 59 #[oR p0, oI (3 : Int32)] [(.int ((((b2_ &&& (255 : Int32)) <<< (whi &&& 31)) ||| ((b3_ &&& (255 : Int32)) <<< (wlo &&& 31))).toUInt32.toUInt16.toUInt32.toInt32))]))
  have hv : (fG2_1 whi wlo b2_ b3_) = ((((b2_ &&& (255 : Int32)) <<< (whi &&& 31)) ||| ((b3_ &&& (255 : Int32)) <<< (wlo &&& 31))).toUInt32.toUInt16.toUInt32.toInt32) := by unfold fG2_1; rfl
  obtain ⟨fs, hr, hrun, hended, hW, hsame⟩ := X5.leave (v := some (.int ((((b2_ &&& (255 : Int32)) <<< (whi &&& 31)) ||| ((b3_ &&& (255 : Int32)) <<< (wlo &&& 31))).toUInt32.toUInt16.toUInt32.toInt32))) (fun h => by rw [Bd.returns] at h; cases h)
  refine ⟨_, _, retOut X5 hx (i := .ireturn) Bd.returns (narrow_c _) (Or.inl ⟨rfl, by simp, _, rfl⟩) (hb hby d22_59) hr, hrun, hended, _, _, rfl, ?_, ⟨_, rfl⟩, hW, hsame.mono (by decide) (by decide)⟩
  show QG2_1 Z p0 wad whi wlo ka b0_ b1_ b2_ b3_ r h0 n0 _ T5.heap _
  rw [e5]
  exact ⟨by rw [← hr0, hv], N0, rfl⟩
def own_rep2 (Z : State) (h : Heap) (r : Addr) (c0_ c1_ : Int32) : Prop := ((¬ (255 : Int32) < c0_ ∧ ¬ (255 : Int32) < c1_) ∧ ∃ kb : ClassId, Arv Z h r kb .byte (2 : Int32) [(.int (c0_.toInt8.toInt32)), (.int (c1_.toInt8.toInt32))] (.int (0 : Int32))) ∨ (∃ kb : ClassId, Arv Z h r kb .byte (4 : Int32) [(.int ((c0_ >>> ((0 : Int32) &&& 31)).toInt8.toInt32)), (.int ((c0_ >>> ((8 : Int32) &&& 31)).toInt8.toInt32)), (.int ((c1_ >>> ((0 : Int32) &&& 31)).toInt8.toInt32)), (.int ((c1_ >>> ((8 : Int32) &&& 31)).toInt8.toInt32))] (.int (0 : Int32)))
theorem ef_rmB2 (m : MethodId) (q0 : Addr) : entryFrame m #[(.ref q0), (.int (0 : Int32)), (.int (2 : Int32))] 6 = mkF m 0 #[oR q0, oI (0 : Int32), oI (2 : Int32), .unset, .unset, .unset] [] := by first | (simp [entryFrame, mkF, argsToLocals, Value.category]; done) | rfl
def QB2 (Z : State) (p0 : Addr) (kc : ClassId) (c0_ : Int32) (c1_ : Int32) (wcs : Int32) (wsf : Value) (h0 : Heap) (n0 : Nat) (v : Option Value) (h : Heap) (L : List Loc) : Prop := ∃ r : Addr, v = some (.ref r) ∧ Fr n0 L ∧ Keep h0 h [] ∧ h0.size ≤ r ∧ own_rep2 Z h r c0_ c1_
set_option maxRecDepth 65536 in
set_option maxHeartbeats 40000000 in
theorem rmB2 (l : Launch) (Z : State) (a0 : Array Value) (hw : ∀ d ∈ tables_1, d.before a0 Z = true) (ws : List Jvm.Cond) (p0 : Addr) (kc : ClassId) (c0_ : Int32) (c1_ : Int32) (wcs : Int32) (wsf : Value) (h0 : Heap) (n0 : Nat) (Z0 : n0 ≤ h0.size) (VC : Arv Z h0 p0 kc .char (2 : Int32) [(.int c0_), (.int c1_)] (.int (0 : Int32))) (hc0 : own_ch c0_) (hc1 : own_ch c1_) (OLD : Old Z n0 h0) (hcs : ¬ (wcs = (0 : Int32))) (rsf : wsf.isRef = true) (B_wcs : Sta Z Z.heap "java/lang/String" "COMPACT_STRINGS" "Z" (.int wcs)) (B_wsf : Sta Z Z.heap "jdk/internal/util/Preconditions" "SIOOBE_FORMATTER" "Ljava/util/function/BiFunction;" wsf) (B_wad : Sta Z Z.heap "java/lang/StringUTF16" "$assertionsDisabled" "Z" (.int (1 : Int32))) (B_whi : Sta Z Z.heap "java/lang/StringUTF16" "HI_BYTE_SHIFT" "I" (.int (0 : Int32))) (B_wlo : Sta Z Z.heap "java/lang/StringUTF16" "LO_BYTE_SHIFT" "I" (.int (8 : Int32))) :
    MetFree l (⟨"java/lang/StringUTF16", "compress", "([CII)[B"⟩ : MethodName) (head1 (Jvm.Cond.code (⟨"java/lang/StringUTF16", "compress", "([CII)[B"⟩ : MethodName) jdk_52_method_16_code 6 (some (.array .byte)) :: ws) ({ frames := 3, cells := 2, slots := 6, locals := 40 } : Room)) (fun a U => a = #[(.ref p0), (.int (0 : Int32)), (.int (2 : Int32))] ∧ Z.Warmed39 U.vm ∧ U.heap = h0) (fun _ _ _ _ _ => True) (fun _ U o U' => ∃ v L, o = .returned v ∧ QB2 Z p0 kc c0_ c1_ wcs wsf h0 n0 v U'.heap L ∧ FrameEnd U o U' L ({ frames := 3, cells := 2, slots := 6, locals := 40 } : Room).cells ({ frames := 3, cells := 2, slots := 6, locals := 40 } : Room).slots) := by
  refine MetFree.of_bodySF (plainFor_of_name pn_20) hisR ?_
  intro p e s m args below meth c s₁ Bd hml0 hP hK
  obtain ⟨rfl, hZ, hh⟩ := hP
  have hx := Bd.exec
  have hby := Bd.bytes
  have hml : c.maxLocals = 6 := hml0
  have hown : s.vm.findClass "java/lang/StringUTF16" = some m.cls := findClass_of_methodNamed Bd.named
  have hnm := (name_of_methodNamed Bd.named Bd.method).1
  have X0 : Stand p l e ({ frames := 3, cells := 2, slots := 6, locals := 40 } : Room) s m #[(.ref p0), (.int (0 : Int32)), (.int (2 : Int32))] below meth c s₁ [] 0 0 := Stand.of_body Bd
  have e0 : s₁.heap = h0 := by rw [← hh, Bd.state]; rfl
  have N0 := Fr.nil n0
  refine own_start ?_
  refine own_via (fun t k => castTop (ef_rmB2 m p0) k) ?_
  show own_Go p e below _ (s₁.setTop (mkF m 0 #[oR p0, oI (0 : Int32), oI (2 : Int32), .unset, .unset, .unset] []))
  refine own_via (fun t kz => XS.iloadN X0.here hx rfl (hb hby d8_0) rfl kz) ?_
  show own_Go p e below _ (s₁.setTop (mkF m 1 #[oR p0, oI (0 : Int32), oI (2 : Int32), .unset, .unset, .unset] [(.int (2 : Int32))]))
  obtain ⟨T1, h1, k1, X1, e1, E1, A1, st1⟩ := newP X0 hx hZ (aty := .byte) (own_w hw 19) e0 (g := (mkF m 1 #[oR p0, oI (0 : Int32), oI (2 : Int32), .unset, .unset, .unset] [(.int (2 : Int32))])) rfl (hb hby d8_1) rfl (by decide) (cap := 2) (by decide) (by decide) (by decide) (by decide)
  obtain ⟨a1, g1⟩ : ∃ z, z = h0.size := ⟨_, rfl⟩
  rw [← g1] at A1 st1
  refine own_via st1 ?_
  have lt2 : p0 < a1 := Nat.lt_of_lt_of_le VC.lt (Nat.le_of_eq g1.symm)
  have fr3 : n0 ≤ a1 := Nat.le_trans Z0 (Nat.le_of_eq g1.symm)
  have hf4 : h0.size ≤ a1 := Nat.le_trans (Keep.refl h0 []).1 (Nat.le_of_eq g1.symm)
  have O5 : Old Z n0 h1 := OLD.ext E1
  have V6 := VC.ext E1
  have Zs7 : n0 ≤ h1.size := Nat.le_trans Z0 E1.1
  have K8 : Keep h0 h1 [] := (Keep.refl h0 []).ext E1
  have V9 : Arv Z h1 a1 k1 .byte (2 : Int32) [(.int (0 : Int32)), (.int (0 : Int32))] (.int (0 : Int32)) := (Arv.new A1 (by decide)).pad (pad_rep [] (.int (0 : Int32)) 2)
  refine own_via (fun t kz => XS.astoreN X1.here hx rfl (hb hby d8_3) rfl rfl (l' := #[oR p0, oI (0 : Int32), oI (2 : Int32), oR a1, .unset, .unset]) rfl kz) ?_
  refine own_via (fun t kz => XS.aloadN X1.here hx rfl (hb hby d8_4) rfl rfl kz) ?_
  refine own_via (fun t kz => XS.iloadN X1.here hx rfl (hb hby d8_5) rfl kz) ?_
  refine own_via (fun t kz => XS.aloadN X1.here hx rfl (hb hby d8_6) rfl rfl kz) ?_
  refine own_via (fun t kz => XS.iconst X1.here hx rfl (hb hby d8_7) kz) ?_
  show own_Go p e below _ (T1.setTop (mkF m 8 #[oR p0, oI (0 : Int32), oI (2 : Int32), oR a1, .unset, .unset] [(.int (0 : Int32)), (.ref a1), (.int (0 : Int32)), (.ref p0)]))
  refine own_via (fun t kz => XS.iloadN X1.here hx rfl (hb hby d8_8) rfl kz) ?_
  show own_Go p e below _ (T1.setTop (mkF m 9 #[oR p0, oI (0 : Int32), oI (2 : Int32), oR a1, .unset, .unset] [(.int (2 : Int32)), (.int (0 : Int32)), (.ref a1), (.int (0 : Int32)), (.ref p0)]))
  by_cases hc9_10 : (255 : Int32) < c0_
  · obtain ⟨_, _, ⟨T11, L11, k11, n11⟩, -, X11, ⟨Lc11, hQ11, l11, y11, z11⟩, st11⟩ := Jvm.LawKit.callS X1 hx (y := (⟨"java/lang/StringUTF16", "compress", "([CI[BII)I"⟩ : MethodName)) hown (mvT hZ (own_w hw 45)) (mvT hZ (own_w hw 46)) (mvT hZ (own_w hw 43)) (mvT hZ (own_w hw 47)) (by decide) (backOf (W := 0) (rmK2 l Z a0 hw [] p0 a1 kc k1 c0_ c1_ (0 : Int32) h1 n0 Zs7 fr3 (Nat.ne_of_lt lt2) V6 V9 (by unfold own_cnt2; rw [if_pos hc9_10])) hZ (own_w hw 47) (own_w hw 43) (by decide) (by decide)) (g := (mkF m 9 #[oR p0, oI (0 : Int32), oI (2 : Int32), oR a1, .unset, .unset] [(.int (2 : Int32)), (.int (0 : Int32)), (.ref a1), (.int (0 : Int32)), (.ref p0)])) rfl (by rw [hml]; rfl) (argsL := [(.ref p0), (.int (0 : Int32)), (.ref a1), (.int (0 : Int32)), (.int (2 : Int32))]) (rest := []) (lenOf pd_8_0 rfl) rfl (by show 2 * 0 + _ ≤ _; exact Nat.le_of_eq rfl) (hb hby d8_9) (fun _ _ => ⟨rfl, e1, (by decide : 1 + 0 ≤ _), (by decide : 2 + 0 ≤ _)⟩)
    dsimp only [Pt.U, Pt.locs, Pt.cells, Pt.slots] at X11 l11 y11 z11 st11 hQ11
    subst l11 y11 z11
    obtain ⟨rfl, Nq11, Kc11, Im11⟩ := hQ11
    have N12 := Fr.app N0 Nq11
    refine own_via st11 ?_
    have O13 : Old Z n0 T11.heap := O5.keep Kc11 (allS fr3 all0)
    have V14 := V6.keep Kc11 (ninS (Nat.ne_of_lt lt2) nin0)
    have Zs15 : n0 ≤ T11.heap.size := Nat.le_trans Zs7 Kc11.1
    have K16 : Keep h0 T11.heap [] := K8.trans Kc11 (allS (Or.inr hf4) all0)
    refine own_via (fun t kz => XS.istore X11.here hx rfl (hb hby d8_12) rfl (l' := #[oR p0, oI (0 : Int32), oI (2 : Int32), oR a1, oI (0 : Int32), .unset]) rfl kz) ?_
    refine own_via (fun t kz => XS.iload X11.here hx rfl (hb hby d8_14) rfl kz) ?_
    refine own_via (fun t kz => XS.iloadN X11.here hx rfl (hb hby d8_16) rfl kz) ?_
    show own_Go p e below _ (T11.setTop (mkF m 17 #[oR p0, oI (0 : Int32), oI (2 : Int32), oR a1, oI (0 : Int32), .unset] [(.int (2 : Int32)), (.int (0 : Int32))]))
    refine own_via (fun t kz => XS.icmpNo X11.here hx rfl (hb hby d8_17) rfl (feq (by decide : ¬ ((0 : Int32) = (2 : Int32)))).1 kz) ?_
    refine own_via (fun t kz => XS.aloadN X11.here hx rfl (hb hby d8_20) rfl rfl kz) ?_
    refine own_via (fun t kz => XS.iloadN X11.here hx rfl (hb hby d8_21) rfl kz) ?_
    refine own_via (fun t kz => XS.iloadN X11.here hx rfl (hb hby d8_22) rfl kz) ?_
    show own_Go p e below _ (T11.setTop (mkF m 23 #[oR p0, oI (0 : Int32), oI (2 : Int32), oR a1, oI (0 : Int32), .unset] [(.int (2 : Int32)), (.int (0 : Int32)), (.ref p0)]))
    obtain ⟨_, _, ⟨T17, L17, k17, n17⟩, -, X17, ⟨Lc17, hQ17, l17, y17, z17⟩, st17⟩ := Jvm.LawKit.callS X11 hx (y := (⟨"java/lang/StringUTF16", "toBytes", "([CII)[B"⟩ : MethodName)) hown (mvT hZ (own_w hw 79)) (mvT hZ (own_w hw 80)) (mvT hZ (own_w hw 43)) (mvT hZ (own_w hw 81)) (by decide) (backOf (W := 0) (rmT2 l Z a0 hw [] p0 kc c0_ c1_ wcs wsf T11.heap n0 Zs15 V14 O13 hcs rsf B_wcs B_wsf B_wad B_whi B_wlo) hZ (own_w hw 81) (own_w hw 43) (by decide) (by decide)) (g := (mkF m 23 #[oR p0, oI (0 : Int32), oI (2 : Int32), oR a1, oI (0 : Int32), .unset] [(.int (2 : Int32)), (.int (0 : Int32)), (.ref p0)])) rfl (by rw [hml]; rfl) (argsL := [(.ref p0), (.int (0 : Int32)), (.int (2 : Int32))]) (rest := []) (lenOf pd_8_1 rfl) rfl (by show 2 * 0 + _ ≤ _; exact Nat.le_of_eq rfl) (hb hby d8_23) (fun _ _ => ⟨rfl, rfl, (by decide : 1 + 1 ≤ _), (by decide : 2 + 4 ≤ _)⟩)
    dsimp only [Pt.U, Pt.locs, Pt.cells, Pt.slots] at X17 l17 y17 z17 st17 hQ17
    subst l17 y17 z17
    obtain ⟨rfl, Nq17, Kc17, kb17, Vc17⟩ := hQ17
    have N18 := Fr.app N12 Nq17
    refine own_via st17 ?_
    obtain ⟨a17, g17⟩ : ∃ z, z = T11.heap.size := ⟨_, rfl⟩
    rw [← g17] at Vc17 ⊢
    have lt19 : p0 < a17 := Nat.lt_of_lt_of_le V14.lt (Nat.le_of_eq g17.symm)
    have fr20 : n0 ≤ a17 := Nat.le_trans Zs15 (Nat.le_of_eq g17.symm)
    have hf21 : h0.size ≤ a17 := Nat.le_trans K16.1 (Nat.le_of_eq g17.symm)
    have O22 : Old Z n0 T17.heap := O13.keep Kc17 all0
    have V23 := V14.keep Kc17 nin0
    have Zs24 : n0 ≤ T17.heap.size := Nat.le_trans Zs15 Kc17.1
    have K25 : Keep h0 T17.heap [] := K16.trans Kc17 all0
    refine own_via (fun t kz => XS.astore X17.here hx rfl (hb hby d8_26) rfl rfl (l' := #[oR p0, oI (0 : Int32), oI (2 : Int32), oR a1, oI (0 : Int32), oR a17]) rfl kz) ?_
    refine own_via (fun t kz => XS.aload X17.here hx rfl (hb hby d8_28) rfl rfl kz) ?_
    refine own_via (fun t kz => XS.iload X17.here hx rfl (hb hby d8_30) rfl kz) ?_
    show own_Go p e below _ (T17.setTop (mkF m 32 #[oR p0, oI (0 : Int32), oI (2 : Int32), oR a1, oI (0 : Int32), oR a17] [(.int (0 : Int32)), (.ref a17)]))
    obtain ⟨_, _, ⟨T26, L26, k26, n26⟩, -, X26, ⟨Lc26, hQ26, l26, y26, z26⟩, st26⟩ := Jvm.LawKit.callS X17 hx (y := (⟨"java/lang/StringUTF16", "getChar", "([BI)C"⟩ : MethodName)) hown (mvT hZ (own_w hw 95)) (mvT hZ (own_w hw 96)) (mvT hZ (own_w hw 43)) (mvT hZ (own_w hw 97)) (by decide) (backOf (W := 0) (rmG2_0 l Z a0 hw [] a17 (1 : Int32) (0 : Int32) (8 : Int32) kb17 ((c0_ >>> ((0 : Int32) &&& 31)).toInt8.toInt32) ((c0_ >>> ((8 : Int32) &&& 31)).toInt8.toInt32) ((c1_ >>> ((0 : Int32) &&& 31)).toInt8.toInt32) ((c1_ >>> ((8 : Int32) &&& 31)).toInt8.toInt32) c0_ T17.heap n0 Zs24 rfl (B_wad.ext O22.2) (B_whi.ext O22.2) (B_wlo.ext O22.2) Vc17 (by unfold fG2_0; exact own_utf hc0)) hZ (own_w hw 97) (own_w hw 43) (by decide) (by decide)) (g := (mkF m 32 #[oR p0, oI (0 : Int32), oI (2 : Int32), oR a1, oI (0 : Int32), oR a17] [(.int (0 : Int32)), (.ref a17)])) rfl (by rw [hml]; rfl) (argsL := [(.ref a17), (.int (0 : Int32))]) (rest := []) (lenOf pd_8_2 rfl) rfl (by show 2 * 0 + _ ≤ _; exact Nat.le_of_eq rfl) (hb hby d8_32) (fun _ _ => ⟨rfl, rfl, (by decide : 2 + 0 ≤ _), (by decide : 6 + 0 ≤ _)⟩)
    dsimp only [Pt.U, Pt.locs, Pt.cells, Pt.slots] at X26 l26 y26 z26 st26 hQ26
    subst l26 y26 z26
    obtain ⟨rfl, Nq26, e26⟩ := hQ26
    have N27 := Fr.app N18 Nq26
    refine own_via st26 ?_
    refine own_via (fun t kz => XS.sipush X26.here hx rfl (hb hby d8_35) kz) ?_
    show own_Go p e below _ (T26.setTop (mkF m 38 #[oR p0, oI (0 : Int32), oI (2 : Int32), oR a1, oI (0 : Int32), oR a17] [(.int (255 : Int32)), (.int c0_)]))
    refine own_via (fun t kz => XS.icmpYes X26.here hx rfl (pc0 := 38) (pc' := 54) rfl (hb hby d8_38) rfl (tlt hc9_10).2.2.1 (by decide) (by decide) kz) ?_
    refine own_via (fun t kz => XS.aload X26.here hx rfl (hb hby d8_54) rfl rfl kz) ?_
    show own_Go p e below _ (T26.setTop (mkF m 56 #[oR p0, oI (0 : Int32), oI (2 : Int32), oR a1, oI (0 : Int32), oR a17] [(.ref a17)]))
    obtain ⟨fs, hr, hrun, hended, hW, hsame⟩ := X26.leave (v := some (.ref a17)) (fun h => by rw [Bd.returns] at h; cases h)
    refine ⟨_, _, retOut X26 hx (i := .areturn) Bd.returns rfl (Or.inr (Or.inr (Or.inr (Or.inr ⟨rfl, rfl, rfl⟩)))) (hb hby d8_56) hr, hrun, hended, _, _, rfl, ?_, ⟨_, rfl⟩, hW, hsame.mono (by decide) (by decide)⟩
    show QB2 Z p0 kc c0_ c1_ wcs wsf h0 n0 _ T26.heap _
    rw [e26]
    exact ⟨a17, rfl, N27, K25, hf21, Or.inr ⟨_, Vc17⟩⟩
  · by_cases hc9_29 : (255 : Int32) < c1_
    · obtain ⟨_, _, ⟨T30, L30, k30, n30⟩, -, X30, ⟨Lc30, hQ30, l30, y30, z30⟩, st30⟩ := Jvm.LawKit.callS X1 hx (y := (⟨"java/lang/StringUTF16", "compress", "([CI[BII)I"⟩ : MethodName)) hown (mvT hZ (own_w hw 45)) (mvT hZ (own_w hw 46)) (mvT hZ (own_w hw 43)) (mvT hZ (own_w hw 47)) (by decide) (backOf (W := 0) (rmK2 l Z a0 hw [] p0 a1 kc k1 c0_ c1_ (1 : Int32) h1 n0 Zs7 fr3 (Nat.ne_of_lt lt2) V6 V9 (by unfold own_cnt2; rw [if_neg hc9_10, if_pos hc9_29])) hZ (own_w hw 47) (own_w hw 43) (by decide) (by decide)) (g := (mkF m 9 #[oR p0, oI (0 : Int32), oI (2 : Int32), oR a1, .unset, .unset] [(.int (2 : Int32)), (.int (0 : Int32)), (.ref a1), (.int (0 : Int32)), (.ref p0)])) rfl (by rw [hml]; rfl) (argsL := [(.ref p0), (.int (0 : Int32)), (.ref a1), (.int (0 : Int32)), (.int (2 : Int32))]) (rest := []) (lenOf pd_8_0 rfl) rfl (by show 2 * 0 + _ ≤ _; exact Nat.le_of_eq rfl) (hb hby d8_9) (fun _ _ => ⟨rfl, e1, (by decide : 1 + 0 ≤ _), (by decide : 2 + 0 ≤ _)⟩)
      dsimp only [Pt.U, Pt.locs, Pt.cells, Pt.slots] at X30 l30 y30 z30 st30 hQ30
      subst l30 y30 z30
      obtain ⟨rfl, Nq30, Kc30, Im30⟩ := hQ30
      have N31 := Fr.app N0 Nq30
      refine own_via st30 ?_
      have O32 : Old Z n0 T30.heap := O5.keep Kc30 (allS fr3 all0)
      have V33 := V6.keep Kc30 (ninS (Nat.ne_of_lt lt2) nin0)
      have Zs34 : n0 ≤ T30.heap.size := Nat.le_trans Zs7 Kc30.1
      have K35 : Keep h0 T30.heap [] := K8.trans Kc30 (allS (Or.inr hf4) all0)
      refine own_via (fun t kz => XS.istore X30.here hx rfl (hb hby d8_12) rfl (l' := #[oR p0, oI (0 : Int32), oI (2 : Int32), oR a1, oI (1 : Int32), .unset]) rfl kz) ?_
      refine own_via (fun t kz => XS.iload X30.here hx rfl (hb hby d8_14) rfl kz) ?_
      refine own_via (fun t kz => XS.iloadN X30.here hx rfl (hb hby d8_16) rfl kz) ?_
      show own_Go p e below _ (T30.setTop (mkF m 17 #[oR p0, oI (0 : Int32), oI (2 : Int32), oR a1, oI (1 : Int32), .unset] [(.int (2 : Int32)), (.int (1 : Int32))]))
      refine own_via (fun t kz => XS.icmpNo X30.here hx rfl (hb hby d8_17) rfl (feq (by decide : ¬ ((1 : Int32) = (2 : Int32)))).1 kz) ?_
      refine own_via (fun t kz => XS.aloadN X30.here hx rfl (hb hby d8_20) rfl rfl kz) ?_
      refine own_via (fun t kz => XS.iloadN X30.here hx rfl (hb hby d8_21) rfl kz) ?_
      refine own_via (fun t kz => XS.iloadN X30.here hx rfl (hb hby d8_22) rfl kz) ?_
      show own_Go p e below _ (T30.setTop (mkF m 23 #[oR p0, oI (0 : Int32), oI (2 : Int32), oR a1, oI (1 : Int32), .unset] [(.int (2 : Int32)), (.int (0 : Int32)), (.ref p0)]))
      obtain ⟨_, _, ⟨T36, L36, k36, n36⟩, -, X36, ⟨Lc36, hQ36, l36, y36, z36⟩, st36⟩ := Jvm.LawKit.callS X30 hx (y := (⟨"java/lang/StringUTF16", "toBytes", "([CII)[B"⟩ : MethodName)) hown (mvT hZ (own_w hw 79)) (mvT hZ (own_w hw 80)) (mvT hZ (own_w hw 43)) (mvT hZ (own_w hw 81)) (by decide) (backOf (W := 0) (rmT2 l Z a0 hw [] p0 kc c0_ c1_ wcs wsf T30.heap n0 Zs34 V33 O32 hcs rsf B_wcs B_wsf B_wad B_whi B_wlo) hZ (own_w hw 81) (own_w hw 43) (by decide) (by decide)) (g := (mkF m 23 #[oR p0, oI (0 : Int32), oI (2 : Int32), oR a1, oI (1 : Int32), .unset] [(.int (2 : Int32)), (.int (0 : Int32)), (.ref p0)])) rfl (by rw [hml]; rfl) (argsL := [(.ref p0), (.int (0 : Int32)), (.int (2 : Int32))]) (rest := []) (lenOf pd_8_1 rfl) rfl (by show 2 * 0 + _ ≤ _; exact Nat.le_of_eq rfl) (hb hby d8_23) (fun _ _ => ⟨rfl, rfl, (by decide : 1 + 1 ≤ _), (by decide : 2 + 4 ≤ _)⟩)
      dsimp only [Pt.U, Pt.locs, Pt.cells, Pt.slots] at X36 l36 y36 z36 st36 hQ36
      subst l36 y36 z36
      obtain ⟨rfl, Nq36, Kc36, kb36, Vc36⟩ := hQ36
      have N37 := Fr.app N31 Nq36
      refine own_via st36 ?_
      obtain ⟨a36, g36⟩ : ∃ z, z = T30.heap.size := ⟨_, rfl⟩
      rw [← g36] at Vc36 ⊢
      have lt38 : p0 < a36 := Nat.lt_of_lt_of_le V33.lt (Nat.le_of_eq g36.symm)
      have fr39 : n0 ≤ a36 := Nat.le_trans Zs34 (Nat.le_of_eq g36.symm)
      have hf40 : h0.size ≤ a36 := Nat.le_trans K35.1 (Nat.le_of_eq g36.symm)
      have O41 : Old Z n0 T36.heap := O32.keep Kc36 all0
      have V42 := V33.keep Kc36 nin0
      have Zs43 : n0 ≤ T36.heap.size := Nat.le_trans Zs34 Kc36.1
      have K44 : Keep h0 T36.heap [] := K35.trans Kc36 all0
      refine own_via (fun t kz => XS.astore X36.here hx rfl (hb hby d8_26) rfl rfl (l' := #[oR p0, oI (0 : Int32), oI (2 : Int32), oR a1, oI (1 : Int32), oR a36]) rfl kz) ?_
      refine own_via (fun t kz => XS.aload X36.here hx rfl (hb hby d8_28) rfl rfl kz) ?_
      refine own_via (fun t kz => XS.iload X36.here hx rfl (hb hby d8_30) rfl kz) ?_
      show own_Go p e below _ (T36.setTop (mkF m 32 #[oR p0, oI (0 : Int32), oI (2 : Int32), oR a1, oI (1 : Int32), oR a36] [(.int (1 : Int32)), (.ref a36)]))
      obtain ⟨_, _, ⟨T45, L45, k45, n45⟩, -, X45, ⟨Lc45, hQ45, l45, y45, z45⟩, st45⟩ := Jvm.LawKit.callS X36 hx (y := (⟨"java/lang/StringUTF16", "getChar", "([BI)C"⟩ : MethodName)) hown (mvT hZ (own_w hw 95)) (mvT hZ (own_w hw 96)) (mvT hZ (own_w hw 43)) (mvT hZ (own_w hw 97)) (by decide) (backOf (W := 0) (rmG2_1 l Z a0 hw [] a36 (1 : Int32) (0 : Int32) (8 : Int32) kb36 ((c0_ >>> ((0 : Int32) &&& 31)).toInt8.toInt32) ((c0_ >>> ((8 : Int32) &&& 31)).toInt8.toInt32) ((c1_ >>> ((0 : Int32) &&& 31)).toInt8.toInt32) ((c1_ >>> ((8 : Int32) &&& 31)).toInt8.toInt32) c1_ T36.heap n0 Zs43 rfl (B_wad.ext O41.2) (B_whi.ext O41.2) (B_wlo.ext O41.2) Vc36 (by unfold fG2_1; exact own_utf hc1)) hZ (own_w hw 97) (own_w hw 43) (by decide) (by decide)) (g := (mkF m 32 #[oR p0, oI (0 : Int32), oI (2 : Int32), oR a1, oI (1 : Int32), oR a36] [(.int (1 : Int32)), (.ref a36)])) rfl (by rw [hml]; rfl) (argsL := [(.ref a36), (.int (1 : Int32))]) (rest := []) (lenOf pd_8_2 rfl) rfl (by show 2 * 0 + _ ≤ _; exact Nat.le_of_eq rfl) (hb hby d8_32) (fun _ _ => ⟨rfl, rfl, (by decide : 2 + 0 ≤ _), (by decide : 6 + 0 ≤ _)⟩)
      dsimp only [Pt.U, Pt.locs, Pt.cells, Pt.slots] at X45 l45 y45 z45 st45 hQ45
      subst l45 y45 z45
      obtain ⟨rfl, Nq45, e45⟩ := hQ45
      have N46 := Fr.app N37 Nq45
      refine own_via st45 ?_
      refine own_via (fun t kz => XS.sipush X45.here hx rfl (hb hby d8_35) kz) ?_
      show own_Go p e below _ (T45.setTop (mkF m 38 #[oR p0, oI (0 : Int32), oI (2 : Int32), oR a1, oI (1 : Int32), oR a36] [(.int (255 : Int32)), (.int c1_)]))
      refine own_via (fun t kz => XS.icmpYes X45.here hx rfl (pc0 := 38) (pc' := 54) rfl (hb hby d8_38) rfl (tlt hc9_29).2.2.1 (by decide) (by decide) kz) ?_
      refine own_via (fun t kz => XS.aload X45.here hx rfl (hb hby d8_54) rfl rfl kz) ?_
      show own_Go p e below _ (T45.setTop (mkF m 56 #[oR p0, oI (0 : Int32), oI (2 : Int32), oR a1, oI (1 : Int32), oR a36] [(.ref a36)]))
      obtain ⟨fs, hr, hrun, hended, hW, hsame⟩ := X45.leave (v := some (.ref a36)) (fun h => by rw [Bd.returns] at h; cases h)
      refine ⟨_, _, retOut X45 hx (i := .areturn) Bd.returns rfl (Or.inr (Or.inr (Or.inr (Or.inr ⟨rfl, rfl, rfl⟩)))) (hb hby d8_56) hr, hrun, hended, _, _, rfl, ?_, ⟨_, rfl⟩, hW, hsame.mono (by decide) (by decide)⟩
      show QB2 Z p0 kc c0_ c1_ wcs wsf h0 n0 _ T45.heap _
      rw [e45]
      exact ⟨a36, rfl, N46, K44, hf40, Or.inr ⟨_, Vc36⟩⟩
    · obtain ⟨_, _, ⟨T48, L48, k48, n48⟩, -, X48, ⟨Lc48, hQ48, l48, y48, z48⟩, st48⟩ := Jvm.LawKit.callS X1 hx (y := (⟨"java/lang/StringUTF16", "compress", "([CI[BII)I"⟩ : MethodName)) hown (mvT hZ (own_w hw 45)) (mvT hZ (own_w hw 46)) (mvT hZ (own_w hw 43)) (mvT hZ (own_w hw 47)) (by decide) (backOf (W := 0) (rmK2 l Z a0 hw [] p0 a1 kc k1 c0_ c1_ (2 : Int32) h1 n0 Zs7 fr3 (Nat.ne_of_lt lt2) V6 V9 (by unfold own_cnt2; rw [if_neg hc9_10, if_neg hc9_29])) hZ (own_w hw 47) (own_w hw 43) (by decide) (by decide)) (g := (mkF m 9 #[oR p0, oI (0 : Int32), oI (2 : Int32), oR a1, .unset, .unset] [(.int (2 : Int32)), (.int (0 : Int32)), (.ref a1), (.int (0 : Int32)), (.ref p0)])) rfl (by rw [hml]; rfl) (argsL := [(.ref p0), (.int (0 : Int32)), (.ref a1), (.int (0 : Int32)), (.int (2 : Int32))]) (rest := []) (lenOf pd_8_0 rfl) rfl (by show 2 * 0 + _ ≤ _; exact Nat.le_of_eq rfl) (hb hby d8_9) (fun _ _ => ⟨rfl, e1, (by decide : 1 + 0 ≤ _), (by decide : 2 + 0 ≤ _)⟩)
      dsimp only [Pt.U, Pt.locs, Pt.cells, Pt.slots] at X48 l48 y48 z48 st48 hQ48
      subst l48 y48 z48
      obtain ⟨rfl, Nq48, Kc48, Im48⟩ := hQ48
      have N49 := Fr.app N0 Nq48
      refine own_via st48 ?_
      have O50 : Old Z n0 T48.heap := O5.keep Kc48 (allS fr3 all0)
      have V51 := V6.keep Kc48 (ninS (Nat.ne_of_lt lt2) nin0)
      have Zs52 : n0 ≤ T48.heap.size := Nat.le_trans Zs7 Kc48.1
      have K53 : Keep h0 T48.heap [] := K8.trans Kc48 (allS (Or.inr hf4) all0)
      refine own_via (fun t kz => XS.istore X48.here hx rfl (hb hby d8_12) rfl (l' := #[oR p0, oI (0 : Int32), oI (2 : Int32), oR a1, oI (2 : Int32), .unset]) rfl kz) ?_
      refine own_via (fun t kz => XS.iload X48.here hx rfl (hb hby d8_14) rfl kz) ?_
      refine own_via (fun t kz => XS.iloadN X48.here hx rfl (hb hby d8_16) rfl kz) ?_
      show own_Go p e below _ (T48.setTop (mkF m 17 #[oR p0, oI (0 : Int32), oI (2 : Int32), oR a1, oI (2 : Int32), .unset] [(.int (2 : Int32)), (.int (2 : Int32))]))
      refine own_via (fun t kz => XS.icmpYes X48.here hx rfl (pc0 := 17) (pc' := 57) rfl (hb hby d8_17) rfl (teq (by decide : (2 : Int32) = (2 : Int32))).1 (by decide) (by decide) kz) ?_
      refine own_via (fun t kz => XS.aloadN X48.here hx rfl (hb hby d8_57) rfl rfl kz) ?_
      show own_Go p e below _ (T48.setTop (mkF m 58 #[oR p0, oI (0 : Int32), oI (2 : Int32), oR a1, oI (2 : Int32), .unset] [(.ref a1)]))
      obtain ⟨fs, hr, hrun, hended, hW, hsame⟩ := X48.leave (v := some (.ref a1)) (fun h => by rw [Bd.returns] at h; cases h)
      refine ⟨_, _, retOut X48 hx (i := .areturn) Bd.returns rfl (Or.inr (Or.inr (Or.inr (Or.inr ⟨rfl, rfl, rfl⟩)))) (hb hby d8_58) hr, hrun, hended, _, _, rfl, ?_, ⟨_, rfl⟩, hW, hsame.mono (by decide) (by decide)⟩
      show QB2 Z p0 kc c0_ c1_ wcs wsf h0 n0 _ T48.heap _
      exact ⟨a1, rfl, N49, K53, hf4, Or.inl ⟨⟨hc9_10, hc9_29⟩, _, (Im48 ⟨hc9_10, hc9_29⟩)⟩⟩
def own_Str2 (Z : State) (h : Heap) (n0 : Nat) (this : Addr) (c0_ c1_ : Int32) : Prop := ∃ (arr : Addr) (kb : ClassId), (n0 ≤ this ∧ @LT.lt Nat instLTNat this arr) ∧ Exa Z h this "java/lang/String" ∧ Fld Z h this "java/lang/String" "value" "[B" (.ref arr) ∧ (((¬ (255 : Int32) < c0_ ∧ ¬ (255 : Int32) < c1_) ∧ Fld Z h this "java/lang/String" "coder" "B" (.int (0 : Int32)) ∧ Arv Z h arr kb .byte (2 : Int32) [(.int (c0_.toInt8.toInt32)), (.int (c1_.toInt8.toInt32))] (.int (0 : Int32))) ∨ (Fld Z h this "java/lang/String" "coder" "B" (.int (1 : Int32)) ∧ Arv Z h arr kb .byte (4 : Int32) [(.int ((c0_ >>> ((0 : Int32) &&& 31)).toInt8.toInt32)), (.int ((c0_ >>> ((8 : Int32) &&& 31)).toInt8.toInt32)), (.int ((c1_ >>> ((0 : Int32) &&& 31)).toInt8.toInt32)), (.int ((c1_ >>> ((8 : Int32) &&& 31)).toInt8.toInt32))] (.int (0 : Int32))))
theorem ef_rmI4_2 (m : MethodId) (q0 : Addr) (q1 : Addr) : entryFrame m #[(.ref q0), (.ref q1), (.int (0 : Int32)), (.int (2 : Int32)), .null] 6 = mkF m 0 #[oR q0, oR q1, oI (0 : Int32), oI (2 : Int32), .val .null, .unset] [] := by first | (simp [entryFrame, mkF, argsToLocals, Value.category]; done) | rfl
def QI4_2 (Z : State) (this : Addr) (p1 : Addr) (kc : ClassId) (c0_ : Int32) (c1_ : Int32) (wcs : Int32) (wsf : Value) (h0 : Heap) (n0 : Nat) (v : Option Value) (h : Heap) (L : List Loc) : Prop := v = none ∧ Fr n0 L ∧ Keep h0 h [this] ∧ own_Str2 Z h n0 this c0_ c1_
set_option maxRecDepth 65536 in
set_option maxHeartbeats 40000000 in
theorem rmI4_2 (l : Launch) (Z : State) (a0 : Array Value) (hw : ∀ d ∈ tables_1, d.before a0 Z = true) (ws : List Jvm.Cond) (this : Addr) (p1 : Addr) (kc : ClassId) (c0_ : Int32) (c1_ : Int32) (wcs : Int32) (wsf : Value) (h0 : Heap) (n0 : Nat) (Z0 : n0 ≤ h0.size) (g_this : n0 ≤ this) (E_this : Exa Z h0 this "java/lang/String") (F_value : Fld Z h0 this "java/lang/String" "value" "[B" .null) (F_coder : Fld Z h0 this "java/lang/String" "coder" "B" (.int (0 : Int32))) (VC : Arv Z h0 p1 kc .char (2 : Int32) [(.int c0_), (.int c1_)] (.int (0 : Int32))) (nec : p1 ≠ this) (hc0 : own_ch c0_) (hc1 : own_ch c1_) (OLD : Old Z n0 h0) (hcs : ¬ (wcs = (0 : Int32))) (rsf : wsf.isRef = true) (B_wcs : Sta Z Z.heap "java/lang/String" "COMPACT_STRINGS" "Z" (.int wcs)) (B_wsf : Sta Z Z.heap "jdk/internal/util/Preconditions" "SIOOBE_FORMATTER" "Ljava/util/function/BiFunction;" wsf) (B_wad : Sta Z Z.heap "java/lang/StringUTF16" "$assertionsDisabled" "Z" (.int (1 : Int32))) (B_whi : Sta Z Z.heap "java/lang/StringUTF16" "HI_BYTE_SHIFT" "I" (.int (0 : Int32))) (B_wlo : Sta Z Z.heap "java/lang/StringUTF16" "LO_BYTE_SHIFT" "I" (.int (8 : Int32))) :
    MetFree l (⟨"java/lang/String", "<init>", "([CIILjava/lang/Void;)V"⟩ : MethodName) (head1 (Jvm.Cond.code (⟨"java/lang/String", "<init>", "([CIILjava/lang/Void;)V"⟩ : MethodName) jdk_42_method_149_code 6 none :: ws) ({ frames := 4, cells := 2, slots := 6, locals := 57 } : Room)) (fun a U => a = #[(.ref this), (.ref p1), (.int (0 : Int32)), (.int (2 : Int32)), .null] ∧ Z.Warmed39 U.vm ∧ U.heap = h0) (fun _ _ _ _ _ => True) (fun _ U o U' => ∃ v L, o = .returned v ∧ QI4_2 Z this p1 kc c0_ c1_ wcs wsf h0 n0 v U'.heap L ∧ FrameEnd U o U' L ({ frames := 4, cells := 2, slots := 6, locals := 57 } : Room).cells ({ frames := 4, cells := 2, slots := 6, locals := 57 } : Room).slots) := by
  refine MetFree.of_bodySF (plainFor_of_name pn_15) hisR ?_
  intro p e s m args below meth c s₁ Bd hml0 hP hK
  obtain ⟨rfl, hZ, hh⟩ := hP
  have hx := Bd.exec
  have hby := Bd.bytes
  have hml : c.maxLocals = 6 := hml0
  have hown : s.vm.findClass "java/lang/String" = some m.cls := findClass_of_methodNamed Bd.named
  have hnm := (name_of_methodNamed Bd.named Bd.method).1
  have X0 : Stand p l e ({ frames := 4, cells := 2, slots := 6, locals := 57 } : Room) s m #[(.ref this), (.ref p1), (.int (0 : Int32)), (.int (2 : Int32)), .null] below meth c s₁ [] 0 0 := Stand.of_body Bd
  have e0 : s₁.heap = h0 := by rw [← hh, Bd.state]; rfl
  have N0 := Fr.nil n0
  refine own_start ?_
  refine own_via (fun t k => castTop (ef_rmI4_2 m this p1) k) ?_
  show own_Go p e below _ (s₁.setTop (mkF m 0 #[oR this, oR p1, oI (0 : Int32), oI (2 : Int32), .val .null, .unset] []))
  refine own_via (fun t kz => XS.aloadN X0.here hx rfl (hb hby d3_0) rfl rfl kz) ?_
  show own_Go p e below _ (s₁.setTop (mkF m 1 #[oR this, oR p1, oI (0 : Int32), oI (2 : Int32), .val .null, .unset] [(.ref this)]))
  obtain ⟨T1, X1, e1, st1⟩ := initO X0 hx hZ hown (own_w hw 15) (own_w hw 16) (own_w hw 17) e0 (g := (mkF m 1 #[oR this, oR p1, oI (0 : Int32), oI (2 : Int32), .val .null, .unset] [(.ref this)])) rfl (by rw [hml]; rfl) rfl (hb hby d3_1) (by decide) (W := 0) (by show 2 * 0 + _ ≤ _; exact Nat.le_of_eq rfl) (by decide)
  refine own_via st1 ?_
  refine own_via (fun t kz => XS.iloadN X1.here hx rfl (hb hby d3_4) rfl kz) ?_
  show own_Go p e below _ (T1.setTop (mkF m 5 #[oR this, oR p1, oI (0 : Int32), oI (2 : Int32), .val .null, .unset] [(.int (2 : Int32))]))
  refine own_via (fun t kz => XS.ifYes X1.here hx rfl (pc0 := 5) (pc' := 27) rfl (hb hby d3_5) rfl ((if0 _ _).trans (feq (by decide : ¬ ((2 : Int32) = (0 : Int32)))).2) (by decide) (by decide) kz) ?_
  show own_Go p e below _ (T1.setTop (mkF m 27 #[oR this, oR p1, oI (0 : Int32), oI (2 : Int32), .val .null, .unset] []))
  obtain ⟨T2, X2, e2, st2⟩ := getS2 X1 hx hZ hown (host := "") (Or.inl (own_w hw 40)) Via.refl e1 (B_wcs.ext OLD.2) (g := (mkF m 27 #[oR this, oR p1, oI (0 : Int32), oI (2 : Int32), .val .null, .unset] [])) rfl (hb hby d3_27)
  refine own_via st2 ?_
  show own_Go p e below _ (T2.setTop (mkF m 30 #[oR this, oR p1, oI (0 : Int32), oI (2 : Int32), .val .null, .unset] [(.int wcs)]))
  refine own_via (fun t kz => XS.ifNo X2.here hx rfl (hb hby d3_30) rfl ((if0 _ _).trans (feq hcs).1) kz) ?_
  refine own_via (fun t kz => XS.aloadN X2.here hx rfl (hb hby d3_33) rfl rfl kz) ?_
  refine own_via (fun t kz => XS.iloadN X2.here hx rfl (hb hby d3_34) rfl kz) ?_
  refine own_via (fun t kz => XS.iloadN X2.here hx rfl (hb hby d3_35) rfl kz) ?_
  show own_Go p e below _ (T2.setTop (mkF m 36 #[oR this, oR p1, oI (0 : Int32), oI (2 : Int32), .val .null, .unset] [(.int (2 : Int32)), (.int (0 : Int32)), (.ref p1)]))
  obtain ⟨_, _, ⟨T3, L3, k3, n3⟩, -, X3, ⟨Lc3, hQ3, l3, y3, z3⟩, st3⟩ := Jvm.LawKit.callS X2 hx (y := (⟨"java/lang/StringUTF16", "compress", "([CII)[B"⟩ : MethodName)) hown (mvT hZ (own_w hw 41)) (mvT hZ (own_w hw 42)) (mvT hZ (own_w hw 43)) (mvT hZ (own_w hw 44)) (by decide) (backOf (W := 0) (rmB2 l Z a0 hw [] p1 kc c0_ c1_ wcs wsf h0 n0 Z0 VC hc0 hc1 OLD hcs rsf B_wcs B_wsf B_wad B_whi B_wlo) hZ (own_w hw 44) (own_w hw 43) (by decide) (by decide)) (g := (mkF m 36 #[oR this, oR p1, oI (0 : Int32), oI (2 : Int32), .val .null, .unset] [(.int (2 : Int32)), (.int (0 : Int32)), (.ref p1)])) rfl (by rw [hml]; rfl) (argsL := [(.ref p1), (.int (0 : Int32)), (.int (2 : Int32))]) (rest := []) (lenOf pd_3_0 rfl) rfl (by show 2 * 0 + _ ≤ _; exact Nat.le_of_eq rfl) (hb hby d3_36) (fun _ _ => ⟨rfl, e2, (by decide : 0 + 2 ≤ _), (by decide : 0 + 6 ≤ _)⟩)
  dsimp only [Pt.U, Pt.locs, Pt.cells, Pt.slots] at X3 l3 y3 z3 st3 hQ3
  subst l3 y3 z3
  obtain ⟨r3, rfl, Nq3, Kc3, ge3, Rep3⟩ := hQ3
  have N4 := Fr.app N0 Nq3
  refine own_via st3 ?_
  have lt5 : this < r3 := Nat.lt_of_lt_of_le E_this.lt ge3
  have lt6 : p1 < r3 := Nat.lt_of_lt_of_le VC.lt ge3
  have fr7 : n0 ≤ r3 := Nat.le_trans Z0 ge3
  have hf8 : h0.size ≤ r3 := Nat.le_trans (Keep.refl h0 [this]).1 ge3
  have O9 : Old Z n0 T3.heap := OLD.keep Kc3 all0
  have E10 := E_this.keep Kc3
  have F11 := F_value.keep Kc3 nin0
  have F12 := F_coder.keep Kc3 nin0
  have V13 := VC.keep Kc3 nin0
  have Zs14 : n0 ≤ T3.heap.size := Nat.le_trans Z0 Kc3.1
  have K15 : Keep h0 T3.heap [this] := (Keep.refl h0 [this]).trans Kc3 all0
  rcases Rep3 with ⟨hl3, kb3, Vr3⟩ | ⟨kb3, Vr3⟩
  · refine own_via (fun t kz => XS.astore X3.here hx rfl (hb hby d3_39) rfl rfl (l' := #[oR this, oR p1, oI (0 : Int32), oI (2 : Int32), .val .null, oR r3]) rfl kz) ?_
    refine own_via (fun t kz => XS.aloadN X3.here hx rfl (hb hby d3_41) rfl rfl kz) ?_
    refine own_via (fun t kz => XS.aload X3.here hx rfl (hb hby d3_42) rfl rfl kz) ?_
    refine own_via (fun t kz => XS.iloadN X3.here hx rfl (hb hby d3_44) rfl kz) ?_
    show own_Go p e below _ (T3.setTop (mkF m 45 #[oR this, oR p1, oI (0 : Int32), oI (2 : Int32), .val .null, oR r3] [(.int (2 : Int32)), (.ref r3), (.ref this)]))
    obtain ⟨_, _, ⟨T16, L16, k16, n16⟩, -, X16, ⟨Lc16, hQ16, l16, y16, z16⟩, st16⟩ := Jvm.LawKit.callS X3 hx (y := (⟨"java/lang/StringUTF16", "coderFromArrayLen", "([BI)B"⟩ : MethodName)) hown (mvT hZ (own_w hw 48)) (mvT hZ (own_w hw 49)) (mvT hZ (own_w hw 43)) (mvT hZ (own_w hw 50)) (by decide) (backOf (W := 1) (rmC2_2 l Z a0 hw [] r3 kb3 (c0_.toInt8.toInt32) (c1_.toInt8.toInt32) (0 : Int32) T3.heap n0 Zs14 Vr3 (by decide +kernel)) hZ (own_w hw 50) (own_w hw 43) (by decide) (by decide)) (g := (mkF m 45 #[oR this, oR p1, oI (0 : Int32), oI (2 : Int32), .val .null, oR r3] [(.int (2 : Int32)), (.ref r3), (.ref this)])) rfl (by rw [hml]; rfl) (argsL := [(.ref r3), (.int (2 : Int32))]) (rest := [(.ref this)]) (lenOf pd_3_1 rfl) rfl (by show 2 * 0 + _ ≤ _; exact Nat.le_of_eq rfl) (hb hby d3_45) (fun _ _ => ⟨rfl, rfl, (by decide : 2 + 0 ≤ _), (by decide : 6 + 0 ≤ _)⟩)
    dsimp only [Pt.U, Pt.locs, Pt.cells, Pt.slots] at X16 l16 y16 z16 st16 hQ16
    subst l16 y16 z16
    obtain ⟨rfl, Nq16, e16⟩ := hQ16
    have N17 := Fr.app N4 Nq16
    refine own_via st16 ?_
    show own_Go p e below _ (T16.setTop (mkF m 48 #[oR this, oR p1, oI (0 : Int32), oI (2 : Int32), .val .null, oR r3] [(.int (0 : Int32)), (.ref this)]))
    obtain ⟨T18, h18, X18, e18, W18, st18⟩ := putF X16 hx hZ hown (host := "") (Or.inl (own_w hw 25)) Via.refl e16 F12 E10 (Or.inr ⟨(own_w hw 21), rfl, hnm⟩) (own_w hw 5) (ty := .byte) (by decide) rfl rfl (g := (mkF m 48 #[oR this, oR p1, oI (0 : Int32), oI (2 : Int32), .val .null, oR r3] [(.int (0 : Int32)), (.ref this)])) rfl rfl (hb hby d3_48)
    refine own_via st18 ?_
    have O19 : Old Z n0 h18 := O9.wr W18 g_this
    have E20 := E10.wr W18
    have F21 := F11.other W18 (Or.inr (slot_ne (Or.inr (own_w hw 20)) (Or.inr (own_w hw 21)) (by decide) (t := (.array .byte)) (t' := .byte) (by decide) (by decide)))
    have F22 := F12.same W18
    have V23 := V13.other W18 nec
    have V24 := Vr3.other W18 (Ne.symm (Nat.ne_of_lt lt5))
    have Zs25 : n0 ≤ h18.size := Nat.le_trans Zs14 (Keep.of_wr W18).1
    have N26 := Fr.snoc X18 N17 g_this
    have K27 : Keep h0 h18 [this] := K15.wr W18 (Or.inl (List.mem_of_getElem? (i := 0) rfl))
    refine own_via (fun t kz => XS.aloadN X18.here hx rfl (hb hby d3_51) rfl rfl kz) ?_
    refine own_via (fun t kz => XS.aload X18.here hx rfl (hb hby d3_52) rfl rfl kz) ?_
    show own_Go p e below _ (T18.setTop (mkF m 54 #[oR this, oR p1, oI (0 : Int32), oI (2 : Int32), .val .null, oR r3] [(.ref r3), (.ref this)]))
    obtain ⟨T28, h28, X28, e28, W28, st28⟩ := putF X18 hx hZ hown (host := "") (Or.inl (own_w hw 24)) Via.refl e18 F21 E20 (Or.inr ⟨(own_w hw 20), rfl, hnm⟩) (own_w hw 5) (ty := (.array .byte)) (by decide) rfl rfl (g := (mkF m 54 #[oR this, oR p1, oI (0 : Int32), oI (2 : Int32), .val .null, oR r3] [(.ref r3), (.ref this)])) rfl rfl (hb hby d3_54)
    refine own_via st28 ?_
    have O29 : Old Z n0 h28 := O19.wr W28 g_this
    have E30 := E20.wr W28
    have F31 := F21.same W28
    have F32 := F22.other W28 (Or.inr (slot_ne (Or.inr (own_w hw 21)) (Or.inr (own_w hw 20)) (by decide) (t := .byte) (t' := (.array .byte)) (by decide) (by decide)))
    have V33 := V23.other W28 nec
    have V34 := V24.other W28 (Ne.symm (Nat.ne_of_lt lt5))
    have Zs35 : n0 ≤ h28.size := Nat.le_trans Zs25 (Keep.of_wr W28).1
    have N36 := Fr.snoc X28 N26 g_this
    have K37 : Keep h0 h28 [this] := K27.wr W28 (Or.inl (List.mem_of_getElem? (i := 0) rfl))
    show own_Go p e below _ (T28.setTop (mkF m 57 #[oR this, oR p1, oI (0 : Int32), oI (2 : Int32), .val .null, oR r3] []))
    obtain ⟨fs, hr, hrun, hended, hW, hsame⟩ := X28.leave (v := none) (fun _ => rfl)
    refine ⟨_, _, X28.returnOut hx Bd.returns (hb hby d3_57) hr, hrun, hended, _, _, rfl, ?_, ⟨_, rfl⟩, hW, hsame.mono (by decide) (by decide)⟩
    show QI4_2 Z this p1 kc c0_ c1_ wcs wsf h0 n0 _ T28.heap _
    rw [e28]
    exact ⟨rfl, N36, K37, r3, kb3, ⟨g_this, lt5⟩, E30, F31, Or.inl ⟨hl3, F32, V34⟩⟩
  · refine own_via (fun t kz => XS.astore X3.here hx rfl (hb hby d3_39) rfl rfl (l' := #[oR this, oR p1, oI (0 : Int32), oI (2 : Int32), .val .null, oR r3]) rfl kz) ?_
    refine own_via (fun t kz => XS.aloadN X3.here hx rfl (hb hby d3_41) rfl rfl kz) ?_
    refine own_via (fun t kz => XS.aload X3.here hx rfl (hb hby d3_42) rfl rfl kz) ?_
    refine own_via (fun t kz => XS.iloadN X3.here hx rfl (hb hby d3_44) rfl kz) ?_
    show own_Go p e below _ (T3.setTop (mkF m 45 #[oR this, oR p1, oI (0 : Int32), oI (2 : Int32), .val .null, oR r3] [(.int (2 : Int32)), (.ref r3), (.ref this)]))
    obtain ⟨_, _, ⟨T39, L39, k39, n39⟩, -, X39, ⟨Lc39, hQ39, l39, y39, z39⟩, st39⟩ := Jvm.LawKit.callS X3 hx (y := (⟨"java/lang/StringUTF16", "coderFromArrayLen", "([BI)B"⟩ : MethodName)) hown (mvT hZ (own_w hw 48)) (mvT hZ (own_w hw 49)) (mvT hZ (own_w hw 43)) (mvT hZ (own_w hw 50)) (by decide) (backOf (W := 1) (rmC2_4 l Z a0 hw [] r3 kb3 ((c0_ >>> ((0 : Int32) &&& 31)).toInt8.toInt32) ((c0_ >>> ((8 : Int32) &&& 31)).toInt8.toInt32) ((c1_ >>> ((0 : Int32) &&& 31)).toInt8.toInt32) ((c1_ >>> ((8 : Int32) &&& 31)).toInt8.toInt32) (1 : Int32) T3.heap n0 Zs14 Vr3 (by decide +kernel)) hZ (own_w hw 50) (own_w hw 43) (by decide) (by decide)) (g := (mkF m 45 #[oR this, oR p1, oI (0 : Int32), oI (2 : Int32), .val .null, oR r3] [(.int (2 : Int32)), (.ref r3), (.ref this)])) rfl (by rw [hml]; rfl) (argsL := [(.ref r3), (.int (2 : Int32))]) (rest := [(.ref this)]) (lenOf pd_3_1 rfl) rfl (by show 2 * 0 + _ ≤ _; exact Nat.le_of_eq rfl) (hb hby d3_45) (fun _ _ => ⟨rfl, rfl, (by decide : 2 + 0 ≤ _), (by decide : 6 + 0 ≤ _)⟩)
    dsimp only [Pt.U, Pt.locs, Pt.cells, Pt.slots] at X39 l39 y39 z39 st39 hQ39
    subst l39 y39 z39
    obtain ⟨rfl, Nq39, e39⟩ := hQ39
    have N40 := Fr.app N4 Nq39
    refine own_via st39 ?_
    show own_Go p e below _ (T39.setTop (mkF m 48 #[oR this, oR p1, oI (0 : Int32), oI (2 : Int32), .val .null, oR r3] [(.int (1 : Int32)), (.ref this)]))
    obtain ⟨T41, h41, X41, e41, W41, st41⟩ := putF X39 hx hZ hown (host := "") (Or.inl (own_w hw 25)) Via.refl e39 F12 E10 (Or.inr ⟨(own_w hw 21), rfl, hnm⟩) (own_w hw 5) (ty := .byte) (by decide) rfl rfl (g := (mkF m 48 #[oR this, oR p1, oI (0 : Int32), oI (2 : Int32), .val .null, oR r3] [(.int (1 : Int32)), (.ref this)])) rfl rfl (hb hby d3_48)
    refine own_via st41 ?_
    have O42 : Old Z n0 h41 := O9.wr W41 g_this
    have E43 := E10.wr W41
    have F44 := F11.other W41 (Or.inr (slot_ne (Or.inr (own_w hw 20)) (Or.inr (own_w hw 21)) (by decide) (t := (.array .byte)) (t' := .byte) (by decide) (by decide)))
    have F45 := F12.same W41
    have V46 := V13.other W41 nec
    have V47 := Vr3.other W41 (Ne.symm (Nat.ne_of_lt lt5))
    have Zs48 : n0 ≤ h41.size := Nat.le_trans Zs14 (Keep.of_wr W41).1
    have N49 := Fr.snoc X41 N40 g_this
    have K50 : Keep h0 h41 [this] := K15.wr W41 (Or.inl (List.mem_of_getElem? (i := 0) rfl))
    refine own_via (fun t kz => XS.aloadN X41.here hx rfl (hb hby d3_51) rfl rfl kz) ?_
    refine own_via (fun t kz => XS.aload X41.here hx rfl (hb hby d3_52) rfl rfl kz) ?_
    show own_Go p e below _ (T41.setTop (mkF m 54 #[oR this, oR p1, oI (0 : Int32), oI (2 : Int32), .val .null, oR r3] [(.ref r3), (.ref this)]))
    obtain ⟨T51, h51, X51, e51, W51, st51⟩ := putF X41 hx hZ hown (host := "") (Or.inl (own_w hw 24)) Via.refl e41 F44 E43 (Or.inr ⟨(own_w hw 20), rfl, hnm⟩) (own_w hw 5) (ty := (.array .byte)) (by decide) rfl rfl (g := (mkF m 54 #[oR this, oR p1, oI (0 : Int32), oI (2 : Int32), .val .null, oR r3] [(.ref r3), (.ref this)])) rfl rfl (hb hby d3_54)
    refine own_via st51 ?_
    have O52 : Old Z n0 h51 := O42.wr W51 g_this
    have E53 := E43.wr W51
    have F54 := F44.same W51
    have F55 := F45.other W51 (Or.inr (slot_ne (Or.inr (own_w hw 21)) (Or.inr (own_w hw 20)) (by decide) (t := .byte) (t' := (.array .byte)) (by decide) (by decide)))
    have V56 := V46.other W51 nec
    have V57 := V47.other W51 (Ne.symm (Nat.ne_of_lt lt5))
    have Zs58 : n0 ≤ h51.size := Nat.le_trans Zs48 (Keep.of_wr W51).1
    have N59 := Fr.snoc X51 N49 g_this
    have K60 : Keep h0 h51 [this] := K50.wr W51 (Or.inl (List.mem_of_getElem? (i := 0) rfl))
    show own_Go p e below _ (T51.setTop (mkF m 57 #[oR this, oR p1, oI (0 : Int32), oI (2 : Int32), .val .null, oR r3] []))
    obtain ⟨fs, hr, hrun, hended, hW, hsame⟩ := X51.leave (v := none) (fun _ => rfl)
    refine ⟨_, _, X51.returnOut hx Bd.returns (hb hby d3_57) hr, hrun, hended, _, _, rfl, ?_, ⟨_, rfl⟩, hW, hsame.mono (by decide) (by decide)⟩
    show QI4_2 Z this p1 kc c0_ c1_ wcs wsf h0 n0 _ T51.heap _
    rw [e51]
    exact ⟨rfl, N59, K60, r3, kb3, ⟨g_this, lt5⟩, E53, F54, Or.inr ⟨F55, V57⟩⟩
theorem ef_rmI_2 (m : MethodId) (q0 : Addr) (q1 : Addr) : entryFrame m #[(.ref q0), (.ref q1)] 2 = mkF m 0 #[oR q0, oR q1] [] := by first | (simp [entryFrame, mkF, argsToLocals, Value.category]; done) | rfl
def QI_2 (Z : State) (this : Addr) (p1 : Addr) (kc : ClassId) (c0_ : Int32) (c1_ : Int32) (wcs : Int32) (wsf : Value) (h0 : Heap) (n0 : Nat) (v : Option Value) (h : Heap) (L : List Loc) : Prop := v = none ∧ Fr n0 L ∧ Keep h0 h [this] ∧ own_Str2 Z h n0 this c0_ c1_
set_option maxRecDepth 65536 in
set_option maxHeartbeats 40000000 in
theorem rmI_2 (l : Launch) (Z : State) (a0 : Array Value) (hw : ∀ d ∈ tables_1, d.before a0 Z = true) (ws : List Jvm.Cond) (this : Addr) (p1 : Addr) (kc : ClassId) (c0_ : Int32) (c1_ : Int32) (wcs : Int32) (wsf : Value) (h0 : Heap) (n0 : Nat) (Z0 : n0 ≤ h0.size) (g_this : n0 ≤ this) (E_this : Exa Z h0 this "java/lang/String") (F_value : Fld Z h0 this "java/lang/String" "value" "[B" .null) (F_coder : Fld Z h0 this "java/lang/String" "coder" "B" (.int (0 : Int32))) (VC : Arv Z h0 p1 kc .char (2 : Int32) [(.int c0_), (.int c1_)] (.int (0 : Int32))) (nec : p1 ≠ this) (hc0 : own_ch c0_) (hc1 : own_ch c1_) (OLD : Old Z n0 h0) (hcs : ¬ (wcs = (0 : Int32))) (rsf : wsf.isRef = true) (B_wcs : Sta Z Z.heap "java/lang/String" "COMPACT_STRINGS" "Z" (.int wcs)) (B_wsf : Sta Z Z.heap "jdk/internal/util/Preconditions" "SIOOBE_FORMATTER" "Ljava/util/function/BiFunction;" wsf) (B_wad : Sta Z Z.heap "java/lang/StringUTF16" "$assertionsDisabled" "Z" (.int (1 : Int32))) (B_whi : Sta Z Z.heap "java/lang/StringUTF16" "HI_BYTE_SHIFT" "I" (.int (0 : Int32))) (B_wlo : Sta Z Z.heap "java/lang/StringUTF16" "LO_BYTE_SHIFT" "I" (.int (8 : Int32))) :
    MetFree l (⟨"java/lang/String", "<init>", "([C)V"⟩ : MethodName) (head1 (Jvm.Cond.code (⟨"java/lang/String", "<init>", "([C)V"⟩ : MethodName) jdk_42_method_3_code 2 none :: ws) ({ frames := 5, cells := 2, slots := 6, locals := 74 } : Room)) (fun a U => a = #[(.ref this), (.ref p1)] ∧ Z.Warmed39 U.vm ∧ U.heap = h0) (fun _ _ _ _ _ => True) (fun _ U o U' => ∃ v L, o = .returned v ∧ QI_2 Z this p1 kc c0_ c1_ wcs wsf h0 n0 v U'.heap L ∧ FrameEnd U o U' L ({ frames := 5, cells := 2, slots := 6, locals := 74 } : Room).cells ({ frames := 5, cells := 2, slots := 6, locals := 74 } : Room).slots) := by
  refine MetFree.of_bodySF (plainFor_of_name pn_15) hisR ?_
  intro p e s m args below meth c s₁ Bd hml0 hP hK
  obtain ⟨rfl, hZ, hh⟩ := hP
  have hx := Bd.exec
  have hby := Bd.bytes
  have hml : c.maxLocals = 2 := hml0
  have hown : s.vm.findClass "java/lang/String" = some m.cls := findClass_of_methodNamed Bd.named
  have hnm := (name_of_methodNamed Bd.named Bd.method).1
  have X0 : Stand p l e ({ frames := 5, cells := 2, slots := 6, locals := 74 } : Room) s m #[(.ref this), (.ref p1)] below meth c s₁ [] 0 0 := Stand.of_body Bd
  have e0 : s₁.heap = h0 := by rw [← hh, Bd.state]; rfl
  have N0 := Fr.nil n0
  refine own_start ?_
  refine own_via (fun t k => castTop (ef_rmI_2 m this p1) k) ?_
  show own_Go p e below _ (s₁.setTop (mkF m 0 #[oR this, oR p1] []))
  refine own_via (fun t kz => XS.aloadN X0.here hx rfl (hb hby d2_0) rfl rfl kz) ?_
  refine own_via (fun t kz => XS.aloadN X0.here hx rfl (hb hby d2_1) rfl rfl kz) ?_
  refine own_via (fun t kz => XS.iconst X0.here hx rfl (hb hby d2_2) kz) ?_
  refine own_via (fun t kz => XS.aloadN X0.here hx rfl (hb hby d2_3) rfl rfl kz) ?_
  show own_Go p e below _ (s₁.setTop (mkF m 4 #[oR this, oR p1] [(.ref p1), (.int (0 : Int32)), (.ref p1), (.ref this)]))
  obtain ⟨cl1, Ar1, kc1, Sz1, Nn1, Hs1, Gs1⟩ := id VC
  refine own_via (fun t kz => X0.arraylength hx (by rw [e0]; exact Ar1.1) (State.isArrayOf_alike hZ.alike Ar1.2.1) (g := (mkF m 4 #[oR this, oR p1] [(.ref p1), (.int (0 : Int32)), (.ref p1), (.ref this)])) rfl rfl (hb hby d2_4) t kz) ?_
  show own_Go p e below _ (s₁.setTop (mkF m 5 #[oR this, oR p1] [(.int (cl1.slots.size.toInt32)), (.int (0 : Int32)), (.ref p1), (.ref this)]))
  rw [len_of Sz1 Nn1]
  show own_Go p e below _ (s₁.setTop (mkF m 5 #[oR this, oR p1] [(.int (2 : Int32)), (.int (0 : Int32)), (.ref p1), (.ref this)]))
  refine own_via (fun t kz => XS.aconstNull X0.here hx rfl (hb hby d2_5) kz) ?_
  show own_Go p e below _ (s₁.setTop (mkF m 6 #[oR this, oR p1] [.null, (.int (2 : Int32)), (.int (0 : Int32)), (.ref p1), (.ref this)]))
  obtain ⟨_, _, ⟨T2, L2, k2, n2⟩, -, X2, ⟨Lc2, hQ2, l2, y2, z2⟩, st2⟩ := X0.specialBack hx (y := (⟨"java/lang/String", "<init>", "([CIILjava/lang/Void;)V"⟩ : MethodName)) rfl hown (mvT hZ (own_w hw 11)) (mvT hZ (own_w hw 12)) (mvT hZ (own_w hw 14)) (by decide) (backOf (W := 0) (rmI4_2 l Z a0 hw [] this p1 kc c0_ c1_ wcs wsf h0 n0 Z0 g_this E_this F_value F_coder VC nec hc0 hc1 OLD hcs rsf B_wcs B_wsf B_wad B_whi B_wlo) hZ (own_w hw 14) (own_w hw 6) (by decide) (by decide)) (g := (mkF m 6 #[oR this, oR p1] [.null, (.int (2 : Int32)), (.int (0 : Int32)), (.ref p1), (.ref this)])) rfl (by rw [hml]; rfl) (Steps.refl _) (a := this) (argsL := [(.ref p1), (.int (0 : Int32)), (.int (2 : Int32)), .null]) (rest := []) (lenOf pd_2_0 rfl) rfl (by show 2 * 0 + _ ≤ _; exact Nat.le_of_eq rfl) (hb hby d2_6) (fun _ _ => ⟨rfl, e0, (by decide : 0 + 2 ≤ _), (by decide : 0 + 6 ≤ _)⟩)
  dsimp only [Pt.U, Pt.locs, Pt.cells, Pt.slots] at X2 l2 y2 z2 st2 hQ2
  subst l2 y2 z2
  obtain ⟨rfl, Nq2, Kc2, SR2⟩ := hQ2
  have N3 := Fr.app N0 Nq2
  refine own_tr st2 ?_
  have O4 : Old Z n0 T2.heap := OLD.keep Kc2 (allS g_this all0)
  have E5 := E_this.keep Kc2
  have V6 := VC.keep Kc2 (ninS nec nin0)
  have Zs7 : n0 ≤ T2.heap.size := Nat.le_trans Z0 Kc2.1
  have K8 : Keep h0 T2.heap [this] := (Keep.refl h0 [this]).trans Kc2 (allS (Or.inl (List.mem_of_getElem? (i := 0) rfl)) all0)
  show own_Go p e below _ (T2.setTop (mkF m 9 #[oR this, oR p1] []))
  obtain ⟨fs, hr, hrun, hended, hW, hsame⟩ := X2.leave (v := none) (fun _ => rfl)
  refine ⟨_, _, X2.returnOut hx Bd.returns (hb hby d2_9) hr, hrun, hended, _, _, rfl, ?_, ⟨_, rfl⟩, hW, hsame.mono (by decide) (by decide)⟩
  show QI_2 Z this p1 kc c0_ c1_ wcs wsf h0 n0 _ T2.heap _
  exact ⟨rfl, N3, K8, SR2⟩
theorem ef_rmL2 (m : MethodId) (q0 : Addr) : entryFrame m #[(.ref q0)] 1 = mkF m 0 #[oR q0] [] := by first | (simp [entryFrame, mkF, argsToLocals, Value.category]; done) | rfl
def QL2 (Z : State) (this : Addr) (c0_ : Int32) (c1_ : Int32) (wcs : Int32) (wsf : Value) (h0 : Heap) (n0 : Nat) (v : Option Value) (h : Heap) (L : List Loc) : Prop := v = some (.int (2 : Int32)) ∧ Fr n0 L ∧ h = h0
set_option maxRecDepth 65536 in
set_option maxHeartbeats 40000000 in
theorem rmL2 (l : Launch) (Z : State) (a0 : Array Value) (hw : ∀ d ∈ tables_1, d.before a0 Z = true) (ws : List Jvm.Cond) (this : Addr) (c0_ : Int32) (c1_ : Int32) (wcs : Int32) (wsf : Value) (h0 : Heap) (n0 : Nat) (Z0 : n0 ≤ h0.size) (SR : own_Str2 Z h0 n0 this c0_ c1_) (OLD : Old Z n0 h0) (hcs : ¬ (wcs = (0 : Int32))) (rsf : wsf.isRef = true) (B_wcs : Sta Z Z.heap "java/lang/String" "COMPACT_STRINGS" "Z" (.int wcs)) (B_wsf : Sta Z Z.heap "jdk/internal/util/Preconditions" "SIOOBE_FORMATTER" "Ljava/util/function/BiFunction;" wsf) (B_wad : Sta Z Z.heap "java/lang/StringUTF16" "$assertionsDisabled" "Z" (.int (1 : Int32))) (B_whi : Sta Z Z.heap "java/lang/StringUTF16" "HI_BYTE_SHIFT" "I" (.int (0 : Int32))) (B_wlo : Sta Z Z.heap "java/lang/StringUTF16" "LO_BYTE_SHIFT" "I" (.int (8 : Int32))) :
    MetFree l (⟨"java/lang/String", "length", "()I"⟩ : MethodName) (head1 (Jvm.Cond.code (⟨"java/lang/String", "length", "()I"⟩ : MethodName) jdk_42_method_54_code 1 (some .int) :: ws) ({ frames := 1, cells := 0, slots := 0, locals := 13 } : Room)) (fun a U => a = #[(.ref this)] ∧ Z.Warmed39 U.vm ∧ U.heap = h0) (fun _ _ _ _ _ => True) (fun _ U o U' => ∃ v L, o = .returned v ∧ QL2 Z this c0_ c1_ wcs wsf h0 n0 v U'.heap L ∧ FrameEnd U o U' L ({ frames := 1, cells := 0, slots := 0, locals := 13 } : Room).cells ({ frames := 1, cells := 0, slots := 0, locals := 13 } : Room).slots) := by
  refine MetFree.of_bodySF (plainFor_of_name pn_15) hisR ?_
  intro p e s m args below meth c s₁ Bd hml0 hP hK
  obtain ⟨rfl, hZ, hh⟩ := hP
  have hx := Bd.exec
  have hby := Bd.bytes
  have hml : c.maxLocals = 1 := hml0
  have hown : s.vm.findClass "java/lang/String" = some m.cls := findClass_of_methodNamed Bd.named
  have hnm := (name_of_methodNamed Bd.named Bd.method).1
  have X0 : Stand p l e ({ frames := 1, cells := 0, slots := 0, locals := 13 } : Room) s m #[(.ref this)] below meth c s₁ [] 0 0 := Stand.of_body Bd
  have e0 : s₁.heap = h0 := by rw [← hh, Bd.state]; rfl
  have N0 := Fr.nil n0
  refine own_start ?_
  refine own_via (fun t k => castTop (ef_rmL2 m this) k) ?_
  obtain ⟨arr, kb, ⟨ch0, ch1⟩, Eq, Fv, Rp⟩ := SR
  rcases Rp with ⟨hl, Fc, Va⟩ | ⟨Fc, Va⟩
  · show own_Go p e below _ (s₁.setTop (mkF m 0 #[oR this] []))
    refine own_via (fun t kz => XS.aloadN X0.here hx rfl (hb hby d6_0) rfl rfl kz) ?_
    show own_Go p e below _ (s₁.setTop (mkF m 1 #[oR this] [(.ref this)]))
    obtain ⟨T1, X1, e1, st1⟩ := getF X0 hx hZ hown (host := "") (Or.inl (own_w hw 24)) Via.refl e0 Fv (g := (mkF m 1 #[oR this] [(.ref this)])) rfl rfl (hb hby d6_1)
    refine own_via st1 ?_
    show own_Go p e below _ (T1.setTop (mkF m 4 #[oR this] [(.ref arr)]))
    obtain ⟨cl2, Ar2, kc2, Sz2, Nn2, Hs2, Gs2⟩ := id Va
    refine own_via (fun t kz => X1.arraylength hx (by rw [e1]; exact Ar2.1) (State.isArrayOf_alike hZ.alike Ar2.2.1) (g := (mkF m 4 #[oR this] [(.ref arr)])) rfl rfl (hb hby d6_4) t kz) ?_
    show own_Go p e below _ (T1.setTop (mkF m 5 #[oR this] [(.int (cl2.slots.size.toInt32))]))
    rw [len_of Sz2 Nn2]
    show own_Go p e below _ (T1.setTop (mkF m 5 #[oR this] [(.int (2 : Int32))]))
    refine own_via (fun t kz => XS.aloadN X1.here hx rfl (hb hby d6_5) rfl rfl kz) ?_
    show own_Go p e below _ (T1.setTop (mkF m 6 #[oR this] [(.ref this), (.int (2 : Int32))]))
    obtain ⟨cq3, kq3, qa3, qb3, qc3⟩ := isOf hZ e1 Eq
    obtain ⟨_, _, ⟨T3, L3, k3, n3⟩, -, X3, ⟨Lc3, hQ3, l3, y3, z3⟩, st3⟩ := X1.virtualBack hx (y := (⟨"java/lang/String", "coder", "()B"⟩ : MethodName)) (z := (⟨"java/lang/String", "coder", "()B"⟩ : MethodName)) hown (mvT hZ (own_w hw 35)) (mvT hZ (own_w hw 36)) (notFace_of_selects (args := #[]) (mvT hZ (own_w hw 38))) (mvT hZ (own_w hw 38)) (mvT hZ (own_w hw 37)) (by decide) (backOf (W := 1) (rm7 l Z a0 hw [] this (0 : Int32) wcs (0 : Int32) h0 n0 Z0 hcs rfl Fc (B_wcs.ext OLD.2) (by unfold f7; rfl)) hZ (own_w hw 39) (own_w hw 6) (by decide) (by decide)) qa3 qc3 (g := (mkF m 6 #[oR this] [(.ref this), (.int (2 : Int32))])) rfl (by rw [hml]; rfl) (Steps.refl _) (argsL := []) (rest := [(.int (2 : Int32))]) (lenOf pd_6_0 rfl) rfl (by show 2 * 0 + _ ≤ _; exact Nat.le_of_eq rfl) (hb hby d6_6) (fun _ _ => ⟨rfl, e1, (by decide : 0 + 0 ≤ _), (by decide : 0 + 0 ≤ _)⟩)
    dsimp only [Pt.U, Pt.locs, Pt.cells, Pt.slots] at X3 l3 y3 z3 st3 hQ3
    subst l3 y3 z3
    obtain ⟨rfl, Nq3, e3⟩ := hQ3
    have N4 := Fr.app N0 Nq3
    refine own_tr st3 ?_
    show own_Go p e below _ (T3.setTop (mkF m 9 #[oR this] [(.int (0 : Int32)), (.int (2 : Int32))]))
    refine own_via (fun t kz => XS.ishr X3.here hx rfl (hb hby d6_9) rfl kz) ?_
    show own_Go p e below _ (T3.setTop (mkF m 10 #[oR this] [(.int (2 : Int32))]))
    obtain ⟨fs, hr, hrun, hended, hW, hsame⟩ := X3.leave (v := some (.int (2 : Int32))) (fun h => by rw [Bd.returns] at h; cases h)
    refine ⟨_, _, retI X3 hx Bd.returns (hb hby d6_10) hr, hrun, hended, _, _, rfl, ?_, ⟨_, rfl⟩, hW, hsame.mono (by decide) (by decide)⟩
    show QL2 Z this c0_ c1_ wcs wsf h0 n0 _ T3.heap _
    rw [e3]
    exact ⟨rfl, N4, rfl⟩
  · show own_Go p e below _ (s₁.setTop (mkF m 0 #[oR this] []))
    refine own_via (fun t kz => XS.aloadN X0.here hx rfl (hb hby d6_0) rfl rfl kz) ?_
    show own_Go p e below _ (s₁.setTop (mkF m 1 #[oR this] [(.ref this)]))
    obtain ⟨T6, X6, e6, st6⟩ := getF X0 hx hZ hown (host := "") (Or.inl (own_w hw 24)) Via.refl e0 Fv (g := (mkF m 1 #[oR this] [(.ref this)])) rfl rfl (hb hby d6_1)
    refine own_via st6 ?_
    show own_Go p e below _ (T6.setTop (mkF m 4 #[oR this] [(.ref arr)]))
    obtain ⟨cl7, Ar7, kc7, Sz7, Nn7, Hs7, Gs7⟩ := id Va
    refine own_via (fun t kz => X6.arraylength hx (by rw [e6]; exact Ar7.1) (State.isArrayOf_alike hZ.alike Ar7.2.1) (g := (mkF m 4 #[oR this] [(.ref arr)])) rfl rfl (hb hby d6_4) t kz) ?_
    show own_Go p e below _ (T6.setTop (mkF m 5 #[oR this] [(.int (cl7.slots.size.toInt32))]))
    rw [len_of Sz7 Nn7]
    show own_Go p e below _ (T6.setTop (mkF m 5 #[oR this] [(.int (4 : Int32))]))
    refine own_via (fun t kz => XS.aloadN X6.here hx rfl (hb hby d6_5) rfl rfl kz) ?_
    show own_Go p e below _ (T6.setTop (mkF m 6 #[oR this] [(.ref this), (.int (4 : Int32))]))
    obtain ⟨cq8, kq8, qa8, qb8, qc8⟩ := isOf hZ e6 Eq
    obtain ⟨_, _, ⟨T8, L8, k8, n8⟩, -, X8, ⟨Lc8, hQ8, l8, y8, z8⟩, st8⟩ := X6.virtualBack hx (y := (⟨"java/lang/String", "coder", "()B"⟩ : MethodName)) (z := (⟨"java/lang/String", "coder", "()B"⟩ : MethodName)) hown (mvT hZ (own_w hw 35)) (mvT hZ (own_w hw 36)) (notFace_of_selects (args := #[]) (mvT hZ (own_w hw 38))) (mvT hZ (own_w hw 38)) (mvT hZ (own_w hw 37)) (by decide) (backOf (W := 1) (rm7 l Z a0 hw [] this (1 : Int32) wcs (1 : Int32) h0 n0 Z0 hcs rfl Fc (B_wcs.ext OLD.2) (by unfold f7; rfl)) hZ (own_w hw 39) (own_w hw 6) (by decide) (by decide)) qa8 qc8 (g := (mkF m 6 #[oR this] [(.ref this), (.int (4 : Int32))])) rfl (by rw [hml]; rfl) (Steps.refl _) (argsL := []) (rest := [(.int (4 : Int32))]) (lenOf pd_6_0 rfl) rfl (by show 2 * 0 + _ ≤ _; exact Nat.le_of_eq rfl) (hb hby d6_6) (fun _ _ => ⟨rfl, e6, (by decide : 0 + 0 ≤ _), (by decide : 0 + 0 ≤ _)⟩)
    dsimp only [Pt.U, Pt.locs, Pt.cells, Pt.slots] at X8 l8 y8 z8 st8 hQ8
    subst l8 y8 z8
    obtain ⟨rfl, Nq8, e8⟩ := hQ8
    have N9 := Fr.app N0 Nq8
    refine own_tr st8 ?_
    show own_Go p e below _ (T8.setTop (mkF m 9 #[oR this] [(.int (1 : Int32)), (.int (4 : Int32))]))
    refine own_via (fun t kz => XS.ishr X8.here hx rfl (hb hby d6_9) rfl kz) ?_
    show own_Go p e below _ (T8.setTop (mkF m 10 #[oR this] [(.int (2 : Int32))]))
    obtain ⟨fs, hr, hrun, hended, hW, hsame⟩ := X8.leave (v := some (.int (2 : Int32))) (fun h => by rw [Bd.returns] at h; cases h)
    refine ⟨_, _, retI X8 hx Bd.returns (hb hby d6_10) hr, hrun, hended, _, _, rfl, ?_, ⟨_, rfl⟩, hW, hsame.mono (by decide) (by decide)⟩
    show QL2 Z this c0_ c1_ wcs wsf h0 n0 _ T8.heap _
    rw [e8]
    exact ⟨rfl, N9, rfl⟩
def fU2  : Int32 := (2 : Int32)
theorem ef_rmU2 (m : MethodId) (q0 : Addr) : entryFrame m #[(.ref q0)] 1 = mkF m 0 #[oR q0] [] := by first | (simp [entryFrame, mkF, argsToLocals, Value.category]; done) | rfl
def QU2 (Z : State) (p0 : Addr) (ka : ClassId) (b0_ : Int32) (b1_ : Int32) (b2_ : Int32) (b3_ : Int32) (r : Int32) (h0 : Heap) (n0 : Nat) (v : Option Value) (h : Heap) (L : List Loc) : Prop := v = some (.int r) ∧ Fr n0 L ∧ h = h0
set_option maxRecDepth 65536 in
set_option maxHeartbeats 40000000 in
theorem rmU2 (l : Launch) (Z : State) (a0 : Array Value) (hw : ∀ d ∈ tables_1, d.before a0 Z = true) (ws : List Jvm.Cond) (p0 : Addr) (ka : ClassId) (b0_ : Int32) (b1_ : Int32) (b2_ : Int32) (b3_ : Int32) (r : Int32) (h0 : Heap) (n0 : Nat) (Z0 : n0 ≤ h0.size) (V_p0 : Arv Z h0 p0 ka .byte (4 : Int32) [(.int b0_), (.int b1_), (.int b2_), (.int b3_)] (.int (0 : Int32))) (hr0 : fU2 = r) :
    MetFree l (⟨"java/lang/StringUTF16", "length", "([B)I"⟩ : MethodName) (head1 (Jvm.Cond.code (⟨"java/lang/StringUTF16", "length", "([B)I"⟩ : MethodName) jdk_52_method_6_code 1 (some .int) :: ws) ({ frames := 0, cells := 0, slots := 0, locals := 0 } : Room)) (fun a U => a = #[(.ref p0)] ∧ Z.Warmed39 U.vm ∧ U.heap = h0) (fun _ _ _ _ _ => True) (fun _ U o U' => ∃ v L, o = .returned v ∧ QU2 Z p0 ka b0_ b1_ b2_ b3_ r h0 n0 v U'.heap L ∧ FrameEnd U o U' L ({ frames := 0, cells := 0, slots := 0, locals := 0 } : Room).cells ({ frames := 0, cells := 0, slots := 0, locals := 0 } : Room).slots) := by
  refine MetFree.of_bodySF (plainFor_of_name pn_20) hisR ?_
  intro p e s m args below meth c s₁ Bd hml0 hP hK
  obtain ⟨rfl, hZ, hh⟩ := hP
  have hx := Bd.exec
  have hby := Bd.bytes
  have hml : c.maxLocals = 1 := hml0
  have hown : s.vm.findClass "java/lang/StringUTF16" = some m.cls := findClass_of_methodNamed Bd.named
  have hnm := (name_of_methodNamed Bd.named Bd.method).1
  have X0 : Stand p l e ({ frames := 0, cells := 0, slots := 0, locals := 0 } : Room) s m #[(.ref p0)] below meth c s₁ [] 0 0 := Stand.of_body Bd
  have e0 : s₁.heap = h0 := by rw [← hh, Bd.state]; rfl
  have N0 := Fr.nil n0
  refine own_start ?_
  refine own_via (fun t k => castTop (ef_rmU2 m p0) k) ?_
  show own_Go p e below _ (s₁.setTop (mkF m 0 #[oR p0] []))
  refine own_via (fun t kz => XS.aloadN X0.here hx rfl (hb hby d25_0) rfl rfl kz) ?_
  show own_Go p e below _ (s₁.setTop (mkF m 1 #[oR p0] [(.ref p0)]))
  obtain ⟨cl1, Ar1, kc1, Sz1, Nn1, Hs1, Gs1⟩ := id V_p0
  refine own_via (fun t kz => X0.arraylength hx (by rw [e0]; exact Ar1.1) (State.isArrayOf_alike hZ.alike Ar1.2.1) (g := (mkF m 1 #[oR p0] [(.ref p0)])) rfl rfl (hb hby d25_1) t kz) ?_
  show own_Go p e below _ (s₁.setTop (mkF m 2 #[oR p0] [(.int (cl1.slots.size.toInt32))]))
  rw [len_of Sz1 Nn1]
  show own_Go p e below _ (s₁.setTop (mkF m 2 #[oR p0] [(.int (4 : Int32))]))
  refine own_via (fun t kz => XS.iconst X0.here hx rfl (hb hby d25_2) kz) ?_
  show own_Go p e below _ (s₁.setTop (mkF m 3 #[oR p0] [(.int (1 : Int32)), (.int (4 : Int32))]))
  refine own_via (fun t kz => XS.ishr X0.here hx rfl (hb hby d25_3) rfl kz) ?_
  show own_Go p e below _ (s₁.setTop (mkF m 4 #[oR p0] [(.int (2 : Int32))]))
  have hv : fU2 = (2 : Int32) := by unfold fU2; rfl
  obtain ⟨fs, hr, hrun, hended, hW, hsame⟩ := X0.leave (v := some (.int (2 : Int32))) (fun h => by rw [Bd.returns] at h; cases h)
  refine ⟨_, _, retI X0 hx Bd.returns (hb hby d25_4) hr, hrun, hended, _, _, rfl, ?_, ⟨_, rfl⟩, hW, hsame.mono (by decide) (by decide)⟩
  show QU2 Z p0 ka b0_ b1_ b2_ b3_ r h0 n0 _ s₁.heap _
  rw [e0]
  exact ⟨by rw [← hr0, hv], N0, rfl⟩
def fH2_0 (b0_ : Int32) : Int32 := ((b0_ &&& (255 : Int32)).toUInt32.toUInt16.toUInt32.toInt32)
theorem ef_rmH2_0 (m : MethodId) (q0 : Addr) : entryFrame m #[(.ref q0), (.int (0 : Int32))] 2 = mkF m 0 #[oR q0, oI (0 : Int32)] [] := by first | (simp [entryFrame, mkF, argsToLocals, Value.category]; done) | rfl
def QH2_0 (Z : State) (p0 : Addr) (wcs : Int32) (wsf : Value) (ka : ClassId) (b0_ : Int32) (b1_ : Int32) (r : Int32) (h0 : Heap) (n0 : Nat) (v : Option Value) (h : Heap) (L : List Loc) : Prop := v = some (.int r) ∧ Fr n0 L ∧ h = h0
set_option maxRecDepth 65536 in
set_option maxHeartbeats 40000000 in
theorem rmH2_0 (l : Launch) (Z : State) (a0 : Array Value) (hw : ∀ d ∈ tables_1, d.before a0 Z = true) (ws : List Jvm.Cond) (p0 : Addr) (wcs : Int32) (wsf : Value) (ka : ClassId) (b0_ : Int32) (b1_ : Int32) (r : Int32) (h0 : Heap) (n0 : Nat) (Z0 : n0 ≤ h0.size) (OLD : Old Z n0 h0) (hcs : ¬ (wcs = (0 : Int32))) (rsf : wsf.isRef = true) (B_wcs : Sta Z Z.heap "java/lang/String" "COMPACT_STRINGS" "Z" (.int wcs)) (B_wsf : Sta Z Z.heap "jdk/internal/util/Preconditions" "SIOOBE_FORMATTER" "Ljava/util/function/BiFunction;" wsf) (B_wad : Sta Z Z.heap "java/lang/StringUTF16" "$assertionsDisabled" "Z" (.int (1 : Int32))) (B_whi : Sta Z Z.heap "java/lang/StringUTF16" "HI_BYTE_SHIFT" "I" (.int (0 : Int32))) (B_wlo : Sta Z Z.heap "java/lang/StringUTF16" "LO_BYTE_SHIFT" "I" (.int (8 : Int32))) (V_p0 : Arv Z h0 p0 ka .byte (2 : Int32) [(.int b0_), (.int b1_)] (.int (0 : Int32))) (hr0 : (fH2_0 b0_) = r) :
    MetFree l (⟨"java/lang/StringLatin1", "charAt", "([BI)C"⟩ : MethodName) (head1 (Jvm.Cond.code (⟨"java/lang/StringLatin1", "charAt", "([BI)C"⟩ : MethodName) jdk_43_method_2_code 2 (some .char) :: ws) ({ frames := 2, cells := 0, slots := 0, locals := 27 } : Room)) (fun a U => a = #[(.ref p0), (.int (0 : Int32))] ∧ Z.Warmed39 U.vm ∧ U.heap = h0) (fun _ _ _ _ _ => True) (fun _ U o U' => ∃ v L, o = .returned v ∧ QH2_0 Z p0 wcs wsf ka b0_ b1_ r h0 n0 v U'.heap L ∧ FrameEnd U o U' L ({ frames := 2, cells := 0, slots := 0, locals := 27 } : Room).cells ({ frames := 2, cells := 0, slots := 0, locals := 27 } : Room).slots) := by
  refine MetFree.of_bodySF (plainFor_of_name pn_14) hisR ?_
  intro p e s m args below meth c s₁ Bd hml0 hP hK
  obtain ⟨rfl, hZ, hh⟩ := hP
  have hx := Bd.exec
  have hby := Bd.bytes
  have hml : c.maxLocals = 2 := hml0
  have hown : s.vm.findClass "java/lang/StringLatin1" = some m.cls := findClass_of_methodNamed Bd.named
  have hnm := (name_of_methodNamed Bd.named Bd.method).1
  have X0 : Stand p l e ({ frames := 2, cells := 0, slots := 0, locals := 27 } : Room) s m #[(.ref p0), (.int (0 : Int32))] below meth c s₁ [] 0 0 := Stand.of_body Bd
  have e0 : s₁.heap = h0 := by rw [← hh, Bd.state]; rfl
  have N0 := Fr.nil n0
  refine own_start ?_
  refine own_via (fun t k => castTop (ef_rmH2_0 m p0) k) ?_
  show own_Go p e below _ (s₁.setTop (mkF m 0 #[oR p0, oI (0 : Int32)] []))
  refine own_via (fun t kz => XS.iloadN X0.here hx rfl (hb hby d14_0) rfl kz) ?_
  refine own_via (fun t kz => XS.aloadN X0.here hx rfl (hb hby d14_1) rfl rfl kz) ?_
  show own_Go p e below _ (s₁.setTop (mkF m 2 #[oR p0, oI (0 : Int32)] [(.ref p0), (.int (0 : Int32))]))
  obtain ⟨cl1, Ar1, kc1, Sz1, Nn1, Hs1, Gs1⟩ := id V_p0
  refine own_via (fun t kz => X0.arraylength hx (by rw [e0]; exact Ar1.1) (State.isArrayOf_alike hZ.alike Ar1.2.1) (g := (mkF m 2 #[oR p0, oI (0 : Int32)] [(.ref p0), (.int (0 : Int32))])) rfl rfl (hb hby d14_2) t kz) ?_
  show own_Go p e below _ (s₁.setTop (mkF m 3 #[oR p0, oI (0 : Int32)] [(.int (cl1.slots.size.toInt32)), (.int (0 : Int32))]))
  rw [len_of Sz1 Nn1]
  show own_Go p e below _ (s₁.setTop (mkF m 3 #[oR p0, oI (0 : Int32)] [(.int (2 : Int32)), (.int (0 : Int32))]))
  obtain ⟨_, _, ⟨T2, L2, k2, n2⟩, -, X2, ⟨Lc2, hQ2, l2, y2, z2⟩, st2⟩ := Jvm.LawKit.callS X0 hx (y := (⟨"java/lang/String", "checkIndex", "(II)V"⟩ : MethodName)) hown (mvT hZ (own_w hw 68)) (mvT hZ (own_w hw 69)) (mvT hZ (own_w hw 6)) (mvT hZ (own_w hw 70)) (by decide) (backOf (W := 0) (rm15 l Z a0 hw [] (0 : Int32) (2 : Int32) wsf h0 n0 Z0 rsf (B_wsf.ext OLD.2) (by decide) (by decide)) hZ (own_w hw 70) (own_w hw 6) (by decide) (by decide)) (g := (mkF m 3 #[oR p0, oI (0 : Int32)] [(.int (2 : Int32)), (.int (0 : Int32))])) rfl (by rw [hml]; rfl) (argsL := [(.int (0 : Int32)), (.int (2 : Int32))]) (rest := []) (lenOf pd_14_0 rfl) rfl (by show 2 * 0 + _ ≤ _; exact Nat.le_of_eq rfl) (hb hby d14_3) (fun _ _ => ⟨rfl, e0, (by decide : 0 + 0 ≤ _), (by decide : 0 + 0 ≤ _)⟩)
  dsimp only [Pt.U, Pt.locs, Pt.cells, Pt.slots] at X2 l2 y2 z2 st2 hQ2
  subst l2 y2 z2
  obtain ⟨rfl, Nq2, e2⟩ := hQ2
  have N3 := Fr.app N0 Nq2
  refine own_via st2 ?_
  refine own_via (fun t kz => XS.aloadN X2.here hx rfl (hb hby d14_6) rfl rfl kz) ?_
  refine own_via (fun t kz => XS.iloadN X2.here hx rfl (hb hby d14_7) rfl kz) ?_
  show own_Go p e below _ (T2.setTop (mkF m 8 #[oR p0, oI (0 : Int32)] [(.int (0 : Int32)), (.ref p0)]))
  obtain ⟨cl4, Ar4, kc4, Sz4, Nn4, Hs4, Gs4⟩ := id V_p0
  have in4 := inb_of (j := (0 : Int32)) Sz4 ⟨by decide, by decide⟩
  have at4 : cl4.slots[((0 : Int32)).toNatClampNeg]? = some (.int b0_) := Hs4.at in4 rfl
  refine own_via (fun t kz => X2.baloadBytes hx (j := (0 : Int32)) (v := (.int b0_)) (by rw [e2]; exact Ar4.1) (State.isArrayOf_alike hZ.alike Ar4.2.1) Ar4.2.2 in4 at4 (g := (mkF m 8 #[oR p0, oI (0 : Int32)] [(.int (0 : Int32)), (.ref p0)])) rfl rfl (hb hby d14_8) t kz) ?_
  refine own_via (fun t kz => XS.sipush X2.here hx rfl (hb hby d14_9) kz) ?_
  refine own_via (fun t kz => XS.iand X2.here hx rfl (hb hby d14_12) rfl kz) ?_
  show own_Go p e below _ (T2.setTop (mkF m 13 #[oR p0, oI (0 : Int32)] [(.int (b0_ &&& (255 : Int32)))]))
  refine own_via (fun t kz => XS.i2c X2.here hx rfl (hb hby d14_13) rfl kz) ?_
  show own_Go p e below _ (T2.setTop (mkF m 14 #[oR p0, oI (0 : Int32)] [(.int ((b0_ &&& (255 : Int32)).toUInt32.toUInt16.toUInt32.toInt32))]))
  have hv : (fH2_0 b0_) = ((b0_ &&& (255 : Int32)).toUInt32.toUInt16.toUInt32.toInt32) := by unfold fH2_0; rfl
  obtain ⟨fs, hr, hrun, hended, hW, hsame⟩ := X2.leave (v := some (.int ((b0_ &&& (255 : Int32)).toUInt32.toUInt16.toUInt32.toInt32))) (fun h => by rw [Bd.returns] at h; cases h)
  refine ⟨_, _, retOut X2 hx (i := .ireturn) Bd.returns (narrow_c _) (Or.inl ⟨rfl, by simp, _, rfl⟩) (hb hby d14_14) hr, hrun, hended, _, _, rfl, ?_, ⟨_, rfl⟩, hW, hsame.mono (by decide) (by decide)⟩
  show QH2_0 Z p0 wcs wsf ka b0_ b1_ r h0 n0 _ T2.heap _
  rw [e2]
  exact ⟨by rw [← hr0, hv], N3, rfl⟩
theorem ef_rmX2_0 (m : MethodId) (q0 : Addr) : entryFrame m #[(.int (0 : Int32)), (.ref q0)] 2 = mkF m 0 #[oI (0 : Int32), oR q0] [] := by first | (simp [entryFrame, mkF, argsToLocals, Value.category]; done) | rfl
def QX2_0 (Z : State) (p1 : Addr) (kb : ClassId) (b0_ : Int32) (b1_ : Int32) (b2_ : Int32) (b3_ : Int32) (wcs : Int32) (wsf : Value) (h0 : Heap) (n0 : Nat) (v : Option Value) (h : Heap) (L : List Loc) : Prop := v = none ∧ Fr n0 L ∧ h = h0
set_option maxRecDepth 65536 in
set_option maxHeartbeats 40000000 in
theorem rmX2_0 (l : Launch) (Z : State) (a0 : Array Value) (hw : ∀ d ∈ tables_1, d.before a0 Z = true) (ws : List Jvm.Cond) (p1 : Addr) (kb : ClassId) (b0_ : Int32) (b1_ : Int32) (b2_ : Int32) (b3_ : Int32) (wcs : Int32) (wsf : Value) (h0 : Heap) (n0 : Nat) (Z0 : n0 ≤ h0.size) (VB : Arv Z h0 p1 kb .byte (4 : Int32) [(.int b0_), (.int b1_), (.int b2_), (.int b3_)] (.int (0 : Int32))) (OLD : Old Z n0 h0) (hcs : ¬ (wcs = (0 : Int32))) (rsf : wsf.isRef = true) (B_wcs : Sta Z Z.heap "java/lang/String" "COMPACT_STRINGS" "Z" (.int wcs)) (B_wsf : Sta Z Z.heap "jdk/internal/util/Preconditions" "SIOOBE_FORMATTER" "Ljava/util/function/BiFunction;" wsf) (B_wad : Sta Z Z.heap "java/lang/StringUTF16" "$assertionsDisabled" "Z" (.int (1 : Int32))) (B_whi : Sta Z Z.heap "java/lang/StringUTF16" "HI_BYTE_SHIFT" "I" (.int (0 : Int32))) (B_wlo : Sta Z Z.heap "java/lang/StringUTF16" "LO_BYTE_SHIFT" "I" (.int (8 : Int32))) :
    MetFree l (⟨"java/lang/StringUTF16", "checkIndex", "(I[B)V"⟩ : MethodName) (head1 (Jvm.Cond.code (⟨"java/lang/StringUTF16", "checkIndex", "(I[B)V"⟩ : MethodName) jdk_52_method_91_code 2 none :: ws) ({ frames := 2, cells := 0, slots := 0, locals := 27 } : Room)) (fun a U => a = #[(.int (0 : Int32)), (.ref p1)] ∧ Z.Warmed39 U.vm ∧ U.heap = h0) (fun _ _ _ _ _ => True) (fun _ U o U' => ∃ v L, o = .returned v ∧ QX2_0 Z p1 kb b0_ b1_ b2_ b3_ wcs wsf h0 n0 v U'.heap L ∧ FrameEnd U o U' L ({ frames := 2, cells := 0, slots := 0, locals := 27 } : Room).cells ({ frames := 2, cells := 0, slots := 0, locals := 27 } : Room).slots) := by
  refine MetFree.of_bodySF (plainFor_of_name pn_20) hisR ?_
  intro p e s m args below meth c s₁ Bd hml0 hP hK
  obtain ⟨rfl, hZ, hh⟩ := hP
  have hx := Bd.exec
  have hby := Bd.bytes
  have hml : c.maxLocals = 2 := hml0
  have hown : s.vm.findClass "java/lang/StringUTF16" = some m.cls := findClass_of_methodNamed Bd.named
  have hnm := (name_of_methodNamed Bd.named Bd.method).1
  have X0 : Stand p l e ({ frames := 2, cells := 0, slots := 0, locals := 27 } : Room) s m #[(.int (0 : Int32)), (.ref p1)] below meth c s₁ [] 0 0 := Stand.of_body Bd
  have e0 : s₁.heap = h0 := by rw [← hh, Bd.state]; rfl
  have N0 := Fr.nil n0
  refine own_start ?_
  refine own_via (fun t k => castTop (ef_rmX2_0 m p1) k) ?_
  show own_Go p e below _ (s₁.setTop (mkF m 0 #[oI (0 : Int32), oR p1] []))
  refine own_via (fun t kz => XS.iloadN X0.here hx rfl (hb hby d24_0) rfl kz) ?_
  refine own_via (fun t kz => XS.aloadN X0.here hx rfl (hb hby d24_1) rfl rfl kz) ?_
  show own_Go p e below _ (s₁.setTop (mkF m 2 #[oI (0 : Int32), oR p1] [(.ref p1), (.int (0 : Int32))]))
  obtain ⟨_, _, ⟨T1, L1, k1, n1⟩, -, X1, ⟨Lc1, hQ1, l1, y1, z1⟩, st1⟩ := Jvm.LawKit.callS X0 hx (y := (⟨"java/lang/StringUTF16", "length", "([B)I"⟩ : MethodName)) hown (mvT hZ (own_w hw 104)) (mvT hZ (own_w hw 105)) (mvT hZ (own_w hw 43)) (mvT hZ (own_w hw 106)) (by decide) (backOf (W := 1) (rmU2 l Z a0 hw [] p1 kb b0_ b1_ b2_ b3_ (2 : Int32) h0 n0 Z0 VB (by unfold fU2; rfl)) hZ (own_w hw 106) (own_w hw 43) (by decide) (by decide)) (g := (mkF m 2 #[oI (0 : Int32), oR p1] [(.ref p1), (.int (0 : Int32))])) rfl (by rw [hml]; rfl) (argsL := [(.ref p1)]) (rest := [(.int (0 : Int32))]) (lenOf pd_24_0 rfl) rfl (by show 2 * 0 + _ ≤ _; exact Nat.le_of_eq rfl) (hb hby d24_2) (fun _ _ => ⟨rfl, e0, (by decide : 0 + 0 ≤ _), (by decide : 0 + 0 ≤ _)⟩)
  dsimp only [Pt.U, Pt.locs, Pt.cells, Pt.slots] at X1 l1 y1 z1 st1 hQ1
  subst l1 y1 z1
  obtain ⟨rfl, Nq1, e1⟩ := hQ1
  have N2 := Fr.app N0 Nq1
  refine own_via st1 ?_
  show own_Go p e below _ (T1.setTop (mkF m 5 #[oI (0 : Int32), oR p1] [(.int (2 : Int32)), (.int (0 : Int32))]))
  obtain ⟨_, _, ⟨T3, L3, k3, n3⟩, -, X3, ⟨Lc3, hQ3, l3, y3, z3⟩, st3⟩ := Jvm.LawKit.callS X1 hx (y := (⟨"java/lang/String", "checkIndex", "(II)V"⟩ : MethodName)) hown (mvT hZ (own_w hw 107)) (mvT hZ (own_w hw 69)) (mvT hZ (own_w hw 6)) (mvT hZ (own_w hw 70)) (by decide) (backOf (W := 0) (rm15 l Z a0 hw [] (0 : Int32) (2 : Int32) wsf h0 n0 Z0 rsf (B_wsf.ext OLD.2) (by decide) (by decide)) hZ (own_w hw 70) (own_w hw 6) (by decide) (by decide)) (g := (mkF m 5 #[oI (0 : Int32), oR p1] [(.int (2 : Int32)), (.int (0 : Int32))])) rfl (by rw [hml]; rfl) (argsL := [(.int (0 : Int32)), (.int (2 : Int32))]) (rest := []) (lenOf pd_24_1 rfl) rfl (by show 2 * 0 + _ ≤ _; exact Nat.le_of_eq rfl) (hb hby d24_5) (fun _ _ => ⟨rfl, e1, (by decide : 0 + 0 ≤ _), (by decide : 0 + 0 ≤ _)⟩)
  dsimp only [Pt.U, Pt.locs, Pt.cells, Pt.slots] at X3 l3 y3 z3 st3 hQ3
  subst l3 y3 z3
  obtain ⟨rfl, Nq3, e3⟩ := hQ3
  have N4 := Fr.app N2 Nq3
  refine own_via st3 ?_
  show own_Go p e below _ (T3.setTop (mkF m 8 #[oI (0 : Int32), oR p1] []))
  obtain ⟨fs, hr, hrun, hended, hW, hsame⟩ := X3.leave (v := none) (fun _ => rfl)
  refine ⟨_, _, X3.returnOut hx Bd.returns (hb hby d24_8) hr, hrun, hended, _, _, rfl, ?_, ⟨_, rfl⟩, hW, hsame.mono (by decide) (by decide)⟩
  show QX2_0 Z p1 kb b0_ b1_ b2_ b3_ wcs wsf h0 n0 _ T3.heap _
  rw [e3]
  exact ⟨rfl, N4, rfl⟩
def fY2_0 (b0_ : Int32) (b1_ : Int32) : Int32 := ((((b0_ &&& (255 : Int32)) <<< ((0 : Int32) &&& 31)) ||| ((b1_ &&& (255 : Int32)) <<< ((8 : Int32) &&& 31))).toUInt32.toUInt16.toUInt32.toInt32)
theorem ef_rmY2_0 (m : MethodId) (q0 : Addr) : entryFrame m #[(.ref q0), (.int (0 : Int32))] 2 = mkF m 0 #[oR q0, oI (0 : Int32)] [] := by first | (simp [entryFrame, mkF, argsToLocals, Value.category]; done) | rfl
def QY2_0 (Z : State) (p0 : Addr) (wcs : Int32) (wsf : Value) (ka : ClassId) (b0_ : Int32) (b1_ : Int32) (b2_ : Int32) (b3_ : Int32) (r : Int32) (h0 : Heap) (n0 : Nat) (v : Option Value) (h : Heap) (L : List Loc) : Prop := v = some (.int r) ∧ Fr n0 L ∧ h = h0
set_option maxRecDepth 65536 in
set_option maxHeartbeats 40000000 in
theorem rmY2_0 (l : Launch) (Z : State) (a0 : Array Value) (hw : ∀ d ∈ tables_1, d.before a0 Z = true) (ws : List Jvm.Cond) (p0 : Addr) (wcs : Int32) (wsf : Value) (ka : ClassId) (b0_ : Int32) (b1_ : Int32) (b2_ : Int32) (b3_ : Int32) (r : Int32) (h0 : Heap) (n0 : Nat) (Z0 : n0 ≤ h0.size) (OLD : Old Z n0 h0) (hcs : ¬ (wcs = (0 : Int32))) (rsf : wsf.isRef = true) (B_wcs : Sta Z Z.heap "java/lang/String" "COMPACT_STRINGS" "Z" (.int wcs)) (B_wsf : Sta Z Z.heap "jdk/internal/util/Preconditions" "SIOOBE_FORMATTER" "Ljava/util/function/BiFunction;" wsf) (B_wad : Sta Z Z.heap "java/lang/StringUTF16" "$assertionsDisabled" "Z" (.int (1 : Int32))) (B_whi : Sta Z Z.heap "java/lang/StringUTF16" "HI_BYTE_SHIFT" "I" (.int (0 : Int32))) (B_wlo : Sta Z Z.heap "java/lang/StringUTF16" "LO_BYTE_SHIFT" "I" (.int (8 : Int32))) (V_p0 : Arv Z h0 p0 ka .byte (4 : Int32) [(.int b0_), (.int b1_), (.int b2_), (.int b3_)] (.int (0 : Int32))) (hr0 : (fY2_0 b0_ b1_) = r) :
    MetFree l (⟨"java/lang/StringUTF16", "charAt", "([BI)C"⟩ : MethodName) (head1 (Jvm.Cond.code (⟨"java/lang/StringUTF16", "charAt", "([BI)C"⟩ : MethodName) jdk_52_method_83_code 2 (some .char) :: ws) ({ frames := 3, cells := 0, slots := 0, locals := 40 } : Room)) (fun a U => a = #[(.ref p0), (.int (0 : Int32))] ∧ Z.Warmed39 U.vm ∧ U.heap = h0) (fun _ _ _ _ _ => True) (fun _ U o U' => ∃ v L, o = .returned v ∧ QY2_0 Z p0 wcs wsf ka b0_ b1_ b2_ b3_ r h0 n0 v U'.heap L ∧ FrameEnd U o U' L ({ frames := 3, cells := 0, slots := 0, locals := 40 } : Room).cells ({ frames := 3, cells := 0, slots := 0, locals := 40 } : Room).slots) := by
  refine MetFree.of_bodySF (plainFor_of_name pn_20) hisR ?_
  intro p e s m args below meth c s₁ Bd hml0 hP hK
  obtain ⟨rfl, hZ, hh⟩ := hP
  have hx := Bd.exec
  have hby := Bd.bytes
  have hml : c.maxLocals = 2 := hml0
  have hown : s.vm.findClass "java/lang/StringUTF16" = some m.cls := findClass_of_methodNamed Bd.named
  have hnm := (name_of_methodNamed Bd.named Bd.method).1
  have X0 : Stand p l e ({ frames := 3, cells := 0, slots := 0, locals := 40 } : Room) s m #[(.ref p0), (.int (0 : Int32))] below meth c s₁ [] 0 0 := Stand.of_body Bd
  have e0 : s₁.heap = h0 := by rw [← hh, Bd.state]; rfl
  have N0 := Fr.nil n0
  refine own_start ?_
  refine own_via (fun t k => castTop (ef_rmY2_0 m p0) k) ?_
  show own_Go p e below _ (s₁.setTop (mkF m 0 #[oR p0, oI (0 : Int32)] []))
  refine own_via (fun t kz => XS.iloadN X0.here hx rfl (hb hby d23_0) rfl kz) ?_
  refine own_via (fun t kz => XS.aloadN X0.here hx rfl (hb hby d23_1) rfl rfl kz) ?_
  show own_Go p e below _ (s₁.setTop (mkF m 2 #[oR p0, oI (0 : Int32)] [(.ref p0), (.int (0 : Int32))]))
  obtain ⟨_, _, ⟨T1, L1, k1, n1⟩, -, X1, ⟨Lc1, hQ1, l1, y1, z1⟩, st1⟩ := Jvm.LawKit.callS X0 hx (y := (⟨"java/lang/StringUTF16", "checkIndex", "(I[B)V"⟩ : MethodName)) hown (mvT hZ (own_w hw 101)) (mvT hZ (own_w hw 102)) (mvT hZ (own_w hw 43)) (mvT hZ (own_w hw 103)) (by decide) (backOf (W := 0) (rmX2_0 l Z a0 hw [] p0 ka b0_ b1_ b2_ b3_ wcs wsf h0 n0 Z0 V_p0 OLD hcs rsf B_wcs B_wsf B_wad B_whi B_wlo) hZ (own_w hw 103) (own_w hw 43) (by decide) (by decide)) (g := (mkF m 2 #[oR p0, oI (0 : Int32)] [(.ref p0), (.int (0 : Int32))])) rfl (by rw [hml]; rfl) (argsL := [(.int (0 : Int32)), (.ref p0)]) (rest := []) (lenOf pd_23_0 rfl) rfl (by show 2 * 0 + _ ≤ _; exact Nat.le_of_eq rfl) (hb hby d23_2) (fun _ _ => ⟨rfl, e0, (by decide : 0 + 0 ≤ _), (by decide : 0 + 0 ≤ _)⟩)
  dsimp only [Pt.U, Pt.locs, Pt.cells, Pt.slots] at X1 l1 y1 z1 st1 hQ1
  subst l1 y1 z1
  obtain ⟨rfl, Nq1, e1⟩ := hQ1
  have N2 := Fr.app N0 Nq1
  refine own_via st1 ?_
  refine own_via (fun t kz => XS.aloadN X1.here hx rfl (hb hby d23_5) rfl rfl kz) ?_
  refine own_via (fun t kz => XS.iloadN X1.here hx rfl (hb hby d23_6) rfl kz) ?_
  show own_Go p e below _ (T1.setTop (mkF m 7 #[oR p0, oI (0 : Int32)] [(.int (0 : Int32)), (.ref p0)]))
  obtain ⟨_, _, ⟨T3, L3, k3, n3⟩, -, X3, ⟨Lc3, hQ3, l3, y3, z3⟩, st3⟩ := Jvm.LawKit.callS X1 hx (y := (⟨"java/lang/StringUTF16", "getChar", "([BI)C"⟩ : MethodName)) hown (mvT hZ (own_w hw 95)) (mvT hZ (own_w hw 96)) (mvT hZ (own_w hw 43)) (mvT hZ (own_w hw 97)) (by decide) (backOf (W := 0) (rmG2_0 l Z a0 hw [] p0 (1 : Int32) (0 : Int32) (8 : Int32) ka b0_ b1_ b2_ b3_ ((((b0_ &&& (255 : Int32)) <<< ((0 : Int32) &&& 31)) ||| ((b1_ &&& (255 : Int32)) <<< ((8 : Int32) &&& 31))).toUInt32.toUInt16.toUInt32.toInt32) h0 n0 Z0 rfl (B_wad.ext OLD.2) (B_whi.ext OLD.2) (B_wlo.ext OLD.2) V_p0 (by unfold fG2_0; rfl)) hZ (own_w hw 97) (own_w hw 43) (by decide) (by decide)) (g := (mkF m 7 #[oR p0, oI (0 : Int32)] [(.int (0 : Int32)), (.ref p0)])) rfl (by rw [hml]; rfl) (argsL := [(.ref p0), (.int (0 : Int32))]) (rest := []) (lenOf pd_23_1 rfl) rfl (by show 2 * 0 + _ ≤ _; exact Nat.le_of_eq rfl) (hb hby d23_7) (fun _ _ => ⟨rfl, e1, (by decide : 0 + 0 ≤ _), (by decide : 0 + 0 ≤ _)⟩)
  dsimp only [Pt.U, Pt.locs, Pt.cells, Pt.slots] at X3 l3 y3 z3 st3 hQ3
  subst l3 y3 z3
  obtain ⟨rfl, Nq3, e3⟩ := hQ3
  have N4 := Fr.app N2 Nq3
  refine own_via st3 ?_
  show own_Go p e below _ (T3.setTop (mkF m 10 #[oR p0, oI (0 : Int32)] [(.int ((((b0_ &&& (255 : Int32)) <<< ((0 : Int32) &&& 31)) ||| ((b1_ &&& (255 : Int32)) <<< ((8 : Int32) &&& 31))).toUInt32.toUInt16.toUInt32.toInt32))]))
  have hv : (fY2_0 b0_ b1_) = ((((b0_ &&& (255 : Int32)) <<< ((0 : Int32) &&& 31)) ||| ((b1_ &&& (255 : Int32)) <<< ((8 : Int32) &&& 31))).toUInt32.toUInt16.toUInt32.toInt32) := by unfold fY2_0; rfl
  obtain ⟨fs, hr, hrun, hended, hW, hsame⟩ := X3.leave (v := some (.int ((((b0_ &&& (255 : Int32)) <<< ((0 : Int32) &&& 31)) ||| ((b1_ &&& (255 : Int32)) <<< ((8 : Int32) &&& 31))).toUInt32.toUInt16.toUInt32.toInt32))) (fun h => by rw [Bd.returns] at h; cases h)
  refine ⟨_, _, retOut X3 hx (i := .ireturn) Bd.returns (narrow_c _) (Or.inl ⟨rfl, by simp, _, rfl⟩) (hb hby d23_10) hr, hrun, hended, _, _, rfl, ?_, ⟨_, rfl⟩, hW, hsame.mono (by decide) (by decide)⟩
  show QY2_0 Z p0 wcs wsf ka b0_ b1_ b2_ b3_ r h0 n0 _ T3.heap _
  rw [e3]
  exact ⟨by rw [← hr0, hv], N4, rfl⟩
theorem ef_rmA2_0 (m : MethodId) (q0 : Addr) : entryFrame m #[(.ref q0), (.int (0 : Int32))] 2 = mkF m 0 #[oR q0, oI (0 : Int32)] [] := by first | (simp [entryFrame, mkF, argsToLocals, Value.category]; done) | rfl
def QA2_0 (Z : State) (this : Addr) (c0_ : Int32) (c1_ : Int32) (wcs : Int32) (wsf : Value) (h0 : Heap) (n0 : Nat) (v : Option Value) (h : Heap) (L : List Loc) : Prop := v = some (.int c0_) ∧ Fr n0 L ∧ h = h0
set_option maxRecDepth 65536 in
set_option maxHeartbeats 40000000 in
theorem rmA2_0 (l : Launch) (Z : State) (a0 : Array Value) (hw : ∀ d ∈ tables_1, d.before a0 Z = true) (ws : List Jvm.Cond) (this : Addr) (c0_ : Int32) (c1_ : Int32) (wcs : Int32) (wsf : Value) (h0 : Heap) (n0 : Nat) (Z0 : n0 ≤ h0.size) (SR : own_Str2 Z h0 n0 this c0_ c1_) (hc0 : own_ch c0_) (hc1 : own_ch c1_) (OLD : Old Z n0 h0) (hcs : ¬ (wcs = (0 : Int32))) (rsf : wsf.isRef = true) (B_wcs : Sta Z Z.heap "java/lang/String" "COMPACT_STRINGS" "Z" (.int wcs)) (B_wsf : Sta Z Z.heap "jdk/internal/util/Preconditions" "SIOOBE_FORMATTER" "Ljava/util/function/BiFunction;" wsf) (B_wad : Sta Z Z.heap "java/lang/StringUTF16" "$assertionsDisabled" "Z" (.int (1 : Int32))) (B_whi : Sta Z Z.heap "java/lang/StringUTF16" "HI_BYTE_SHIFT" "I" (.int (0 : Int32))) (B_wlo : Sta Z Z.heap "java/lang/StringUTF16" "LO_BYTE_SHIFT" "I" (.int (8 : Int32))) :
    MetFree l (⟨"java/lang/String", "charAt", "(I)C"⟩ : MethodName) (head1 (Jvm.Cond.code (⟨"java/lang/String", "charAt", "(I)C"⟩ : MethodName) jdk_42_method_56_code 2 (some .char) :: ws) ({ frames := 4, cells := 0, slots := 0, locals := 53 } : Room)) (fun a U => a = #[(.ref this), (.int (0 : Int32))] ∧ Z.Warmed39 U.vm ∧ U.heap = h0) (fun _ _ _ _ _ => True) (fun _ U o U' => ∃ v L, o = .returned v ∧ QA2_0 Z this c0_ c1_ wcs wsf h0 n0 v U'.heap L ∧ FrameEnd U o U' L ({ frames := 4, cells := 0, slots := 0, locals := 53 } : Room).cells ({ frames := 4, cells := 0, slots := 0, locals := 53 } : Room).slots) := by
  refine MetFree.of_bodySF (plainFor_of_name pn_15) hisR ?_
  intro p e s m args below meth c s₁ Bd hml0 hP hK
  obtain ⟨rfl, hZ, hh⟩ := hP
  have hx := Bd.exec
  have hby := Bd.bytes
  have hml : c.maxLocals = 2 := hml0
  have hown : s.vm.findClass "java/lang/String" = some m.cls := findClass_of_methodNamed Bd.named
  have hnm := (name_of_methodNamed Bd.named Bd.method).1
  have X0 : Stand p l e ({ frames := 4, cells := 0, slots := 0, locals := 53 } : Room) s m #[(.ref this), (.int (0 : Int32))] below meth c s₁ [] 0 0 := Stand.of_body Bd
  have e0 : s₁.heap = h0 := by rw [← hh, Bd.state]; rfl
  have N0 := Fr.nil n0
  refine own_start ?_
  refine own_via (fun t k => castTop (ef_rmA2_0 m this) k) ?_
  obtain ⟨arr, kb, ⟨ch0, ch1⟩, Eq, Fv, Rp⟩ := SR
  rcases Rp with ⟨hl, Fc, Va⟩ | ⟨Fc, Va⟩
  · show own_Go p e below _ (s₁.setTop (mkF m 0 #[oR this, oI (0 : Int32)] []))
    refine own_via (fun t kz => XS.aloadN X0.here hx rfl (hb hby d12_0) rfl rfl kz) ?_
    show own_Go p e below _ (s₁.setTop (mkF m 1 #[oR this, oI (0 : Int32)] [(.ref this)]))
    obtain ⟨cq1, kq1, qa1, qb1, qc1⟩ := isOf hZ e0 Eq
    obtain ⟨_, _, ⟨T1, L1, k1, n1⟩, -, X1, ⟨Lc1, hQ1, l1, y1, z1⟩, st1⟩ := X0.virtualBack hx (y := (⟨"java/lang/String", "isLatin1", "()Z"⟩ : MethodName)) (z := (⟨"java/lang/String", "isLatin1", "()Z"⟩ : MethodName)) hown (mvT hZ (own_w hw 59)) (mvT hZ (own_w hw 60)) (notFace_of_selects (args := #[]) (mvT hZ (own_w hw 62))) (mvT hZ (own_w hw 62)) (mvT hZ (own_w hw 61)) (by decide) (backOf (W := 0) (rm13 l Z a0 hw [] this (0 : Int32) wcs (1 : Int32) h0 n0 Z0 hcs Fc (B_wcs.ext OLD.2) (by unfold f13; rw [if_pos (by decide : (0 : Int32) = (0 : Int32))])) hZ (own_w hw 63) (own_w hw 6) (by decide) (by decide)) qa1 qc1 (g := (mkF m 1 #[oR this, oI (0 : Int32)] [(.ref this)])) rfl (by rw [hml]; rfl) (Steps.refl _) (argsL := []) (rest := []) (lenOf pd_12_0 rfl) rfl (by show 2 * 0 + _ ≤ _; exact Nat.le_of_eq rfl) (hb hby d12_1) (fun _ _ => ⟨rfl, e0, (by decide : 0 + 0 ≤ _), (by decide : 0 + 0 ≤ _)⟩)
    dsimp only [Pt.U, Pt.locs, Pt.cells, Pt.slots] at X1 l1 y1 z1 st1 hQ1
    subst l1 y1 z1
    obtain ⟨rfl, Nq1, e1⟩ := hQ1
    have N2 := Fr.app N0 Nq1
    refine own_tr st1 ?_
    show own_Go p e below _ (T1.setTop (mkF m 4 #[oR this, oI (0 : Int32)] [(.int (1 : Int32))]))
    refine own_via (fun t kz => XS.ifNo X1.here hx rfl (hb hby d12_4) rfl ((if0 _ _).trans (feq (by decide : ¬ ((1 : Int32) = (0 : Int32)))).1) kz) ?_
    refine own_via (fun t kz => XS.aloadN X1.here hx rfl (hb hby d12_7) rfl rfl kz) ?_
    show own_Go p e below _ (T1.setTop (mkF m 8 #[oR this, oI (0 : Int32)] [(.ref this)]))
    obtain ⟨T3, X3, e3, st3⟩ := getF X1 hx hZ hown (host := "") (Or.inl (own_w hw 24)) Via.refl e1 Fv (g := (mkF m 8 #[oR this, oI (0 : Int32)] [(.ref this)])) rfl rfl (hb hby d12_8)
    refine own_via st3 ?_
    refine own_via (fun t kz => XS.iloadN X3.here hx rfl (hb hby d12_11) rfl kz) ?_
    show own_Go p e below _ (T3.setTop (mkF m 12 #[oR this, oI (0 : Int32)] [(.int (0 : Int32)), (.ref arr)]))
    obtain ⟨_, _, ⟨T4, L4, k4, n4⟩, -, X4, ⟨Lc4, hQ4, l4, y4, z4⟩, st4⟩ := Jvm.LawKit.callS X3 hx (y := (⟨"java/lang/StringLatin1", "charAt", "([BI)C"⟩ : MethodName)) hown (mvT hZ (own_w hw 64)) (mvT hZ (own_w hw 65)) (mvT hZ (own_w hw 66)) (mvT hZ (own_w hw 67)) (by decide) (backOf (W := 0) (rmH2_0 l Z a0 hw [] arr wcs wsf kb (c0_.toInt8.toInt32) (c1_.toInt8.toInt32) c0_ h0 n0 Z0 OLD hcs rsf B_wcs B_wsf B_wad B_whi B_wlo Va (by unfold fH2_0; exact own_lat hc0 hl.1)) hZ (own_w hw 67) (own_w hw 66) (by decide) (by decide)) (g := (mkF m 12 #[oR this, oI (0 : Int32)] [(.int (0 : Int32)), (.ref arr)])) rfl (by rw [hml]; rfl) (argsL := [(.ref arr), (.int (0 : Int32))]) (rest := []) (lenOf pd_12_1 rfl) rfl (by show 2 * 0 + _ ≤ _; exact Nat.le_of_eq rfl) (hb hby d12_12) (fun _ _ => ⟨rfl, e3, (by decide : 0 + 0 ≤ _), (by decide : 0 + 0 ≤ _)⟩)
    dsimp only [Pt.U, Pt.locs, Pt.cells, Pt.slots] at X4 l4 y4 z4 st4 hQ4
    subst l4 y4 z4
    obtain ⟨rfl, Nq4, e4⟩ := hQ4
    have N5 := Fr.app N2 Nq4
    refine own_via st4 ?_
    show own_Go p e below _ (T4.setTop (mkF m 15 #[oR this, oI (0 : Int32)] [(.int c0_)]))
    obtain ⟨fs, hr, hrun, hended, hW, hsame⟩ := X4.leave (v := some (.int c0_)) (fun h => by rw [Bd.returns] at h; cases h)
    refine ⟨_, _, retOut X4 hx (i := .ireturn) Bd.returns (own_nch hc0) (Or.inl ⟨rfl, by simp, _, rfl⟩) (hb hby d12_15) hr, hrun, hended, _, _, rfl, ?_, ⟨_, rfl⟩, hW, hsame.mono (by decide) (by decide)⟩
    show QA2_0 Z this c0_ c1_ wcs wsf h0 n0 _ T4.heap _
    rw [e4]
    exact ⟨rfl, N5, rfl⟩
  · show own_Go p e below _ (s₁.setTop (mkF m 0 #[oR this, oI (0 : Int32)] []))
    refine own_via (fun t kz => XS.aloadN X0.here hx rfl (hb hby d12_0) rfl rfl kz) ?_
    show own_Go p e below _ (s₁.setTop (mkF m 1 #[oR this, oI (0 : Int32)] [(.ref this)]))
    obtain ⟨cq7, kq7, qa7, qb7, qc7⟩ := isOf hZ e0 Eq
    obtain ⟨_, _, ⟨T7, L7, k7, n7⟩, -, X7, ⟨Lc7, hQ7, l7, y7, z7⟩, st7⟩ := X0.virtualBack hx (y := (⟨"java/lang/String", "isLatin1", "()Z"⟩ : MethodName)) (z := (⟨"java/lang/String", "isLatin1", "()Z"⟩ : MethodName)) hown (mvT hZ (own_w hw 59)) (mvT hZ (own_w hw 60)) (notFace_of_selects (args := #[]) (mvT hZ (own_w hw 62))) (mvT hZ (own_w hw 62)) (mvT hZ (own_w hw 61)) (by decide) (backOf (W := 0) (rm13 l Z a0 hw [] this (1 : Int32) wcs (0 : Int32) h0 n0 Z0 hcs Fc (B_wcs.ext OLD.2) (by unfold f13; rw [if_neg (by decide : ¬ ((1 : Int32) = (0 : Int32)))])) hZ (own_w hw 63) (own_w hw 6) (by decide) (by decide)) qa7 qc7 (g := (mkF m 1 #[oR this, oI (0 : Int32)] [(.ref this)])) rfl (by rw [hml]; rfl) (Steps.refl _) (argsL := []) (rest := []) (lenOf pd_12_0 rfl) rfl (by show 2 * 0 + _ ≤ _; exact Nat.le_of_eq rfl) (hb hby d12_1) (fun _ _ => ⟨rfl, e0, (by decide : 0 + 0 ≤ _), (by decide : 0 + 0 ≤ _)⟩)
    dsimp only [Pt.U, Pt.locs, Pt.cells, Pt.slots] at X7 l7 y7 z7 st7 hQ7
    subst l7 y7 z7
    obtain ⟨rfl, Nq7, e7⟩ := hQ7
    have N8 := Fr.app N0 Nq7
    refine own_tr st7 ?_
    show own_Go p e below _ (T7.setTop (mkF m 4 #[oR this, oI (0 : Int32)] [(.int (0 : Int32))]))
    refine own_via (fun t kz => XS.ifYes X7.here hx rfl (pc0 := 4) (pc' := 16) rfl (hb hby d12_4) rfl ((if0 _ _).trans (teq (by decide : (0 : Int32) = (0 : Int32))).1) (by decide) (by decide) kz) ?_
    refine own_via (fun t kz => XS.aloadN X7.here hx rfl (hb hby d12_16) rfl rfl kz) ?_
    show own_Go p e below _ (T7.setTop (mkF m 17 #[oR this, oI (0 : Int32)] [(.ref this)]))
    obtain ⟨T9, X9, e9, st9⟩ := getF X7 hx hZ hown (host := "") (Or.inl (own_w hw 24)) Via.refl e7 Fv (g := (mkF m 17 #[oR this, oI (0 : Int32)] [(.ref this)])) rfl rfl (hb hby d12_17)
    refine own_via st9 ?_
    refine own_via (fun t kz => XS.iloadN X9.here hx rfl (hb hby d12_20) rfl kz) ?_
    show own_Go p e below _ (T9.setTop (mkF m 21 #[oR this, oI (0 : Int32)] [(.int (0 : Int32)), (.ref arr)]))
    obtain ⟨_, _, ⟨T10, L10, k10, n10⟩, -, X10, ⟨Lc10, hQ10, l10, y10, z10⟩, st10⟩ := Jvm.LawKit.callS X9 hx (y := (⟨"java/lang/StringUTF16", "charAt", "([BI)C"⟩ : MethodName)) hown (mvT hZ (own_w hw 98)) (mvT hZ (own_w hw 99)) (mvT hZ (own_w hw 43)) (mvT hZ (own_w hw 100)) (by decide) (backOf (W := 0) (rmY2_0 l Z a0 hw [] arr wcs wsf kb ((c0_ >>> ((0 : Int32) &&& 31)).toInt8.toInt32) ((c0_ >>> ((8 : Int32) &&& 31)).toInt8.toInt32) ((c1_ >>> ((0 : Int32) &&& 31)).toInt8.toInt32) ((c1_ >>> ((8 : Int32) &&& 31)).toInt8.toInt32) c0_ h0 n0 Z0 OLD hcs rsf B_wcs B_wsf B_wad B_whi B_wlo Va (by unfold fY2_0; exact own_utf hc0)) hZ (own_w hw 100) (own_w hw 43) (by decide) (by decide)) (g := (mkF m 21 #[oR this, oI (0 : Int32)] [(.int (0 : Int32)), (.ref arr)])) rfl (by rw [hml]; rfl) (argsL := [(.ref arr), (.int (0 : Int32))]) (rest := []) (lenOf pd_12_1 rfl) rfl (by show 2 * 0 + _ ≤ _; exact Nat.le_of_eq rfl) (hb hby d12_21) (fun _ _ => ⟨rfl, e9, (by decide : 0 + 0 ≤ _), (by decide : 0 + 0 ≤ _)⟩)
    dsimp only [Pt.U, Pt.locs, Pt.cells, Pt.slots] at X10 l10 y10 z10 st10 hQ10
    subst l10 y10 z10
    obtain ⟨rfl, Nq10, e10⟩ := hQ10
    have N11 := Fr.app N8 Nq10
    refine own_via st10 ?_
    show own_Go p e below _ (T10.setTop (mkF m 24 #[oR this, oI (0 : Int32)] [(.int c0_)]))
    obtain ⟨fs, hr, hrun, hended, hW, hsame⟩ := X10.leave (v := some (.int c0_)) (fun h => by rw [Bd.returns] at h; cases h)
    refine ⟨_, _, retOut X10 hx (i := .ireturn) Bd.returns (own_nch hc0) (Or.inl ⟨rfl, by simp, _, rfl⟩) (hb hby d12_24) hr, hrun, hended, _, _, rfl, ?_, ⟨_, rfl⟩, hW, hsame.mono (by decide) (by decide)⟩
    show QA2_0 Z this c0_ c1_ wcs wsf h0 n0 _ T10.heap _
    rw [e10]
    exact ⟨rfl, N11, rfl⟩
def fH2_1 (b1_ : Int32) : Int32 := ((b1_ &&& (255 : Int32)).toUInt32.toUInt16.toUInt32.toInt32)
theorem ef_rmH2_1 (m : MethodId) (q0 : Addr) : entryFrame m #[(.ref q0), (.int (1 : Int32))] 2 = mkF m 0 #[oR q0, oI (1 : Int32)] [] := by first | (simp [entryFrame, mkF, argsToLocals, Value.category]; done) | rfl
def QH2_1 (Z : State) (p0 : Addr) (wcs : Int32) (wsf : Value) (ka : ClassId) (b0_ : Int32) (b1_ : Int32) (r : Int32) (h0 : Heap) (n0 : Nat) (v : Option Value) (h : Heap) (L : List Loc) : Prop := v = some (.int r) ∧ Fr n0 L ∧ h = h0
set_option maxRecDepth 65536 in
set_option maxHeartbeats 40000000 in
theorem rmH2_1 (l : Launch) (Z : State) (a0 : Array Value) (hw : ∀ d ∈ tables_1, d.before a0 Z = true) (ws : List Jvm.Cond) (p0 : Addr) (wcs : Int32) (wsf : Value) (ka : ClassId) (b0_ : Int32) (b1_ : Int32) (r : Int32) (h0 : Heap) (n0 : Nat) (Z0 : n0 ≤ h0.size) (OLD : Old Z n0 h0) (hcs : ¬ (wcs = (0 : Int32))) (rsf : wsf.isRef = true) (B_wcs : Sta Z Z.heap "java/lang/String" "COMPACT_STRINGS" "Z" (.int wcs)) (B_wsf : Sta Z Z.heap "jdk/internal/util/Preconditions" "SIOOBE_FORMATTER" "Ljava/util/function/BiFunction;" wsf) (B_wad : Sta Z Z.heap "java/lang/StringUTF16" "$assertionsDisabled" "Z" (.int (1 : Int32))) (B_whi : Sta Z Z.heap "java/lang/StringUTF16" "HI_BYTE_SHIFT" "I" (.int (0 : Int32))) (B_wlo : Sta Z Z.heap "java/lang/StringUTF16" "LO_BYTE_SHIFT" "I" (.int (8 : Int32))) (V_p0 : Arv Z h0 p0 ka .byte (2 : Int32) [(.int b0_), (.int b1_)] (.int (0 : Int32))) (hr0 : (fH2_1 b1_) = r) :
    MetFree l (⟨"java/lang/StringLatin1", "charAt", "([BI)C"⟩ : MethodName) (head1 (Jvm.Cond.code (⟨"java/lang/StringLatin1", "charAt", "([BI)C"⟩ : MethodName) jdk_43_method_2_code 2 (some .char) :: ws) ({ frames := 2, cells := 0, slots := 0, locals := 27 } : Room)) (fun a U => a = #[(.ref p0), (.int (1 : Int32))] ∧ Z.Warmed39 U.vm ∧ U.heap = h0) (fun _ _ _ _ _ => True) (fun _ U o U' => ∃ v L, o = .returned v ∧ QH2_1 Z p0 wcs wsf ka b0_ b1_ r h0 n0 v U'.heap L ∧ FrameEnd U o U' L ({ frames := 2, cells := 0, slots := 0, locals := 27 } : Room).cells ({ frames := 2, cells := 0, slots := 0, locals := 27 } : Room).slots) := by
  refine MetFree.of_bodySF (plainFor_of_name pn_14) hisR ?_
  intro p e s m args below meth c s₁ Bd hml0 hP hK
  obtain ⟨rfl, hZ, hh⟩ := hP
  have hx := Bd.exec
  have hby := Bd.bytes
  have hml : c.maxLocals = 2 := hml0
  have hown : s.vm.findClass "java/lang/StringLatin1" = some m.cls := findClass_of_methodNamed Bd.named
  have hnm := (name_of_methodNamed Bd.named Bd.method).1
  have X0 : Stand p l e ({ frames := 2, cells := 0, slots := 0, locals := 27 } : Room) s m #[(.ref p0), (.int (1 : Int32))] below meth c s₁ [] 0 0 := Stand.of_body Bd
  have e0 : s₁.heap = h0 := by rw [← hh, Bd.state]; rfl
  have N0 := Fr.nil n0
  refine own_start ?_
  refine own_via (fun t k => castTop (ef_rmH2_1 m p0) k) ?_
  show own_Go p e below _ (s₁.setTop (mkF m 0 #[oR p0, oI (1 : Int32)] []))
  refine own_via (fun t kz => XS.iloadN X0.here hx rfl (hb hby d14_0) rfl kz) ?_
  refine own_via (fun t kz => XS.aloadN X0.here hx rfl (hb hby d14_1) rfl rfl kz) ?_
  show own_Go p e below _ (s₁.setTop (mkF m 2 #[oR p0, oI (1 : Int32)] [(.ref p0), (.int (1 : Int32))]))
  obtain ⟨cl1, Ar1, kc1, Sz1, Nn1, Hs1, Gs1⟩ := id V_p0
  refine own_via (fun t kz => X0.arraylength hx (by rw [e0]; exact Ar1.1) (State.isArrayOf_alike hZ.alike Ar1.2.1) (g := (mkF m 2 #[oR p0, oI (1 : Int32)] [(.ref p0), (.int (1 : Int32))])) rfl rfl (hb hby d14_2) t kz) ?_
  show own_Go p e below _ (s₁.setTop (mkF m 3 #[oR p0, oI (1 : Int32)] [(.int (cl1.slots.size.toInt32)), (.int (1 : Int32))]))
  rw [len_of Sz1 Nn1]
  show own_Go p e below _ (s₁.setTop (mkF m 3 #[oR p0, oI (1 : Int32)] [(.int (2 : Int32)), (.int (1 : Int32))]))
  obtain ⟨_, _, ⟨T2, L2, k2, n2⟩, -, X2, ⟨Lc2, hQ2, l2, y2, z2⟩, st2⟩ := Jvm.LawKit.callS X0 hx (y := (⟨"java/lang/String", "checkIndex", "(II)V"⟩ : MethodName)) hown (mvT hZ (own_w hw 68)) (mvT hZ (own_w hw 69)) (mvT hZ (own_w hw 6)) (mvT hZ (own_w hw 70)) (by decide) (backOf (W := 0) (rm15 l Z a0 hw [] (1 : Int32) (2 : Int32) wsf h0 n0 Z0 rsf (B_wsf.ext OLD.2) (by decide) (by decide)) hZ (own_w hw 70) (own_w hw 6) (by decide) (by decide)) (g := (mkF m 3 #[oR p0, oI (1 : Int32)] [(.int (2 : Int32)), (.int (1 : Int32))])) rfl (by rw [hml]; rfl) (argsL := [(.int (1 : Int32)), (.int (2 : Int32))]) (rest := []) (lenOf pd_14_0 rfl) rfl (by show 2 * 0 + _ ≤ _; exact Nat.le_of_eq rfl) (hb hby d14_3) (fun _ _ => ⟨rfl, e0, (by decide : 0 + 0 ≤ _), (by decide : 0 + 0 ≤ _)⟩)
  dsimp only [Pt.U, Pt.locs, Pt.cells, Pt.slots] at X2 l2 y2 z2 st2 hQ2
  subst l2 y2 z2
  obtain ⟨rfl, Nq2, e2⟩ := hQ2
  have N3 := Fr.app N0 Nq2
  refine own_via st2 ?_
  refine own_via (fun t kz => XS.aloadN X2.here hx rfl (hb hby d14_6) rfl rfl kz) ?_
  refine own_via (fun t kz => XS.iloadN X2.here hx rfl (hb hby d14_7) rfl kz) ?_
  show own_Go p e below _ (T2.setTop (mkF m 8 #[oR p0, oI (1 : Int32)] [(.int (1 : Int32)), (.ref p0)]))
  obtain ⟨cl4, Ar4, kc4, Sz4, Nn4, Hs4, Gs4⟩ := id V_p0
  have in4 := inb_of (j := (1 : Int32)) Sz4 ⟨by decide, by decide⟩
  have at4 : cl4.slots[((1 : Int32)).toNatClampNeg]? = some (.int b1_) := Hs4.at in4 rfl
  refine own_via (fun t kz => X2.baloadBytes hx (j := (1 : Int32)) (v := (.int b1_)) (by rw [e2]; exact Ar4.1) (State.isArrayOf_alike hZ.alike Ar4.2.1) Ar4.2.2 in4 at4 (g := (mkF m 8 #[oR p0, oI (1 : Int32)] [(.int (1 : Int32)), (.ref p0)])) rfl rfl (hb hby d14_8) t kz) ?_
  refine own_via (fun t kz => XS.sipush X2.here hx rfl (hb hby d14_9) kz) ?_
  refine own_via (fun t kz => XS.iand X2.here hx rfl (hb hby d14_12) rfl kz) ?_
  show own_Go p e below _ (T2.setTop (mkF m 13 #[oR p0, oI (1 : Int32)] [(.int (b1_ &&& (255 : Int32)))]))
  refine own_via (fun t kz => XS.i2c X2.here hx rfl (hb hby d14_13) rfl kz) ?_
  show own_Go p e below _ (T2.setTop (mkF m 14 #[oR p0, oI (1 : Int32)] [(.int ((b1_ &&& (255 : Int32)).toUInt32.toUInt16.toUInt32.toInt32))]))
  have hv : (fH2_1 b1_) = ((b1_ &&& (255 : Int32)).toUInt32.toUInt16.toUInt32.toInt32) := by unfold fH2_1; rfl
  obtain ⟨fs, hr, hrun, hended, hW, hsame⟩ := X2.leave (v := some (.int ((b1_ &&& (255 : Int32)).toUInt32.toUInt16.toUInt32.toInt32))) (fun h => by rw [Bd.returns] at h; cases h)
  refine ⟨_, _, retOut X2 hx (i := .ireturn) Bd.returns (narrow_c _) (Or.inl ⟨rfl, by simp, _, rfl⟩) (hb hby d14_14) hr, hrun, hended, _, _, rfl, ?_, ⟨_, rfl⟩, hW, hsame.mono (by decide) (by decide)⟩
  show QH2_1 Z p0 wcs wsf ka b0_ b1_ r h0 n0 _ T2.heap _
  rw [e2]
  exact ⟨by rw [← hr0, hv], N3, rfl⟩
theorem ef_rmX2_1 (m : MethodId) (q0 : Addr) : entryFrame m #[(.int (1 : Int32)), (.ref q0)] 2 = mkF m 0 #[oI (1 : Int32), oR q0] [] := by first | (simp [entryFrame, mkF, argsToLocals, Value.category]; done) | rfl
def QX2_1 (Z : State) (p1 : Addr) (kb : ClassId) (b0_ : Int32) (b1_ : Int32) (b2_ : Int32) (b3_ : Int32) (wcs : Int32) (wsf : Value) (h0 : Heap) (n0 : Nat) (v : Option Value) (h : Heap) (L : List Loc) : Prop := v = none ∧ Fr n0 L ∧ h = h0
set_option maxRecDepth 65536 in
set_option maxHeartbeats 40000000 in
theorem rmX2_1 (l : Launch) (Z : State) (a0 : Array Value) (hw : ∀ d ∈ tables_1, d.before a0 Z = true) (ws : List Jvm.Cond) (p1 : Addr) (kb : ClassId) (b0_ : Int32) (b1_ : Int32) (b2_ : Int32) (b3_ : Int32) (wcs : Int32) (wsf : Value) (h0 : Heap) (n0 : Nat) (Z0 : n0 ≤ h0.size) (VB : Arv Z h0 p1 kb .byte (4 : Int32) [(.int b0_), (.int b1_), (.int b2_), (.int b3_)] (.int (0 : Int32))) (OLD : Old Z n0 h0) (hcs : ¬ (wcs = (0 : Int32))) (rsf : wsf.isRef = true) (B_wcs : Sta Z Z.heap "java/lang/String" "COMPACT_STRINGS" "Z" (.int wcs)) (B_wsf : Sta Z Z.heap "jdk/internal/util/Preconditions" "SIOOBE_FORMATTER" "Ljava/util/function/BiFunction;" wsf) (B_wad : Sta Z Z.heap "java/lang/StringUTF16" "$assertionsDisabled" "Z" (.int (1 : Int32))) (B_whi : Sta Z Z.heap "java/lang/StringUTF16" "HI_BYTE_SHIFT" "I" (.int (0 : Int32))) (B_wlo : Sta Z Z.heap "java/lang/StringUTF16" "LO_BYTE_SHIFT" "I" (.int (8 : Int32))) :
    MetFree l (⟨"java/lang/StringUTF16", "checkIndex", "(I[B)V"⟩ : MethodName) (head1 (Jvm.Cond.code (⟨"java/lang/StringUTF16", "checkIndex", "(I[B)V"⟩ : MethodName) jdk_52_method_91_code 2 none :: ws) ({ frames := 2, cells := 0, slots := 0, locals := 27 } : Room)) (fun a U => a = #[(.int (1 : Int32)), (.ref p1)] ∧ Z.Warmed39 U.vm ∧ U.heap = h0) (fun _ _ _ _ _ => True) (fun _ U o U' => ∃ v L, o = .returned v ∧ QX2_1 Z p1 kb b0_ b1_ b2_ b3_ wcs wsf h0 n0 v U'.heap L ∧ FrameEnd U o U' L ({ frames := 2, cells := 0, slots := 0, locals := 27 } : Room).cells ({ frames := 2, cells := 0, slots := 0, locals := 27 } : Room).slots) := by
  refine MetFree.of_bodySF (plainFor_of_name pn_20) hisR ?_
  intro p e s m args below meth c s₁ Bd hml0 hP hK
  obtain ⟨rfl, hZ, hh⟩ := hP
  have hx := Bd.exec
  have hby := Bd.bytes
  have hml : c.maxLocals = 2 := hml0
  have hown : s.vm.findClass "java/lang/StringUTF16" = some m.cls := findClass_of_methodNamed Bd.named
  have hnm := (name_of_methodNamed Bd.named Bd.method).1
  have X0 : Stand p l e ({ frames := 2, cells := 0, slots := 0, locals := 27 } : Room) s m #[(.int (1 : Int32)), (.ref p1)] below meth c s₁ [] 0 0 := Stand.of_body Bd
  have e0 : s₁.heap = h0 := by rw [← hh, Bd.state]; rfl
  have N0 := Fr.nil n0
  refine own_start ?_
  refine own_via (fun t k => castTop (ef_rmX2_1 m p1) k) ?_
  show own_Go p e below _ (s₁.setTop (mkF m 0 #[oI (1 : Int32), oR p1] []))
  refine own_via (fun t kz => XS.iloadN X0.here hx rfl (hb hby d24_0) rfl kz) ?_
  refine own_via (fun t kz => XS.aloadN X0.here hx rfl (hb hby d24_1) rfl rfl kz) ?_
  show own_Go p e below _ (s₁.setTop (mkF m 2 #[oI (1 : Int32), oR p1] [(.ref p1), (.int (1 : Int32))]))
  obtain ⟨_, _, ⟨T1, L1, k1, n1⟩, -, X1, ⟨Lc1, hQ1, l1, y1, z1⟩, st1⟩ := Jvm.LawKit.callS X0 hx (y := (⟨"java/lang/StringUTF16", "length", "([B)I"⟩ : MethodName)) hown (mvT hZ (own_w hw 104)) (mvT hZ (own_w hw 105)) (mvT hZ (own_w hw 43)) (mvT hZ (own_w hw 106)) (by decide) (backOf (W := 1) (rmU2 l Z a0 hw [] p1 kb b0_ b1_ b2_ b3_ (2 : Int32) h0 n0 Z0 VB (by unfold fU2; rfl)) hZ (own_w hw 106) (own_w hw 43) (by decide) (by decide)) (g := (mkF m 2 #[oI (1 : Int32), oR p1] [(.ref p1), (.int (1 : Int32))])) rfl (by rw [hml]; rfl) (argsL := [(.ref p1)]) (rest := [(.int (1 : Int32))]) (lenOf pd_24_0 rfl) rfl (by show 2 * 0 + _ ≤ _; exact Nat.le_of_eq rfl) (hb hby d24_2) (fun _ _ => ⟨rfl, e0, (by decide : 0 + 0 ≤ _), (by decide : 0 + 0 ≤ _)⟩)
  dsimp only [Pt.U, Pt.locs, Pt.cells, Pt.slots] at X1 l1 y1 z1 st1 hQ1
  subst l1 y1 z1
  obtain ⟨rfl, Nq1, e1⟩ := hQ1
  have N2 := Fr.app N0 Nq1
  refine own_via st1 ?_
  show own_Go p e below _ (T1.setTop (mkF m 5 #[oI (1 : Int32), oR p1] [(.int (2 : Int32)), (.int (1 : Int32))]))
  obtain ⟨_, _, ⟨T3, L3, k3, n3⟩, -, X3, ⟨Lc3, hQ3, l3, y3, z3⟩, st3⟩ := Jvm.LawKit.callS X1 hx (y := (⟨"java/lang/String", "checkIndex", "(II)V"⟩ : MethodName)) hown (mvT hZ (own_w hw 107)) (mvT hZ (own_w hw 69)) (mvT hZ (own_w hw 6)) (mvT hZ (own_w hw 70)) (by decide) (backOf (W := 0) (rm15 l Z a0 hw [] (1 : Int32) (2 : Int32) wsf h0 n0 Z0 rsf (B_wsf.ext OLD.2) (by decide) (by decide)) hZ (own_w hw 70) (own_w hw 6) (by decide) (by decide)) (g := (mkF m 5 #[oI (1 : Int32), oR p1] [(.int (2 : Int32)), (.int (1 : Int32))])) rfl (by rw [hml]; rfl) (argsL := [(.int (1 : Int32)), (.int (2 : Int32))]) (rest := []) (lenOf pd_24_1 rfl) rfl (by show 2 * 0 + _ ≤ _; exact Nat.le_of_eq rfl) (hb hby d24_5) (fun _ _ => ⟨rfl, e1, (by decide : 0 + 0 ≤ _), (by decide : 0 + 0 ≤ _)⟩)
  dsimp only [Pt.U, Pt.locs, Pt.cells, Pt.slots] at X3 l3 y3 z3 st3 hQ3
  subst l3 y3 z3
  obtain ⟨rfl, Nq3, e3⟩ := hQ3
  have N4 := Fr.app N2 Nq3
  refine own_via st3 ?_
  show own_Go p e below _ (T3.setTop (mkF m 8 #[oI (1 : Int32), oR p1] []))
  obtain ⟨fs, hr, hrun, hended, hW, hsame⟩ := X3.leave (v := none) (fun _ => rfl)
  refine ⟨_, _, X3.returnOut hx Bd.returns (hb hby d24_8) hr, hrun, hended, _, _, rfl, ?_, ⟨_, rfl⟩, hW, hsame.mono (by decide) (by decide)⟩
  show QX2_1 Z p1 kb b0_ b1_ b2_ b3_ wcs wsf h0 n0 _ T3.heap _
  rw [e3]
  exact ⟨rfl, N4, rfl⟩
def fY2_1 (b2_ : Int32) (b3_ : Int32) : Int32 := ((((b2_ &&& (255 : Int32)) <<< ((0 : Int32) &&& 31)) ||| ((b3_ &&& (255 : Int32)) <<< ((8 : Int32) &&& 31))).toUInt32.toUInt16.toUInt32.toInt32)
theorem ef_rmY2_1 (m : MethodId) (q0 : Addr) : entryFrame m #[(.ref q0), (.int (1 : Int32))] 2 = mkF m 0 #[oR q0, oI (1 : Int32)] [] := by first | (simp [entryFrame, mkF, argsToLocals, Value.category]; done) | rfl
def QY2_1 (Z : State) (p0 : Addr) (wcs : Int32) (wsf : Value) (ka : ClassId) (b0_ : Int32) (b1_ : Int32) (b2_ : Int32) (b3_ : Int32) (r : Int32) (h0 : Heap) (n0 : Nat) (v : Option Value) (h : Heap) (L : List Loc) : Prop := v = some (.int r) ∧ Fr n0 L ∧ h = h0
set_option maxRecDepth 65536 in
set_option maxHeartbeats 40000000 in
theorem rmY2_1 (l : Launch) (Z : State) (a0 : Array Value) (hw : ∀ d ∈ tables_1, d.before a0 Z = true) (ws : List Jvm.Cond) (p0 : Addr) (wcs : Int32) (wsf : Value) (ka : ClassId) (b0_ : Int32) (b1_ : Int32) (b2_ : Int32) (b3_ : Int32) (r : Int32) (h0 : Heap) (n0 : Nat) (Z0 : n0 ≤ h0.size) (OLD : Old Z n0 h0) (hcs : ¬ (wcs = (0 : Int32))) (rsf : wsf.isRef = true) (B_wcs : Sta Z Z.heap "java/lang/String" "COMPACT_STRINGS" "Z" (.int wcs)) (B_wsf : Sta Z Z.heap "jdk/internal/util/Preconditions" "SIOOBE_FORMATTER" "Ljava/util/function/BiFunction;" wsf) (B_wad : Sta Z Z.heap "java/lang/StringUTF16" "$assertionsDisabled" "Z" (.int (1 : Int32))) (B_whi : Sta Z Z.heap "java/lang/StringUTF16" "HI_BYTE_SHIFT" "I" (.int (0 : Int32))) (B_wlo : Sta Z Z.heap "java/lang/StringUTF16" "LO_BYTE_SHIFT" "I" (.int (8 : Int32))) (V_p0 : Arv Z h0 p0 ka .byte (4 : Int32) [(.int b0_), (.int b1_), (.int b2_), (.int b3_)] (.int (0 : Int32))) (hr0 : (fY2_1 b2_ b3_) = r) :
    MetFree l (⟨"java/lang/StringUTF16", "charAt", "([BI)C"⟩ : MethodName) (head1 (Jvm.Cond.code (⟨"java/lang/StringUTF16", "charAt", "([BI)C"⟩ : MethodName) jdk_52_method_83_code 2 (some .char) :: ws) ({ frames := 3, cells := 0, slots := 0, locals := 40 } : Room)) (fun a U => a = #[(.ref p0), (.int (1 : Int32))] ∧ Z.Warmed39 U.vm ∧ U.heap = h0) (fun _ _ _ _ _ => True) (fun _ U o U' => ∃ v L, o = .returned v ∧ QY2_1 Z p0 wcs wsf ka b0_ b1_ b2_ b3_ r h0 n0 v U'.heap L ∧ FrameEnd U o U' L ({ frames := 3, cells := 0, slots := 0, locals := 40 } : Room).cells ({ frames := 3, cells := 0, slots := 0, locals := 40 } : Room).slots) := by
  refine MetFree.of_bodySF (plainFor_of_name pn_20) hisR ?_
  intro p e s m args below meth c s₁ Bd hml0 hP hK
  obtain ⟨rfl, hZ, hh⟩ := hP
  have hx := Bd.exec
  have hby := Bd.bytes
  have hml : c.maxLocals = 2 := hml0
  have hown : s.vm.findClass "java/lang/StringUTF16" = some m.cls := findClass_of_methodNamed Bd.named
  have hnm := (name_of_methodNamed Bd.named Bd.method).1
  have X0 : Stand p l e ({ frames := 3, cells := 0, slots := 0, locals := 40 } : Room) s m #[(.ref p0), (.int (1 : Int32))] below meth c s₁ [] 0 0 := Stand.of_body Bd
  have e0 : s₁.heap = h0 := by rw [← hh, Bd.state]; rfl
  have N0 := Fr.nil n0
  refine own_start ?_
  refine own_via (fun t k => castTop (ef_rmY2_1 m p0) k) ?_
  show own_Go p e below _ (s₁.setTop (mkF m 0 #[oR p0, oI (1 : Int32)] []))
  refine own_via (fun t kz => XS.iloadN X0.here hx rfl (hb hby d23_0) rfl kz) ?_
  refine own_via (fun t kz => XS.aloadN X0.here hx rfl (hb hby d23_1) rfl rfl kz) ?_
  show own_Go p e below _ (s₁.setTop (mkF m 2 #[oR p0, oI (1 : Int32)] [(.ref p0), (.int (1 : Int32))]))
  obtain ⟨_, _, ⟨T1, L1, k1, n1⟩, -, X1, ⟨Lc1, hQ1, l1, y1, z1⟩, st1⟩ := Jvm.LawKit.callS X0 hx (y := (⟨"java/lang/StringUTF16", "checkIndex", "(I[B)V"⟩ : MethodName)) hown (mvT hZ (own_w hw 101)) (mvT hZ (own_w hw 102)) (mvT hZ (own_w hw 43)) (mvT hZ (own_w hw 103)) (by decide) (backOf (W := 0) (rmX2_1 l Z a0 hw [] p0 ka b0_ b1_ b2_ b3_ wcs wsf h0 n0 Z0 V_p0 OLD hcs rsf B_wcs B_wsf B_wad B_whi B_wlo) hZ (own_w hw 103) (own_w hw 43) (by decide) (by decide)) (g := (mkF m 2 #[oR p0, oI (1 : Int32)] [(.ref p0), (.int (1 : Int32))])) rfl (by rw [hml]; rfl) (argsL := [(.int (1 : Int32)), (.ref p0)]) (rest := []) (lenOf pd_23_0 rfl) rfl (by show 2 * 0 + _ ≤ _; exact Nat.le_of_eq rfl) (hb hby d23_2) (fun _ _ => ⟨rfl, e0, (by decide : 0 + 0 ≤ _), (by decide : 0 + 0 ≤ _)⟩)
  dsimp only [Pt.U, Pt.locs, Pt.cells, Pt.slots] at X1 l1 y1 z1 st1 hQ1
  subst l1 y1 z1
  obtain ⟨rfl, Nq1, e1⟩ := hQ1
  have N2 := Fr.app N0 Nq1
  refine own_via st1 ?_
  refine own_via (fun t kz => XS.aloadN X1.here hx rfl (hb hby d23_5) rfl rfl kz) ?_
  refine own_via (fun t kz => XS.iloadN X1.here hx rfl (hb hby d23_6) rfl kz) ?_
  show own_Go p e below _ (T1.setTop (mkF m 7 #[oR p0, oI (1 : Int32)] [(.int (1 : Int32)), (.ref p0)]))
  obtain ⟨_, _, ⟨T3, L3, k3, n3⟩, -, X3, ⟨Lc3, hQ3, l3, y3, z3⟩, st3⟩ := Jvm.LawKit.callS X1 hx (y := (⟨"java/lang/StringUTF16", "getChar", "([BI)C"⟩ : MethodName)) hown (mvT hZ (own_w hw 95)) (mvT hZ (own_w hw 96)) (mvT hZ (own_w hw 43)) (mvT hZ (own_w hw 97)) (by decide) (backOf (W := 0) (rmG2_1 l Z a0 hw [] p0 (1 : Int32) (0 : Int32) (8 : Int32) ka b0_ b1_ b2_ b3_ ((((b2_ &&& (255 : Int32)) <<< ((0 : Int32) &&& 31)) ||| ((b3_ &&& (255 : Int32)) <<< ((8 : Int32) &&& 31))).toUInt32.toUInt16.toUInt32.toInt32) h0 n0 Z0 rfl (B_wad.ext OLD.2) (B_whi.ext OLD.2) (B_wlo.ext OLD.2) V_p0 (by unfold fG2_1; rfl)) hZ (own_w hw 97) (own_w hw 43) (by decide) (by decide)) (g := (mkF m 7 #[oR p0, oI (1 : Int32)] [(.int (1 : Int32)), (.ref p0)])) rfl (by rw [hml]; rfl) (argsL := [(.ref p0), (.int (1 : Int32))]) (rest := []) (lenOf pd_23_1 rfl) rfl (by show 2 * 0 + _ ≤ _; exact Nat.le_of_eq rfl) (hb hby d23_7) (fun _ _ => ⟨rfl, e1, (by decide : 0 + 0 ≤ _), (by decide : 0 + 0 ≤ _)⟩)
  dsimp only [Pt.U, Pt.locs, Pt.cells, Pt.slots] at X3 l3 y3 z3 st3 hQ3
  subst l3 y3 z3
  obtain ⟨rfl, Nq3, e3⟩ := hQ3
  have N4 := Fr.app N2 Nq3
  refine own_via st3 ?_
  show own_Go p e below _ (T3.setTop (mkF m 10 #[oR p0, oI (1 : Int32)] [(.int ((((b2_ &&& (255 : Int32)) <<< ((0 : Int32) &&& 31)) ||| ((b3_ &&& (255 : Int32)) <<< ((8 : Int32) &&& 31))).toUInt32.toUInt16.toUInt32.toInt32))]))
  have hv : (fY2_1 b2_ b3_) = ((((b2_ &&& (255 : Int32)) <<< ((0 : Int32) &&& 31)) ||| ((b3_ &&& (255 : Int32)) <<< ((8 : Int32) &&& 31))).toUInt32.toUInt16.toUInt32.toInt32) := by unfold fY2_1; rfl
  obtain ⟨fs, hr, hrun, hended, hW, hsame⟩ := X3.leave (v := some (.int ((((b2_ &&& (255 : Int32)) <<< ((0 : Int32) &&& 31)) ||| ((b3_ &&& (255 : Int32)) <<< ((8 : Int32) &&& 31))).toUInt32.toUInt16.toUInt32.toInt32))) (fun h => by rw [Bd.returns] at h; cases h)
  refine ⟨_, _, retOut X3 hx (i := .ireturn) Bd.returns (narrow_c _) (Or.inl ⟨rfl, by simp, _, rfl⟩) (hb hby d23_10) hr, hrun, hended, _, _, rfl, ?_, ⟨_, rfl⟩, hW, hsame.mono (by decide) (by decide)⟩
  show QY2_1 Z p0 wcs wsf ka b0_ b1_ b2_ b3_ r h0 n0 _ T3.heap _
  rw [e3]
  exact ⟨by rw [← hr0, hv], N4, rfl⟩
theorem ef_rmA2_1 (m : MethodId) (q0 : Addr) : entryFrame m #[(.ref q0), (.int (1 : Int32))] 2 = mkF m 0 #[oR q0, oI (1 : Int32)] [] := by first | (simp [entryFrame, mkF, argsToLocals, Value.category]; done) | rfl
def QA2_1 (Z : State) (this : Addr) (c0_ : Int32) (c1_ : Int32) (wcs : Int32) (wsf : Value) (h0 : Heap) (n0 : Nat) (v : Option Value) (h : Heap) (L : List Loc) : Prop := v = some (.int c1_) ∧ Fr n0 L ∧ h = h0
set_option maxRecDepth 65536 in
set_option maxHeartbeats 40000000 in
theorem rmA2_1 (l : Launch) (Z : State) (a0 : Array Value) (hw : ∀ d ∈ tables_1, d.before a0 Z = true) (ws : List Jvm.Cond) (this : Addr) (c0_ : Int32) (c1_ : Int32) (wcs : Int32) (wsf : Value) (h0 : Heap) (n0 : Nat) (Z0 : n0 ≤ h0.size) (SR : own_Str2 Z h0 n0 this c0_ c1_) (hc0 : own_ch c0_) (hc1 : own_ch c1_) (OLD : Old Z n0 h0) (hcs : ¬ (wcs = (0 : Int32))) (rsf : wsf.isRef = true) (B_wcs : Sta Z Z.heap "java/lang/String" "COMPACT_STRINGS" "Z" (.int wcs)) (B_wsf : Sta Z Z.heap "jdk/internal/util/Preconditions" "SIOOBE_FORMATTER" "Ljava/util/function/BiFunction;" wsf) (B_wad : Sta Z Z.heap "java/lang/StringUTF16" "$assertionsDisabled" "Z" (.int (1 : Int32))) (B_whi : Sta Z Z.heap "java/lang/StringUTF16" "HI_BYTE_SHIFT" "I" (.int (0 : Int32))) (B_wlo : Sta Z Z.heap "java/lang/StringUTF16" "LO_BYTE_SHIFT" "I" (.int (8 : Int32))) :
    MetFree l (⟨"java/lang/String", "charAt", "(I)C"⟩ : MethodName) (head1 (Jvm.Cond.code (⟨"java/lang/String", "charAt", "(I)C"⟩ : MethodName) jdk_42_method_56_code 2 (some .char) :: ws) ({ frames := 4, cells := 0, slots := 0, locals := 53 } : Room)) (fun a U => a = #[(.ref this), (.int (1 : Int32))] ∧ Z.Warmed39 U.vm ∧ U.heap = h0) (fun _ _ _ _ _ => True) (fun _ U o U' => ∃ v L, o = .returned v ∧ QA2_1 Z this c0_ c1_ wcs wsf h0 n0 v U'.heap L ∧ FrameEnd U o U' L ({ frames := 4, cells := 0, slots := 0, locals := 53 } : Room).cells ({ frames := 4, cells := 0, slots := 0, locals := 53 } : Room).slots) := by
  refine MetFree.of_bodySF (plainFor_of_name pn_15) hisR ?_
  intro p e s m args below meth c s₁ Bd hml0 hP hK
  obtain ⟨rfl, hZ, hh⟩ := hP
  have hx := Bd.exec
  have hby := Bd.bytes
  have hml : c.maxLocals = 2 := hml0
  have hown : s.vm.findClass "java/lang/String" = some m.cls := findClass_of_methodNamed Bd.named
  have hnm := (name_of_methodNamed Bd.named Bd.method).1
  have X0 : Stand p l e ({ frames := 4, cells := 0, slots := 0, locals := 53 } : Room) s m #[(.ref this), (.int (1 : Int32))] below meth c s₁ [] 0 0 := Stand.of_body Bd
  have e0 : s₁.heap = h0 := by rw [← hh, Bd.state]; rfl
  have N0 := Fr.nil n0
  refine own_start ?_
  refine own_via (fun t k => castTop (ef_rmA2_1 m this) k) ?_
  obtain ⟨arr, kb, ⟨ch0, ch1⟩, Eq, Fv, Rp⟩ := SR
  rcases Rp with ⟨hl, Fc, Va⟩ | ⟨Fc, Va⟩
  · show own_Go p e below _ (s₁.setTop (mkF m 0 #[oR this, oI (1 : Int32)] []))
    refine own_via (fun t kz => XS.aloadN X0.here hx rfl (hb hby d12_0) rfl rfl kz) ?_
    show own_Go p e below _ (s₁.setTop (mkF m 1 #[oR this, oI (1 : Int32)] [(.ref this)]))
    obtain ⟨cq1, kq1, qa1, qb1, qc1⟩ := isOf hZ e0 Eq
    obtain ⟨_, _, ⟨T1, L1, k1, n1⟩, -, X1, ⟨Lc1, hQ1, l1, y1, z1⟩, st1⟩ := X0.virtualBack hx (y := (⟨"java/lang/String", "isLatin1", "()Z"⟩ : MethodName)) (z := (⟨"java/lang/String", "isLatin1", "()Z"⟩ : MethodName)) hown (mvT hZ (own_w hw 59)) (mvT hZ (own_w hw 60)) (notFace_of_selects (args := #[]) (mvT hZ (own_w hw 62))) (mvT hZ (own_w hw 62)) (mvT hZ (own_w hw 61)) (by decide) (backOf (W := 0) (rm13 l Z a0 hw [] this (0 : Int32) wcs (1 : Int32) h0 n0 Z0 hcs Fc (B_wcs.ext OLD.2) (by unfold f13; rw [if_pos (by decide : (0 : Int32) = (0 : Int32))])) hZ (own_w hw 63) (own_w hw 6) (by decide) (by decide)) qa1 qc1 (g := (mkF m 1 #[oR this, oI (1 : Int32)] [(.ref this)])) rfl (by rw [hml]; rfl) (Steps.refl _) (argsL := []) (rest := []) (lenOf pd_12_0 rfl) rfl (by show 2 * 0 + _ ≤ _; exact Nat.le_of_eq rfl) (hb hby d12_1) (fun _ _ => ⟨rfl, e0, (by decide : 0 + 0 ≤ _), (by decide : 0 + 0 ≤ _)⟩)
    dsimp only [Pt.U, Pt.locs, Pt.cells, Pt.slots] at X1 l1 y1 z1 st1 hQ1
    subst l1 y1 z1
    obtain ⟨rfl, Nq1, e1⟩ := hQ1
    have N2 := Fr.app N0 Nq1
    refine own_tr st1 ?_
    show own_Go p e below _ (T1.setTop (mkF m 4 #[oR this, oI (1 : Int32)] [(.int (1 : Int32))]))
    refine own_via (fun t kz => XS.ifNo X1.here hx rfl (hb hby d12_4) rfl ((if0 _ _).trans (feq (by decide : ¬ ((1 : Int32) = (0 : Int32)))).1) kz) ?_
    refine own_via (fun t kz => XS.aloadN X1.here hx rfl (hb hby d12_7) rfl rfl kz) ?_
    show own_Go p e below _ (T1.setTop (mkF m 8 #[oR this, oI (1 : Int32)] [(.ref this)]))
    obtain ⟨T3, X3, e3, st3⟩ := getF X1 hx hZ hown (host := "") (Or.inl (own_w hw 24)) Via.refl e1 Fv (g := (mkF m 8 #[oR this, oI (1 : Int32)] [(.ref this)])) rfl rfl (hb hby d12_8)
    refine own_via st3 ?_
    refine own_via (fun t kz => XS.iloadN X3.here hx rfl (hb hby d12_11) rfl kz) ?_
    show own_Go p e below _ (T3.setTop (mkF m 12 #[oR this, oI (1 : Int32)] [(.int (1 : Int32)), (.ref arr)]))
    obtain ⟨_, _, ⟨T4, L4, k4, n4⟩, -, X4, ⟨Lc4, hQ4, l4, y4, z4⟩, st4⟩ := Jvm.LawKit.callS X3 hx (y := (⟨"java/lang/StringLatin1", "charAt", "([BI)C"⟩ : MethodName)) hown (mvT hZ (own_w hw 64)) (mvT hZ (own_w hw 65)) (mvT hZ (own_w hw 66)) (mvT hZ (own_w hw 67)) (by decide) (backOf (W := 0) (rmH2_1 l Z a0 hw [] arr wcs wsf kb (c0_.toInt8.toInt32) (c1_.toInt8.toInt32) c1_ h0 n0 Z0 OLD hcs rsf B_wcs B_wsf B_wad B_whi B_wlo Va (by unfold fH2_1; exact own_lat hc1 hl.2)) hZ (own_w hw 67) (own_w hw 66) (by decide) (by decide)) (g := (mkF m 12 #[oR this, oI (1 : Int32)] [(.int (1 : Int32)), (.ref arr)])) rfl (by rw [hml]; rfl) (argsL := [(.ref arr), (.int (1 : Int32))]) (rest := []) (lenOf pd_12_1 rfl) rfl (by show 2 * 0 + _ ≤ _; exact Nat.le_of_eq rfl) (hb hby d12_12) (fun _ _ => ⟨rfl, e3, (by decide : 0 + 0 ≤ _), (by decide : 0 + 0 ≤ _)⟩)
    dsimp only [Pt.U, Pt.locs, Pt.cells, Pt.slots] at X4 l4 y4 z4 st4 hQ4
    subst l4 y4 z4
    obtain ⟨rfl, Nq4, e4⟩ := hQ4
    have N5 := Fr.app N2 Nq4
    refine own_via st4 ?_
    show own_Go p e below _ (T4.setTop (mkF m 15 #[oR this, oI (1 : Int32)] [(.int c1_)]))
    obtain ⟨fs, hr, hrun, hended, hW, hsame⟩ := X4.leave (v := some (.int c1_)) (fun h => by rw [Bd.returns] at h; cases h)
    refine ⟨_, _, retOut X4 hx (i := .ireturn) Bd.returns (own_nch hc1) (Or.inl ⟨rfl, by simp, _, rfl⟩) (hb hby d12_15) hr, hrun, hended, _, _, rfl, ?_, ⟨_, rfl⟩, hW, hsame.mono (by decide) (by decide)⟩
    show QA2_1 Z this c0_ c1_ wcs wsf h0 n0 _ T4.heap _
    rw [e4]
    exact ⟨rfl, N5, rfl⟩
  · show own_Go p e below _ (s₁.setTop (mkF m 0 #[oR this, oI (1 : Int32)] []))
    refine own_via (fun t kz => XS.aloadN X0.here hx rfl (hb hby d12_0) rfl rfl kz) ?_
    show own_Go p e below _ (s₁.setTop (mkF m 1 #[oR this, oI (1 : Int32)] [(.ref this)]))
    obtain ⟨cq7, kq7, qa7, qb7, qc7⟩ := isOf hZ e0 Eq
    obtain ⟨_, _, ⟨T7, L7, k7, n7⟩, -, X7, ⟨Lc7, hQ7, l7, y7, z7⟩, st7⟩ := X0.virtualBack hx (y := (⟨"java/lang/String", "isLatin1", "()Z"⟩ : MethodName)) (z := (⟨"java/lang/String", "isLatin1", "()Z"⟩ : MethodName)) hown (mvT hZ (own_w hw 59)) (mvT hZ (own_w hw 60)) (notFace_of_selects (args := #[]) (mvT hZ (own_w hw 62))) (mvT hZ (own_w hw 62)) (mvT hZ (own_w hw 61)) (by decide) (backOf (W := 0) (rm13 l Z a0 hw [] this (1 : Int32) wcs (0 : Int32) h0 n0 Z0 hcs Fc (B_wcs.ext OLD.2) (by unfold f13; rw [if_neg (by decide : ¬ ((1 : Int32) = (0 : Int32)))])) hZ (own_w hw 63) (own_w hw 6) (by decide) (by decide)) qa7 qc7 (g := (mkF m 1 #[oR this, oI (1 : Int32)] [(.ref this)])) rfl (by rw [hml]; rfl) (Steps.refl _) (argsL := []) (rest := []) (lenOf pd_12_0 rfl) rfl (by show 2 * 0 + _ ≤ _; exact Nat.le_of_eq rfl) (hb hby d12_1) (fun _ _ => ⟨rfl, e0, (by decide : 0 + 0 ≤ _), (by decide : 0 + 0 ≤ _)⟩)
    dsimp only [Pt.U, Pt.locs, Pt.cells, Pt.slots] at X7 l7 y7 z7 st7 hQ7
    subst l7 y7 z7
    obtain ⟨rfl, Nq7, e7⟩ := hQ7
    have N8 := Fr.app N0 Nq7
    refine own_tr st7 ?_
    show own_Go p e below _ (T7.setTop (mkF m 4 #[oR this, oI (1 : Int32)] [(.int (0 : Int32))]))
    refine own_via (fun t kz => XS.ifYes X7.here hx rfl (pc0 := 4) (pc' := 16) rfl (hb hby d12_4) rfl ((if0 _ _).trans (teq (by decide : (0 : Int32) = (0 : Int32))).1) (by decide) (by decide) kz) ?_
    refine own_via (fun t kz => XS.aloadN X7.here hx rfl (hb hby d12_16) rfl rfl kz) ?_
    show own_Go p e below _ (T7.setTop (mkF m 17 #[oR this, oI (1 : Int32)] [(.ref this)]))
    obtain ⟨T9, X9, e9, st9⟩ := getF X7 hx hZ hown (host := "") (Or.inl (own_w hw 24)) Via.refl e7 Fv (g := (mkF m 17 #[oR this, oI (1 : Int32)] [(.ref this)])) rfl rfl (hb hby d12_17)
    refine own_via st9 ?_
    refine own_via (fun t kz => XS.iloadN X9.here hx rfl (hb hby d12_20) rfl kz) ?_
    show own_Go p e below _ (T9.setTop (mkF m 21 #[oR this, oI (1 : Int32)] [(.int (1 : Int32)), (.ref arr)]))
    obtain ⟨_, _, ⟨T10, L10, k10, n10⟩, -, X10, ⟨Lc10, hQ10, l10, y10, z10⟩, st10⟩ := Jvm.LawKit.callS X9 hx (y := (⟨"java/lang/StringUTF16", "charAt", "([BI)C"⟩ : MethodName)) hown (mvT hZ (own_w hw 98)) (mvT hZ (own_w hw 99)) (mvT hZ (own_w hw 43)) (mvT hZ (own_w hw 100)) (by decide) (backOf (W := 0) (rmY2_1 l Z a0 hw [] arr wcs wsf kb ((c0_ >>> ((0 : Int32) &&& 31)).toInt8.toInt32) ((c0_ >>> ((8 : Int32) &&& 31)).toInt8.toInt32) ((c1_ >>> ((0 : Int32) &&& 31)).toInt8.toInt32) ((c1_ >>> ((8 : Int32) &&& 31)).toInt8.toInt32) c1_ h0 n0 Z0 OLD hcs rsf B_wcs B_wsf B_wad B_whi B_wlo Va (by unfold fY2_1; exact own_utf hc1)) hZ (own_w hw 100) (own_w hw 43) (by decide) (by decide)) (g := (mkF m 21 #[oR this, oI (1 : Int32)] [(.int (1 : Int32)), (.ref arr)])) rfl (by rw [hml]; rfl) (argsL := [(.ref arr), (.int (1 : Int32))]) (rest := []) (lenOf pd_12_1 rfl) rfl (by show 2 * 0 + _ ≤ _; exact Nat.le_of_eq rfl) (hb hby d12_21) (fun _ _ => ⟨rfl, e9, (by decide : 0 + 0 ≤ _), (by decide : 0 + 0 ≤ _)⟩)
    dsimp only [Pt.U, Pt.locs, Pt.cells, Pt.slots] at X10 l10 y10 z10 st10 hQ10
    subst l10 y10 z10
    obtain ⟨rfl, Nq10, e10⟩ := hQ10
    have N11 := Fr.app N8 Nq10
    refine own_via st10 ?_
    show own_Go p e below _ (T10.setTop (mkF m 24 #[oR this, oI (1 : Int32)] [(.int c1_)]))
    obtain ⟨fs, hr, hrun, hended, hW, hsame⟩ := X10.leave (v := some (.int c1_)) (fun h => by rw [Bd.returns] at h; cases h)
    refine ⟨_, _, retOut X10 hx (i := .ireturn) Bd.returns (own_nch hc1) (Or.inl ⟨rfl, by simp, _, rfl⟩) (hb hby d12_24) hr, hrun, hended, _, _, rfl, ?_, ⟨_, rfl⟩, hW, hsame.mono (by decide) (by decide)⟩
    show QA2_1 Z this c0_ c1_ wcs wsf h0 n0 _ T10.heap _
    rw [e10]
    exact ⟨rfl, N11, rfl⟩
def own_cnt3 (c0_ c1_ c2_ : Int32) : Int32 := if (255 : Int32) < c0_ then (0 : Int32) else if (255 : Int32) < c1_ then (1 : Int32) else if (255 : Int32) < c2_ then (2 : Int32) else (3 : Int32)
def fC3_3  : Int32 := (((((3 : Int32) - (3 : Int32)).toUInt32 >>> ((31 : Int32) &&& 31).toUInt32).toInt32).toInt8.toInt32)
theorem ef_rmC3_3 (m : MethodId) (q0 : Addr) : entryFrame m #[(.ref q0), (.int (3 : Int32))] 2 = mkF m 0 #[oR q0, oI (3 : Int32)] [] := by first | (simp [entryFrame, mkF, argsToLocals, Value.category]; done) | rfl
def QC3_3 (Z : State) (p0 : Addr) (ka : ClassId) (b0_ : Int32) (b1_ : Int32) (b2_ : Int32) (r : Int32) (h0 : Heap) (n0 : Nat) (v : Option Value) (h : Heap) (L : List Loc) : Prop := v = some (.int r) ∧ Fr n0 L ∧ h = h0
set_option maxRecDepth 65536 in
set_option maxHeartbeats 40000000 in
theorem rmC3_3 (l : Launch) (Z : State) (a0 : Array Value) (hw : ∀ d ∈ tables_1, d.before a0 Z = true) (ws : List Jvm.Cond) (p0 : Addr) (ka : ClassId) (b0_ : Int32) (b1_ : Int32) (b2_ : Int32) (r : Int32) (h0 : Heap) (n0 : Nat) (Z0 : n0 ≤ h0.size) (V_p0 : Arv Z h0 p0 ka .byte (3 : Int32) [(.int b0_), (.int b1_), (.int b2_)] (.int (0 : Int32))) (hr0 : fC3_3 = r) :
    MetFree l (⟨"java/lang/StringUTF16", "coderFromArrayLen", "([BI)B"⟩ : MethodName) (head1 (Jvm.Cond.code (⟨"java/lang/StringUTF16", "coderFromArrayLen", "([BI)B"⟩ : MethodName) jdk_52_method_15_code 2 (some .byte) :: ws) ({ frames := 0, cells := 0, slots := 0, locals := 0 } : Room)) (fun a U => a = #[(.ref p0), (.int (3 : Int32))] ∧ Z.Warmed39 U.vm ∧ U.heap = h0) (fun _ _ _ _ _ => True) (fun _ U o U' => ∃ v L, o = .returned v ∧ QC3_3 Z p0 ka b0_ b1_ b2_ r h0 n0 v U'.heap L ∧ FrameEnd U o U' L ({ frames := 0, cells := 0, slots := 0, locals := 0 } : Room).cells ({ frames := 0, cells := 0, slots := 0, locals := 0 } : Room).slots) := by
  refine MetFree.of_bodySF (plainFor_of_name pn_20) hisR ?_
  intro p e s m args below meth c s₁ Bd hml0 hP hK
  obtain ⟨rfl, hZ, hh⟩ := hP
  have hx := Bd.exec
  have hby := Bd.bytes
  have hml : c.maxLocals = 2 := hml0
  have hown : s.vm.findClass "java/lang/StringUTF16" = some m.cls := findClass_of_methodNamed Bd.named
  have hnm := (name_of_methodNamed Bd.named Bd.method).1
  have X0 : Stand p l e ({ frames := 0, cells := 0, slots := 0, locals := 0 } : Room) s m #[(.ref p0), (.int (3 : Int32))] below meth c s₁ [] 0 0 := Stand.of_body Bd
  have e0 : s₁.heap = h0 := by rw [← hh, Bd.state]; rfl
  have N0 := Fr.nil n0
  refine own_start ?_
  refine own_via (fun t k => castTop (ef_rmC3_3 m p0) k) ?_
  show own_Go p e below _ (s₁.setTop (mkF m 0 #[oR p0, oI (3 : Int32)] []))
  refine own_via (fun t kz => XS.iloadN X0.here hx rfl (hb hby d10_0) rfl kz) ?_
  refine own_via (fun t kz => XS.aloadN X0.here hx rfl (hb hby d10_1) rfl rfl kz) ?_
  show own_Go p e below _ (s₁.setTop (mkF m 2 #[oR p0, oI (3 : Int32)] [(.ref p0), (.int (3 : Int32))]))
  obtain ⟨cl1, Ar1, kc1, Sz1, Nn1, Hs1, Gs1⟩ := id V_p0
  refine own_via (fun t kz => X0.arraylength hx (by rw [e0]; exact Ar1.1) (State.isArrayOf_alike hZ.alike Ar1.2.1) (g := (mkF m 2 #[oR p0, oI (3 : Int32)] [(.ref p0), (.int (3 : Int32))])) rfl rfl (hb hby d10_2) t kz) ?_
  show own_Go p e below _ (s₁.setTop (mkF m 3 #[oR p0, oI (3 : Int32)] [(.int (cl1.slots.size.toInt32)), (.int (3 : Int32))]))
  rw [len_of Sz1 Nn1]
  show own_Go p e below _ (s₁.setTop (mkF m 3 #[oR p0, oI (3 : Int32)] [(.int (3 : Int32)), (.int (3 : Int32))]))
  refine own_via (fun t kz => XS.isub X0.here hx rfl (hb hby d10_3) rfl kz) ?_
  refine own_via (fun t kz => XS.bipush X0.here hx rfl (hb hby d10_4) kz) ?_
  show own_Go p e below _ (s₁.setTop (mkF m 6 #[oR p0, oI (3 : Int32)] [(.int (31 : Int32)), (.int ((3 : Int32) - (3 : Int32)))]))
  refine own_via (fun t kz => XS.iushr X0.here hx rfl (hb hby d10_6) rfl kz) ?_
  show own_Go p e below _ (s₁.setTop (mkF m 7 #[oR p0, oI (3 : Int32)] [(.int ((((3 : Int32) - (3 : Int32)).toUInt32 >>> ((31 : Int32) &&& 31).toUInt32).toInt32))]))
  refine own_via (fun t kz => XS.i2b X0.here hx rfl (hb hby d10_7) rfl kz) ?_
  show own_Go p e below _ (s₁.setTop (mkF m 8 #[oR p0, oI (3 : Int32)] [(.int (((((3 : Int32) - (3 : Int32)).toUInt32 >>> ((31 : Int32) &&& 31).toUInt32).toInt32).toInt8.toInt32))]))
  have hv : fC3_3 = (((((3 : Int32) - (3 : Int32)).toUInt32 >>> ((31 : Int32) &&& 31).toUInt32).toInt32).toInt8.toInt32) := by unfold fC3_3; rfl
  obtain ⟨fs, hr, hrun, hended, hW, hsame⟩ := X0.leave (v := some (.int (((((3 : Int32) - (3 : Int32)).toUInt32 >>> ((31 : Int32) &&& 31).toUInt32).toInt32).toInt8.toInt32))) (fun h => by rw [Bd.returns] at h; cases h)
  refine ⟨_, _, retOut X0 hx (i := .ireturn) Bd.returns (by decide) (Or.inl ⟨rfl, by simp, _, rfl⟩) (hb hby d10_8) hr, hrun, hended, _, _, rfl, ?_, ⟨_, rfl⟩, hW, hsame.mono (by decide) (by decide)⟩
  show QC3_3 Z p0 ka b0_ b1_ b2_ r h0 n0 _ s₁.heap _
  rw [e0]
  exact ⟨by rw [← hr0, hv], N0, rfl⟩
def fC3_6  : Int32 := (((((3 : Int32) - (6 : Int32)).toUInt32 >>> ((31 : Int32) &&& 31).toUInt32).toInt32).toInt8.toInt32)
theorem ef_rmC3_6 (m : MethodId) (q0 : Addr) : entryFrame m #[(.ref q0), (.int (3 : Int32))] 2 = mkF m 0 #[oR q0, oI (3 : Int32)] [] := by first | (simp [entryFrame, mkF, argsToLocals, Value.category]; done) | rfl
def QC3_6 (Z : State) (p0 : Addr) (ka : ClassId) (b0_ : Int32) (b1_ : Int32) (b2_ : Int32) (b3_ : Int32) (b4_ : Int32) (b5_ : Int32) (r : Int32) (h0 : Heap) (n0 : Nat) (v : Option Value) (h : Heap) (L : List Loc) : Prop := v = some (.int r) ∧ Fr n0 L ∧ h = h0
set_option maxRecDepth 65536 in
set_option maxHeartbeats 40000000 in
theorem rmC3_6 (l : Launch) (Z : State) (a0 : Array Value) (hw : ∀ d ∈ tables_1, d.before a0 Z = true) (ws : List Jvm.Cond) (p0 : Addr) (ka : ClassId) (b0_ : Int32) (b1_ : Int32) (b2_ : Int32) (b3_ : Int32) (b4_ : Int32) (b5_ : Int32) (r : Int32) (h0 : Heap) (n0 : Nat) (Z0 : n0 ≤ h0.size) (V_p0 : Arv Z h0 p0 ka .byte (6 : Int32) [(.int b0_), (.int b1_), (.int b2_), (.int b3_), (.int b4_), (.int b5_)] (.int (0 : Int32))) (hr0 : fC3_6 = r) :
    MetFree l (⟨"java/lang/StringUTF16", "coderFromArrayLen", "([BI)B"⟩ : MethodName) (head1 (Jvm.Cond.code (⟨"java/lang/StringUTF16", "coderFromArrayLen", "([BI)B"⟩ : MethodName) jdk_52_method_15_code 2 (some .byte) :: ws) ({ frames := 0, cells := 0, slots := 0, locals := 0 } : Room)) (fun a U => a = #[(.ref p0), (.int (3 : Int32))] ∧ Z.Warmed39 U.vm ∧ U.heap = h0) (fun _ _ _ _ _ => True) (fun _ U o U' => ∃ v L, o = .returned v ∧ QC3_6 Z p0 ka b0_ b1_ b2_ b3_ b4_ b5_ r h0 n0 v U'.heap L ∧ FrameEnd U o U' L ({ frames := 0, cells := 0, slots := 0, locals := 0 } : Room).cells ({ frames := 0, cells := 0, slots := 0, locals := 0 } : Room).slots) := by
  refine MetFree.of_bodySF (plainFor_of_name pn_20) hisR ?_
  intro p e s m args below meth c s₁ Bd hml0 hP hK
  obtain ⟨rfl, hZ, hh⟩ := hP
  have hx := Bd.exec
  have hby := Bd.bytes
  have hml : c.maxLocals = 2 := hml0
  have hown : s.vm.findClass "java/lang/StringUTF16" = some m.cls := findClass_of_methodNamed Bd.named
  have hnm := (name_of_methodNamed Bd.named Bd.method).1
  have X0 : Stand p l e ({ frames := 0, cells := 0, slots := 0, locals := 0 } : Room) s m #[(.ref p0), (.int (3 : Int32))] below meth c s₁ [] 0 0 := Stand.of_body Bd
  have e0 : s₁.heap = h0 := by rw [← hh, Bd.state]; rfl
  have N0 := Fr.nil n0
  refine own_start ?_
  refine own_via (fun t k => castTop (ef_rmC3_6 m p0) k) ?_
  show own_Go p e below _ (s₁.setTop (mkF m 0 #[oR p0, oI (3 : Int32)] []))
  refine own_via (fun t kz => XS.iloadN X0.here hx rfl (hb hby d10_0) rfl kz) ?_
  refine own_via (fun t kz => XS.aloadN X0.here hx rfl (hb hby d10_1) rfl rfl kz) ?_
  show own_Go p e below _ (s₁.setTop (mkF m 2 #[oR p0, oI (3 : Int32)] [(.ref p0), (.int (3 : Int32))]))
  obtain ⟨cl1, Ar1, kc1, Sz1, Nn1, Hs1, Gs1⟩ := id V_p0
  refine own_via (fun t kz => X0.arraylength hx (by rw [e0]; exact Ar1.1) (State.isArrayOf_alike hZ.alike Ar1.2.1) (g := (mkF m 2 #[oR p0, oI (3 : Int32)] [(.ref p0), (.int (3 : Int32))])) rfl rfl (hb hby d10_2) t kz) ?_
  show own_Go p e below _ (s₁.setTop (mkF m 3 #[oR p0, oI (3 : Int32)] [(.int (cl1.slots.size.toInt32)), (.int (3 : Int32))]))
  rw [len_of Sz1 Nn1]
  show own_Go p e below _ (s₁.setTop (mkF m 3 #[oR p0, oI (3 : Int32)] [(.int (6 : Int32)), (.int (3 : Int32))]))
  refine own_via (fun t kz => XS.isub X0.here hx rfl (hb hby d10_3) rfl kz) ?_
  refine own_via (fun t kz => XS.bipush X0.here hx rfl (hb hby d10_4) kz) ?_
  show own_Go p e below _ (s₁.setTop (mkF m 6 #[oR p0, oI (3 : Int32)] [(.int (31 : Int32)), (.int ((3 : Int32) - (6 : Int32)))]))
  refine own_via (fun t kz => XS.iushr X0.here hx rfl (hb hby d10_6) rfl kz) ?_
  show own_Go p e below _ (s₁.setTop (mkF m 7 #[oR p0, oI (3 : Int32)] [(.int ((((3 : Int32) - (6 : Int32)).toUInt32 >>> ((31 : Int32) &&& 31).toUInt32).toInt32))]))
  refine own_via (fun t kz => XS.i2b X0.here hx rfl (hb hby d10_7) rfl kz) ?_
  show own_Go p e below _ (s₁.setTop (mkF m 8 #[oR p0, oI (3 : Int32)] [(.int (((((3 : Int32) - (6 : Int32)).toUInt32 >>> ((31 : Int32) &&& 31).toUInt32).toInt32).toInt8.toInt32))]))
  have hv : fC3_6 = (((((3 : Int32) - (6 : Int32)).toUInt32 >>> ((31 : Int32) &&& 31).toUInt32).toInt32).toInt8.toInt32) := by unfold fC3_6; rfl
  obtain ⟨fs, hr, hrun, hended, hW, hsame⟩ := X0.leave (v := some (.int (((((3 : Int32) - (6 : Int32)).toUInt32 >>> ((31 : Int32) &&& 31).toUInt32).toInt32).toInt8.toInt32))) (fun h => by rw [Bd.returns] at h; cases h)
  refine ⟨_, _, retOut X0 hx (i := .ireturn) Bd.returns (by decide) (Or.inl ⟨rfl, by simp, _, rfl⟩) (hb hby d10_8) hr, hrun, hended, _, _, rfl, ?_, ⟨_, rfl⟩, hW, hsame.mono (by decide) (by decide)⟩
  show QC3_6 Z p0 ka b0_ b1_ b2_ b3_ b4_ b5_ r h0 n0 _ s₁.heap _
  rw [e0]
  exact ⟨by rw [← hr0, hv], N0, rfl⟩
theorem ef_rmK3 (m : MethodId) (q0 : Addr) (q1 : Addr) : entryFrame m #[(.ref q0), (.int (0 : Int32)), (.ref q1), (.int (0 : Int32)), (.int (3 : Int32))] 7 = mkF m 0 #[oR q0, oI (0 : Int32), oR q1, oI (0 : Int32), oI (3 : Int32), .unset, .unset] [] := by first | (simp [entryFrame, mkF, argsToLocals, Value.category]; done) | rfl
def QK3 (Z : State) (p0 : Addr) (p2 : Addr) (kc : ClassId) (kb : ClassId) (c0_ : Int32) (c1_ : Int32) (c2_ : Int32) (r : Int32) (h0 : Heap) (n0 : Nat) (v : Option Value) (h : Heap) (L : List Loc) : Prop := v = some (.int r) ∧ Fr n0 L ∧ Keep h0 h [p2] ∧ ((¬ (255 : Int32) < c0_ ∧ ¬ (255 : Int32) < c1_ ∧ ¬ (255 : Int32) < c2_) → Arv Z h p2 kb .byte (3 : Int32) [(.int (c0_.toInt8.toInt32)), (.int (c1_.toInt8.toInt32)), (.int (c2_.toInt8.toInt32))] (.int (0 : Int32)))
set_option maxRecDepth 65536 in
set_option maxHeartbeats 40000000 in
theorem rmK3 (l : Launch) (Z : State) (a0 : Array Value) (hw : ∀ d ∈ tables_1, d.before a0 Z = true) (ws : List Jvm.Cond) (p0 : Addr) (p2 : Addr) (kc : ClassId) (kb : ClassId) (c0_ : Int32) (c1_ : Int32) (c2_ : Int32) (r : Int32) (h0 : Heap) (n0 : Nat) (Z0 : n0 ≤ h0.size) (g_p2 : n0 ≤ p2) (ne02 : p0 ≠ p2) (VC : Arv Z h0 p0 kc .char (3 : Int32) [(.int c0_), (.int c1_), (.int c2_)] (.int (0 : Int32))) (VB : Arv Z h0 p2 kb .byte (3 : Int32) [(.int (0 : Int32)), (.int (0 : Int32)), (.int (0 : Int32))] (.int (0 : Int32))) (hr0 : own_cnt3 c0_ c1_ c2_ = r) :
    MetFree l (⟨"java/lang/StringUTF16", "compress", "([CI[BII)I"⟩ : MethodName) (head1 (Jvm.Cond.code (⟨"java/lang/StringUTF16", "compress", "([CI[BII)I"⟩ : MethodName) jdk_52_method_21_code 7 (some .int) :: ws) ({ frames := 0, cells := 0, slots := 0, locals := 0 } : Room)) (fun a U => a = #[(.ref p0), (.int (0 : Int32)), (.ref p2), (.int (0 : Int32)), (.int (3 : Int32))] ∧ Z.Warmed39 U.vm ∧ U.heap = h0) (fun _ _ _ _ _ => True) (fun _ U o U' => ∃ v L, o = .returned v ∧ QK3 Z p0 p2 kc kb c0_ c1_ c2_ r h0 n0 v U'.heap L ∧ FrameEnd U o U' L ({ frames := 0, cells := 0, slots := 0, locals := 0 } : Room).cells ({ frames := 0, cells := 0, slots := 0, locals := 0 } : Room).slots) := by
  refine MetFree.of_bodySF (plainFor_of_name pn_20) hisR ?_
  intro p e s m args below meth c s₁ Bd hml0 hP hK
  obtain ⟨rfl, hZ, hh⟩ := hP
  have hx := Bd.exec
  have hby := Bd.bytes
  have hml : c.maxLocals = 7 := hml0
  have hown : s.vm.findClass "java/lang/StringUTF16" = some m.cls := findClass_of_methodNamed Bd.named
  have hnm := (name_of_methodNamed Bd.named Bd.method).1
  have X0 : Stand p l e ({ frames := 0, cells := 0, slots := 0, locals := 0 } : Room) s m #[(.ref p0), (.int (0 : Int32)), (.ref p2), (.int (0 : Int32)), (.int (3 : Int32))] below meth c s₁ [] 0 0 := Stand.of_body Bd
  have e0 : s₁.heap = h0 := by rw [← hh, Bd.state]; rfl
  have N0 := Fr.nil n0
  refine own_start ?_
  refine own_via (fun t k => castTop (ef_rmK3 m p0 p2) k) ?_
  show own_Go p e below _ (s₁.setTop (mkF m 0 #[oR p0, oI (0 : Int32), oR p2, oI (0 : Int32), oI (3 : Int32), .unset, .unset] []))
  refine own_via (fun t kz => XS.iconst X0.here hx rfl (hb hby d9_0) kz) ?_
  refine own_via (fun t kz => XS.istore X0.here hx rfl (hb hby d9_1) rfl (l' := #[oR p0, oI (0 : Int32), oR p2, oI (0 : Int32), oI (3 : Int32), oI (0 : Int32), .unset]) rfl kz) ?_
  refine own_via (fun t kz => XS.iload X0.here hx rfl (hb hby d9_3) rfl kz) ?_
  refine own_via (fun t kz => XS.iload X0.here hx rfl (hb hby d9_5) rfl kz) ?_
  show own_Go p e below _ (s₁.setTop (mkF m 7 #[oR p0, oI (0 : Int32), oR p2, oI (0 : Int32), oI (3 : Int32), oI (0 : Int32), .unset] [(.int (3 : Int32)), (.int (0 : Int32))]))
  refine own_via (fun t kz => XS.icmpNo X0.here hx rfl (hb hby d9_7) rfl (tlt (by decide : (0 : Int32) < (3 : Int32))).2.1 kz) ?_
  refine own_via (fun t kz => XS.aloadN X0.here hx rfl (hb hby d9_10) rfl rfl kz) ?_
  refine own_via (fun t kz => XS.iloadN X0.here hx rfl (hb hby d9_11) rfl kz) ?_
  show own_Go p e below _ (s₁.setTop (mkF m 12 #[oR p0, oI (0 : Int32), oR p2, oI (0 : Int32), oI (3 : Int32), oI (0 : Int32), .unset] [(.int (0 : Int32)), (.ref p0)]))
  obtain ⟨cl1, Ar1, kc1, Sz1, Nn1, Hs1, Gs1⟩ := id VC
  have in1 := inb_of (j := (0 : Int32)) Sz1 ⟨by decide, by decide⟩
  have at1 : cl1.slots[((0 : Int32)).toNatClampNeg]? = some (.int c0_) := Hs1.at in1 rfl
  refine own_via (fun t kz => X0.caload hx (j := (0 : Int32)) (v := (.int c0_)) (by rw [e0]; exact Ar1.1) (State.isArrayOf_alike hZ.alike Ar1.2.1) Ar1.2.2 in1 at1 (g := (mkF m 12 #[oR p0, oI (0 : Int32), oR p2, oI (0 : Int32), oI (3 : Int32), oI (0 : Int32), .unset] [(.int (0 : Int32)), (.ref p0)])) rfl rfl (hb hby d9_12) t kz) ?_
  refine own_via (fun t kz => XS.istore X0.here hx rfl (hb hby d9_13) rfl (l' := #[oR p0, oI (0 : Int32), oR p2, oI (0 : Int32), oI (3 : Int32), oI (0 : Int32), oI c0_]) rfl kz) ?_
  refine own_via (fun t kz => XS.iload X0.here hx rfl (hb hby d9_15) rfl kz) ?_
  refine own_via (fun t kz => XS.sipush X0.here hx rfl (hb hby d9_17) kz) ?_
  show own_Go p e below _ (s₁.setTop (mkF m 20 #[oR p0, oI (0 : Int32), oR p2, oI (0 : Int32), oI (3 : Int32), oI (0 : Int32), oI c0_] [(.int (255 : Int32)), (.int c0_)]))
  by_cases hc20_2 : (255 : Int32) < c0_
  · refine own_via (fun t kz => XS.icmpNo X0.here hx rfl (hb hby d9_20) rfl (tlt hc20_2).2.2.2 kz) ?_
    refine own_via (fun t kz => XS.iload X0.here hx rfl (hb hby d9_23) rfl kz) ?_
    show own_Go p e below _ (s₁.setTop (mkF m 25 #[oR p0, oI (0 : Int32), oR p2, oI (0 : Int32), oI (3 : Int32), oI (0 : Int32), oI c0_] [(.int (0 : Int32))]))
    obtain ⟨fs, hr, hrun, hended, hW, hsame⟩ := X0.leave (v := some (.int (0 : Int32))) (fun h => by rw [Bd.returns] at h; cases h)
    refine ⟨_, _, retI X0 hx Bd.returns (hb hby d9_25) hr, hrun, hended, _, _, rfl, ?_, ⟨_, rfl⟩, hW, hsame.mono (by decide) (by decide)⟩
    show QK3 Z p0 p2 kc kb c0_ c1_ c2_ r h0 n0 _ s₁.heap _
    rw [e0]
    exact ⟨by rw [← hr0]; unfold own_cnt3; rw [if_pos hc20_2], N0, (Keep.refl h0 [p2]), fun hl => absurd hc20_2 hl.1⟩
  · refine own_via (fun t kz => XS.icmpYes X0.here hx rfl (pc0 := 20) (pc' := 26) rfl (hb hby d9_20) rfl (flt hc20_2).2.2.2 (by decide) (by decide) kz) ?_
    refine own_via (fun t kz => XS.aloadN X0.here hx rfl (hb hby d9_26) rfl rfl kz) ?_
    refine own_via (fun t kz => XS.iloadN X0.here hx rfl (hb hby d9_27) rfl kz) ?_
    refine own_via (fun t kz => XS.iload X0.here hx rfl (hb hby d9_28) rfl kz) ?_
    show own_Go p e below _ (s₁.setTop (mkF m 30 #[oR p0, oI (0 : Int32), oR p2, oI (0 : Int32), oI (3 : Int32), oI (0 : Int32), oI c0_] [(.int c0_), (.int (0 : Int32)), (.ref p2)]))
    refine own_via (fun t kz => XS.i2b X0.here hx rfl (hb hby d9_30) rfl kz) ?_
    show own_Go p e below _ (s₁.setTop (mkF m 31 #[oR p0, oI (0 : Int32), oR p2, oI (0 : Int32), oI (3 : Int32), oI (0 : Int32), oI c0_] [(.int (c0_.toInt8.toInt32)), (.int (0 : Int32)), (.ref p2)]))
    obtain ⟨cl4, Ar4, kc4, Sz4, Nn4, Hs4, Gs4⟩ := id VB
    obtain ⟨T4, h4, X4, e4, W4, st4⟩ := stB X0 hx hZ e0 Ar4 (j := (0 : Int32)) (inb_of Sz4 ⟨by decide, by decide⟩) (g := (mkF m 31 #[oR p0, oI (0 : Int32), oR p2, oI (0 : Int32), oI (3 : Int32), oI (0 : Int32), oI c0_] [(.int (c0_.toInt8.toInt32)), (.int (0 : Int32)), (.ref p2)])) rfl rfl (hb hby d9_31)
    refine own_via st4 ?_
    have na4 : nar .byte (c0_.toInt8.toInt32) = (c0_.toInt8.toInt32) := own_narb _
    rw [na4] at W4
    have V5 := VC.other W4 ne02
    have Zs6 : n0 ≤ h4.size := Nat.le_trans Z0 (Keep.of_wr W4).1
    have N7 := Fr.snoc X4 N0 g_p2
    have K8 : Keep h0 h4 [p2] := (Keep.refl h0 [p2]).wr W4 (Or.inl (List.mem_of_getElem? (i := 0) rfl))
    have V9 : Arv Z h4 p2 kb .byte (3 : Int32) [(.int (c0_.toInt8.toInt32)), (.int (0 : Int32)), (.int (0 : Int32))] (.int (0 : Int32)) := Arv.set Ar4 kc4 Sz4 Nn4 Hs4 Gs4 (fits_nar_byte _) W4 0 (by first | decide | (show 0 < 3; decide)) (by first | decide | (show 0 < 3; decide))
    show own_Go p e below _ (T4.setTop (mkF m 32 #[oR p0, oI (0 : Int32), oR p2, oI (0 : Int32), oI (3 : Int32), oI (0 : Int32), oI c0_] []))
    refine own_via (fun t kz => XS.iinc X4.here hx rfl (hb hby d9_32) rfl (l' := #[oR p0, oI (1 : Int32), oR p2, oI (0 : Int32), oI (3 : Int32), oI (0 : Int32), oI c0_]) rfl kz) ?_
    show own_Go p e below _ (T4.setTop (mkF m 35 #[oR p0, oI (1 : Int32), oR p2, oI (0 : Int32), oI (3 : Int32), oI (0 : Int32), oI c0_] []))
    refine own_via (fun t kz => XS.iinc X4.here hx rfl (hb hby d9_35) rfl (l' := #[oR p0, oI (1 : Int32), oR p2, oI (1 : Int32), oI (3 : Int32), oI (0 : Int32), oI c0_]) rfl kz) ?_
    show own_Go p e below _ (T4.setTop (mkF m 38 #[oR p0, oI (1 : Int32), oR p2, oI (1 : Int32), oI (3 : Int32), oI (0 : Int32), oI c0_] []))
    refine own_via (fun t kz => XS.iinc X4.here hx rfl (hb hby d9_38) rfl (l' := #[oR p0, oI (1 : Int32), oR p2, oI (1 : Int32), oI (3 : Int32), oI (1 : Int32), oI c0_]) rfl kz) ?_
    refine own_via (fun t kz => XS.goto X4.here hx rfl (pc0 := 41) (pc' := 3) rfl (hb hby d9_41) (by decide) (by decide) kz) ?_
    refine own_via (fun t kz => XS.iload X4.here hx rfl (hb hby d9_3) rfl kz) ?_
    refine own_via (fun t kz => XS.iload X4.here hx rfl (hb hby d9_5) rfl kz) ?_
    show own_Go p e below _ (T4.setTop (mkF m 7 #[oR p0, oI (1 : Int32), oR p2, oI (1 : Int32), oI (3 : Int32), oI (1 : Int32), oI c0_] [(.int (3 : Int32)), (.int (1 : Int32))]))
    refine own_via (fun t kz => XS.icmpNo X4.here hx rfl (hb hby d9_7) rfl (tlt (by decide : (1 : Int32) < (3 : Int32))).2.1 kz) ?_
    refine own_via (fun t kz => XS.aloadN X4.here hx rfl (hb hby d9_10) rfl rfl kz) ?_
    refine own_via (fun t kz => XS.iloadN X4.here hx rfl (hb hby d9_11) rfl kz) ?_
    show own_Go p e below _ (T4.setTop (mkF m 12 #[oR p0, oI (1 : Int32), oR p2, oI (1 : Int32), oI (3 : Int32), oI (1 : Int32), oI c0_] [(.int (1 : Int32)), (.ref p0)]))
    obtain ⟨cl10, Ar10, kc10, Sz10, Nn10, Hs10, Gs10⟩ := id V5
    have in10 := inb_of (j := (1 : Int32)) Sz10 ⟨by decide, by decide⟩
    have at10 : cl10.slots[((1 : Int32)).toNatClampNeg]? = some (.int c1_) := Hs10.at in10 rfl
    refine own_via (fun t kz => X4.caload hx (j := (1 : Int32)) (v := (.int c1_)) (by rw [e4]; exact Ar10.1) (State.isArrayOf_alike hZ.alike Ar10.2.1) Ar10.2.2 in10 at10 (g := (mkF m 12 #[oR p0, oI (1 : Int32), oR p2, oI (1 : Int32), oI (3 : Int32), oI (1 : Int32), oI c0_] [(.int (1 : Int32)), (.ref p0)])) rfl rfl (hb hby d9_12) t kz) ?_
    refine own_via (fun t kz => XS.istore X4.here hx rfl (hb hby d9_13) rfl (l' := #[oR p0, oI (1 : Int32), oR p2, oI (1 : Int32), oI (3 : Int32), oI (1 : Int32), oI c1_]) rfl kz) ?_
    refine own_via (fun t kz => XS.iload X4.here hx rfl (hb hby d9_15) rfl kz) ?_
    refine own_via (fun t kz => XS.sipush X4.here hx rfl (hb hby d9_17) kz) ?_
    show own_Go p e below _ (T4.setTop (mkF m 20 #[oR p0, oI (1 : Int32), oR p2, oI (1 : Int32), oI (3 : Int32), oI (1 : Int32), oI c1_] [(.int (255 : Int32)), (.int c1_)]))
    by_cases hc20_11 : (255 : Int32) < c1_
    · refine own_via (fun t kz => XS.icmpNo X4.here hx rfl (hb hby d9_20) rfl (tlt hc20_11).2.2.2 kz) ?_
      refine own_via (fun t kz => XS.iload X4.here hx rfl (hb hby d9_23) rfl kz) ?_
      show own_Go p e below _ (T4.setTop (mkF m 25 #[oR p0, oI (1 : Int32), oR p2, oI (1 : Int32), oI (3 : Int32), oI (1 : Int32), oI c1_] [(.int (1 : Int32))]))
      obtain ⟨fs, hr, hrun, hended, hW, hsame⟩ := X4.leave (v := some (.int (1 : Int32))) (fun h => by rw [Bd.returns] at h; cases h)
      refine ⟨_, _, retI X4 hx Bd.returns (hb hby d9_25) hr, hrun, hended, _, _, rfl, ?_, ⟨_, rfl⟩, hW, hsame.mono (by decide) (by decide)⟩
      show QK3 Z p0 p2 kc kb c0_ c1_ c2_ r h0 n0 _ T4.heap _
      rw [e4]
      exact ⟨by rw [← hr0]; unfold own_cnt3; rw [if_neg hc20_2, if_pos hc20_11], N7, K8, fun hl => absurd hc20_11 hl.2.1⟩
    · refine own_via (fun t kz => XS.icmpYes X4.here hx rfl (pc0 := 20) (pc' := 26) rfl (hb hby d9_20) rfl (flt hc20_11).2.2.2 (by decide) (by decide) kz) ?_
      refine own_via (fun t kz => XS.aloadN X4.here hx rfl (hb hby d9_26) rfl rfl kz) ?_
      refine own_via (fun t kz => XS.iloadN X4.here hx rfl (hb hby d9_27) rfl kz) ?_
      refine own_via (fun t kz => XS.iload X4.here hx rfl (hb hby d9_28) rfl kz) ?_
      show own_Go p e below _ (T4.setTop (mkF m 30 #[oR p0, oI (1 : Int32), oR p2, oI (1 : Int32), oI (3 : Int32), oI (1 : Int32), oI c1_] [(.int c1_), (.int (1 : Int32)), (.ref p2)]))
      refine own_via (fun t kz => XS.i2b X4.here hx rfl (hb hby d9_30) rfl kz) ?_
      show own_Go p e below _ (T4.setTop (mkF m 31 #[oR p0, oI (1 : Int32), oR p2, oI (1 : Int32), oI (3 : Int32), oI (1 : Int32), oI c1_] [(.int (c1_.toInt8.toInt32)), (.int (1 : Int32)), (.ref p2)]))
      obtain ⟨cl13, Ar13, kc13, Sz13, Nn13, Hs13, Gs13⟩ := id V9
      obtain ⟨T13, h13, X13, e13, W13, st13⟩ := stB X4 hx hZ e4 Ar13 (j := (1 : Int32)) (inb_of Sz13 ⟨by decide, by decide⟩) (g := (mkF m 31 #[oR p0, oI (1 : Int32), oR p2, oI (1 : Int32), oI (3 : Int32), oI (1 : Int32), oI c1_] [(.int (c1_.toInt8.toInt32)), (.int (1 : Int32)), (.ref p2)])) rfl rfl (hb hby d9_31)
      refine own_via st13 ?_
      have na13 : nar .byte (c1_.toInt8.toInt32) = (c1_.toInt8.toInt32) := own_narb _
      rw [na13] at W13
      have V14 := V5.other W13 ne02
      have Zs15 : n0 ≤ h13.size := Nat.le_trans Zs6 (Keep.of_wr W13).1
      have N16 := Fr.snoc X13 N7 g_p2
      have K17 : Keep h0 h13 [p2] := K8.wr W13 (Or.inl (List.mem_of_getElem? (i := 0) rfl))
      have V18 : Arv Z h13 p2 kb .byte (3 : Int32) [(.int (c0_.toInt8.toInt32)), (.int (c1_.toInt8.toInt32)), (.int (0 : Int32))] (.int (0 : Int32)) := Arv.set Ar13 kc13 Sz13 Nn13 Hs13 Gs13 (fits_nar_byte _) W13 1 (by first | decide | (show 1 < 3; decide)) (by first | decide | (show 1 < 3; decide))
      show own_Go p e below _ (T13.setTop (mkF m 32 #[oR p0, oI (1 : Int32), oR p2, oI (1 : Int32), oI (3 : Int32), oI (1 : Int32), oI c1_] []))
      refine own_via (fun t kz => XS.iinc X13.here hx rfl (hb hby d9_32) rfl (l' := #[oR p0, oI (2 : Int32), oR p2, oI (1 : Int32), oI (3 : Int32), oI (1 : Int32), oI c1_]) rfl kz) ?_
      show own_Go p e below _ (T13.setTop (mkF m 35 #[oR p0, oI (2 : Int32), oR p2, oI (1 : Int32), oI (3 : Int32), oI (1 : Int32), oI c1_] []))
      refine own_via (fun t kz => XS.iinc X13.here hx rfl (hb hby d9_35) rfl (l' := #[oR p0, oI (2 : Int32), oR p2, oI (2 : Int32), oI (3 : Int32), oI (1 : Int32), oI c1_]) rfl kz) ?_
      show own_Go p e below _ (T13.setTop (mkF m 38 #[oR p0, oI (2 : Int32), oR p2, oI (2 : Int32), oI (3 : Int32), oI (1 : Int32), oI c1_] []))
      refine own_via (fun t kz => XS.iinc X13.here hx rfl (hb hby d9_38) rfl (l' := #[oR p0, oI (2 : Int32), oR p2, oI (2 : Int32), oI (3 : Int32), oI (2 : Int32), oI c1_]) rfl kz) ?_
      refine own_via (fun t kz => XS.goto X13.here hx rfl (pc0 := 41) (pc' := 3) rfl (hb hby d9_41) (by decide) (by decide) kz) ?_
      refine own_via (fun t kz => XS.iload X13.here hx rfl (hb hby d9_3) rfl kz) ?_
      refine own_via (fun t kz => XS.iload X13.here hx rfl (hb hby d9_5) rfl kz) ?_
      show own_Go p e below _ (T13.setTop (mkF m 7 #[oR p0, oI (2 : Int32), oR p2, oI (2 : Int32), oI (3 : Int32), oI (2 : Int32), oI c1_] [(.int (3 : Int32)), (.int (2 : Int32))]))
      refine own_via (fun t kz => XS.icmpNo X13.here hx rfl (hb hby d9_7) rfl (tlt (by decide : (2 : Int32) < (3 : Int32))).2.1 kz) ?_
      refine own_via (fun t kz => XS.aloadN X13.here hx rfl (hb hby d9_10) rfl rfl kz) ?_
      refine own_via (fun t kz => XS.iloadN X13.here hx rfl (hb hby d9_11) rfl kz) ?_
      show own_Go p e below _ (T13.setTop (mkF m 12 #[oR p0, oI (2 : Int32), oR p2, oI (2 : Int32), oI (3 : Int32), oI (2 : Int32), oI c1_] [(.int (2 : Int32)), (.ref p0)]))
      obtain ⟨cl19, Ar19, kc19, Sz19, Nn19, Hs19, Gs19⟩ := id V14
      have in19 := inb_of (j := (2 : Int32)) Sz19 ⟨by decide, by decide⟩
      have at19 : cl19.slots[((2 : Int32)).toNatClampNeg]? = some (.int c2_) := Hs19.at in19 rfl
      refine own_via (fun t kz => X13.caload hx (j := (2 : Int32)) (v := (.int c2_)) (by rw [e13]; exact Ar19.1) (State.isArrayOf_alike hZ.alike Ar19.2.1) Ar19.2.2 in19 at19 (g := (mkF m 12 #[oR p0, oI (2 : Int32), oR p2, oI (2 : Int32), oI (3 : Int32), oI (2 : Int32), oI c1_] [(.int (2 : Int32)), (.ref p0)])) rfl rfl (hb hby d9_12) t kz) ?_
      refine own_via (fun t kz => XS.istore X13.here hx rfl (hb hby d9_13) rfl (l' := #[oR p0, oI (2 : Int32), oR p2, oI (2 : Int32), oI (3 : Int32), oI (2 : Int32), oI c2_]) rfl kz) ?_
      refine own_via (fun t kz => XS.iload X13.here hx rfl (hb hby d9_15) rfl kz) ?_
      refine own_via (fun t kz => XS.sipush X13.here hx rfl (hb hby d9_17) kz) ?_
      show own_Go p e below _ (T13.setTop (mkF m 20 #[oR p0, oI (2 : Int32), oR p2, oI (2 : Int32), oI (3 : Int32), oI (2 : Int32), oI c2_] [(.int (255 : Int32)), (.int c2_)]))
      by_cases hc20_20 : (255 : Int32) < c2_
      · refine own_via (fun t kz => XS.icmpNo X13.here hx rfl (hb hby d9_20) rfl (tlt hc20_20).2.2.2 kz) ?_
        refine own_via (fun t kz => XS.iload X13.here hx rfl (hb hby d9_23) rfl kz) ?_
        show own_Go p e below _ (T13.setTop (mkF m 25 #[oR p0, oI (2 : Int32), oR p2, oI (2 : Int32), oI (3 : Int32), oI (2 : Int32), oI c2_] [(.int (2 : Int32))]))
        obtain ⟨fs, hr, hrun, hended, hW, hsame⟩ := X13.leave (v := some (.int (2 : Int32))) (fun h => by rw [Bd.returns] at h; cases h)
        refine ⟨_, _, retI X13 hx Bd.returns (hb hby d9_25) hr, hrun, hended, _, _, rfl, ?_, ⟨_, rfl⟩, hW, hsame.mono (by decide) (by decide)⟩
        show QK3 Z p0 p2 kc kb c0_ c1_ c2_ r h0 n0 _ T13.heap _
        rw [e13]
        exact ⟨by rw [← hr0]; unfold own_cnt3; rw [if_neg hc20_2, if_neg hc20_11, if_pos hc20_20], N16, K17, fun hl => absurd hc20_20 hl.2.2⟩
      · refine own_via (fun t kz => XS.icmpYes X13.here hx rfl (pc0 := 20) (pc' := 26) rfl (hb hby d9_20) rfl (flt hc20_20).2.2.2 (by decide) (by decide) kz) ?_
        refine own_via (fun t kz => XS.aloadN X13.here hx rfl (hb hby d9_26) rfl rfl kz) ?_
        refine own_via (fun t kz => XS.iloadN X13.here hx rfl (hb hby d9_27) rfl kz) ?_
        refine own_via (fun t kz => XS.iload X13.here hx rfl (hb hby d9_28) rfl kz) ?_
        show own_Go p e below _ (T13.setTop (mkF m 30 #[oR p0, oI (2 : Int32), oR p2, oI (2 : Int32), oI (3 : Int32), oI (2 : Int32), oI c2_] [(.int c2_), (.int (2 : Int32)), (.ref p2)]))
        refine own_via (fun t kz => XS.i2b X13.here hx rfl (hb hby d9_30) rfl kz) ?_
        show own_Go p e below _ (T13.setTop (mkF m 31 #[oR p0, oI (2 : Int32), oR p2, oI (2 : Int32), oI (3 : Int32), oI (2 : Int32), oI c2_] [(.int (c2_.toInt8.toInt32)), (.int (2 : Int32)), (.ref p2)]))
        obtain ⟨cl22, Ar22, kc22, Sz22, Nn22, Hs22, Gs22⟩ := id V18
        obtain ⟨T22, h22, X22, e22, W22, st22⟩ := stB X13 hx hZ e13 Ar22 (j := (2 : Int32)) (inb_of Sz22 ⟨by decide, by decide⟩) (g := (mkF m 31 #[oR p0, oI (2 : Int32), oR p2, oI (2 : Int32), oI (3 : Int32), oI (2 : Int32), oI c2_] [(.int (c2_.toInt8.toInt32)), (.int (2 : Int32)), (.ref p2)])) rfl rfl (hb hby d9_31)
        refine own_via st22 ?_
        have na22 : nar .byte (c2_.toInt8.toInt32) = (c2_.toInt8.toInt32) := own_narb _
        rw [na22] at W22
        have V23 := V14.other W22 ne02
        have Zs24 : n0 ≤ h22.size := Nat.le_trans Zs15 (Keep.of_wr W22).1
        have N25 := Fr.snoc X22 N16 g_p2
        have K26 : Keep h0 h22 [p2] := K17.wr W22 (Or.inl (List.mem_of_getElem? (i := 0) rfl))
        have V27 : Arv Z h22 p2 kb .byte (3 : Int32) [(.int (c0_.toInt8.toInt32)), (.int (c1_.toInt8.toInt32)), (.int (c2_.toInt8.toInt32))] (.int (0 : Int32)) := Arv.set Ar22 kc22 Sz22 Nn22 Hs22 Gs22 (fits_nar_byte _) W22 2 (by first | decide | (show 2 < 3; decide)) (by first | decide | (show 2 < 3; decide))
        show own_Go p e below _ (T22.setTop (mkF m 32 #[oR p0, oI (2 : Int32), oR p2, oI (2 : Int32), oI (3 : Int32), oI (2 : Int32), oI c2_] []))
        refine own_via (fun t kz => XS.iinc X22.here hx rfl (hb hby d9_32) rfl (l' := #[oR p0, oI (3 : Int32), oR p2, oI (2 : Int32), oI (3 : Int32), oI (2 : Int32), oI c2_]) rfl kz) ?_
        show own_Go p e below _ (T22.setTop (mkF m 35 #[oR p0, oI (3 : Int32), oR p2, oI (2 : Int32), oI (3 : Int32), oI (2 : Int32), oI c2_] []))
        refine own_via (fun t kz => XS.iinc X22.here hx rfl (hb hby d9_35) rfl (l' := #[oR p0, oI (3 : Int32), oR p2, oI (3 : Int32), oI (3 : Int32), oI (2 : Int32), oI c2_]) rfl kz) ?_
        show own_Go p e below _ (T22.setTop (mkF m 38 #[oR p0, oI (3 : Int32), oR p2, oI (3 : Int32), oI (3 : Int32), oI (2 : Int32), oI c2_] []))
        refine own_via (fun t kz => XS.iinc X22.here hx rfl (hb hby d9_38) rfl (l' := #[oR p0, oI (3 : Int32), oR p2, oI (3 : Int32), oI (3 : Int32), oI (3 : Int32), oI c2_]) rfl kz) ?_
        refine own_via (fun t kz => XS.goto X22.here hx rfl (pc0 := 41) (pc' := 3) rfl (hb hby d9_41) (by decide) (by decide) kz) ?_
        refine own_via (fun t kz => XS.iload X22.here hx rfl (hb hby d9_3) rfl kz) ?_
        refine own_via (fun t kz => XS.iload X22.here hx rfl (hb hby d9_5) rfl kz) ?_
        show own_Go p e below _ (T22.setTop (mkF m 7 #[oR p0, oI (3 : Int32), oR p2, oI (3 : Int32), oI (3 : Int32), oI (3 : Int32), oI c2_] [(.int (3 : Int32)), (.int (3 : Int32))]))
        refine own_via (fun t kz => XS.icmpYes X22.here hx rfl (pc0 := 7) (pc' := 44) rfl (hb hby d9_7) rfl (flt (by decide : ¬ ((3 : Int32) < (3 : Int32)))).2.1 (by decide) (by decide) kz) ?_
        refine own_via (fun t kz => XS.iload X22.here hx rfl (hb hby d9_44) rfl kz) ?_
        show own_Go p e below _ (T22.setTop (mkF m 46 #[oR p0, oI (3 : Int32), oR p2, oI (3 : Int32), oI (3 : Int32), oI (3 : Int32), oI c2_] [(.int (3 : Int32))]))
        obtain ⟨fs, hr, hrun, hended, hW, hsame⟩ := X22.leave (v := some (.int (3 : Int32))) (fun h => by rw [Bd.returns] at h; cases h)
        refine ⟨_, _, retI X22 hx Bd.returns (hb hby d9_46) hr, hrun, hended, _, _, rfl, ?_, ⟨_, rfl⟩, hW, hsame.mono (by decide) (by decide)⟩
        show QK3 Z p0 p2 kc kb c0_ c1_ c2_ r h0 n0 _ T22.heap _
        rw [e22]
        exact ⟨by rw [← hr0]; unfold own_cnt3; rw [if_neg hc20_2, if_neg hc20_11, if_neg hc20_20], N25, K26, fun _ => V27⟩
theorem ef_rmP3_0 (m : MethodId) (q0 : Addr) (q1 : Int32) : entryFrame m #[(.ref q0), (.int (0 : Int32)), (.int q1)] 3 = mkF m 0 #[oR q0, oI (0 : Int32), oI q1] [] := by first | (simp [entryFrame, mkF, argsToLocals, Value.category]; done) | rfl
def QP3_0 (Z : State) (p0 : Addr) (p2 : Int32) (kb : ClassId) (b0_ : Int32) (b1_ : Int32) (b2_ : Int32) (b3_ : Int32) (b4_ : Int32) (b5_ : Int32) (h0 : Heap) (n0 : Nat) (v : Option Value) (h : Heap) (L : List Loc) : Prop := v = none ∧ Fr n0 L ∧ Keep h0 h [p0] ∧ Arv Z h p0 kb .byte (6 : Int32) [(.int ((p2 >>> ((0 : Int32) &&& 31)).toInt8.toInt32)), (.int ((p2 >>> ((8 : Int32) &&& 31)).toInt8.toInt32)), (.int b2_), (.int b3_), (.int b4_), (.int b5_)] (.int (0 : Int32))
set_option maxRecDepth 65536 in
set_option maxHeartbeats 40000000 in
theorem rmP3_0 (l : Launch) (Z : State) (a0 : Array Value) (hw : ∀ d ∈ tables_1, d.before a0 Z = true) (ws : List Jvm.Cond) (p0 : Addr) (p2 : Int32) (kb : ClassId) (b0_ : Int32) (b1_ : Int32) (b2_ : Int32) (b3_ : Int32) (b4_ : Int32) (b5_ : Int32) (h0 : Heap) (n0 : Nat) (Z0 : n0 ≤ h0.size) (g_p0 : n0 ≤ p0) (VB : Arv Z h0 p0 kb .byte (6 : Int32) [(.int b0_), (.int b1_), (.int b2_), (.int b3_), (.int b4_), (.int b5_)] (.int (0 : Int32))) (S_wad : Sta Z h0 "java/lang/StringUTF16" "$assertionsDisabled" "Z" (.int (1 : Int32))) (S_whi : Sta Z h0 "java/lang/StringUTF16" "HI_BYTE_SHIFT" "I" (.int (0 : Int32))) (S_wlo : Sta Z h0 "java/lang/StringUTF16" "LO_BYTE_SHIFT" "I" (.int (8 : Int32))) :
    MetFree l (⟨"java/lang/StringUTF16", "putChar", "([BII)V"⟩ : MethodName) (head1 (Jvm.Cond.code (⟨"java/lang/StringUTF16", "putChar", "([BII)V"⟩ : MethodName) jdk_52_method_4_code 3 none :: ws) ({ frames := 0, cells := 0, slots := 0, locals := 0 } : Room)) (fun a U => a = #[(.ref p0), (.int (0 : Int32)), (.int p2)] ∧ Z.Warmed39 U.vm ∧ U.heap = h0) (fun _ _ _ _ _ => True) (fun _ U o U' => ∃ v L, o = .returned v ∧ QP3_0 Z p0 p2 kb b0_ b1_ b2_ b3_ b4_ b5_ h0 n0 v U'.heap L ∧ FrameEnd U o U' L ({ frames := 0, cells := 0, slots := 0, locals := 0 } : Room).cells ({ frames := 0, cells := 0, slots := 0, locals := 0 } : Room).slots) := by
  refine MetFree.of_bodySF (plainFor_of_name pn_20) hisR ?_
  intro p e s m args below meth c s₁ Bd hml0 hP hK
  obtain ⟨rfl, hZ, hh⟩ := hP
  have hx := Bd.exec
  have hby := Bd.bytes
  have hml : c.maxLocals = 3 := hml0
  have hown : s.vm.findClass "java/lang/StringUTF16" = some m.cls := findClass_of_methodNamed Bd.named
  have hnm := (name_of_methodNamed Bd.named Bd.method).1
  have X0 : Stand p l e ({ frames := 0, cells := 0, slots := 0, locals := 0 } : Room) s m #[(.ref p0), (.int (0 : Int32)), (.int p2)] below meth c s₁ [] 0 0 := Stand.of_body Bd
  have e0 : s₁.heap = h0 := by rw [← hh, Bd.state]; rfl
  have N0 := Fr.nil n0
  refine own_start ?_
  refine own_via (fun t k => castTop (ef_rmP3_0 m p0 p2) k) ?_
  show own_Go p e below _ (s₁.setTop (mkF m 0 #[oR p0, oI (0 : Int32), oI p2] []))
  obtain ⟨T1, X1, e1, st1⟩ := getS2 X0 hx hZ hown (host := "") (Or.inl (own_w hw 92)) Via.refl e0 S_wad (g := (mkF m 0 #[oR p0, oI (0 : Int32), oI p2] [])) rfl (hb hby d21_0)
  refine own_via st1 ?_
  show own_Go p e below _ (T1.setTop (mkF m 3 #[oR p0, oI (0 : Int32), oI p2] [(.int (1 : Int32))]))
  refine own_via (fun t kz => XS.ifYes X1.here hx rfl (pc0 := 3) (pc' := 28) rfl (hb hby d21_3) rfl ((if0 _ _).trans (feq (by decide : ¬ ((1 : Int32) = (0 : Int32)))).2) (by decide) (by decide) kz) ?_
  refine own_via (fun t kz => XS.iloadN X1.here hx rfl (hb hby d21_28) rfl kz) ?_
  refine own_via (fun t kz => XS.iconst X1.here hx rfl (hb hby d21_29) kz) ?_
  show own_Go p e below _ (T1.setTop (mkF m 30 #[oR p0, oI (0 : Int32), oI p2] [(.int (1 : Int32)), (.int (0 : Int32))]))
  refine own_via (fun t kz => XS.ishl X1.here hx rfl (hb hby d21_30) rfl kz) ?_
  refine own_via (fun t kz => XS.istoreN X1.here hx rfl (hb hby d21_31) rfl (l' := #[oR p0, oI (0 : Int32), oI p2]) rfl kz) ?_
  refine own_via (fun t kz => XS.aloadN X1.here hx rfl (hb hby d21_32) rfl rfl kz) ?_
  refine own_via (fun t kz => XS.iloadN X1.here hx rfl (hb hby d21_33) rfl kz) ?_
  show own_Go p e below _ (T1.setTop (mkF m 34 #[oR p0, oI (0 : Int32), oI p2] [(.int (0 : Int32)), (.ref p0)]))
  refine own_via (fun t kz => XS.iinc X1.here hx rfl (hb hby d21_34) rfl (l' := #[oR p0, oI (1 : Int32), oI p2]) rfl kz) ?_
  refine own_via (fun t kz => XS.iloadN X1.here hx rfl (hb hby d21_37) rfl kz) ?_
  show own_Go p e below _ (T1.setTop (mkF m 38 #[oR p0, oI (1 : Int32), oI p2] [(.int p2), (.int (0 : Int32)), (.ref p0)]))
  obtain ⟨T2, X2, e2, st2⟩ := getS2 X1 hx hZ hown (host := "") (Or.inl (own_w hw 93)) Via.refl e1 S_whi (g := (mkF m 38 #[oR p0, oI (1 : Int32), oI p2] [(.int p2), (.int (0 : Int32)), (.ref p0)])) rfl (hb hby d21_38)
  refine own_via st2 ?_
  show own_Go p e below _ (T2.setTop (mkF m 41 #[oR p0, oI (1 : Int32), oI p2] [(.int (0 : Int32)), (.int p2), (.int (0 : Int32)), (.ref p0)]))
  refine own_via (fun t kz => XS.ishr X2.here hx rfl (hb hby d21_41) rfl kz) ?_
  show own_Go p e below _ (T2.setTop (mkF m 42 #[oR p0, oI (1 : Int32), oI p2] [(.int (p2 >>> ((0 : Int32) &&& 31))), (.int (0 : Int32)), (.ref p0)]))
  refine own_via (fun t kz => XS.i2b X2.here hx rfl (hb hby d21_42) rfl kz) ?_
  show own_Go p e below _ (T2.setTop (mkF m 43 #[oR p0, oI (1 : Int32), oI p2] [(.int ((p2 >>> ((0 : Int32) &&& 31)).toInt8.toInt32)), (.int (0 : Int32)), (.ref p0)]))
  obtain ⟨cl3, Ar3, kc3, Sz3, Nn3, Hs3, Gs3⟩ := id VB
  obtain ⟨T3, h3, X3, e3, W3, st3⟩ := stB X2 hx hZ e2 Ar3 (j := (0 : Int32)) (inb_of Sz3 ⟨by decide, by decide⟩) (g := (mkF m 43 #[oR p0, oI (1 : Int32), oI p2] [(.int ((p2 >>> ((0 : Int32) &&& 31)).toInt8.toInt32)), (.int (0 : Int32)), (.ref p0)])) rfl rfl (hb hby d21_43)
  refine own_via st3 ?_
  have na3 : nar .byte ((p2 >>> ((0 : Int32) &&& 31)).toInt8.toInt32) = ((p2 >>> ((0 : Int32) &&& 31)).toInt8.toInt32) := own_narb _
  rw [na3] at W3
  have S4 := S_wad.wr W3
  have S5 := S_whi.wr W3
  have S6 := S_wlo.wr W3
  have Zs7 : n0 ≤ h3.size := Nat.le_trans Z0 (Keep.of_wr W3).1
  have N8 := Fr.snoc X3 N0 g_p0
  have K9 : Keep h0 h3 [p0] := (Keep.refl h0 [p0]).wr W3 (Or.inl (List.mem_of_getElem? (i := 0) rfl))
  have V10 : Arv Z h3 p0 kb .byte (6 : Int32) [(.int ((p2 >>> ((0 : Int32) &&& 31)).toInt8.toInt32)), (.int b1_), (.int b2_), (.int b3_), (.int b4_), (.int b5_)] (.int (0 : Int32)) := Arv.set Ar3 kc3 Sz3 Nn3 Hs3 Gs3 (fits_nar_byte _) W3 0 (by first | decide | (show 0 < 6; decide)) (by first | decide | (show 0 < 6; decide))
  refine own_via (fun t kz => XS.aloadN X3.here hx rfl (hb hby d21_44) rfl rfl kz) ?_
  refine own_via (fun t kz => XS.iloadN X3.here hx rfl (hb hby d21_45) rfl kz) ?_
  refine own_via (fun t kz => XS.iloadN X3.here hx rfl (hb hby d21_46) rfl kz) ?_
  show own_Go p e below _ (T3.setTop (mkF m 47 #[oR p0, oI (1 : Int32), oI p2] [(.int p2), (.int (1 : Int32)), (.ref p0)]))
  obtain ⟨T11, X11, e11, st11⟩ := getS2 X3 hx hZ hown (host := "") (Or.inl (own_w hw 94)) Via.refl e3 S6 (g := (mkF m 47 #[oR p0, oI (1 : Int32), oI p2] [(.int p2), (.int (1 : Int32)), (.ref p0)])) rfl (hb hby d21_47)
  refine own_via st11 ?_
  show own_Go p e below _ (T11.setTop (mkF m 50 #[oR p0, oI (1 : Int32), oI p2] [(.int (8 : Int32)), (.int p2), (.int (1 : Int32)), (.ref p0)]))
  refine own_via (fun t kz => XS.ishr X11.here hx rfl (hb hby d21_50) rfl kz) ?_
  show own_Go p e below _ (T11.setTop (mkF m 51 #[oR p0, oI (1 : Int32), oI p2] [(.int (p2 >>> ((8 : Int32) &&& 31))), (.int (1 : Int32)), (.ref p0)]))
  refine own_via (fun t kz => XS.i2b X11.here hx rfl (hb hby d21_51) rfl kz) ?_
  show own_Go p e below _ (T11.setTop (mkF m 52 #[oR p0, oI (1 : Int32), oI p2] [(.int ((p2 >>> ((8 : Int32) &&& 31)).toInt8.toInt32)), (.int (1 : Int32)), (.ref p0)]))
  obtain ⟨cl12, Ar12, kc12, Sz12, Nn12, Hs12, Gs12⟩ := id V10
  obtain ⟨T12, h12, X12, e12, W12, st12⟩ := stB X11 hx hZ e11 Ar12 (j := (1 : Int32)) (inb_of Sz12 ⟨by decide, by decide⟩) (g := (mkF m 52 #[oR p0, oI (1 : Int32), oI p2] [(.int ((p2 >>> ((8 : Int32) &&& 31)).toInt8.toInt32)), (.int (1 : Int32)), (.ref p0)])) rfl rfl (hb hby d21_52)
  refine own_via st12 ?_
  have na12 : nar .byte ((p2 >>> ((8 : Int32) &&& 31)).toInt8.toInt32) = ((p2 >>> ((8 : Int32) &&& 31)).toInt8.toInt32) := own_narb _
  rw [na12] at W12
  have S13 := S4.wr W12
  have S14 := S5.wr W12
  have S15 := S6.wr W12
  have Zs16 : n0 ≤ h12.size := Nat.le_trans Zs7 (Keep.of_wr W12).1
  have N17 := Fr.snoc X12 N8 g_p0
  have K18 : Keep h0 h12 [p0] := K9.wr W12 (Or.inl (List.mem_of_getElem? (i := 0) rfl))
  have V19 : Arv Z h12 p0 kb .byte (6 : Int32) [(.int ((p2 >>> ((0 : Int32) &&& 31)).toInt8.toInt32)), (.int ((p2 >>> ((8 : Int32) &&& 31)).toInt8.toInt32)), (.int b2_), (.int b3_), (.int b4_), (.int b5_)] (.int (0 : Int32)) := Arv.set Ar12 kc12 Sz12 Nn12 Hs12 Gs12 (fits_nar_byte _) W12 1 (by first | decide | (show 1 < 6; decide)) (by first | decide | (show 1 < 6; decide))
  show own_Go p e below _ (T12.setTop (mkF m 53 #[oR p0, oI (1 : Int32), oI p2] []))
  obtain ⟨fs, hr, hrun, hended, hW, hsame⟩ := X12.leave (v := none) (fun _ => rfl)
  refine ⟨_, _, X12.returnOut hx Bd.returns (hb hby d21_53) hr, hrun, hended, _, _, rfl, ?_, ⟨_, rfl⟩, hW, hsame.mono (by decide) (by decide)⟩
  show QP3_0 Z p0 p2 kb b0_ b1_ b2_ b3_ b4_ b5_ h0 n0 _ T12.heap _
  rw [e12]
  exact ⟨rfl, N17, K18, V19⟩
theorem ef_rmP3_1 (m : MethodId) (q0 : Addr) (q1 : Int32) : entryFrame m #[(.ref q0), (.int (1 : Int32)), (.int q1)] 3 = mkF m 0 #[oR q0, oI (1 : Int32), oI q1] [] := by first | (simp [entryFrame, mkF, argsToLocals, Value.category]; done) | rfl
def QP3_1 (Z : State) (p0 : Addr) (p2 : Int32) (kb : ClassId) (b0_ : Int32) (b1_ : Int32) (b2_ : Int32) (b3_ : Int32) (b4_ : Int32) (b5_ : Int32) (h0 : Heap) (n0 : Nat) (v : Option Value) (h : Heap) (L : List Loc) : Prop := v = none ∧ Fr n0 L ∧ Keep h0 h [p0] ∧ Arv Z h p0 kb .byte (6 : Int32) [(.int b0_), (.int b1_), (.int ((p2 >>> ((0 : Int32) &&& 31)).toInt8.toInt32)), (.int ((p2 >>> ((8 : Int32) &&& 31)).toInt8.toInt32)), (.int b4_), (.int b5_)] (.int (0 : Int32))
set_option maxRecDepth 65536 in
set_option maxHeartbeats 40000000 in
theorem rmP3_1 (l : Launch) (Z : State) (a0 : Array Value) (hw : ∀ d ∈ tables_1, d.before a0 Z = true) (ws : List Jvm.Cond) (p0 : Addr) (p2 : Int32) (kb : ClassId) (b0_ : Int32) (b1_ : Int32) (b2_ : Int32) (b3_ : Int32) (b4_ : Int32) (b5_ : Int32) (h0 : Heap) (n0 : Nat) (Z0 : n0 ≤ h0.size) (g_p0 : n0 ≤ p0) (VB : Arv Z h0 p0 kb .byte (6 : Int32) [(.int b0_), (.int b1_), (.int b2_), (.int b3_), (.int b4_), (.int b5_)] (.int (0 : Int32))) (S_wad : Sta Z h0 "java/lang/StringUTF16" "$assertionsDisabled" "Z" (.int (1 : Int32))) (S_whi : Sta Z h0 "java/lang/StringUTF16" "HI_BYTE_SHIFT" "I" (.int (0 : Int32))) (S_wlo : Sta Z h0 "java/lang/StringUTF16" "LO_BYTE_SHIFT" "I" (.int (8 : Int32))) :
    MetFree l (⟨"java/lang/StringUTF16", "putChar", "([BII)V"⟩ : MethodName) (head1 (Jvm.Cond.code (⟨"java/lang/StringUTF16", "putChar", "([BII)V"⟩ : MethodName) jdk_52_method_4_code 3 none :: ws) ({ frames := 0, cells := 0, slots := 0, locals := 0 } : Room)) (fun a U => a = #[(.ref p0), (.int (1 : Int32)), (.int p2)] ∧ Z.Warmed39 U.vm ∧ U.heap = h0) (fun _ _ _ _ _ => True) (fun _ U o U' => ∃ v L, o = .returned v ∧ QP3_1 Z p0 p2 kb b0_ b1_ b2_ b3_ b4_ b5_ h0 n0 v U'.heap L ∧ FrameEnd U o U' L ({ frames := 0, cells := 0, slots := 0, locals := 0 } : Room).cells ({ frames := 0, cells := 0, slots := 0, locals := 0 } : Room).slots) := by
  refine MetFree.of_bodySF (plainFor_of_name pn_20) hisR ?_
  intro p e s m args below meth c s₁ Bd hml0 hP hK
  obtain ⟨rfl, hZ, hh⟩ := hP
  have hx := Bd.exec
  have hby := Bd.bytes
  have hml : c.maxLocals = 3 := hml0
  have hown : s.vm.findClass "java/lang/StringUTF16" = some m.cls := findClass_of_methodNamed Bd.named
  have hnm := (name_of_methodNamed Bd.named Bd.method).1
  have X0 : Stand p l e ({ frames := 0, cells := 0, slots := 0, locals := 0 } : Room) s m #[(.ref p0), (.int (1 : Int32)), (.int p2)] below meth c s₁ [] 0 0 := Stand.of_body Bd
  have e0 : s₁.heap = h0 := by rw [← hh, Bd.state]; rfl
  have N0 := Fr.nil n0
  refine own_start ?_
  refine own_via (fun t k => castTop (ef_rmP3_1 m p0 p2) k) ?_
  show own_Go p e below _ (s₁.setTop (mkF m 0 #[oR p0, oI (1 : Int32), oI p2] []))
  obtain ⟨T1, X1, e1, st1⟩ := getS2 X0 hx hZ hown (host := "") (Or.inl (own_w hw 92)) Via.refl e0 S_wad (g := (mkF m 0 #[oR p0, oI (1 : Int32), oI p2] [])) rfl (hb hby d21_0)
  refine own_via st1 ?_
  show own_Go p e below _ (T1.setTop (mkF m 3 #[oR p0, oI (1 : Int32), oI p2] [(.int (1 : Int32))]))
  refine own_via (fun t kz => XS.ifYes X1.here hx rfl (pc0 := 3) (pc' := 28) rfl (hb hby d21_3) rfl ((if0 _ _).trans (feq (by decide : ¬ ((1 : Int32) = (0 : Int32)))).2) (by decide) (by decide) kz) ?_
  refine own_via (fun t kz => XS.iloadN X1.here hx rfl (hb hby d21_28) rfl kz) ?_
  refine own_via (fun t kz => XS.iconst X1.here hx rfl (hb hby d21_29) kz) ?_
  show own_Go p e below _ (T1.setTop (mkF m 30 #[oR p0, oI (1 : Int32), oI p2] [(.int (1 : Int32)), (.int (1 : Int32))]))
  refine own_via (fun t kz => XS.ishl X1.here hx rfl (hb hby d21_30) rfl kz) ?_
  refine own_via (fun t kz => XS.istoreN X1.here hx rfl (hb hby d21_31) rfl (l' := #[oR p0, oI (2 : Int32), oI p2]) rfl kz) ?_
  refine own_via (fun t kz => XS.aloadN X1.here hx rfl (hb hby d21_32) rfl rfl kz) ?_
  refine own_via (fun t kz => XS.iloadN X1.here hx rfl (hb hby d21_33) rfl kz) ?_
  show own_Go p e below _ (T1.setTop (mkF m 34 #[oR p0, oI (2 : Int32), oI p2] [(.int (2 : Int32)), (.ref p0)]))
  refine own_via (fun t kz => XS.iinc X1.here hx rfl (hb hby d21_34) rfl (l' := #[oR p0, oI (3 : Int32), oI p2]) rfl kz) ?_
  refine own_via (fun t kz => XS.iloadN X1.here hx rfl (hb hby d21_37) rfl kz) ?_
  show own_Go p e below _ (T1.setTop (mkF m 38 #[oR p0, oI (3 : Int32), oI p2] [(.int p2), (.int (2 : Int32)), (.ref p0)]))
  obtain ⟨T2, X2, e2, st2⟩ := getS2 X1 hx hZ hown (host := "") (Or.inl (own_w hw 93)) Via.refl e1 S_whi (g := (mkF m 38 #[oR p0, oI (3 : Int32), oI p2] [(.int p2), (.int (2 : Int32)), (.ref p0)])) rfl (hb hby d21_38)
  refine own_via st2 ?_
  show own_Go p e below _ (T2.setTop (mkF m 41 #[oR p0, oI (3 : Int32), oI p2] [(.int (0 : Int32)), (.int p2), (.int (2 : Int32)), (.ref p0)]))
  refine own_via (fun t kz => XS.ishr X2.here hx rfl (hb hby d21_41) rfl kz) ?_
  show own_Go p e below _ (T2.setTop (mkF m 42 #[oR p0, oI (3 : Int32), oI p2] [(.int (p2 >>> ((0 : Int32) &&& 31))), (.int (2 : Int32)), (.ref p0)]))
  refine own_via (fun t kz => XS.i2b X2.here hx rfl (hb hby d21_42) rfl kz) ?_
  show own_Go p e below _ (T2.setTop (mkF m 43 #[oR p0, oI (3 : Int32), oI p2] [(.int ((p2 >>> ((0 : Int32) &&& 31)).toInt8.toInt32)), (.int (2 : Int32)), (.ref p0)]))
  obtain ⟨cl3, Ar3, kc3, Sz3, Nn3, Hs3, Gs3⟩ := id VB
  obtain ⟨T3, h3, X3, e3, W3, st3⟩ := stB X2 hx hZ e2 Ar3 (j := (2 : Int32)) (inb_of Sz3 ⟨by decide, by decide⟩) (g := (mkF m 43 #[oR p0, oI (3 : Int32), oI p2] [(.int ((p2 >>> ((0 : Int32) &&& 31)).toInt8.toInt32)), (.int (2 : Int32)), (.ref p0)])) rfl rfl (hb hby d21_43)
  refine own_via st3 ?_
  have na3 : nar .byte ((p2 >>> ((0 : Int32) &&& 31)).toInt8.toInt32) = ((p2 >>> ((0 : Int32) &&& 31)).toInt8.toInt32) := own_narb _
  rw [na3] at W3
  have S4 := S_wad.wr W3
  have S5 := S_whi.wr W3
  have S6 := S_wlo.wr W3
  have Zs7 : n0 ≤ h3.size := Nat.le_trans Z0 (Keep.of_wr W3).1
  have N8 := Fr.snoc X3 N0 g_p0
  have K9 : Keep h0 h3 [p0] := (Keep.refl h0 [p0]).wr W3 (Or.inl (List.mem_of_getElem? (i := 0) rfl))
  have V10 : Arv Z h3 p0 kb .byte (6 : Int32) [(.int b0_), (.int b1_), (.int ((p2 >>> ((0 : Int32) &&& 31)).toInt8.toInt32)), (.int b3_), (.int b4_), (.int b5_)] (.int (0 : Int32)) := Arv.set Ar3 kc3 Sz3 Nn3 Hs3 Gs3 (fits_nar_byte _) W3 2 (by first | decide | (show 2 < 6; decide)) (by first | decide | (show 2 < 6; decide))
  refine own_via (fun t kz => XS.aloadN X3.here hx rfl (hb hby d21_44) rfl rfl kz) ?_
  refine own_via (fun t kz => XS.iloadN X3.here hx rfl (hb hby d21_45) rfl kz) ?_
  refine own_via (fun t kz => XS.iloadN X3.here hx rfl (hb hby d21_46) rfl kz) ?_
  show own_Go p e below _ (T3.setTop (mkF m 47 #[oR p0, oI (3 : Int32), oI p2] [(.int p2), (.int (3 : Int32)), (.ref p0)]))
  obtain ⟨T11, X11, e11, st11⟩ := getS2 X3 hx hZ hown (host := "") (Or.inl (own_w hw 94)) Via.refl e3 S6 (g := (mkF m 47 #[oR p0, oI (3 : Int32), oI p2] [(.int p2), (.int (3 : Int32)), (.ref p0)])) rfl (hb hby d21_47)
  refine own_via st11 ?_
  show own_Go p e below _ (T11.setTop (mkF m 50 #[oR p0, oI (3 : Int32), oI p2] [(.int (8 : Int32)), (.int p2), (.int (3 : Int32)), (.ref p0)]))
  refine own_via (fun t kz => XS.ishr X11.here hx rfl (hb hby d21_50) rfl kz) ?_
  show own_Go p e below _ (T11.setTop (mkF m 51 #[oR p0, oI (3 : Int32), oI p2] [(.int (p2 >>> ((8 : Int32) &&& 31))), (.int (3 : Int32)), (.ref p0)]))
  refine own_via (fun t kz => XS.i2b X11.here hx rfl (hb hby d21_51) rfl kz) ?_
  show own_Go p e below _ (T11.setTop (mkF m 52 #[oR p0, oI (3 : Int32), oI p2] [(.int ((p2 >>> ((8 : Int32) &&& 31)).toInt8.toInt32)), (.int (3 : Int32)), (.ref p0)]))
  obtain ⟨cl12, Ar12, kc12, Sz12, Nn12, Hs12, Gs12⟩ := id V10
  obtain ⟨T12, h12, X12, e12, W12, st12⟩ := stB X11 hx hZ e11 Ar12 (j := (3 : Int32)) (inb_of Sz12 ⟨by decide, by decide⟩) (g := (mkF m 52 #[oR p0, oI (3 : Int32), oI p2] [(.int ((p2 >>> ((8 : Int32) &&& 31)).toInt8.toInt32)), (.int (3 : Int32)), (.ref p0)])) rfl rfl (hb hby d21_52)
  refine own_via st12 ?_
  have na12 : nar .byte ((p2 >>> ((8 : Int32) &&& 31)).toInt8.toInt32) = ((p2 >>> ((8 : Int32) &&& 31)).toInt8.toInt32) := own_narb _
  rw [na12] at W12
  have S13 := S4.wr W12
  have S14 := S5.wr W12
  have S15 := S6.wr W12
  have Zs16 : n0 ≤ h12.size := Nat.le_trans Zs7 (Keep.of_wr W12).1
  have N17 := Fr.snoc X12 N8 g_p0
  have K18 : Keep h0 h12 [p0] := K9.wr W12 (Or.inl (List.mem_of_getElem? (i := 0) rfl))
  have V19 : Arv Z h12 p0 kb .byte (6 : Int32) [(.int b0_), (.int b1_), (.int ((p2 >>> ((0 : Int32) &&& 31)).toInt8.toInt32)), (.int ((p2 >>> ((8 : Int32) &&& 31)).toInt8.toInt32)), (.int b4_), (.int b5_)] (.int (0 : Int32)) := Arv.set Ar12 kc12 Sz12 Nn12 Hs12 Gs12 (fits_nar_byte _) W12 3 (by first | decide | (show 3 < 6; decide)) (by first | decide | (show 3 < 6; decide))
  show own_Go p e below _ (T12.setTop (mkF m 53 #[oR p0, oI (3 : Int32), oI p2] []))
  obtain ⟨fs, hr, hrun, hended, hW, hsame⟩ := X12.leave (v := none) (fun _ => rfl)
  refine ⟨_, _, X12.returnOut hx Bd.returns (hb hby d21_53) hr, hrun, hended, _, _, rfl, ?_, ⟨_, rfl⟩, hW, hsame.mono (by decide) (by decide)⟩
  show QP3_1 Z p0 p2 kb b0_ b1_ b2_ b3_ b4_ b5_ h0 n0 _ T12.heap _
  rw [e12]
  exact ⟨rfl, N17, K18, V19⟩
theorem ef_rmP3_2 (m : MethodId) (q0 : Addr) (q1 : Int32) : entryFrame m #[(.ref q0), (.int (2 : Int32)), (.int q1)] 3 = mkF m 0 #[oR q0, oI (2 : Int32), oI q1] [] := by first | (simp [entryFrame, mkF, argsToLocals, Value.category]; done) | rfl
def QP3_2 (Z : State) (p0 : Addr) (p2 : Int32) (kb : ClassId) (b0_ : Int32) (b1_ : Int32) (b2_ : Int32) (b3_ : Int32) (b4_ : Int32) (b5_ : Int32) (h0 : Heap) (n0 : Nat) (v : Option Value) (h : Heap) (L : List Loc) : Prop := v = none ∧ Fr n0 L ∧ Keep h0 h [p0] ∧ Arv Z h p0 kb .byte (6 : Int32) [(.int b0_), (.int b1_), (.int b2_), (.int b3_), (.int ((p2 >>> ((0 : Int32) &&& 31)).toInt8.toInt32)), (.int ((p2 >>> ((8 : Int32) &&& 31)).toInt8.toInt32))] (.int (0 : Int32))
set_option maxRecDepth 65536 in
set_option maxHeartbeats 40000000 in
theorem rmP3_2 (l : Launch) (Z : State) (a0 : Array Value) (hw : ∀ d ∈ tables_1, d.before a0 Z = true) (ws : List Jvm.Cond) (p0 : Addr) (p2 : Int32) (kb : ClassId) (b0_ : Int32) (b1_ : Int32) (b2_ : Int32) (b3_ : Int32) (b4_ : Int32) (b5_ : Int32) (h0 : Heap) (n0 : Nat) (Z0 : n0 ≤ h0.size) (g_p0 : n0 ≤ p0) (VB : Arv Z h0 p0 kb .byte (6 : Int32) [(.int b0_), (.int b1_), (.int b2_), (.int b3_), (.int b4_), (.int b5_)] (.int (0 : Int32))) (S_wad : Sta Z h0 "java/lang/StringUTF16" "$assertionsDisabled" "Z" (.int (1 : Int32))) (S_whi : Sta Z h0 "java/lang/StringUTF16" "HI_BYTE_SHIFT" "I" (.int (0 : Int32))) (S_wlo : Sta Z h0 "java/lang/StringUTF16" "LO_BYTE_SHIFT" "I" (.int (8 : Int32))) :
    MetFree l (⟨"java/lang/StringUTF16", "putChar", "([BII)V"⟩ : MethodName) (head1 (Jvm.Cond.code (⟨"java/lang/StringUTF16", "putChar", "([BII)V"⟩ : MethodName) jdk_52_method_4_code 3 none :: ws) ({ frames := 0, cells := 0, slots := 0, locals := 0 } : Room)) (fun a U => a = #[(.ref p0), (.int (2 : Int32)), (.int p2)] ∧ Z.Warmed39 U.vm ∧ U.heap = h0) (fun _ _ _ _ _ => True) (fun _ U o U' => ∃ v L, o = .returned v ∧ QP3_2 Z p0 p2 kb b0_ b1_ b2_ b3_ b4_ b5_ h0 n0 v U'.heap L ∧ FrameEnd U o U' L ({ frames := 0, cells := 0, slots := 0, locals := 0 } : Room).cells ({ frames := 0, cells := 0, slots := 0, locals := 0 } : Room).slots) := by
  refine MetFree.of_bodySF (plainFor_of_name pn_20) hisR ?_
  intro p e s m args below meth c s₁ Bd hml0 hP hK
  obtain ⟨rfl, hZ, hh⟩ := hP
  have hx := Bd.exec
  have hby := Bd.bytes
  have hml : c.maxLocals = 3 := hml0
  have hown : s.vm.findClass "java/lang/StringUTF16" = some m.cls := findClass_of_methodNamed Bd.named
  have hnm := (name_of_methodNamed Bd.named Bd.method).1
  have X0 : Stand p l e ({ frames := 0, cells := 0, slots := 0, locals := 0 } : Room) s m #[(.ref p0), (.int (2 : Int32)), (.int p2)] below meth c s₁ [] 0 0 := Stand.of_body Bd
  have e0 : s₁.heap = h0 := by rw [← hh, Bd.state]; rfl
  have N0 := Fr.nil n0
  refine own_start ?_
  refine own_via (fun t k => castTop (ef_rmP3_2 m p0 p2) k) ?_
  show own_Go p e below _ (s₁.setTop (mkF m 0 #[oR p0, oI (2 : Int32), oI p2] []))
  obtain ⟨T1, X1, e1, st1⟩ := getS2 X0 hx hZ hown (host := "") (Or.inl (own_w hw 92)) Via.refl e0 S_wad (g := (mkF m 0 #[oR p0, oI (2 : Int32), oI p2] [])) rfl (hb hby d21_0)
  refine own_via st1 ?_
  show own_Go p e below _ (T1.setTop (mkF m 3 #[oR p0, oI (2 : Int32), oI p2] [(.int (1 : Int32))]))
  refine own_via (fun t kz => XS.ifYes X1.here hx rfl (pc0 := 3) (pc' := 28) rfl (hb hby d21_3) rfl ((if0 _ _).trans (feq (by decide : ¬ ((1 : Int32) = (0 : Int32)))).2) (by decide) (by decide) kz) ?_
  refine own_via (fun t kz => XS.iloadN X1.here hx rfl (hb hby d21_28) rfl kz) ?_
  refine own_via (fun t kz => XS.iconst X1.here hx rfl (hb hby d21_29) kz) ?_
  show own_Go p e below _ (T1.setTop (mkF m 30 #[oR p0, oI (2 : Int32), oI p2] [(.int (1 : Int32)), (.int (2 : Int32))]))
  refine own_via (fun t kz => XS.ishl X1.here hx rfl (hb hby d21_30) rfl kz) ?_
  refine own_via (fun t kz => XS.istoreN X1.here hx rfl (hb hby d21_31) rfl (l' := #[oR p0, oI (4 : Int32), oI p2]) rfl kz) ?_
  refine own_via (fun t kz => XS.aloadN X1.here hx rfl (hb hby d21_32) rfl rfl kz) ?_
  refine own_via (fun t kz => XS.iloadN X1.here hx rfl (hb hby d21_33) rfl kz) ?_
  show own_Go p e below _ (T1.setTop (mkF m 34 #[oR p0, oI (4 : Int32), oI p2] [(.int (4 : Int32)), (.ref p0)]))
  refine own_via (fun t kz => XS.iinc X1.here hx rfl (hb hby d21_34) rfl (l' := #[oR p0, oI (5 : Int32), oI p2]) rfl kz) ?_
  refine own_via (fun t kz => XS.iloadN X1.here hx rfl (hb hby d21_37) rfl kz) ?_
  show own_Go p e below _ (T1.setTop (mkF m 38 #[oR p0, oI (5 : Int32), oI p2] [(.int p2), (.int (4 : Int32)), (.ref p0)]))
  obtain ⟨T2, X2, e2, st2⟩ := getS2 X1 hx hZ hown (host := "") (Or.inl (own_w hw 93)) Via.refl e1 S_whi (g := (mkF m 38 #[oR p0, oI (5 : Int32), oI p2] [(.int p2), (.int (4 : Int32)), (.ref p0)])) rfl (hb hby d21_38)
  refine own_via st2 ?_
  show own_Go p e below _ (T2.setTop (mkF m 41 #[oR p0, oI (5 : Int32), oI p2] [(.int (0 : Int32)), (.int p2), (.int (4 : Int32)), (.ref p0)]))
  refine own_via (fun t kz => XS.ishr X2.here hx rfl (hb hby d21_41) rfl kz) ?_
  show own_Go p e below _ (T2.setTop (mkF m 42 #[oR p0, oI (5 : Int32), oI p2] [(.int (p2 >>> ((0 : Int32) &&& 31))), (.int (4 : Int32)), (.ref p0)]))
  refine own_via (fun t kz => XS.i2b X2.here hx rfl (hb hby d21_42) rfl kz) ?_
  show own_Go p e below _ (T2.setTop (mkF m 43 #[oR p0, oI (5 : Int32), oI p2] [(.int ((p2 >>> ((0 : Int32) &&& 31)).toInt8.toInt32)), (.int (4 : Int32)), (.ref p0)]))
  obtain ⟨cl3, Ar3, kc3, Sz3, Nn3, Hs3, Gs3⟩ := id VB
  obtain ⟨T3, h3, X3, e3, W3, st3⟩ := stB X2 hx hZ e2 Ar3 (j := (4 : Int32)) (inb_of Sz3 ⟨by decide, by decide⟩) (g := (mkF m 43 #[oR p0, oI (5 : Int32), oI p2] [(.int ((p2 >>> ((0 : Int32) &&& 31)).toInt8.toInt32)), (.int (4 : Int32)), (.ref p0)])) rfl rfl (hb hby d21_43)
  refine own_via st3 ?_
  have na3 : nar .byte ((p2 >>> ((0 : Int32) &&& 31)).toInt8.toInt32) = ((p2 >>> ((0 : Int32) &&& 31)).toInt8.toInt32) := own_narb _
  rw [na3] at W3
  have S4 := S_wad.wr W3
  have S5 := S_whi.wr W3
  have S6 := S_wlo.wr W3
  have Zs7 : n0 ≤ h3.size := Nat.le_trans Z0 (Keep.of_wr W3).1
  have N8 := Fr.snoc X3 N0 g_p0
  have K9 : Keep h0 h3 [p0] := (Keep.refl h0 [p0]).wr W3 (Or.inl (List.mem_of_getElem? (i := 0) rfl))
  have V10 : Arv Z h3 p0 kb .byte (6 : Int32) [(.int b0_), (.int b1_), (.int b2_), (.int b3_), (.int ((p2 >>> ((0 : Int32) &&& 31)).toInt8.toInt32)), (.int b5_)] (.int (0 : Int32)) := Arv.set Ar3 kc3 Sz3 Nn3 Hs3 Gs3 (fits_nar_byte _) W3 4 (by first | decide | (show 4 < 6; decide)) (by first | decide | (show 4 < 6; decide))
  refine own_via (fun t kz => XS.aloadN X3.here hx rfl (hb hby d21_44) rfl rfl kz) ?_
  refine own_via (fun t kz => XS.iloadN X3.here hx rfl (hb hby d21_45) rfl kz) ?_
  refine own_via (fun t kz => XS.iloadN X3.here hx rfl (hb hby d21_46) rfl kz) ?_
  show own_Go p e below _ (T3.setTop (mkF m 47 #[oR p0, oI (5 : Int32), oI p2] [(.int p2), (.int (5 : Int32)), (.ref p0)]))
  obtain ⟨T11, X11, e11, st11⟩ := getS2 X3 hx hZ hown (host := "") (Or.inl (own_w hw 94)) Via.refl e3 S6 (g := (mkF m 47 #[oR p0, oI (5 : Int32), oI p2] [(.int p2), (.int (5 : Int32)), (.ref p0)])) rfl (hb hby d21_47)
  refine own_via st11 ?_
  show own_Go p e below _ (T11.setTop (mkF m 50 #[oR p0, oI (5 : Int32), oI p2] [(.int (8 : Int32)), (.int p2), (.int (5 : Int32)), (.ref p0)]))
  refine own_via (fun t kz => XS.ishr X11.here hx rfl (hb hby d21_50) rfl kz) ?_
  show own_Go p e below _ (T11.setTop (mkF m 51 #[oR p0, oI (5 : Int32), oI p2] [(.int (p2 >>> ((8 : Int32) &&& 31))), (.int (5 : Int32)), (.ref p0)]))
  refine own_via (fun t kz => XS.i2b X11.here hx rfl (hb hby d21_51) rfl kz) ?_
  show own_Go p e below _ (T11.setTop (mkF m 52 #[oR p0, oI (5 : Int32), oI p2] [(.int ((p2 >>> ((8 : Int32) &&& 31)).toInt8.toInt32)), (.int (5 : Int32)), (.ref p0)]))
  obtain ⟨cl12, Ar12, kc12, Sz12, Nn12, Hs12, Gs12⟩ := id V10
  obtain ⟨T12, h12, X12, e12, W12, st12⟩ := stB X11 hx hZ e11 Ar12 (j := (5 : Int32)) (inb_of Sz12 ⟨by decide, by decide⟩) (g := (mkF m 52 #[oR p0, oI (5 : Int32), oI p2] [(.int ((p2 >>> ((8 : Int32) &&& 31)).toInt8.toInt32)), (.int (5 : Int32)), (.ref p0)])) rfl rfl (hb hby d21_52)
  refine own_via st12 ?_
  have na12 : nar .byte ((p2 >>> ((8 : Int32) &&& 31)).toInt8.toInt32) = ((p2 >>> ((8 : Int32) &&& 31)).toInt8.toInt32) := own_narb _
  rw [na12] at W12
  have S13 := S4.wr W12
  have S14 := S5.wr W12
  have S15 := S6.wr W12
  have Zs16 : n0 ≤ h12.size := Nat.le_trans Zs7 (Keep.of_wr W12).1
  have N17 := Fr.snoc X12 N8 g_p0
  have K18 : Keep h0 h12 [p0] := K9.wr W12 (Or.inl (List.mem_of_getElem? (i := 0) rfl))
  have V19 : Arv Z h12 p0 kb .byte (6 : Int32) [(.int b0_), (.int b1_), (.int b2_), (.int b3_), (.int ((p2 >>> ((0 : Int32) &&& 31)).toInt8.toInt32)), (.int ((p2 >>> ((8 : Int32) &&& 31)).toInt8.toInt32))] (.int (0 : Int32)) := Arv.set Ar12 kc12 Sz12 Nn12 Hs12 Gs12 (fits_nar_byte _) W12 5 (by first | decide | (show 5 < 6; decide)) (by first | decide | (show 5 < 6; decide))
  show own_Go p e below _ (T12.setTop (mkF m 53 #[oR p0, oI (5 : Int32), oI p2] []))
  obtain ⟨fs, hr, hrun, hended, hW, hsame⟩ := X12.leave (v := none) (fun _ => rfl)
  refine ⟨_, _, X12.returnOut hx Bd.returns (hb hby d21_53) hr, hrun, hended, _, _, rfl, ?_, ⟨_, rfl⟩, hW, hsame.mono (by decide) (by decide)⟩
  show QP3_2 Z p0 p2 kb b0_ b1_ b2_ b3_ b4_ b5_ h0 n0 _ T12.heap _
  rw [e12]
  exact ⟨rfl, N17, K18, V19⟩
theorem ef_rmN3 (m : MethodId)  : entryFrame m #[(.int (3 : Int32))] 1 = mkF m 0 #[oI (3 : Int32)] [] := by first | (simp [entryFrame, mkF, argsToLocals, Value.category]; done) | rfl
def QN3 (Z : State)  (h0 : Heap) (n0 : Nat) (v : Option Value) (h : Heap) (L : List Loc) : Prop := v = some (.ref h0.size) ∧ Fr n0 L ∧ Keep h0 h [] ∧ ∃ kb, Arv Z h h0.size kb .byte (6 : Int32) [(.int (0 : Int32)), (.int (0 : Int32)), (.int (0 : Int32)), (.int (0 : Int32)), (.int (0 : Int32)), (.int (0 : Int32))] (.int (0 : Int32))
set_option maxRecDepth 65536 in
set_option maxHeartbeats 40000000 in
theorem rmN3 (l : Launch) (Z : State) (a0 : Array Value) (hw : ∀ d ∈ tables_1, d.before a0 Z = true) (ws : List Jvm.Cond)  (h0 : Heap) (n0 : Nat) (Z0 : n0 ≤ h0.size) :
    MetFree l (⟨"java/lang/StringUTF16", "newBytesFor", "(I)[B"⟩ : MethodName) (head1 (Jvm.Cond.code (⟨"java/lang/StringUTF16", "newBytesFor", "(I)[B"⟩ : MethodName) jdk_52_method_2_code 1 (some (.array .byte)) :: ws) ({ frames := 1, cells := 1, slots := 6, locals := 12 } : Room)) (fun a U => a = #[(.int (3 : Int32))] ∧ Z.Warmed39 U.vm ∧ U.heap = h0) (fun _ _ _ _ _ => True) (fun _ U o U' => ∃ v L, o = .returned v ∧ QN3 Z  h0 n0 v U'.heap L ∧ FrameEnd U o U' L ({ frames := 1, cells := 1, slots := 6, locals := 12 } : Room).cells ({ frames := 1, cells := 1, slots := 6, locals := 12 } : Room).slots) := by
  refine MetFree.of_bodySF (plainFor_of_name pn_20) hisR ?_
  intro p e s m args below meth c s₁ Bd hml0 hP hK
  obtain ⟨rfl, hZ, hh⟩ := hP
  have hx := Bd.exec
  have hby := Bd.bytes
  have hml : c.maxLocals = 1 := hml0
  have hown : s.vm.findClass "java/lang/StringUTF16" = some m.cls := findClass_of_methodNamed Bd.named
  have hnm := (name_of_methodNamed Bd.named Bd.method).1
  have X0 : Stand p l e ({ frames := 1, cells := 1, slots := 6, locals := 12 } : Room) s m #[(.int (3 : Int32))] below meth c s₁ [] 0 0 := Stand.of_body Bd
  have e0 : s₁.heap = h0 := by rw [← hh, Bd.state]; rfl
  have N0 := Fr.nil n0
  refine own_start ?_
  refine own_via (fun t k => castTop (ef_rmN3 m ) k) ?_
  show own_Go p e below _ (s₁.setTop (mkF m 0 #[oI (3 : Int32)] []))
  refine own_via (fun t kz => XS.iloadN X0.here hx rfl (hb hby d19_0) rfl kz) ?_
  show own_Go p e below _ (s₁.setTop (mkF m 1 #[oI (3 : Int32)] [(.int (3 : Int32))]))
  obtain ⟨_, _, ⟨T1, L1, k1, n1⟩, -, X1, ⟨Lc1, hQ1, l1, y1, z1⟩, st1⟩ := Jvm.LawKit.callS X0 hx (y := (⟨"java/lang/StringUTF16", "newBytesLength", "(I)I"⟩ : MethodName)) hown (mvT hZ (own_w hw 85)) (mvT hZ (own_w hw 86)) (mvT hZ (own_w hw 43)) (mvT hZ (own_w hw 87)) (by decide) (backOf (W := 0) (rm20 l Z a0 hw [] (3 : Int32) (6 : Int32) h0 n0 Z0 (by decide) (by decide) (by decide)) hZ (own_w hw 87) (own_w hw 43) (by decide) (by decide)) (g := (mkF m 1 #[oI (3 : Int32)] [(.int (3 : Int32))])) rfl (by rw [hml]; rfl) (argsL := [(.int (3 : Int32))]) (rest := []) (lenOf pd_19_0 rfl) rfl (by show 2 * 0 + _ ≤ _; exact Nat.le_of_eq rfl) (hb hby d19_1) (fun _ _ => ⟨rfl, e0, (by decide : 0 + 0 ≤ _), (by decide : 0 + 0 ≤ _)⟩)
  dsimp only [Pt.U, Pt.locs, Pt.cells, Pt.slots] at X1 l1 y1 z1 st1 hQ1
  subst l1 y1 z1
  obtain ⟨rfl, Nq1, e1⟩ := hQ1
  have N2 := Fr.app N0 Nq1
  refine own_via st1 ?_
  show own_Go p e below _ (T1.setTop (mkF m 4 #[oI (3 : Int32)] [(.int (6 : Int32))]))
  obtain ⟨T3, h3, k3, X3, e3, E3, A3, st3⟩ := newP X1 hx hZ (aty := .byte) (own_w hw 19) e1 (g := (mkF m 4 #[oI (3 : Int32)] [(.int (6 : Int32))])) rfl (hb hby d19_4) rfl (by decide) (cap := 6) (by decide) (by decide) (by decide) (by decide)
  obtain ⟨a3, g3⟩ : ∃ z, z = h0.size := ⟨_, rfl⟩
  rw [← g3] at A3 st3
  refine own_via st3 ?_
  have fr4 : n0 ≤ a3 := Nat.le_trans Z0 (Nat.le_of_eq g3.symm)
  have hf5 : h0.size ≤ a3 := Nat.le_trans (Keep.refl h0 []).1 (Nat.le_of_eq g3.symm)
  have Zs6 : n0 ≤ h3.size := Nat.le_trans Z0 E3.1
  have K7 : Keep h0 h3 [] := (Keep.refl h0 []).ext E3
  have V8 : Arv Z h3 a3 k3 .byte (6 : Int32) [(.int (0 : Int32)), (.int (0 : Int32)), (.int (0 : Int32)), (.int (0 : Int32)), (.int (0 : Int32)), (.int (0 : Int32))] (.int (0 : Int32)) := (Arv.new A3 (by decide)).pad (pad_rep [] (.int (0 : Int32)) 6)
  show own_Go p e below _ (T3.setTop (mkF m 6 #[oI (3 : Int32)] [(.ref a3)]))
  obtain ⟨fs, hr, hrun, hended, hW, hsame⟩ := X3.leave (v := some (.ref a3)) (fun h => by rw [Bd.returns] at h; cases h)
  refine ⟨_, _, retOut X3 hx (i := .areturn) Bd.returns rfl (Or.inr (Or.inr (Or.inr (Or.inr ⟨rfl, rfl, rfl⟩)))) (hb hby d19_6) hr, hrun, hended, _, _, rfl, ?_, ⟨_, rfl⟩, hW, hsame.mono (by decide) (by decide)⟩
  show QN3 Z  h0 n0 _ T3.heap _
  rw [e3]
  exact ⟨by rw [g3], N2, K7, _, by rw [← g3]; exact V8⟩
theorem ef_rmT3 (m : MethodId) (q0 : Addr) : entryFrame m #[(.ref q0), (.int (0 : Int32)), (.int (3 : Int32))] 5 = mkF m 0 #[oR q0, oI (0 : Int32), oI (3 : Int32), .unset, .unset] [] := by first | (simp [entryFrame, mkF, argsToLocals, Value.category]; done) | rfl
def QT3 (Z : State) (p0 : Addr) (kc : ClassId) (c0_ : Int32) (c1_ : Int32) (c2_ : Int32) (wcs : Int32) (wsf : Value) (h0 : Heap) (n0 : Nat) (v : Option Value) (h : Heap) (L : List Loc) : Prop := v = some (.ref h0.size) ∧ Fr n0 L ∧ Keep h0 h [] ∧ ∃ kb, Arv Z h h0.size kb .byte (6 : Int32) [(.int ((c0_ >>> ((0 : Int32) &&& 31)).toInt8.toInt32)), (.int ((c0_ >>> ((8 : Int32) &&& 31)).toInt8.toInt32)), (.int ((c1_ >>> ((0 : Int32) &&& 31)).toInt8.toInt32)), (.int ((c1_ >>> ((8 : Int32) &&& 31)).toInt8.toInt32)), (.int ((c2_ >>> ((0 : Int32) &&& 31)).toInt8.toInt32)), (.int ((c2_ >>> ((8 : Int32) &&& 31)).toInt8.toInt32))] (.int (0 : Int32))
set_option maxRecDepth 65536 in
set_option maxHeartbeats 40000000 in
theorem rmT3 (l : Launch) (Z : State) (a0 : Array Value) (hw : ∀ d ∈ tables_1, d.before a0 Z = true) (ws : List Jvm.Cond) (p0 : Addr) (kc : ClassId) (c0_ : Int32) (c1_ : Int32) (c2_ : Int32) (wcs : Int32) (wsf : Value) (h0 : Heap) (n0 : Nat) (Z0 : n0 ≤ h0.size) (VC : Arv Z h0 p0 kc .char (3 : Int32) [(.int c0_), (.int c1_), (.int c2_)] (.int (0 : Int32))) (OLD : Old Z n0 h0) (hcs : ¬ (wcs = (0 : Int32))) (rsf : wsf.isRef = true) (B_wcs : Sta Z Z.heap "java/lang/String" "COMPACT_STRINGS" "Z" (.int wcs)) (B_wsf : Sta Z Z.heap "jdk/internal/util/Preconditions" "SIOOBE_FORMATTER" "Ljava/util/function/BiFunction;" wsf) (B_wad : Sta Z Z.heap "java/lang/StringUTF16" "$assertionsDisabled" "Z" (.int (1 : Int32))) (B_whi : Sta Z Z.heap "java/lang/StringUTF16" "HI_BYTE_SHIFT" "I" (.int (0 : Int32))) (B_wlo : Sta Z Z.heap "java/lang/StringUTF16" "LO_BYTE_SHIFT" "I" (.int (8 : Int32))) :
    MetFree l (⟨"java/lang/StringUTF16", "toBytes", "([CII)[B"⟩ : MethodName) (head1 (Jvm.Cond.code (⟨"java/lang/StringUTF16", "toBytes", "([CII)[B"⟩ : MethodName) jdk_52_method_14_code 5 (some (.array .byte)) :: ws) ({ frames := 2, cells := 1, slots := 6, locals := 24 } : Room)) (fun a U => a = #[(.ref p0), (.int (0 : Int32)), (.int (3 : Int32))] ∧ Z.Warmed39 U.vm ∧ U.heap = h0) (fun _ _ _ _ _ => True) (fun _ U o U' => ∃ v L, o = .returned v ∧ QT3 Z p0 kc c0_ c1_ c2_ wcs wsf h0 n0 v U'.heap L ∧ FrameEnd U o U' L ({ frames := 2, cells := 1, slots := 6, locals := 24 } : Room).cells ({ frames := 2, cells := 1, slots := 6, locals := 24 } : Room).slots) := by
  refine MetFree.of_bodySF (plainFor_of_name pn_20) hisR ?_
  intro p e s m args below meth c s₁ Bd hml0 hP hK
  obtain ⟨rfl, hZ, hh⟩ := hP
  have hx := Bd.exec
  have hby := Bd.bytes
  have hml : c.maxLocals = 5 := hml0
  have hown : s.vm.findClass "java/lang/StringUTF16" = some m.cls := findClass_of_methodNamed Bd.named
  have hnm := (name_of_methodNamed Bd.named Bd.method).1
  have X0 : Stand p l e ({ frames := 2, cells := 1, slots := 6, locals := 24 } : Room) s m #[(.ref p0), (.int (0 : Int32)), (.int (3 : Int32))] below meth c s₁ [] 0 0 := Stand.of_body Bd
  have e0 : s₁.heap = h0 := by rw [← hh, Bd.state]; rfl
  have N0 := Fr.nil n0
  refine own_start ?_
  refine own_via (fun t k => castTop (ef_rmT3 m p0) k) ?_
  show own_Go p e below _ (s₁.setTop (mkF m 0 #[oR p0, oI (0 : Int32), oI (3 : Int32), .unset, .unset] []))
  refine own_via (fun t kz => XS.iloadN X0.here hx rfl (hb hby d18_0) rfl kz) ?_
  show own_Go p e below _ (s₁.setTop (mkF m 1 #[oR p0, oI (0 : Int32), oI (3 : Int32), .unset, .unset] [(.int (3 : Int32))]))
  obtain ⟨_, _, ⟨T1, L1, k1, n1⟩, -, X1, ⟨Lc1, hQ1, l1, y1, z1⟩, st1⟩ := Jvm.LawKit.callS X0 hx (y := (⟨"java/lang/StringUTF16", "newBytesFor", "(I)[B"⟩ : MethodName)) hown (mvT hZ (own_w hw 82)) (mvT hZ (own_w hw 83)) (mvT hZ (own_w hw 43)) (mvT hZ (own_w hw 84)) (by decide) (backOf (W := 0) (rmN3 l Z a0 hw [] h0 n0 Z0) hZ (own_w hw 84) (own_w hw 43) (by decide) (by decide)) (g := (mkF m 1 #[oR p0, oI (0 : Int32), oI (3 : Int32), .unset, .unset] [(.int (3 : Int32))])) rfl (by rw [hml]; rfl) (argsL := [(.int (3 : Int32))]) (rest := []) (lenOf pd_18_0 rfl) rfl (by show 2 * 0 + _ ≤ _; exact Nat.le_of_eq rfl) (hb hby d18_1) (fun _ _ => ⟨rfl, e0, (by decide : 0 + 1 ≤ _), (by decide : 0 + 6 ≤ _)⟩)
  dsimp only [Pt.U, Pt.locs, Pt.cells, Pt.slots] at X1 l1 y1 z1 st1 hQ1
  subst l1 y1 z1
  obtain ⟨rfl, Nq1, Kc1, kb1, Vc1⟩ := hQ1
  have N2 := Fr.app N0 Nq1
  refine own_via st1 ?_
  obtain ⟨a1, g1⟩ : ∃ z, z = h0.size := ⟨_, rfl⟩
  rw [← g1] at Vc1 ⊢
  have lt3 : p0 < a1 := Nat.lt_of_lt_of_le VC.lt (Nat.le_of_eq g1.symm)
  have fr4 : n0 ≤ a1 := Nat.le_trans Z0 (Nat.le_of_eq g1.symm)
  have hf5 : h0.size ≤ a1 := Nat.le_trans (Keep.refl h0 []).1 (Nat.le_of_eq g1.symm)
  have O6 : Old Z n0 T1.heap := OLD.keep Kc1 all0
  have V7 := VC.keep Kc1 nin0
  have Zs8 : n0 ≤ T1.heap.size := Nat.le_trans Z0 Kc1.1
  have K9 : Keep h0 T1.heap [] := (Keep.refl h0 []).trans Kc1 all0
  refine own_via (fun t kz => XS.astoreN X1.here hx rfl (hb hby d18_4) rfl rfl (l' := #[oR p0, oI (0 : Int32), oI (3 : Int32), oR a1, .unset]) rfl kz) ?_
  refine own_via (fun t kz => XS.iconst X1.here hx rfl (hb hby d18_5) kz) ?_
  refine own_via (fun t kz => XS.istore X1.here hx rfl (hb hby d18_6) rfl (l' := #[oR p0, oI (0 : Int32), oI (3 : Int32), oR a1, oI (0 : Int32)]) rfl kz) ?_
  refine own_via (fun t kz => XS.iload X1.here hx rfl (hb hby d18_8) rfl kz) ?_
  refine own_via (fun t kz => XS.iloadN X1.here hx rfl (hb hby d18_10) rfl kz) ?_
  show own_Go p e below _ (T1.setTop (mkF m 11 #[oR p0, oI (0 : Int32), oI (3 : Int32), oR a1, oI (0 : Int32)] [(.int (3 : Int32)), (.int (0 : Int32))]))
  refine own_via (fun t kz => XS.icmpNo X1.here hx rfl (hb hby d18_11) rfl (tlt (by decide : (0 : Int32) < (3 : Int32))).2.1 kz) ?_
  refine own_via (fun t kz => XS.aloadN X1.here hx rfl (hb hby d18_14) rfl rfl kz) ?_
  refine own_via (fun t kz => XS.iload X1.here hx rfl (hb hby d18_15) rfl kz) ?_
  refine own_via (fun t kz => XS.aloadN X1.here hx rfl (hb hby d18_17) rfl rfl kz) ?_
  refine own_via (fun t kz => XS.iloadN X1.here hx rfl (hb hby d18_18) rfl kz) ?_
  show own_Go p e below _ (T1.setTop (mkF m 19 #[oR p0, oI (0 : Int32), oI (3 : Int32), oR a1, oI (0 : Int32)] [(.int (0 : Int32)), (.ref p0), (.int (0 : Int32)), (.ref a1)]))
  obtain ⟨cl10, Ar10, kc10, Sz10, Nn10, Hs10, Gs10⟩ := id V7
  have in10 := inb_of (j := (0 : Int32)) Sz10 ⟨by decide, by decide⟩
  have at10 : cl10.slots[((0 : Int32)).toNatClampNeg]? = some (.int c0_) := Hs10.at in10 rfl
  refine own_via (fun t kz => X1.caload hx (j := (0 : Int32)) (v := (.int c0_)) Ar10.1 (State.isArrayOf_alike hZ.alike Ar10.2.1) Ar10.2.2 in10 at10 (g := (mkF m 19 #[oR p0, oI (0 : Int32), oI (3 : Int32), oR a1, oI (0 : Int32)] [(.int (0 : Int32)), (.ref p0), (.int (0 : Int32)), (.ref a1)])) rfl rfl (hb hby d18_19) t kz) ?_
  show own_Go p e below _ (T1.setTop (mkF m 20 #[oR p0, oI (0 : Int32), oI (3 : Int32), oR a1, oI (0 : Int32)] [(.int c0_), (.int (0 : Int32)), (.ref a1)]))
  obtain ⟨_, _, ⟨T11, L11, k11, n11⟩, -, X11, ⟨Lc11, hQ11, l11, y11, z11⟩, st11⟩ := Jvm.LawKit.callS X1 hx (y := (⟨"java/lang/StringUTF16", "putChar", "([BII)V"⟩ : MethodName)) hown (mvT hZ (own_w hw 89)) (mvT hZ (own_w hw 90)) (mvT hZ (own_w hw 43)) (mvT hZ (own_w hw 91)) (by decide) (backOf (W := 0) (rmP3_0 l Z a0 hw [] a1 c0_ kb1 (0 : Int32) (0 : Int32) (0 : Int32) (0 : Int32) (0 : Int32) (0 : Int32) T1.heap n0 Zs8 fr4 Vc1 (B_wad.ext O6.2) (B_whi.ext O6.2) (B_wlo.ext O6.2)) hZ (own_w hw 91) (own_w hw 43) (by decide) (by decide)) (g := (mkF m 20 #[oR p0, oI (0 : Int32), oI (3 : Int32), oR a1, oI (0 : Int32)] [(.int c0_), (.int (0 : Int32)), (.ref a1)])) rfl (by rw [hml]; rfl) (argsL := [(.ref a1), (.int (0 : Int32)), (.int c0_)]) (rest := []) (lenOf pd_18_1 rfl) rfl (by show 2 * 0 + _ ≤ _; exact Nat.le_of_eq rfl) (hb hby d18_20) (fun _ _ => ⟨rfl, rfl, (by decide : 1 + 0 ≤ _), (by decide : 6 + 0 ≤ _)⟩)
  dsimp only [Pt.U, Pt.locs, Pt.cells, Pt.slots] at X11 l11 y11 z11 st11 hQ11
  subst l11 y11 z11
  obtain ⟨rfl, Nq11, Kc11, Vc11⟩ := hQ11
  have N12 := Fr.app N2 Nq11
  refine own_via st11 ?_
  have O13 : Old Z n0 T11.heap := O6.keep Kc11 (allS fr4 all0)
  have V14 := V7.keep Kc11 (ninS (Nat.ne_of_lt lt3) nin0)
  have Zs15 : n0 ≤ T11.heap.size := Nat.le_trans Zs8 Kc11.1
  have K16 : Keep h0 T11.heap [] := K9.trans Kc11 (allS (Or.inr hf5) all0)
  show own_Go p e below _ (T11.setTop (mkF m 23 #[oR p0, oI (0 : Int32), oI (3 : Int32), oR a1, oI (0 : Int32)] []))
  refine own_via (fun t kz => XS.iinc X11.here hx rfl (hb hby d18_23) rfl (l' := #[oR p0, oI (1 : Int32), oI (3 : Int32), oR a1, oI (0 : Int32)]) rfl kz) ?_
  show own_Go p e below _ (T11.setTop (mkF m 26 #[oR p0, oI (1 : Int32), oI (3 : Int32), oR a1, oI (0 : Int32)] []))
  refine own_via (fun t kz => XS.iinc X11.here hx rfl (hb hby d18_26) rfl (l' := #[oR p0, oI (1 : Int32), oI (3 : Int32), oR a1, oI (1 : Int32)]) rfl kz) ?_
  refine own_via (fun t kz => XS.goto X11.here hx rfl (pc0 := 29) (pc' := 8) rfl (hb hby d18_29) (by decide) (by decide) kz) ?_
  refine own_via (fun t kz => XS.iload X11.here hx rfl (hb hby d18_8) rfl kz) ?_
  refine own_via (fun t kz => XS.iloadN X11.here hx rfl (hb hby d18_10) rfl kz) ?_
  show own_Go p e below _ (T11.setTop (mkF m 11 #[oR p0, oI (1 : Int32), oI (3 : Int32), oR a1, oI (1 : Int32)] [(.int (3 : Int32)), (.int (1 : Int32))]))
  refine own_via (fun t kz => XS.icmpNo X11.here hx rfl (hb hby d18_11) rfl (tlt (by decide : (1 : Int32) < (3 : Int32))).2.1 kz) ?_
  refine own_via (fun t kz => XS.aloadN X11.here hx rfl (hb hby d18_14) rfl rfl kz) ?_
  refine own_via (fun t kz => XS.iload X11.here hx rfl (hb hby d18_15) rfl kz) ?_
  refine own_via (fun t kz => XS.aloadN X11.here hx rfl (hb hby d18_17) rfl rfl kz) ?_
  refine own_via (fun t kz => XS.iloadN X11.here hx rfl (hb hby d18_18) rfl kz) ?_
  show own_Go p e below _ (T11.setTop (mkF m 19 #[oR p0, oI (1 : Int32), oI (3 : Int32), oR a1, oI (1 : Int32)] [(.int (1 : Int32)), (.ref p0), (.int (1 : Int32)), (.ref a1)]))
  obtain ⟨cl17, Ar17, kc17, Sz17, Nn17, Hs17, Gs17⟩ := id V14
  have in17 := inb_of (j := (1 : Int32)) Sz17 ⟨by decide, by decide⟩
  have at17 : cl17.slots[((1 : Int32)).toNatClampNeg]? = some (.int c1_) := Hs17.at in17 rfl
  refine own_via (fun t kz => X11.caload hx (j := (1 : Int32)) (v := (.int c1_)) Ar17.1 (State.isArrayOf_alike hZ.alike Ar17.2.1) Ar17.2.2 in17 at17 (g := (mkF m 19 #[oR p0, oI (1 : Int32), oI (3 : Int32), oR a1, oI (1 : Int32)] [(.int (1 : Int32)), (.ref p0), (.int (1 : Int32)), (.ref a1)])) rfl rfl (hb hby d18_19) t kz) ?_
  show own_Go p e below _ (T11.setTop (mkF m 20 #[oR p0, oI (1 : Int32), oI (3 : Int32), oR a1, oI (1 : Int32)] [(.int c1_), (.int (1 : Int32)), (.ref a1)]))
  obtain ⟨_, _, ⟨T18, L18, k18, n18⟩, -, X18, ⟨Lc18, hQ18, l18, y18, z18⟩, st18⟩ := Jvm.LawKit.callS X11 hx (y := (⟨"java/lang/StringUTF16", "putChar", "([BII)V"⟩ : MethodName)) hown (mvT hZ (own_w hw 89)) (mvT hZ (own_w hw 90)) (mvT hZ (own_w hw 43)) (mvT hZ (own_w hw 91)) (by decide) (backOf (W := 0) (rmP3_1 l Z a0 hw [] a1 c1_ kb1 ((c0_ >>> ((0 : Int32) &&& 31)).toInt8.toInt32) ((c0_ >>> ((8 : Int32) &&& 31)).toInt8.toInt32) (0 : Int32) (0 : Int32) (0 : Int32) (0 : Int32) T11.heap n0 Zs15 fr4 Vc11 (B_wad.ext O13.2) (B_whi.ext O13.2) (B_wlo.ext O13.2)) hZ (own_w hw 91) (own_w hw 43) (by decide) (by decide)) (g := (mkF m 20 #[oR p0, oI (1 : Int32), oI (3 : Int32), oR a1, oI (1 : Int32)] [(.int c1_), (.int (1 : Int32)), (.ref a1)])) rfl (by rw [hml]; rfl) (argsL := [(.ref a1), (.int (1 : Int32)), (.int c1_)]) (rest := []) (lenOf pd_18_1 rfl) rfl (by show 2 * 0 + _ ≤ _; exact Nat.le_of_eq rfl) (hb hby d18_20) (fun _ _ => ⟨rfl, rfl, (by decide : 1 + 0 ≤ _), (by decide : 6 + 0 ≤ _)⟩)
  dsimp only [Pt.U, Pt.locs, Pt.cells, Pt.slots] at X18 l18 y18 z18 st18 hQ18
  subst l18 y18 z18
  obtain ⟨rfl, Nq18, Kc18, Vc18⟩ := hQ18
  have N19 := Fr.app N12 Nq18
  refine own_via st18 ?_
  have O20 : Old Z n0 T18.heap := O13.keep Kc18 (allS fr4 all0)
  have V21 := V14.keep Kc18 (ninS (Nat.ne_of_lt lt3) nin0)
  have Zs22 : n0 ≤ T18.heap.size := Nat.le_trans Zs15 Kc18.1
  have K23 : Keep h0 T18.heap [] := K16.trans Kc18 (allS (Or.inr hf5) all0)
  show own_Go p e below _ (T18.setTop (mkF m 23 #[oR p0, oI (1 : Int32), oI (3 : Int32), oR a1, oI (1 : Int32)] []))
  refine own_via (fun t kz => XS.iinc X18.here hx rfl (hb hby d18_23) rfl (l' := #[oR p0, oI (2 : Int32), oI (3 : Int32), oR a1, oI (1 : Int32)]) rfl kz) ?_
  show own_Go p e below _ (T18.setTop (mkF m 26 #[oR p0, oI (2 : Int32), oI (3 : Int32), oR a1, oI (1 : Int32)] []))
  refine own_via (fun t kz => XS.iinc X18.here hx rfl (hb hby d18_26) rfl (l' := #[oR p0, oI (2 : Int32), oI (3 : Int32), oR a1, oI (2 : Int32)]) rfl kz) ?_
  refine own_via (fun t kz => XS.goto X18.here hx rfl (pc0 := 29) (pc' := 8) rfl (hb hby d18_29) (by decide) (by decide) kz) ?_
  refine own_via (fun t kz => XS.iload X18.here hx rfl (hb hby d18_8) rfl kz) ?_
  refine own_via (fun t kz => XS.iloadN X18.here hx rfl (hb hby d18_10) rfl kz) ?_
  show own_Go p e below _ (T18.setTop (mkF m 11 #[oR p0, oI (2 : Int32), oI (3 : Int32), oR a1, oI (2 : Int32)] [(.int (3 : Int32)), (.int (2 : Int32))]))
  refine own_via (fun t kz => XS.icmpNo X18.here hx rfl (hb hby d18_11) rfl (tlt (by decide : (2 : Int32) < (3 : Int32))).2.1 kz) ?_
  refine own_via (fun t kz => XS.aloadN X18.here hx rfl (hb hby d18_14) rfl rfl kz) ?_
  refine own_via (fun t kz => XS.iload X18.here hx rfl (hb hby d18_15) rfl kz) ?_
  refine own_via (fun t kz => XS.aloadN X18.here hx rfl (hb hby d18_17) rfl rfl kz) ?_
  refine own_via (fun t kz => XS.iloadN X18.here hx rfl (hb hby d18_18) rfl kz) ?_
  show own_Go p e below _ (T18.setTop (mkF m 19 #[oR p0, oI (2 : Int32), oI (3 : Int32), oR a1, oI (2 : Int32)] [(.int (2 : Int32)), (.ref p0), (.int (2 : Int32)), (.ref a1)]))
  obtain ⟨cl24, Ar24, kc24, Sz24, Nn24, Hs24, Gs24⟩ := id V21
  have in24 := inb_of (j := (2 : Int32)) Sz24 ⟨by decide, by decide⟩
  have at24 : cl24.slots[((2 : Int32)).toNatClampNeg]? = some (.int c2_) := Hs24.at in24 rfl
  refine own_via (fun t kz => X18.caload hx (j := (2 : Int32)) (v := (.int c2_)) Ar24.1 (State.isArrayOf_alike hZ.alike Ar24.2.1) Ar24.2.2 in24 at24 (g := (mkF m 19 #[oR p0, oI (2 : Int32), oI (3 : Int32), oR a1, oI (2 : Int32)] [(.int (2 : Int32)), (.ref p0), (.int (2 : Int32)), (.ref a1)])) rfl rfl (hb hby d18_19) t kz) ?_
  show own_Go p e below _ (T18.setTop (mkF m 20 #[oR p0, oI (2 : Int32), oI (3 : Int32), oR a1, oI (2 : Int32)] [(.int c2_), (.int (2 : Int32)), (.ref a1)]))
  obtain ⟨_, _, ⟨T25, L25, k25, n25⟩, -, X25, ⟨Lc25, hQ25, l25, y25, z25⟩, st25⟩ := Jvm.LawKit.callS X18 hx (y := (⟨"java/lang/StringUTF16", "putChar", "([BII)V"⟩ : MethodName)) hown (mvT hZ (own_w hw 89)) (mvT hZ (own_w hw 90)) (mvT hZ (own_w hw 43)) (mvT hZ (own_w hw 91)) (by decide) (backOf (W := 0) (rmP3_2 l Z a0 hw [] a1 c2_ kb1 ((c0_ >>> ((0 : Int32) &&& 31)).toInt8.toInt32) ((c0_ >>> ((8 : Int32) &&& 31)).toInt8.toInt32) ((c1_ >>> ((0 : Int32) &&& 31)).toInt8.toInt32) ((c1_ >>> ((8 : Int32) &&& 31)).toInt8.toInt32) (0 : Int32) (0 : Int32) T18.heap n0 Zs22 fr4 Vc18 (B_wad.ext O20.2) (B_whi.ext O20.2) (B_wlo.ext O20.2)) hZ (own_w hw 91) (own_w hw 43) (by decide) (by decide)) (g := (mkF m 20 #[oR p0, oI (2 : Int32), oI (3 : Int32), oR a1, oI (2 : Int32)] [(.int c2_), (.int (2 : Int32)), (.ref a1)])) rfl (by rw [hml]; rfl) (argsL := [(.ref a1), (.int (2 : Int32)), (.int c2_)]) (rest := []) (lenOf pd_18_1 rfl) rfl (by show 2 * 0 + _ ≤ _; exact Nat.le_of_eq rfl) (hb hby d18_20) (fun _ _ => ⟨rfl, rfl, (by decide : 1 + 0 ≤ _), (by decide : 6 + 0 ≤ _)⟩)
  dsimp only [Pt.U, Pt.locs, Pt.cells, Pt.slots] at X25 l25 y25 z25 st25 hQ25
  subst l25 y25 z25
  obtain ⟨rfl, Nq25, Kc25, Vc25⟩ := hQ25
  have N26 := Fr.app N19 Nq25
  refine own_via st25 ?_
  have O27 : Old Z n0 T25.heap := O20.keep Kc25 (allS fr4 all0)
  have V28 := V21.keep Kc25 (ninS (Nat.ne_of_lt lt3) nin0)
  have Zs29 : n0 ≤ T25.heap.size := Nat.le_trans Zs22 Kc25.1
  have K30 : Keep h0 T25.heap [] := K23.trans Kc25 (allS (Or.inr hf5) all0)
  show own_Go p e below _ (T25.setTop (mkF m 23 #[oR p0, oI (2 : Int32), oI (3 : Int32), oR a1, oI (2 : Int32)] []))
  refine own_via (fun t kz => XS.iinc X25.here hx rfl (hb hby d18_23) rfl (l' := #[oR p0, oI (3 : Int32), oI (3 : Int32), oR a1, oI (2 : Int32)]) rfl kz) ?_
  show own_Go p e below _ (T25.setTop (mkF m 26 #[oR p0, oI (3 : Int32), oI (3 : Int32), oR a1, oI (2 : Int32)] []))
  refine own_via (fun t kz => XS.iinc X25.here hx rfl (hb hby d18_26) rfl (l' := #[oR p0, oI (3 : Int32), oI (3 : Int32), oR a1, oI (3 : Int32)]) rfl kz) ?_
  refine own_via (fun t kz => XS.goto X25.here hx rfl (pc0 := 29) (pc' := 8) rfl (hb hby d18_29) (by decide) (by decide) kz) ?_
  refine own_via (fun t kz => XS.iload X25.here hx rfl (hb hby d18_8) rfl kz) ?_
  refine own_via (fun t kz => XS.iloadN X25.here hx rfl (hb hby d18_10) rfl kz) ?_
  show own_Go p e below _ (T25.setTop (mkF m 11 #[oR p0, oI (3 : Int32), oI (3 : Int32), oR a1, oI (3 : Int32)] [(.int (3 : Int32)), (.int (3 : Int32))]))
  refine own_via (fun t kz => XS.icmpYes X25.here hx rfl (pc0 := 11) (pc' := 32) rfl (hb hby d18_11) rfl (flt (by decide : ¬ ((3 : Int32) < (3 : Int32)))).2.1 (by decide) (by decide) kz) ?_
  refine own_via (fun t kz => XS.aloadN X25.here hx rfl (hb hby d18_32) rfl rfl kz) ?_
  show own_Go p e below _ (T25.setTop (mkF m 33 #[oR p0, oI (3 : Int32), oI (3 : Int32), oR a1, oI (3 : Int32)] [(.ref a1)]))
  obtain ⟨fs, hr, hrun, hended, hW, hsame⟩ := X25.leave (v := some (.ref a1)) (fun h => by rw [Bd.returns] at h; cases h)
  refine ⟨_, _, retOut X25 hx (i := .areturn) Bd.returns rfl (Or.inr (Or.inr (Or.inr (Or.inr ⟨rfl, rfl, rfl⟩)))) (hb hby d18_33) hr, hrun, hended, _, _, rfl, ?_, ⟨_, rfl⟩, hW, hsame.mono (by decide) (by decide)⟩
  show QT3 Z p0 kc c0_ c1_ c2_ wcs wsf h0 n0 _ T25.heap _
  exact ⟨by rw [g1], N26, K30, _, by rw [← g1]; exact Vc25⟩
def fG3_0 (whi : Int32) (wlo : Int32) (b0_ : Int32) (b1_ : Int32) : Int32 := ((((b0_ &&& (255 : Int32)) <<< (whi &&& 31)) ||| ((b1_ &&& (255 : Int32)) <<< (wlo &&& 31))).toUInt32.toUInt16.toUInt32.toInt32)
theorem ef_rmG3_0 (m : MethodId) (q0 : Addr) : entryFrame m #[(.ref q0), (.int (0 : Int32))] 2 = mkF m 0 #[oR q0, oI (0 : Int32)] [] := by first | (simp [entryFrame, mkF, argsToLocals, Value.category]; done) | rfl
def QG3_0 (Z : State) (p0 : Addr) (wad : Int32) (whi : Int32) (wlo : Int32) (ka : ClassId) (b0_ : Int32) (b1_ : Int32) (b2_ : Int32) (b3_ : Int32) (b4_ : Int32) (b5_ : Int32) (r : Int32) (h0 : Heap) (n0 : Nat) (v : Option Value) (h : Heap) (L : List Loc) : Prop := v = some (.int r) ∧ Fr n0 L ∧ h = h0
set_option maxRecDepth 65536 in
set_option maxHeartbeats 40000000 in
theorem rmG3_0 (l : Launch) (Z : State) (a0 : Array Value) (hw : ∀ d ∈ tables_1, d.before a0 Z = true) (ws : List Jvm.Cond) (p0 : Addr) (wad : Int32) (whi : Int32) (wlo : Int32) (ka : ClassId) (b0_ : Int32) (b1_ : Int32) (b2_ : Int32) (b3_ : Int32) (b4_ : Int32) (b5_ : Int32) (r : Int32) (h0 : Heap) (n0 : Nat) (Z0 : n0 ≤ h0.size) (hwad : wad = (1 : Int32)) (S_wad : Sta Z h0 "java/lang/StringUTF16" "$assertionsDisabled" "Z" (.int wad)) (S_whi : Sta Z h0 "java/lang/StringUTF16" "HI_BYTE_SHIFT" "I" (.int whi)) (S_wlo : Sta Z h0 "java/lang/StringUTF16" "LO_BYTE_SHIFT" "I" (.int wlo)) (V_p0 : Arv Z h0 p0 ka .byte (6 : Int32) [(.int b0_), (.int b1_), (.int b2_), (.int b3_), (.int b4_), (.int b5_)] (.int (0 : Int32))) (hr0 : (fG3_0 whi wlo b0_ b1_) = r) :
    MetFree l (⟨"java/lang/StringUTF16", "getChar", "([BI)C"⟩ : MethodName) (head1 (Jvm.Cond.code (⟨"java/lang/StringUTF16", "getChar", "([BI)C"⟩ : MethodName) jdk_52_method_5_code 2 (some .char) :: ws) ({ frames := 0, cells := 0, slots := 0, locals := 0 } : Room)) (fun a U => a = #[(.ref p0), (.int (0 : Int32))] ∧ Z.Warmed39 U.vm ∧ U.heap = h0) (fun _ _ _ _ _ => True) (fun _ U o U' => ∃ v L, o = .returned v ∧ QG3_0 Z p0 wad whi wlo ka b0_ b1_ b2_ b3_ b4_ b5_ r h0 n0 v U'.heap L ∧ FrameEnd U o U' L ({ frames := 0, cells := 0, slots := 0, locals := 0 } : Room).cells ({ frames := 0, cells := 0, slots := 0, locals := 0 } : Room).slots) := by
  refine MetFree.of_bodySF (plainFor_of_name pn_20) hisR ?_
  intro p e s m args below meth c s₁ Bd hml0 hP hK
  obtain ⟨rfl, hZ, hh⟩ := hP
  have hx := Bd.exec
  have hby := Bd.bytes
  have hml : c.maxLocals = 2 := hml0
  have hown : s.vm.findClass "java/lang/StringUTF16" = some m.cls := findClass_of_methodNamed Bd.named
  have hnm := (name_of_methodNamed Bd.named Bd.method).1
  have X0 : Stand p l e ({ frames := 0, cells := 0, slots := 0, locals := 0 } : Room) s m #[(.ref p0), (.int (0 : Int32))] below meth c s₁ [] 0 0 := Stand.of_body Bd
  have e0 : s₁.heap = h0 := by rw [← hh, Bd.state]; rfl
  have N0 := Fr.nil n0
  refine own_start ?_
  refine own_via (fun t k => castTop (ef_rmG3_0 m p0) k) ?_
  show own_Go p e below _ (s₁.setTop (mkF m 0 #[oR p0, oI (0 : Int32)] []))
  obtain ⟨T1, X1, e1, st1⟩ := getS2 X0 hx hZ hown (host := "") (Or.inl (own_w hw 92)) Via.refl e0 S_wad (g := (mkF m 0 #[oR p0, oI (0 : Int32)] [])) rfl (hb hby d22_0)
  refine own_via st1 ?_
  show own_Go p e below _ (T1.setTop (mkF m 3 #[oR p0, oI (0 : Int32)] [(.int wad)]))
  refine own_via (fun t kz => XS.ifYes X1.here hx rfl (pc0 := 3) (pc' := 28) rfl (hb hby d22_3) rfl ((if0 _ _).trans (feq (by rw [hwad]; decide : ¬ wad = (0 : Int32))).2) (by decide) (by decide) kz) ?_
  refine own_via (fun t kz => XS.iloadN X1.here hx rfl (hb hby d22_28) rfl kz) ?_
  refine own_via (fun t kz => XS.iconst X1.here hx rfl (hb hby d22_29) kz) ?_
  show own_Go p e below _ (T1.setTop (mkF m 30 #[oR p0, oI (0 : Int32)] [(.int (1 : Int32)), (.int (0 : Int32))]))
  refine own_via (fun t kz => XS.ishl X1.here hx rfl (hb hby d22_30) rfl kz) ?_
  refine own_via (fun t kz => XS.istoreN X1.here hx rfl (hb hby d22_31) rfl (l' := #[oR p0, oI (0 : Int32)]) rfl kz) ?_
  refine own_via (fun t kz => XS.aloadN X1.here hx rfl (hb hby d22_32) rfl rfl kz) ?_
  refine own_via (fun t kz => XS.iloadN X1.here hx rfl (hb hby d22_33) rfl kz) ?_
  show own_Go p e below _ (T1.setTop (mkF m 34 #[oR p0, oI (0 : Int32)] [(.int (0 : Int32)), (.ref p0)]))
  refine own_via (fun t kz => XS.iinc X1.here hx rfl (hb hby d22_34) rfl (l' := #[oR p0, oI (1 : Int32)]) rfl kz) ?_
  show own_Go p e below _ (T1.setTop (mkF m 37 #[oR p0, oI (1 : Int32)] [(.int (0 : Int32)), (.ref p0)]))
  obtain ⟨cl2, Ar2, kc2, Sz2, Nn2, Hs2, Gs2⟩ := id V_p0
  have in2 := inb_of (j := (0 : Int32)) Sz2 ⟨by decide, by decide⟩
  have at2 : cl2.slots[((0 : Int32)).toNatClampNeg]? = some (.int b0_) := Hs2.at in2 rfl
  refine own_via (fun t kz => X1.baloadBytes hx (j := (0 : Int32)) (v := (.int b0_)) (by rw [e1]; exact Ar2.1) (State.isArrayOf_alike hZ.alike Ar2.2.1) Ar2.2.2 in2 at2 (g := (mkF m 37 #[oR p0, oI (1 : Int32)] [(.int (0 : Int32)), (.ref p0)])) rfl rfl (hb hby d22_37) t kz) ?_
  refine own_via (fun t kz => XS.sipush X1.here hx rfl (hb hby d22_38) kz) ?_
  refine own_via (fun t kz => XS.iand X1.here hx rfl (hb hby d22_41) rfl kz) ?_
  show own_Go p e below _ (T1.setTop (mkF m 42 #[oR p0, oI (1 : Int32)] [(.int (b0_ &&& (255 : Int32)))]))
  obtain ⟨T3, X3, e3, st3⟩ := getS2 X1 hx hZ hown (host := "") (Or.inl (own_w hw 93)) Via.refl e1 S_whi (g := (mkF m 42 #[oR p0, oI (1 : Int32)] [(.int (b0_ &&& (255 : Int32)))])) rfl (hb hby d22_42)
  refine own_via st3 ?_
  show own_Go p e below _ (T3.setTop (mkF m 45 #[oR p0, oI (1 : Int32)] [(.int whi), (.int (b0_ &&& (255 : Int32)))]))
  refine own_via (fun t kz => XS.ishl X3.here hx rfl (hb hby d22_45) rfl kz) ?_
  refine own_via (fun t kz => XS.aloadN X3.here hx rfl (hb hby d22_46) rfl rfl kz) ?_
  refine own_via (fun t kz => XS.iloadN X3.here hx rfl (hb hby d22_47) rfl kz) ?_
  show own_Go p e below _ (T3.setTop (mkF m 48 #[oR p0, oI (1 : Int32)] [(.int (1 : Int32)), (.ref p0), (.int ((b0_ &&& (255 : Int32)) <<< (whi &&& 31)))]))
  obtain ⟨cl4, Ar4, kc4, Sz4, Nn4, Hs4, Gs4⟩ := id V_p0
  have in4 := inb_of (j := (1 : Int32)) Sz4 ⟨by decide, by decide⟩
  have at4 : cl4.slots[((1 : Int32)).toNatClampNeg]? = some (.int b1_) := Hs4.at in4 rfl
  refine own_via (fun t kz => X3.baloadBytes hx (j := (1 : Int32)) (v := (.int b1_)) (by rw [e3]; exact Ar4.1) (State.isArrayOf_alike hZ.alike Ar4.2.1) Ar4.2.2 in4 at4 (g := (mkF m 48 #[oR p0, oI (1 : Int32)] [(.int (1 : Int32)), (.ref p0), (.int ((b0_ &&& (255 : Int32)) <<< (whi &&& 31)))])) rfl rfl (hb hby d22_48) t kz) ?_
  refine own_via (fun t kz => XS.sipush X3.here hx rfl (hb hby d22_49) kz) ?_
  refine own_via (fun t kz => XS.iand X3.here hx rfl (hb hby d22_52) rfl kz) ?_
  show own_Go p e below _ (T3.setTop (mkF m 53 #[oR p0, oI (1 : Int32)] [(.int (b1_ &&& (255 : Int32))), (.int ((b0_ &&& (255 : Int32)) <<< (whi &&& 31)))]))
  obtain ⟨T5, X5, e5, st5⟩ := getS2 X3 hx hZ hown (host := "") (Or.inl (own_w hw 94)) Via.refl e3 S_wlo (g := (mkF m 53 #[oR p0, oI (1 : Int32)] [(.int (b1_ &&& (255 : Int32))), (.int ((b0_ &&& (255 : Int32)) <<< (whi &&& 31)))])) rfl (hb hby d22_53)
  refine own_via st5 ?_
  show own_Go p e below _ (T5.setTop (mkF m 56 #[oR p0, oI (1 : Int32)] [(.int wlo), (.int (b1_ &&& (255 : Int32))), (.int ((b0_ &&& (255 : Int32)) <<< (whi &&& 31)))]))
  refine own_via (fun t kz => XS.ishl X5.here hx rfl (hb hby d22_56) rfl kz) ?_
  show own_Go p e below _ (T5.setTop (mkF m 57 #[oR p0, oI (1 : Int32)] [(.int ((b1_ &&& (255 : Int32)) <<< (wlo &&& 31))), (.int ((b0_ &&& (255 : Int32)) <<< (whi &&& 31)))]))
  refine own_via (fun t kz => XS.ior X5.here hx rfl (hb hby d22_57) rfl kz) ?_
  show own_Go p e below _ (T5.setTop (mkF m 58 #[oR p0, oI (1 : Int32)] [(.int (((b0_ &&& (255 : Int32)) <<< (whi &&& 31)) ||| ((b1_ &&& (255 : Int32)) <<< (wlo &&& 31))))]))
  refine own_via (fun t kz => XS.i2c X5.here hx rfl (hb hby d22_58) rfl kz) ?_
  show own_Go p e below _ (T5.setTop (mkF m 59 #[oR p0, oI (1 : Int32)] [(.int ((((b0_ &&& (255 : Int32)) <<< (whi &&& 31)) ||| ((b1_ &&& (255 : Int32)) <<< (wlo &&& 31))).toUInt32.toUInt16.toUInt32.toInt32))]))
  have hv : (fG3_0 whi wlo b0_ b1_) = ((((b0_ &&& (255 : Int32)) <<< (whi &&& 31)) ||| ((b1_ &&& (255 : Int32)) <<< (wlo &&& 31))).toUInt32.toUInt16.toUInt32.toInt32) := by unfold fG3_0; rfl
  obtain ⟨fs, hr, hrun, hended, hW, hsame⟩ := X5.leave (v := some (.int ((((b0_ &&& (255 : Int32)) <<< (whi &&& 31)) ||| ((b1_ &&& (255 : Int32)) <<< (wlo &&& 31))).toUInt32.toUInt16.toUInt32.toInt32))) (fun h => by rw [Bd.returns] at h; cases h)
  refine ⟨_, _, retOut X5 hx (i := .ireturn) Bd.returns (narrow_c _) (Or.inl ⟨rfl, by simp, _, rfl⟩) (hb hby d22_59) hr, hrun, hended, _, _, rfl, ?_, ⟨_, rfl⟩, hW, hsame.mono (by decide) (by decide)⟩
  show QG3_0 Z p0 wad whi wlo ka b0_ b1_ b2_ b3_ b4_ b5_ r h0 n0 _ T5.heap _
  rw [e5]
  exact ⟨by rw [← hr0, hv], N0, rfl⟩
def fG3_1 (whi : Int32) (wlo : Int32) (b2_ : Int32) (b3_ : Int32) : Int32 := ((((b2_ &&& (255 : Int32)) <<< (whi &&& 31)) ||| ((b3_ &&& (255 : Int32)) <<< (wlo &&& 31))).toUInt32.toUInt16.toUInt32.toInt32)
theorem ef_rmG3_1 (m : MethodId) (q0 : Addr) : entryFrame m #[(.ref q0), (.int (1 : Int32))] 2 = mkF m 0 #[oR q0, oI (1 : Int32)] [] := by first | (simp [entryFrame, mkF, argsToLocals, Value.category]; done) | rfl
def QG3_1 (Z : State) (p0 : Addr) (wad : Int32) (whi : Int32) (wlo : Int32) (ka : ClassId) (b0_ : Int32) (b1_ : Int32) (b2_ : Int32) (b3_ : Int32) (b4_ : Int32) (b5_ : Int32) (r : Int32) (h0 : Heap) (n0 : Nat) (v : Option Value) (h : Heap) (L : List Loc) : Prop := v = some (.int r) ∧ Fr n0 L ∧ h = h0
set_option maxRecDepth 65536 in
set_option maxHeartbeats 40000000 in
theorem rmG3_1 (l : Launch) (Z : State) (a0 : Array Value) (hw : ∀ d ∈ tables_1, d.before a0 Z = true) (ws : List Jvm.Cond) (p0 : Addr) (wad : Int32) (whi : Int32) (wlo : Int32) (ka : ClassId) (b0_ : Int32) (b1_ : Int32) (b2_ : Int32) (b3_ : Int32) (b4_ : Int32) (b5_ : Int32) (r : Int32) (h0 : Heap) (n0 : Nat) (Z0 : n0 ≤ h0.size) (hwad : wad = (1 : Int32)) (S_wad : Sta Z h0 "java/lang/StringUTF16" "$assertionsDisabled" "Z" (.int wad)) (S_whi : Sta Z h0 "java/lang/StringUTF16" "HI_BYTE_SHIFT" "I" (.int whi)) (S_wlo : Sta Z h0 "java/lang/StringUTF16" "LO_BYTE_SHIFT" "I" (.int wlo)) (V_p0 : Arv Z h0 p0 ka .byte (6 : Int32) [(.int b0_), (.int b1_), (.int b2_), (.int b3_), (.int b4_), (.int b5_)] (.int (0 : Int32))) (hr0 : (fG3_1 whi wlo b2_ b3_) = r) :
    MetFree l (⟨"java/lang/StringUTF16", "getChar", "([BI)C"⟩ : MethodName) (head1 (Jvm.Cond.code (⟨"java/lang/StringUTF16", "getChar", "([BI)C"⟩ : MethodName) jdk_52_method_5_code 2 (some .char) :: ws) ({ frames := 0, cells := 0, slots := 0, locals := 0 } : Room)) (fun a U => a = #[(.ref p0), (.int (1 : Int32))] ∧ Z.Warmed39 U.vm ∧ U.heap = h0) (fun _ _ _ _ _ => True) (fun _ U o U' => ∃ v L, o = .returned v ∧ QG3_1 Z p0 wad whi wlo ka b0_ b1_ b2_ b3_ b4_ b5_ r h0 n0 v U'.heap L ∧ FrameEnd U o U' L ({ frames := 0, cells := 0, slots := 0, locals := 0 } : Room).cells ({ frames := 0, cells := 0, slots := 0, locals := 0 } : Room).slots) := by
  refine MetFree.of_bodySF (plainFor_of_name pn_20) hisR ?_
  intro p e s m args below meth c s₁ Bd hml0 hP hK
  obtain ⟨rfl, hZ, hh⟩ := hP
  have hx := Bd.exec
  have hby := Bd.bytes
  have hml : c.maxLocals = 2 := hml0
  have hown : s.vm.findClass "java/lang/StringUTF16" = some m.cls := findClass_of_methodNamed Bd.named
  have hnm := (name_of_methodNamed Bd.named Bd.method).1
  have X0 : Stand p l e ({ frames := 0, cells := 0, slots := 0, locals := 0 } : Room) s m #[(.ref p0), (.int (1 : Int32))] below meth c s₁ [] 0 0 := Stand.of_body Bd
  have e0 : s₁.heap = h0 := by rw [← hh, Bd.state]; rfl
  have N0 := Fr.nil n0
  refine own_start ?_
  refine own_via (fun t k => castTop (ef_rmG3_1 m p0) k) ?_
  show own_Go p e below _ (s₁.setTop (mkF m 0 #[oR p0, oI (1 : Int32)] []))
  obtain ⟨T1, X1, e1, st1⟩ := getS2 X0 hx hZ hown (host := "") (Or.inl (own_w hw 92)) Via.refl e0 S_wad (g := (mkF m 0 #[oR p0, oI (1 : Int32)] [])) rfl (hb hby d22_0)
  refine own_via st1 ?_
  show own_Go p e below _ (T1.setTop (mkF m 3 #[oR p0, oI (1 : Int32)] [(.int wad)]))
  refine own_via (fun t kz => XS.ifYes X1.here hx rfl (pc0 := 3) (pc' := 28) rfl (hb hby d22_3) rfl ((if0 _ _).trans (feq (by rw [hwad]; decide : ¬ wad = (0 : Int32))).2) (by decide) (by decide) kz) ?_
  refine own_via (fun t kz => XS.iloadN X1.here hx rfl (hb hby d22_28) rfl kz) ?_
  refine own_via (fun t kz => XS.iconst X1.here hx rfl (hb hby d22_29) kz) ?_
  show own_Go p e below _ (T1.setTop (mkF m 30 #[oR p0, oI (1 : Int32)] [(.int (1 : Int32)), (.int (1 : Int32))]))
  refine own_via (fun t kz => XS.ishl X1.here hx rfl (hb hby d22_30) rfl kz) ?_
  refine own_via (fun t kz => XS.istoreN X1.here hx rfl (hb hby d22_31) rfl (l' := #[oR p0, oI (2 : Int32)]) rfl kz) ?_
  refine own_via (fun t kz => XS.aloadN X1.here hx rfl (hb hby d22_32) rfl rfl kz) ?_
  refine own_via (fun t kz => XS.iloadN X1.here hx rfl (hb hby d22_33) rfl kz) ?_
  show own_Go p e below _ (T1.setTop (mkF m 34 #[oR p0, oI (2 : Int32)] [(.int (2 : Int32)), (.ref p0)]))
  refine own_via (fun t kz => XS.iinc X1.here hx rfl (hb hby d22_34) rfl (l' := #[oR p0, oI (3 : Int32)]) rfl kz) ?_
  show own_Go p e below _ (T1.setTop (mkF m 37 #[oR p0, oI (3 : Int32)] [(.int (2 : Int32)), (.ref p0)]))
  obtain ⟨cl2, Ar2, kc2, Sz2, Nn2, Hs2, Gs2⟩ := id V_p0
  have in2 := inb_of (j := (2 : Int32)) Sz2 ⟨by decide, by decide⟩
  have at2 : cl2.slots[((2 : Int32)).toNatClampNeg]? = some (.int b2_) := Hs2.at in2 rfl
  refine own_via (fun t kz => X1.baloadBytes hx (j := (2 : Int32)) (v := (.int b2_)) (by rw [e1]; exact Ar2.1) (State.isArrayOf_alike hZ.alike Ar2.2.1) Ar2.2.2 in2 at2 (g := (mkF m 37 #[oR p0, oI (3 : Int32)] [(.int (2 : Int32)), (.ref p0)])) rfl rfl (hb hby d22_37) t kz) ?_
  refine own_via (fun t kz => XS.sipush X1.here hx rfl (hb hby d22_38) kz) ?_
  refine own_via (fun t kz => XS.iand X1.here hx rfl (hb hby d22_41) rfl kz) ?_
  show own_Go p e below _ (T1.setTop (mkF m 42 #[oR p0, oI (3 : Int32)] [(.int (b2_ &&& (255 : Int32)))]))
  obtain ⟨T3, X3, e3, st3⟩ := getS2 X1 hx hZ hown (host := "") (Or.inl (own_w hw 93)) Via.refl e1 S_whi (g := (mkF m 42 #[oR p0, oI (3 : Int32)] [(.int (b2_ &&& (255 : Int32)))])) rfl (hb hby d22_42)
  refine own_via st3 ?_
  show own_Go p e below _ (T3.setTop (mkF m 45 #[oR p0, oI (3 : Int32)] [(.int whi), (.int (b2_ &&& (255 : Int32)))]))
  refine own_via (fun t kz => XS.ishl X3.here hx rfl (hb hby d22_45) rfl kz) ?_
  refine own_via (fun t kz => XS.aloadN X3.here hx rfl (hb hby d22_46) rfl rfl kz) ?_
  refine own_via (fun t kz => XS.iloadN X3.here hx rfl (hb hby d22_47) rfl kz) ?_
  show own_Go p e below _ (T3.setTop (mkF m 48 #[oR p0, oI (3 : Int32)] [(.int (3 : Int32)), (.ref p0), (.int ((b2_ &&& (255 : Int32)) <<< (whi &&& 31)))]))
  obtain ⟨cl4, Ar4, kc4, Sz4, Nn4, Hs4, Gs4⟩ := id V_p0
  have in4 := inb_of (j := (3 : Int32)) Sz4 ⟨by decide, by decide⟩
  have at4 : cl4.slots[((3 : Int32)).toNatClampNeg]? = some (.int b3_) := Hs4.at in4 rfl
  refine own_via (fun t kz => X3.baloadBytes hx (j := (3 : Int32)) (v := (.int b3_)) (by rw [e3]; exact Ar4.1) (State.isArrayOf_alike hZ.alike Ar4.2.1) Ar4.2.2 in4 at4 (g := (mkF m 48 #[oR p0, oI (3 : Int32)] [(.int (3 : Int32)), (.ref p0), (.int ((b2_ &&& (255 : Int32)) <<< (whi &&& 31)))])) rfl rfl (hb hby d22_48) t kz) ?_
  refine own_via (fun t kz => XS.sipush X3.here hx rfl (hb hby d22_49) kz) ?_
  refine own_via (fun t kz => XS.iand X3.here hx rfl (hb hby d22_52) rfl kz) ?_
  show own_Go p e below _ (T3.setTop (mkF m 53 #[oR p0, oI (3 : Int32)] [(.int (b3_ &&& (255 : Int32))), (.int ((b2_ &&& (255 : Int32)) <<< (whi &&& 31)))]))
  obtain ⟨T5, X5, e5, st5⟩ := getS2 X3 hx hZ hown (host := "") (Or.inl (own_w hw 94)) Via.refl e3 S_wlo (g := (mkF m 53 #[oR p0, oI (3 : Int32)] [(.int (b3_ &&& (255 : Int32))), (.int ((b2_ &&& (255 : Int32)) <<< (whi &&& 31)))])) rfl (hb hby d22_53)
  refine own_via st5 ?_
  show own_Go p e below _ (T5.setTop (mkF m 56 #[oR p0, oI (3 : Int32)] [(.int wlo), (.int (b3_ &&& (255 : Int32))), (.int ((b2_ &&& (255 : Int32)) <<< (whi &&& 31)))]))
  refine own_via (fun t kz => XS.ishl X5.here hx rfl (hb hby d22_56) rfl kz) ?_
  show own_Go p e below _ (T5.setTop (mkF m 57 #[oR p0, oI (3 : Int32)] [(.int ((b3_ &&& (255 : Int32)) <<< (wlo &&& 31))), (.int ((b2_ &&& (255 : Int32)) <<< (whi &&& 31)))]))
  refine own_via (fun t kz => XS.ior X5.here hx rfl (hb hby d22_57) rfl kz) ?_
  show own_Go p e below _ (T5.setTop (mkF m 58 #[oR p0, oI (3 : Int32)] [(.int (((b2_ &&& (255 : Int32)) <<< (whi &&& 31)) ||| ((b3_ &&& (255 : Int32)) <<< (wlo &&& 31))))]))
  refine own_via (fun t kz => XS.i2c X5.here hx rfl (hb hby d22_58) rfl kz) ?_
  show own_Go p e below _ (T5.setTop (mkF m 59 #[oR p0, oI (3 : Int32)] [(.int ((((b2_ &&& (255 : Int32)) <<< (whi &&& 31)) ||| ((b3_ &&& (255 : Int32)) <<< (wlo &&& 31))).toUInt32.toUInt16.toUInt32.toInt32))]))
  have hv : (fG3_1 whi wlo b2_ b3_) = ((((b2_ &&& (255 : Int32)) <<< (whi &&& 31)) ||| ((b3_ &&& (255 : Int32)) <<< (wlo &&& 31))).toUInt32.toUInt16.toUInt32.toInt32) := by unfold fG3_1; rfl
  obtain ⟨fs, hr, hrun, hended, hW, hsame⟩ := X5.leave (v := some (.int ((((b2_ &&& (255 : Int32)) <<< (whi &&& 31)) ||| ((b3_ &&& (255 : Int32)) <<< (wlo &&& 31))).toUInt32.toUInt16.toUInt32.toInt32))) (fun h => by rw [Bd.returns] at h; cases h)
  refine ⟨_, _, retOut X5 hx (i := .ireturn) Bd.returns (narrow_c _) (Or.inl ⟨rfl, by simp, _, rfl⟩) (hb hby d22_59) hr, hrun, hended, _, _, rfl, ?_, ⟨_, rfl⟩, hW, hsame.mono (by decide) (by decide)⟩
  show QG3_1 Z p0 wad whi wlo ka b0_ b1_ b2_ b3_ b4_ b5_ r h0 n0 _ T5.heap _
  rw [e5]
  exact ⟨by rw [← hr0, hv], N0, rfl⟩
def fG3_2 (whi : Int32) (wlo : Int32) (b4_ : Int32) (b5_ : Int32) : Int32 := ((((b4_ &&& (255 : Int32)) <<< (whi &&& 31)) ||| ((b5_ &&& (255 : Int32)) <<< (wlo &&& 31))).toUInt32.toUInt16.toUInt32.toInt32)
theorem ef_rmG3_2 (m : MethodId) (q0 : Addr) : entryFrame m #[(.ref q0), (.int (2 : Int32))] 2 = mkF m 0 #[oR q0, oI (2 : Int32)] [] := by first | (simp [entryFrame, mkF, argsToLocals, Value.category]; done) | rfl
def QG3_2 (Z : State) (p0 : Addr) (wad : Int32) (whi : Int32) (wlo : Int32) (ka : ClassId) (b0_ : Int32) (b1_ : Int32) (b2_ : Int32) (b3_ : Int32) (b4_ : Int32) (b5_ : Int32) (r : Int32) (h0 : Heap) (n0 : Nat) (v : Option Value) (h : Heap) (L : List Loc) : Prop := v = some (.int r) ∧ Fr n0 L ∧ h = h0
set_option maxRecDepth 65536 in
set_option maxHeartbeats 40000000 in
theorem rmG3_2 (l : Launch) (Z : State) (a0 : Array Value) (hw : ∀ d ∈ tables_1, d.before a0 Z = true) (ws : List Jvm.Cond) (p0 : Addr) (wad : Int32) (whi : Int32) (wlo : Int32) (ka : ClassId) (b0_ : Int32) (b1_ : Int32) (b2_ : Int32) (b3_ : Int32) (b4_ : Int32) (b5_ : Int32) (r : Int32) (h0 : Heap) (n0 : Nat) (Z0 : n0 ≤ h0.size) (hwad : wad = (1 : Int32)) (S_wad : Sta Z h0 "java/lang/StringUTF16" "$assertionsDisabled" "Z" (.int wad)) (S_whi : Sta Z h0 "java/lang/StringUTF16" "HI_BYTE_SHIFT" "I" (.int whi)) (S_wlo : Sta Z h0 "java/lang/StringUTF16" "LO_BYTE_SHIFT" "I" (.int wlo)) (V_p0 : Arv Z h0 p0 ka .byte (6 : Int32) [(.int b0_), (.int b1_), (.int b2_), (.int b3_), (.int b4_), (.int b5_)] (.int (0 : Int32))) (hr0 : (fG3_2 whi wlo b4_ b5_) = r) :
    MetFree l (⟨"java/lang/StringUTF16", "getChar", "([BI)C"⟩ : MethodName) (head1 (Jvm.Cond.code (⟨"java/lang/StringUTF16", "getChar", "([BI)C"⟩ : MethodName) jdk_52_method_5_code 2 (some .char) :: ws) ({ frames := 0, cells := 0, slots := 0, locals := 0 } : Room)) (fun a U => a = #[(.ref p0), (.int (2 : Int32))] ∧ Z.Warmed39 U.vm ∧ U.heap = h0) (fun _ _ _ _ _ => True) (fun _ U o U' => ∃ v L, o = .returned v ∧ QG3_2 Z p0 wad whi wlo ka b0_ b1_ b2_ b3_ b4_ b5_ r h0 n0 v U'.heap L ∧ FrameEnd U o U' L ({ frames := 0, cells := 0, slots := 0, locals := 0 } : Room).cells ({ frames := 0, cells := 0, slots := 0, locals := 0 } : Room).slots) := by
  refine MetFree.of_bodySF (plainFor_of_name pn_20) hisR ?_
  intro p e s m args below meth c s₁ Bd hml0 hP hK
  obtain ⟨rfl, hZ, hh⟩ := hP
  have hx := Bd.exec
  have hby := Bd.bytes
  have hml : c.maxLocals = 2 := hml0
  have hown : s.vm.findClass "java/lang/StringUTF16" = some m.cls := findClass_of_methodNamed Bd.named
  have hnm := (name_of_methodNamed Bd.named Bd.method).1
  have X0 : Stand p l e ({ frames := 0, cells := 0, slots := 0, locals := 0 } : Room) s m #[(.ref p0), (.int (2 : Int32))] below meth c s₁ [] 0 0 := Stand.of_body Bd
  have e0 : s₁.heap = h0 := by rw [← hh, Bd.state]; rfl
  have N0 := Fr.nil n0
  refine own_start ?_
  refine own_via (fun t k => castTop (ef_rmG3_2 m p0) k) ?_
  show own_Go p e below _ (s₁.setTop (mkF m 0 #[oR p0, oI (2 : Int32)] []))
  obtain ⟨T1, X1, e1, st1⟩ := getS2 X0 hx hZ hown (host := "") (Or.inl (own_w hw 92)) Via.refl e0 S_wad (g := (mkF m 0 #[oR p0, oI (2 : Int32)] [])) rfl (hb hby d22_0)
  refine own_via st1 ?_
  show own_Go p e below _ (T1.setTop (mkF m 3 #[oR p0, oI (2 : Int32)] [(.int wad)]))
  refine own_via (fun t kz => XS.ifYes X1.here hx rfl (pc0 := 3) (pc' := 28) rfl (hb hby d22_3) rfl ((if0 _ _).trans (feq (by rw [hwad]; decide : ¬ wad = (0 : Int32))).2) (by decide) (by decide) kz) ?_
  refine own_via (fun t kz => XS.iloadN X1.here hx rfl (hb hby d22_28) rfl kz) ?_
  refine own_via (fun t kz => XS.iconst X1.here hx rfl (hb hby d22_29) kz) ?_
  show own_Go p e below _ (T1.setTop (mkF m 30 #[oR p0, oI (2 : Int32)] [(.int (1 : Int32)), (.int (2 : Int32))]))
  refine own_via (fun t kz => XS.ishl X1.here hx rfl (hb hby d22_30) rfl kz) ?_
  refine own_via (fun t kz => XS.istoreN X1.here hx rfl (hb hby d22_31) rfl (l' := #[oR p0, oI (4 : Int32)]) rfl kz) ?_
  refine own_via (fun t kz => XS.aloadN X1.here hx rfl (hb hby d22_32) rfl rfl kz) ?_
  refine own_via (fun t kz => XS.iloadN X1.here hx rfl (hb hby d22_33) rfl kz) ?_
  show own_Go p e below _ (T1.setTop (mkF m 34 #[oR p0, oI (4 : Int32)] [(.int (4 : Int32)), (.ref p0)]))
  refine own_via (fun t kz => XS.iinc X1.here hx rfl (hb hby d22_34) rfl (l' := #[oR p0, oI (5 : Int32)]) rfl kz) ?_
  show own_Go p e below _ (T1.setTop (mkF m 37 #[oR p0, oI (5 : Int32)] [(.int (4 : Int32)), (.ref p0)]))
  obtain ⟨cl2, Ar2, kc2, Sz2, Nn2, Hs2, Gs2⟩ := id V_p0
  have in2 := inb_of (j := (4 : Int32)) Sz2 ⟨by decide, by decide⟩
  have at2 : cl2.slots[((4 : Int32)).toNatClampNeg]? = some (.int b4_) := Hs2.at in2 rfl
  refine own_via (fun t kz => X1.baloadBytes hx (j := (4 : Int32)) (v := (.int b4_)) (by rw [e1]; exact Ar2.1) (State.isArrayOf_alike hZ.alike Ar2.2.1) Ar2.2.2 in2 at2 (g := (mkF m 37 #[oR p0, oI (5 : Int32)] [(.int (4 : Int32)), (.ref p0)])) rfl rfl (hb hby d22_37) t kz) ?_
  refine own_via (fun t kz => XS.sipush X1.here hx rfl (hb hby d22_38) kz) ?_
  refine own_via (fun t kz => XS.iand X1.here hx rfl (hb hby d22_41) rfl kz) ?_
  show own_Go p e below _ (T1.setTop (mkF m 42 #[oR p0, oI (5 : Int32)] [(.int (b4_ &&& (255 : Int32)))]))
  obtain ⟨T3, X3, e3, st3⟩ := getS2 X1 hx hZ hown (host := "") (Or.inl (own_w hw 93)) Via.refl e1 S_whi (g := (mkF m 42 #[oR p0, oI (5 : Int32)] [(.int (b4_ &&& (255 : Int32)))])) rfl (hb hby d22_42)
  refine own_via st3 ?_
  show own_Go p e below _ (T3.setTop (mkF m 45 #[oR p0, oI (5 : Int32)] [(.int whi), (.int (b4_ &&& (255 : Int32)))]))
  refine own_via (fun t kz => XS.ishl X3.here hx rfl (hb hby d22_45) rfl kz) ?_
  refine own_via (fun t kz => XS.aloadN X3.here hx rfl (hb hby d22_46) rfl rfl kz) ?_
  refine own_via (fun t kz => XS.iloadN X3.here hx rfl (hb hby d22_47) rfl kz) ?_
  show own_Go p e below _ (T3.setTop (mkF m 48 #[oR p0, oI (5 : Int32)] [(.int (5 : Int32)), (.ref p0), (.int ((b4_ &&& (255 : Int32)) <<< (whi &&& 31)))]))
  obtain ⟨cl4, Ar4, kc4, Sz4, Nn4, Hs4, Gs4⟩ := id V_p0
  have in4 := inb_of (j := (5 : Int32)) Sz4 ⟨by decide, by decide⟩
  have at4 : cl4.slots[((5 : Int32)).toNatClampNeg]? = some (.int b5_) := Hs4.at in4 rfl
  refine own_via (fun t kz => X3.baloadBytes hx (j := (5 : Int32)) (v := (.int b5_)) (by rw [e3]; exact Ar4.1) (State.isArrayOf_alike hZ.alike Ar4.2.1) Ar4.2.2 in4 at4 (g := (mkF m 48 #[oR p0, oI (5 : Int32)] [(.int (5 : Int32)), (.ref p0), (.int ((b4_ &&& (255 : Int32)) <<< (whi &&& 31)))])) rfl rfl (hb hby d22_48) t kz) ?_
  refine own_via (fun t kz => XS.sipush X3.here hx rfl (hb hby d22_49) kz) ?_
  refine own_via (fun t kz => XS.iand X3.here hx rfl (hb hby d22_52) rfl kz) ?_
  show own_Go p e below _ (T3.setTop (mkF m 53 #[oR p0, oI (5 : Int32)] [(.int (b5_ &&& (255 : Int32))), (.int ((b4_ &&& (255 : Int32)) <<< (whi &&& 31)))]))
  obtain ⟨T5, X5, e5, st5⟩ := getS2 X3 hx hZ hown (host := "") (Or.inl (own_w hw 94)) Via.refl e3 S_wlo (g := (mkF m 53 #[oR p0, oI (5 : Int32)] [(.int (b5_ &&& (255 : Int32))), (.int ((b4_ &&& (255 : Int32)) <<< (whi &&& 31)))])) rfl (hb hby d22_53)
  refine own_via st5 ?_
  show own_Go p e below _ (T5.setTop (mkF m 56 #[oR p0, oI (5 : Int32)] [(.int wlo), (.int (b5_ &&& (255 : Int32))), (.int ((b4_ &&& (255 : Int32)) <<< (whi &&& 31)))]))
  refine own_via (fun t kz => XS.ishl X5.here hx rfl (hb hby d22_56) rfl kz) ?_
  show own_Go p e below _ (T5.setTop (mkF m 57 #[oR p0, oI (5 : Int32)] [(.int ((b5_ &&& (255 : Int32)) <<< (wlo &&& 31))), (.int ((b4_ &&& (255 : Int32)) <<< (whi &&& 31)))]))
  refine own_via (fun t kz => XS.ior X5.here hx rfl (hb hby d22_57) rfl kz) ?_
  show own_Go p e below _ (T5.setTop (mkF m 58 #[oR p0, oI (5 : Int32)] [(.int (((b4_ &&& (255 : Int32)) <<< (whi &&& 31)) ||| ((b5_ &&& (255 : Int32)) <<< (wlo &&& 31))))]))
  refine own_via (fun t kz => XS.i2c X5.here hx rfl (hb hby d22_58) rfl kz) ?_
  show own_Go p e below _ (T5.setTop (mkF m 59 #[oR p0, oI (5 : Int32)] [(.int ((((b4_ &&& (255 : Int32)) <<< (whi &&& 31)) ||| ((b5_ &&& (255 : Int32)) <<< (wlo &&& 31))).toUInt32.toUInt16.toUInt32.toInt32))]))
  have hv : (fG3_2 whi wlo b4_ b5_) = ((((b4_ &&& (255 : Int32)) <<< (whi &&& 31)) ||| ((b5_ &&& (255 : Int32)) <<< (wlo &&& 31))).toUInt32.toUInt16.toUInt32.toInt32) := by unfold fG3_2; rfl
  obtain ⟨fs, hr, hrun, hended, hW, hsame⟩ := X5.leave (v := some (.int ((((b4_ &&& (255 : Int32)) <<< (whi &&& 31)) ||| ((b5_ &&& (255 : Int32)) <<< (wlo &&& 31))).toUInt32.toUInt16.toUInt32.toInt32))) (fun h => by rw [Bd.returns] at h; cases h)
  refine ⟨_, _, retOut X5 hx (i := .ireturn) Bd.returns (narrow_c _) (Or.inl ⟨rfl, by simp, _, rfl⟩) (hb hby d22_59) hr, hrun, hended, _, _, rfl, ?_, ⟨_, rfl⟩, hW, hsame.mono (by decide) (by decide)⟩
  show QG3_2 Z p0 wad whi wlo ka b0_ b1_ b2_ b3_ b4_ b5_ r h0 n0 _ T5.heap _
  rw [e5]
  exact ⟨by rw [← hr0, hv], N0, rfl⟩
def own_rep3 (Z : State) (h : Heap) (r : Addr) (c0_ c1_ c2_ : Int32) : Prop := ((¬ (255 : Int32) < c0_ ∧ ¬ (255 : Int32) < c1_ ∧ ¬ (255 : Int32) < c2_) ∧ ∃ kb : ClassId, Arv Z h r kb .byte (3 : Int32) [(.int (c0_.toInt8.toInt32)), (.int (c1_.toInt8.toInt32)), (.int (c2_.toInt8.toInt32))] (.int (0 : Int32))) ∨ (∃ kb : ClassId, Arv Z h r kb .byte (6 : Int32) [(.int ((c0_ >>> ((0 : Int32) &&& 31)).toInt8.toInt32)), (.int ((c0_ >>> ((8 : Int32) &&& 31)).toInt8.toInt32)), (.int ((c1_ >>> ((0 : Int32) &&& 31)).toInt8.toInt32)), (.int ((c1_ >>> ((8 : Int32) &&& 31)).toInt8.toInt32)), (.int ((c2_ >>> ((0 : Int32) &&& 31)).toInt8.toInt32)), (.int ((c2_ >>> ((8 : Int32) &&& 31)).toInt8.toInt32))] (.int (0 : Int32)))
theorem ef_rmB3 (m : MethodId) (q0 : Addr) : entryFrame m #[(.ref q0), (.int (0 : Int32)), (.int (3 : Int32))] 6 = mkF m 0 #[oR q0, oI (0 : Int32), oI (3 : Int32), .unset, .unset, .unset] [] := by first | (simp [entryFrame, mkF, argsToLocals, Value.category]; done) | rfl
def QB3 (Z : State) (p0 : Addr) (kc : ClassId) (c0_ : Int32) (c1_ : Int32) (c2_ : Int32) (wcs : Int32) (wsf : Value) (h0 : Heap) (n0 : Nat) (v : Option Value) (h : Heap) (L : List Loc) : Prop := ∃ r : Addr, v = some (.ref r) ∧ Fr n0 L ∧ Keep h0 h [] ∧ h0.size ≤ r ∧ own_rep3 Z h r c0_ c1_ c2_
set_option maxRecDepth 65536 in
set_option maxHeartbeats 40000000 in
theorem rmB3 (l : Launch) (Z : State) (a0 : Array Value) (hw : ∀ d ∈ tables_1, d.before a0 Z = true) (ws : List Jvm.Cond) (p0 : Addr) (kc : ClassId) (c0_ : Int32) (c1_ : Int32) (c2_ : Int32) (wcs : Int32) (wsf : Value) (h0 : Heap) (n0 : Nat) (Z0 : n0 ≤ h0.size) (VC : Arv Z h0 p0 kc .char (3 : Int32) [(.int c0_), (.int c1_), (.int c2_)] (.int (0 : Int32))) (hc0 : own_ch c0_) (hc1 : own_ch c1_) (hc2 : own_ch c2_) (OLD : Old Z n0 h0) (hcs : ¬ (wcs = (0 : Int32))) (rsf : wsf.isRef = true) (B_wcs : Sta Z Z.heap "java/lang/String" "COMPACT_STRINGS" "Z" (.int wcs)) (B_wsf : Sta Z Z.heap "jdk/internal/util/Preconditions" "SIOOBE_FORMATTER" "Ljava/util/function/BiFunction;" wsf) (B_wad : Sta Z Z.heap "java/lang/StringUTF16" "$assertionsDisabled" "Z" (.int (1 : Int32))) (B_whi : Sta Z Z.heap "java/lang/StringUTF16" "HI_BYTE_SHIFT" "I" (.int (0 : Int32))) (B_wlo : Sta Z Z.heap "java/lang/StringUTF16" "LO_BYTE_SHIFT" "I" (.int (8 : Int32))) :
    MetFree l (⟨"java/lang/StringUTF16", "compress", "([CII)[B"⟩ : MethodName) (head1 (Jvm.Cond.code (⟨"java/lang/StringUTF16", "compress", "([CII)[B"⟩ : MethodName) jdk_52_method_16_code 6 (some (.array .byte)) :: ws) ({ frames := 3, cells := 2, slots := 9, locals := 40 } : Room)) (fun a U => a = #[(.ref p0), (.int (0 : Int32)), (.int (3 : Int32))] ∧ Z.Warmed39 U.vm ∧ U.heap = h0) (fun _ _ _ _ _ => True) (fun _ U o U' => ∃ v L, o = .returned v ∧ QB3 Z p0 kc c0_ c1_ c2_ wcs wsf h0 n0 v U'.heap L ∧ FrameEnd U o U' L ({ frames := 3, cells := 2, slots := 9, locals := 40 } : Room).cells ({ frames := 3, cells := 2, slots := 9, locals := 40 } : Room).slots) := by
  refine MetFree.of_bodySF (plainFor_of_name pn_20) hisR ?_
  intro p e s m args below meth c s₁ Bd hml0 hP hK
  obtain ⟨rfl, hZ, hh⟩ := hP
  have hx := Bd.exec
  have hby := Bd.bytes
  have hml : c.maxLocals = 6 := hml0
  have hown : s.vm.findClass "java/lang/StringUTF16" = some m.cls := findClass_of_methodNamed Bd.named
  have hnm := (name_of_methodNamed Bd.named Bd.method).1
  have X0 : Stand p l e ({ frames := 3, cells := 2, slots := 9, locals := 40 } : Room) s m #[(.ref p0), (.int (0 : Int32)), (.int (3 : Int32))] below meth c s₁ [] 0 0 := Stand.of_body Bd
  have e0 : s₁.heap = h0 := by rw [← hh, Bd.state]; rfl
  have N0 := Fr.nil n0
  refine own_start ?_
  refine own_via (fun t k => castTop (ef_rmB3 m p0) k) ?_
  show own_Go p e below _ (s₁.setTop (mkF m 0 #[oR p0, oI (0 : Int32), oI (3 : Int32), .unset, .unset, .unset] []))
  refine own_via (fun t kz => XS.iloadN X0.here hx rfl (hb hby d8_0) rfl kz) ?_
  show own_Go p e below _ (s₁.setTop (mkF m 1 #[oR p0, oI (0 : Int32), oI (3 : Int32), .unset, .unset, .unset] [(.int (3 : Int32))]))
  obtain ⟨T1, h1, k1, X1, e1, E1, A1, st1⟩ := newP X0 hx hZ (aty := .byte) (own_w hw 19) e0 (g := (mkF m 1 #[oR p0, oI (0 : Int32), oI (3 : Int32), .unset, .unset, .unset] [(.int (3 : Int32))])) rfl (hb hby d8_1) rfl (by decide) (cap := 3) (by decide) (by decide) (by decide) (by decide)
  obtain ⟨a1, g1⟩ : ∃ z, z = h0.size := ⟨_, rfl⟩
  rw [← g1] at A1 st1
  refine own_via st1 ?_
  have lt2 : p0 < a1 := Nat.lt_of_lt_of_le VC.lt (Nat.le_of_eq g1.symm)
  have fr3 : n0 ≤ a1 := Nat.le_trans Z0 (Nat.le_of_eq g1.symm)
  have hf4 : h0.size ≤ a1 := Nat.le_trans (Keep.refl h0 []).1 (Nat.le_of_eq g1.symm)
  have O5 : Old Z n0 h1 := OLD.ext E1
  have V6 := VC.ext E1
  have Zs7 : n0 ≤ h1.size := Nat.le_trans Z0 E1.1
  have K8 : Keep h0 h1 [] := (Keep.refl h0 []).ext E1
  have V9 : Arv Z h1 a1 k1 .byte (3 : Int32) [(.int (0 : Int32)), (.int (0 : Int32)), (.int (0 : Int32))] (.int (0 : Int32)) := (Arv.new A1 (by decide)).pad (pad_rep [] (.int (0 : Int32)) 3)
  refine own_via (fun t kz => XS.astoreN X1.here hx rfl (hb hby d8_3) rfl rfl (l' := #[oR p0, oI (0 : Int32), oI (3 : Int32), oR a1, .unset, .unset]) rfl kz) ?_
  refine own_via (fun t kz => XS.aloadN X1.here hx rfl (hb hby d8_4) rfl rfl kz) ?_
  refine own_via (fun t kz => XS.iloadN X1.here hx rfl (hb hby d8_5) rfl kz) ?_
  refine own_via (fun t kz => XS.aloadN X1.here hx rfl (hb hby d8_6) rfl rfl kz) ?_
  refine own_via (fun t kz => XS.iconst X1.here hx rfl (hb hby d8_7) kz) ?_
  show own_Go p e below _ (T1.setTop (mkF m 8 #[oR p0, oI (0 : Int32), oI (3 : Int32), oR a1, .unset, .unset] [(.int (0 : Int32)), (.ref a1), (.int (0 : Int32)), (.ref p0)]))
  refine own_via (fun t kz => XS.iloadN X1.here hx rfl (hb hby d8_8) rfl kz) ?_
  show own_Go p e below _ (T1.setTop (mkF m 9 #[oR p0, oI (0 : Int32), oI (3 : Int32), oR a1, .unset, .unset] [(.int (3 : Int32)), (.int (0 : Int32)), (.ref a1), (.int (0 : Int32)), (.ref p0)]))
  by_cases hc9_10 : (255 : Int32) < c0_
  · obtain ⟨_, _, ⟨T11, L11, k11, n11⟩, -, X11, ⟨Lc11, hQ11, l11, y11, z11⟩, st11⟩ := Jvm.LawKit.callS X1 hx (y := (⟨"java/lang/StringUTF16", "compress", "([CI[BII)I"⟩ : MethodName)) hown (mvT hZ (own_w hw 45)) (mvT hZ (own_w hw 46)) (mvT hZ (own_w hw 43)) (mvT hZ (own_w hw 47)) (by decide) (backOf (W := 0) (rmK3 l Z a0 hw [] p0 a1 kc k1 c0_ c1_ c2_ (0 : Int32) h1 n0 Zs7 fr3 (Nat.ne_of_lt lt2) V6 V9 (by unfold own_cnt3; rw [if_pos hc9_10])) hZ (own_w hw 47) (own_w hw 43) (by decide) (by decide)) (g := (mkF m 9 #[oR p0, oI (0 : Int32), oI (3 : Int32), oR a1, .unset, .unset] [(.int (3 : Int32)), (.int (0 : Int32)), (.ref a1), (.int (0 : Int32)), (.ref p0)])) rfl (by rw [hml]; rfl) (argsL := [(.ref p0), (.int (0 : Int32)), (.ref a1), (.int (0 : Int32)), (.int (3 : Int32))]) (rest := []) (lenOf pd_8_0 rfl) rfl (by show 2 * 0 + _ ≤ _; exact Nat.le_of_eq rfl) (hb hby d8_9) (fun _ _ => ⟨rfl, e1, (by decide : 1 + 0 ≤ _), (by decide : 3 + 0 ≤ _)⟩)
    dsimp only [Pt.U, Pt.locs, Pt.cells, Pt.slots] at X11 l11 y11 z11 st11 hQ11
    subst l11 y11 z11
    obtain ⟨rfl, Nq11, Kc11, Im11⟩ := hQ11
    have N12 := Fr.app N0 Nq11
    refine own_via st11 ?_
    have O13 : Old Z n0 T11.heap := O5.keep Kc11 (allS fr3 all0)
    have V14 := V6.keep Kc11 (ninS (Nat.ne_of_lt lt2) nin0)
    have Zs15 : n0 ≤ T11.heap.size := Nat.le_trans Zs7 Kc11.1
    have K16 : Keep h0 T11.heap [] := K8.trans Kc11 (allS (Or.inr hf4) all0)
    refine own_via (fun t kz => XS.istore X11.here hx rfl (hb hby d8_12) rfl (l' := #[oR p0, oI (0 : Int32), oI (3 : Int32), oR a1, oI (0 : Int32), .unset]) rfl kz) ?_
    refine own_via (fun t kz => XS.iload X11.here hx rfl (hb hby d8_14) rfl kz) ?_
    refine own_via (fun t kz => XS.iloadN X11.here hx rfl (hb hby d8_16) rfl kz) ?_
    show own_Go p e below _ (T11.setTop (mkF m 17 #[oR p0, oI (0 : Int32), oI (3 : Int32), oR a1, oI (0 : Int32), .unset] [(.int (3 : Int32)), (.int (0 : Int32))]))
    refine own_via (fun t kz => XS.icmpNo X11.here hx rfl (hb hby d8_17) rfl (feq (by decide : ¬ ((0 : Int32) = (3 : Int32)))).1 kz) ?_
    refine own_via (fun t kz => XS.aloadN X11.here hx rfl (hb hby d8_20) rfl rfl kz) ?_
    refine own_via (fun t kz => XS.iloadN X11.here hx rfl (hb hby d8_21) rfl kz) ?_
    refine own_via (fun t kz => XS.iloadN X11.here hx rfl (hb hby d8_22) rfl kz) ?_
    show own_Go p e below _ (T11.setTop (mkF m 23 #[oR p0, oI (0 : Int32), oI (3 : Int32), oR a1, oI (0 : Int32), .unset] [(.int (3 : Int32)), (.int (0 : Int32)), (.ref p0)]))
    obtain ⟨_, _, ⟨T17, L17, k17, n17⟩, -, X17, ⟨Lc17, hQ17, l17, y17, z17⟩, st17⟩ := Jvm.LawKit.callS X11 hx (y := (⟨"java/lang/StringUTF16", "toBytes", "([CII)[B"⟩ : MethodName)) hown (mvT hZ (own_w hw 79)) (mvT hZ (own_w hw 80)) (mvT hZ (own_w hw 43)) (mvT hZ (own_w hw 81)) (by decide) (backOf (W := 0) (rmT3 l Z a0 hw [] p0 kc c0_ c1_ c2_ wcs wsf T11.heap n0 Zs15 V14 O13 hcs rsf B_wcs B_wsf B_wad B_whi B_wlo) hZ (own_w hw 81) (own_w hw 43) (by decide) (by decide)) (g := (mkF m 23 #[oR p0, oI (0 : Int32), oI (3 : Int32), oR a1, oI (0 : Int32), .unset] [(.int (3 : Int32)), (.int (0 : Int32)), (.ref p0)])) rfl (by rw [hml]; rfl) (argsL := [(.ref p0), (.int (0 : Int32)), (.int (3 : Int32))]) (rest := []) (lenOf pd_8_1 rfl) rfl (by show 2 * 0 + _ ≤ _; exact Nat.le_of_eq rfl) (hb hby d8_23) (fun _ _ => ⟨rfl, rfl, (by decide : 1 + 1 ≤ _), (by decide : 3 + 6 ≤ _)⟩)
    dsimp only [Pt.U, Pt.locs, Pt.cells, Pt.slots] at X17 l17 y17 z17 st17 hQ17
    subst l17 y17 z17
    obtain ⟨rfl, Nq17, Kc17, kb17, Vc17⟩ := hQ17
    have N18 := Fr.app N12 Nq17
    refine own_via st17 ?_
    obtain ⟨a17, g17⟩ : ∃ z, z = T11.heap.size := ⟨_, rfl⟩
    rw [← g17] at Vc17 ⊢
    have lt19 : p0 < a17 := Nat.lt_of_lt_of_le V14.lt (Nat.le_of_eq g17.symm)
    have fr20 : n0 ≤ a17 := Nat.le_trans Zs15 (Nat.le_of_eq g17.symm)
    have hf21 : h0.size ≤ a17 := Nat.le_trans K16.1 (Nat.le_of_eq g17.symm)
    have O22 : Old Z n0 T17.heap := O13.keep Kc17 all0
    have V23 := V14.keep Kc17 nin0
    have Zs24 : n0 ≤ T17.heap.size := Nat.le_trans Zs15 Kc17.1
    have K25 : Keep h0 T17.heap [] := K16.trans Kc17 all0
    refine own_via (fun t kz => XS.astore X17.here hx rfl (hb hby d8_26) rfl rfl (l' := #[oR p0, oI (0 : Int32), oI (3 : Int32), oR a1, oI (0 : Int32), oR a17]) rfl kz) ?_
    refine own_via (fun t kz => XS.aload X17.here hx rfl (hb hby d8_28) rfl rfl kz) ?_
    refine own_via (fun t kz => XS.iload X17.here hx rfl (hb hby d8_30) rfl kz) ?_
    show own_Go p e below _ (T17.setTop (mkF m 32 #[oR p0, oI (0 : Int32), oI (3 : Int32), oR a1, oI (0 : Int32), oR a17] [(.int (0 : Int32)), (.ref a17)]))
    obtain ⟨_, _, ⟨T26, L26, k26, n26⟩, -, X26, ⟨Lc26, hQ26, l26, y26, z26⟩, st26⟩ := Jvm.LawKit.callS X17 hx (y := (⟨"java/lang/StringUTF16", "getChar", "([BI)C"⟩ : MethodName)) hown (mvT hZ (own_w hw 95)) (mvT hZ (own_w hw 96)) (mvT hZ (own_w hw 43)) (mvT hZ (own_w hw 97)) (by decide) (backOf (W := 0) (rmG3_0 l Z a0 hw [] a17 (1 : Int32) (0 : Int32) (8 : Int32) kb17 ((c0_ >>> ((0 : Int32) &&& 31)).toInt8.toInt32) ((c0_ >>> ((8 : Int32) &&& 31)).toInt8.toInt32) ((c1_ >>> ((0 : Int32) &&& 31)).toInt8.toInt32) ((c1_ >>> ((8 : Int32) &&& 31)).toInt8.toInt32) ((c2_ >>> ((0 : Int32) &&& 31)).toInt8.toInt32) ((c2_ >>> ((8 : Int32) &&& 31)).toInt8.toInt32) c0_ T17.heap n0 Zs24 rfl (B_wad.ext O22.2) (B_whi.ext O22.2) (B_wlo.ext O22.2) Vc17 (by unfold fG3_0; exact own_utf hc0)) hZ (own_w hw 97) (own_w hw 43) (by decide) (by decide)) (g := (mkF m 32 #[oR p0, oI (0 : Int32), oI (3 : Int32), oR a1, oI (0 : Int32), oR a17] [(.int (0 : Int32)), (.ref a17)])) rfl (by rw [hml]; rfl) (argsL := [(.ref a17), (.int (0 : Int32))]) (rest := []) (lenOf pd_8_2 rfl) rfl (by show 2 * 0 + _ ≤ _; exact Nat.le_of_eq rfl) (hb hby d8_32) (fun _ _ => ⟨rfl, rfl, (by decide : 2 + 0 ≤ _), (by decide : 9 + 0 ≤ _)⟩)
    dsimp only [Pt.U, Pt.locs, Pt.cells, Pt.slots] at X26 l26 y26 z26 st26 hQ26
    subst l26 y26 z26
    obtain ⟨rfl, Nq26, e26⟩ := hQ26
    have N27 := Fr.app N18 Nq26
    refine own_via st26 ?_
    refine own_via (fun t kz => XS.sipush X26.here hx rfl (hb hby d8_35) kz) ?_
    show own_Go p e below _ (T26.setTop (mkF m 38 #[oR p0, oI (0 : Int32), oI (3 : Int32), oR a1, oI (0 : Int32), oR a17] [(.int (255 : Int32)), (.int c0_)]))
    refine own_via (fun t kz => XS.icmpYes X26.here hx rfl (pc0 := 38) (pc' := 54) rfl (hb hby d8_38) rfl (tlt hc9_10).2.2.1 (by decide) (by decide) kz) ?_
    refine own_via (fun t kz => XS.aload X26.here hx rfl (hb hby d8_54) rfl rfl kz) ?_
    show own_Go p e below _ (T26.setTop (mkF m 56 #[oR p0, oI (0 : Int32), oI (3 : Int32), oR a1, oI (0 : Int32), oR a17] [(.ref a17)]))
    obtain ⟨fs, hr, hrun, hended, hW, hsame⟩ := X26.leave (v := some (.ref a17)) (fun h => by rw [Bd.returns] at h; cases h)
    refine ⟨_, _, retOut X26 hx (i := .areturn) Bd.returns rfl (Or.inr (Or.inr (Or.inr (Or.inr ⟨rfl, rfl, rfl⟩)))) (hb hby d8_56) hr, hrun, hended, _, _, rfl, ?_, ⟨_, rfl⟩, hW, hsame.mono (by decide) (by decide)⟩
    show QB3 Z p0 kc c0_ c1_ c2_ wcs wsf h0 n0 _ T26.heap _
    rw [e26]
    exact ⟨a17, rfl, N27, K25, hf21, Or.inr ⟨_, Vc17⟩⟩
  · by_cases hc9_29 : (255 : Int32) < c1_
    · obtain ⟨_, _, ⟨T30, L30, k30, n30⟩, -, X30, ⟨Lc30, hQ30, l30, y30, z30⟩, st30⟩ := Jvm.LawKit.callS X1 hx (y := (⟨"java/lang/StringUTF16", "compress", "([CI[BII)I"⟩ : MethodName)) hown (mvT hZ (own_w hw 45)) (mvT hZ (own_w hw 46)) (mvT hZ (own_w hw 43)) (mvT hZ (own_w hw 47)) (by decide) (backOf (W := 0) (rmK3 l Z a0 hw [] p0 a1 kc k1 c0_ c1_ c2_ (1 : Int32) h1 n0 Zs7 fr3 (Nat.ne_of_lt lt2) V6 V9 (by unfold own_cnt3; rw [if_neg hc9_10, if_pos hc9_29])) hZ (own_w hw 47) (own_w hw 43) (by decide) (by decide)) (g := (mkF m 9 #[oR p0, oI (0 : Int32), oI (3 : Int32), oR a1, .unset, .unset] [(.int (3 : Int32)), (.int (0 : Int32)), (.ref a1), (.int (0 : Int32)), (.ref p0)])) rfl (by rw [hml]; rfl) (argsL := [(.ref p0), (.int (0 : Int32)), (.ref a1), (.int (0 : Int32)), (.int (3 : Int32))]) (rest := []) (lenOf pd_8_0 rfl) rfl (by show 2 * 0 + _ ≤ _; exact Nat.le_of_eq rfl) (hb hby d8_9) (fun _ _ => ⟨rfl, e1, (by decide : 1 + 0 ≤ _), (by decide : 3 + 0 ≤ _)⟩)
      dsimp only [Pt.U, Pt.locs, Pt.cells, Pt.slots] at X30 l30 y30 z30 st30 hQ30
      subst l30 y30 z30
      obtain ⟨rfl, Nq30, Kc30, Im30⟩ := hQ30
      have N31 := Fr.app N0 Nq30
      refine own_via st30 ?_
      have O32 : Old Z n0 T30.heap := O5.keep Kc30 (allS fr3 all0)
      have V33 := V6.keep Kc30 (ninS (Nat.ne_of_lt lt2) nin0)
      have Zs34 : n0 ≤ T30.heap.size := Nat.le_trans Zs7 Kc30.1
      have K35 : Keep h0 T30.heap [] := K8.trans Kc30 (allS (Or.inr hf4) all0)
      refine own_via (fun t kz => XS.istore X30.here hx rfl (hb hby d8_12) rfl (l' := #[oR p0, oI (0 : Int32), oI (3 : Int32), oR a1, oI (1 : Int32), .unset]) rfl kz) ?_
      refine own_via (fun t kz => XS.iload X30.here hx rfl (hb hby d8_14) rfl kz) ?_
      refine own_via (fun t kz => XS.iloadN X30.here hx rfl (hb hby d8_16) rfl kz) ?_
      show own_Go p e below _ (T30.setTop (mkF m 17 #[oR p0, oI (0 : Int32), oI (3 : Int32), oR a1, oI (1 : Int32), .unset] [(.int (3 : Int32)), (.int (1 : Int32))]))
      refine own_via (fun t kz => XS.icmpNo X30.here hx rfl (hb hby d8_17) rfl (feq (by decide : ¬ ((1 : Int32) = (3 : Int32)))).1 kz) ?_
      refine own_via (fun t kz => XS.aloadN X30.here hx rfl (hb hby d8_20) rfl rfl kz) ?_
      refine own_via (fun t kz => XS.iloadN X30.here hx rfl (hb hby d8_21) rfl kz) ?_
      refine own_via (fun t kz => XS.iloadN X30.here hx rfl (hb hby d8_22) rfl kz) ?_
      show own_Go p e below _ (T30.setTop (mkF m 23 #[oR p0, oI (0 : Int32), oI (3 : Int32), oR a1, oI (1 : Int32), .unset] [(.int (3 : Int32)), (.int (0 : Int32)), (.ref p0)]))
      obtain ⟨_, _, ⟨T36, L36, k36, n36⟩, -, X36, ⟨Lc36, hQ36, l36, y36, z36⟩, st36⟩ := Jvm.LawKit.callS X30 hx (y := (⟨"java/lang/StringUTF16", "toBytes", "([CII)[B"⟩ : MethodName)) hown (mvT hZ (own_w hw 79)) (mvT hZ (own_w hw 80)) (mvT hZ (own_w hw 43)) (mvT hZ (own_w hw 81)) (by decide) (backOf (W := 0) (rmT3 l Z a0 hw [] p0 kc c0_ c1_ c2_ wcs wsf T30.heap n0 Zs34 V33 O32 hcs rsf B_wcs B_wsf B_wad B_whi B_wlo) hZ (own_w hw 81) (own_w hw 43) (by decide) (by decide)) (g := (mkF m 23 #[oR p0, oI (0 : Int32), oI (3 : Int32), oR a1, oI (1 : Int32), .unset] [(.int (3 : Int32)), (.int (0 : Int32)), (.ref p0)])) rfl (by rw [hml]; rfl) (argsL := [(.ref p0), (.int (0 : Int32)), (.int (3 : Int32))]) (rest := []) (lenOf pd_8_1 rfl) rfl (by show 2 * 0 + _ ≤ _; exact Nat.le_of_eq rfl) (hb hby d8_23) (fun _ _ => ⟨rfl, rfl, (by decide : 1 + 1 ≤ _), (by decide : 3 + 6 ≤ _)⟩)
      dsimp only [Pt.U, Pt.locs, Pt.cells, Pt.slots] at X36 l36 y36 z36 st36 hQ36
      subst l36 y36 z36
      obtain ⟨rfl, Nq36, Kc36, kb36, Vc36⟩ := hQ36
      have N37 := Fr.app N31 Nq36
      refine own_via st36 ?_
      obtain ⟨a36, g36⟩ : ∃ z, z = T30.heap.size := ⟨_, rfl⟩
      rw [← g36] at Vc36 ⊢
      have lt38 : p0 < a36 := Nat.lt_of_lt_of_le V33.lt (Nat.le_of_eq g36.symm)
      have fr39 : n0 ≤ a36 := Nat.le_trans Zs34 (Nat.le_of_eq g36.symm)
      have hf40 : h0.size ≤ a36 := Nat.le_trans K35.1 (Nat.le_of_eq g36.symm)
      have O41 : Old Z n0 T36.heap := O32.keep Kc36 all0
      have V42 := V33.keep Kc36 nin0
      have Zs43 : n0 ≤ T36.heap.size := Nat.le_trans Zs34 Kc36.1
      have K44 : Keep h0 T36.heap [] := K35.trans Kc36 all0
      refine own_via (fun t kz => XS.astore X36.here hx rfl (hb hby d8_26) rfl rfl (l' := #[oR p0, oI (0 : Int32), oI (3 : Int32), oR a1, oI (1 : Int32), oR a36]) rfl kz) ?_
      refine own_via (fun t kz => XS.aload X36.here hx rfl (hb hby d8_28) rfl rfl kz) ?_
      refine own_via (fun t kz => XS.iload X36.here hx rfl (hb hby d8_30) rfl kz) ?_
      show own_Go p e below _ (T36.setTop (mkF m 32 #[oR p0, oI (0 : Int32), oI (3 : Int32), oR a1, oI (1 : Int32), oR a36] [(.int (1 : Int32)), (.ref a36)]))
      obtain ⟨_, _, ⟨T45, L45, k45, n45⟩, -, X45, ⟨Lc45, hQ45, l45, y45, z45⟩, st45⟩ := Jvm.LawKit.callS X36 hx (y := (⟨"java/lang/StringUTF16", "getChar", "([BI)C"⟩ : MethodName)) hown (mvT hZ (own_w hw 95)) (mvT hZ (own_w hw 96)) (mvT hZ (own_w hw 43)) (mvT hZ (own_w hw 97)) (by decide) (backOf (W := 0) (rmG3_1 l Z a0 hw [] a36 (1 : Int32) (0 : Int32) (8 : Int32) kb36 ((c0_ >>> ((0 : Int32) &&& 31)).toInt8.toInt32) ((c0_ >>> ((8 : Int32) &&& 31)).toInt8.toInt32) ((c1_ >>> ((0 : Int32) &&& 31)).toInt8.toInt32) ((c1_ >>> ((8 : Int32) &&& 31)).toInt8.toInt32) ((c2_ >>> ((0 : Int32) &&& 31)).toInt8.toInt32) ((c2_ >>> ((8 : Int32) &&& 31)).toInt8.toInt32) c1_ T36.heap n0 Zs43 rfl (B_wad.ext O41.2) (B_whi.ext O41.2) (B_wlo.ext O41.2) Vc36 (by unfold fG3_1; exact own_utf hc1)) hZ (own_w hw 97) (own_w hw 43) (by decide) (by decide)) (g := (mkF m 32 #[oR p0, oI (0 : Int32), oI (3 : Int32), oR a1, oI (1 : Int32), oR a36] [(.int (1 : Int32)), (.ref a36)])) rfl (by rw [hml]; rfl) (argsL := [(.ref a36), (.int (1 : Int32))]) (rest := []) (lenOf pd_8_2 rfl) rfl (by show 2 * 0 + _ ≤ _; exact Nat.le_of_eq rfl) (hb hby d8_32) (fun _ _ => ⟨rfl, rfl, (by decide : 2 + 0 ≤ _), (by decide : 9 + 0 ≤ _)⟩)
      dsimp only [Pt.U, Pt.locs, Pt.cells, Pt.slots] at X45 l45 y45 z45 st45 hQ45
      subst l45 y45 z45
      obtain ⟨rfl, Nq45, e45⟩ := hQ45
      have N46 := Fr.app N37 Nq45
      refine own_via st45 ?_
      refine own_via (fun t kz => XS.sipush X45.here hx rfl (hb hby d8_35) kz) ?_
      show own_Go p e below _ (T45.setTop (mkF m 38 #[oR p0, oI (0 : Int32), oI (3 : Int32), oR a1, oI (1 : Int32), oR a36] [(.int (255 : Int32)), (.int c1_)]))
      refine own_via (fun t kz => XS.icmpYes X45.here hx rfl (pc0 := 38) (pc' := 54) rfl (hb hby d8_38) rfl (tlt hc9_29).2.2.1 (by decide) (by decide) kz) ?_
      refine own_via (fun t kz => XS.aload X45.here hx rfl (hb hby d8_54) rfl rfl kz) ?_
      show own_Go p e below _ (T45.setTop (mkF m 56 #[oR p0, oI (0 : Int32), oI (3 : Int32), oR a1, oI (1 : Int32), oR a36] [(.ref a36)]))
      obtain ⟨fs, hr, hrun, hended, hW, hsame⟩ := X45.leave (v := some (.ref a36)) (fun h => by rw [Bd.returns] at h; cases h)
      refine ⟨_, _, retOut X45 hx (i := .areturn) Bd.returns rfl (Or.inr (Or.inr (Or.inr (Or.inr ⟨rfl, rfl, rfl⟩)))) (hb hby d8_56) hr, hrun, hended, _, _, rfl, ?_, ⟨_, rfl⟩, hW, hsame.mono (by decide) (by decide)⟩
      show QB3 Z p0 kc c0_ c1_ c2_ wcs wsf h0 n0 _ T45.heap _
      rw [e45]
      exact ⟨a36, rfl, N46, K44, hf40, Or.inr ⟨_, Vc36⟩⟩
    · by_cases hc9_48 : (255 : Int32) < c2_
      · obtain ⟨_, _, ⟨T49, L49, k49, n49⟩, -, X49, ⟨Lc49, hQ49, l49, y49, z49⟩, st49⟩ := Jvm.LawKit.callS X1 hx (y := (⟨"java/lang/StringUTF16", "compress", "([CI[BII)I"⟩ : MethodName)) hown (mvT hZ (own_w hw 45)) (mvT hZ (own_w hw 46)) (mvT hZ (own_w hw 43)) (mvT hZ (own_w hw 47)) (by decide) (backOf (W := 0) (rmK3 l Z a0 hw [] p0 a1 kc k1 c0_ c1_ c2_ (2 : Int32) h1 n0 Zs7 fr3 (Nat.ne_of_lt lt2) V6 V9 (by unfold own_cnt3; rw [if_neg hc9_10, if_neg hc9_29, if_pos hc9_48])) hZ (own_w hw 47) (own_w hw 43) (by decide) (by decide)) (g := (mkF m 9 #[oR p0, oI (0 : Int32), oI (3 : Int32), oR a1, .unset, .unset] [(.int (3 : Int32)), (.int (0 : Int32)), (.ref a1), (.int (0 : Int32)), (.ref p0)])) rfl (by rw [hml]; rfl) (argsL := [(.ref p0), (.int (0 : Int32)), (.ref a1), (.int (0 : Int32)), (.int (3 : Int32))]) (rest := []) (lenOf pd_8_0 rfl) rfl (by show 2 * 0 + _ ≤ _; exact Nat.le_of_eq rfl) (hb hby d8_9) (fun _ _ => ⟨rfl, e1, (by decide : 1 + 0 ≤ _), (by decide : 3 + 0 ≤ _)⟩)
        dsimp only [Pt.U, Pt.locs, Pt.cells, Pt.slots] at X49 l49 y49 z49 st49 hQ49
        subst l49 y49 z49
        obtain ⟨rfl, Nq49, Kc49, Im49⟩ := hQ49
        have N50 := Fr.app N0 Nq49
        refine own_via st49 ?_
        have O51 : Old Z n0 T49.heap := O5.keep Kc49 (allS fr3 all0)
        have V52 := V6.keep Kc49 (ninS (Nat.ne_of_lt lt2) nin0)
        have Zs53 : n0 ≤ T49.heap.size := Nat.le_trans Zs7 Kc49.1
        have K54 : Keep h0 T49.heap [] := K8.trans Kc49 (allS (Or.inr hf4) all0)
        refine own_via (fun t kz => XS.istore X49.here hx rfl (hb hby d8_12) rfl (l' := #[oR p0, oI (0 : Int32), oI (3 : Int32), oR a1, oI (2 : Int32), .unset]) rfl kz) ?_
        refine own_via (fun t kz => XS.iload X49.here hx rfl (hb hby d8_14) rfl kz) ?_
        refine own_via (fun t kz => XS.iloadN X49.here hx rfl (hb hby d8_16) rfl kz) ?_
        show own_Go p e below _ (T49.setTop (mkF m 17 #[oR p0, oI (0 : Int32), oI (3 : Int32), oR a1, oI (2 : Int32), .unset] [(.int (3 : Int32)), (.int (2 : Int32))]))
        refine own_via (fun t kz => XS.icmpNo X49.here hx rfl (hb hby d8_17) rfl (feq (by decide : ¬ ((2 : Int32) = (3 : Int32)))).1 kz) ?_
        refine own_via (fun t kz => XS.aloadN X49.here hx rfl (hb hby d8_20) rfl rfl kz) ?_
        refine own_via (fun t kz => XS.iloadN X49.here hx rfl (hb hby d8_21) rfl kz) ?_
        refine own_via (fun t kz => XS.iloadN X49.here hx rfl (hb hby d8_22) rfl kz) ?_
        show own_Go p e below _ (T49.setTop (mkF m 23 #[oR p0, oI (0 : Int32), oI (3 : Int32), oR a1, oI (2 : Int32), .unset] [(.int (3 : Int32)), (.int (0 : Int32)), (.ref p0)]))
        obtain ⟨_, _, ⟨T55, L55, k55, n55⟩, -, X55, ⟨Lc55, hQ55, l55, y55, z55⟩, st55⟩ := Jvm.LawKit.callS X49 hx (y := (⟨"java/lang/StringUTF16", "toBytes", "([CII)[B"⟩ : MethodName)) hown (mvT hZ (own_w hw 79)) (mvT hZ (own_w hw 80)) (mvT hZ (own_w hw 43)) (mvT hZ (own_w hw 81)) (by decide) (backOf (W := 0) (rmT3 l Z a0 hw [] p0 kc c0_ c1_ c2_ wcs wsf T49.heap n0 Zs53 V52 O51 hcs rsf B_wcs B_wsf B_wad B_whi B_wlo) hZ (own_w hw 81) (own_w hw 43) (by decide) (by decide)) (g := (mkF m 23 #[oR p0, oI (0 : Int32), oI (3 : Int32), oR a1, oI (2 : Int32), .unset] [(.int (3 : Int32)), (.int (0 : Int32)), (.ref p0)])) rfl (by rw [hml]; rfl) (argsL := [(.ref p0), (.int (0 : Int32)), (.int (3 : Int32))]) (rest := []) (lenOf pd_8_1 rfl) rfl (by show 2 * 0 + _ ≤ _; exact Nat.le_of_eq rfl) (hb hby d8_23) (fun _ _ => ⟨rfl, rfl, (by decide : 1 + 1 ≤ _), (by decide : 3 + 6 ≤ _)⟩)
        dsimp only [Pt.U, Pt.locs, Pt.cells, Pt.slots] at X55 l55 y55 z55 st55 hQ55
        subst l55 y55 z55
        obtain ⟨rfl, Nq55, Kc55, kb55, Vc55⟩ := hQ55
        have N56 := Fr.app N50 Nq55
        refine own_via st55 ?_
        obtain ⟨a55, g55⟩ : ∃ z, z = T49.heap.size := ⟨_, rfl⟩
        rw [← g55] at Vc55 ⊢
        have lt57 : p0 < a55 := Nat.lt_of_lt_of_le V52.lt (Nat.le_of_eq g55.symm)
        have fr58 : n0 ≤ a55 := Nat.le_trans Zs53 (Nat.le_of_eq g55.symm)
        have hf59 : h0.size ≤ a55 := Nat.le_trans K54.1 (Nat.le_of_eq g55.symm)
        have O60 : Old Z n0 T55.heap := O51.keep Kc55 all0
        have V61 := V52.keep Kc55 nin0
        have Zs62 : n0 ≤ T55.heap.size := Nat.le_trans Zs53 Kc55.1
        have K63 : Keep h0 T55.heap [] := K54.trans Kc55 all0
        refine own_via (fun t kz => XS.astore X55.here hx rfl (hb hby d8_26) rfl rfl (l' := #[oR p0, oI (0 : Int32), oI (3 : Int32), oR a1, oI (2 : Int32), oR a55]) rfl kz) ?_
        refine own_via (fun t kz => XS.aload X55.here hx rfl (hb hby d8_28) rfl rfl kz) ?_
        refine own_via (fun t kz => XS.iload X55.here hx rfl (hb hby d8_30) rfl kz) ?_
        show own_Go p e below _ (T55.setTop (mkF m 32 #[oR p0, oI (0 : Int32), oI (3 : Int32), oR a1, oI (2 : Int32), oR a55] [(.int (2 : Int32)), (.ref a55)]))
        obtain ⟨_, _, ⟨T64, L64, k64, n64⟩, -, X64, ⟨Lc64, hQ64, l64, y64, z64⟩, st64⟩ := Jvm.LawKit.callS X55 hx (y := (⟨"java/lang/StringUTF16", "getChar", "([BI)C"⟩ : MethodName)) hown (mvT hZ (own_w hw 95)) (mvT hZ (own_w hw 96)) (mvT hZ (own_w hw 43)) (mvT hZ (own_w hw 97)) (by decide) (backOf (W := 0) (rmG3_2 l Z a0 hw [] a55 (1 : Int32) (0 : Int32) (8 : Int32) kb55 ((c0_ >>> ((0 : Int32) &&& 31)).toInt8.toInt32) ((c0_ >>> ((8 : Int32) &&& 31)).toInt8.toInt32) ((c1_ >>> ((0 : Int32) &&& 31)).toInt8.toInt32) ((c1_ >>> ((8 : Int32) &&& 31)).toInt8.toInt32) ((c2_ >>> ((0 : Int32) &&& 31)).toInt8.toInt32) ((c2_ >>> ((8 : Int32) &&& 31)).toInt8.toInt32) c2_ T55.heap n0 Zs62 rfl (B_wad.ext O60.2) (B_whi.ext O60.2) (B_wlo.ext O60.2) Vc55 (by unfold fG3_2; exact own_utf hc2)) hZ (own_w hw 97) (own_w hw 43) (by decide) (by decide)) (g := (mkF m 32 #[oR p0, oI (0 : Int32), oI (3 : Int32), oR a1, oI (2 : Int32), oR a55] [(.int (2 : Int32)), (.ref a55)])) rfl (by rw [hml]; rfl) (argsL := [(.ref a55), (.int (2 : Int32))]) (rest := []) (lenOf pd_8_2 rfl) rfl (by show 2 * 0 + _ ≤ _; exact Nat.le_of_eq rfl) (hb hby d8_32) (fun _ _ => ⟨rfl, rfl, (by decide : 2 + 0 ≤ _), (by decide : 9 + 0 ≤ _)⟩)
        dsimp only [Pt.U, Pt.locs, Pt.cells, Pt.slots] at X64 l64 y64 z64 st64 hQ64
        subst l64 y64 z64
        obtain ⟨rfl, Nq64, e64⟩ := hQ64
        have N65 := Fr.app N56 Nq64
        refine own_via st64 ?_
        refine own_via (fun t kz => XS.sipush X64.here hx rfl (hb hby d8_35) kz) ?_
        show own_Go p e below _ (T64.setTop (mkF m 38 #[oR p0, oI (0 : Int32), oI (3 : Int32), oR a1, oI (2 : Int32), oR a55] [(.int (255 : Int32)), (.int c2_)]))
        refine own_via (fun t kz => XS.icmpYes X64.here hx rfl (pc0 := 38) (pc' := 54) rfl (hb hby d8_38) rfl (tlt hc9_48).2.2.1 (by decide) (by decide) kz) ?_
        refine own_via (fun t kz => XS.aload X64.here hx rfl (hb hby d8_54) rfl rfl kz) ?_
        show own_Go p e below _ (T64.setTop (mkF m 56 #[oR p0, oI (0 : Int32), oI (3 : Int32), oR a1, oI (2 : Int32), oR a55] [(.ref a55)]))
        obtain ⟨fs, hr, hrun, hended, hW, hsame⟩ := X64.leave (v := some (.ref a55)) (fun h => by rw [Bd.returns] at h; cases h)
        refine ⟨_, _, retOut X64 hx (i := .areturn) Bd.returns rfl (Or.inr (Or.inr (Or.inr (Or.inr ⟨rfl, rfl, rfl⟩)))) (hb hby d8_56) hr, hrun, hended, _, _, rfl, ?_, ⟨_, rfl⟩, hW, hsame.mono (by decide) (by decide)⟩
        show QB3 Z p0 kc c0_ c1_ c2_ wcs wsf h0 n0 _ T64.heap _
        rw [e64]
        exact ⟨a55, rfl, N65, K63, hf59, Or.inr ⟨_, Vc55⟩⟩
      · obtain ⟨_, _, ⟨T67, L67, k67, n67⟩, -, X67, ⟨Lc67, hQ67, l67, y67, z67⟩, st67⟩ := Jvm.LawKit.callS X1 hx (y := (⟨"java/lang/StringUTF16", "compress", "([CI[BII)I"⟩ : MethodName)) hown (mvT hZ (own_w hw 45)) (mvT hZ (own_w hw 46)) (mvT hZ (own_w hw 43)) (mvT hZ (own_w hw 47)) (by decide) (backOf (W := 0) (rmK3 l Z a0 hw [] p0 a1 kc k1 c0_ c1_ c2_ (3 : Int32) h1 n0 Zs7 fr3 (Nat.ne_of_lt lt2) V6 V9 (by unfold own_cnt3; rw [if_neg hc9_10, if_neg hc9_29, if_neg hc9_48])) hZ (own_w hw 47) (own_w hw 43) (by decide) (by decide)) (g := (mkF m 9 #[oR p0, oI (0 : Int32), oI (3 : Int32), oR a1, .unset, .unset] [(.int (3 : Int32)), (.int (0 : Int32)), (.ref a1), (.int (0 : Int32)), (.ref p0)])) rfl (by rw [hml]; rfl) (argsL := [(.ref p0), (.int (0 : Int32)), (.ref a1), (.int (0 : Int32)), (.int (3 : Int32))]) (rest := []) (lenOf pd_8_0 rfl) rfl (by show 2 * 0 + _ ≤ _; exact Nat.le_of_eq rfl) (hb hby d8_9) (fun _ _ => ⟨rfl, e1, (by decide : 1 + 0 ≤ _), (by decide : 3 + 0 ≤ _)⟩)
        dsimp only [Pt.U, Pt.locs, Pt.cells, Pt.slots] at X67 l67 y67 z67 st67 hQ67
        subst l67 y67 z67
        obtain ⟨rfl, Nq67, Kc67, Im67⟩ := hQ67
        have N68 := Fr.app N0 Nq67
        refine own_via st67 ?_
        have O69 : Old Z n0 T67.heap := O5.keep Kc67 (allS fr3 all0)
        have V70 := V6.keep Kc67 (ninS (Nat.ne_of_lt lt2) nin0)
        have Zs71 : n0 ≤ T67.heap.size := Nat.le_trans Zs7 Kc67.1
        have K72 : Keep h0 T67.heap [] := K8.trans Kc67 (allS (Or.inr hf4) all0)
        refine own_via (fun t kz => XS.istore X67.here hx rfl (hb hby d8_12) rfl (l' := #[oR p0, oI (0 : Int32), oI (3 : Int32), oR a1, oI (3 : Int32), .unset]) rfl kz) ?_
        refine own_via (fun t kz => XS.iload X67.here hx rfl (hb hby d8_14) rfl kz) ?_
        refine own_via (fun t kz => XS.iloadN X67.here hx rfl (hb hby d8_16) rfl kz) ?_
        show own_Go p e below _ (T67.setTop (mkF m 17 #[oR p0, oI (0 : Int32), oI (3 : Int32), oR a1, oI (3 : Int32), .unset] [(.int (3 : Int32)), (.int (3 : Int32))]))
        refine own_via (fun t kz => XS.icmpYes X67.here hx rfl (pc0 := 17) (pc' := 57) rfl (hb hby d8_17) rfl (teq (by decide : (3 : Int32) = (3 : Int32))).1 (by decide) (by decide) kz) ?_
        refine own_via (fun t kz => XS.aloadN X67.here hx rfl (hb hby d8_57) rfl rfl kz) ?_
        show own_Go p e below _ (T67.setTop (mkF m 58 #[oR p0, oI (0 : Int32), oI (3 : Int32), oR a1, oI (3 : Int32), .unset] [(.ref a1)]))
        obtain ⟨fs, hr, hrun, hended, hW, hsame⟩ := X67.leave (v := some (.ref a1)) (fun h => by rw [Bd.returns] at h; cases h)
        refine ⟨_, _, retOut X67 hx (i := .areturn) Bd.returns rfl (Or.inr (Or.inr (Or.inr (Or.inr ⟨rfl, rfl, rfl⟩)))) (hb hby d8_58) hr, hrun, hended, _, _, rfl, ?_, ⟨_, rfl⟩, hW, hsame.mono (by decide) (by decide)⟩
        show QB3 Z p0 kc c0_ c1_ c2_ wcs wsf h0 n0 _ T67.heap _
        exact ⟨a1, rfl, N68, K72, hf4, Or.inl ⟨⟨hc9_10, hc9_29, hc9_48⟩, _, (Im67 ⟨hc9_10, hc9_29, hc9_48⟩)⟩⟩
def own_Str3 (Z : State) (h : Heap) (n0 : Nat) (this : Addr) (c0_ c1_ c2_ : Int32) : Prop := ∃ (arr : Addr) (kb : ClassId), (n0 ≤ this ∧ @LT.lt Nat instLTNat this arr) ∧ Exa Z h this "java/lang/String" ∧ Fld Z h this "java/lang/String" "value" "[B" (.ref arr) ∧ (((¬ (255 : Int32) < c0_ ∧ ¬ (255 : Int32) < c1_ ∧ ¬ (255 : Int32) < c2_) ∧ Fld Z h this "java/lang/String" "coder" "B" (.int (0 : Int32)) ∧ Arv Z h arr kb .byte (3 : Int32) [(.int (c0_.toInt8.toInt32)), (.int (c1_.toInt8.toInt32)), (.int (c2_.toInt8.toInt32))] (.int (0 : Int32))) ∨ (Fld Z h this "java/lang/String" "coder" "B" (.int (1 : Int32)) ∧ Arv Z h arr kb .byte (6 : Int32) [(.int ((c0_ >>> ((0 : Int32) &&& 31)).toInt8.toInt32)), (.int ((c0_ >>> ((8 : Int32) &&& 31)).toInt8.toInt32)), (.int ((c1_ >>> ((0 : Int32) &&& 31)).toInt8.toInt32)), (.int ((c1_ >>> ((8 : Int32) &&& 31)).toInt8.toInt32)), (.int ((c2_ >>> ((0 : Int32) &&& 31)).toInt8.toInt32)), (.int ((c2_ >>> ((8 : Int32) &&& 31)).toInt8.toInt32))] (.int (0 : Int32))))
theorem ef_rmI4_3 (m : MethodId) (q0 : Addr) (q1 : Addr) : entryFrame m #[(.ref q0), (.ref q1), (.int (0 : Int32)), (.int (3 : Int32)), .null] 6 = mkF m 0 #[oR q0, oR q1, oI (0 : Int32), oI (3 : Int32), .val .null, .unset] [] := by first | (simp [entryFrame, mkF, argsToLocals, Value.category]; done) | rfl
def QI4_3 (Z : State) (this : Addr) (p1 : Addr) (kc : ClassId) (c0_ : Int32) (c1_ : Int32) (c2_ : Int32) (wcs : Int32) (wsf : Value) (h0 : Heap) (n0 : Nat) (v : Option Value) (h : Heap) (L : List Loc) : Prop := v = none ∧ Fr n0 L ∧ Keep h0 h [this] ∧ own_Str3 Z h n0 this c0_ c1_ c2_
set_option maxRecDepth 65536 in
set_option maxHeartbeats 40000000 in
theorem rmI4_3 (l : Launch) (Z : State) (a0 : Array Value) (hw : ∀ d ∈ tables_1, d.before a0 Z = true) (ws : List Jvm.Cond) (this : Addr) (p1 : Addr) (kc : ClassId) (c0_ : Int32) (c1_ : Int32) (c2_ : Int32) (wcs : Int32) (wsf : Value) (h0 : Heap) (n0 : Nat) (Z0 : n0 ≤ h0.size) (g_this : n0 ≤ this) (E_this : Exa Z h0 this "java/lang/String") (F_value : Fld Z h0 this "java/lang/String" "value" "[B" .null) (F_coder : Fld Z h0 this "java/lang/String" "coder" "B" (.int (0 : Int32))) (VC : Arv Z h0 p1 kc .char (3 : Int32) [(.int c0_), (.int c1_), (.int c2_)] (.int (0 : Int32))) (nec : p1 ≠ this) (hc0 : own_ch c0_) (hc1 : own_ch c1_) (hc2 : own_ch c2_) (OLD : Old Z n0 h0) (hcs : ¬ (wcs = (0 : Int32))) (rsf : wsf.isRef = true) (B_wcs : Sta Z Z.heap "java/lang/String" "COMPACT_STRINGS" "Z" (.int wcs)) (B_wsf : Sta Z Z.heap "jdk/internal/util/Preconditions" "SIOOBE_FORMATTER" "Ljava/util/function/BiFunction;" wsf) (B_wad : Sta Z Z.heap "java/lang/StringUTF16" "$assertionsDisabled" "Z" (.int (1 : Int32))) (B_whi : Sta Z Z.heap "java/lang/StringUTF16" "HI_BYTE_SHIFT" "I" (.int (0 : Int32))) (B_wlo : Sta Z Z.heap "java/lang/StringUTF16" "LO_BYTE_SHIFT" "I" (.int (8 : Int32))) :
    MetFree l (⟨"java/lang/String", "<init>", "([CIILjava/lang/Void;)V"⟩ : MethodName) (head1 (Jvm.Cond.code (⟨"java/lang/String", "<init>", "([CIILjava/lang/Void;)V"⟩ : MethodName) jdk_42_method_149_code 6 none :: ws) ({ frames := 4, cells := 2, slots := 9, locals := 57 } : Room)) (fun a U => a = #[(.ref this), (.ref p1), (.int (0 : Int32)), (.int (3 : Int32)), .null] ∧ Z.Warmed39 U.vm ∧ U.heap = h0) (fun _ _ _ _ _ => True) (fun _ U o U' => ∃ v L, o = .returned v ∧ QI4_3 Z this p1 kc c0_ c1_ c2_ wcs wsf h0 n0 v U'.heap L ∧ FrameEnd U o U' L ({ frames := 4, cells := 2, slots := 9, locals := 57 } : Room).cells ({ frames := 4, cells := 2, slots := 9, locals := 57 } : Room).slots) := by
  refine MetFree.of_bodySF (plainFor_of_name pn_15) hisR ?_
  intro p e s m args below meth c s₁ Bd hml0 hP hK
  obtain ⟨rfl, hZ, hh⟩ := hP
  have hx := Bd.exec
  have hby := Bd.bytes
  have hml : c.maxLocals = 6 := hml0
  have hown : s.vm.findClass "java/lang/String" = some m.cls := findClass_of_methodNamed Bd.named
  have hnm := (name_of_methodNamed Bd.named Bd.method).1
  have X0 : Stand p l e ({ frames := 4, cells := 2, slots := 9, locals := 57 } : Room) s m #[(.ref this), (.ref p1), (.int (0 : Int32)), (.int (3 : Int32)), .null] below meth c s₁ [] 0 0 := Stand.of_body Bd
  have e0 : s₁.heap = h0 := by rw [← hh, Bd.state]; rfl
  have N0 := Fr.nil n0
  refine own_start ?_
  refine own_via (fun t k => castTop (ef_rmI4_3 m this p1) k) ?_
  show own_Go p e below _ (s₁.setTop (mkF m 0 #[oR this, oR p1, oI (0 : Int32), oI (3 : Int32), .val .null, .unset] []))
  refine own_via (fun t kz => XS.aloadN X0.here hx rfl (hb hby d3_0) rfl rfl kz) ?_
  show own_Go p e below _ (s₁.setTop (mkF m 1 #[oR this, oR p1, oI (0 : Int32), oI (3 : Int32), .val .null, .unset] [(.ref this)]))
  obtain ⟨T1, X1, e1, st1⟩ := initO X0 hx hZ hown (own_w hw 15) (own_w hw 16) (own_w hw 17) e0 (g := (mkF m 1 #[oR this, oR p1, oI (0 : Int32), oI (3 : Int32), .val .null, .unset] [(.ref this)])) rfl (by rw [hml]; rfl) rfl (hb hby d3_1) (by decide) (W := 0) (by show 2 * 0 + _ ≤ _; exact Nat.le_of_eq rfl) (by decide)
  refine own_via st1 ?_
  refine own_via (fun t kz => XS.iloadN X1.here hx rfl (hb hby d3_4) rfl kz) ?_
  show own_Go p e below _ (T1.setTop (mkF m 5 #[oR this, oR p1, oI (0 : Int32), oI (3 : Int32), .val .null, .unset] [(.int (3 : Int32))]))
  refine own_via (fun t kz => XS.ifYes X1.here hx rfl (pc0 := 5) (pc' := 27) rfl (hb hby d3_5) rfl ((if0 _ _).trans (feq (by decide : ¬ ((3 : Int32) = (0 : Int32)))).2) (by decide) (by decide) kz) ?_
  show own_Go p e below _ (T1.setTop (mkF m 27 #[oR this, oR p1, oI (0 : Int32), oI (3 : Int32), .val .null, .unset] []))
  obtain ⟨T2, X2, e2, st2⟩ := getS2 X1 hx hZ hown (host := "") (Or.inl (own_w hw 40)) Via.refl e1 (B_wcs.ext OLD.2) (g := (mkF m 27 #[oR this, oR p1, oI (0 : Int32), oI (3 : Int32), .val .null, .unset] [])) rfl (hb hby d3_27)
  refine own_via st2 ?_
  show own_Go p e below _ (T2.setTop (mkF m 30 #[oR this, oR p1, oI (0 : Int32), oI (3 : Int32), .val .null, .unset] [(.int wcs)]))
  refine own_via (fun t kz => XS.ifNo X2.here hx rfl (hb hby d3_30) rfl ((if0 _ _).trans (feq hcs).1) kz) ?_
  refine own_via (fun t kz => XS.aloadN X2.here hx rfl (hb hby d3_33) rfl rfl kz) ?_
  refine own_via (fun t kz => XS.iloadN X2.here hx rfl (hb hby d3_34) rfl kz) ?_
  refine own_via (fun t kz => XS.iloadN X2.here hx rfl (hb hby d3_35) rfl kz) ?_
  show own_Go p e below _ (T2.setTop (mkF m 36 #[oR this, oR p1, oI (0 : Int32), oI (3 : Int32), .val .null, .unset] [(.int (3 : Int32)), (.int (0 : Int32)), (.ref p1)]))
  obtain ⟨_, _, ⟨T3, L3, k3, n3⟩, -, X3, ⟨Lc3, hQ3, l3, y3, z3⟩, st3⟩ := Jvm.LawKit.callS X2 hx (y := (⟨"java/lang/StringUTF16", "compress", "([CII)[B"⟩ : MethodName)) hown (mvT hZ (own_w hw 41)) (mvT hZ (own_w hw 42)) (mvT hZ (own_w hw 43)) (mvT hZ (own_w hw 44)) (by decide) (backOf (W := 0) (rmB3 l Z a0 hw [] p1 kc c0_ c1_ c2_ wcs wsf h0 n0 Z0 VC hc0 hc1 hc2 OLD hcs rsf B_wcs B_wsf B_wad B_whi B_wlo) hZ (own_w hw 44) (own_w hw 43) (by decide) (by decide)) (g := (mkF m 36 #[oR this, oR p1, oI (0 : Int32), oI (3 : Int32), .val .null, .unset] [(.int (3 : Int32)), (.int (0 : Int32)), (.ref p1)])) rfl (by rw [hml]; rfl) (argsL := [(.ref p1), (.int (0 : Int32)), (.int (3 : Int32))]) (rest := []) (lenOf pd_3_0 rfl) rfl (by show 2 * 0 + _ ≤ _; exact Nat.le_of_eq rfl) (hb hby d3_36) (fun _ _ => ⟨rfl, e2, (by decide : 0 + 2 ≤ _), (by decide : 0 + 9 ≤ _)⟩)
  dsimp only [Pt.U, Pt.locs, Pt.cells, Pt.slots] at X3 l3 y3 z3 st3 hQ3
  subst l3 y3 z3
  obtain ⟨r3, rfl, Nq3, Kc3, ge3, Rep3⟩ := hQ3
  have N4 := Fr.app N0 Nq3
  refine own_via st3 ?_
  have lt5 : this < r3 := Nat.lt_of_lt_of_le E_this.lt ge3
  have lt6 : p1 < r3 := Nat.lt_of_lt_of_le VC.lt ge3
  have fr7 : n0 ≤ r3 := Nat.le_trans Z0 ge3
  have hf8 : h0.size ≤ r3 := Nat.le_trans (Keep.refl h0 [this]).1 ge3
  have O9 : Old Z n0 T3.heap := OLD.keep Kc3 all0
  have E10 := E_this.keep Kc3
  have F11 := F_value.keep Kc3 nin0
  have F12 := F_coder.keep Kc3 nin0
  have V13 := VC.keep Kc3 nin0
  have Zs14 : n0 ≤ T3.heap.size := Nat.le_trans Z0 Kc3.1
  have K15 : Keep h0 T3.heap [this] := (Keep.refl h0 [this]).trans Kc3 all0
  rcases Rep3 with ⟨hl3, kb3, Vr3⟩ | ⟨kb3, Vr3⟩
  · refine own_via (fun t kz => XS.astore X3.here hx rfl (hb hby d3_39) rfl rfl (l' := #[oR this, oR p1, oI (0 : Int32), oI (3 : Int32), .val .null, oR r3]) rfl kz) ?_
    refine own_via (fun t kz => XS.aloadN X3.here hx rfl (hb hby d3_41) rfl rfl kz) ?_
    refine own_via (fun t kz => XS.aload X3.here hx rfl (hb hby d3_42) rfl rfl kz) ?_
    refine own_via (fun t kz => XS.iloadN X3.here hx rfl (hb hby d3_44) rfl kz) ?_
    show own_Go p e below _ (T3.setTop (mkF m 45 #[oR this, oR p1, oI (0 : Int32), oI (3 : Int32), .val .null, oR r3] [(.int (3 : Int32)), (.ref r3), (.ref this)]))
    obtain ⟨_, _, ⟨T16, L16, k16, n16⟩, -, X16, ⟨Lc16, hQ16, l16, y16, z16⟩, st16⟩ := Jvm.LawKit.callS X3 hx (y := (⟨"java/lang/StringUTF16", "coderFromArrayLen", "([BI)B"⟩ : MethodName)) hown (mvT hZ (own_w hw 48)) (mvT hZ (own_w hw 49)) (mvT hZ (own_w hw 43)) (mvT hZ (own_w hw 50)) (by decide) (backOf (W := 1) (rmC3_3 l Z a0 hw [] r3 kb3 (c0_.toInt8.toInt32) (c1_.toInt8.toInt32) (c2_.toInt8.toInt32) (0 : Int32) T3.heap n0 Zs14 Vr3 (by decide +kernel)) hZ (own_w hw 50) (own_w hw 43) (by decide) (by decide)) (g := (mkF m 45 #[oR this, oR p1, oI (0 : Int32), oI (3 : Int32), .val .null, oR r3] [(.int (3 : Int32)), (.ref r3), (.ref this)])) rfl (by rw [hml]; rfl) (argsL := [(.ref r3), (.int (3 : Int32))]) (rest := [(.ref this)]) (lenOf pd_3_1 rfl) rfl (by show 2 * 0 + _ ≤ _; exact Nat.le_of_eq rfl) (hb hby d3_45) (fun _ _ => ⟨rfl, rfl, (by decide : 2 + 0 ≤ _), (by decide : 9 + 0 ≤ _)⟩)
    dsimp only [Pt.U, Pt.locs, Pt.cells, Pt.slots] at X16 l16 y16 z16 st16 hQ16
    subst l16 y16 z16
    obtain ⟨rfl, Nq16, e16⟩ := hQ16
    have N17 := Fr.app N4 Nq16
    refine own_via st16 ?_
    show own_Go p e below _ (T16.setTop (mkF m 48 #[oR this, oR p1, oI (0 : Int32), oI (3 : Int32), .val .null, oR r3] [(.int (0 : Int32)), (.ref this)]))
    obtain ⟨T18, h18, X18, e18, W18, st18⟩ := putF X16 hx hZ hown (host := "") (Or.inl (own_w hw 25)) Via.refl e16 F12 E10 (Or.inr ⟨(own_w hw 21), rfl, hnm⟩) (own_w hw 5) (ty := .byte) (by decide) rfl rfl (g := (mkF m 48 #[oR this, oR p1, oI (0 : Int32), oI (3 : Int32), .val .null, oR r3] [(.int (0 : Int32)), (.ref this)])) rfl rfl (hb hby d3_48)
    refine own_via st18 ?_
    have O19 : Old Z n0 h18 := O9.wr W18 g_this
    have E20 := E10.wr W18
    have F21 := F11.other W18 (Or.inr (slot_ne (Or.inr (own_w hw 20)) (Or.inr (own_w hw 21)) (by decide) (t := (.array .byte)) (t' := .byte) (by decide) (by decide)))
    have F22 := F12.same W18
    have V23 := V13.other W18 nec
    have V24 := Vr3.other W18 (Ne.symm (Nat.ne_of_lt lt5))
    have Zs25 : n0 ≤ h18.size := Nat.le_trans Zs14 (Keep.of_wr W18).1
    have N26 := Fr.snoc X18 N17 g_this
    have K27 : Keep h0 h18 [this] := K15.wr W18 (Or.inl (List.mem_of_getElem? (i := 0) rfl))
    refine own_via (fun t kz => XS.aloadN X18.here hx rfl (hb hby d3_51) rfl rfl kz) ?_
    refine own_via (fun t kz => XS.aload X18.here hx rfl (hb hby d3_52) rfl rfl kz) ?_
    show own_Go p e below _ (T18.setTop (mkF m 54 #[oR this, oR p1, oI (0 : Int32), oI (3 : Int32), .val .null, oR r3] [(.ref r3), (.ref this)]))
    obtain ⟨T28, h28, X28, e28, W28, st28⟩ := putF X18 hx hZ hown (host := "") (Or.inl (own_w hw 24)) Via.refl e18 F21 E20 (Or.inr ⟨(own_w hw 20), rfl, hnm⟩) (own_w hw 5) (ty := (.array .byte)) (by decide) rfl rfl (g := (mkF m 54 #[oR this, oR p1, oI (0 : Int32), oI (3 : Int32), .val .null, oR r3] [(.ref r3), (.ref this)])) rfl rfl (hb hby d3_54)
    refine own_via st28 ?_
    have O29 : Old Z n0 h28 := O19.wr W28 g_this
    have E30 := E20.wr W28
    have F31 := F21.same W28
    have F32 := F22.other W28 (Or.inr (slot_ne (Or.inr (own_w hw 21)) (Or.inr (own_w hw 20)) (by decide) (t := .byte) (t' := (.array .byte)) (by decide) (by decide)))
    have V33 := V23.other W28 nec
    have V34 := V24.other W28 (Ne.symm (Nat.ne_of_lt lt5))
    have Zs35 : n0 ≤ h28.size := Nat.le_trans Zs25 (Keep.of_wr W28).1
    have N36 := Fr.snoc X28 N26 g_this
    have K37 : Keep h0 h28 [this] := K27.wr W28 (Or.inl (List.mem_of_getElem? (i := 0) rfl))
    show own_Go p e below _ (T28.setTop (mkF m 57 #[oR this, oR p1, oI (0 : Int32), oI (3 : Int32), .val .null, oR r3] []))
    obtain ⟨fs, hr, hrun, hended, hW, hsame⟩ := X28.leave (v := none) (fun _ => rfl)
    refine ⟨_, _, X28.returnOut hx Bd.returns (hb hby d3_57) hr, hrun, hended, _, _, rfl, ?_, ⟨_, rfl⟩, hW, hsame.mono (by decide) (by decide)⟩
    show QI4_3 Z this p1 kc c0_ c1_ c2_ wcs wsf h0 n0 _ T28.heap _
    rw [e28]
    exact ⟨rfl, N36, K37, r3, kb3, ⟨g_this, lt5⟩, E30, F31, Or.inl ⟨hl3, F32, V34⟩⟩
  · refine own_via (fun t kz => XS.astore X3.here hx rfl (hb hby d3_39) rfl rfl (l' := #[oR this, oR p1, oI (0 : Int32), oI (3 : Int32), .val .null, oR r3]) rfl kz) ?_
    refine own_via (fun t kz => XS.aloadN X3.here hx rfl (hb hby d3_41) rfl rfl kz) ?_
    refine own_via (fun t kz => XS.aload X3.here hx rfl (hb hby d3_42) rfl rfl kz) ?_
    refine own_via (fun t kz => XS.iloadN X3.here hx rfl (hb hby d3_44) rfl kz) ?_
    show own_Go p e below _ (T3.setTop (mkF m 45 #[oR this, oR p1, oI (0 : Int32), oI (3 : Int32), .val .null, oR r3] [(.int (3 : Int32)), (.ref r3), (.ref this)]))
    obtain ⟨_, _, ⟨T39, L39, k39, n39⟩, -, X39, ⟨Lc39, hQ39, l39, y39, z39⟩, st39⟩ := Jvm.LawKit.callS X3 hx (y := (⟨"java/lang/StringUTF16", "coderFromArrayLen", "([BI)B"⟩ : MethodName)) hown (mvT hZ (own_w hw 48)) (mvT hZ (own_w hw 49)) (mvT hZ (own_w hw 43)) (mvT hZ (own_w hw 50)) (by decide) (backOf (W := 1) (rmC3_6 l Z a0 hw [] r3 kb3 ((c0_ >>> ((0 : Int32) &&& 31)).toInt8.toInt32) ((c0_ >>> ((8 : Int32) &&& 31)).toInt8.toInt32) ((c1_ >>> ((0 : Int32) &&& 31)).toInt8.toInt32) ((c1_ >>> ((8 : Int32) &&& 31)).toInt8.toInt32) ((c2_ >>> ((0 : Int32) &&& 31)).toInt8.toInt32) ((c2_ >>> ((8 : Int32) &&& 31)).toInt8.toInt32) (1 : Int32) T3.heap n0 Zs14 Vr3 (by decide +kernel)) hZ (own_w hw 50) (own_w hw 43) (by decide) (by decide)) (g := (mkF m 45 #[oR this, oR p1, oI (0 : Int32), oI (3 : Int32), .val .null, oR r3] [(.int (3 : Int32)), (.ref r3), (.ref this)])) rfl (by rw [hml]; rfl) (argsL := [(.ref r3), (.int (3 : Int32))]) (rest := [(.ref this)]) (lenOf pd_3_1 rfl) rfl (by show 2 * 0 + _ ≤ _; exact Nat.le_of_eq rfl) (hb hby d3_45) (fun _ _ => ⟨rfl, rfl, (by decide : 2 + 0 ≤ _), (by decide : 9 + 0 ≤ _)⟩)
    dsimp only [Pt.U, Pt.locs, Pt.cells, Pt.slots] at X39 l39 y39 z39 st39 hQ39
    subst l39 y39 z39
    obtain ⟨rfl, Nq39, e39⟩ := hQ39
    have N40 := Fr.app N4 Nq39
    refine own_via st39 ?_
    show own_Go p e below _ (T39.setTop (mkF m 48 #[oR this, oR p1, oI (0 : Int32), oI (3 : Int32), .val .null, oR r3] [(.int (1 : Int32)), (.ref this)]))
    obtain ⟨T41, h41, X41, e41, W41, st41⟩ := putF X39 hx hZ hown (host := "") (Or.inl (own_w hw 25)) Via.refl e39 F12 E10 (Or.inr ⟨(own_w hw 21), rfl, hnm⟩) (own_w hw 5) (ty := .byte) (by decide) rfl rfl (g := (mkF m 48 #[oR this, oR p1, oI (0 : Int32), oI (3 : Int32), .val .null, oR r3] [(.int (1 : Int32)), (.ref this)])) rfl rfl (hb hby d3_48)
    refine own_via st41 ?_
    have O42 : Old Z n0 h41 := O9.wr W41 g_this
    have E43 := E10.wr W41
    have F44 := F11.other W41 (Or.inr (slot_ne (Or.inr (own_w hw 20)) (Or.inr (own_w hw 21)) (by decide) (t := (.array .byte)) (t' := .byte) (by decide) (by decide)))
    have F45 := F12.same W41
    have V46 := V13.other W41 nec
    have V47 := Vr3.other W41 (Ne.symm (Nat.ne_of_lt lt5))
    have Zs48 : n0 ≤ h41.size := Nat.le_trans Zs14 (Keep.of_wr W41).1
    have N49 := Fr.snoc X41 N40 g_this
    have K50 : Keep h0 h41 [this] := K15.wr W41 (Or.inl (List.mem_of_getElem? (i := 0) rfl))
    refine own_via (fun t kz => XS.aloadN X41.here hx rfl (hb hby d3_51) rfl rfl kz) ?_
    refine own_via (fun t kz => XS.aload X41.here hx rfl (hb hby d3_52) rfl rfl kz) ?_
    show own_Go p e below _ (T41.setTop (mkF m 54 #[oR this, oR p1, oI (0 : Int32), oI (3 : Int32), .val .null, oR r3] [(.ref r3), (.ref this)]))
    obtain ⟨T51, h51, X51, e51, W51, st51⟩ := putF X41 hx hZ hown (host := "") (Or.inl (own_w hw 24)) Via.refl e41 F44 E43 (Or.inr ⟨(own_w hw 20), rfl, hnm⟩) (own_w hw 5) (ty := (.array .byte)) (by decide) rfl rfl (g := (mkF m 54 #[oR this, oR p1, oI (0 : Int32), oI (3 : Int32), .val .null, oR r3] [(.ref r3), (.ref this)])) rfl rfl (hb hby d3_54)
    refine own_via st51 ?_
    have O52 : Old Z n0 h51 := O42.wr W51 g_this
    have E53 := E43.wr W51
    have F54 := F44.same W51
    have F55 := F45.other W51 (Or.inr (slot_ne (Or.inr (own_w hw 21)) (Or.inr (own_w hw 20)) (by decide) (t := .byte) (t' := (.array .byte)) (by decide) (by decide)))
    have V56 := V46.other W51 nec
    have V57 := V47.other W51 (Ne.symm (Nat.ne_of_lt lt5))
    have Zs58 : n0 ≤ h51.size := Nat.le_trans Zs48 (Keep.of_wr W51).1
    have N59 := Fr.snoc X51 N49 g_this
    have K60 : Keep h0 h51 [this] := K50.wr W51 (Or.inl (List.mem_of_getElem? (i := 0) rfl))
    show own_Go p e below _ (T51.setTop (mkF m 57 #[oR this, oR p1, oI (0 : Int32), oI (3 : Int32), .val .null, oR r3] []))
    obtain ⟨fs, hr, hrun, hended, hW, hsame⟩ := X51.leave (v := none) (fun _ => rfl)
    refine ⟨_, _, X51.returnOut hx Bd.returns (hb hby d3_57) hr, hrun, hended, _, _, rfl, ?_, ⟨_, rfl⟩, hW, hsame.mono (by decide) (by decide)⟩
    show QI4_3 Z this p1 kc c0_ c1_ c2_ wcs wsf h0 n0 _ T51.heap _
    rw [e51]
    exact ⟨rfl, N59, K60, r3, kb3, ⟨g_this, lt5⟩, E53, F54, Or.inr ⟨F55, V57⟩⟩
theorem ef_rmI_3 (m : MethodId) (q0 : Addr) (q1 : Addr) : entryFrame m #[(.ref q0), (.ref q1)] 2 = mkF m 0 #[oR q0, oR q1] [] := by first | (simp [entryFrame, mkF, argsToLocals, Value.category]; done) | rfl
def QI_3 (Z : State) (this : Addr) (p1 : Addr) (kc : ClassId) (c0_ : Int32) (c1_ : Int32) (c2_ : Int32) (wcs : Int32) (wsf : Value) (h0 : Heap) (n0 : Nat) (v : Option Value) (h : Heap) (L : List Loc) : Prop := v = none ∧ Fr n0 L ∧ Keep h0 h [this] ∧ own_Str3 Z h n0 this c0_ c1_ c2_
set_option maxRecDepth 65536 in
set_option maxHeartbeats 40000000 in
theorem rmI_3 (l : Launch) (Z : State) (a0 : Array Value) (hw : ∀ d ∈ tables_1, d.before a0 Z = true) (ws : List Jvm.Cond) (this : Addr) (p1 : Addr) (kc : ClassId) (c0_ : Int32) (c1_ : Int32) (c2_ : Int32) (wcs : Int32) (wsf : Value) (h0 : Heap) (n0 : Nat) (Z0 : n0 ≤ h0.size) (g_this : n0 ≤ this) (E_this : Exa Z h0 this "java/lang/String") (F_value : Fld Z h0 this "java/lang/String" "value" "[B" .null) (F_coder : Fld Z h0 this "java/lang/String" "coder" "B" (.int (0 : Int32))) (VC : Arv Z h0 p1 kc .char (3 : Int32) [(.int c0_), (.int c1_), (.int c2_)] (.int (0 : Int32))) (nec : p1 ≠ this) (hc0 : own_ch c0_) (hc1 : own_ch c1_) (hc2 : own_ch c2_) (OLD : Old Z n0 h0) (hcs : ¬ (wcs = (0 : Int32))) (rsf : wsf.isRef = true) (B_wcs : Sta Z Z.heap "java/lang/String" "COMPACT_STRINGS" "Z" (.int wcs)) (B_wsf : Sta Z Z.heap "jdk/internal/util/Preconditions" "SIOOBE_FORMATTER" "Ljava/util/function/BiFunction;" wsf) (B_wad : Sta Z Z.heap "java/lang/StringUTF16" "$assertionsDisabled" "Z" (.int (1 : Int32))) (B_whi : Sta Z Z.heap "java/lang/StringUTF16" "HI_BYTE_SHIFT" "I" (.int (0 : Int32))) (B_wlo : Sta Z Z.heap "java/lang/StringUTF16" "LO_BYTE_SHIFT" "I" (.int (8 : Int32))) :
    MetFree l (⟨"java/lang/String", "<init>", "([C)V"⟩ : MethodName) (head1 (Jvm.Cond.code (⟨"java/lang/String", "<init>", "([C)V"⟩ : MethodName) jdk_42_method_3_code 2 none :: ws) ({ frames := 5, cells := 2, slots := 9, locals := 74 } : Room)) (fun a U => a = #[(.ref this), (.ref p1)] ∧ Z.Warmed39 U.vm ∧ U.heap = h0) (fun _ _ _ _ _ => True) (fun _ U o U' => ∃ v L, o = .returned v ∧ QI_3 Z this p1 kc c0_ c1_ c2_ wcs wsf h0 n0 v U'.heap L ∧ FrameEnd U o U' L ({ frames := 5, cells := 2, slots := 9, locals := 74 } : Room).cells ({ frames := 5, cells := 2, slots := 9, locals := 74 } : Room).slots) := by
  refine MetFree.of_bodySF (plainFor_of_name pn_15) hisR ?_
  intro p e s m args below meth c s₁ Bd hml0 hP hK
  obtain ⟨rfl, hZ, hh⟩ := hP
  have hx := Bd.exec
  have hby := Bd.bytes
  have hml : c.maxLocals = 2 := hml0
  have hown : s.vm.findClass "java/lang/String" = some m.cls := findClass_of_methodNamed Bd.named
  have hnm := (name_of_methodNamed Bd.named Bd.method).1
  have X0 : Stand p l e ({ frames := 5, cells := 2, slots := 9, locals := 74 } : Room) s m #[(.ref this), (.ref p1)] below meth c s₁ [] 0 0 := Stand.of_body Bd
  have e0 : s₁.heap = h0 := by rw [← hh, Bd.state]; rfl
  have N0 := Fr.nil n0
  refine own_start ?_
  refine own_via (fun t k => castTop (ef_rmI_3 m this p1) k) ?_
  show own_Go p e below _ (s₁.setTop (mkF m 0 #[oR this, oR p1] []))
  refine own_via (fun t kz => XS.aloadN X0.here hx rfl (hb hby d2_0) rfl rfl kz) ?_
  refine own_via (fun t kz => XS.aloadN X0.here hx rfl (hb hby d2_1) rfl rfl kz) ?_
  refine own_via (fun t kz => XS.iconst X0.here hx rfl (hb hby d2_2) kz) ?_
  refine own_via (fun t kz => XS.aloadN X0.here hx rfl (hb hby d2_3) rfl rfl kz) ?_
  show own_Go p e below _ (s₁.setTop (mkF m 4 #[oR this, oR p1] [(.ref p1), (.int (0 : Int32)), (.ref p1), (.ref this)]))
  obtain ⟨cl1, Ar1, kc1, Sz1, Nn1, Hs1, Gs1⟩ := id VC
  refine own_via (fun t kz => X0.arraylength hx (by rw [e0]; exact Ar1.1) (State.isArrayOf_alike hZ.alike Ar1.2.1) (g := (mkF m 4 #[oR this, oR p1] [(.ref p1), (.int (0 : Int32)), (.ref p1), (.ref this)])) rfl rfl (hb hby d2_4) t kz) ?_
  show own_Go p e below _ (s₁.setTop (mkF m 5 #[oR this, oR p1] [(.int (cl1.slots.size.toInt32)), (.int (0 : Int32)), (.ref p1), (.ref this)]))
  rw [len_of Sz1 Nn1]
  show own_Go p e below _ (s₁.setTop (mkF m 5 #[oR this, oR p1] [(.int (3 : Int32)), (.int (0 : Int32)), (.ref p1), (.ref this)]))
  refine own_via (fun t kz => XS.aconstNull X0.here hx rfl (hb hby d2_5) kz) ?_
  show own_Go p e below _ (s₁.setTop (mkF m 6 #[oR this, oR p1] [.null, (.int (3 : Int32)), (.int (0 : Int32)), (.ref p1), (.ref this)]))
  obtain ⟨_, _, ⟨T2, L2, k2, n2⟩, -, X2, ⟨Lc2, hQ2, l2, y2, z2⟩, st2⟩ := X0.specialBack hx (y := (⟨"java/lang/String", "<init>", "([CIILjava/lang/Void;)V"⟩ : MethodName)) rfl hown (mvT hZ (own_w hw 11)) (mvT hZ (own_w hw 12)) (mvT hZ (own_w hw 14)) (by decide) (backOf (W := 0) (rmI4_3 l Z a0 hw [] this p1 kc c0_ c1_ c2_ wcs wsf h0 n0 Z0 g_this E_this F_value F_coder VC nec hc0 hc1 hc2 OLD hcs rsf B_wcs B_wsf B_wad B_whi B_wlo) hZ (own_w hw 14) (own_w hw 6) (by decide) (by decide)) (g := (mkF m 6 #[oR this, oR p1] [.null, (.int (3 : Int32)), (.int (0 : Int32)), (.ref p1), (.ref this)])) rfl (by rw [hml]; rfl) (Steps.refl _) (a := this) (argsL := [(.ref p1), (.int (0 : Int32)), (.int (3 : Int32)), .null]) (rest := []) (lenOf pd_2_0 rfl) rfl (by show 2 * 0 + _ ≤ _; exact Nat.le_of_eq rfl) (hb hby d2_6) (fun _ _ => ⟨rfl, e0, (by decide : 0 + 2 ≤ _), (by decide : 0 + 9 ≤ _)⟩)
  dsimp only [Pt.U, Pt.locs, Pt.cells, Pt.slots] at X2 l2 y2 z2 st2 hQ2
  subst l2 y2 z2
  obtain ⟨rfl, Nq2, Kc2, SR2⟩ := hQ2
  have N3 := Fr.app N0 Nq2
  refine own_tr st2 ?_
  have O4 : Old Z n0 T2.heap := OLD.keep Kc2 (allS g_this all0)
  have E5 := E_this.keep Kc2
  have V6 := VC.keep Kc2 (ninS nec nin0)
  have Zs7 : n0 ≤ T2.heap.size := Nat.le_trans Z0 Kc2.1
  have K8 : Keep h0 T2.heap [this] := (Keep.refl h0 [this]).trans Kc2 (allS (Or.inl (List.mem_of_getElem? (i := 0) rfl)) all0)
  show own_Go p e below _ (T2.setTop (mkF m 9 #[oR this, oR p1] []))
  obtain ⟨fs, hr, hrun, hended, hW, hsame⟩ := X2.leave (v := none) (fun _ => rfl)
  refine ⟨_, _, X2.returnOut hx Bd.returns (hb hby d2_9) hr, hrun, hended, _, _, rfl, ?_, ⟨_, rfl⟩, hW, hsame.mono (by decide) (by decide)⟩
  show QI_3 Z this p1 kc c0_ c1_ c2_ wcs wsf h0 n0 _ T2.heap _
  exact ⟨rfl, N3, K8, SR2⟩
theorem ef_rmL3 (m : MethodId) (q0 : Addr) : entryFrame m #[(.ref q0)] 1 = mkF m 0 #[oR q0] [] := by first | (simp [entryFrame, mkF, argsToLocals, Value.category]; done) | rfl
def QL3 (Z : State) (this : Addr) (c0_ : Int32) (c1_ : Int32) (c2_ : Int32) (wcs : Int32) (wsf : Value) (h0 : Heap) (n0 : Nat) (v : Option Value) (h : Heap) (L : List Loc) : Prop := v = some (.int (3 : Int32)) ∧ Fr n0 L ∧ h = h0
set_option maxRecDepth 65536 in
set_option maxHeartbeats 40000000 in
theorem rmL3 (l : Launch) (Z : State) (a0 : Array Value) (hw : ∀ d ∈ tables_1, d.before a0 Z = true) (ws : List Jvm.Cond) (this : Addr) (c0_ : Int32) (c1_ : Int32) (c2_ : Int32) (wcs : Int32) (wsf : Value) (h0 : Heap) (n0 : Nat) (Z0 : n0 ≤ h0.size) (SR : own_Str3 Z h0 n0 this c0_ c1_ c2_) (OLD : Old Z n0 h0) (hcs : ¬ (wcs = (0 : Int32))) (rsf : wsf.isRef = true) (B_wcs : Sta Z Z.heap "java/lang/String" "COMPACT_STRINGS" "Z" (.int wcs)) (B_wsf : Sta Z Z.heap "jdk/internal/util/Preconditions" "SIOOBE_FORMATTER" "Ljava/util/function/BiFunction;" wsf) (B_wad : Sta Z Z.heap "java/lang/StringUTF16" "$assertionsDisabled" "Z" (.int (1 : Int32))) (B_whi : Sta Z Z.heap "java/lang/StringUTF16" "HI_BYTE_SHIFT" "I" (.int (0 : Int32))) (B_wlo : Sta Z Z.heap "java/lang/StringUTF16" "LO_BYTE_SHIFT" "I" (.int (8 : Int32))) :
    MetFree l (⟨"java/lang/String", "length", "()I"⟩ : MethodName) (head1 (Jvm.Cond.code (⟨"java/lang/String", "length", "()I"⟩ : MethodName) jdk_42_method_54_code 1 (some .int) :: ws) ({ frames := 1, cells := 0, slots := 0, locals := 13 } : Room)) (fun a U => a = #[(.ref this)] ∧ Z.Warmed39 U.vm ∧ U.heap = h0) (fun _ _ _ _ _ => True) (fun _ U o U' => ∃ v L, o = .returned v ∧ QL3 Z this c0_ c1_ c2_ wcs wsf h0 n0 v U'.heap L ∧ FrameEnd U o U' L ({ frames := 1, cells := 0, slots := 0, locals := 13 } : Room).cells ({ frames := 1, cells := 0, slots := 0, locals := 13 } : Room).slots) := by
  refine MetFree.of_bodySF (plainFor_of_name pn_15) hisR ?_
  intro p e s m args below meth c s₁ Bd hml0 hP hK
  obtain ⟨rfl, hZ, hh⟩ := hP
  have hx := Bd.exec
  have hby := Bd.bytes
  have hml : c.maxLocals = 1 := hml0
  have hown : s.vm.findClass "java/lang/String" = some m.cls := findClass_of_methodNamed Bd.named
  have hnm := (name_of_methodNamed Bd.named Bd.method).1
  have X0 : Stand p l e ({ frames := 1, cells := 0, slots := 0, locals := 13 } : Room) s m #[(.ref this)] below meth c s₁ [] 0 0 := Stand.of_body Bd
  have e0 : s₁.heap = h0 := by rw [← hh, Bd.state]; rfl
  have N0 := Fr.nil n0
  refine own_start ?_
  refine own_via (fun t k => castTop (ef_rmL3 m this) k) ?_
  obtain ⟨arr, kb, ⟨ch0, ch1⟩, Eq, Fv, Rp⟩ := SR
  rcases Rp with ⟨hl, Fc, Va⟩ | ⟨Fc, Va⟩
  · show own_Go p e below _ (s₁.setTop (mkF m 0 #[oR this] []))
    refine own_via (fun t kz => XS.aloadN X0.here hx rfl (hb hby d6_0) rfl rfl kz) ?_
    show own_Go p e below _ (s₁.setTop (mkF m 1 #[oR this] [(.ref this)]))
    obtain ⟨T1, X1, e1, st1⟩ := getF X0 hx hZ hown (host := "") (Or.inl (own_w hw 24)) Via.refl e0 Fv (g := (mkF m 1 #[oR this] [(.ref this)])) rfl rfl (hb hby d6_1)
    refine own_via st1 ?_
    show own_Go p e below _ (T1.setTop (mkF m 4 #[oR this] [(.ref arr)]))
    obtain ⟨cl2, Ar2, kc2, Sz2, Nn2, Hs2, Gs2⟩ := id Va
    refine own_via (fun t kz => X1.arraylength hx (by rw [e1]; exact Ar2.1) (State.isArrayOf_alike hZ.alike Ar2.2.1) (g := (mkF m 4 #[oR this] [(.ref arr)])) rfl rfl (hb hby d6_4) t kz) ?_
    show own_Go p e below _ (T1.setTop (mkF m 5 #[oR this] [(.int (cl2.slots.size.toInt32))]))
    rw [len_of Sz2 Nn2]
    show own_Go p e below _ (T1.setTop (mkF m 5 #[oR this] [(.int (3 : Int32))]))
    refine own_via (fun t kz => XS.aloadN X1.here hx rfl (hb hby d6_5) rfl rfl kz) ?_
    show own_Go p e below _ (T1.setTop (mkF m 6 #[oR this] [(.ref this), (.int (3 : Int32))]))
    obtain ⟨cq3, kq3, qa3, qb3, qc3⟩ := isOf hZ e1 Eq
    obtain ⟨_, _, ⟨T3, L3, k3, n3⟩, -, X3, ⟨Lc3, hQ3, l3, y3, z3⟩, st3⟩ := X1.virtualBack hx (y := (⟨"java/lang/String", "coder", "()B"⟩ : MethodName)) (z := (⟨"java/lang/String", "coder", "()B"⟩ : MethodName)) hown (mvT hZ (own_w hw 35)) (mvT hZ (own_w hw 36)) (notFace_of_selects (args := #[]) (mvT hZ (own_w hw 38))) (mvT hZ (own_w hw 38)) (mvT hZ (own_w hw 37)) (by decide) (backOf (W := 1) (rm7 l Z a0 hw [] this (0 : Int32) wcs (0 : Int32) h0 n0 Z0 hcs rfl Fc (B_wcs.ext OLD.2) (by unfold f7; rfl)) hZ (own_w hw 39) (own_w hw 6) (by decide) (by decide)) qa3 qc3 (g := (mkF m 6 #[oR this] [(.ref this), (.int (3 : Int32))])) rfl (by rw [hml]; rfl) (Steps.refl _) (argsL := []) (rest := [(.int (3 : Int32))]) (lenOf pd_6_0 rfl) rfl (by show 2 * 0 + _ ≤ _; exact Nat.le_of_eq rfl) (hb hby d6_6) (fun _ _ => ⟨rfl, e1, (by decide : 0 + 0 ≤ _), (by decide : 0 + 0 ≤ _)⟩)
    dsimp only [Pt.U, Pt.locs, Pt.cells, Pt.slots] at X3 l3 y3 z3 st3 hQ3
    subst l3 y3 z3
    obtain ⟨rfl, Nq3, e3⟩ := hQ3
    have N4 := Fr.app N0 Nq3
    refine own_tr st3 ?_
    show own_Go p e below _ (T3.setTop (mkF m 9 #[oR this] [(.int (0 : Int32)), (.int (3 : Int32))]))
    refine own_via (fun t kz => XS.ishr X3.here hx rfl (hb hby d6_9) rfl kz) ?_
    show own_Go p e below _ (T3.setTop (mkF m 10 #[oR this] [(.int (3 : Int32))]))
    obtain ⟨fs, hr, hrun, hended, hW, hsame⟩ := X3.leave (v := some (.int (3 : Int32))) (fun h => by rw [Bd.returns] at h; cases h)
    refine ⟨_, _, retI X3 hx Bd.returns (hb hby d6_10) hr, hrun, hended, _, _, rfl, ?_, ⟨_, rfl⟩, hW, hsame.mono (by decide) (by decide)⟩
    show QL3 Z this c0_ c1_ c2_ wcs wsf h0 n0 _ T3.heap _
    rw [e3]
    exact ⟨rfl, N4, rfl⟩
  · show own_Go p e below _ (s₁.setTop (mkF m 0 #[oR this] []))
    refine own_via (fun t kz => XS.aloadN X0.here hx rfl (hb hby d6_0) rfl rfl kz) ?_
    show own_Go p e below _ (s₁.setTop (mkF m 1 #[oR this] [(.ref this)]))
    obtain ⟨T6, X6, e6, st6⟩ := getF X0 hx hZ hown (host := "") (Or.inl (own_w hw 24)) Via.refl e0 Fv (g := (mkF m 1 #[oR this] [(.ref this)])) rfl rfl (hb hby d6_1)
    refine own_via st6 ?_
    show own_Go p e below _ (T6.setTop (mkF m 4 #[oR this] [(.ref arr)]))
    obtain ⟨cl7, Ar7, kc7, Sz7, Nn7, Hs7, Gs7⟩ := id Va
    refine own_via (fun t kz => X6.arraylength hx (by rw [e6]; exact Ar7.1) (State.isArrayOf_alike hZ.alike Ar7.2.1) (g := (mkF m 4 #[oR this] [(.ref arr)])) rfl rfl (hb hby d6_4) t kz) ?_
    show own_Go p e below _ (T6.setTop (mkF m 5 #[oR this] [(.int (cl7.slots.size.toInt32))]))
    rw [len_of Sz7 Nn7]
    show own_Go p e below _ (T6.setTop (mkF m 5 #[oR this] [(.int (6 : Int32))]))
    refine own_via (fun t kz => XS.aloadN X6.here hx rfl (hb hby d6_5) rfl rfl kz) ?_
    show own_Go p e below _ (T6.setTop (mkF m 6 #[oR this] [(.ref this), (.int (6 : Int32))]))
    obtain ⟨cq8, kq8, qa8, qb8, qc8⟩ := isOf hZ e6 Eq
    obtain ⟨_, _, ⟨T8, L8, k8, n8⟩, -, X8, ⟨Lc8, hQ8, l8, y8, z8⟩, st8⟩ := X6.virtualBack hx (y := (⟨"java/lang/String", "coder", "()B"⟩ : MethodName)) (z := (⟨"java/lang/String", "coder", "()B"⟩ : MethodName)) hown (mvT hZ (own_w hw 35)) (mvT hZ (own_w hw 36)) (notFace_of_selects (args := #[]) (mvT hZ (own_w hw 38))) (mvT hZ (own_w hw 38)) (mvT hZ (own_w hw 37)) (by decide) (backOf (W := 1) (rm7 l Z a0 hw [] this (1 : Int32) wcs (1 : Int32) h0 n0 Z0 hcs rfl Fc (B_wcs.ext OLD.2) (by unfold f7; rfl)) hZ (own_w hw 39) (own_w hw 6) (by decide) (by decide)) qa8 qc8 (g := (mkF m 6 #[oR this] [(.ref this), (.int (6 : Int32))])) rfl (by rw [hml]; rfl) (Steps.refl _) (argsL := []) (rest := [(.int (6 : Int32))]) (lenOf pd_6_0 rfl) rfl (by show 2 * 0 + _ ≤ _; exact Nat.le_of_eq rfl) (hb hby d6_6) (fun _ _ => ⟨rfl, e6, (by decide : 0 + 0 ≤ _), (by decide : 0 + 0 ≤ _)⟩)
    dsimp only [Pt.U, Pt.locs, Pt.cells, Pt.slots] at X8 l8 y8 z8 st8 hQ8
    subst l8 y8 z8
    obtain ⟨rfl, Nq8, e8⟩ := hQ8
    have N9 := Fr.app N0 Nq8
    refine own_tr st8 ?_
    show own_Go p e below _ (T8.setTop (mkF m 9 #[oR this] [(.int (1 : Int32)), (.int (6 : Int32))]))
    refine own_via (fun t kz => XS.ishr X8.here hx rfl (hb hby d6_9) rfl kz) ?_
    show own_Go p e below _ (T8.setTop (mkF m 10 #[oR this] [(.int (3 : Int32))]))
    obtain ⟨fs, hr, hrun, hended, hW, hsame⟩ := X8.leave (v := some (.int (3 : Int32))) (fun h => by rw [Bd.returns] at h; cases h)
    refine ⟨_, _, retI X8 hx Bd.returns (hb hby d6_10) hr, hrun, hended, _, _, rfl, ?_, ⟨_, rfl⟩, hW, hsame.mono (by decide) (by decide)⟩
    show QL3 Z this c0_ c1_ c2_ wcs wsf h0 n0 _ T8.heap _
    rw [e8]
    exact ⟨rfl, N9, rfl⟩
def fU3  : Int32 := (3 : Int32)
theorem ef_rmU3 (m : MethodId) (q0 : Addr) : entryFrame m #[(.ref q0)] 1 = mkF m 0 #[oR q0] [] := by first | (simp [entryFrame, mkF, argsToLocals, Value.category]; done) | rfl
def QU3 (Z : State) (p0 : Addr) (ka : ClassId) (b0_ : Int32) (b1_ : Int32) (b2_ : Int32) (b3_ : Int32) (b4_ : Int32) (b5_ : Int32) (r : Int32) (h0 : Heap) (n0 : Nat) (v : Option Value) (h : Heap) (L : List Loc) : Prop := v = some (.int r) ∧ Fr n0 L ∧ h = h0
set_option maxRecDepth 65536 in
set_option maxHeartbeats 40000000 in
theorem rmU3 (l : Launch) (Z : State) (a0 : Array Value) (hw : ∀ d ∈ tables_1, d.before a0 Z = true) (ws : List Jvm.Cond) (p0 : Addr) (ka : ClassId) (b0_ : Int32) (b1_ : Int32) (b2_ : Int32) (b3_ : Int32) (b4_ : Int32) (b5_ : Int32) (r : Int32) (h0 : Heap) (n0 : Nat) (Z0 : n0 ≤ h0.size) (V_p0 : Arv Z h0 p0 ka .byte (6 : Int32) [(.int b0_), (.int b1_), (.int b2_), (.int b3_), (.int b4_), (.int b5_)] (.int (0 : Int32))) (hr0 : fU3 = r) :
    MetFree l (⟨"java/lang/StringUTF16", "length", "([B)I"⟩ : MethodName) (head1 (Jvm.Cond.code (⟨"java/lang/StringUTF16", "length", "([B)I"⟩ : MethodName) jdk_52_method_6_code 1 (some .int) :: ws) ({ frames := 0, cells := 0, slots := 0, locals := 0 } : Room)) (fun a U => a = #[(.ref p0)] ∧ Z.Warmed39 U.vm ∧ U.heap = h0) (fun _ _ _ _ _ => True) (fun _ U o U' => ∃ v L, o = .returned v ∧ QU3 Z p0 ka b0_ b1_ b2_ b3_ b4_ b5_ r h0 n0 v U'.heap L ∧ FrameEnd U o U' L ({ frames := 0, cells := 0, slots := 0, locals := 0 } : Room).cells ({ frames := 0, cells := 0, slots := 0, locals := 0 } : Room).slots) := by
  refine MetFree.of_bodySF (plainFor_of_name pn_20) hisR ?_
  intro p e s m args below meth c s₁ Bd hml0 hP hK
  obtain ⟨rfl, hZ, hh⟩ := hP
  have hx := Bd.exec
  have hby := Bd.bytes
  have hml : c.maxLocals = 1 := hml0
  have hown : s.vm.findClass "java/lang/StringUTF16" = some m.cls := findClass_of_methodNamed Bd.named
  have hnm := (name_of_methodNamed Bd.named Bd.method).1
  have X0 : Stand p l e ({ frames := 0, cells := 0, slots := 0, locals := 0 } : Room) s m #[(.ref p0)] below meth c s₁ [] 0 0 := Stand.of_body Bd
  have e0 : s₁.heap = h0 := by rw [← hh, Bd.state]; rfl
  have N0 := Fr.nil n0
  refine own_start ?_
  refine own_via (fun t k => castTop (ef_rmU3 m p0) k) ?_
  show own_Go p e below _ (s₁.setTop (mkF m 0 #[oR p0] []))
  refine own_via (fun t kz => XS.aloadN X0.here hx rfl (hb hby d25_0) rfl rfl kz) ?_
  show own_Go p e below _ (s₁.setTop (mkF m 1 #[oR p0] [(.ref p0)]))
  obtain ⟨cl1, Ar1, kc1, Sz1, Nn1, Hs1, Gs1⟩ := id V_p0
  refine own_via (fun t kz => X0.arraylength hx (by rw [e0]; exact Ar1.1) (State.isArrayOf_alike hZ.alike Ar1.2.1) (g := (mkF m 1 #[oR p0] [(.ref p0)])) rfl rfl (hb hby d25_1) t kz) ?_
  show own_Go p e below _ (s₁.setTop (mkF m 2 #[oR p0] [(.int (cl1.slots.size.toInt32))]))
  rw [len_of Sz1 Nn1]
  show own_Go p e below _ (s₁.setTop (mkF m 2 #[oR p0] [(.int (6 : Int32))]))
  refine own_via (fun t kz => XS.iconst X0.here hx rfl (hb hby d25_2) kz) ?_
  show own_Go p e below _ (s₁.setTop (mkF m 3 #[oR p0] [(.int (1 : Int32)), (.int (6 : Int32))]))
  refine own_via (fun t kz => XS.ishr X0.here hx rfl (hb hby d25_3) rfl kz) ?_
  show own_Go p e below _ (s₁.setTop (mkF m 4 #[oR p0] [(.int (3 : Int32))]))
  have hv : fU3 = (3 : Int32) := by unfold fU3; rfl
  obtain ⟨fs, hr, hrun, hended, hW, hsame⟩ := X0.leave (v := some (.int (3 : Int32))) (fun h => by rw [Bd.returns] at h; cases h)
  refine ⟨_, _, retI X0 hx Bd.returns (hb hby d25_4) hr, hrun, hended, _, _, rfl, ?_, ⟨_, rfl⟩, hW, hsame.mono (by decide) (by decide)⟩
  show QU3 Z p0 ka b0_ b1_ b2_ b3_ b4_ b5_ r h0 n0 _ s₁.heap _
  rw [e0]
  exact ⟨by rw [← hr0, hv], N0, rfl⟩
def fH3_0 (b0_ : Int32) : Int32 := ((b0_ &&& (255 : Int32)).toUInt32.toUInt16.toUInt32.toInt32)
theorem ef_rmH3_0 (m : MethodId) (q0 : Addr) : entryFrame m #[(.ref q0), (.int (0 : Int32))] 2 = mkF m 0 #[oR q0, oI (0 : Int32)] [] := by first | (simp [entryFrame, mkF, argsToLocals, Value.category]; done) | rfl
def QH3_0 (Z : State) (p0 : Addr) (wcs : Int32) (wsf : Value) (ka : ClassId) (b0_ : Int32) (b1_ : Int32) (b2_ : Int32) (r : Int32) (h0 : Heap) (n0 : Nat) (v : Option Value) (h : Heap) (L : List Loc) : Prop := v = some (.int r) ∧ Fr n0 L ∧ h = h0
set_option maxRecDepth 65536 in
set_option maxHeartbeats 40000000 in
theorem rmH3_0 (l : Launch) (Z : State) (a0 : Array Value) (hw : ∀ d ∈ tables_1, d.before a0 Z = true) (ws : List Jvm.Cond) (p0 : Addr) (wcs : Int32) (wsf : Value) (ka : ClassId) (b0_ : Int32) (b1_ : Int32) (b2_ : Int32) (r : Int32) (h0 : Heap) (n0 : Nat) (Z0 : n0 ≤ h0.size) (OLD : Old Z n0 h0) (hcs : ¬ (wcs = (0 : Int32))) (rsf : wsf.isRef = true) (B_wcs : Sta Z Z.heap "java/lang/String" "COMPACT_STRINGS" "Z" (.int wcs)) (B_wsf : Sta Z Z.heap "jdk/internal/util/Preconditions" "SIOOBE_FORMATTER" "Ljava/util/function/BiFunction;" wsf) (B_wad : Sta Z Z.heap "java/lang/StringUTF16" "$assertionsDisabled" "Z" (.int (1 : Int32))) (B_whi : Sta Z Z.heap "java/lang/StringUTF16" "HI_BYTE_SHIFT" "I" (.int (0 : Int32))) (B_wlo : Sta Z Z.heap "java/lang/StringUTF16" "LO_BYTE_SHIFT" "I" (.int (8 : Int32))) (V_p0 : Arv Z h0 p0 ka .byte (3 : Int32) [(.int b0_), (.int b1_), (.int b2_)] (.int (0 : Int32))) (hr0 : (fH3_0 b0_) = r) :
    MetFree l (⟨"java/lang/StringLatin1", "charAt", "([BI)C"⟩ : MethodName) (head1 (Jvm.Cond.code (⟨"java/lang/StringLatin1", "charAt", "([BI)C"⟩ : MethodName) jdk_43_method_2_code 2 (some .char) :: ws) ({ frames := 2, cells := 0, slots := 0, locals := 27 } : Room)) (fun a U => a = #[(.ref p0), (.int (0 : Int32))] ∧ Z.Warmed39 U.vm ∧ U.heap = h0) (fun _ _ _ _ _ => True) (fun _ U o U' => ∃ v L, o = .returned v ∧ QH3_0 Z p0 wcs wsf ka b0_ b1_ b2_ r h0 n0 v U'.heap L ∧ FrameEnd U o U' L ({ frames := 2, cells := 0, slots := 0, locals := 27 } : Room).cells ({ frames := 2, cells := 0, slots := 0, locals := 27 } : Room).slots) := by
  refine MetFree.of_bodySF (plainFor_of_name pn_14) hisR ?_
  intro p e s m args below meth c s₁ Bd hml0 hP hK
  obtain ⟨rfl, hZ, hh⟩ := hP
  have hx := Bd.exec
  have hby := Bd.bytes
  have hml : c.maxLocals = 2 := hml0
  have hown : s.vm.findClass "java/lang/StringLatin1" = some m.cls := findClass_of_methodNamed Bd.named
  have hnm := (name_of_methodNamed Bd.named Bd.method).1
  have X0 : Stand p l e ({ frames := 2, cells := 0, slots := 0, locals := 27 } : Room) s m #[(.ref p0), (.int (0 : Int32))] below meth c s₁ [] 0 0 := Stand.of_body Bd
  have e0 : s₁.heap = h0 := by rw [← hh, Bd.state]; rfl
  have N0 := Fr.nil n0
  refine own_start ?_
  refine own_via (fun t k => castTop (ef_rmH3_0 m p0) k) ?_
  show own_Go p e below _ (s₁.setTop (mkF m 0 #[oR p0, oI (0 : Int32)] []))
  refine own_via (fun t kz => XS.iloadN X0.here hx rfl (hb hby d14_0) rfl kz) ?_
  refine own_via (fun t kz => XS.aloadN X0.here hx rfl (hb hby d14_1) rfl rfl kz) ?_
  show own_Go p e below _ (s₁.setTop (mkF m 2 #[oR p0, oI (0 : Int32)] [(.ref p0), (.int (0 : Int32))]))
  obtain ⟨cl1, Ar1, kc1, Sz1, Nn1, Hs1, Gs1⟩ := id V_p0
  refine own_via (fun t kz => X0.arraylength hx (by rw [e0]; exact Ar1.1) (State.isArrayOf_alike hZ.alike Ar1.2.1) (g := (mkF m 2 #[oR p0, oI (0 : Int32)] [(.ref p0), (.int (0 : Int32))])) rfl rfl (hb hby d14_2) t kz) ?_
  show own_Go p e below _ (s₁.setTop (mkF m 3 #[oR p0, oI (0 : Int32)] [(.int (cl1.slots.size.toInt32)), (.int (0 : Int32))]))
  rw [len_of Sz1 Nn1]
  show own_Go p e below _ (s₁.setTop (mkF m 3 #[oR p0, oI (0 : Int32)] [(.int (3 : Int32)), (.int (0 : Int32))]))
  obtain ⟨_, _, ⟨T2, L2, k2, n2⟩, -, X2, ⟨Lc2, hQ2, l2, y2, z2⟩, st2⟩ := Jvm.LawKit.callS X0 hx (y := (⟨"java/lang/String", "checkIndex", "(II)V"⟩ : MethodName)) hown (mvT hZ (own_w hw 68)) (mvT hZ (own_w hw 69)) (mvT hZ (own_w hw 6)) (mvT hZ (own_w hw 70)) (by decide) (backOf (W := 0) (rm15 l Z a0 hw [] (0 : Int32) (3 : Int32) wsf h0 n0 Z0 rsf (B_wsf.ext OLD.2) (by decide) (by decide)) hZ (own_w hw 70) (own_w hw 6) (by decide) (by decide)) (g := (mkF m 3 #[oR p0, oI (0 : Int32)] [(.int (3 : Int32)), (.int (0 : Int32))])) rfl (by rw [hml]; rfl) (argsL := [(.int (0 : Int32)), (.int (3 : Int32))]) (rest := []) (lenOf pd_14_0 rfl) rfl (by show 2 * 0 + _ ≤ _; exact Nat.le_of_eq rfl) (hb hby d14_3) (fun _ _ => ⟨rfl, e0, (by decide : 0 + 0 ≤ _), (by decide : 0 + 0 ≤ _)⟩)
  dsimp only [Pt.U, Pt.locs, Pt.cells, Pt.slots] at X2 l2 y2 z2 st2 hQ2
  subst l2 y2 z2
  obtain ⟨rfl, Nq2, e2⟩ := hQ2
  have N3 := Fr.app N0 Nq2
  refine own_via st2 ?_
  refine own_via (fun t kz => XS.aloadN X2.here hx rfl (hb hby d14_6) rfl rfl kz) ?_
  refine own_via (fun t kz => XS.iloadN X2.here hx rfl (hb hby d14_7) rfl kz) ?_
  show own_Go p e below _ (T2.setTop (mkF m 8 #[oR p0, oI (0 : Int32)] [(.int (0 : Int32)), (.ref p0)]))
  obtain ⟨cl4, Ar4, kc4, Sz4, Nn4, Hs4, Gs4⟩ := id V_p0
  have in4 := inb_of (j := (0 : Int32)) Sz4 ⟨by decide, by decide⟩
  have at4 : cl4.slots[((0 : Int32)).toNatClampNeg]? = some (.int b0_) := Hs4.at in4 rfl
  refine own_via (fun t kz => X2.baloadBytes hx (j := (0 : Int32)) (v := (.int b0_)) (by rw [e2]; exact Ar4.1) (State.isArrayOf_alike hZ.alike Ar4.2.1) Ar4.2.2 in4 at4 (g := (mkF m 8 #[oR p0, oI (0 : Int32)] [(.int (0 : Int32)), (.ref p0)])) rfl rfl (hb hby d14_8) t kz) ?_
  refine own_via (fun t kz => XS.sipush X2.here hx rfl (hb hby d14_9) kz) ?_
  refine own_via (fun t kz => XS.iand X2.here hx rfl (hb hby d14_12) rfl kz) ?_
  show own_Go p e below _ (T2.setTop (mkF m 13 #[oR p0, oI (0 : Int32)] [(.int (b0_ &&& (255 : Int32)))]))
  refine own_via (fun t kz => XS.i2c X2.here hx rfl (hb hby d14_13) rfl kz) ?_
  show own_Go p e below _ (T2.setTop (mkF m 14 #[oR p0, oI (0 : Int32)] [(.int ((b0_ &&& (255 : Int32)).toUInt32.toUInt16.toUInt32.toInt32))]))
  have hv : (fH3_0 b0_) = ((b0_ &&& (255 : Int32)).toUInt32.toUInt16.toUInt32.toInt32) := by unfold fH3_0; rfl
  obtain ⟨fs, hr, hrun, hended, hW, hsame⟩ := X2.leave (v := some (.int ((b0_ &&& (255 : Int32)).toUInt32.toUInt16.toUInt32.toInt32))) (fun h => by rw [Bd.returns] at h; cases h)
  refine ⟨_, _, retOut X2 hx (i := .ireturn) Bd.returns (narrow_c _) (Or.inl ⟨rfl, by simp, _, rfl⟩) (hb hby d14_14) hr, hrun, hended, _, _, rfl, ?_, ⟨_, rfl⟩, hW, hsame.mono (by decide) (by decide)⟩
  show QH3_0 Z p0 wcs wsf ka b0_ b1_ b2_ r h0 n0 _ T2.heap _
  rw [e2]
  exact ⟨by rw [← hr0, hv], N3, rfl⟩
theorem ef_rmX3_0 (m : MethodId) (q0 : Addr) : entryFrame m #[(.int (0 : Int32)), (.ref q0)] 2 = mkF m 0 #[oI (0 : Int32), oR q0] [] := by first | (simp [entryFrame, mkF, argsToLocals, Value.category]; done) | rfl
def QX3_0 (Z : State) (p1 : Addr) (kb : ClassId) (b0_ : Int32) (b1_ : Int32) (b2_ : Int32) (b3_ : Int32) (b4_ : Int32) (b5_ : Int32) (wcs : Int32) (wsf : Value) (h0 : Heap) (n0 : Nat) (v : Option Value) (h : Heap) (L : List Loc) : Prop := v = none ∧ Fr n0 L ∧ h = h0
set_option maxRecDepth 65536 in
set_option maxHeartbeats 40000000 in
theorem rmX3_0 (l : Launch) (Z : State) (a0 : Array Value) (hw : ∀ d ∈ tables_1, d.before a0 Z = true) (ws : List Jvm.Cond) (p1 : Addr) (kb : ClassId) (b0_ : Int32) (b1_ : Int32) (b2_ : Int32) (b3_ : Int32) (b4_ : Int32) (b5_ : Int32) (wcs : Int32) (wsf : Value) (h0 : Heap) (n0 : Nat) (Z0 : n0 ≤ h0.size) (VB : Arv Z h0 p1 kb .byte (6 : Int32) [(.int b0_), (.int b1_), (.int b2_), (.int b3_), (.int b4_), (.int b5_)] (.int (0 : Int32))) (OLD : Old Z n0 h0) (hcs : ¬ (wcs = (0 : Int32))) (rsf : wsf.isRef = true) (B_wcs : Sta Z Z.heap "java/lang/String" "COMPACT_STRINGS" "Z" (.int wcs)) (B_wsf : Sta Z Z.heap "jdk/internal/util/Preconditions" "SIOOBE_FORMATTER" "Ljava/util/function/BiFunction;" wsf) (B_wad : Sta Z Z.heap "java/lang/StringUTF16" "$assertionsDisabled" "Z" (.int (1 : Int32))) (B_whi : Sta Z Z.heap "java/lang/StringUTF16" "HI_BYTE_SHIFT" "I" (.int (0 : Int32))) (B_wlo : Sta Z Z.heap "java/lang/StringUTF16" "LO_BYTE_SHIFT" "I" (.int (8 : Int32))) :
    MetFree l (⟨"java/lang/StringUTF16", "checkIndex", "(I[B)V"⟩ : MethodName) (head1 (Jvm.Cond.code (⟨"java/lang/StringUTF16", "checkIndex", "(I[B)V"⟩ : MethodName) jdk_52_method_91_code 2 none :: ws) ({ frames := 2, cells := 0, slots := 0, locals := 27 } : Room)) (fun a U => a = #[(.int (0 : Int32)), (.ref p1)] ∧ Z.Warmed39 U.vm ∧ U.heap = h0) (fun _ _ _ _ _ => True) (fun _ U o U' => ∃ v L, o = .returned v ∧ QX3_0 Z p1 kb b0_ b1_ b2_ b3_ b4_ b5_ wcs wsf h0 n0 v U'.heap L ∧ FrameEnd U o U' L ({ frames := 2, cells := 0, slots := 0, locals := 27 } : Room).cells ({ frames := 2, cells := 0, slots := 0, locals := 27 } : Room).slots) := by
  refine MetFree.of_bodySF (plainFor_of_name pn_20) hisR ?_
  intro p e s m args below meth c s₁ Bd hml0 hP hK
  obtain ⟨rfl, hZ, hh⟩ := hP
  have hx := Bd.exec
  have hby := Bd.bytes
  have hml : c.maxLocals = 2 := hml0
  have hown : s.vm.findClass "java/lang/StringUTF16" = some m.cls := findClass_of_methodNamed Bd.named
  have hnm := (name_of_methodNamed Bd.named Bd.method).1
  have X0 : Stand p l e ({ frames := 2, cells := 0, slots := 0, locals := 27 } : Room) s m #[(.int (0 : Int32)), (.ref p1)] below meth c s₁ [] 0 0 := Stand.of_body Bd
  have e0 : s₁.heap = h0 := by rw [← hh, Bd.state]; rfl
  have N0 := Fr.nil n0
  refine own_start ?_
  refine own_via (fun t k => castTop (ef_rmX3_0 m p1) k) ?_
  show own_Go p e below _ (s₁.setTop (mkF m 0 #[oI (0 : Int32), oR p1] []))
  refine own_via (fun t kz => XS.iloadN X0.here hx rfl (hb hby d24_0) rfl kz) ?_
  refine own_via (fun t kz => XS.aloadN X0.here hx rfl (hb hby d24_1) rfl rfl kz) ?_
  show own_Go p e below _ (s₁.setTop (mkF m 2 #[oI (0 : Int32), oR p1] [(.ref p1), (.int (0 : Int32))]))
  obtain ⟨_, _, ⟨T1, L1, k1, n1⟩, -, X1, ⟨Lc1, hQ1, l1, y1, z1⟩, st1⟩ := Jvm.LawKit.callS X0 hx (y := (⟨"java/lang/StringUTF16", "length", "([B)I"⟩ : MethodName)) hown (mvT hZ (own_w hw 104)) (mvT hZ (own_w hw 105)) (mvT hZ (own_w hw 43)) (mvT hZ (own_w hw 106)) (by decide) (backOf (W := 1) (rmU3 l Z a0 hw [] p1 kb b0_ b1_ b2_ b3_ b4_ b5_ (3 : Int32) h0 n0 Z0 VB (by unfold fU3; rfl)) hZ (own_w hw 106) (own_w hw 43) (by decide) (by decide)) (g := (mkF m 2 #[oI (0 : Int32), oR p1] [(.ref p1), (.int (0 : Int32))])) rfl (by rw [hml]; rfl) (argsL := [(.ref p1)]) (rest := [(.int (0 : Int32))]) (lenOf pd_24_0 rfl) rfl (by show 2 * 0 + _ ≤ _; exact Nat.le_of_eq rfl) (hb hby d24_2) (fun _ _ => ⟨rfl, e0, (by decide : 0 + 0 ≤ _), (by decide : 0 + 0 ≤ _)⟩)
  dsimp only [Pt.U, Pt.locs, Pt.cells, Pt.slots] at X1 l1 y1 z1 st1 hQ1
  subst l1 y1 z1
  obtain ⟨rfl, Nq1, e1⟩ := hQ1
  have N2 := Fr.app N0 Nq1
  refine own_via st1 ?_
  show own_Go p e below _ (T1.setTop (mkF m 5 #[oI (0 : Int32), oR p1] [(.int (3 : Int32)), (.int (0 : Int32))]))
  obtain ⟨_, _, ⟨T3, L3, k3, n3⟩, -, X3, ⟨Lc3, hQ3, l3, y3, z3⟩, st3⟩ := Jvm.LawKit.callS X1 hx (y := (⟨"java/lang/String", "checkIndex", "(II)V"⟩ : MethodName)) hown (mvT hZ (own_w hw 107)) (mvT hZ (own_w hw 69)) (mvT hZ (own_w hw 6)) (mvT hZ (own_w hw 70)) (by decide) (backOf (W := 0) (rm15 l Z a0 hw [] (0 : Int32) (3 : Int32) wsf h0 n0 Z0 rsf (B_wsf.ext OLD.2) (by decide) (by decide)) hZ (own_w hw 70) (own_w hw 6) (by decide) (by decide)) (g := (mkF m 5 #[oI (0 : Int32), oR p1] [(.int (3 : Int32)), (.int (0 : Int32))])) rfl (by rw [hml]; rfl) (argsL := [(.int (0 : Int32)), (.int (3 : Int32))]) (rest := []) (lenOf pd_24_1 rfl) rfl (by show 2 * 0 + _ ≤ _; exact Nat.le_of_eq rfl) (hb hby d24_5) (fun _ _ => ⟨rfl, e1, (by decide : 0 + 0 ≤ _), (by decide : 0 + 0 ≤ _)⟩)
  dsimp only [Pt.U, Pt.locs, Pt.cells, Pt.slots] at X3 l3 y3 z3 st3 hQ3
  subst l3 y3 z3
  obtain ⟨rfl, Nq3, e3⟩ := hQ3
  have N4 := Fr.app N2 Nq3
  refine own_via st3 ?_
  show own_Go p e below _ (T3.setTop (mkF m 8 #[oI (0 : Int32), oR p1] []))
  obtain ⟨fs, hr, hrun, hended, hW, hsame⟩ := X3.leave (v := none) (fun _ => rfl)
  refine ⟨_, _, X3.returnOut hx Bd.returns (hb hby d24_8) hr, hrun, hended, _, _, rfl, ?_, ⟨_, rfl⟩, hW, hsame.mono (by decide) (by decide)⟩
  show QX3_0 Z p1 kb b0_ b1_ b2_ b3_ b4_ b5_ wcs wsf h0 n0 _ T3.heap _
  rw [e3]
  exact ⟨rfl, N4, rfl⟩
def fY3_0 (b0_ : Int32) (b1_ : Int32) : Int32 := ((((b0_ &&& (255 : Int32)) <<< ((0 : Int32) &&& 31)) ||| ((b1_ &&& (255 : Int32)) <<< ((8 : Int32) &&& 31))).toUInt32.toUInt16.toUInt32.toInt32)
theorem ef_rmY3_0 (m : MethodId) (q0 : Addr) : entryFrame m #[(.ref q0), (.int (0 : Int32))] 2 = mkF m 0 #[oR q0, oI (0 : Int32)] [] := by first | (simp [entryFrame, mkF, argsToLocals, Value.category]; done) | rfl
def QY3_0 (Z : State) (p0 : Addr) (wcs : Int32) (wsf : Value) (ka : ClassId) (b0_ : Int32) (b1_ : Int32) (b2_ : Int32) (b3_ : Int32) (b4_ : Int32) (b5_ : Int32) (r : Int32) (h0 : Heap) (n0 : Nat) (v : Option Value) (h : Heap) (L : List Loc) : Prop := v = some (.int r) ∧ Fr n0 L ∧ h = h0
set_option maxRecDepth 65536 in
set_option maxHeartbeats 40000000 in
theorem rmY3_0 (l : Launch) (Z : State) (a0 : Array Value) (hw : ∀ d ∈ tables_1, d.before a0 Z = true) (ws : List Jvm.Cond) (p0 : Addr) (wcs : Int32) (wsf : Value) (ka : ClassId) (b0_ : Int32) (b1_ : Int32) (b2_ : Int32) (b3_ : Int32) (b4_ : Int32) (b5_ : Int32) (r : Int32) (h0 : Heap) (n0 : Nat) (Z0 : n0 ≤ h0.size) (OLD : Old Z n0 h0) (hcs : ¬ (wcs = (0 : Int32))) (rsf : wsf.isRef = true) (B_wcs : Sta Z Z.heap "java/lang/String" "COMPACT_STRINGS" "Z" (.int wcs)) (B_wsf : Sta Z Z.heap "jdk/internal/util/Preconditions" "SIOOBE_FORMATTER" "Ljava/util/function/BiFunction;" wsf) (B_wad : Sta Z Z.heap "java/lang/StringUTF16" "$assertionsDisabled" "Z" (.int (1 : Int32))) (B_whi : Sta Z Z.heap "java/lang/StringUTF16" "HI_BYTE_SHIFT" "I" (.int (0 : Int32))) (B_wlo : Sta Z Z.heap "java/lang/StringUTF16" "LO_BYTE_SHIFT" "I" (.int (8 : Int32))) (V_p0 : Arv Z h0 p0 ka .byte (6 : Int32) [(.int b0_), (.int b1_), (.int b2_), (.int b3_), (.int b4_), (.int b5_)] (.int (0 : Int32))) (hr0 : (fY3_0 b0_ b1_) = r) :
    MetFree l (⟨"java/lang/StringUTF16", "charAt", "([BI)C"⟩ : MethodName) (head1 (Jvm.Cond.code (⟨"java/lang/StringUTF16", "charAt", "([BI)C"⟩ : MethodName) jdk_52_method_83_code 2 (some .char) :: ws) ({ frames := 3, cells := 0, slots := 0, locals := 40 } : Room)) (fun a U => a = #[(.ref p0), (.int (0 : Int32))] ∧ Z.Warmed39 U.vm ∧ U.heap = h0) (fun _ _ _ _ _ => True) (fun _ U o U' => ∃ v L, o = .returned v ∧ QY3_0 Z p0 wcs wsf ka b0_ b1_ b2_ b3_ b4_ b5_ r h0 n0 v U'.heap L ∧ FrameEnd U o U' L ({ frames := 3, cells := 0, slots := 0, locals := 40 } : Room).cells ({ frames := 3, cells := 0, slots := 0, locals := 40 } : Room).slots) := by
  refine MetFree.of_bodySF (plainFor_of_name pn_20) hisR ?_
  intro p e s m args below meth c s₁ Bd hml0 hP hK
  obtain ⟨rfl, hZ, hh⟩ := hP
  have hx := Bd.exec
  have hby := Bd.bytes
  have hml : c.maxLocals = 2 := hml0
  have hown : s.vm.findClass "java/lang/StringUTF16" = some m.cls := findClass_of_methodNamed Bd.named
  have hnm := (name_of_methodNamed Bd.named Bd.method).1
  have X0 : Stand p l e ({ frames := 3, cells := 0, slots := 0, locals := 40 } : Room) s m #[(.ref p0), (.int (0 : Int32))] below meth c s₁ [] 0 0 := Stand.of_body Bd
  have e0 : s₁.heap = h0 := by rw [← hh, Bd.state]; rfl
  have N0 := Fr.nil n0
  refine own_start ?_
  refine own_via (fun t k => castTop (ef_rmY3_0 m p0) k) ?_
  show own_Go p e below _ (s₁.setTop (mkF m 0 #[oR p0, oI (0 : Int32)] []))
  refine own_via (fun t kz => XS.iloadN X0.here hx rfl (hb hby d23_0) rfl kz) ?_
  refine own_via (fun t kz => XS.aloadN X0.here hx rfl (hb hby d23_1) rfl rfl kz) ?_
  show own_Go p e below _ (s₁.setTop (mkF m 2 #[oR p0, oI (0 : Int32)] [(.ref p0), (.int (0 : Int32))]))
  obtain ⟨_, _, ⟨T1, L1, k1, n1⟩, -, X1, ⟨Lc1, hQ1, l1, y1, z1⟩, st1⟩ := Jvm.LawKit.callS X0 hx (y := (⟨"java/lang/StringUTF16", "checkIndex", "(I[B)V"⟩ : MethodName)) hown (mvT hZ (own_w hw 101)) (mvT hZ (own_w hw 102)) (mvT hZ (own_w hw 43)) (mvT hZ (own_w hw 103)) (by decide) (backOf (W := 0) (rmX3_0 l Z a0 hw [] p0 ka b0_ b1_ b2_ b3_ b4_ b5_ wcs wsf h0 n0 Z0 V_p0 OLD hcs rsf B_wcs B_wsf B_wad B_whi B_wlo) hZ (own_w hw 103) (own_w hw 43) (by decide) (by decide)) (g := (mkF m 2 #[oR p0, oI (0 : Int32)] [(.ref p0), (.int (0 : Int32))])) rfl (by rw [hml]; rfl) (argsL := [(.int (0 : Int32)), (.ref p0)]) (rest := []) (lenOf pd_23_0 rfl) rfl (by show 2 * 0 + _ ≤ _; exact Nat.le_of_eq rfl) (hb hby d23_2) (fun _ _ => ⟨rfl, e0, (by decide : 0 + 0 ≤ _), (by decide : 0 + 0 ≤ _)⟩)
  dsimp only [Pt.U, Pt.locs, Pt.cells, Pt.slots] at X1 l1 y1 z1 st1 hQ1
  subst l1 y1 z1
  obtain ⟨rfl, Nq1, e1⟩ := hQ1
  have N2 := Fr.app N0 Nq1
  refine own_via st1 ?_
  refine own_via (fun t kz => XS.aloadN X1.here hx rfl (hb hby d23_5) rfl rfl kz) ?_
  refine own_via (fun t kz => XS.iloadN X1.here hx rfl (hb hby d23_6) rfl kz) ?_
  show own_Go p e below _ (T1.setTop (mkF m 7 #[oR p0, oI (0 : Int32)] [(.int (0 : Int32)), (.ref p0)]))
  obtain ⟨_, _, ⟨T3, L3, k3, n3⟩, -, X3, ⟨Lc3, hQ3, l3, y3, z3⟩, st3⟩ := Jvm.LawKit.callS X1 hx (y := (⟨"java/lang/StringUTF16", "getChar", "([BI)C"⟩ : MethodName)) hown (mvT hZ (own_w hw 95)) (mvT hZ (own_w hw 96)) (mvT hZ (own_w hw 43)) (mvT hZ (own_w hw 97)) (by decide) (backOf (W := 0) (rmG3_0 l Z a0 hw [] p0 (1 : Int32) (0 : Int32) (8 : Int32) ka b0_ b1_ b2_ b3_ b4_ b5_ ((((b0_ &&& (255 : Int32)) <<< ((0 : Int32) &&& 31)) ||| ((b1_ &&& (255 : Int32)) <<< ((8 : Int32) &&& 31))).toUInt32.toUInt16.toUInt32.toInt32) h0 n0 Z0 rfl (B_wad.ext OLD.2) (B_whi.ext OLD.2) (B_wlo.ext OLD.2) V_p0 (by unfold fG3_0; rfl)) hZ (own_w hw 97) (own_w hw 43) (by decide) (by decide)) (g := (mkF m 7 #[oR p0, oI (0 : Int32)] [(.int (0 : Int32)), (.ref p0)])) rfl (by rw [hml]; rfl) (argsL := [(.ref p0), (.int (0 : Int32))]) (rest := []) (lenOf pd_23_1 rfl) rfl (by show 2 * 0 + _ ≤ _; exact Nat.le_of_eq rfl) (hb hby d23_7) (fun _ _ => ⟨rfl, e1, (by decide : 0 + 0 ≤ _), (by decide : 0 + 0 ≤ _)⟩)
  dsimp only [Pt.U, Pt.locs, Pt.cells, Pt.slots] at X3 l3 y3 z3 st3 hQ3
  subst l3 y3 z3
  obtain ⟨rfl, Nq3, e3⟩ := hQ3
  have N4 := Fr.app N2 Nq3
  refine own_via st3 ?_
  show own_Go p e below _ (T3.setTop (mkF m 10 #[oR p0, oI (0 : Int32)] [(.int ((((b0_ &&& (255 : Int32)) <<< ((0 : Int32) &&& 31)) ||| ((b1_ &&& (255 : Int32)) <<< ((8 : Int32) &&& 31))).toUInt32.toUInt16.toUInt32.toInt32))]))
  have hv : (fY3_0 b0_ b1_) = ((((b0_ &&& (255 : Int32)) <<< ((0 : Int32) &&& 31)) ||| ((b1_ &&& (255 : Int32)) <<< ((8 : Int32) &&& 31))).toUInt32.toUInt16.toUInt32.toInt32) := by unfold fY3_0; rfl
  obtain ⟨fs, hr, hrun, hended, hW, hsame⟩ := X3.leave (v := some (.int ((((b0_ &&& (255 : Int32)) <<< ((0 : Int32) &&& 31)) ||| ((b1_ &&& (255 : Int32)) <<< ((8 : Int32) &&& 31))).toUInt32.toUInt16.toUInt32.toInt32))) (fun h => by rw [Bd.returns] at h; cases h)
  refine ⟨_, _, retOut X3 hx (i := .ireturn) Bd.returns (narrow_c _) (Or.inl ⟨rfl, by simp, _, rfl⟩) (hb hby d23_10) hr, hrun, hended, _, _, rfl, ?_, ⟨_, rfl⟩, hW, hsame.mono (by decide) (by decide)⟩
  show QY3_0 Z p0 wcs wsf ka b0_ b1_ b2_ b3_ b4_ b5_ r h0 n0 _ T3.heap _
  rw [e3]
  exact ⟨by rw [← hr0, hv], N4, rfl⟩
theorem ef_rmA3_0 (m : MethodId) (q0 : Addr) : entryFrame m #[(.ref q0), (.int (0 : Int32))] 2 = mkF m 0 #[oR q0, oI (0 : Int32)] [] := by first | (simp [entryFrame, mkF, argsToLocals, Value.category]; done) | rfl
def QA3_0 (Z : State) (this : Addr) (c0_ : Int32) (c1_ : Int32) (c2_ : Int32) (wcs : Int32) (wsf : Value) (h0 : Heap) (n0 : Nat) (v : Option Value) (h : Heap) (L : List Loc) : Prop := v = some (.int c0_) ∧ Fr n0 L ∧ h = h0
set_option maxRecDepth 65536 in
set_option maxHeartbeats 40000000 in
theorem rmA3_0 (l : Launch) (Z : State) (a0 : Array Value) (hw : ∀ d ∈ tables_1, d.before a0 Z = true) (ws : List Jvm.Cond) (this : Addr) (c0_ : Int32) (c1_ : Int32) (c2_ : Int32) (wcs : Int32) (wsf : Value) (h0 : Heap) (n0 : Nat) (Z0 : n0 ≤ h0.size) (SR : own_Str3 Z h0 n0 this c0_ c1_ c2_) (hc0 : own_ch c0_) (hc1 : own_ch c1_) (hc2 : own_ch c2_) (OLD : Old Z n0 h0) (hcs : ¬ (wcs = (0 : Int32))) (rsf : wsf.isRef = true) (B_wcs : Sta Z Z.heap "java/lang/String" "COMPACT_STRINGS" "Z" (.int wcs)) (B_wsf : Sta Z Z.heap "jdk/internal/util/Preconditions" "SIOOBE_FORMATTER" "Ljava/util/function/BiFunction;" wsf) (B_wad : Sta Z Z.heap "java/lang/StringUTF16" "$assertionsDisabled" "Z" (.int (1 : Int32))) (B_whi : Sta Z Z.heap "java/lang/StringUTF16" "HI_BYTE_SHIFT" "I" (.int (0 : Int32))) (B_wlo : Sta Z Z.heap "java/lang/StringUTF16" "LO_BYTE_SHIFT" "I" (.int (8 : Int32))) :
    MetFree l (⟨"java/lang/String", "charAt", "(I)C"⟩ : MethodName) (head1 (Jvm.Cond.code (⟨"java/lang/String", "charAt", "(I)C"⟩ : MethodName) jdk_42_method_56_code 2 (some .char) :: ws) ({ frames := 4, cells := 0, slots := 0, locals := 53 } : Room)) (fun a U => a = #[(.ref this), (.int (0 : Int32))] ∧ Z.Warmed39 U.vm ∧ U.heap = h0) (fun _ _ _ _ _ => True) (fun _ U o U' => ∃ v L, o = .returned v ∧ QA3_0 Z this c0_ c1_ c2_ wcs wsf h0 n0 v U'.heap L ∧ FrameEnd U o U' L ({ frames := 4, cells := 0, slots := 0, locals := 53 } : Room).cells ({ frames := 4, cells := 0, slots := 0, locals := 53 } : Room).slots) := by
  refine MetFree.of_bodySF (plainFor_of_name pn_15) hisR ?_
  intro p e s m args below meth c s₁ Bd hml0 hP hK
  obtain ⟨rfl, hZ, hh⟩ := hP
  have hx := Bd.exec
  have hby := Bd.bytes
  have hml : c.maxLocals = 2 := hml0
  have hown : s.vm.findClass "java/lang/String" = some m.cls := findClass_of_methodNamed Bd.named
  have hnm := (name_of_methodNamed Bd.named Bd.method).1
  have X0 : Stand p l e ({ frames := 4, cells := 0, slots := 0, locals := 53 } : Room) s m #[(.ref this), (.int (0 : Int32))] below meth c s₁ [] 0 0 := Stand.of_body Bd
  have e0 : s₁.heap = h0 := by rw [← hh, Bd.state]; rfl
  have N0 := Fr.nil n0
  refine own_start ?_
  refine own_via (fun t k => castTop (ef_rmA3_0 m this) k) ?_
  obtain ⟨arr, kb, ⟨ch0, ch1⟩, Eq, Fv, Rp⟩ := SR
  rcases Rp with ⟨hl, Fc, Va⟩ | ⟨Fc, Va⟩
  · show own_Go p e below _ (s₁.setTop (mkF m 0 #[oR this, oI (0 : Int32)] []))
    refine own_via (fun t kz => XS.aloadN X0.here hx rfl (hb hby d12_0) rfl rfl kz) ?_
    show own_Go p e below _ (s₁.setTop (mkF m 1 #[oR this, oI (0 : Int32)] [(.ref this)]))
    obtain ⟨cq1, kq1, qa1, qb1, qc1⟩ := isOf hZ e0 Eq
    obtain ⟨_, _, ⟨T1, L1, k1, n1⟩, -, X1, ⟨Lc1, hQ1, l1, y1, z1⟩, st1⟩ := X0.virtualBack hx (y := (⟨"java/lang/String", "isLatin1", "()Z"⟩ : MethodName)) (z := (⟨"java/lang/String", "isLatin1", "()Z"⟩ : MethodName)) hown (mvT hZ (own_w hw 59)) (mvT hZ (own_w hw 60)) (notFace_of_selects (args := #[]) (mvT hZ (own_w hw 62))) (mvT hZ (own_w hw 62)) (mvT hZ (own_w hw 61)) (by decide) (backOf (W := 0) (rm13 l Z a0 hw [] this (0 : Int32) wcs (1 : Int32) h0 n0 Z0 hcs Fc (B_wcs.ext OLD.2) (by unfold f13; rw [if_pos (by decide : (0 : Int32) = (0 : Int32))])) hZ (own_w hw 63) (own_w hw 6) (by decide) (by decide)) qa1 qc1 (g := (mkF m 1 #[oR this, oI (0 : Int32)] [(.ref this)])) rfl (by rw [hml]; rfl) (Steps.refl _) (argsL := []) (rest := []) (lenOf pd_12_0 rfl) rfl (by show 2 * 0 + _ ≤ _; exact Nat.le_of_eq rfl) (hb hby d12_1) (fun _ _ => ⟨rfl, e0, (by decide : 0 + 0 ≤ _), (by decide : 0 + 0 ≤ _)⟩)
    dsimp only [Pt.U, Pt.locs, Pt.cells, Pt.slots] at X1 l1 y1 z1 st1 hQ1
    subst l1 y1 z1
    obtain ⟨rfl, Nq1, e1⟩ := hQ1
    have N2 := Fr.app N0 Nq1
    refine own_tr st1 ?_
    show own_Go p e below _ (T1.setTop (mkF m 4 #[oR this, oI (0 : Int32)] [(.int (1 : Int32))]))
    refine own_via (fun t kz => XS.ifNo X1.here hx rfl (hb hby d12_4) rfl ((if0 _ _).trans (feq (by decide : ¬ ((1 : Int32) = (0 : Int32)))).1) kz) ?_
    refine own_via (fun t kz => XS.aloadN X1.here hx rfl (hb hby d12_7) rfl rfl kz) ?_
    show own_Go p e below _ (T1.setTop (mkF m 8 #[oR this, oI (0 : Int32)] [(.ref this)]))
    obtain ⟨T3, X3, e3, st3⟩ := getF X1 hx hZ hown (host := "") (Or.inl (own_w hw 24)) Via.refl e1 Fv (g := (mkF m 8 #[oR this, oI (0 : Int32)] [(.ref this)])) rfl rfl (hb hby d12_8)
    refine own_via st3 ?_
    refine own_via (fun t kz => XS.iloadN X3.here hx rfl (hb hby d12_11) rfl kz) ?_
    show own_Go p e below _ (T3.setTop (mkF m 12 #[oR this, oI (0 : Int32)] [(.int (0 : Int32)), (.ref arr)]))
    obtain ⟨_, _, ⟨T4, L4, k4, n4⟩, -, X4, ⟨Lc4, hQ4, l4, y4, z4⟩, st4⟩ := Jvm.LawKit.callS X3 hx (y := (⟨"java/lang/StringLatin1", "charAt", "([BI)C"⟩ : MethodName)) hown (mvT hZ (own_w hw 64)) (mvT hZ (own_w hw 65)) (mvT hZ (own_w hw 66)) (mvT hZ (own_w hw 67)) (by decide) (backOf (W := 0) (rmH3_0 l Z a0 hw [] arr wcs wsf kb (c0_.toInt8.toInt32) (c1_.toInt8.toInt32) (c2_.toInt8.toInt32) c0_ h0 n0 Z0 OLD hcs rsf B_wcs B_wsf B_wad B_whi B_wlo Va (by unfold fH3_0; exact own_lat hc0 hl.1)) hZ (own_w hw 67) (own_w hw 66) (by decide) (by decide)) (g := (mkF m 12 #[oR this, oI (0 : Int32)] [(.int (0 : Int32)), (.ref arr)])) rfl (by rw [hml]; rfl) (argsL := [(.ref arr), (.int (0 : Int32))]) (rest := []) (lenOf pd_12_1 rfl) rfl (by show 2 * 0 + _ ≤ _; exact Nat.le_of_eq rfl) (hb hby d12_12) (fun _ _ => ⟨rfl, e3, (by decide : 0 + 0 ≤ _), (by decide : 0 + 0 ≤ _)⟩)
    dsimp only [Pt.U, Pt.locs, Pt.cells, Pt.slots] at X4 l4 y4 z4 st4 hQ4
    subst l4 y4 z4
    obtain ⟨rfl, Nq4, e4⟩ := hQ4
    have N5 := Fr.app N2 Nq4
    refine own_via st4 ?_
    show own_Go p e below _ (T4.setTop (mkF m 15 #[oR this, oI (0 : Int32)] [(.int c0_)]))
    obtain ⟨fs, hr, hrun, hended, hW, hsame⟩ := X4.leave (v := some (.int c0_)) (fun h => by rw [Bd.returns] at h; cases h)
    refine ⟨_, _, retOut X4 hx (i := .ireturn) Bd.returns (own_nch hc0) (Or.inl ⟨rfl, by simp, _, rfl⟩) (hb hby d12_15) hr, hrun, hended, _, _, rfl, ?_, ⟨_, rfl⟩, hW, hsame.mono (by decide) (by decide)⟩
    show QA3_0 Z this c0_ c1_ c2_ wcs wsf h0 n0 _ T4.heap _
    rw [e4]
    exact ⟨rfl, N5, rfl⟩
  · show own_Go p e below _ (s₁.setTop (mkF m 0 #[oR this, oI (0 : Int32)] []))
    refine own_via (fun t kz => XS.aloadN X0.here hx rfl (hb hby d12_0) rfl rfl kz) ?_
    show own_Go p e below _ (s₁.setTop (mkF m 1 #[oR this, oI (0 : Int32)] [(.ref this)]))
    obtain ⟨cq7, kq7, qa7, qb7, qc7⟩ := isOf hZ e0 Eq
    obtain ⟨_, _, ⟨T7, L7, k7, n7⟩, -, X7, ⟨Lc7, hQ7, l7, y7, z7⟩, st7⟩ := X0.virtualBack hx (y := (⟨"java/lang/String", "isLatin1", "()Z"⟩ : MethodName)) (z := (⟨"java/lang/String", "isLatin1", "()Z"⟩ : MethodName)) hown (mvT hZ (own_w hw 59)) (mvT hZ (own_w hw 60)) (notFace_of_selects (args := #[]) (mvT hZ (own_w hw 62))) (mvT hZ (own_w hw 62)) (mvT hZ (own_w hw 61)) (by decide) (backOf (W := 0) (rm13 l Z a0 hw [] this (1 : Int32) wcs (0 : Int32) h0 n0 Z0 hcs Fc (B_wcs.ext OLD.2) (by unfold f13; rw [if_neg (by decide : ¬ ((1 : Int32) = (0 : Int32)))])) hZ (own_w hw 63) (own_w hw 6) (by decide) (by decide)) qa7 qc7 (g := (mkF m 1 #[oR this, oI (0 : Int32)] [(.ref this)])) rfl (by rw [hml]; rfl) (Steps.refl _) (argsL := []) (rest := []) (lenOf pd_12_0 rfl) rfl (by show 2 * 0 + _ ≤ _; exact Nat.le_of_eq rfl) (hb hby d12_1) (fun _ _ => ⟨rfl, e0, (by decide : 0 + 0 ≤ _), (by decide : 0 + 0 ≤ _)⟩)
    dsimp only [Pt.U, Pt.locs, Pt.cells, Pt.slots] at X7 l7 y7 z7 st7 hQ7
    subst l7 y7 z7
    obtain ⟨rfl, Nq7, e7⟩ := hQ7
    have N8 := Fr.app N0 Nq7
    refine own_tr st7 ?_
    show own_Go p e below _ (T7.setTop (mkF m 4 #[oR this, oI (0 : Int32)] [(.int (0 : Int32))]))
    refine own_via (fun t kz => XS.ifYes X7.here hx rfl (pc0 := 4) (pc' := 16) rfl (hb hby d12_4) rfl ((if0 _ _).trans (teq (by decide : (0 : Int32) = (0 : Int32))).1) (by decide) (by decide) kz) ?_
    refine own_via (fun t kz => XS.aloadN X7.here hx rfl (hb hby d12_16) rfl rfl kz) ?_
    show own_Go p e below _ (T7.setTop (mkF m 17 #[oR this, oI (0 : Int32)] [(.ref this)]))
    obtain ⟨T9, X9, e9, st9⟩ := getF X7 hx hZ hown (host := "") (Or.inl (own_w hw 24)) Via.refl e7 Fv (g := (mkF m 17 #[oR this, oI (0 : Int32)] [(.ref this)])) rfl rfl (hb hby d12_17)
    refine own_via st9 ?_
    refine own_via (fun t kz => XS.iloadN X9.here hx rfl (hb hby d12_20) rfl kz) ?_
    show own_Go p e below _ (T9.setTop (mkF m 21 #[oR this, oI (0 : Int32)] [(.int (0 : Int32)), (.ref arr)]))
    obtain ⟨_, _, ⟨T10, L10, k10, n10⟩, -, X10, ⟨Lc10, hQ10, l10, y10, z10⟩, st10⟩ := Jvm.LawKit.callS X9 hx (y := (⟨"java/lang/StringUTF16", "charAt", "([BI)C"⟩ : MethodName)) hown (mvT hZ (own_w hw 98)) (mvT hZ (own_w hw 99)) (mvT hZ (own_w hw 43)) (mvT hZ (own_w hw 100)) (by decide) (backOf (W := 0) (rmY3_0 l Z a0 hw [] arr wcs wsf kb ((c0_ >>> ((0 : Int32) &&& 31)).toInt8.toInt32) ((c0_ >>> ((8 : Int32) &&& 31)).toInt8.toInt32) ((c1_ >>> ((0 : Int32) &&& 31)).toInt8.toInt32) ((c1_ >>> ((8 : Int32) &&& 31)).toInt8.toInt32) ((c2_ >>> ((0 : Int32) &&& 31)).toInt8.toInt32) ((c2_ >>> ((8 : Int32) &&& 31)).toInt8.toInt32) c0_ h0 n0 Z0 OLD hcs rsf B_wcs B_wsf B_wad B_whi B_wlo Va (by unfold fY3_0; exact own_utf hc0)) hZ (own_w hw 100) (own_w hw 43) (by decide) (by decide)) (g := (mkF m 21 #[oR this, oI (0 : Int32)] [(.int (0 : Int32)), (.ref arr)])) rfl (by rw [hml]; rfl) (argsL := [(.ref arr), (.int (0 : Int32))]) (rest := []) (lenOf pd_12_1 rfl) rfl (by show 2 * 0 + _ ≤ _; exact Nat.le_of_eq rfl) (hb hby d12_21) (fun _ _ => ⟨rfl, e9, (by decide : 0 + 0 ≤ _), (by decide : 0 + 0 ≤ _)⟩)
    dsimp only [Pt.U, Pt.locs, Pt.cells, Pt.slots] at X10 l10 y10 z10 st10 hQ10
    subst l10 y10 z10
    obtain ⟨rfl, Nq10, e10⟩ := hQ10
    have N11 := Fr.app N8 Nq10
    refine own_via st10 ?_
    show own_Go p e below _ (T10.setTop (mkF m 24 #[oR this, oI (0 : Int32)] [(.int c0_)]))
    obtain ⟨fs, hr, hrun, hended, hW, hsame⟩ := X10.leave (v := some (.int c0_)) (fun h => by rw [Bd.returns] at h; cases h)
    refine ⟨_, _, retOut X10 hx (i := .ireturn) Bd.returns (own_nch hc0) (Or.inl ⟨rfl, by simp, _, rfl⟩) (hb hby d12_24) hr, hrun, hended, _, _, rfl, ?_, ⟨_, rfl⟩, hW, hsame.mono (by decide) (by decide)⟩
    show QA3_0 Z this c0_ c1_ c2_ wcs wsf h0 n0 _ T10.heap _
    rw [e10]
    exact ⟨rfl, N11, rfl⟩
def fH3_1 (b1_ : Int32) : Int32 := ((b1_ &&& (255 : Int32)).toUInt32.toUInt16.toUInt32.toInt32)
theorem ef_rmH3_1 (m : MethodId) (q0 : Addr) : entryFrame m #[(.ref q0), (.int (1 : Int32))] 2 = mkF m 0 #[oR q0, oI (1 : Int32)] [] := by first | (simp [entryFrame, mkF, argsToLocals, Value.category]; done) | rfl
def QH3_1 (Z : State) (p0 : Addr) (wcs : Int32) (wsf : Value) (ka : ClassId) (b0_ : Int32) (b1_ : Int32) (b2_ : Int32) (r : Int32) (h0 : Heap) (n0 : Nat) (v : Option Value) (h : Heap) (L : List Loc) : Prop := v = some (.int r) ∧ Fr n0 L ∧ h = h0
set_option maxRecDepth 65536 in
set_option maxHeartbeats 40000000 in
theorem rmH3_1 (l : Launch) (Z : State) (a0 : Array Value) (hw : ∀ d ∈ tables_1, d.before a0 Z = true) (ws : List Jvm.Cond) (p0 : Addr) (wcs : Int32) (wsf : Value) (ka : ClassId) (b0_ : Int32) (b1_ : Int32) (b2_ : Int32) (r : Int32) (h0 : Heap) (n0 : Nat) (Z0 : n0 ≤ h0.size) (OLD : Old Z n0 h0) (hcs : ¬ (wcs = (0 : Int32))) (rsf : wsf.isRef = true) (B_wcs : Sta Z Z.heap "java/lang/String" "COMPACT_STRINGS" "Z" (.int wcs)) (B_wsf : Sta Z Z.heap "jdk/internal/util/Preconditions" "SIOOBE_FORMATTER" "Ljava/util/function/BiFunction;" wsf) (B_wad : Sta Z Z.heap "java/lang/StringUTF16" "$assertionsDisabled" "Z" (.int (1 : Int32))) (B_whi : Sta Z Z.heap "java/lang/StringUTF16" "HI_BYTE_SHIFT" "I" (.int (0 : Int32))) (B_wlo : Sta Z Z.heap "java/lang/StringUTF16" "LO_BYTE_SHIFT" "I" (.int (8 : Int32))) (V_p0 : Arv Z h0 p0 ka .byte (3 : Int32) [(.int b0_), (.int b1_), (.int b2_)] (.int (0 : Int32))) (hr0 : (fH3_1 b1_) = r) :
    MetFree l (⟨"java/lang/StringLatin1", "charAt", "([BI)C"⟩ : MethodName) (head1 (Jvm.Cond.code (⟨"java/lang/StringLatin1", "charAt", "([BI)C"⟩ : MethodName) jdk_43_method_2_code 2 (some .char) :: ws) ({ frames := 2, cells := 0, slots := 0, locals := 27 } : Room)) (fun a U => a = #[(.ref p0), (.int (1 : Int32))] ∧ Z.Warmed39 U.vm ∧ U.heap = h0) (fun _ _ _ _ _ => True) (fun _ U o U' => ∃ v L, o = .returned v ∧ QH3_1 Z p0 wcs wsf ka b0_ b1_ b2_ r h0 n0 v U'.heap L ∧ FrameEnd U o U' L ({ frames := 2, cells := 0, slots := 0, locals := 27 } : Room).cells ({ frames := 2, cells := 0, slots := 0, locals := 27 } : Room).slots) := by
  refine MetFree.of_bodySF (plainFor_of_name pn_14) hisR ?_
  intro p e s m args below meth c s₁ Bd hml0 hP hK
  obtain ⟨rfl, hZ, hh⟩ := hP
  have hx := Bd.exec
  have hby := Bd.bytes
  have hml : c.maxLocals = 2 := hml0
  have hown : s.vm.findClass "java/lang/StringLatin1" = some m.cls := findClass_of_methodNamed Bd.named
  have hnm := (name_of_methodNamed Bd.named Bd.method).1
  have X0 : Stand p l e ({ frames := 2, cells := 0, slots := 0, locals := 27 } : Room) s m #[(.ref p0), (.int (1 : Int32))] below meth c s₁ [] 0 0 := Stand.of_body Bd
  have e0 : s₁.heap = h0 := by rw [← hh, Bd.state]; rfl
  have N0 := Fr.nil n0
  refine own_start ?_
  refine own_via (fun t k => castTop (ef_rmH3_1 m p0) k) ?_
  show own_Go p e below _ (s₁.setTop (mkF m 0 #[oR p0, oI (1 : Int32)] []))
  refine own_via (fun t kz => XS.iloadN X0.here hx rfl (hb hby d14_0) rfl kz) ?_
  refine own_via (fun t kz => XS.aloadN X0.here hx rfl (hb hby d14_1) rfl rfl kz) ?_
  show own_Go p e below _ (s₁.setTop (mkF m 2 #[oR p0, oI (1 : Int32)] [(.ref p0), (.int (1 : Int32))]))
  obtain ⟨cl1, Ar1, kc1, Sz1, Nn1, Hs1, Gs1⟩ := id V_p0
  refine own_via (fun t kz => X0.arraylength hx (by rw [e0]; exact Ar1.1) (State.isArrayOf_alike hZ.alike Ar1.2.1) (g := (mkF m 2 #[oR p0, oI (1 : Int32)] [(.ref p0), (.int (1 : Int32))])) rfl rfl (hb hby d14_2) t kz) ?_
  show own_Go p e below _ (s₁.setTop (mkF m 3 #[oR p0, oI (1 : Int32)] [(.int (cl1.slots.size.toInt32)), (.int (1 : Int32))]))
  rw [len_of Sz1 Nn1]
  show own_Go p e below _ (s₁.setTop (mkF m 3 #[oR p0, oI (1 : Int32)] [(.int (3 : Int32)), (.int (1 : Int32))]))
  obtain ⟨_, _, ⟨T2, L2, k2, n2⟩, -, X2, ⟨Lc2, hQ2, l2, y2, z2⟩, st2⟩ := Jvm.LawKit.callS X0 hx (y := (⟨"java/lang/String", "checkIndex", "(II)V"⟩ : MethodName)) hown (mvT hZ (own_w hw 68)) (mvT hZ (own_w hw 69)) (mvT hZ (own_w hw 6)) (mvT hZ (own_w hw 70)) (by decide) (backOf (W := 0) (rm15 l Z a0 hw [] (1 : Int32) (3 : Int32) wsf h0 n0 Z0 rsf (B_wsf.ext OLD.2) (by decide) (by decide)) hZ (own_w hw 70) (own_w hw 6) (by decide) (by decide)) (g := (mkF m 3 #[oR p0, oI (1 : Int32)] [(.int (3 : Int32)), (.int (1 : Int32))])) rfl (by rw [hml]; rfl) (argsL := [(.int (1 : Int32)), (.int (3 : Int32))]) (rest := []) (lenOf pd_14_0 rfl) rfl (by show 2 * 0 + _ ≤ _; exact Nat.le_of_eq rfl) (hb hby d14_3) (fun _ _ => ⟨rfl, e0, (by decide : 0 + 0 ≤ _), (by decide : 0 + 0 ≤ _)⟩)
  dsimp only [Pt.U, Pt.locs, Pt.cells, Pt.slots] at X2 l2 y2 z2 st2 hQ2
  subst l2 y2 z2
  obtain ⟨rfl, Nq2, e2⟩ := hQ2
  have N3 := Fr.app N0 Nq2
  refine own_via st2 ?_
  refine own_via (fun t kz => XS.aloadN X2.here hx rfl (hb hby d14_6) rfl rfl kz) ?_
  refine own_via (fun t kz => XS.iloadN X2.here hx rfl (hb hby d14_7) rfl kz) ?_
  show own_Go p e below _ (T2.setTop (mkF m 8 #[oR p0, oI (1 : Int32)] [(.int (1 : Int32)), (.ref p0)]))
  obtain ⟨cl4, Ar4, kc4, Sz4, Nn4, Hs4, Gs4⟩ := id V_p0
  have in4 := inb_of (j := (1 : Int32)) Sz4 ⟨by decide, by decide⟩
  have at4 : cl4.slots[((1 : Int32)).toNatClampNeg]? = some (.int b1_) := Hs4.at in4 rfl
  refine own_via (fun t kz => X2.baloadBytes hx (j := (1 : Int32)) (v := (.int b1_)) (by rw [e2]; exact Ar4.1) (State.isArrayOf_alike hZ.alike Ar4.2.1) Ar4.2.2 in4 at4 (g := (mkF m 8 #[oR p0, oI (1 : Int32)] [(.int (1 : Int32)), (.ref p0)])) rfl rfl (hb hby d14_8) t kz) ?_
  refine own_via (fun t kz => XS.sipush X2.here hx rfl (hb hby d14_9) kz) ?_
  refine own_via (fun t kz => XS.iand X2.here hx rfl (hb hby d14_12) rfl kz) ?_
  show own_Go p e below _ (T2.setTop (mkF m 13 #[oR p0, oI (1 : Int32)] [(.int (b1_ &&& (255 : Int32)))]))
  refine own_via (fun t kz => XS.i2c X2.here hx rfl (hb hby d14_13) rfl kz) ?_
  show own_Go p e below _ (T2.setTop (mkF m 14 #[oR p0, oI (1 : Int32)] [(.int ((b1_ &&& (255 : Int32)).toUInt32.toUInt16.toUInt32.toInt32))]))
  have hv : (fH3_1 b1_) = ((b1_ &&& (255 : Int32)).toUInt32.toUInt16.toUInt32.toInt32) := by unfold fH3_1; rfl
  obtain ⟨fs, hr, hrun, hended, hW, hsame⟩ := X2.leave (v := some (.int ((b1_ &&& (255 : Int32)).toUInt32.toUInt16.toUInt32.toInt32))) (fun h => by rw [Bd.returns] at h; cases h)
  refine ⟨_, _, retOut X2 hx (i := .ireturn) Bd.returns (narrow_c _) (Or.inl ⟨rfl, by simp, _, rfl⟩) (hb hby d14_14) hr, hrun, hended, _, _, rfl, ?_, ⟨_, rfl⟩, hW, hsame.mono (by decide) (by decide)⟩
  show QH3_1 Z p0 wcs wsf ka b0_ b1_ b2_ r h0 n0 _ T2.heap _
  rw [e2]
  exact ⟨by rw [← hr0, hv], N3, rfl⟩
theorem ef_rmX3_1 (m : MethodId) (q0 : Addr) : entryFrame m #[(.int (1 : Int32)), (.ref q0)] 2 = mkF m 0 #[oI (1 : Int32), oR q0] [] := by first | (simp [entryFrame, mkF, argsToLocals, Value.category]; done) | rfl
def QX3_1 (Z : State) (p1 : Addr) (kb : ClassId) (b0_ : Int32) (b1_ : Int32) (b2_ : Int32) (b3_ : Int32) (b4_ : Int32) (b5_ : Int32) (wcs : Int32) (wsf : Value) (h0 : Heap) (n0 : Nat) (v : Option Value) (h : Heap) (L : List Loc) : Prop := v = none ∧ Fr n0 L ∧ h = h0
set_option maxRecDepth 65536 in
set_option maxHeartbeats 40000000 in
theorem rmX3_1 (l : Launch) (Z : State) (a0 : Array Value) (hw : ∀ d ∈ tables_1, d.before a0 Z = true) (ws : List Jvm.Cond) (p1 : Addr) (kb : ClassId) (b0_ : Int32) (b1_ : Int32) (b2_ : Int32) (b3_ : Int32) (b4_ : Int32) (b5_ : Int32) (wcs : Int32) (wsf : Value) (h0 : Heap) (n0 : Nat) (Z0 : n0 ≤ h0.size) (VB : Arv Z h0 p1 kb .byte (6 : Int32) [(.int b0_), (.int b1_), (.int b2_), (.int b3_), (.int b4_), (.int b5_)] (.int (0 : Int32))) (OLD : Old Z n0 h0) (hcs : ¬ (wcs = (0 : Int32))) (rsf : wsf.isRef = true) (B_wcs : Sta Z Z.heap "java/lang/String" "COMPACT_STRINGS" "Z" (.int wcs)) (B_wsf : Sta Z Z.heap "jdk/internal/util/Preconditions" "SIOOBE_FORMATTER" "Ljava/util/function/BiFunction;" wsf) (B_wad : Sta Z Z.heap "java/lang/StringUTF16" "$assertionsDisabled" "Z" (.int (1 : Int32))) (B_whi : Sta Z Z.heap "java/lang/StringUTF16" "HI_BYTE_SHIFT" "I" (.int (0 : Int32))) (B_wlo : Sta Z Z.heap "java/lang/StringUTF16" "LO_BYTE_SHIFT" "I" (.int (8 : Int32))) :
    MetFree l (⟨"java/lang/StringUTF16", "checkIndex", "(I[B)V"⟩ : MethodName) (head1 (Jvm.Cond.code (⟨"java/lang/StringUTF16", "checkIndex", "(I[B)V"⟩ : MethodName) jdk_52_method_91_code 2 none :: ws) ({ frames := 2, cells := 0, slots := 0, locals := 27 } : Room)) (fun a U => a = #[(.int (1 : Int32)), (.ref p1)] ∧ Z.Warmed39 U.vm ∧ U.heap = h0) (fun _ _ _ _ _ => True) (fun _ U o U' => ∃ v L, o = .returned v ∧ QX3_1 Z p1 kb b0_ b1_ b2_ b3_ b4_ b5_ wcs wsf h0 n0 v U'.heap L ∧ FrameEnd U o U' L ({ frames := 2, cells := 0, slots := 0, locals := 27 } : Room).cells ({ frames := 2, cells := 0, slots := 0, locals := 27 } : Room).slots) := by
  refine MetFree.of_bodySF (plainFor_of_name pn_20) hisR ?_
  intro p e s m args below meth c s₁ Bd hml0 hP hK
  obtain ⟨rfl, hZ, hh⟩ := hP
  have hx := Bd.exec
  have hby := Bd.bytes
  have hml : c.maxLocals = 2 := hml0
  have hown : s.vm.findClass "java/lang/StringUTF16" = some m.cls := findClass_of_methodNamed Bd.named
  have hnm := (name_of_methodNamed Bd.named Bd.method).1
  have X0 : Stand p l e ({ frames := 2, cells := 0, slots := 0, locals := 27 } : Room) s m #[(.int (1 : Int32)), (.ref p1)] below meth c s₁ [] 0 0 := Stand.of_body Bd
  have e0 : s₁.heap = h0 := by rw [← hh, Bd.state]; rfl
  have N0 := Fr.nil n0
  refine own_start ?_
  refine own_via (fun t k => castTop (ef_rmX3_1 m p1) k) ?_
  show own_Go p e below _ (s₁.setTop (mkF m 0 #[oI (1 : Int32), oR p1] []))
  refine own_via (fun t kz => XS.iloadN X0.here hx rfl (hb hby d24_0) rfl kz) ?_
  refine own_via (fun t kz => XS.aloadN X0.here hx rfl (hb hby d24_1) rfl rfl kz) ?_
  show own_Go p e below _ (s₁.setTop (mkF m 2 #[oI (1 : Int32), oR p1] [(.ref p1), (.int (1 : Int32))]))
  obtain ⟨_, _, ⟨T1, L1, k1, n1⟩, -, X1, ⟨Lc1, hQ1, l1, y1, z1⟩, st1⟩ := Jvm.LawKit.callS X0 hx (y := (⟨"java/lang/StringUTF16", "length", "([B)I"⟩ : MethodName)) hown (mvT hZ (own_w hw 104)) (mvT hZ (own_w hw 105)) (mvT hZ (own_w hw 43)) (mvT hZ (own_w hw 106)) (by decide) (backOf (W := 1) (rmU3 l Z a0 hw [] p1 kb b0_ b1_ b2_ b3_ b4_ b5_ (3 : Int32) h0 n0 Z0 VB (by unfold fU3; rfl)) hZ (own_w hw 106) (own_w hw 43) (by decide) (by decide)) (g := (mkF m 2 #[oI (1 : Int32), oR p1] [(.ref p1), (.int (1 : Int32))])) rfl (by rw [hml]; rfl) (argsL := [(.ref p1)]) (rest := [(.int (1 : Int32))]) (lenOf pd_24_0 rfl) rfl (by show 2 * 0 + _ ≤ _; exact Nat.le_of_eq rfl) (hb hby d24_2) (fun _ _ => ⟨rfl, e0, (by decide : 0 + 0 ≤ _), (by decide : 0 + 0 ≤ _)⟩)
  dsimp only [Pt.U, Pt.locs, Pt.cells, Pt.slots] at X1 l1 y1 z1 st1 hQ1
  subst l1 y1 z1
  obtain ⟨rfl, Nq1, e1⟩ := hQ1
  have N2 := Fr.app N0 Nq1
  refine own_via st1 ?_
  show own_Go p e below _ (T1.setTop (mkF m 5 #[oI (1 : Int32), oR p1] [(.int (3 : Int32)), (.int (1 : Int32))]))
  obtain ⟨_, _, ⟨T3, L3, k3, n3⟩, -, X3, ⟨Lc3, hQ3, l3, y3, z3⟩, st3⟩ := Jvm.LawKit.callS X1 hx (y := (⟨"java/lang/String", "checkIndex", "(II)V"⟩ : MethodName)) hown (mvT hZ (own_w hw 107)) (mvT hZ (own_w hw 69)) (mvT hZ (own_w hw 6)) (mvT hZ (own_w hw 70)) (by decide) (backOf (W := 0) (rm15 l Z a0 hw [] (1 : Int32) (3 : Int32) wsf h0 n0 Z0 rsf (B_wsf.ext OLD.2) (by decide) (by decide)) hZ (own_w hw 70) (own_w hw 6) (by decide) (by decide)) (g := (mkF m 5 #[oI (1 : Int32), oR p1] [(.int (3 : Int32)), (.int (1 : Int32))])) rfl (by rw [hml]; rfl) (argsL := [(.int (1 : Int32)), (.int (3 : Int32))]) (rest := []) (lenOf pd_24_1 rfl) rfl (by show 2 * 0 + _ ≤ _; exact Nat.le_of_eq rfl) (hb hby d24_5) (fun _ _ => ⟨rfl, e1, (by decide : 0 + 0 ≤ _), (by decide : 0 + 0 ≤ _)⟩)
  dsimp only [Pt.U, Pt.locs, Pt.cells, Pt.slots] at X3 l3 y3 z3 st3 hQ3
  subst l3 y3 z3
  obtain ⟨rfl, Nq3, e3⟩ := hQ3
  have N4 := Fr.app N2 Nq3
  refine own_via st3 ?_
  show own_Go p e below _ (T3.setTop (mkF m 8 #[oI (1 : Int32), oR p1] []))
  obtain ⟨fs, hr, hrun, hended, hW, hsame⟩ := X3.leave (v := none) (fun _ => rfl)
  refine ⟨_, _, X3.returnOut hx Bd.returns (hb hby d24_8) hr, hrun, hended, _, _, rfl, ?_, ⟨_, rfl⟩, hW, hsame.mono (by decide) (by decide)⟩
  show QX3_1 Z p1 kb b0_ b1_ b2_ b3_ b4_ b5_ wcs wsf h0 n0 _ T3.heap _
  rw [e3]
  exact ⟨rfl, N4, rfl⟩
def fY3_1 (b2_ : Int32) (b3_ : Int32) : Int32 := ((((b2_ &&& (255 : Int32)) <<< ((0 : Int32) &&& 31)) ||| ((b3_ &&& (255 : Int32)) <<< ((8 : Int32) &&& 31))).toUInt32.toUInt16.toUInt32.toInt32)
theorem ef_rmY3_1 (m : MethodId) (q0 : Addr) : entryFrame m #[(.ref q0), (.int (1 : Int32))] 2 = mkF m 0 #[oR q0, oI (1 : Int32)] [] := by first | (simp [entryFrame, mkF, argsToLocals, Value.category]; done) | rfl
def QY3_1 (Z : State) (p0 : Addr) (wcs : Int32) (wsf : Value) (ka : ClassId) (b0_ : Int32) (b1_ : Int32) (b2_ : Int32) (b3_ : Int32) (b4_ : Int32) (b5_ : Int32) (r : Int32) (h0 : Heap) (n0 : Nat) (v : Option Value) (h : Heap) (L : List Loc) : Prop := v = some (.int r) ∧ Fr n0 L ∧ h = h0
set_option maxRecDepth 65536 in
set_option maxHeartbeats 40000000 in
theorem rmY3_1 (l : Launch) (Z : State) (a0 : Array Value) (hw : ∀ d ∈ tables_1, d.before a0 Z = true) (ws : List Jvm.Cond) (p0 : Addr) (wcs : Int32) (wsf : Value) (ka : ClassId) (b0_ : Int32) (b1_ : Int32) (b2_ : Int32) (b3_ : Int32) (b4_ : Int32) (b5_ : Int32) (r : Int32) (h0 : Heap) (n0 : Nat) (Z0 : n0 ≤ h0.size) (OLD : Old Z n0 h0) (hcs : ¬ (wcs = (0 : Int32))) (rsf : wsf.isRef = true) (B_wcs : Sta Z Z.heap "java/lang/String" "COMPACT_STRINGS" "Z" (.int wcs)) (B_wsf : Sta Z Z.heap "jdk/internal/util/Preconditions" "SIOOBE_FORMATTER" "Ljava/util/function/BiFunction;" wsf) (B_wad : Sta Z Z.heap "java/lang/StringUTF16" "$assertionsDisabled" "Z" (.int (1 : Int32))) (B_whi : Sta Z Z.heap "java/lang/StringUTF16" "HI_BYTE_SHIFT" "I" (.int (0 : Int32))) (B_wlo : Sta Z Z.heap "java/lang/StringUTF16" "LO_BYTE_SHIFT" "I" (.int (8 : Int32))) (V_p0 : Arv Z h0 p0 ka .byte (6 : Int32) [(.int b0_), (.int b1_), (.int b2_), (.int b3_), (.int b4_), (.int b5_)] (.int (0 : Int32))) (hr0 : (fY3_1 b2_ b3_) = r) :
    MetFree l (⟨"java/lang/StringUTF16", "charAt", "([BI)C"⟩ : MethodName) (head1 (Jvm.Cond.code (⟨"java/lang/StringUTF16", "charAt", "([BI)C"⟩ : MethodName) jdk_52_method_83_code 2 (some .char) :: ws) ({ frames := 3, cells := 0, slots := 0, locals := 40 } : Room)) (fun a U => a = #[(.ref p0), (.int (1 : Int32))] ∧ Z.Warmed39 U.vm ∧ U.heap = h0) (fun _ _ _ _ _ => True) (fun _ U o U' => ∃ v L, o = .returned v ∧ QY3_1 Z p0 wcs wsf ka b0_ b1_ b2_ b3_ b4_ b5_ r h0 n0 v U'.heap L ∧ FrameEnd U o U' L ({ frames := 3, cells := 0, slots := 0, locals := 40 } : Room).cells ({ frames := 3, cells := 0, slots := 0, locals := 40 } : Room).slots) := by
  refine MetFree.of_bodySF (plainFor_of_name pn_20) hisR ?_
  intro p e s m args below meth c s₁ Bd hml0 hP hK
  obtain ⟨rfl, hZ, hh⟩ := hP
  have hx := Bd.exec
  have hby := Bd.bytes
  have hml : c.maxLocals = 2 := hml0
  have hown : s.vm.findClass "java/lang/StringUTF16" = some m.cls := findClass_of_methodNamed Bd.named
  have hnm := (name_of_methodNamed Bd.named Bd.method).1
  have X0 : Stand p l e ({ frames := 3, cells := 0, slots := 0, locals := 40 } : Room) s m #[(.ref p0), (.int (1 : Int32))] below meth c s₁ [] 0 0 := Stand.of_body Bd
  have e0 : s₁.heap = h0 := by rw [← hh, Bd.state]; rfl
  have N0 := Fr.nil n0
  refine own_start ?_
  refine own_via (fun t k => castTop (ef_rmY3_1 m p0) k) ?_
  show own_Go p e below _ (s₁.setTop (mkF m 0 #[oR p0, oI (1 : Int32)] []))
  refine own_via (fun t kz => XS.iloadN X0.here hx rfl (hb hby d23_0) rfl kz) ?_
  refine own_via (fun t kz => XS.aloadN X0.here hx rfl (hb hby d23_1) rfl rfl kz) ?_
  show own_Go p e below _ (s₁.setTop (mkF m 2 #[oR p0, oI (1 : Int32)] [(.ref p0), (.int (1 : Int32))]))
  obtain ⟨_, _, ⟨T1, L1, k1, n1⟩, -, X1, ⟨Lc1, hQ1, l1, y1, z1⟩, st1⟩ := Jvm.LawKit.callS X0 hx (y := (⟨"java/lang/StringUTF16", "checkIndex", "(I[B)V"⟩ : MethodName)) hown (mvT hZ (own_w hw 101)) (mvT hZ (own_w hw 102)) (mvT hZ (own_w hw 43)) (mvT hZ (own_w hw 103)) (by decide) (backOf (W := 0) (rmX3_1 l Z a0 hw [] p0 ka b0_ b1_ b2_ b3_ b4_ b5_ wcs wsf h0 n0 Z0 V_p0 OLD hcs rsf B_wcs B_wsf B_wad B_whi B_wlo) hZ (own_w hw 103) (own_w hw 43) (by decide) (by decide)) (g := (mkF m 2 #[oR p0, oI (1 : Int32)] [(.ref p0), (.int (1 : Int32))])) rfl (by rw [hml]; rfl) (argsL := [(.int (1 : Int32)), (.ref p0)]) (rest := []) (lenOf pd_23_0 rfl) rfl (by show 2 * 0 + _ ≤ _; exact Nat.le_of_eq rfl) (hb hby d23_2) (fun _ _ => ⟨rfl, e0, (by decide : 0 + 0 ≤ _), (by decide : 0 + 0 ≤ _)⟩)
  dsimp only [Pt.U, Pt.locs, Pt.cells, Pt.slots] at X1 l1 y1 z1 st1 hQ1
  subst l1 y1 z1
  obtain ⟨rfl, Nq1, e1⟩ := hQ1
  have N2 := Fr.app N0 Nq1
  refine own_via st1 ?_
  refine own_via (fun t kz => XS.aloadN X1.here hx rfl (hb hby d23_5) rfl rfl kz) ?_
  refine own_via (fun t kz => XS.iloadN X1.here hx rfl (hb hby d23_6) rfl kz) ?_
  show own_Go p e below _ (T1.setTop (mkF m 7 #[oR p0, oI (1 : Int32)] [(.int (1 : Int32)), (.ref p0)]))
  obtain ⟨_, _, ⟨T3, L3, k3, n3⟩, -, X3, ⟨Lc3, hQ3, l3, y3, z3⟩, st3⟩ := Jvm.LawKit.callS X1 hx (y := (⟨"java/lang/StringUTF16", "getChar", "([BI)C"⟩ : MethodName)) hown (mvT hZ (own_w hw 95)) (mvT hZ (own_w hw 96)) (mvT hZ (own_w hw 43)) (mvT hZ (own_w hw 97)) (by decide) (backOf (W := 0) (rmG3_1 l Z a0 hw [] p0 (1 : Int32) (0 : Int32) (8 : Int32) ka b0_ b1_ b2_ b3_ b4_ b5_ ((((b2_ &&& (255 : Int32)) <<< ((0 : Int32) &&& 31)) ||| ((b3_ &&& (255 : Int32)) <<< ((8 : Int32) &&& 31))).toUInt32.toUInt16.toUInt32.toInt32) h0 n0 Z0 rfl (B_wad.ext OLD.2) (B_whi.ext OLD.2) (B_wlo.ext OLD.2) V_p0 (by unfold fG3_1; rfl)) hZ (own_w hw 97) (own_w hw 43) (by decide) (by decide)) (g := (mkF m 7 #[oR p0, oI (1 : Int32)] [(.int (1 : Int32)), (.ref p0)])) rfl (by rw [hml]; rfl) (argsL := [(.ref p0), (.int (1 : Int32))]) (rest := []) (lenOf pd_23_1 rfl) rfl (by show 2 * 0 + _ ≤ _; exact Nat.le_of_eq rfl) (hb hby d23_7) (fun _ _ => ⟨rfl, e1, (by decide : 0 + 0 ≤ _), (by decide : 0 + 0 ≤ _)⟩)
  dsimp only [Pt.U, Pt.locs, Pt.cells, Pt.slots] at X3 l3 y3 z3 st3 hQ3
  subst l3 y3 z3
  obtain ⟨rfl, Nq3, e3⟩ := hQ3
  have N4 := Fr.app N2 Nq3
  refine own_via st3 ?_
  show own_Go p e below _ (T3.setTop (mkF m 10 #[oR p0, oI (1 : Int32)] [(.int ((((b2_ &&& (255 : Int32)) <<< ((0 : Int32) &&& 31)) ||| ((b3_ &&& (255 : Int32)) <<< ((8 : Int32) &&& 31))).toUInt32.toUInt16.toUInt32.toInt32))]))
  have hv : (fY3_1 b2_ b3_) = ((((b2_ &&& (255 : Int32)) <<< ((0 : Int32) &&& 31)) ||| ((b3_ &&& (255 : Int32)) <<< ((8 : Int32) &&& 31))).toUInt32.toUInt16.toUInt32.toInt32) := by unfold fY3_1; rfl
  obtain ⟨fs, hr, hrun, hended, hW, hsame⟩ := X3.leave (v := some (.int ((((b2_ &&& (255 : Int32)) <<< ((0 : Int32) &&& 31)) ||| ((b3_ &&& (255 : Int32)) <<< ((8 : Int32) &&& 31))).toUInt32.toUInt16.toUInt32.toInt32))) (fun h => by rw [Bd.returns] at h; cases h)
  refine ⟨_, _, retOut X3 hx (i := .ireturn) Bd.returns (narrow_c _) (Or.inl ⟨rfl, by simp, _, rfl⟩) (hb hby d23_10) hr, hrun, hended, _, _, rfl, ?_, ⟨_, rfl⟩, hW, hsame.mono (by decide) (by decide)⟩
  show QY3_1 Z p0 wcs wsf ka b0_ b1_ b2_ b3_ b4_ b5_ r h0 n0 _ T3.heap _
  rw [e3]
  exact ⟨by rw [← hr0, hv], N4, rfl⟩
theorem ef_rmA3_1 (m : MethodId) (q0 : Addr) : entryFrame m #[(.ref q0), (.int (1 : Int32))] 2 = mkF m 0 #[oR q0, oI (1 : Int32)] [] := by first | (simp [entryFrame, mkF, argsToLocals, Value.category]; done) | rfl
def QA3_1 (Z : State) (this : Addr) (c0_ : Int32) (c1_ : Int32) (c2_ : Int32) (wcs : Int32) (wsf : Value) (h0 : Heap) (n0 : Nat) (v : Option Value) (h : Heap) (L : List Loc) : Prop := v = some (.int c1_) ∧ Fr n0 L ∧ h = h0
set_option maxRecDepth 65536 in
set_option maxHeartbeats 40000000 in
theorem rmA3_1 (l : Launch) (Z : State) (a0 : Array Value) (hw : ∀ d ∈ tables_1, d.before a0 Z = true) (ws : List Jvm.Cond) (this : Addr) (c0_ : Int32) (c1_ : Int32) (c2_ : Int32) (wcs : Int32) (wsf : Value) (h0 : Heap) (n0 : Nat) (Z0 : n0 ≤ h0.size) (SR : own_Str3 Z h0 n0 this c0_ c1_ c2_) (hc0 : own_ch c0_) (hc1 : own_ch c1_) (hc2 : own_ch c2_) (OLD : Old Z n0 h0) (hcs : ¬ (wcs = (0 : Int32))) (rsf : wsf.isRef = true) (B_wcs : Sta Z Z.heap "java/lang/String" "COMPACT_STRINGS" "Z" (.int wcs)) (B_wsf : Sta Z Z.heap "jdk/internal/util/Preconditions" "SIOOBE_FORMATTER" "Ljava/util/function/BiFunction;" wsf) (B_wad : Sta Z Z.heap "java/lang/StringUTF16" "$assertionsDisabled" "Z" (.int (1 : Int32))) (B_whi : Sta Z Z.heap "java/lang/StringUTF16" "HI_BYTE_SHIFT" "I" (.int (0 : Int32))) (B_wlo : Sta Z Z.heap "java/lang/StringUTF16" "LO_BYTE_SHIFT" "I" (.int (8 : Int32))) :
    MetFree l (⟨"java/lang/String", "charAt", "(I)C"⟩ : MethodName) (head1 (Jvm.Cond.code (⟨"java/lang/String", "charAt", "(I)C"⟩ : MethodName) jdk_42_method_56_code 2 (some .char) :: ws) ({ frames := 4, cells := 0, slots := 0, locals := 53 } : Room)) (fun a U => a = #[(.ref this), (.int (1 : Int32))] ∧ Z.Warmed39 U.vm ∧ U.heap = h0) (fun _ _ _ _ _ => True) (fun _ U o U' => ∃ v L, o = .returned v ∧ QA3_1 Z this c0_ c1_ c2_ wcs wsf h0 n0 v U'.heap L ∧ FrameEnd U o U' L ({ frames := 4, cells := 0, slots := 0, locals := 53 } : Room).cells ({ frames := 4, cells := 0, slots := 0, locals := 53 } : Room).slots) := by
  refine MetFree.of_bodySF (plainFor_of_name pn_15) hisR ?_
  intro p e s m args below meth c s₁ Bd hml0 hP hK
  obtain ⟨rfl, hZ, hh⟩ := hP
  have hx := Bd.exec
  have hby := Bd.bytes
  have hml : c.maxLocals = 2 := hml0
  have hown : s.vm.findClass "java/lang/String" = some m.cls := findClass_of_methodNamed Bd.named
  have hnm := (name_of_methodNamed Bd.named Bd.method).1
  have X0 : Stand p l e ({ frames := 4, cells := 0, slots := 0, locals := 53 } : Room) s m #[(.ref this), (.int (1 : Int32))] below meth c s₁ [] 0 0 := Stand.of_body Bd
  have e0 : s₁.heap = h0 := by rw [← hh, Bd.state]; rfl
  have N0 := Fr.nil n0
  refine own_start ?_
  refine own_via (fun t k => castTop (ef_rmA3_1 m this) k) ?_
  obtain ⟨arr, kb, ⟨ch0, ch1⟩, Eq, Fv, Rp⟩ := SR
  rcases Rp with ⟨hl, Fc, Va⟩ | ⟨Fc, Va⟩
  · show own_Go p e below _ (s₁.setTop (mkF m 0 #[oR this, oI (1 : Int32)] []))
    refine own_via (fun t kz => XS.aloadN X0.here hx rfl (hb hby d12_0) rfl rfl kz) ?_
    show own_Go p e below _ (s₁.setTop (mkF m 1 #[oR this, oI (1 : Int32)] [(.ref this)]))
    obtain ⟨cq1, kq1, qa1, qb1, qc1⟩ := isOf hZ e0 Eq
    obtain ⟨_, _, ⟨T1, L1, k1, n1⟩, -, X1, ⟨Lc1, hQ1, l1, y1, z1⟩, st1⟩ := X0.virtualBack hx (y := (⟨"java/lang/String", "isLatin1", "()Z"⟩ : MethodName)) (z := (⟨"java/lang/String", "isLatin1", "()Z"⟩ : MethodName)) hown (mvT hZ (own_w hw 59)) (mvT hZ (own_w hw 60)) (notFace_of_selects (args := #[]) (mvT hZ (own_w hw 62))) (mvT hZ (own_w hw 62)) (mvT hZ (own_w hw 61)) (by decide) (backOf (W := 0) (rm13 l Z a0 hw [] this (0 : Int32) wcs (1 : Int32) h0 n0 Z0 hcs Fc (B_wcs.ext OLD.2) (by unfold f13; rw [if_pos (by decide : (0 : Int32) = (0 : Int32))])) hZ (own_w hw 63) (own_w hw 6) (by decide) (by decide)) qa1 qc1 (g := (mkF m 1 #[oR this, oI (1 : Int32)] [(.ref this)])) rfl (by rw [hml]; rfl) (Steps.refl _) (argsL := []) (rest := []) (lenOf pd_12_0 rfl) rfl (by show 2 * 0 + _ ≤ _; exact Nat.le_of_eq rfl) (hb hby d12_1) (fun _ _ => ⟨rfl, e0, (by decide : 0 + 0 ≤ _), (by decide : 0 + 0 ≤ _)⟩)
    dsimp only [Pt.U, Pt.locs, Pt.cells, Pt.slots] at X1 l1 y1 z1 st1 hQ1
    subst l1 y1 z1
    obtain ⟨rfl, Nq1, e1⟩ := hQ1
    have N2 := Fr.app N0 Nq1
    refine own_tr st1 ?_
    show own_Go p e below _ (T1.setTop (mkF m 4 #[oR this, oI (1 : Int32)] [(.int (1 : Int32))]))
    refine own_via (fun t kz => XS.ifNo X1.here hx rfl (hb hby d12_4) rfl ((if0 _ _).trans (feq (by decide : ¬ ((1 : Int32) = (0 : Int32)))).1) kz) ?_
    refine own_via (fun t kz => XS.aloadN X1.here hx rfl (hb hby d12_7) rfl rfl kz) ?_
    show own_Go p e below _ (T1.setTop (mkF m 8 #[oR this, oI (1 : Int32)] [(.ref this)]))
    obtain ⟨T3, X3, e3, st3⟩ := getF X1 hx hZ hown (host := "") (Or.inl (own_w hw 24)) Via.refl e1 Fv (g := (mkF m 8 #[oR this, oI (1 : Int32)] [(.ref this)])) rfl rfl (hb hby d12_8)
    refine own_via st3 ?_
    refine own_via (fun t kz => XS.iloadN X3.here hx rfl (hb hby d12_11) rfl kz) ?_
    show own_Go p e below _ (T3.setTop (mkF m 12 #[oR this, oI (1 : Int32)] [(.int (1 : Int32)), (.ref arr)]))
    obtain ⟨_, _, ⟨T4, L4, k4, n4⟩, -, X4, ⟨Lc4, hQ4, l4, y4, z4⟩, st4⟩ := Jvm.LawKit.callS X3 hx (y := (⟨"java/lang/StringLatin1", "charAt", "([BI)C"⟩ : MethodName)) hown (mvT hZ (own_w hw 64)) (mvT hZ (own_w hw 65)) (mvT hZ (own_w hw 66)) (mvT hZ (own_w hw 67)) (by decide) (backOf (W := 0) (rmH3_1 l Z a0 hw [] arr wcs wsf kb (c0_.toInt8.toInt32) (c1_.toInt8.toInt32) (c2_.toInt8.toInt32) c1_ h0 n0 Z0 OLD hcs rsf B_wcs B_wsf B_wad B_whi B_wlo Va (by unfold fH3_1; exact own_lat hc1 hl.2.1)) hZ (own_w hw 67) (own_w hw 66) (by decide) (by decide)) (g := (mkF m 12 #[oR this, oI (1 : Int32)] [(.int (1 : Int32)), (.ref arr)])) rfl (by rw [hml]; rfl) (argsL := [(.ref arr), (.int (1 : Int32))]) (rest := []) (lenOf pd_12_1 rfl) rfl (by show 2 * 0 + _ ≤ _; exact Nat.le_of_eq rfl) (hb hby d12_12) (fun _ _ => ⟨rfl, e3, (by decide : 0 + 0 ≤ _), (by decide : 0 + 0 ≤ _)⟩)
    dsimp only [Pt.U, Pt.locs, Pt.cells, Pt.slots] at X4 l4 y4 z4 st4 hQ4
    subst l4 y4 z4
    obtain ⟨rfl, Nq4, e4⟩ := hQ4
    have N5 := Fr.app N2 Nq4
    refine own_via st4 ?_
    show own_Go p e below _ (T4.setTop (mkF m 15 #[oR this, oI (1 : Int32)] [(.int c1_)]))
    obtain ⟨fs, hr, hrun, hended, hW, hsame⟩ := X4.leave (v := some (.int c1_)) (fun h => by rw [Bd.returns] at h; cases h)
    refine ⟨_, _, retOut X4 hx (i := .ireturn) Bd.returns (own_nch hc1) (Or.inl ⟨rfl, by simp, _, rfl⟩) (hb hby d12_15) hr, hrun, hended, _, _, rfl, ?_, ⟨_, rfl⟩, hW, hsame.mono (by decide) (by decide)⟩
    show QA3_1 Z this c0_ c1_ c2_ wcs wsf h0 n0 _ T4.heap _
    rw [e4]
    exact ⟨rfl, N5, rfl⟩
  · show own_Go p e below _ (s₁.setTop (mkF m 0 #[oR this, oI (1 : Int32)] []))
    refine own_via (fun t kz => XS.aloadN X0.here hx rfl (hb hby d12_0) rfl rfl kz) ?_
    show own_Go p e below _ (s₁.setTop (mkF m 1 #[oR this, oI (1 : Int32)] [(.ref this)]))
    obtain ⟨cq7, kq7, qa7, qb7, qc7⟩ := isOf hZ e0 Eq
    obtain ⟨_, _, ⟨T7, L7, k7, n7⟩, -, X7, ⟨Lc7, hQ7, l7, y7, z7⟩, st7⟩ := X0.virtualBack hx (y := (⟨"java/lang/String", "isLatin1", "()Z"⟩ : MethodName)) (z := (⟨"java/lang/String", "isLatin1", "()Z"⟩ : MethodName)) hown (mvT hZ (own_w hw 59)) (mvT hZ (own_w hw 60)) (notFace_of_selects (args := #[]) (mvT hZ (own_w hw 62))) (mvT hZ (own_w hw 62)) (mvT hZ (own_w hw 61)) (by decide) (backOf (W := 0) (rm13 l Z a0 hw [] this (1 : Int32) wcs (0 : Int32) h0 n0 Z0 hcs Fc (B_wcs.ext OLD.2) (by unfold f13; rw [if_neg (by decide : ¬ ((1 : Int32) = (0 : Int32)))])) hZ (own_w hw 63) (own_w hw 6) (by decide) (by decide)) qa7 qc7 (g := (mkF m 1 #[oR this, oI (1 : Int32)] [(.ref this)])) rfl (by rw [hml]; rfl) (Steps.refl _) (argsL := []) (rest := []) (lenOf pd_12_0 rfl) rfl (by show 2 * 0 + _ ≤ _; exact Nat.le_of_eq rfl) (hb hby d12_1) (fun _ _ => ⟨rfl, e0, (by decide : 0 + 0 ≤ _), (by decide : 0 + 0 ≤ _)⟩)
    dsimp only [Pt.U, Pt.locs, Pt.cells, Pt.slots] at X7 l7 y7 z7 st7 hQ7
    subst l7 y7 z7
    obtain ⟨rfl, Nq7, e7⟩ := hQ7
    have N8 := Fr.app N0 Nq7
    refine own_tr st7 ?_
    show own_Go p e below _ (T7.setTop (mkF m 4 #[oR this, oI (1 : Int32)] [(.int (0 : Int32))]))
    refine own_via (fun t kz => XS.ifYes X7.here hx rfl (pc0 := 4) (pc' := 16) rfl (hb hby d12_4) rfl ((if0 _ _).trans (teq (by decide : (0 : Int32) = (0 : Int32))).1) (by decide) (by decide) kz) ?_
    refine own_via (fun t kz => XS.aloadN X7.here hx rfl (hb hby d12_16) rfl rfl kz) ?_
    show own_Go p e below _ (T7.setTop (mkF m 17 #[oR this, oI (1 : Int32)] [(.ref this)]))
    obtain ⟨T9, X9, e9, st9⟩ := getF X7 hx hZ hown (host := "") (Or.inl (own_w hw 24)) Via.refl e7 Fv (g := (mkF m 17 #[oR this, oI (1 : Int32)] [(.ref this)])) rfl rfl (hb hby d12_17)
    refine own_via st9 ?_
    refine own_via (fun t kz => XS.iloadN X9.here hx rfl (hb hby d12_20) rfl kz) ?_
    show own_Go p e below _ (T9.setTop (mkF m 21 #[oR this, oI (1 : Int32)] [(.int (1 : Int32)), (.ref arr)]))
    obtain ⟨_, _, ⟨T10, L10, k10, n10⟩, -, X10, ⟨Lc10, hQ10, l10, y10, z10⟩, st10⟩ := Jvm.LawKit.callS X9 hx (y := (⟨"java/lang/StringUTF16", "charAt", "([BI)C"⟩ : MethodName)) hown (mvT hZ (own_w hw 98)) (mvT hZ (own_w hw 99)) (mvT hZ (own_w hw 43)) (mvT hZ (own_w hw 100)) (by decide) (backOf (W := 0) (rmY3_1 l Z a0 hw [] arr wcs wsf kb ((c0_ >>> ((0 : Int32) &&& 31)).toInt8.toInt32) ((c0_ >>> ((8 : Int32) &&& 31)).toInt8.toInt32) ((c1_ >>> ((0 : Int32) &&& 31)).toInt8.toInt32) ((c1_ >>> ((8 : Int32) &&& 31)).toInt8.toInt32) ((c2_ >>> ((0 : Int32) &&& 31)).toInt8.toInt32) ((c2_ >>> ((8 : Int32) &&& 31)).toInt8.toInt32) c1_ h0 n0 Z0 OLD hcs rsf B_wcs B_wsf B_wad B_whi B_wlo Va (by unfold fY3_1; exact own_utf hc1)) hZ (own_w hw 100) (own_w hw 43) (by decide) (by decide)) (g := (mkF m 21 #[oR this, oI (1 : Int32)] [(.int (1 : Int32)), (.ref arr)])) rfl (by rw [hml]; rfl) (argsL := [(.ref arr), (.int (1 : Int32))]) (rest := []) (lenOf pd_12_1 rfl) rfl (by show 2 * 0 + _ ≤ _; exact Nat.le_of_eq rfl) (hb hby d12_21) (fun _ _ => ⟨rfl, e9, (by decide : 0 + 0 ≤ _), (by decide : 0 + 0 ≤ _)⟩)
    dsimp only [Pt.U, Pt.locs, Pt.cells, Pt.slots] at X10 l10 y10 z10 st10 hQ10
    subst l10 y10 z10
    obtain ⟨rfl, Nq10, e10⟩ := hQ10
    have N11 := Fr.app N8 Nq10
    refine own_via st10 ?_
    show own_Go p e below _ (T10.setTop (mkF m 24 #[oR this, oI (1 : Int32)] [(.int c1_)]))
    obtain ⟨fs, hr, hrun, hended, hW, hsame⟩ := X10.leave (v := some (.int c1_)) (fun h => by rw [Bd.returns] at h; cases h)
    refine ⟨_, _, retOut X10 hx (i := .ireturn) Bd.returns (own_nch hc1) (Or.inl ⟨rfl, by simp, _, rfl⟩) (hb hby d12_24) hr, hrun, hended, _, _, rfl, ?_, ⟨_, rfl⟩, hW, hsame.mono (by decide) (by decide)⟩
    show QA3_1 Z this c0_ c1_ c2_ wcs wsf h0 n0 _ T10.heap _
    rw [e10]
    exact ⟨rfl, N11, rfl⟩
def fH3_2 (b2_ : Int32) : Int32 := ((b2_ &&& (255 : Int32)).toUInt32.toUInt16.toUInt32.toInt32)
theorem ef_rmH3_2 (m : MethodId) (q0 : Addr) : entryFrame m #[(.ref q0), (.int (2 : Int32))] 2 = mkF m 0 #[oR q0, oI (2 : Int32)] [] := by first | (simp [entryFrame, mkF, argsToLocals, Value.category]; done) | rfl
def QH3_2 (Z : State) (p0 : Addr) (wcs : Int32) (wsf : Value) (ka : ClassId) (b0_ : Int32) (b1_ : Int32) (b2_ : Int32) (r : Int32) (h0 : Heap) (n0 : Nat) (v : Option Value) (h : Heap) (L : List Loc) : Prop := v = some (.int r) ∧ Fr n0 L ∧ h = h0
set_option maxRecDepth 65536 in
set_option maxHeartbeats 40000000 in
theorem rmH3_2 (l : Launch) (Z : State) (a0 : Array Value) (hw : ∀ d ∈ tables_1, d.before a0 Z = true) (ws : List Jvm.Cond) (p0 : Addr) (wcs : Int32) (wsf : Value) (ka : ClassId) (b0_ : Int32) (b1_ : Int32) (b2_ : Int32) (r : Int32) (h0 : Heap) (n0 : Nat) (Z0 : n0 ≤ h0.size) (OLD : Old Z n0 h0) (hcs : ¬ (wcs = (0 : Int32))) (rsf : wsf.isRef = true) (B_wcs : Sta Z Z.heap "java/lang/String" "COMPACT_STRINGS" "Z" (.int wcs)) (B_wsf : Sta Z Z.heap "jdk/internal/util/Preconditions" "SIOOBE_FORMATTER" "Ljava/util/function/BiFunction;" wsf) (B_wad : Sta Z Z.heap "java/lang/StringUTF16" "$assertionsDisabled" "Z" (.int (1 : Int32))) (B_whi : Sta Z Z.heap "java/lang/StringUTF16" "HI_BYTE_SHIFT" "I" (.int (0 : Int32))) (B_wlo : Sta Z Z.heap "java/lang/StringUTF16" "LO_BYTE_SHIFT" "I" (.int (8 : Int32))) (V_p0 : Arv Z h0 p0 ka .byte (3 : Int32) [(.int b0_), (.int b1_), (.int b2_)] (.int (0 : Int32))) (hr0 : (fH3_2 b2_) = r) :
    MetFree l (⟨"java/lang/StringLatin1", "charAt", "([BI)C"⟩ : MethodName) (head1 (Jvm.Cond.code (⟨"java/lang/StringLatin1", "charAt", "([BI)C"⟩ : MethodName) jdk_43_method_2_code 2 (some .char) :: ws) ({ frames := 2, cells := 0, slots := 0, locals := 27 } : Room)) (fun a U => a = #[(.ref p0), (.int (2 : Int32))] ∧ Z.Warmed39 U.vm ∧ U.heap = h0) (fun _ _ _ _ _ => True) (fun _ U o U' => ∃ v L, o = .returned v ∧ QH3_2 Z p0 wcs wsf ka b0_ b1_ b2_ r h0 n0 v U'.heap L ∧ FrameEnd U o U' L ({ frames := 2, cells := 0, slots := 0, locals := 27 } : Room).cells ({ frames := 2, cells := 0, slots := 0, locals := 27 } : Room).slots) := by
  refine MetFree.of_bodySF (plainFor_of_name pn_14) hisR ?_
  intro p e s m args below meth c s₁ Bd hml0 hP hK
  obtain ⟨rfl, hZ, hh⟩ := hP
  have hx := Bd.exec
  have hby := Bd.bytes
  have hml : c.maxLocals = 2 := hml0
  have hown : s.vm.findClass "java/lang/StringLatin1" = some m.cls := findClass_of_methodNamed Bd.named
  have hnm := (name_of_methodNamed Bd.named Bd.method).1
  have X0 : Stand p l e ({ frames := 2, cells := 0, slots := 0, locals := 27 } : Room) s m #[(.ref p0), (.int (2 : Int32))] below meth c s₁ [] 0 0 := Stand.of_body Bd
  have e0 : s₁.heap = h0 := by rw [← hh, Bd.state]; rfl
  have N0 := Fr.nil n0
  refine own_start ?_
  refine own_via (fun t k => castTop (ef_rmH3_2 m p0) k) ?_
  show own_Go p e below _ (s₁.setTop (mkF m 0 #[oR p0, oI (2 : Int32)] []))
  refine own_via (fun t kz => XS.iloadN X0.here hx rfl (hb hby d14_0) rfl kz) ?_
  refine own_via (fun t kz => XS.aloadN X0.here hx rfl (hb hby d14_1) rfl rfl kz) ?_
  show own_Go p e below _ (s₁.setTop (mkF m 2 #[oR p0, oI (2 : Int32)] [(.ref p0), (.int (2 : Int32))]))
  obtain ⟨cl1, Ar1, kc1, Sz1, Nn1, Hs1, Gs1⟩ := id V_p0
  refine own_via (fun t kz => X0.arraylength hx (by rw [e0]; exact Ar1.1) (State.isArrayOf_alike hZ.alike Ar1.2.1) (g := (mkF m 2 #[oR p0, oI (2 : Int32)] [(.ref p0), (.int (2 : Int32))])) rfl rfl (hb hby d14_2) t kz) ?_
  show own_Go p e below _ (s₁.setTop (mkF m 3 #[oR p0, oI (2 : Int32)] [(.int (cl1.slots.size.toInt32)), (.int (2 : Int32))]))
  rw [len_of Sz1 Nn1]
  show own_Go p e below _ (s₁.setTop (mkF m 3 #[oR p0, oI (2 : Int32)] [(.int (3 : Int32)), (.int (2 : Int32))]))
  obtain ⟨_, _, ⟨T2, L2, k2, n2⟩, -, X2, ⟨Lc2, hQ2, l2, y2, z2⟩, st2⟩ := Jvm.LawKit.callS X0 hx (y := (⟨"java/lang/String", "checkIndex", "(II)V"⟩ : MethodName)) hown (mvT hZ (own_w hw 68)) (mvT hZ (own_w hw 69)) (mvT hZ (own_w hw 6)) (mvT hZ (own_w hw 70)) (by decide) (backOf (W := 0) (rm15 l Z a0 hw [] (2 : Int32) (3 : Int32) wsf h0 n0 Z0 rsf (B_wsf.ext OLD.2) (by decide) (by decide)) hZ (own_w hw 70) (own_w hw 6) (by decide) (by decide)) (g := (mkF m 3 #[oR p0, oI (2 : Int32)] [(.int (3 : Int32)), (.int (2 : Int32))])) rfl (by rw [hml]; rfl) (argsL := [(.int (2 : Int32)), (.int (3 : Int32))]) (rest := []) (lenOf pd_14_0 rfl) rfl (by show 2 * 0 + _ ≤ _; exact Nat.le_of_eq rfl) (hb hby d14_3) (fun _ _ => ⟨rfl, e0, (by decide : 0 + 0 ≤ _), (by decide : 0 + 0 ≤ _)⟩)
  dsimp only [Pt.U, Pt.locs, Pt.cells, Pt.slots] at X2 l2 y2 z2 st2 hQ2
  subst l2 y2 z2
  obtain ⟨rfl, Nq2, e2⟩ := hQ2
  have N3 := Fr.app N0 Nq2
  refine own_via st2 ?_
  refine own_via (fun t kz => XS.aloadN X2.here hx rfl (hb hby d14_6) rfl rfl kz) ?_
  refine own_via (fun t kz => XS.iloadN X2.here hx rfl (hb hby d14_7) rfl kz) ?_
  show own_Go p e below _ (T2.setTop (mkF m 8 #[oR p0, oI (2 : Int32)] [(.int (2 : Int32)), (.ref p0)]))
  obtain ⟨cl4, Ar4, kc4, Sz4, Nn4, Hs4, Gs4⟩ := id V_p0
  have in4 := inb_of (j := (2 : Int32)) Sz4 ⟨by decide, by decide⟩
  have at4 : cl4.slots[((2 : Int32)).toNatClampNeg]? = some (.int b2_) := Hs4.at in4 rfl
  refine own_via (fun t kz => X2.baloadBytes hx (j := (2 : Int32)) (v := (.int b2_)) (by rw [e2]; exact Ar4.1) (State.isArrayOf_alike hZ.alike Ar4.2.1) Ar4.2.2 in4 at4 (g := (mkF m 8 #[oR p0, oI (2 : Int32)] [(.int (2 : Int32)), (.ref p0)])) rfl rfl (hb hby d14_8) t kz) ?_
  refine own_via (fun t kz => XS.sipush X2.here hx rfl (hb hby d14_9) kz) ?_
  refine own_via (fun t kz => XS.iand X2.here hx rfl (hb hby d14_12) rfl kz) ?_
  show own_Go p e below _ (T2.setTop (mkF m 13 #[oR p0, oI (2 : Int32)] [(.int (b2_ &&& (255 : Int32)))]))
  refine own_via (fun t kz => XS.i2c X2.here hx rfl (hb hby d14_13) rfl kz) ?_
  show own_Go p e below _ (T2.setTop (mkF m 14 #[oR p0, oI (2 : Int32)] [(.int ((b2_ &&& (255 : Int32)).toUInt32.toUInt16.toUInt32.toInt32))]))
  have hv : (fH3_2 b2_) = ((b2_ &&& (255 : Int32)).toUInt32.toUInt16.toUInt32.toInt32) := by unfold fH3_2; rfl
  obtain ⟨fs, hr, hrun, hended, hW, hsame⟩ := X2.leave (v := some (.int ((b2_ &&& (255 : Int32)).toUInt32.toUInt16.toUInt32.toInt32))) (fun h => by rw [Bd.returns] at h; cases h)
  refine ⟨_, _, retOut X2 hx (i := .ireturn) Bd.returns (narrow_c _) (Or.inl ⟨rfl, by simp, _, rfl⟩) (hb hby d14_14) hr, hrun, hended, _, _, rfl, ?_, ⟨_, rfl⟩, hW, hsame.mono (by decide) (by decide)⟩
  show QH3_2 Z p0 wcs wsf ka b0_ b1_ b2_ r h0 n0 _ T2.heap _
  rw [e2]
  exact ⟨by rw [← hr0, hv], N3, rfl⟩
theorem ef_rmX3_2 (m : MethodId) (q0 : Addr) : entryFrame m #[(.int (2 : Int32)), (.ref q0)] 2 = mkF m 0 #[oI (2 : Int32), oR q0] [] := by first | (simp [entryFrame, mkF, argsToLocals, Value.category]; done) | rfl
def QX3_2 (Z : State) (p1 : Addr) (kb : ClassId) (b0_ : Int32) (b1_ : Int32) (b2_ : Int32) (b3_ : Int32) (b4_ : Int32) (b5_ : Int32) (wcs : Int32) (wsf : Value) (h0 : Heap) (n0 : Nat) (v : Option Value) (h : Heap) (L : List Loc) : Prop := v = none ∧ Fr n0 L ∧ h = h0
set_option maxRecDepth 65536 in
set_option maxHeartbeats 40000000 in
theorem rmX3_2 (l : Launch) (Z : State) (a0 : Array Value) (hw : ∀ d ∈ tables_1, d.before a0 Z = true) (ws : List Jvm.Cond) (p1 : Addr) (kb : ClassId) (b0_ : Int32) (b1_ : Int32) (b2_ : Int32) (b3_ : Int32) (b4_ : Int32) (b5_ : Int32) (wcs : Int32) (wsf : Value) (h0 : Heap) (n0 : Nat) (Z0 : n0 ≤ h0.size) (VB : Arv Z h0 p1 kb .byte (6 : Int32) [(.int b0_), (.int b1_), (.int b2_), (.int b3_), (.int b4_), (.int b5_)] (.int (0 : Int32))) (OLD : Old Z n0 h0) (hcs : ¬ (wcs = (0 : Int32))) (rsf : wsf.isRef = true) (B_wcs : Sta Z Z.heap "java/lang/String" "COMPACT_STRINGS" "Z" (.int wcs)) (B_wsf : Sta Z Z.heap "jdk/internal/util/Preconditions" "SIOOBE_FORMATTER" "Ljava/util/function/BiFunction;" wsf) (B_wad : Sta Z Z.heap "java/lang/StringUTF16" "$assertionsDisabled" "Z" (.int (1 : Int32))) (B_whi : Sta Z Z.heap "java/lang/StringUTF16" "HI_BYTE_SHIFT" "I" (.int (0 : Int32))) (B_wlo : Sta Z Z.heap "java/lang/StringUTF16" "LO_BYTE_SHIFT" "I" (.int (8 : Int32))) :
    MetFree l (⟨"java/lang/StringUTF16", "checkIndex", "(I[B)V"⟩ : MethodName) (head1 (Jvm.Cond.code (⟨"java/lang/StringUTF16", "checkIndex", "(I[B)V"⟩ : MethodName) jdk_52_method_91_code 2 none :: ws) ({ frames := 2, cells := 0, slots := 0, locals := 27 } : Room)) (fun a U => a = #[(.int (2 : Int32)), (.ref p1)] ∧ Z.Warmed39 U.vm ∧ U.heap = h0) (fun _ _ _ _ _ => True) (fun _ U o U' => ∃ v L, o = .returned v ∧ QX3_2 Z p1 kb b0_ b1_ b2_ b3_ b4_ b5_ wcs wsf h0 n0 v U'.heap L ∧ FrameEnd U o U' L ({ frames := 2, cells := 0, slots := 0, locals := 27 } : Room).cells ({ frames := 2, cells := 0, slots := 0, locals := 27 } : Room).slots) := by
  refine MetFree.of_bodySF (plainFor_of_name pn_20) hisR ?_
  intro p e s m args below meth c s₁ Bd hml0 hP hK
  obtain ⟨rfl, hZ, hh⟩ := hP
  have hx := Bd.exec
  have hby := Bd.bytes
  have hml : c.maxLocals = 2 := hml0
  have hown : s.vm.findClass "java/lang/StringUTF16" = some m.cls := findClass_of_methodNamed Bd.named
  have hnm := (name_of_methodNamed Bd.named Bd.method).1
  have X0 : Stand p l e ({ frames := 2, cells := 0, slots := 0, locals := 27 } : Room) s m #[(.int (2 : Int32)), (.ref p1)] below meth c s₁ [] 0 0 := Stand.of_body Bd
  have e0 : s₁.heap = h0 := by rw [← hh, Bd.state]; rfl
  have N0 := Fr.nil n0
  refine own_start ?_
  refine own_via (fun t k => castTop (ef_rmX3_2 m p1) k) ?_
  show own_Go p e below _ (s₁.setTop (mkF m 0 #[oI (2 : Int32), oR p1] []))
  refine own_via (fun t kz => XS.iloadN X0.here hx rfl (hb hby d24_0) rfl kz) ?_
  refine own_via (fun t kz => XS.aloadN X0.here hx rfl (hb hby d24_1) rfl rfl kz) ?_
  show own_Go p e below _ (s₁.setTop (mkF m 2 #[oI (2 : Int32), oR p1] [(.ref p1), (.int (2 : Int32))]))
  obtain ⟨_, _, ⟨T1, L1, k1, n1⟩, -, X1, ⟨Lc1, hQ1, l1, y1, z1⟩, st1⟩ := Jvm.LawKit.callS X0 hx (y := (⟨"java/lang/StringUTF16", "length", "([B)I"⟩ : MethodName)) hown (mvT hZ (own_w hw 104)) (mvT hZ (own_w hw 105)) (mvT hZ (own_w hw 43)) (mvT hZ (own_w hw 106)) (by decide) (backOf (W := 1) (rmU3 l Z a0 hw [] p1 kb b0_ b1_ b2_ b3_ b4_ b5_ (3 : Int32) h0 n0 Z0 VB (by unfold fU3; rfl)) hZ (own_w hw 106) (own_w hw 43) (by decide) (by decide)) (g := (mkF m 2 #[oI (2 : Int32), oR p1] [(.ref p1), (.int (2 : Int32))])) rfl (by rw [hml]; rfl) (argsL := [(.ref p1)]) (rest := [(.int (2 : Int32))]) (lenOf pd_24_0 rfl) rfl (by show 2 * 0 + _ ≤ _; exact Nat.le_of_eq rfl) (hb hby d24_2) (fun _ _ => ⟨rfl, e0, (by decide : 0 + 0 ≤ _), (by decide : 0 + 0 ≤ _)⟩)
  dsimp only [Pt.U, Pt.locs, Pt.cells, Pt.slots] at X1 l1 y1 z1 st1 hQ1
  subst l1 y1 z1
  obtain ⟨rfl, Nq1, e1⟩ := hQ1
  have N2 := Fr.app N0 Nq1
  refine own_via st1 ?_
  show own_Go p e below _ (T1.setTop (mkF m 5 #[oI (2 : Int32), oR p1] [(.int (3 : Int32)), (.int (2 : Int32))]))
  obtain ⟨_, _, ⟨T3, L3, k3, n3⟩, -, X3, ⟨Lc3, hQ3, l3, y3, z3⟩, st3⟩ := Jvm.LawKit.callS X1 hx (y := (⟨"java/lang/String", "checkIndex", "(II)V"⟩ : MethodName)) hown (mvT hZ (own_w hw 107)) (mvT hZ (own_w hw 69)) (mvT hZ (own_w hw 6)) (mvT hZ (own_w hw 70)) (by decide) (backOf (W := 0) (rm15 l Z a0 hw [] (2 : Int32) (3 : Int32) wsf h0 n0 Z0 rsf (B_wsf.ext OLD.2) (by decide) (by decide)) hZ (own_w hw 70) (own_w hw 6) (by decide) (by decide)) (g := (mkF m 5 #[oI (2 : Int32), oR p1] [(.int (3 : Int32)), (.int (2 : Int32))])) rfl (by rw [hml]; rfl) (argsL := [(.int (2 : Int32)), (.int (3 : Int32))]) (rest := []) (lenOf pd_24_1 rfl) rfl (by show 2 * 0 + _ ≤ _; exact Nat.le_of_eq rfl) (hb hby d24_5) (fun _ _ => ⟨rfl, e1, (by decide : 0 + 0 ≤ _), (by decide : 0 + 0 ≤ _)⟩)
  dsimp only [Pt.U, Pt.locs, Pt.cells, Pt.slots] at X3 l3 y3 z3 st3 hQ3
  subst l3 y3 z3
  obtain ⟨rfl, Nq3, e3⟩ := hQ3
  have N4 := Fr.app N2 Nq3
  refine own_via st3 ?_
  show own_Go p e below _ (T3.setTop (mkF m 8 #[oI (2 : Int32), oR p1] []))
  obtain ⟨fs, hr, hrun, hended, hW, hsame⟩ := X3.leave (v := none) (fun _ => rfl)
  refine ⟨_, _, X3.returnOut hx Bd.returns (hb hby d24_8) hr, hrun, hended, _, _, rfl, ?_, ⟨_, rfl⟩, hW, hsame.mono (by decide) (by decide)⟩
  show QX3_2 Z p1 kb b0_ b1_ b2_ b3_ b4_ b5_ wcs wsf h0 n0 _ T3.heap _
  rw [e3]
  exact ⟨rfl, N4, rfl⟩
def fY3_2 (b4_ : Int32) (b5_ : Int32) : Int32 := ((((b4_ &&& (255 : Int32)) <<< ((0 : Int32) &&& 31)) ||| ((b5_ &&& (255 : Int32)) <<< ((8 : Int32) &&& 31))).toUInt32.toUInt16.toUInt32.toInt32)
theorem ef_rmY3_2 (m : MethodId) (q0 : Addr) : entryFrame m #[(.ref q0), (.int (2 : Int32))] 2 = mkF m 0 #[oR q0, oI (2 : Int32)] [] := by first | (simp [entryFrame, mkF, argsToLocals, Value.category]; done) | rfl
def QY3_2 (Z : State) (p0 : Addr) (wcs : Int32) (wsf : Value) (ka : ClassId) (b0_ : Int32) (b1_ : Int32) (b2_ : Int32) (b3_ : Int32) (b4_ : Int32) (b5_ : Int32) (r : Int32) (h0 : Heap) (n0 : Nat) (v : Option Value) (h : Heap) (L : List Loc) : Prop := v = some (.int r) ∧ Fr n0 L ∧ h = h0
set_option maxRecDepth 65536 in
set_option maxHeartbeats 40000000 in
theorem rmY3_2 (l : Launch) (Z : State) (a0 : Array Value) (hw : ∀ d ∈ tables_1, d.before a0 Z = true) (ws : List Jvm.Cond) (p0 : Addr) (wcs : Int32) (wsf : Value) (ka : ClassId) (b0_ : Int32) (b1_ : Int32) (b2_ : Int32) (b3_ : Int32) (b4_ : Int32) (b5_ : Int32) (r : Int32) (h0 : Heap) (n0 : Nat) (Z0 : n0 ≤ h0.size) (OLD : Old Z n0 h0) (hcs : ¬ (wcs = (0 : Int32))) (rsf : wsf.isRef = true) (B_wcs : Sta Z Z.heap "java/lang/String" "COMPACT_STRINGS" "Z" (.int wcs)) (B_wsf : Sta Z Z.heap "jdk/internal/util/Preconditions" "SIOOBE_FORMATTER" "Ljava/util/function/BiFunction;" wsf) (B_wad : Sta Z Z.heap "java/lang/StringUTF16" "$assertionsDisabled" "Z" (.int (1 : Int32))) (B_whi : Sta Z Z.heap "java/lang/StringUTF16" "HI_BYTE_SHIFT" "I" (.int (0 : Int32))) (B_wlo : Sta Z Z.heap "java/lang/StringUTF16" "LO_BYTE_SHIFT" "I" (.int (8 : Int32))) (V_p0 : Arv Z h0 p0 ka .byte (6 : Int32) [(.int b0_), (.int b1_), (.int b2_), (.int b3_), (.int b4_), (.int b5_)] (.int (0 : Int32))) (hr0 : (fY3_2 b4_ b5_) = r) :
    MetFree l (⟨"java/lang/StringUTF16", "charAt", "([BI)C"⟩ : MethodName) (head1 (Jvm.Cond.code (⟨"java/lang/StringUTF16", "charAt", "([BI)C"⟩ : MethodName) jdk_52_method_83_code 2 (some .char) :: ws) ({ frames := 3, cells := 0, slots := 0, locals := 40 } : Room)) (fun a U => a = #[(.ref p0), (.int (2 : Int32))] ∧ Z.Warmed39 U.vm ∧ U.heap = h0) (fun _ _ _ _ _ => True) (fun _ U o U' => ∃ v L, o = .returned v ∧ QY3_2 Z p0 wcs wsf ka b0_ b1_ b2_ b3_ b4_ b5_ r h0 n0 v U'.heap L ∧ FrameEnd U o U' L ({ frames := 3, cells := 0, slots := 0, locals := 40 } : Room).cells ({ frames := 3, cells := 0, slots := 0, locals := 40 } : Room).slots) := by
  refine MetFree.of_bodySF (plainFor_of_name pn_20) hisR ?_
  intro p e s m args below meth c s₁ Bd hml0 hP hK
  obtain ⟨rfl, hZ, hh⟩ := hP
  have hx := Bd.exec
  have hby := Bd.bytes
  have hml : c.maxLocals = 2 := hml0
  have hown : s.vm.findClass "java/lang/StringUTF16" = some m.cls := findClass_of_methodNamed Bd.named
  have hnm := (name_of_methodNamed Bd.named Bd.method).1
  have X0 : Stand p l e ({ frames := 3, cells := 0, slots := 0, locals := 40 } : Room) s m #[(.ref p0), (.int (2 : Int32))] below meth c s₁ [] 0 0 := Stand.of_body Bd
  have e0 : s₁.heap = h0 := by rw [← hh, Bd.state]; rfl
  have N0 := Fr.nil n0
  refine own_start ?_
  refine own_via (fun t k => castTop (ef_rmY3_2 m p0) k) ?_
  show own_Go p e below _ (s₁.setTop (mkF m 0 #[oR p0, oI (2 : Int32)] []))
  refine own_via (fun t kz => XS.iloadN X0.here hx rfl (hb hby d23_0) rfl kz) ?_
  refine own_via (fun t kz => XS.aloadN X0.here hx rfl (hb hby d23_1) rfl rfl kz) ?_
  show own_Go p e below _ (s₁.setTop (mkF m 2 #[oR p0, oI (2 : Int32)] [(.ref p0), (.int (2 : Int32))]))
  obtain ⟨_, _, ⟨T1, L1, k1, n1⟩, -, X1, ⟨Lc1, hQ1, l1, y1, z1⟩, st1⟩ := Jvm.LawKit.callS X0 hx (y := (⟨"java/lang/StringUTF16", "checkIndex", "(I[B)V"⟩ : MethodName)) hown (mvT hZ (own_w hw 101)) (mvT hZ (own_w hw 102)) (mvT hZ (own_w hw 43)) (mvT hZ (own_w hw 103)) (by decide) (backOf (W := 0) (rmX3_2 l Z a0 hw [] p0 ka b0_ b1_ b2_ b3_ b4_ b5_ wcs wsf h0 n0 Z0 V_p0 OLD hcs rsf B_wcs B_wsf B_wad B_whi B_wlo) hZ (own_w hw 103) (own_w hw 43) (by decide) (by decide)) (g := (mkF m 2 #[oR p0, oI (2 : Int32)] [(.ref p0), (.int (2 : Int32))])) rfl (by rw [hml]; rfl) (argsL := [(.int (2 : Int32)), (.ref p0)]) (rest := []) (lenOf pd_23_0 rfl) rfl (by show 2 * 0 + _ ≤ _; exact Nat.le_of_eq rfl) (hb hby d23_2) (fun _ _ => ⟨rfl, e0, (by decide : 0 + 0 ≤ _), (by decide : 0 + 0 ≤ _)⟩)
  dsimp only [Pt.U, Pt.locs, Pt.cells, Pt.slots] at X1 l1 y1 z1 st1 hQ1
  subst l1 y1 z1
  obtain ⟨rfl, Nq1, e1⟩ := hQ1
  have N2 := Fr.app N0 Nq1
  refine own_via st1 ?_
  refine own_via (fun t kz => XS.aloadN X1.here hx rfl (hb hby d23_5) rfl rfl kz) ?_
  refine own_via (fun t kz => XS.iloadN X1.here hx rfl (hb hby d23_6) rfl kz) ?_
  show own_Go p e below _ (T1.setTop (mkF m 7 #[oR p0, oI (2 : Int32)] [(.int (2 : Int32)), (.ref p0)]))
  obtain ⟨_, _, ⟨T3, L3, k3, n3⟩, -, X3, ⟨Lc3, hQ3, l3, y3, z3⟩, st3⟩ := Jvm.LawKit.callS X1 hx (y := (⟨"java/lang/StringUTF16", "getChar", "([BI)C"⟩ : MethodName)) hown (mvT hZ (own_w hw 95)) (mvT hZ (own_w hw 96)) (mvT hZ (own_w hw 43)) (mvT hZ (own_w hw 97)) (by decide) (backOf (W := 0) (rmG3_2 l Z a0 hw [] p0 (1 : Int32) (0 : Int32) (8 : Int32) ka b0_ b1_ b2_ b3_ b4_ b5_ ((((b4_ &&& (255 : Int32)) <<< ((0 : Int32) &&& 31)) ||| ((b5_ &&& (255 : Int32)) <<< ((8 : Int32) &&& 31))).toUInt32.toUInt16.toUInt32.toInt32) h0 n0 Z0 rfl (B_wad.ext OLD.2) (B_whi.ext OLD.2) (B_wlo.ext OLD.2) V_p0 (by unfold fG3_2; rfl)) hZ (own_w hw 97) (own_w hw 43) (by decide) (by decide)) (g := (mkF m 7 #[oR p0, oI (2 : Int32)] [(.int (2 : Int32)), (.ref p0)])) rfl (by rw [hml]; rfl) (argsL := [(.ref p0), (.int (2 : Int32))]) (rest := []) (lenOf pd_23_1 rfl) rfl (by show 2 * 0 + _ ≤ _; exact Nat.le_of_eq rfl) (hb hby d23_7) (fun _ _ => ⟨rfl, e1, (by decide : 0 + 0 ≤ _), (by decide : 0 + 0 ≤ _)⟩)
  dsimp only [Pt.U, Pt.locs, Pt.cells, Pt.slots] at X3 l3 y3 z3 st3 hQ3
  subst l3 y3 z3
  obtain ⟨rfl, Nq3, e3⟩ := hQ3
  have N4 := Fr.app N2 Nq3
  refine own_via st3 ?_
  show own_Go p e below _ (T3.setTop (mkF m 10 #[oR p0, oI (2 : Int32)] [(.int ((((b4_ &&& (255 : Int32)) <<< ((0 : Int32) &&& 31)) ||| ((b5_ &&& (255 : Int32)) <<< ((8 : Int32) &&& 31))).toUInt32.toUInt16.toUInt32.toInt32))]))
  have hv : (fY3_2 b4_ b5_) = ((((b4_ &&& (255 : Int32)) <<< ((0 : Int32) &&& 31)) ||| ((b5_ &&& (255 : Int32)) <<< ((8 : Int32) &&& 31))).toUInt32.toUInt16.toUInt32.toInt32) := by unfold fY3_2; rfl
  obtain ⟨fs, hr, hrun, hended, hW, hsame⟩ := X3.leave (v := some (.int ((((b4_ &&& (255 : Int32)) <<< ((0 : Int32) &&& 31)) ||| ((b5_ &&& (255 : Int32)) <<< ((8 : Int32) &&& 31))).toUInt32.toUInt16.toUInt32.toInt32))) (fun h => by rw [Bd.returns] at h; cases h)
  refine ⟨_, _, retOut X3 hx (i := .ireturn) Bd.returns (narrow_c _) (Or.inl ⟨rfl, by simp, _, rfl⟩) (hb hby d23_10) hr, hrun, hended, _, _, rfl, ?_, ⟨_, rfl⟩, hW, hsame.mono (by decide) (by decide)⟩
  show QY3_2 Z p0 wcs wsf ka b0_ b1_ b2_ b3_ b4_ b5_ r h0 n0 _ T3.heap _
  rw [e3]
  exact ⟨by rw [← hr0, hv], N4, rfl⟩
theorem ef_rmA3_2 (m : MethodId) (q0 : Addr) : entryFrame m #[(.ref q0), (.int (2 : Int32))] 2 = mkF m 0 #[oR q0, oI (2 : Int32)] [] := by first | (simp [entryFrame, mkF, argsToLocals, Value.category]; done) | rfl
def QA3_2 (Z : State) (this : Addr) (c0_ : Int32) (c1_ : Int32) (c2_ : Int32) (wcs : Int32) (wsf : Value) (h0 : Heap) (n0 : Nat) (v : Option Value) (h : Heap) (L : List Loc) : Prop := v = some (.int c2_) ∧ Fr n0 L ∧ h = h0
set_option maxRecDepth 65536 in
set_option maxHeartbeats 40000000 in
theorem rmA3_2 (l : Launch) (Z : State) (a0 : Array Value) (hw : ∀ d ∈ tables_1, d.before a0 Z = true) (ws : List Jvm.Cond) (this : Addr) (c0_ : Int32) (c1_ : Int32) (c2_ : Int32) (wcs : Int32) (wsf : Value) (h0 : Heap) (n0 : Nat) (Z0 : n0 ≤ h0.size) (SR : own_Str3 Z h0 n0 this c0_ c1_ c2_) (hc0 : own_ch c0_) (hc1 : own_ch c1_) (hc2 : own_ch c2_) (OLD : Old Z n0 h0) (hcs : ¬ (wcs = (0 : Int32))) (rsf : wsf.isRef = true) (B_wcs : Sta Z Z.heap "java/lang/String" "COMPACT_STRINGS" "Z" (.int wcs)) (B_wsf : Sta Z Z.heap "jdk/internal/util/Preconditions" "SIOOBE_FORMATTER" "Ljava/util/function/BiFunction;" wsf) (B_wad : Sta Z Z.heap "java/lang/StringUTF16" "$assertionsDisabled" "Z" (.int (1 : Int32))) (B_whi : Sta Z Z.heap "java/lang/StringUTF16" "HI_BYTE_SHIFT" "I" (.int (0 : Int32))) (B_wlo : Sta Z Z.heap "java/lang/StringUTF16" "LO_BYTE_SHIFT" "I" (.int (8 : Int32))) :
    MetFree l (⟨"java/lang/String", "charAt", "(I)C"⟩ : MethodName) (head1 (Jvm.Cond.code (⟨"java/lang/String", "charAt", "(I)C"⟩ : MethodName) jdk_42_method_56_code 2 (some .char) :: ws) ({ frames := 4, cells := 0, slots := 0, locals := 53 } : Room)) (fun a U => a = #[(.ref this), (.int (2 : Int32))] ∧ Z.Warmed39 U.vm ∧ U.heap = h0) (fun _ _ _ _ _ => True) (fun _ U o U' => ∃ v L, o = .returned v ∧ QA3_2 Z this c0_ c1_ c2_ wcs wsf h0 n0 v U'.heap L ∧ FrameEnd U o U' L ({ frames := 4, cells := 0, slots := 0, locals := 53 } : Room).cells ({ frames := 4, cells := 0, slots := 0, locals := 53 } : Room).slots) := by
  refine MetFree.of_bodySF (plainFor_of_name pn_15) hisR ?_
  intro p e s m args below meth c s₁ Bd hml0 hP hK
  obtain ⟨rfl, hZ, hh⟩ := hP
  have hx := Bd.exec
  have hby := Bd.bytes
  have hml : c.maxLocals = 2 := hml0
  have hown : s.vm.findClass "java/lang/String" = some m.cls := findClass_of_methodNamed Bd.named
  have hnm := (name_of_methodNamed Bd.named Bd.method).1
  have X0 : Stand p l e ({ frames := 4, cells := 0, slots := 0, locals := 53 } : Room) s m #[(.ref this), (.int (2 : Int32))] below meth c s₁ [] 0 0 := Stand.of_body Bd
  have e0 : s₁.heap = h0 := by rw [← hh, Bd.state]; rfl
  have N0 := Fr.nil n0
  refine own_start ?_
  refine own_via (fun t k => castTop (ef_rmA3_2 m this) k) ?_
  obtain ⟨arr, kb, ⟨ch0, ch1⟩, Eq, Fv, Rp⟩ := SR
  rcases Rp with ⟨hl, Fc, Va⟩ | ⟨Fc, Va⟩
  · show own_Go p e below _ (s₁.setTop (mkF m 0 #[oR this, oI (2 : Int32)] []))
    refine own_via (fun t kz => XS.aloadN X0.here hx rfl (hb hby d12_0) rfl rfl kz) ?_
    show own_Go p e below _ (s₁.setTop (mkF m 1 #[oR this, oI (2 : Int32)] [(.ref this)]))
    obtain ⟨cq1, kq1, qa1, qb1, qc1⟩ := isOf hZ e0 Eq
    obtain ⟨_, _, ⟨T1, L1, k1, n1⟩, -, X1, ⟨Lc1, hQ1, l1, y1, z1⟩, st1⟩ := X0.virtualBack hx (y := (⟨"java/lang/String", "isLatin1", "()Z"⟩ : MethodName)) (z := (⟨"java/lang/String", "isLatin1", "()Z"⟩ : MethodName)) hown (mvT hZ (own_w hw 59)) (mvT hZ (own_w hw 60)) (notFace_of_selects (args := #[]) (mvT hZ (own_w hw 62))) (mvT hZ (own_w hw 62)) (mvT hZ (own_w hw 61)) (by decide) (backOf (W := 0) (rm13 l Z a0 hw [] this (0 : Int32) wcs (1 : Int32) h0 n0 Z0 hcs Fc (B_wcs.ext OLD.2) (by unfold f13; rw [if_pos (by decide : (0 : Int32) = (0 : Int32))])) hZ (own_w hw 63) (own_w hw 6) (by decide) (by decide)) qa1 qc1 (g := (mkF m 1 #[oR this, oI (2 : Int32)] [(.ref this)])) rfl (by rw [hml]; rfl) (Steps.refl _) (argsL := []) (rest := []) (lenOf pd_12_0 rfl) rfl (by show 2 * 0 + _ ≤ _; exact Nat.le_of_eq rfl) (hb hby d12_1) (fun _ _ => ⟨rfl, e0, (by decide : 0 + 0 ≤ _), (by decide : 0 + 0 ≤ _)⟩)
    dsimp only [Pt.U, Pt.locs, Pt.cells, Pt.slots] at X1 l1 y1 z1 st1 hQ1
    subst l1 y1 z1
    obtain ⟨rfl, Nq1, e1⟩ := hQ1
    have N2 := Fr.app N0 Nq1
    refine own_tr st1 ?_
    show own_Go p e below _ (T1.setTop (mkF m 4 #[oR this, oI (2 : Int32)] [(.int (1 : Int32))]))
    refine own_via (fun t kz => XS.ifNo X1.here hx rfl (hb hby d12_4) rfl ((if0 _ _).trans (feq (by decide : ¬ ((1 : Int32) = (0 : Int32)))).1) kz) ?_
    refine own_via (fun t kz => XS.aloadN X1.here hx rfl (hb hby d12_7) rfl rfl kz) ?_
    show own_Go p e below _ (T1.setTop (mkF m 8 #[oR this, oI (2 : Int32)] [(.ref this)]))
    obtain ⟨T3, X3, e3, st3⟩ := getF X1 hx hZ hown (host := "") (Or.inl (own_w hw 24)) Via.refl e1 Fv (g := (mkF m 8 #[oR this, oI (2 : Int32)] [(.ref this)])) rfl rfl (hb hby d12_8)
    refine own_via st3 ?_
    refine own_via (fun t kz => XS.iloadN X3.here hx rfl (hb hby d12_11) rfl kz) ?_
    show own_Go p e below _ (T3.setTop (mkF m 12 #[oR this, oI (2 : Int32)] [(.int (2 : Int32)), (.ref arr)]))
    obtain ⟨_, _, ⟨T4, L4, k4, n4⟩, -, X4, ⟨Lc4, hQ4, l4, y4, z4⟩, st4⟩ := Jvm.LawKit.callS X3 hx (y := (⟨"java/lang/StringLatin1", "charAt", "([BI)C"⟩ : MethodName)) hown (mvT hZ (own_w hw 64)) (mvT hZ (own_w hw 65)) (mvT hZ (own_w hw 66)) (mvT hZ (own_w hw 67)) (by decide) (backOf (W := 0) (rmH3_2 l Z a0 hw [] arr wcs wsf kb (c0_.toInt8.toInt32) (c1_.toInt8.toInt32) (c2_.toInt8.toInt32) c2_ h0 n0 Z0 OLD hcs rsf B_wcs B_wsf B_wad B_whi B_wlo Va (by unfold fH3_2; exact own_lat hc2 hl.2.2)) hZ (own_w hw 67) (own_w hw 66) (by decide) (by decide)) (g := (mkF m 12 #[oR this, oI (2 : Int32)] [(.int (2 : Int32)), (.ref arr)])) rfl (by rw [hml]; rfl) (argsL := [(.ref arr), (.int (2 : Int32))]) (rest := []) (lenOf pd_12_1 rfl) rfl (by show 2 * 0 + _ ≤ _; exact Nat.le_of_eq rfl) (hb hby d12_12) (fun _ _ => ⟨rfl, e3, (by decide : 0 + 0 ≤ _), (by decide : 0 + 0 ≤ _)⟩)
    dsimp only [Pt.U, Pt.locs, Pt.cells, Pt.slots] at X4 l4 y4 z4 st4 hQ4
    subst l4 y4 z4
    obtain ⟨rfl, Nq4, e4⟩ := hQ4
    have N5 := Fr.app N2 Nq4
    refine own_via st4 ?_
    show own_Go p e below _ (T4.setTop (mkF m 15 #[oR this, oI (2 : Int32)] [(.int c2_)]))
    obtain ⟨fs, hr, hrun, hended, hW, hsame⟩ := X4.leave (v := some (.int c2_)) (fun h => by rw [Bd.returns] at h; cases h)
    refine ⟨_, _, retOut X4 hx (i := .ireturn) Bd.returns (own_nch hc2) (Or.inl ⟨rfl, by simp, _, rfl⟩) (hb hby d12_15) hr, hrun, hended, _, _, rfl, ?_, ⟨_, rfl⟩, hW, hsame.mono (by decide) (by decide)⟩
    show QA3_2 Z this c0_ c1_ c2_ wcs wsf h0 n0 _ T4.heap _
    rw [e4]
    exact ⟨rfl, N5, rfl⟩
  · show own_Go p e below _ (s₁.setTop (mkF m 0 #[oR this, oI (2 : Int32)] []))
    refine own_via (fun t kz => XS.aloadN X0.here hx rfl (hb hby d12_0) rfl rfl kz) ?_
    show own_Go p e below _ (s₁.setTop (mkF m 1 #[oR this, oI (2 : Int32)] [(.ref this)]))
    obtain ⟨cq7, kq7, qa7, qb7, qc7⟩ := isOf hZ e0 Eq
    obtain ⟨_, _, ⟨T7, L7, k7, n7⟩, -, X7, ⟨Lc7, hQ7, l7, y7, z7⟩, st7⟩ := X0.virtualBack hx (y := (⟨"java/lang/String", "isLatin1", "()Z"⟩ : MethodName)) (z := (⟨"java/lang/String", "isLatin1", "()Z"⟩ : MethodName)) hown (mvT hZ (own_w hw 59)) (mvT hZ (own_w hw 60)) (notFace_of_selects (args := #[]) (mvT hZ (own_w hw 62))) (mvT hZ (own_w hw 62)) (mvT hZ (own_w hw 61)) (by decide) (backOf (W := 0) (rm13 l Z a0 hw [] this (1 : Int32) wcs (0 : Int32) h0 n0 Z0 hcs Fc (B_wcs.ext OLD.2) (by unfold f13; rw [if_neg (by decide : ¬ ((1 : Int32) = (0 : Int32)))])) hZ (own_w hw 63) (own_w hw 6) (by decide) (by decide)) qa7 qc7 (g := (mkF m 1 #[oR this, oI (2 : Int32)] [(.ref this)])) rfl (by rw [hml]; rfl) (Steps.refl _) (argsL := []) (rest := []) (lenOf pd_12_0 rfl) rfl (by show 2 * 0 + _ ≤ _; exact Nat.le_of_eq rfl) (hb hby d12_1) (fun _ _ => ⟨rfl, e0, (by decide : 0 + 0 ≤ _), (by decide : 0 + 0 ≤ _)⟩)
    dsimp only [Pt.U, Pt.locs, Pt.cells, Pt.slots] at X7 l7 y7 z7 st7 hQ7
    subst l7 y7 z7
    obtain ⟨rfl, Nq7, e7⟩ := hQ7
    have N8 := Fr.app N0 Nq7
    refine own_tr st7 ?_
    show own_Go p e below _ (T7.setTop (mkF m 4 #[oR this, oI (2 : Int32)] [(.int (0 : Int32))]))
    refine own_via (fun t kz => XS.ifYes X7.here hx rfl (pc0 := 4) (pc' := 16) rfl (hb hby d12_4) rfl ((if0 _ _).trans (teq (by decide : (0 : Int32) = (0 : Int32))).1) (by decide) (by decide) kz) ?_
    refine own_via (fun t kz => XS.aloadN X7.here hx rfl (hb hby d12_16) rfl rfl kz) ?_
    show own_Go p e below _ (T7.setTop (mkF m 17 #[oR this, oI (2 : Int32)] [(.ref this)]))
    obtain ⟨T9, X9, e9, st9⟩ := getF X7 hx hZ hown (host := "") (Or.inl (own_w hw 24)) Via.refl e7 Fv (g := (mkF m 17 #[oR this, oI (2 : Int32)] [(.ref this)])) rfl rfl (hb hby d12_17)
    refine own_via st9 ?_
    refine own_via (fun t kz => XS.iloadN X9.here hx rfl (hb hby d12_20) rfl kz) ?_
    show own_Go p e below _ (T9.setTop (mkF m 21 #[oR this, oI (2 : Int32)] [(.int (2 : Int32)), (.ref arr)]))
    obtain ⟨_, _, ⟨T10, L10, k10, n10⟩, -, X10, ⟨Lc10, hQ10, l10, y10, z10⟩, st10⟩ := Jvm.LawKit.callS X9 hx (y := (⟨"java/lang/StringUTF16", "charAt", "([BI)C"⟩ : MethodName)) hown (mvT hZ (own_w hw 98)) (mvT hZ (own_w hw 99)) (mvT hZ (own_w hw 43)) (mvT hZ (own_w hw 100)) (by decide) (backOf (W := 0) (rmY3_2 l Z a0 hw [] arr wcs wsf kb ((c0_ >>> ((0 : Int32) &&& 31)).toInt8.toInt32) ((c0_ >>> ((8 : Int32) &&& 31)).toInt8.toInt32) ((c1_ >>> ((0 : Int32) &&& 31)).toInt8.toInt32) ((c1_ >>> ((8 : Int32) &&& 31)).toInt8.toInt32) ((c2_ >>> ((0 : Int32) &&& 31)).toInt8.toInt32) ((c2_ >>> ((8 : Int32) &&& 31)).toInt8.toInt32) c2_ h0 n0 Z0 OLD hcs rsf B_wcs B_wsf B_wad B_whi B_wlo Va (by unfold fY3_2; exact own_utf hc2)) hZ (own_w hw 100) (own_w hw 43) (by decide) (by decide)) (g := (mkF m 21 #[oR this, oI (2 : Int32)] [(.int (2 : Int32)), (.ref arr)])) rfl (by rw [hml]; rfl) (argsL := [(.ref arr), (.int (2 : Int32))]) (rest := []) (lenOf pd_12_1 rfl) rfl (by show 2 * 0 + _ ≤ _; exact Nat.le_of_eq rfl) (hb hby d12_21) (fun _ _ => ⟨rfl, e9, (by decide : 0 + 0 ≤ _), (by decide : 0 + 0 ≤ _)⟩)
    dsimp only [Pt.U, Pt.locs, Pt.cells, Pt.slots] at X10 l10 y10 z10 st10 hQ10
    subst l10 y10 z10
    obtain ⟨rfl, Nq10, e10⟩ := hQ10
    have N11 := Fr.app N8 Nq10
    refine own_via st10 ?_
    show own_Go p e below _ (T10.setTop (mkF m 24 #[oR this, oI (2 : Int32)] [(.int c2_)]))
    obtain ⟨fs, hr, hrun, hended, hW, hsame⟩ := X10.leave (v := some (.int c2_)) (fun h => by rw [Bd.returns] at h; cases h)
    refine ⟨_, _, retOut X10 hx (i := .ireturn) Bd.returns (own_nch hc2) (Or.inl ⟨rfl, by simp, _, rfl⟩) (hb hby d12_24) hr, hrun, hended, _, _, rfl, ?_, ⟨_, rfl⟩, hW, hsame.mono (by decide) (by decide)⟩
    show QA3_2 Z this c0_ c1_ c2_ wcs wsf h0 n0 _ T10.heap _
    rw [e10]
    exact ⟨rfl, N11, rfl⟩
def own_Str0 (Z : State) (h : Heap) (n0 : Nat) (this : Addr) : Prop := ∃ (arr : Addr) (kb : ClassId), (n0 ≤ this ∧ this ≠ arr) ∧ Exa Z h this "java/lang/String" ∧ Fld Z h this "java/lang/String" "value" "[B" (.ref arr) ∧ Fld Z h this "java/lang/String" "coder" "B" (.int (0 : Int32)) ∧ Arv Z h arr kb .byte (0 : Int32) [] (.int (0 : Int32))
theorem d3_8 : decode jdk_42_method_149_code 8 = .ok (.aload_n 0, 1) := by decide +kernel
theorem d3_9 : decode jdk_42_method_149_code 9 = .ok (.ldc 7, 2) := by decide +kernel
theorem d3_11 : decode jdk_42_method_149_code 11 = .ok (.getfield 9, 3) := by decide +kernel
theorem d3_14 : decode jdk_42_method_149_code 14 = .ok (.putfield 9, 3) := by decide +kernel
theorem d3_17 : decode jdk_42_method_149_code 17 = .ok (.aload_n 0, 1) := by decide +kernel
theorem d3_18 : decode jdk_42_method_149_code 18 = .ok (.ldc 7, 2) := by decide +kernel
theorem d3_20 : decode jdk_42_method_149_code 20 = .ok (.getfield 15, 3) := by decide +kernel
theorem d3_23 : decode jdk_42_method_149_code 23 = .ok (.putfield 15, 3) := by decide +kernel
theorem d3_26 : decode jdk_42_method_149_code 26 = .ok (.return_, 1) := by decide +kernel
theorem ef_rmI4_0 (m : MethodId) (q0 : Addr) (q1 : Addr) : entryFrame m #[(.ref q0), (.ref q1), (.int (0 : Int32)), (.int (0 : Int32)), .null] 6 = mkF m 0 #[oR q0, oR q1, oI (0 : Int32), oI (0 : Int32), .val .null, .unset] [] := by first | (simp [entryFrame, mkF, argsToLocals, Value.category]; done) | rfl
def QI4_0 (Z : State) (this : Addr) (p1 : Addr) (h0 : Heap) (n0 : Nat) (v : Option Value) (h : Heap) (L : List Loc) : Prop := v = none ∧ Fr n0 L ∧ Keep h0 h [this] ∧ own_Str0 Z h n0 this
set_option maxRecDepth 65536 in
set_option maxHeartbeats 40000000 in
theorem rmI4_0 (l : Launch) (Z : State) (a0 : Array Value) (hw : ∀ d ∈ tables_1, d.before a0 Z = true) (ws : List Jvm.Cond) (this : Addr) (p1 : Addr) (h0 : Heap) (n0 : Nat) (Z0 : n0 ≤ h0.size) (g_this : n0 ≤ this) (E_this : Exa Z h0 this "java/lang/String") (F_value : Fld Z h0 this "java/lang/String" "value" "[B" .null) (F_coder : Fld Z h0 this "java/lang/String" "coder" "B" (.int (0 : Int32))) :
    MetFree l (⟨"java/lang/String", "<init>", "([CIILjava/lang/Void;)V"⟩ : MethodName) (head1 (Jvm.Cond.code (⟨"java/lang/String", "<init>", "([CIILjava/lang/Void;)V"⟩ : MethodName) jdk_42_method_149_code 6 none :: ws) ({ frames := 1, cells := 4, slots := 8, locals := 12 } : Room)) (fun a U => a = #[(.ref this), (.ref p1), (.int (0 : Int32)), (.int (0 : Int32)), .null] ∧ Z.Warmed39 U.vm ∧ U.heap = h0 ∧ CHv Z own_EL U.vm h0 ∧ Safe Z own_EL U.vm h0 this) (fun _ _ _ _ _ => True) (fun _ U o U' => ∃ v L, o = .returned v ∧ QI4_0 Z this p1 h0 n0 v U'.heap L ∧ CHr Z own_EL U.vm U.heap U'.vm U'.heap ∧ ReturnedEndW U o U' L ({ frames := 1, cells := 4, slots := 8, locals := 12 } : Room).cells ({ frames := 1, cells := 4, slots := 8, locals := 12 } : Room).slots) := by
  refine MetFree.of_bodySF (plainFor_of_name pn_15) hisR ?_
  intro p e s m args below meth c s₁ Bd hml0 hP hK
  obtain ⟨rfl, hZ, hh, HC0, hsafe⟩ := hP
  have hx := Bd.exec
  have hby := Bd.bytes
  have hml : c.maxLocals = 6 := hml0
  have hown : s.vm.findClass "java/lang/String" = some m.cls := findClass_of_methodNamed Bd.named
  have hnm := (name_of_methodNamed Bd.named Bd.method).1
  have X0 : Stand p l e ({ frames := 1, cells := 4, slots := 8, locals := 12 } : Room) s m #[(.ref this), (.ref p1), (.int (0 : Int32)), (.int (0 : Int32)), .null] below meth c s₁ [] 0 0 := Stand.of_body Bd
  have e0 : s₁.heap = h0 := by rw [← hh, Bd.state]; rfl
  have N0 := Fr.nil n0
  have hZ : Z.Warmed39 (s.setVm s.vm).vm := hZ
  have hown : (s.setVm s.vm).vm.findClass "java/lang/String" = some m.cls := hown
  have X0 : Stand p l e ({ frames := 1, cells := 4, slots := 8, locals := 12 } : Room) (s.setVm s.vm) m #[(.ref this), (.ref p1), (.int (0 : Int32)), (.int (0 : Int32)), .null] below meth c s₁ [] 0 0 := X0
  have R0 : CHr Z own_EL s.vm h0 s.vm h0 := CHr.refl HC0
  have hS0 : s.Since s.vm s.heap.size := (State.WarmedH.refl s).since _
  have hk0 : s.heap.size ≤ h0.size := by rw [hh]; exact Nat.le_refl _
  have hEL := own_hEL hw
  refine own_start ?_
  refine own_via (fun t k => castTop (ef_rmI4_0 m this p1) k) ?_
  show own_Go p e below _ (s₁.setTop (mkF m 0 #[oR this, oR p1, oI (0 : Int32), oI (0 : Int32), .val .null, .unset] []))
  refine own_via (fun t kz => XS.aloadN X0.here hx rfl (hb hby d3_0) rfl rfl kz) ?_
  show own_Go p e below _ (s₁.setTop (mkF m 1 #[oR this, oR p1, oI (0 : Int32), oI (0 : Int32), .val .null, .unset] [(.ref this)]))
  obtain ⟨T1, X1, e1, st1⟩ := initO X0 hx hZ hown (own_w hw 15) (own_w hw 16) (own_w hw 17) e0 (g := (mkF m 1 #[oR this, oR p1, oI (0 : Int32), oI (0 : Int32), .val .null, .unset] [(.ref this)])) rfl (by rw [hml]; rfl) rfl (hb hby d3_1) (by decide) (W := 0) (by show 2 * 0 + _ ≤ _; exact Nat.le_of_eq rfl) (by decide)
  refine own_via st1 ?_
  refine own_via (fun t kz => XS.iloadN X1.here hx rfl (hb hby d3_4) rfl kz) ?_
  show own_Go p e below _ (T1.setTop (mkF m 5 #[oR this, oR p1, oI (0 : Int32), oI (0 : Int32), .val .null, .unset] [(.int (0 : Int32))]))
  refine own_via (fun t kz => XS.ifNo X1.here hx rfl (hb hby d3_5) rfl ((if0 _ _).trans (teq (by decide : (0 : Int32) = (0 : Int32))).2) kz) ?_
  refine own_via (fun t kz => XS.aloadN X1.here hx rfl (hb hby d3_8) rfl rfl kz) ?_
  show own_Go p e below _ (T1.setTop (mkF m 9 #[oR this, oR p1, oI (0 : Int32), oI (0 : Int32), .val .null, .unset] [(.ref this)]))
  obtain ⟨a2, T2, h2, kk2, b2, kc2, X2, e2, E2, hS2, hk2, hZ, hown, Ea2, Fc2, Fv2, Vb2, la2, lb2, cv2, -, sf2, st2⟩ := ldcCH (s := s) (vm0 := s.vm) X1 hx hZ hown (own_w hw 18) (own_sa hw) e1 hS0 hk0 hEL (by simp [own_EL]) R0.1 (vs := []) (z := (0 : Int32)) ⟨by decide, by decide⟩ (by decide) (by decide) (g := (mkF m 9 #[oR this, oR p1, oI (0 : Int32), oI (0 : Int32), .val .null, .unset] [(.ref this)])) rfl (hb hby d3_9) (n := 0) (by decide) (by decide) (by decide) (by decide)
  refine own_via st2 ?_
  have sf2this : Safe Z own_EL T2.vm h2 this := cv2.safe E_this.lt hsafe
  have R2 := R0.trans cv2
  have E3 := E_this.ext E2
  have F4 := F_value.ext E2
  have F5 := F_coder.ext E2
  have Zs6 : n0 ≤ h2.size := Nat.le_trans Z0 E2.1
  have K7 : Keep h0 h2 [this] := (Keep.refl h0 [this]).ext E2
  show own_Go p e below _ (T2.setTop (mkF m 11 #[oR this, oR p1, oI (0 : Int32), oI (0 : Int32), .val .null, .unset] [(.ref a2), (.ref this)]))
  obtain ⟨T8, X8, e8, st8⟩ := getF X2 hx hZ hown (host := "") (Or.inl (own_w hw 24)) Via.refl e2 Fv2 (g := (mkF m 11 #[oR this, oR p1, oI (0 : Int32), oI (0 : Int32), .val .null, .unset] [(.ref a2), (.ref this)])) rfl rfl (hb hby d3_11)
  refine own_via st8 ?_
  show own_Go p e below _ (T8.setTop (mkF m 14 #[oR this, oR p1, oI (0 : Int32), oI (0 : Int32), .val .null, .unset] [(.ref b2), (.ref this)]))
  obtain ⟨T9, h9, X9, e9, W9, st9⟩ := putF X8 hx hZ hown (host := "") (Or.inl (own_w hw 24)) Via.refl e8 F4 E3 (Or.inr ⟨(own_w hw 20), rfl, hnm⟩) (own_w hw 5) (ty := (.array .byte)) (by decide) rfl rfl (g := (mkF m 14 #[oR this, oR p1, oI (0 : Int32), oI (0 : Int32), .val .null, .unset] [(.ref b2), (.ref this)])) rfl rfl (hb hby d3_14)
  refine own_via st9 ?_
  have cv10 : CHr Z own_EL T2.vm h2 T2.vm h9 := CHr.wr W9 sf2this R2.1
  have R10 := R2.trans cv10
  have sf10this : Safe Z own_EL T2.vm h9 this := cv10.safe E3.lt sf2this
  have hk10 := Nat.le_trans hk2 cv10.2.1
  have E11 := E3.wr W9
  have F12 := F4.same W9
  have F13 := F5.other W9 (Or.inr (slot_ne (Or.inr (own_w hw 21)) (Or.inr (own_w hw 20)) (by decide) (t := .byte) (t' := (.array .byte)) (by decide) (by decide)))
  have E14 := Ea2.wr W9
  have F15 := Fc2.other W9 (Or.inl (Ne.symm (sf2 this sf2this).1))
  have F16 := Fv2.other W9 (Or.inl (Ne.symm (sf2 this sf2this).1))
  have V17 := Vb2.other W9 (Ne.symm (sf2 this sf2this).2)
  have Zs18 : n0 ≤ h9.size := Nat.le_trans Zs6 (Keep.of_wr W9).1
  have N19 := Fr.snoc X9 N0 g_this
  have K20 : Keep h0 h9 [this] := K7.wr W9 (Or.inl (List.mem_of_getElem? (i := 0) rfl))
  refine own_via (fun t kz => XS.aloadN X9.here hx rfl (hb hby d3_17) rfl rfl kz) ?_
  show own_Go p e below _ (T9.setTop (mkF m 18 #[oR this, oR p1, oI (0 : Int32), oI (0 : Int32), .val .null, .unset] [(.ref this)]))
  obtain ⟨a21, T21, h21, kk21, b21, kc21, X21, e21, E21, hS21, hk21, hZ, hown, Ea21, Fc21, Fv21, Vb21, la21, lb21, cv21, -, sf21, st21⟩ := ldcCH (s := s) (vm0 := T2.vm) X9 hx hZ hown (own_w hw 18) (own_sa hw) e9 hS2 hk10 hEL (by simp [own_EL]) R10.1 (vs := []) (z := (0 : Int32)) ⟨by decide, by decide⟩ (by decide) (by decide) (g := (mkF m 18 #[oR this, oR p1, oI (0 : Int32), oI (0 : Int32), .val .null, .unset] [(.ref this)])) rfl (hb hby d3_18) (n := 0) (by decide) (by decide) (by decide) (by decide)
  refine own_via st21 ?_
  have sf21this : Safe Z own_EL T21.vm h21 this := cv21.safe E11.lt sf10this
  have R21 := R10.trans cv21
  have E22 := E11.ext E21
  have F23 := F12.ext E21
  have F24 := F13.ext E21
  have E25 := E14.ext E21
  have F26 := F15.ext E21
  have F27 := F16.ext E21
  have V28 := V17.ext E21
  have Zs29 : n0 ≤ h21.size := Nat.le_trans Zs18 E21.1
  have K30 : Keep h0 h21 [this] := K20.ext E21
  show own_Go p e below _ (T21.setTop (mkF m 20 #[oR this, oR p1, oI (0 : Int32), oI (0 : Int32), .val .null, .unset] [(.ref a21), (.ref this)]))
  obtain ⟨T31, X31, e31, st31⟩ := getF X21 hx hZ hown (host := "") (Or.inl (own_w hw 25)) Via.refl e21 Fc21 (g := (mkF m 20 #[oR this, oR p1, oI (0 : Int32), oI (0 : Int32), .val .null, .unset] [(.ref a21), (.ref this)])) rfl rfl (hb hby d3_20)
  refine own_via st31 ?_
  show own_Go p e below _ (T31.setTop (mkF m 23 #[oR this, oR p1, oI (0 : Int32), oI (0 : Int32), .val .null, .unset] [(.int (0 : Int32)), (.ref this)]))
  obtain ⟨T32, h32, X32, e32, W32, st32⟩ := putF X31 hx hZ hown (host := "") (Or.inl (own_w hw 25)) Via.refl e31 F24 E22 (Or.inr ⟨(own_w hw 21), rfl, hnm⟩) (own_w hw 5) (ty := .byte) (by decide) rfl rfl (g := (mkF m 23 #[oR this, oR p1, oI (0 : Int32), oI (0 : Int32), .val .null, .unset] [(.int (0 : Int32)), (.ref this)])) rfl rfl (hb hby d3_23)
  refine own_via st32 ?_
  have cv33 : CHr Z own_EL T21.vm h21 T21.vm h32 := CHr.wr W32 sf21this R21.1
  have R33 := R21.trans cv33
  have sf33this : Safe Z own_EL T21.vm h32 this := cv33.safe E22.lt sf21this
  have hk33 := Nat.le_trans hk21 cv33.2.1
  have E34 := E22.wr W32
  have F35 := F23.other W32 (Or.inr (slot_ne (Or.inr (own_w hw 20)) (Or.inr (own_w hw 21)) (by decide) (t := (.array .byte)) (t' := .byte) (by decide) (by decide)))
  have F36 := F24.same W32
  have E37 := E25.wr W32
  have F38 := F26.other W32 (Or.inl (Ne.symm (sf2 this sf2this).1))
  have F39 := F27.other W32 (Or.inl (Ne.symm (sf2 this sf2this).1))
  have V40 := V28.other W32 (Ne.symm (sf2 this sf2this).2)
  have E41 := Ea21.wr W32
  have F42 := Fc21.other W32 (Or.inl (Ne.symm (sf21 this sf21this).1))
  have F43 := Fv21.other W32 (Or.inl (Ne.symm (sf21 this sf21this).1))
  have V44 := Vb21.other W32 (Ne.symm (sf21 this sf21this).2)
  have Zs45 : n0 ≤ h32.size := Nat.le_trans Zs29 (Keep.of_wr W32).1
  have N46 := Fr.snoc X32 N19 g_this
  have K47 : Keep h0 h32 [this] := K30.wr W32 (Or.inl (List.mem_of_getElem? (i := 0) rfl))
  show own_Go p e below _ (T32.setTop (mkF m 26 #[oR this, oR p1, oI (0 : Int32), oI (0 : Int32), .val .null, .unset] []))
  obtain ⟨fs, hr, hrun, hended, hEnd⟩ := Jvm.Stand.leaveW (s := s) (vm₁ := T21.vm) X32 hS21 (show _ ≤ T32.heap.size by rw [e32]; exact hk33) (v := none) (fun _ => rfl)
  have hC : CHr Z own_EL s.vm s.heap T32.vm T32.heap := by rw [hh, e32]; exact R33.trans (CHv.at (s := s) (vm0 := T21.vm) X32 hZ hEL R33.1)
  refine ⟨_, _, X32.returnOut hx Bd.returns (hb hby d3_26) hr, hrun, hended, _, _, rfl, ?_, hC, ⟨hEnd.1, hEnd.2.1, hEnd.2.2.1, hEnd.2.2.2.mono (by decide) (by decide)⟩⟩
  show QI4_0 Z this p1 h0 n0 _ T32.heap _
  rw [e32]
  exact ⟨rfl, N46, K47, b2, kc2, ⟨g_this, (sf2 this sf2this).2⟩, E34, F35, F36, V40⟩
theorem ef_rmI_0 (m : MethodId) (q0 : Addr) (q1 : Addr) : entryFrame m #[(.ref q0), (.ref q1)] 2 = mkF m 0 #[oR q0, oR q1] [] := by first | (simp [entryFrame, mkF, argsToLocals, Value.category]; done) | rfl
def QI_0 (Z : State) (this : Addr) (p1 : Addr) (kc : ClassId) (h0 : Heap) (n0 : Nat) (v : Option Value) (h : Heap) (L : List Loc) : Prop := v = none ∧ Fr n0 L ∧ Keep h0 h [this] ∧ own_Str0 Z h n0 this
set_option maxRecDepth 65536 in
set_option maxHeartbeats 40000000 in
theorem rmI_0 (l : Launch) (Z : State) (a0 : Array Value) (hw : ∀ d ∈ tables_1, d.before a0 Z = true) (ws : List Jvm.Cond) (this : Addr) (p1 : Addr) (kc : ClassId) (h0 : Heap) (n0 : Nat) (Z0 : n0 ≤ h0.size) (g_this : n0 ≤ this) (E_this : Exa Z h0 this "java/lang/String") (F_value : Fld Z h0 this "java/lang/String" "value" "[B" .null) (F_coder : Fld Z h0 this "java/lang/String" "coder" "B" (.int (0 : Int32))) (VC : Arv Z h0 p1 kc .char (0 : Int32) [] (.int (0 : Int32))) (nec : p1 ≠ this) :
    MetFree l (⟨"java/lang/String", "<init>", "([C)V"⟩ : MethodName) (head1 (Jvm.Cond.code (⟨"java/lang/String", "<init>", "([C)V"⟩ : MethodName) jdk_42_method_3_code 2 none :: ws) ({ frames := 2, cells := 4, slots := 8, locals := 29 } : Room)) (fun a U => a = #[(.ref this), (.ref p1)] ∧ Z.Warmed39 U.vm ∧ U.heap = h0 ∧ CHv Z own_EL U.vm h0 ∧ Safe Z own_EL U.vm h0 this) (fun _ _ _ _ _ => True) (fun _ U o U' => ∃ v L, o = .returned v ∧ QI_0 Z this p1 kc h0 n0 v U'.heap L ∧ CHr Z own_EL U.vm U.heap U'.vm U'.heap ∧ ReturnedEndW U o U' L ({ frames := 2, cells := 4, slots := 8, locals := 29 } : Room).cells ({ frames := 2, cells := 4, slots := 8, locals := 29 } : Room).slots) := by
  refine MetFree.of_bodySF (plainFor_of_name pn_15) hisR ?_
  intro p e s m args below meth c s₁ Bd hml0 hP hK
  obtain ⟨rfl, hZ, hh, HC0, hsafe⟩ := hP
  have hx := Bd.exec
  have hby := Bd.bytes
  have hml : c.maxLocals = 2 := hml0
  have hown : s.vm.findClass "java/lang/String" = some m.cls := findClass_of_methodNamed Bd.named
  have hnm := (name_of_methodNamed Bd.named Bd.method).1
  have X0 : Stand p l e ({ frames := 2, cells := 4, slots := 8, locals := 29 } : Room) s m #[(.ref this), (.ref p1)] below meth c s₁ [] 0 0 := Stand.of_body Bd
  have e0 : s₁.heap = h0 := by rw [← hh, Bd.state]; rfl
  have N0 := Fr.nil n0
  have hZ : Z.Warmed39 (s.setVm s.vm).vm := hZ
  have hown : (s.setVm s.vm).vm.findClass "java/lang/String" = some m.cls := hown
  have X0 : Stand p l e ({ frames := 2, cells := 4, slots := 8, locals := 29 } : Room) (s.setVm s.vm) m #[(.ref this), (.ref p1)] below meth c s₁ [] 0 0 := X0
  have R0 : CHr Z own_EL s.vm h0 s.vm h0 := CHr.refl HC0
  have hS0 : s.Since s.vm s.heap.size := (State.WarmedH.refl s).since _
  have hk0 : s.heap.size ≤ h0.size := by rw [hh]; exact Nat.le_refl _
  have hEL := own_hEL hw
  refine own_start ?_
  refine own_via (fun t k => castTop (ef_rmI_0 m this p1) k) ?_
  show own_Go p e below _ (s₁.setTop (mkF m 0 #[oR this, oR p1] []))
  refine own_via (fun t kz => XS.aloadN X0.here hx rfl (hb hby d2_0) rfl rfl kz) ?_
  refine own_via (fun t kz => XS.aloadN X0.here hx rfl (hb hby d2_1) rfl rfl kz) ?_
  refine own_via (fun t kz => XS.iconst X0.here hx rfl (hb hby d2_2) kz) ?_
  refine own_via (fun t kz => XS.aloadN X0.here hx rfl (hb hby d2_3) rfl rfl kz) ?_
  show own_Go p e below _ (s₁.setTop (mkF m 4 #[oR this, oR p1] [(.ref p1), (.int (0 : Int32)), (.ref p1), (.ref this)]))
  obtain ⟨cl1, Ar1, kc1, Sz1, Nn1, Hs1, Gs1⟩ := id VC
  refine own_via (fun t kz => X0.arraylength hx (by rw [e0]; exact Ar1.1) (State.isArrayOf_alike hZ.alike Ar1.2.1) (g := (mkF m 4 #[oR this, oR p1] [(.ref p1), (.int (0 : Int32)), (.ref p1), (.ref this)])) rfl rfl (hb hby d2_4) t kz) ?_
  show own_Go p e below _ (s₁.setTop (mkF m 5 #[oR this, oR p1] [(.int (cl1.slots.size.toInt32)), (.int (0 : Int32)), (.ref p1), (.ref this)]))
  rw [len_of Sz1 Nn1]
  show own_Go p e below _ (s₁.setTop (mkF m 5 #[oR this, oR p1] [(.int (0 : Int32)), (.int (0 : Int32)), (.ref p1), (.ref this)]))
  refine own_via (fun t kz => XS.aconstNull X0.here hx rfl (hb hby d2_5) kz) ?_
  show own_Go p e below _ (s₁.setTop (mkF m 6 #[oR this, oR p1] [.null, (.int (0 : Int32)), (.int (0 : Int32)), (.ref p1), (.ref this)]))
  obtain ⟨_, _, ⟨T2, L2, k2, n2⟩, -, X2, hs2, hg2, ⟨Lc2, hQ2, l2, y2, z2, cv2⟩, st2⟩ := X0.specialBackS hx (y := (⟨"java/lang/String", "<init>", "([CIILjava/lang/Void;)V"⟩ : MethodName)) rfl hown (mvT hZ (own_w hw 11)) (mvT hZ (own_w hw 12)) (mvT hZ (own_w hw 14)) (by decide) (own_backSH (s := s) (vm0 := s.vm) (W := 0) (P := fun vm => Safe Z own_EL vm h0 this) (rmI4_0 l Z a0 hw [] this p1 h0 n0 Z0 g_this E_this F_value F_coder) hZ (own_w hw 14) (own_w hw 6) (by decide) (by decide) hEL R0.1 (fun _ r => r.safe E_this.lt hsafe)) (g := (mkF m 6 #[oR this, oR p1] [.null, (.int (0 : Int32)), (.int (0 : Int32)), (.ref p1), (.ref this)])) rfl (by rw [hml]; rfl) (Steps.refl _) (a := this) (argsL := [(.ref p1), (.int (0 : Int32)), (.int (0 : Int32)), .null]) (rest := []) (lenOf pd_2_0 rfl) rfl (by show 2 * 0 + _ ≤ _; exact Nat.le_of_eq rfl) (hb hby d2_6) (fun _ _ => ⟨rfl, e0, (by decide : 0 + 4 ≤ _), (by decide : 0 + 8 ≤ _)⟩)
  dsimp only [Pt.U, Pt.locs, Pt.cells, Pt.slots] at X2 l2 y2 z2 st2 hQ2 hs2 hg2 cv2
  subst l2 y2 z2
  obtain ⟨rfl, Nq2, Kc2, SR2⟩ := hQ2
  have N3 := Fr.app N0 Nq2
  refine own_tr st2 ?_
  obtain ⟨X2, hS2, hZ, hown⟩ := rebS hS0 (show _ ≤ s₁.heap.size by rw [e0]; exact hk0) X2 hs2 hg2 hZ hown
  have R2 := R0.trans cv2
  have sf2this : Safe Z own_EL T2.vm T2.heap this := cv2.safe E_this.lt hsafe
  have E4 := E_this.keep Kc2
  have V5 := VC.keep Kc2 (ninS nec nin0)
  have Zs6 : n0 ≤ T2.heap.size := Nat.le_trans Z0 Kc2.1
  have K7 : Keep h0 T2.heap [this] := (Keep.refl h0 [this]).trans Kc2 (allS (Or.inl (List.mem_of_getElem? (i := 0) rfl)) all0)
  show own_Go p e below _ (T2.setTop (mkF m 9 #[oR this, oR p1] []))
  obtain ⟨fs, hr, hrun, hended, hEnd⟩ := Jvm.Stand.leaveW (s := s) (vm₁ := T2.vm) X2 hS2 (show _ ≤ T2.heap.size by exact (Nat.le_refl T2.heap.size)) (v := none) (fun _ => rfl)
  have hC : CHr Z own_EL s.vm s.heap T2.vm T2.heap := by rw [hh]; exact R2.trans (CHv.at (s := s) (vm0 := T2.vm) X2 hZ hEL R2.1)
  refine ⟨_, _, X2.returnOut hx Bd.returns (hb hby d2_9) hr, hrun, hended, _, _, rfl, ?_, hC, ⟨hEnd.1, hEnd.2.1, hEnd.2.2.1, hEnd.2.2.2.mono (by decide) (by decide)⟩⟩
  show QI_0 Z this p1 kc h0 n0 _ T2.heap _
  exact ⟨rfl, N3, K7, SR2⟩
theorem ef_rmL0 (m : MethodId) (q0 : Addr) : entryFrame m #[(.ref q0)] 1 = mkF m 0 #[oR q0] [] := by first | (simp [entryFrame, mkF, argsToLocals, Value.category]; done) | rfl
def QL0 (Z : State) (this : Addr) (wcs : Int32) (wsf : Value) (h0 : Heap) (n0 : Nat) (v : Option Value) (h : Heap) (L : List Loc) : Prop := v = some (.int (0 : Int32)) ∧ Fr n0 L ∧ h = h0
set_option maxRecDepth 65536 in
set_option maxHeartbeats 40000000 in
theorem rmL0 (l : Launch) (Z : State) (a0 : Array Value) (hw : ∀ d ∈ tables_1, d.before a0 Z = true) (ws : List Jvm.Cond) (this : Addr) (wcs : Int32) (wsf : Value) (h0 : Heap) (n0 : Nat) (Z0 : n0 ≤ h0.size) (SR : own_Str0 Z h0 n0 this) (OLD : Old Z n0 h0) (hcs : ¬ (wcs = (0 : Int32))) (rsf : wsf.isRef = true) (B_wcs : Sta Z Z.heap "java/lang/String" "COMPACT_STRINGS" "Z" (.int wcs)) (B_wsf : Sta Z Z.heap "jdk/internal/util/Preconditions" "SIOOBE_FORMATTER" "Ljava/util/function/BiFunction;" wsf) (B_wad : Sta Z Z.heap "java/lang/StringUTF16" "$assertionsDisabled" "Z" (.int (1 : Int32))) (B_whi : Sta Z Z.heap "java/lang/StringUTF16" "HI_BYTE_SHIFT" "I" (.int (0 : Int32))) (B_wlo : Sta Z Z.heap "java/lang/StringUTF16" "LO_BYTE_SHIFT" "I" (.int (8 : Int32))) :
    MetFree l (⟨"java/lang/String", "length", "()I"⟩ : MethodName) (head1 (Jvm.Cond.code (⟨"java/lang/String", "length", "()I"⟩ : MethodName) jdk_42_method_54_code 1 (some .int) :: ws) ({ frames := 1, cells := 0, slots := 0, locals := 13 } : Room)) (fun a U => a = #[(.ref this)] ∧ Z.Warmed39 U.vm ∧ U.heap = h0) (fun _ _ _ _ _ => True) (fun _ U o U' => ∃ v L, o = .returned v ∧ QL0 Z this wcs wsf h0 n0 v U'.heap L ∧ FrameEnd U o U' L ({ frames := 1, cells := 0, slots := 0, locals := 13 } : Room).cells ({ frames := 1, cells := 0, slots := 0, locals := 13 } : Room).slots) := by
  refine MetFree.of_bodySF (plainFor_of_name pn_15) hisR ?_
  intro p e s m args below meth c s₁ Bd hml0 hP hK
  obtain ⟨rfl, hZ, hh⟩ := hP
  have hx := Bd.exec
  have hby := Bd.bytes
  have hml : c.maxLocals = 1 := hml0
  have hown : s.vm.findClass "java/lang/String" = some m.cls := findClass_of_methodNamed Bd.named
  have hnm := (name_of_methodNamed Bd.named Bd.method).1
  have X0 : Stand p l e ({ frames := 1, cells := 0, slots := 0, locals := 13 } : Room) s m #[(.ref this)] below meth c s₁ [] 0 0 := Stand.of_body Bd
  have e0 : s₁.heap = h0 := by rw [← hh, Bd.state]; rfl
  have N0 := Fr.nil n0
  refine own_start ?_
  refine own_via (fun t k => castTop (ef_rmL0 m this) k) ?_
  obtain ⟨arr, kb, ⟨ch0, ch1⟩, Eq, Fv, Fc, Va⟩ := SR
  show own_Go p e below _ (s₁.setTop (mkF m 0 #[oR this] []))
  refine own_via (fun t kz => XS.aloadN X0.here hx rfl (hb hby d6_0) rfl rfl kz) ?_
  show own_Go p e below _ (s₁.setTop (mkF m 1 #[oR this] [(.ref this)]))
  obtain ⟨T1, X1, e1, st1⟩ := getF X0 hx hZ hown (host := "") (Or.inl (own_w hw 24)) Via.refl e0 Fv (g := (mkF m 1 #[oR this] [(.ref this)])) rfl rfl (hb hby d6_1)
  refine own_via st1 ?_
  show own_Go p e below _ (T1.setTop (mkF m 4 #[oR this] [(.ref arr)]))
  obtain ⟨cl2, Ar2, kc2, Sz2, Nn2, Hs2, Gs2⟩ := id Va
  refine own_via (fun t kz => X1.arraylength hx (by rw [e1]; exact Ar2.1) (State.isArrayOf_alike hZ.alike Ar2.2.1) (g := (mkF m 4 #[oR this] [(.ref arr)])) rfl rfl (hb hby d6_4) t kz) ?_
  show own_Go p e below _ (T1.setTop (mkF m 5 #[oR this] [(.int (cl2.slots.size.toInt32))]))
  rw [len_of Sz2 Nn2]
  show own_Go p e below _ (T1.setTop (mkF m 5 #[oR this] [(.int (0 : Int32))]))
  refine own_via (fun t kz => XS.aloadN X1.here hx rfl (hb hby d6_5) rfl rfl kz) ?_
  show own_Go p e below _ (T1.setTop (mkF m 6 #[oR this] [(.ref this), (.int (0 : Int32))]))
  obtain ⟨cq3, kq3, qa3, qb3, qc3⟩ := isOf hZ e1 Eq
  obtain ⟨_, _, ⟨T3, L3, k3, n3⟩, -, X3, ⟨Lc3, hQ3, l3, y3, z3⟩, st3⟩ := X1.virtualBack hx (y := (⟨"java/lang/String", "coder", "()B"⟩ : MethodName)) (z := (⟨"java/lang/String", "coder", "()B"⟩ : MethodName)) hown (mvT hZ (own_w hw 35)) (mvT hZ (own_w hw 36)) (notFace_of_selects (args := #[]) (mvT hZ (own_w hw 38))) (mvT hZ (own_w hw 38)) (mvT hZ (own_w hw 37)) (by decide) (backOf (W := 1) (rm7 l Z a0 hw [] this (0 : Int32) wcs (0 : Int32) h0 n0 Z0 hcs rfl Fc (B_wcs.ext OLD.2) (by unfold f7; rfl)) hZ (own_w hw 39) (own_w hw 6) (by decide) (by decide)) qa3 qc3 (g := (mkF m 6 #[oR this] [(.ref this), (.int (0 : Int32))])) rfl (by rw [hml]; rfl) (Steps.refl _) (argsL := []) (rest := [(.int (0 : Int32))]) (lenOf pd_6_0 rfl) rfl (by show 2 * 0 + _ ≤ _; exact Nat.le_of_eq rfl) (hb hby d6_6) (fun _ _ => ⟨rfl, e1, (by decide : 0 + 0 ≤ _), (by decide : 0 + 0 ≤ _)⟩)
  dsimp only [Pt.U, Pt.locs, Pt.cells, Pt.slots] at X3 l3 y3 z3 st3 hQ3
  subst l3 y3 z3
  obtain ⟨rfl, Nq3, e3⟩ := hQ3
  have N4 := Fr.app N0 Nq3
  refine own_tr st3 ?_
  show own_Go p e below _ (T3.setTop (mkF m 9 #[oR this] [(.int (0 : Int32)), (.int (0 : Int32))]))
  refine own_via (fun t kz => XS.ishr X3.here hx rfl (hb hby d6_9) rfl kz) ?_
  show own_Go p e below _ (T3.setTop (mkF m 10 #[oR this] [(.int (0 : Int32))]))
  obtain ⟨fs, hr, hrun, hended, hW, hsame⟩ := X3.leave (v := some (.int (0 : Int32))) (fun h => by rw [Bd.returns] at h; cases h)
  refine ⟨_, _, retI X3 hx Bd.returns (hb hby d6_10) hr, hrun, hended, _, _, rfl, ?_, ⟨_, rfl⟩, hW, hsame.mono (by decide) (by decide)⟩
  show QL0 Z this wcs wsf h0 n0 _ T3.heap _
  rw [e3]
  exact ⟨rfl, N4, rfl⟩
def f1 (p0 : Int32) : Int32 := (if (((p0.toUInt32 >>> ((16 : Int32) &&& 31).toUInt32).toInt32) &&& (1 : Int32)) = (0 : Int32) then (if (p0 &&& (3 : Int32)) = (0 : Int32) then (32 : Int32) else (if (p0 &&& (3 : Int32)) = (1 : Int32) then (9 : Int32) else (if (p0 &&& (3 : Int32)) = (2 : Int32) then (10 : Int32) else (13 : Int32)))) else (p0.toUInt32.toUInt16.toUInt32.toInt32))
theorem d1_0 : decode method_2_code 0 = .ok (.iload_n 0, 1) := by decide +kernel
theorem d1_1 : decode method_2_code 1 = .ok (.bipush 16, 2) := by decide +kernel
theorem d1_3 : decode method_2_code 3 = .ok (.iushr, 1) := by decide +kernel
theorem d1_4 : decode method_2_code 4 = .ok (.iconst 1, 1) := by decide +kernel
theorem d1_5 : decode method_2_code 5 = .ok (.iand, 1) := by decide +kernel
theorem d1_6 : decode method_2_code 6 = .ok (.ifCond .ne 33, 3) := by decide +kernel
theorem d1_9 : decode method_2_code 9 = .ok (.iload_n 0, 1) := by decide +kernel
theorem d1_10 : decode method_2_code 10 = .ok (.iconst 3, 1) := by decide +kernel
theorem d1_11 : decode method_2_code 11 = .ok (.iand, 1) := by decide +kernel
theorem d1_12 : decode method_2_code 12 = .ok (.istore_n 1, 1) := by decide +kernel
theorem d1_13 : decode method_2_code 13 = .ok (.iload_n 1, 1) := by decide +kernel
theorem d1_14 : decode method_2_code 14 = .ok (.ifCond .ne 6, 3) := by decide +kernel
theorem d1_17 : decode method_2_code 17 = .ok (.bipush 32, 2) := by decide +kernel
theorem d1_19 : decode method_2_code 19 = .ok (.ireturn, 1) := by decide +kernel
theorem d1_20 : decode method_2_code 20 = .ok (.iload_n 1, 1) := by decide +kernel
theorem d1_21 : decode method_2_code 21 = .ok (.iconst 1, 1) := by decide +kernel
theorem d1_22 : decode method_2_code 22 = .ok (.if_icmp .ne 6, 3) := by decide +kernel
theorem d1_25 : decode method_2_code 25 = .ok (.bipush 9, 2) := by decide +kernel
theorem d1_27 : decode method_2_code 27 = .ok (.ireturn, 1) := by decide +kernel
theorem d1_28 : decode method_2_code 28 = .ok (.iload_n 1, 1) := by decide +kernel
theorem d1_29 : decode method_2_code 29 = .ok (.iconst 2, 1) := by decide +kernel
theorem d1_30 : decode method_2_code 30 = .ok (.if_icmp .ne 6, 3) := by decide +kernel
theorem d1_33 : decode method_2_code 33 = .ok (.bipush 10, 2) := by decide +kernel
theorem d1_35 : decode method_2_code 35 = .ok (.ireturn, 1) := by decide +kernel
theorem d1_36 : decode method_2_code 36 = .ok (.bipush 13, 2) := by decide +kernel
theorem d1_38 : decode method_2_code 38 = .ok (.ireturn, 1) := by decide +kernel
theorem d1_39 : decode method_2_code 39 = .ok (.iload_n 0, 1) := by decide +kernel
theorem d1_40 : decode method_2_code 40 = .ok (.i2c, 1) := by decide +kernel
theorem d1_41 : decode method_2_code 41 = .ok (.ireturn, 1) := by decide +kernel
theorem pn_1 : plainName "com/example/push_to_tree/pushtotree/XmlCharsIsWhitespacePinLaw" = true := by first | (simp [plainName, overriddenIn]; done) | decide +kernel
theorem ef_rm1 (m : MethodId) (q0 : Int32) : entryFrame m #[(.int q0)] 2 = mkF m 0 #[oI q0, .unset] [] := by first | (simp [entryFrame, mkF, argsToLocals, Value.category]; done) | rfl
def Q1 (Z : State) (p0 : Int32) (r : Int32) (h0 : Heap) (n0 : Nat) (v : Option Value) (h : Heap) (L : List Loc) : Prop := v = some (.int r) ∧ Fr n0 L ∧ h = h0
set_option maxRecDepth 65536 in
set_option maxHeartbeats 40000000 in
theorem rm1 (l : Launch) (Z : State) (a0 : Array Value) (hw : ∀ d ∈ tables_1, d.before a0 Z = true) (ws : List Jvm.Cond) (p0 : Int32) (r : Int32) (h0 : Heap) (n0 : Nat) (Z0 : n0 ≤ h0.size) (hr0 : (f1 p0) = r) :
    MetFree l (⟨"com/example/push_to_tree/pushtotree/XmlCharsIsWhitespacePinLaw", "pick", "(I)C"⟩ : MethodName) (head1 (Jvm.Cond.code (⟨"com/example/push_to_tree/pushtotree/XmlCharsIsWhitespacePinLaw", "pick", "(I)C"⟩ : MethodName) method_2_code 2 (some .char) :: ws) ({ frames := 0, cells := 0, slots := 0, locals := 0 } : Room)) (fun a U => a = #[(.int p0)] ∧ Z.Warmed39 U.vm ∧ U.heap = h0) (fun _ _ _ _ _ => True) (fun _ U o U' => ∃ v L, o = .returned v ∧ Q1 Z p0 r h0 n0 v U'.heap L ∧ FrameEnd U o U' L ({ frames := 0, cells := 0, slots := 0, locals := 0 } : Room).cells ({ frames := 0, cells := 0, slots := 0, locals := 0 } : Room).slots) := by
  refine MetFree.of_bodySF (plainFor_of_name pn_1) hisR ?_
  intro p e s m args below meth c s₁ Bd hml0 hP hK
  obtain ⟨rfl, hZ, hh⟩ := hP
  have hx := Bd.exec
  have hby := Bd.bytes
  have hml : c.maxLocals = 2 := hml0
  have hown : s.vm.findClass "com/example/push_to_tree/pushtotree/XmlCharsIsWhitespacePinLaw" = some m.cls := findClass_of_methodNamed Bd.named
  have hnm := (name_of_methodNamed Bd.named Bd.method).1
  have X0 : Stand p l e ({ frames := 0, cells := 0, slots := 0, locals := 0 } : Room) s m #[(.int p0)] below meth c s₁ [] 0 0 := Stand.of_body Bd
  have e0 : s₁.heap = h0 := by rw [← hh, Bd.state]; rfl
  have N0 := Fr.nil n0
  refine own_start ?_
  refine own_via (fun t k => castTop (ef_rm1 m p0) k) ?_
  show own_Go p e below _ (s₁.setTop (mkF m 0 #[oI p0, .unset] []))
  refine own_via (fun t kz => XS.iloadN X0.here hx rfl (hb hby d1_0) rfl kz) ?_
  refine own_via (fun t kz => XS.bipush X0.here hx rfl (hb hby d1_1) kz) ?_
  show own_Go p e below _ (s₁.setTop (mkF m 3 #[oI p0, .unset] [(.int (16 : Int32)), (.int p0)]))
  refine own_via (fun t kz => XS.iushr X0.here hx rfl (hb hby d1_3) rfl kz) ?_
  refine own_via (fun t kz => XS.iconst X0.here hx rfl (hb hby d1_4) kz) ?_
  refine own_via (fun t kz => XS.iand X0.here hx rfl (hb hby d1_5) rfl kz) ?_
  show own_Go p e below _ (s₁.setTop (mkF m 6 #[oI p0, .unset] [(.int (((p0.toUInt32 >>> ((16 : Int32) &&& 31).toUInt32).toInt32) &&& (1 : Int32)))]))
  by_cases hc6_1 : (((p0.toUInt32 >>> ((16 : Int32) &&& 31).toUInt32).toInt32) &&& (1 : Int32)) = (0 : Int32)
  · refine own_via (fun t kz => XS.ifNo X0.here hx rfl (hb hby d1_6) rfl ((if0 _ _).trans (teq hc6_1).2) kz) ?_
    refine own_via (fun t kz => XS.iloadN X0.here hx rfl (hb hby d1_9) rfl kz) ?_
    refine own_via (fun t kz => XS.iconst X0.here hx rfl (hb hby d1_10) kz) ?_
    refine own_via (fun t kz => XS.iand X0.here hx rfl (hb hby d1_11) rfl kz) ?_
    refine own_via (fun t kz => XS.istoreN X0.here hx rfl (hb hby d1_12) rfl (l' := #[oI p0, oI (p0 &&& (3 : Int32))]) rfl kz) ?_
    refine own_via (fun t kz => XS.iloadN X0.here hx rfl (hb hby d1_13) rfl kz) ?_
    show own_Go p e below _ (s₁.setTop (mkF m 14 #[oI p0, oI (p0 &&& (3 : Int32))] [(.int (p0 &&& (3 : Int32)))]))
    by_cases hc14_2 : (p0 &&& (3 : Int32)) = (0 : Int32)
    · refine own_via (fun t kz => XS.ifNo X0.here hx rfl (hb hby d1_14) rfl ((if0 _ _).trans (teq hc14_2).2) kz) ?_
      refine own_via (fun t kz => XS.bipush X0.here hx rfl (hb hby d1_17) kz) ?_
      show own_Go p e below _ (s₁.setTop (mkF m 19 #[oI p0, oI (p0 &&& (3 : Int32))] [(.int (32 : Int32))]))
      have hv : (f1 p0) = (32 : Int32) := by unfold f1; rw [if_pos hc6_1, if_pos hc14_2]
      obtain ⟨fs, hr, hrun, hended, hW, hsame⟩ := X0.leave (v := some (.int (32 : Int32))) (fun h => by rw [Bd.returns] at h; cases h)
      refine ⟨_, _, retN X0 hx (t := .char) Bd.returns (by simp) (hb hby d1_19) hr, hrun, hended, _, _, rfl, ?_, ⟨_, rfl⟩, hW, hsame.mono (by decide) (by decide)⟩
      show Q1 Z p0 r h0 n0 _ s₁.heap _
      rw [e0]
      exact ⟨by rw [← hr0, hv], N0, rfl⟩
    · refine own_via (fun t kz => XS.ifYes X0.here hx rfl (pc0 := 14) (pc' := 20) rfl (hb hby d1_14) rfl ((if0 _ _).trans (feq hc14_2).2) (by decide) (by decide) kz) ?_
      refine own_via (fun t kz => XS.iloadN X0.here hx rfl (hb hby d1_20) rfl kz) ?_
      refine own_via (fun t kz => XS.iconst X0.here hx rfl (hb hby d1_21) kz) ?_
      show own_Go p e below _ (s₁.setTop (mkF m 22 #[oI p0, oI (p0 &&& (3 : Int32))] [(.int (1 : Int32)), (.int (p0 &&& (3 : Int32)))]))
      by_cases hc22_4 : (p0 &&& (3 : Int32)) = (1 : Int32)
      · refine own_via (fun t kz => XS.icmpNo X0.here hx rfl (hb hby d1_22) rfl (teq hc22_4).2 kz) ?_
        refine own_via (fun t kz => XS.bipush X0.here hx rfl (hb hby d1_25) kz) ?_
        show own_Go p e below _ (s₁.setTop (mkF m 27 #[oI p0, oI (p0 &&& (3 : Int32))] [(.int (9 : Int32))]))
        have hv : (f1 p0) = (9 : Int32) := by unfold f1; rw [if_pos hc6_1, if_neg hc14_2, if_pos hc22_4]
        obtain ⟨fs, hr, hrun, hended, hW, hsame⟩ := X0.leave (v := some (.int (9 : Int32))) (fun h => by rw [Bd.returns] at h; cases h)
        refine ⟨_, _, retN X0 hx (t := .char) Bd.returns (by simp) (hb hby d1_27) hr, hrun, hended, _, _, rfl, ?_, ⟨_, rfl⟩, hW, hsame.mono (by decide) (by decide)⟩
        show Q1 Z p0 r h0 n0 _ s₁.heap _
        rw [e0]
        exact ⟨by rw [← hr0, hv], N0, rfl⟩
      · refine own_via (fun t kz => XS.icmpYes X0.here hx rfl (pc0 := 22) (pc' := 28) rfl (hb hby d1_22) rfl (feq hc22_4).2 (by decide) (by decide) kz) ?_
        refine own_via (fun t kz => XS.iloadN X0.here hx rfl (hb hby d1_28) rfl kz) ?_
        refine own_via (fun t kz => XS.iconst X0.here hx rfl (hb hby d1_29) kz) ?_
        show own_Go p e below _ (s₁.setTop (mkF m 30 #[oI p0, oI (p0 &&& (3 : Int32))] [(.int (2 : Int32)), (.int (p0 &&& (3 : Int32)))]))
        by_cases hc30_6 : (p0 &&& (3 : Int32)) = (2 : Int32)
        · refine own_via (fun t kz => XS.icmpNo X0.here hx rfl (hb hby d1_30) rfl (teq hc30_6).2 kz) ?_
          refine own_via (fun t kz => XS.bipush X0.here hx rfl (hb hby d1_33) kz) ?_
          show own_Go p e below _ (s₁.setTop (mkF m 35 #[oI p0, oI (p0 &&& (3 : Int32))] [(.int (10 : Int32))]))
          have hv : (f1 p0) = (10 : Int32) := by unfold f1; rw [if_pos hc6_1, if_neg hc14_2, if_neg hc22_4, if_pos hc30_6]
          obtain ⟨fs, hr, hrun, hended, hW, hsame⟩ := X0.leave (v := some (.int (10 : Int32))) (fun h => by rw [Bd.returns] at h; cases h)
          refine ⟨_, _, retN X0 hx (t := .char) Bd.returns (by simp) (hb hby d1_35) hr, hrun, hended, _, _, rfl, ?_, ⟨_, rfl⟩, hW, hsame.mono (by decide) (by decide)⟩
          show Q1 Z p0 r h0 n0 _ s₁.heap _
          rw [e0]
          exact ⟨by rw [← hr0, hv], N0, rfl⟩
        · refine own_via (fun t kz => XS.icmpYes X0.here hx rfl (pc0 := 30) (pc' := 36) rfl (hb hby d1_30) rfl (feq hc30_6).2 (by decide) (by decide) kz) ?_
          refine own_via (fun t kz => XS.bipush X0.here hx rfl (hb hby d1_36) kz) ?_
          show own_Go p e below _ (s₁.setTop (mkF m 38 #[oI p0, oI (p0 &&& (3 : Int32))] [(.int (13 : Int32))]))
          have hv : (f1 p0) = (13 : Int32) := by unfold f1; rw [if_pos hc6_1, if_neg hc14_2, if_neg hc22_4, if_neg hc30_6]
          obtain ⟨fs, hr, hrun, hended, hW, hsame⟩ := X0.leave (v := some (.int (13 : Int32))) (fun h => by rw [Bd.returns] at h; cases h)
          refine ⟨_, _, retN X0 hx (t := .char) Bd.returns (by simp) (hb hby d1_38) hr, hrun, hended, _, _, rfl, ?_, ⟨_, rfl⟩, hW, hsame.mono (by decide) (by decide)⟩
          show Q1 Z p0 r h0 n0 _ s₁.heap _
          rw [e0]
          exact ⟨by rw [← hr0, hv], N0, rfl⟩
  · refine own_via (fun t kz => XS.ifYes X0.here hx rfl (pc0 := 6) (pc' := 39) rfl (hb hby d1_6) rfl ((if0 _ _).trans (feq hc6_1).2) (by decide) (by decide) kz) ?_
    refine own_via (fun t kz => XS.iloadN X0.here hx rfl (hb hby d1_39) rfl kz) ?_
    show own_Go p e below _ (s₁.setTop (mkF m 40 #[oI p0, .unset] [(.int p0)]))
    refine own_via (fun t kz => XS.i2c X0.here hx rfl (hb hby d1_40) rfl kz) ?_
    show own_Go p e below _ (s₁.setTop (mkF m 41 #[oI p0, .unset] [(.int (p0.toUInt32.toUInt16.toUInt32.toInt32))]))
    have hv : (f1 p0) = (p0.toUInt32.toUInt16.toUInt32.toInt32) := by unfold f1; rw [if_neg hc6_1]
    obtain ⟨fs, hr, hrun, hended, hW, hsame⟩ := X0.leave (v := some (.int (p0.toUInt32.toUInt16.toUInt32.toInt32))) (fun h => by rw [Bd.returns] at h; cases h)
    refine ⟨_, _, retOut X0 hx (i := .ireturn) Bd.returns (by first | rfl | exact narrow_c _) (Or.inl ⟨rfl, by simp, _, rfl⟩) (hb hby d1_41) hr, hrun, hended, _, _, rfl, ?_, ⟨_, rfl⟩, hW, hsame.mono (by decide) (by decide)⟩
    show Q1 Z p0 r h0 n0 _ s₁.heap _
    rw [e0]
    exact ⟨by rw [← hr0, hv], N0, rfl⟩
def f11 (p0 : Int32) : Int32 := (if p0 = (32 : Int32) then (1 : Int32) else (if p0 = (9 : Int32) then (1 : Int32) else (if p0 = (10 : Int32) then (1 : Int32) else (if p0 = (13 : Int32) then (1 : Int32) else (0 : Int32)))))
theorem d11_0 : decode method_3_code 0 = .ok (.iload_n 0, 1) := by decide +kernel
theorem d11_1 : decode method_3_code 1 = .ok (.bipush 32, 2) := by decide +kernel
theorem d11_3 : decode method_3_code 3 = .ok (.if_icmp .eq 21, 3) := by decide +kernel
theorem d11_6 : decode method_3_code 6 = .ok (.iload_n 0, 1) := by decide +kernel
theorem d11_7 : decode method_3_code 7 = .ok (.bipush 9, 2) := by decide +kernel
theorem d11_9 : decode method_3_code 9 = .ok (.if_icmp .eq 15, 3) := by decide +kernel
theorem d11_12 : decode method_3_code 12 = .ok (.iload_n 0, 1) := by decide +kernel
theorem d11_13 : decode method_3_code 13 = .ok (.bipush 10, 2) := by decide +kernel
theorem d11_15 : decode method_3_code 15 = .ok (.if_icmp .eq 9, 3) := by decide +kernel
theorem d11_18 : decode method_3_code 18 = .ok (.iload_n 0, 1) := by decide +kernel
theorem d11_19 : decode method_3_code 19 = .ok (.bipush 13, 2) := by decide +kernel
theorem d11_21 : decode method_3_code 21 = .ok (.if_icmp .ne 7, 3) := by decide +kernel
theorem d11_24 : decode method_3_code 24 = .ok (.iconst 1, 1) := by decide +kernel
theorem d11_25 : decode method_3_code 25 = .ok (.goto 4, 3) := by decide +kernel
theorem d11_28 : decode method_3_code 28 = .ok (.iconst 0, 1) := by decide +kernel
theorem d11_29 : decode method_3_code 29 = .ok (.ireturn, 1) := by decide +kernel
theorem ef_rm11 (m : MethodId) (q0 : Int32) : entryFrame m #[(.int q0)] 1 = mkF m 0 #[oI q0] [] := by first | (simp [entryFrame, mkF, argsToLocals, Value.category]; done) | rfl
def Q11 (Z : State) (p0 : Int32) (r : Int32) (h0 : Heap) (n0 : Nat) (v : Option Value) (h : Heap) (L : List Loc) : Prop := v = some (.int r) ∧ Fr n0 L ∧ h = h0
set_option maxRecDepth 65536 in
set_option maxHeartbeats 40000000 in
theorem rm11 (l : Launch) (Z : State) (a0 : Array Value) (hw : ∀ d ∈ tables_1, d.before a0 Z = true) (ws : List Jvm.Cond) (p0 : Int32) (r : Int32) (h0 : Heap) (n0 : Nat) (Z0 : n0 ≤ h0.size) (hr0 : (f11 p0) = r) :
    MetFree l (⟨"com/example/push_to_tree/pushtotree/XmlCharsIsWhitespacePinLaw", "ws", "(C)Z"⟩ : MethodName) (head1 (Jvm.Cond.code (⟨"com/example/push_to_tree/pushtotree/XmlCharsIsWhitespacePinLaw", "ws", "(C)Z"⟩ : MethodName) method_3_code 1 (some .boolean) :: ws) ({ frames := 0, cells := 0, slots := 0, locals := 0 } : Room)) (fun a U => a = #[(.int p0)] ∧ Z.Warmed39 U.vm ∧ U.heap = h0) (fun _ _ _ _ _ => True) (fun _ U o U' => ∃ v L, o = .returned v ∧ Q11 Z p0 r h0 n0 v U'.heap L ∧ FrameEnd U o U' L ({ frames := 0, cells := 0, slots := 0, locals := 0 } : Room).cells ({ frames := 0, cells := 0, slots := 0, locals := 0 } : Room).slots) := by
  refine MetFree.of_bodySF (plainFor_of_name pn_1) hisR ?_
  intro p e s m args below meth c s₁ Bd hml0 hP hK
  obtain ⟨rfl, hZ, hh⟩ := hP
  have hx := Bd.exec
  have hby := Bd.bytes
  have hml : c.maxLocals = 1 := hml0
  have hown : s.vm.findClass "com/example/push_to_tree/pushtotree/XmlCharsIsWhitespacePinLaw" = some m.cls := findClass_of_methodNamed Bd.named
  have hnm := (name_of_methodNamed Bd.named Bd.method).1
  have X0 : Stand p l e ({ frames := 0, cells := 0, slots := 0, locals := 0 } : Room) s m #[(.int p0)] below meth c s₁ [] 0 0 := Stand.of_body Bd
  have e0 : s₁.heap = h0 := by rw [← hh, Bd.state]; rfl
  have N0 := Fr.nil n0
  refine own_start ?_
  refine own_via (fun t k => castTop (ef_rm11 m p0) k) ?_
  show own_Go p e below _ (s₁.setTop (mkF m 0 #[oI p0] []))
  refine own_via (fun t kz => XS.iloadN X0.here hx rfl (hb hby d11_0) rfl kz) ?_
  refine own_via (fun t kz => XS.bipush X0.here hx rfl (hb hby d11_1) kz) ?_
  show own_Go p e below _ (s₁.setTop (mkF m 3 #[oI p0] [(.int (32 : Int32)), (.int p0)]))
  by_cases hc3_1 : p0 = (32 : Int32)
  · refine own_via (fun t kz => XS.icmpYes X0.here hx rfl (pc0 := 3) (pc' := 24) rfl (hb hby d11_3) rfl (teq hc3_1).1 (by decide) (by decide) kz) ?_
    refine own_via (fun t kz => XS.iconst X0.here hx rfl (hb hby d11_24) kz) ?_
    refine own_via (fun t kz => XS.goto X0.here hx rfl (pc0 := 25) (pc' := 29) rfl (hb hby d11_25) (by decide) (by decide) kz) ?_
    show own_Go p e below _ (s₁.setTop (mkF m 29 #[oI p0] [(.int (1 : Int32))]))
    have hv : (f11 p0) = (1 : Int32) := by unfold f11; rw [if_pos hc3_1]
    obtain ⟨fs, hr, hrun, hended, hW, hsame⟩ := X0.leave (v := some (.int (1 : Int32))) (fun h => by rw [Bd.returns] at h; cases h)
    refine ⟨_, _, retN X0 hx (t := .boolean) Bd.returns (by simp) (hb hby d11_29) hr, hrun, hended, _, _, rfl, ?_, ⟨_, rfl⟩, hW, hsame.mono (by decide) (by decide)⟩
    show Q11 Z p0 r h0 n0 _ s₁.heap _
    rw [e0]
    exact ⟨by rw [← hr0, hv], N0, rfl⟩
  · refine own_via (fun t kz => XS.icmpNo X0.here hx rfl (hb hby d11_3) rfl (feq hc3_1).1 kz) ?_
    refine own_via (fun t kz => XS.iloadN X0.here hx rfl (hb hby d11_6) rfl kz) ?_
    refine own_via (fun t kz => XS.bipush X0.here hx rfl (hb hby d11_7) kz) ?_
    show own_Go p e below _ (s₁.setTop (mkF m 9 #[oI p0] [(.int (9 : Int32)), (.int p0)]))
    by_cases hc9_3 : p0 = (9 : Int32)
    · refine own_via (fun t kz => XS.icmpYes X0.here hx rfl (pc0 := 9) (pc' := 24) rfl (hb hby d11_9) rfl (teq hc9_3).1 (by decide) (by decide) kz) ?_
      refine own_via (fun t kz => XS.iconst X0.here hx rfl (hb hby d11_24) kz) ?_
      refine own_via (fun t kz => XS.goto X0.here hx rfl (pc0 := 25) (pc' := 29) rfl (hb hby d11_25) (by decide) (by decide) kz) ?_
      show own_Go p e below _ (s₁.setTop (mkF m 29 #[oI p0] [(.int (1 : Int32))]))
      have hv : (f11 p0) = (1 : Int32) := by unfold f11; rw [if_neg hc3_1, if_pos hc9_3]
      obtain ⟨fs, hr, hrun, hended, hW, hsame⟩ := X0.leave (v := some (.int (1 : Int32))) (fun h => by rw [Bd.returns] at h; cases h)
      refine ⟨_, _, retN X0 hx (t := .boolean) Bd.returns (by simp) (hb hby d11_29) hr, hrun, hended, _, _, rfl, ?_, ⟨_, rfl⟩, hW, hsame.mono (by decide) (by decide)⟩
      show Q11 Z p0 r h0 n0 _ s₁.heap _
      rw [e0]
      exact ⟨by rw [← hr0, hv], N0, rfl⟩
    · refine own_via (fun t kz => XS.icmpNo X0.here hx rfl (hb hby d11_9) rfl (feq hc9_3).1 kz) ?_
      refine own_via (fun t kz => XS.iloadN X0.here hx rfl (hb hby d11_12) rfl kz) ?_
      refine own_via (fun t kz => XS.bipush X0.here hx rfl (hb hby d11_13) kz) ?_
      show own_Go p e below _ (s₁.setTop (mkF m 15 #[oI p0] [(.int (10 : Int32)), (.int p0)]))
      by_cases hc15_5 : p0 = (10 : Int32)
      · refine own_via (fun t kz => XS.icmpYes X0.here hx rfl (pc0 := 15) (pc' := 24) rfl (hb hby d11_15) rfl (teq hc15_5).1 (by decide) (by decide) kz) ?_
        refine own_via (fun t kz => XS.iconst X0.here hx rfl (hb hby d11_24) kz) ?_
        refine own_via (fun t kz => XS.goto X0.here hx rfl (pc0 := 25) (pc' := 29) rfl (hb hby d11_25) (by decide) (by decide) kz) ?_
        show own_Go p e below _ (s₁.setTop (mkF m 29 #[oI p0] [(.int (1 : Int32))]))
        have hv : (f11 p0) = (1 : Int32) := by unfold f11; rw [if_neg hc3_1, if_neg hc9_3, if_pos hc15_5]
        obtain ⟨fs, hr, hrun, hended, hW, hsame⟩ := X0.leave (v := some (.int (1 : Int32))) (fun h => by rw [Bd.returns] at h; cases h)
        refine ⟨_, _, retN X0 hx (t := .boolean) Bd.returns (by simp) (hb hby d11_29) hr, hrun, hended, _, _, rfl, ?_, ⟨_, rfl⟩, hW, hsame.mono (by decide) (by decide)⟩
        show Q11 Z p0 r h0 n0 _ s₁.heap _
        rw [e0]
        exact ⟨by rw [← hr0, hv], N0, rfl⟩
      · refine own_via (fun t kz => XS.icmpNo X0.here hx rfl (hb hby d11_15) rfl (feq hc15_5).1 kz) ?_
        refine own_via (fun t kz => XS.iloadN X0.here hx rfl (hb hby d11_18) rfl kz) ?_
        refine own_via (fun t kz => XS.bipush X0.here hx rfl (hb hby d11_19) kz) ?_
        show own_Go p e below _ (s₁.setTop (mkF m 21 #[oI p0] [(.int (13 : Int32)), (.int p0)]))
        by_cases hc21_7 : p0 = (13 : Int32)
        · refine own_via (fun t kz => XS.icmpNo X0.here hx rfl (hb hby d11_21) rfl (teq hc21_7).2 kz) ?_
          refine own_via (fun t kz => XS.iconst X0.here hx rfl (hb hby d11_24) kz) ?_
          refine own_via (fun t kz => XS.goto X0.here hx rfl (pc0 := 25) (pc' := 29) rfl (hb hby d11_25) (by decide) (by decide) kz) ?_
          show own_Go p e below _ (s₁.setTop (mkF m 29 #[oI p0] [(.int (1 : Int32))]))
          have hv : (f11 p0) = (1 : Int32) := by unfold f11; rw [if_neg hc3_1, if_neg hc9_3, if_neg hc15_5, if_pos hc21_7]
          obtain ⟨fs, hr, hrun, hended, hW, hsame⟩ := X0.leave (v := some (.int (1 : Int32))) (fun h => by rw [Bd.returns] at h; cases h)
          refine ⟨_, _, retN X0 hx (t := .boolean) Bd.returns (by simp) (hb hby d11_29) hr, hrun, hended, _, _, rfl, ?_, ⟨_, rfl⟩, hW, hsame.mono (by decide) (by decide)⟩
          show Q11 Z p0 r h0 n0 _ s₁.heap _
          rw [e0]
          exact ⟨by rw [← hr0, hv], N0, rfl⟩
        · refine own_via (fun t kz => XS.icmpYes X0.here hx rfl (pc0 := 21) (pc' := 28) rfl (hb hby d11_21) rfl (feq hc21_7).2 (by decide) (by decide) kz) ?_
          refine own_via (fun t kz => XS.iconst X0.here hx rfl (hb hby d11_28) kz) ?_
          show own_Go p e below _ (s₁.setTop (mkF m 29 #[oI p0] [(.int (0 : Int32))]))
          have hv : (f11 p0) = (0 : Int32) := by unfold f11; rw [if_neg hc3_1, if_neg hc9_3, if_neg hc15_5, if_neg hc21_7]
          obtain ⟨fs, hr, hrun, hended, hW, hsame⟩ := X0.leave (v := some (.int (0 : Int32))) (fun h => by rw [Bd.returns] at h; cases h)
          refine ⟨_, _, retN X0 hx (t := .boolean) Bd.returns (by simp) (hb hby d11_29) hr, hrun, hended, _, _, rfl, ?_, ⟨_, rfl⟩, hW, hsame.mono (by decide) (by decide)⟩
          show Q11 Z p0 r h0 n0 _ s₁.heap _
          rw [e0]
          exact ⟨by rw [← hr0, hv], N0, rfl⟩
def f17 (p0 : Int32) : Int32 := (if p0 = (32 : Int32) then (1 : Int32) else (if p0 = (9 : Int32) then (1 : Int32) else (if p0 = (10 : Int32) then (1 : Int32) else (if p0 = (13 : Int32) then (1 : Int32) else (0 : Int32)))))
theorem d17_0 : decode prog_89_method_11_code 0 = .ok (.iload_n 0, 1) := by decide +kernel
theorem d17_1 : decode prog_89_method_11_code 1 = .ok (.bipush 32, 2) := by decide +kernel
theorem d17_3 : decode prog_89_method_11_code 3 = .ok (.if_icmp .eq 21, 3) := by decide +kernel
theorem d17_6 : decode prog_89_method_11_code 6 = .ok (.iload_n 0, 1) := by decide +kernel
theorem d17_7 : decode prog_89_method_11_code 7 = .ok (.bipush 9, 2) := by decide +kernel
theorem d17_9 : decode prog_89_method_11_code 9 = .ok (.if_icmp .eq 15, 3) := by decide +kernel
theorem d17_12 : decode prog_89_method_11_code 12 = .ok (.iload_n 0, 1) := by decide +kernel
theorem d17_13 : decode prog_89_method_11_code 13 = .ok (.bipush 10, 2) := by decide +kernel
theorem d17_15 : decode prog_89_method_11_code 15 = .ok (.if_icmp .eq 9, 3) := by decide +kernel
theorem d17_18 : decode prog_89_method_11_code 18 = .ok (.iload_n 0, 1) := by decide +kernel
theorem d17_19 : decode prog_89_method_11_code 19 = .ok (.bipush 13, 2) := by decide +kernel
theorem d17_21 : decode prog_89_method_11_code 21 = .ok (.if_icmp .ne 7, 3) := by decide +kernel
theorem d17_24 : decode prog_89_method_11_code 24 = .ok (.iconst 1, 1) := by decide +kernel
theorem d17_25 : decode prog_89_method_11_code 25 = .ok (.goto 4, 3) := by decide +kernel
theorem d17_28 : decode prog_89_method_11_code 28 = .ok (.iconst 0, 1) := by decide +kernel
theorem d17_29 : decode prog_89_method_11_code 29 = .ok (.ireturn, 1) := by decide +kernel
theorem pn_17 : plainName "com/example/push_to_tree/pushtotree/XmlChars" = true := by first | (simp [plainName, overriddenIn]; done) | decide +kernel
theorem ef_rm17 (m : MethodId) (q0 : Int32) : entryFrame m #[(.int q0)] 1 = mkF m 0 #[oI q0] [] := by first | (simp [entryFrame, mkF, argsToLocals, Value.category]; done) | rfl
def Q17 (Z : State) (p0 : Int32) (r : Int32) (h0 : Heap) (n0 : Nat) (v : Option Value) (h : Heap) (L : List Loc) : Prop := v = some (.int r) ∧ Fr n0 L ∧ h = h0
set_option maxRecDepth 65536 in
set_option maxHeartbeats 40000000 in
theorem rm17 (l : Launch) (Z : State) (a0 : Array Value) (hw : ∀ d ∈ tables_1, d.before a0 Z = true) (ws : List Jvm.Cond) (p0 : Int32) (r : Int32) (h0 : Heap) (n0 : Nat) (Z0 : n0 ≤ h0.size) (hr0 : (f17 p0) = r) :
    MetFree l (⟨"com/example/push_to_tree/pushtotree/XmlChars", "isWhitespace", "(C)Z"⟩ : MethodName) (head1 (Jvm.Cond.code (⟨"com/example/push_to_tree/pushtotree/XmlChars", "isWhitespace", "(C)Z"⟩ : MethodName) prog_89_method_11_code 1 (some .boolean) :: ws) ({ frames := 0, cells := 0, slots := 0, locals := 0 } : Room)) (fun a U => a = #[(.int p0)] ∧ Z.Warmed39 U.vm ∧ U.heap = h0) (fun _ _ _ _ _ => True) (fun _ U o U' => ∃ v L, o = .returned v ∧ Q17 Z p0 r h0 n0 v U'.heap L ∧ FrameEnd U o U' L ({ frames := 0, cells := 0, slots := 0, locals := 0 } : Room).cells ({ frames := 0, cells := 0, slots := 0, locals := 0 } : Room).slots) := by
  refine MetFree.of_bodySF (plainFor_of_name pn_17) hisR ?_
  intro p e s m args below meth c s₁ Bd hml0 hP hK
  obtain ⟨rfl, hZ, hh⟩ := hP
  have hx := Bd.exec
  have hby := Bd.bytes
  have hml : c.maxLocals = 1 := hml0
  have hown : s.vm.findClass "com/example/push_to_tree/pushtotree/XmlChars" = some m.cls := findClass_of_methodNamed Bd.named
  have hnm := (name_of_methodNamed Bd.named Bd.method).1
  have X0 : Stand p l e ({ frames := 0, cells := 0, slots := 0, locals := 0 } : Room) s m #[(.int p0)] below meth c s₁ [] 0 0 := Stand.of_body Bd
  have e0 : s₁.heap = h0 := by rw [← hh, Bd.state]; rfl
  have N0 := Fr.nil n0
  refine own_start ?_
  refine own_via (fun t k => castTop (ef_rm17 m p0) k) ?_
  show own_Go p e below _ (s₁.setTop (mkF m 0 #[oI p0] []))
  refine own_via (fun t kz => XS.iloadN X0.here hx rfl (hb hby d17_0) rfl kz) ?_
  refine own_via (fun t kz => XS.bipush X0.here hx rfl (hb hby d17_1) kz) ?_
  show own_Go p e below _ (s₁.setTop (mkF m 3 #[oI p0] [(.int (32 : Int32)), (.int p0)]))
  by_cases hc3_1 : p0 = (32 : Int32)
  · refine own_via (fun t kz => XS.icmpYes X0.here hx rfl (pc0 := 3) (pc' := 24) rfl (hb hby d17_3) rfl (teq hc3_1).1 (by decide) (by decide) kz) ?_
    refine own_via (fun t kz => XS.iconst X0.here hx rfl (hb hby d17_24) kz) ?_
    refine own_via (fun t kz => XS.goto X0.here hx rfl (pc0 := 25) (pc' := 29) rfl (hb hby d17_25) (by decide) (by decide) kz) ?_
    show own_Go p e below _ (s₁.setTop (mkF m 29 #[oI p0] [(.int (1 : Int32))]))
    have hv : (f17 p0) = (1 : Int32) := by unfold f17; rw [if_pos hc3_1]
    obtain ⟨fs, hr, hrun, hended, hW, hsame⟩ := X0.leave (v := some (.int (1 : Int32))) (fun h => by rw [Bd.returns] at h; cases h)
    refine ⟨_, _, retN X0 hx (t := .boolean) Bd.returns (by simp) (hb hby d17_29) hr, hrun, hended, _, _, rfl, ?_, ⟨_, rfl⟩, hW, hsame.mono (by decide) (by decide)⟩
    show Q17 Z p0 r h0 n0 _ s₁.heap _
    rw [e0]
    exact ⟨by rw [← hr0, hv], N0, rfl⟩
  · refine own_via (fun t kz => XS.icmpNo X0.here hx rfl (hb hby d17_3) rfl (feq hc3_1).1 kz) ?_
    refine own_via (fun t kz => XS.iloadN X0.here hx rfl (hb hby d17_6) rfl kz) ?_
    refine own_via (fun t kz => XS.bipush X0.here hx rfl (hb hby d17_7) kz) ?_
    show own_Go p e below _ (s₁.setTop (mkF m 9 #[oI p0] [(.int (9 : Int32)), (.int p0)]))
    by_cases hc9_3 : p0 = (9 : Int32)
    · refine own_via (fun t kz => XS.icmpYes X0.here hx rfl (pc0 := 9) (pc' := 24) rfl (hb hby d17_9) rfl (teq hc9_3).1 (by decide) (by decide) kz) ?_
      refine own_via (fun t kz => XS.iconst X0.here hx rfl (hb hby d17_24) kz) ?_
      refine own_via (fun t kz => XS.goto X0.here hx rfl (pc0 := 25) (pc' := 29) rfl (hb hby d17_25) (by decide) (by decide) kz) ?_
      show own_Go p e below _ (s₁.setTop (mkF m 29 #[oI p0] [(.int (1 : Int32))]))
      have hv : (f17 p0) = (1 : Int32) := by unfold f17; rw [if_neg hc3_1, if_pos hc9_3]
      obtain ⟨fs, hr, hrun, hended, hW, hsame⟩ := X0.leave (v := some (.int (1 : Int32))) (fun h => by rw [Bd.returns] at h; cases h)
      refine ⟨_, _, retN X0 hx (t := .boolean) Bd.returns (by simp) (hb hby d17_29) hr, hrun, hended, _, _, rfl, ?_, ⟨_, rfl⟩, hW, hsame.mono (by decide) (by decide)⟩
      show Q17 Z p0 r h0 n0 _ s₁.heap _
      rw [e0]
      exact ⟨by rw [← hr0, hv], N0, rfl⟩
    · refine own_via (fun t kz => XS.icmpNo X0.here hx rfl (hb hby d17_9) rfl (feq hc9_3).1 kz) ?_
      refine own_via (fun t kz => XS.iloadN X0.here hx rfl (hb hby d17_12) rfl kz) ?_
      refine own_via (fun t kz => XS.bipush X0.here hx rfl (hb hby d17_13) kz) ?_
      show own_Go p e below _ (s₁.setTop (mkF m 15 #[oI p0] [(.int (10 : Int32)), (.int p0)]))
      by_cases hc15_5 : p0 = (10 : Int32)
      · refine own_via (fun t kz => XS.icmpYes X0.here hx rfl (pc0 := 15) (pc' := 24) rfl (hb hby d17_15) rfl (teq hc15_5).1 (by decide) (by decide) kz) ?_
        refine own_via (fun t kz => XS.iconst X0.here hx rfl (hb hby d17_24) kz) ?_
        refine own_via (fun t kz => XS.goto X0.here hx rfl (pc0 := 25) (pc' := 29) rfl (hb hby d17_25) (by decide) (by decide) kz) ?_
        show own_Go p e below _ (s₁.setTop (mkF m 29 #[oI p0] [(.int (1 : Int32))]))
        have hv : (f17 p0) = (1 : Int32) := by unfold f17; rw [if_neg hc3_1, if_neg hc9_3, if_pos hc15_5]
        obtain ⟨fs, hr, hrun, hended, hW, hsame⟩ := X0.leave (v := some (.int (1 : Int32))) (fun h => by rw [Bd.returns] at h; cases h)
        refine ⟨_, _, retN X0 hx (t := .boolean) Bd.returns (by simp) (hb hby d17_29) hr, hrun, hended, _, _, rfl, ?_, ⟨_, rfl⟩, hW, hsame.mono (by decide) (by decide)⟩
        show Q17 Z p0 r h0 n0 _ s₁.heap _
        rw [e0]
        exact ⟨by rw [← hr0, hv], N0, rfl⟩
      · refine own_via (fun t kz => XS.icmpNo X0.here hx rfl (hb hby d17_15) rfl (feq hc15_5).1 kz) ?_
        refine own_via (fun t kz => XS.iloadN X0.here hx rfl (hb hby d17_18) rfl kz) ?_
        refine own_via (fun t kz => XS.bipush X0.here hx rfl (hb hby d17_19) kz) ?_
        show own_Go p e below _ (s₁.setTop (mkF m 21 #[oI p0] [(.int (13 : Int32)), (.int p0)]))
        by_cases hc21_7 : p0 = (13 : Int32)
        · refine own_via (fun t kz => XS.icmpNo X0.here hx rfl (hb hby d17_21) rfl (teq hc21_7).2 kz) ?_
          refine own_via (fun t kz => XS.iconst X0.here hx rfl (hb hby d17_24) kz) ?_
          refine own_via (fun t kz => XS.goto X0.here hx rfl (pc0 := 25) (pc' := 29) rfl (hb hby d17_25) (by decide) (by decide) kz) ?_
          show own_Go p e below _ (s₁.setTop (mkF m 29 #[oI p0] [(.int (1 : Int32))]))
          have hv : (f17 p0) = (1 : Int32) := by unfold f17; rw [if_neg hc3_1, if_neg hc9_3, if_neg hc15_5, if_pos hc21_7]
          obtain ⟨fs, hr, hrun, hended, hW, hsame⟩ := X0.leave (v := some (.int (1 : Int32))) (fun h => by rw [Bd.returns] at h; cases h)
          refine ⟨_, _, retN X0 hx (t := .boolean) Bd.returns (by simp) (hb hby d17_29) hr, hrun, hended, _, _, rfl, ?_, ⟨_, rfl⟩, hW, hsame.mono (by decide) (by decide)⟩
          show Q17 Z p0 r h0 n0 _ s₁.heap _
          rw [e0]
          exact ⟨by rw [← hr0, hv], N0, rfl⟩
        · refine own_via (fun t kz => XS.icmpYes X0.here hx rfl (pc0 := 21) (pc' := 28) rfl (hb hby d17_21) rfl (feq hc21_7).2 (by decide) (by decide) kz) ?_
          refine own_via (fun t kz => XS.iconst X0.here hx rfl (hb hby d17_28) kz) ?_
          show own_Go p e below _ (s₁.setTop (mkF m 29 #[oI p0] [(.int (0 : Int32))]))
          have hv : (f17 p0) = (0 : Int32) := by unfold f17; rw [if_neg hc3_1, if_neg hc9_3, if_neg hc15_5, if_neg hc21_7]
          obtain ⟨fs, hr, hrun, hended, hW, hsame⟩ := X0.leave (v := some (.int (0 : Int32))) (fun h => by rw [Bd.returns] at h; cases h)
          refine ⟨_, _, retN X0 hx (t := .boolean) Bd.returns (by simp) (hb hby d17_29) hr, hrun, hended, _, _, rfl, ?_, ⟨_, rfl⟩, hW, hsame.mono (by decide) (by decide)⟩
          show Q17 Z p0 r h0 n0 _ s₁.heap _
          rw [e0]
          exact ⟨by rw [← hr0, hv], N0, rfl⟩
theorem own_narc {c : Int32} (h : own_ch c) : nar .char c = c := by
  obtain ⟨a, b⟩ := own_ch_r h
  have e := c_i2c c
  show c.toUInt32.toUInt16.toUInt32.toInt32 = c
  exact Int32.toInt_inj.mp (by omega)
theorem own_and3 (x : Int32) (h0 : ¬ ((x &&& (3 : Int32)) = (0 : Int32))) (h1 : ¬ ((x &&& (3 : Int32)) = (1 : Int32))) (h2 : ¬ ((x &&& (3 : Int32)) = (2 : Int32))) : (x &&& (3 : Int32)) = (3 : Int32) := by
  have h := c_and x 3 (by decide)
  generalize x &&& 3 = y at *
  simp only [← Int32.toInt_inj, Int32.reduceToInt] at *
  omega
theorem own_pick (x : Int32) : own_ch (f1 x) := by
  unfold f1
  have h := c_i2c x
  split
  · split
    · constructor <;> decide
    · split
      · constructor <;> decide
      · split
        · constructor <;> decide
        · constructor <;> decide
  · constructor <;> rw [Int32.lt_iff_toInt_lt] <;> simp only [Int32.reduceToInt] <;> omega
theorem own_wc (c : Int32) : f17 c = f11 c := rfl
theorem own_w01 (c : Int32) : f11 c = 0 ∨ f11 c = 1 := by
  unfold f11
  split
  · exact Or.inr rfl
  · split
    · exact Or.inr rfl
    · split
      · exact Or.inr rfl
      · split
        · exact Or.inr rfl
        · exact Or.inl rfl
theorem own_strE0 {Z : State} {h : Heap} {n0 : Nat} {s : Addr} (H : own_Str0 Z h n0 s ) : Exa Z h s "java/lang/String" := by
  obtain ⟨arr, kb, -, E, -⟩ := H
  exact E
def fW0  : Int32 := (1 : Int32)
theorem d5_0 : decode prog_89_method_10_code 0 = .ok (.iconst 0, 1) := by decide +kernel
theorem d5_1 : decode prog_89_method_10_code 1 = .ok (.istore_n 1, 1) := by decide +kernel
theorem d5_2 : decode prog_89_method_10_code 2 = .ok (.iload_n 1, 1) := by decide +kernel
theorem d5_3 : decode prog_89_method_10_code 3 = .ok (.aload_n 0, 1) := by decide +kernel
theorem d5_4 : decode prog_89_method_10_code 4 = .ok (.invokevirtual 66, 3) := by decide +kernel
theorem d5_7 : decode prog_89_method_10_code 7 = .ok (.if_icmp .ge 22, 3) := by decide +kernel
theorem d5_29 : decode prog_89_method_10_code 29 = .ok (.iconst 1, 1) := by decide +kernel
theorem d5_30 : decode prog_89_method_10_code 30 = .ok (.ireturn, 1) := by decide +kernel
theorem pd_5_0 : parseMethodDescriptor "()I" = some ⟨[], some .int⟩ := by decide +kernel
theorem ef_rmW0 (m : MethodId) (q0 : Addr) : entryFrame m #[(.ref q0)] 2 = mkF m 0 #[oR q0, .unset] [] := by first | (simp [entryFrame, mkF, argsToLocals, Value.category]; done) | rfl
def QW0 (Z : State) (p0 : Addr) (wcs : Int32) (wsf : Value) (r : Int32) (h0 : Heap) (n0 : Nat) (v : Option Value) (h : Heap) (L : List Loc) : Prop := v = some (.int r) ∧ Fr n0 L ∧ h = h0
set_option maxRecDepth 65536 in
set_option maxHeartbeats 40000000 in
theorem rmW0 (l : Launch) (Z : State) (a0 : Array Value) (hw : ∀ d ∈ tables_1, d.before a0 Z = true) (ws : List Jvm.Cond) (p0 : Addr) (wcs : Int32) (wsf : Value) (r : Int32) (h0 : Heap) (n0 : Nat) (Z0 : n0 ≤ h0.size) (SR : own_Str0 Z h0 n0 p0 ) (OLD : Old Z n0 h0) (hcs : ¬ (wcs = (0 : Int32))) (rsf : wsf.isRef = true) (B_wcs : Sta Z Z.heap "java/lang/String" "COMPACT_STRINGS" "Z" (.int wcs)) (B_wsf : Sta Z Z.heap "jdk/internal/util/Preconditions" "SIOOBE_FORMATTER" "Ljava/util/function/BiFunction;" wsf) (B_wad : Sta Z Z.heap "java/lang/StringUTF16" "$assertionsDisabled" "Z" (.int (1 : Int32))) (B_whi : Sta Z Z.heap "java/lang/StringUTF16" "HI_BYTE_SHIFT" "I" (.int (0 : Int32))) (B_wlo : Sta Z Z.heap "java/lang/StringUTF16" "LO_BYTE_SHIFT" "I" (.int (8 : Int32))) (hr0 : fW0 = r) :
    MetFree l (⟨"com/example/push_to_tree/pushtotree/XmlChars", "isWhitespace", "(Ljava/lang/String;)Z"⟩ : MethodName) (head1 (Jvm.Cond.code (⟨"com/example/push_to_tree/pushtotree/XmlChars", "isWhitespace", "(Ljava/lang/String;)Z"⟩ : MethodName) prog_89_method_10_code 2 (some .boolean) :: ws) ({ frames := 2, cells := 0, slots := 0, locals := 26 } : Room)) (fun a U => a = #[(.ref p0)] ∧ Z.Warmed39 U.vm ∧ U.heap = h0) (fun _ _ _ _ _ => True) (fun _ U o U' => ∃ v L, o = .returned v ∧ QW0 Z p0 wcs wsf r h0 n0 v U'.heap L ∧ FrameEnd U o U' L ({ frames := 2, cells := 0, slots := 0, locals := 26 } : Room).cells ({ frames := 2, cells := 0, slots := 0, locals := 26 } : Room).slots) := by
  refine MetFree.of_bodySF (plainFor_of_name pn_17) hisR ?_
  intro p e s m args below meth c s₁ Bd hml0 hP hK
  obtain ⟨rfl, hZ, hh⟩ := hP
  have hx := Bd.exec
  have hby := Bd.bytes
  have hml : c.maxLocals = 2 := hml0
  have hown : s.vm.findClass "com/example/push_to_tree/pushtotree/XmlChars" = some m.cls := findClass_of_methodNamed Bd.named
  have hnm := (name_of_methodNamed Bd.named Bd.method).1
  have X0 : Stand p l e ({ frames := 2, cells := 0, slots := 0, locals := 26 } : Room) s m #[(.ref p0)] below meth c s₁ [] 0 0 := Stand.of_body Bd
  have e0 : s₁.heap = h0 := by rw [← hh, Bd.state]; rfl
  have N0 := Fr.nil n0
  refine own_start ?_
  refine own_via (fun t k => castTop (ef_rmW0 m p0) k) ?_
  show own_Go p e below _ (s₁.setTop (mkF m 0 #[oR p0, .unset] []))
  refine own_via (fun t kz => XS.iconst X0.here hx rfl (hb hby d5_0) kz) ?_
  refine own_via (fun t kz => XS.istoreN X0.here hx rfl (hb hby d5_1) rfl (l' := #[oR p0, oI (0 : Int32)]) rfl kz) ?_
  refine own_via (fun t kz => XS.iloadN X0.here hx rfl (hb hby d5_2) rfl kz) ?_
  refine own_via (fun t kz => XS.aloadN X0.here hx rfl (hb hby d5_3) rfl rfl kz) ?_
  show own_Go p e below _ (s₁.setTop (mkF m 4 #[oR p0, oI (0 : Int32)] [(.ref p0), (.int (0 : Int32))]))
  obtain ⟨cq1, kq1, qa1, qb1, qc1⟩ := isOf hZ e0 (own_strE0 SR)
  obtain ⟨_, _, ⟨T1, L1, k1, n1⟩, -, X1, ⟨Lc1, hQ1, l1, y1, z1⟩, st1⟩ := X0.virtualBack hx (y := (⟨"java/lang/String", "length", "()I"⟩ : MethodName)) (z := (⟨"java/lang/String", "length", "()I"⟩ : MethodName)) hown (mvT hZ (own_w hw 30)) (mvT hZ (own_w hw 31)) (notFace_of_selects (args := #[]) (mvT hZ (own_w hw 33))) (mvT hZ (own_w hw 33)) (mvT hZ (own_w hw 32)) (by decide) (backOf (W := 1) (rmL0 l Z a0 hw [] p0 wcs wsf h0 n0 Z0 SR OLD hcs rsf B_wcs B_wsf B_wad B_whi B_wlo) hZ (own_w hw 34) (own_w hw 6) (by decide) (by decide)) qa1 qc1 (g := (mkF m 4 #[oR p0, oI (0 : Int32)] [(.ref p0), (.int (0 : Int32))])) rfl (by rw [hml]; rfl) (Steps.refl _) (argsL := []) (rest := [(.int (0 : Int32))]) (lenOf pd_5_0 rfl) rfl (by show 2 * 0 + _ ≤ _; exact Nat.le_of_eq rfl) (hb hby d5_4) (fun _ _ => ⟨rfl, e0, (by decide : 0 + 0 ≤ _), (by decide : 0 + 0 ≤ _)⟩)
  dsimp only [Pt.U, Pt.locs, Pt.cells, Pt.slots] at X1 l1 y1 z1 st1 hQ1
  subst l1 y1 z1
  obtain ⟨rfl, Nq1, e1⟩ := hQ1
  have N2 := Fr.app N0 Nq1
  refine own_tr st1 ?_
  show own_Go p e below _ (T1.setTop (mkF m 7 #[oR p0, oI (0 : Int32)] [(.int (0 : Int32)), (.int (0 : Int32))]))
  refine own_via (fun t kz => XS.icmpYes X1.here hx rfl (pc0 := 7) (pc' := 29) rfl (hb hby d5_7) rfl (flt (by decide : ¬ ((0 : Int32) < (0 : Int32)))).2.1 (by decide) (by decide) kz) ?_
  refine own_via (fun t kz => XS.iconst X1.here hx rfl (hb hby d5_29) kz) ?_
  show own_Go p e below _ (T1.setTop (mkF m 30 #[oR p0, oI (0 : Int32)] [(.int (1 : Int32))]))
  have hv : fW0 = (1 : Int32) := by unfold fW0; rfl
  obtain ⟨fs, hr, hrun, hended, hW, hsame⟩ := X1.leave (v := some (.int (1 : Int32))) (fun h => by rw [Bd.returns] at h; cases h)
  refine ⟨_, _, retN X1 hx (t := .boolean) Bd.returns (by simp) (hb hby d5_30) hr, hrun, hended, _, _, rfl, ?_, ⟨_, rfl⟩, hW, hsame.mono (by decide) (by decide)⟩
  show QW0 Z p0 wcs wsf r h0 n0 _ T1.heap _
  rw [e1]
  exact ⟨by rw [← hr0, hv], N2, rfl⟩
theorem own_strE1 {Z : State} {h : Heap} {n0 : Nat} {s : Addr} {c0_ : Int32} (H : own_Str1 Z h n0 s c0_) : Exa Z h s "java/lang/String" := by
  obtain ⟨arr, kb, -, E, -⟩ := H
  exact E
def fW1 (c0_ : Int32) : Int32 := (if (f17 c0_) = (0 : Int32) then (0 : Int32) else (1 : Int32))
theorem d5_10 : decode prog_89_method_10_code 10 = .ok (.aload_n 0, 1) := by decide +kernel
theorem d5_11 : decode prog_89_method_10_code 11 = .ok (.iload_n 1, 1) := by decide +kernel
theorem d5_12 : decode prog_89_method_10_code 12 = .ok (.invokevirtual 71, 3) := by decide +kernel
theorem d5_15 : decode prog_89_method_10_code 15 = .ok (.invokestatic 114, 3) := by decide +kernel
theorem d5_18 : decode prog_89_method_10_code 18 = .ok (.ifCond .ne 5, 3) := by decide +kernel
theorem d5_21 : decode prog_89_method_10_code 21 = .ok (.iconst 0, 1) := by decide +kernel
theorem d5_22 : decode prog_89_method_10_code 22 = .ok (.ireturn, 1) := by decide +kernel
theorem d5_23 : decode prog_89_method_10_code 23 = .ok (.iinc 1 1, 3) := by decide +kernel
theorem d5_26 : decode prog_89_method_10_code 26 = .ok (.goto (-24), 3) := by decide +kernel
theorem pd_5_1 : parseMethodDescriptor "(I)C" = some ⟨[.int], some .char⟩ := by decide +kernel
theorem pd_5_2 : parseMethodDescriptor "(C)Z" = some ⟨[.char], some .boolean⟩ := by decide +kernel
theorem ef_rmW1 (m : MethodId) (q0 : Addr) : entryFrame m #[(.ref q0)] 2 = mkF m 0 #[oR q0, .unset] [] := by first | (simp [entryFrame, mkF, argsToLocals, Value.category]; done) | rfl
def QW1 (Z : State) (p0 : Addr) (c0_ : Int32) (wcs : Int32) (wsf : Value) (r : Int32) (h0 : Heap) (n0 : Nat) (v : Option Value) (h : Heap) (L : List Loc) : Prop := v = some (.int r) ∧ Fr n0 L ∧ h = h0
set_option maxRecDepth 65536 in
set_option maxHeartbeats 40000000 in
theorem rmW1 (l : Launch) (Z : State) (a0 : Array Value) (hw : ∀ d ∈ tables_1, d.before a0 Z = true) (ws : List Jvm.Cond) (p0 : Addr) (c0_ : Int32) (wcs : Int32) (wsf : Value) (r : Int32) (h0 : Heap) (n0 : Nat) (Z0 : n0 ≤ h0.size) (SR : own_Str1 Z h0 n0 p0 c0_) (hc0 : own_ch c0_) (OLD : Old Z n0 h0) (hcs : ¬ (wcs = (0 : Int32))) (rsf : wsf.isRef = true) (B_wcs : Sta Z Z.heap "java/lang/String" "COMPACT_STRINGS" "Z" (.int wcs)) (B_wsf : Sta Z Z.heap "jdk/internal/util/Preconditions" "SIOOBE_FORMATTER" "Ljava/util/function/BiFunction;" wsf) (B_wad : Sta Z Z.heap "java/lang/StringUTF16" "$assertionsDisabled" "Z" (.int (1 : Int32))) (B_whi : Sta Z Z.heap "java/lang/StringUTF16" "HI_BYTE_SHIFT" "I" (.int (0 : Int32))) (B_wlo : Sta Z Z.heap "java/lang/StringUTF16" "LO_BYTE_SHIFT" "I" (.int (8 : Int32))) (hr0 : (fW1 c0_) = r) :
    MetFree l (⟨"com/example/push_to_tree/pushtotree/XmlChars", "isWhitespace", "(Ljava/lang/String;)Z"⟩ : MethodName) (head1 (Jvm.Cond.code (⟨"com/example/push_to_tree/pushtotree/XmlChars", "isWhitespace", "(Ljava/lang/String;)Z"⟩ : MethodName) prog_89_method_10_code 2 (some .boolean) :: ws) ({ frames := 5, cells := 0, slots := 0, locals := 66 } : Room)) (fun a U => a = #[(.ref p0)] ∧ Z.Warmed39 U.vm ∧ U.heap = h0) (fun _ _ _ _ _ => True) (fun _ U o U' => ∃ v L, o = .returned v ∧ QW1 Z p0 c0_ wcs wsf r h0 n0 v U'.heap L ∧ FrameEnd U o U' L ({ frames := 5, cells := 0, slots := 0, locals := 66 } : Room).cells ({ frames := 5, cells := 0, slots := 0, locals := 66 } : Room).slots) := by
  refine MetFree.of_bodySF (plainFor_of_name pn_17) hisR ?_
  intro p e s m args below meth c s₁ Bd hml0 hP hK
  obtain ⟨rfl, hZ, hh⟩ := hP
  have hx := Bd.exec
  have hby := Bd.bytes
  have hml : c.maxLocals = 2 := hml0
  have hown : s.vm.findClass "com/example/push_to_tree/pushtotree/XmlChars" = some m.cls := findClass_of_methodNamed Bd.named
  have hnm := (name_of_methodNamed Bd.named Bd.method).1
  have X0 : Stand p l e ({ frames := 5, cells := 0, slots := 0, locals := 66 } : Room) s m #[(.ref p0)] below meth c s₁ [] 0 0 := Stand.of_body Bd
  have e0 : s₁.heap = h0 := by rw [← hh, Bd.state]; rfl
  have N0 := Fr.nil n0
  refine own_start ?_
  refine own_via (fun t k => castTop (ef_rmW1 m p0) k) ?_
  show own_Go p e below _ (s₁.setTop (mkF m 0 #[oR p0, .unset] []))
  refine own_via (fun t kz => XS.iconst X0.here hx rfl (hb hby d5_0) kz) ?_
  refine own_via (fun t kz => XS.istoreN X0.here hx rfl (hb hby d5_1) rfl (l' := #[oR p0, oI (0 : Int32)]) rfl kz) ?_
  refine own_via (fun t kz => XS.iloadN X0.here hx rfl (hb hby d5_2) rfl kz) ?_
  refine own_via (fun t kz => XS.aloadN X0.here hx rfl (hb hby d5_3) rfl rfl kz) ?_
  show own_Go p e below _ (s₁.setTop (mkF m 4 #[oR p0, oI (0 : Int32)] [(.ref p0), (.int (0 : Int32))]))
  obtain ⟨cq1, kq1, qa1, qb1, qc1⟩ := isOf hZ e0 (own_strE1 SR)
  obtain ⟨_, _, ⟨T1, L1, k1, n1⟩, -, X1, ⟨Lc1, hQ1, l1, y1, z1⟩, st1⟩ := X0.virtualBack hx (y := (⟨"java/lang/String", "length", "()I"⟩ : MethodName)) (z := (⟨"java/lang/String", "length", "()I"⟩ : MethodName)) hown (mvT hZ (own_w hw 30)) (mvT hZ (own_w hw 31)) (notFace_of_selects (args := #[]) (mvT hZ (own_w hw 33))) (mvT hZ (own_w hw 33)) (mvT hZ (own_w hw 32)) (by decide) (backOf (W := 1) (rmL1 l Z a0 hw [] p0 c0_ wcs wsf h0 n0 Z0 SR OLD hcs rsf B_wcs B_wsf B_wad B_whi B_wlo) hZ (own_w hw 34) (own_w hw 6) (by decide) (by decide)) qa1 qc1 (g := (mkF m 4 #[oR p0, oI (0 : Int32)] [(.ref p0), (.int (0 : Int32))])) rfl (by rw [hml]; rfl) (Steps.refl _) (argsL := []) (rest := [(.int (0 : Int32))]) (lenOf pd_5_0 rfl) rfl (by show 2 * 0 + _ ≤ _; exact Nat.le_of_eq rfl) (hb hby d5_4) (fun _ _ => ⟨rfl, e0, (by decide : 0 + 0 ≤ _), (by decide : 0 + 0 ≤ _)⟩)
  dsimp only [Pt.U, Pt.locs, Pt.cells, Pt.slots] at X1 l1 y1 z1 st1 hQ1
  subst l1 y1 z1
  obtain ⟨rfl, Nq1, e1⟩ := hQ1
  have N2 := Fr.app N0 Nq1
  refine own_tr st1 ?_
  show own_Go p e below _ (T1.setTop (mkF m 7 #[oR p0, oI (0 : Int32)] [(.int (1 : Int32)), (.int (0 : Int32))]))
  refine own_via (fun t kz => XS.icmpNo X1.here hx rfl (hb hby d5_7) rfl (tlt (by decide : (0 : Int32) < (1 : Int32))).2.1 kz) ?_
  refine own_via (fun t kz => XS.aloadN X1.here hx rfl (hb hby d5_10) rfl rfl kz) ?_
  refine own_via (fun t kz => XS.iloadN X1.here hx rfl (hb hby d5_11) rfl kz) ?_
  show own_Go p e below _ (T1.setTop (mkF m 12 #[oR p0, oI (0 : Int32)] [(.int (0 : Int32)), (.ref p0)]))
  obtain ⟨cq3, kq3, qa3, qb3, qc3⟩ := isOf hZ e1 (own_strE1 SR)
  obtain ⟨_, _, ⟨T3, L3, k3, n3⟩, -, X3, ⟨Lc3, hQ3, l3, y3, z3⟩, st3⟩ := X1.virtualBack hx (y := (⟨"java/lang/String", "charAt", "(I)C"⟩ : MethodName)) (z := (⟨"java/lang/String", "charAt", "(I)C"⟩ : MethodName)) hown (mvT hZ (own_w hw 54)) (mvT hZ (own_w hw 55)) (notFace_of_selects (args := #[]) (mvT hZ (own_w hw 57))) (mvT hZ (own_w hw 57)) (mvT hZ (own_w hw 56)) (by decide) (backOf (W := 0) (rmA1_0 l Z a0 hw [] p0 c0_ wcs wsf h0 n0 Z0 SR hc0 OLD hcs rsf B_wcs B_wsf B_wad B_whi B_wlo) hZ (own_w hw 58) (own_w hw 6) (by decide) (by decide)) qa3 qc3 (g := (mkF m 12 #[oR p0, oI (0 : Int32)] [(.int (0 : Int32)), (.ref p0)])) rfl (by rw [hml]; rfl) (Steps.refl _) (argsL := [(.int (0 : Int32))]) (rest := []) (lenOf pd_5_1 rfl) rfl (by show 2 * 0 + _ ≤ _; exact Nat.le_of_eq rfl) (hb hby d5_12) (fun _ _ => ⟨rfl, e1, (by decide : 0 + 0 ≤ _), (by decide : 0 + 0 ≤ _)⟩)
  dsimp only [Pt.U, Pt.locs, Pt.cells, Pt.slots] at X3 l3 y3 z3 st3 hQ3
  subst l3 y3 z3
  obtain ⟨rfl, Nq3, e3⟩ := hQ3
  have N4 := Fr.app N2 Nq3
  refine own_tr st3 ?_
  show own_Go p e below _ (T3.setTop (mkF m 15 #[oR p0, oI (0 : Int32)] [(.int c0_)]))
  obtain ⟨_, _, ⟨T5, L5, k5, n5⟩, -, X5, ⟨Lc5, hQ5, l5, y5, z5⟩, st5⟩ := Jvm.LawKit.callS X3 hx (y := (⟨"com/example/push_to_tree/pushtotree/XmlChars", "isWhitespace", "(C)Z"⟩ : MethodName)) hown (mvT hZ (own_w hw 76)) (mvT hZ (own_w hw 77)) (mvT hZ (own_w hw 28)) (mvT hZ (own_w hw 78)) (by decide) (backOf (W := 0) (rm17 l Z a0 hw [] c0_ (f17 c0_) h0 n0 Z0 rfl) hZ (own_w hw 78) (own_w hw 28) (by decide) (by decide)) (g := (mkF m 15 #[oR p0, oI (0 : Int32)] [(.int c0_)])) rfl (by rw [hml]; rfl) (argsL := [(.int c0_)]) (rest := []) (lenOf pd_5_2 rfl) rfl (by show 2 * 0 + _ ≤ _; exact Nat.le_of_eq rfl) (hb hby d5_15) (fun _ _ => ⟨rfl, e3, (by decide : 0 + 0 ≤ _), (by decide : 0 + 0 ≤ _)⟩)
  dsimp only [Pt.U, Pt.locs, Pt.cells, Pt.slots] at X5 l5 y5 z5 st5 hQ5
  subst l5 y5 z5
  obtain ⟨rfl, Nq5, e5⟩ := hQ5
  have N6 := Fr.app N4 Nq5
  refine own_via st5 ?_
  show own_Go p e below _ (T5.setTop (mkF m 18 #[oR p0, oI (0 : Int32)] [(.int (f17 c0_))]))
  by_cases hc18_7 : (f17 c0_) = (0 : Int32)
  · refine own_via (fun t kz => XS.ifNo X5.here hx rfl (hb hby d5_18) rfl ((if0 _ _).trans (teq hc18_7).2) kz) ?_
    refine own_via (fun t kz => XS.iconst X5.here hx rfl (hb hby d5_21) kz) ?_
    show own_Go p e below _ (T5.setTop (mkF m 22 #[oR p0, oI (0 : Int32)] [(.int (0 : Int32))]))
    have hv : (fW1 c0_) = (0 : Int32) := by unfold fW1; rw [if_pos hc18_7]
    obtain ⟨fs, hr, hrun, hended, hW, hsame⟩ := X5.leave (v := some (.int (0 : Int32))) (fun h => by rw [Bd.returns] at h; cases h)
    refine ⟨_, _, retN X5 hx (t := .boolean) Bd.returns (by simp) (hb hby d5_22) hr, hrun, hended, _, _, rfl, ?_, ⟨_, rfl⟩, hW, hsame.mono (by decide) (by decide)⟩
    show QW1 Z p0 c0_ wcs wsf r h0 n0 _ T5.heap _
    rw [e5]
    exact ⟨by rw [← hr0, hv], N6, rfl⟩
  · refine own_via (fun t kz => XS.ifYes X5.here hx rfl (pc0 := 18) (pc' := 23) rfl (hb hby d5_18) rfl ((if0 _ _).trans (feq hc18_7).2) (by decide) (by decide) kz) ?_
    show own_Go p e below _ (T5.setTop (mkF m 23 #[oR p0, oI (0 : Int32)] []))
    refine own_via (fun t kz => XS.iinc X5.here hx rfl (hb hby d5_23) rfl (l' := #[oR p0, oI (1 : Int32)]) rfl kz) ?_
    refine own_via (fun t kz => XS.goto X5.here hx rfl (pc0 := 26) (pc' := 2) rfl (hb hby d5_26) (by decide) (by decide) kz) ?_
    refine own_via (fun t kz => XS.iloadN X5.here hx rfl (hb hby d5_2) rfl kz) ?_
    refine own_via (fun t kz => XS.aloadN X5.here hx rfl (hb hby d5_3) rfl rfl kz) ?_
    show own_Go p e below _ (T5.setTop (mkF m 4 #[oR p0, oI (1 : Int32)] [(.ref p0), (.int (1 : Int32))]))
    obtain ⟨cq9, kq9, qa9, qb9, qc9⟩ := isOf hZ e5 (own_strE1 SR)
    obtain ⟨_, _, ⟨T9, L9, k9, n9⟩, -, X9, ⟨Lc9, hQ9, l9, y9, z9⟩, st9⟩ := X5.virtualBack hx (y := (⟨"java/lang/String", "length", "()I"⟩ : MethodName)) (z := (⟨"java/lang/String", "length", "()I"⟩ : MethodName)) hown (mvT hZ (own_w hw 30)) (mvT hZ (own_w hw 31)) (notFace_of_selects (args := #[]) (mvT hZ (own_w hw 33))) (mvT hZ (own_w hw 33)) (mvT hZ (own_w hw 32)) (by decide) (backOf (W := 1) (rmL1 l Z a0 hw [] p0 c0_ wcs wsf h0 n0 Z0 SR OLD hcs rsf B_wcs B_wsf B_wad B_whi B_wlo) hZ (own_w hw 34) (own_w hw 6) (by decide) (by decide)) qa9 qc9 (g := (mkF m 4 #[oR p0, oI (1 : Int32)] [(.ref p0), (.int (1 : Int32))])) rfl (by rw [hml]; rfl) (Steps.refl _) (argsL := []) (rest := [(.int (1 : Int32))]) (lenOf pd_5_0 rfl) rfl (by show 2 * 0 + _ ≤ _; exact Nat.le_of_eq rfl) (hb hby d5_4) (fun _ _ => ⟨rfl, e5, (by decide : 0 + 0 ≤ _), (by decide : 0 + 0 ≤ _)⟩)
    dsimp only [Pt.U, Pt.locs, Pt.cells, Pt.slots] at X9 l9 y9 z9 st9 hQ9
    subst l9 y9 z9
    obtain ⟨rfl, Nq9, e9⟩ := hQ9
    have N10 := Fr.app N6 Nq9
    refine own_tr st9 ?_
    show own_Go p e below _ (T9.setTop (mkF m 7 #[oR p0, oI (1 : Int32)] [(.int (1 : Int32)), (.int (1 : Int32))]))
    refine own_via (fun t kz => XS.icmpYes X9.here hx rfl (pc0 := 7) (pc' := 29) rfl (hb hby d5_7) rfl (flt (by decide : ¬ ((1 : Int32) < (1 : Int32)))).2.1 (by decide) (by decide) kz) ?_
    refine own_via (fun t kz => XS.iconst X9.here hx rfl (hb hby d5_29) kz) ?_
    show own_Go p e below _ (T9.setTop (mkF m 30 #[oR p0, oI (1 : Int32)] [(.int (1 : Int32))]))
    have hv : (fW1 c0_) = (1 : Int32) := by unfold fW1; rw [if_neg hc18_7]
    obtain ⟨fs, hr, hrun, hended, hW, hsame⟩ := X9.leave (v := some (.int (1 : Int32))) (fun h => by rw [Bd.returns] at h; cases h)
    refine ⟨_, _, retN X9 hx (t := .boolean) Bd.returns (by simp) (hb hby d5_30) hr, hrun, hended, _, _, rfl, ?_, ⟨_, rfl⟩, hW, hsame.mono (by decide) (by decide)⟩
    show QW1 Z p0 c0_ wcs wsf r h0 n0 _ T9.heap _
    rw [e9]
    exact ⟨by rw [← hr0, hv], N10, rfl⟩
theorem own_strE2 {Z : State} {h : Heap} {n0 : Nat} {s : Addr} {c0_ c1_ : Int32} (H : own_Str2 Z h n0 s c0_ c1_) : Exa Z h s "java/lang/String" := by
  obtain ⟨arr, kb, -, E, -⟩ := H
  exact E
def fW2 (c0_ : Int32) (c1_ : Int32) : Int32 := (if (f17 c0_) = (0 : Int32) then (0 : Int32) else (if (f17 c1_) = (0 : Int32) then (0 : Int32) else (1 : Int32)))
theorem ef_rmW2 (m : MethodId) (q0 : Addr) : entryFrame m #[(.ref q0)] 2 = mkF m 0 #[oR q0, .unset] [] := by first | (simp [entryFrame, mkF, argsToLocals, Value.category]; done) | rfl
def QW2 (Z : State) (p0 : Addr) (c0_ : Int32) (c1_ : Int32) (wcs : Int32) (wsf : Value) (r : Int32) (h0 : Heap) (n0 : Nat) (v : Option Value) (h : Heap) (L : List Loc) : Prop := v = some (.int r) ∧ Fr n0 L ∧ h = h0
set_option maxRecDepth 65536 in
set_option maxHeartbeats 40000000 in
theorem rmW2 (l : Launch) (Z : State) (a0 : Array Value) (hw : ∀ d ∈ tables_1, d.before a0 Z = true) (ws : List Jvm.Cond) (p0 : Addr) (c0_ : Int32) (c1_ : Int32) (wcs : Int32) (wsf : Value) (r : Int32) (h0 : Heap) (n0 : Nat) (Z0 : n0 ≤ h0.size) (SR : own_Str2 Z h0 n0 p0 c0_ c1_) (hc0 : own_ch c0_) (hc1 : own_ch c1_) (OLD : Old Z n0 h0) (hcs : ¬ (wcs = (0 : Int32))) (rsf : wsf.isRef = true) (B_wcs : Sta Z Z.heap "java/lang/String" "COMPACT_STRINGS" "Z" (.int wcs)) (B_wsf : Sta Z Z.heap "jdk/internal/util/Preconditions" "SIOOBE_FORMATTER" "Ljava/util/function/BiFunction;" wsf) (B_wad : Sta Z Z.heap "java/lang/StringUTF16" "$assertionsDisabled" "Z" (.int (1 : Int32))) (B_whi : Sta Z Z.heap "java/lang/StringUTF16" "HI_BYTE_SHIFT" "I" (.int (0 : Int32))) (B_wlo : Sta Z Z.heap "java/lang/StringUTF16" "LO_BYTE_SHIFT" "I" (.int (8 : Int32))) (hr0 : (fW2 c0_ c1_) = r) :
    MetFree l (⟨"com/example/push_to_tree/pushtotree/XmlChars", "isWhitespace", "(Ljava/lang/String;)Z"⟩ : MethodName) (head1 (Jvm.Cond.code (⟨"com/example/push_to_tree/pushtotree/XmlChars", "isWhitespace", "(Ljava/lang/String;)Z"⟩ : MethodName) prog_89_method_10_code 2 (some .boolean) :: ws) ({ frames := 5, cells := 0, slots := 0, locals := 66 } : Room)) (fun a U => a = #[(.ref p0)] ∧ Z.Warmed39 U.vm ∧ U.heap = h0) (fun _ _ _ _ _ => True) (fun _ U o U' => ∃ v L, o = .returned v ∧ QW2 Z p0 c0_ c1_ wcs wsf r h0 n0 v U'.heap L ∧ FrameEnd U o U' L ({ frames := 5, cells := 0, slots := 0, locals := 66 } : Room).cells ({ frames := 5, cells := 0, slots := 0, locals := 66 } : Room).slots) := by
  refine MetFree.of_bodySF (plainFor_of_name pn_17) hisR ?_
  intro p e s m args below meth c s₁ Bd hml0 hP hK
  obtain ⟨rfl, hZ, hh⟩ := hP
  have hx := Bd.exec
  have hby := Bd.bytes
  have hml : c.maxLocals = 2 := hml0
  have hown : s.vm.findClass "com/example/push_to_tree/pushtotree/XmlChars" = some m.cls := findClass_of_methodNamed Bd.named
  have hnm := (name_of_methodNamed Bd.named Bd.method).1
  have X0 : Stand p l e ({ frames := 5, cells := 0, slots := 0, locals := 66 } : Room) s m #[(.ref p0)] below meth c s₁ [] 0 0 := Stand.of_body Bd
  have e0 : s₁.heap = h0 := by rw [← hh, Bd.state]; rfl
  have N0 := Fr.nil n0
  refine own_start ?_
  refine own_via (fun t k => castTop (ef_rmW2 m p0) k) ?_
  show own_Go p e below _ (s₁.setTop (mkF m 0 #[oR p0, .unset] []))
  refine own_via (fun t kz => XS.iconst X0.here hx rfl (hb hby d5_0) kz) ?_
  refine own_via (fun t kz => XS.istoreN X0.here hx rfl (hb hby d5_1) rfl (l' := #[oR p0, oI (0 : Int32)]) rfl kz) ?_
  refine own_via (fun t kz => XS.iloadN X0.here hx rfl (hb hby d5_2) rfl kz) ?_
  refine own_via (fun t kz => XS.aloadN X0.here hx rfl (hb hby d5_3) rfl rfl kz) ?_
  show own_Go p e below _ (s₁.setTop (mkF m 4 #[oR p0, oI (0 : Int32)] [(.ref p0), (.int (0 : Int32))]))
  obtain ⟨cq1, kq1, qa1, qb1, qc1⟩ := isOf hZ e0 (own_strE2 SR)
  obtain ⟨_, _, ⟨T1, L1, k1, n1⟩, -, X1, ⟨Lc1, hQ1, l1, y1, z1⟩, st1⟩ := X0.virtualBack hx (y := (⟨"java/lang/String", "length", "()I"⟩ : MethodName)) (z := (⟨"java/lang/String", "length", "()I"⟩ : MethodName)) hown (mvT hZ (own_w hw 30)) (mvT hZ (own_w hw 31)) (notFace_of_selects (args := #[]) (mvT hZ (own_w hw 33))) (mvT hZ (own_w hw 33)) (mvT hZ (own_w hw 32)) (by decide) (backOf (W := 1) (rmL2 l Z a0 hw [] p0 c0_ c1_ wcs wsf h0 n0 Z0 SR OLD hcs rsf B_wcs B_wsf B_wad B_whi B_wlo) hZ (own_w hw 34) (own_w hw 6) (by decide) (by decide)) qa1 qc1 (g := (mkF m 4 #[oR p0, oI (0 : Int32)] [(.ref p0), (.int (0 : Int32))])) rfl (by rw [hml]; rfl) (Steps.refl _) (argsL := []) (rest := [(.int (0 : Int32))]) (lenOf pd_5_0 rfl) rfl (by show 2 * 0 + _ ≤ _; exact Nat.le_of_eq rfl) (hb hby d5_4) (fun _ _ => ⟨rfl, e0, (by decide : 0 + 0 ≤ _), (by decide : 0 + 0 ≤ _)⟩)
  dsimp only [Pt.U, Pt.locs, Pt.cells, Pt.slots] at X1 l1 y1 z1 st1 hQ1
  subst l1 y1 z1
  obtain ⟨rfl, Nq1, e1⟩ := hQ1
  have N2 := Fr.app N0 Nq1
  refine own_tr st1 ?_
  show own_Go p e below _ (T1.setTop (mkF m 7 #[oR p0, oI (0 : Int32)] [(.int (2 : Int32)), (.int (0 : Int32))]))
  refine own_via (fun t kz => XS.icmpNo X1.here hx rfl (hb hby d5_7) rfl (tlt (by decide : (0 : Int32) < (2 : Int32))).2.1 kz) ?_
  refine own_via (fun t kz => XS.aloadN X1.here hx rfl (hb hby d5_10) rfl rfl kz) ?_
  refine own_via (fun t kz => XS.iloadN X1.here hx rfl (hb hby d5_11) rfl kz) ?_
  show own_Go p e below _ (T1.setTop (mkF m 12 #[oR p0, oI (0 : Int32)] [(.int (0 : Int32)), (.ref p0)]))
  obtain ⟨cq3, kq3, qa3, qb3, qc3⟩ := isOf hZ e1 (own_strE2 SR)
  obtain ⟨_, _, ⟨T3, L3, k3, n3⟩, -, X3, ⟨Lc3, hQ3, l3, y3, z3⟩, st3⟩ := X1.virtualBack hx (y := (⟨"java/lang/String", "charAt", "(I)C"⟩ : MethodName)) (z := (⟨"java/lang/String", "charAt", "(I)C"⟩ : MethodName)) hown (mvT hZ (own_w hw 54)) (mvT hZ (own_w hw 55)) (notFace_of_selects (args := #[]) (mvT hZ (own_w hw 57))) (mvT hZ (own_w hw 57)) (mvT hZ (own_w hw 56)) (by decide) (backOf (W := 0) (rmA2_0 l Z a0 hw [] p0 c0_ c1_ wcs wsf h0 n0 Z0 SR hc0 hc1 OLD hcs rsf B_wcs B_wsf B_wad B_whi B_wlo) hZ (own_w hw 58) (own_w hw 6) (by decide) (by decide)) qa3 qc3 (g := (mkF m 12 #[oR p0, oI (0 : Int32)] [(.int (0 : Int32)), (.ref p0)])) rfl (by rw [hml]; rfl) (Steps.refl _) (argsL := [(.int (0 : Int32))]) (rest := []) (lenOf pd_5_1 rfl) rfl (by show 2 * 0 + _ ≤ _; exact Nat.le_of_eq rfl) (hb hby d5_12) (fun _ _ => ⟨rfl, e1, (by decide : 0 + 0 ≤ _), (by decide : 0 + 0 ≤ _)⟩)
  dsimp only [Pt.U, Pt.locs, Pt.cells, Pt.slots] at X3 l3 y3 z3 st3 hQ3
  subst l3 y3 z3
  obtain ⟨rfl, Nq3, e3⟩ := hQ3
  have N4 := Fr.app N2 Nq3
  refine own_tr st3 ?_
  show own_Go p e below _ (T3.setTop (mkF m 15 #[oR p0, oI (0 : Int32)] [(.int c0_)]))
  obtain ⟨_, _, ⟨T5, L5, k5, n5⟩, -, X5, ⟨Lc5, hQ5, l5, y5, z5⟩, st5⟩ := Jvm.LawKit.callS X3 hx (y := (⟨"com/example/push_to_tree/pushtotree/XmlChars", "isWhitespace", "(C)Z"⟩ : MethodName)) hown (mvT hZ (own_w hw 76)) (mvT hZ (own_w hw 77)) (mvT hZ (own_w hw 28)) (mvT hZ (own_w hw 78)) (by decide) (backOf (W := 0) (rm17 l Z a0 hw [] c0_ (f17 c0_) h0 n0 Z0 rfl) hZ (own_w hw 78) (own_w hw 28) (by decide) (by decide)) (g := (mkF m 15 #[oR p0, oI (0 : Int32)] [(.int c0_)])) rfl (by rw [hml]; rfl) (argsL := [(.int c0_)]) (rest := []) (lenOf pd_5_2 rfl) rfl (by show 2 * 0 + _ ≤ _; exact Nat.le_of_eq rfl) (hb hby d5_15) (fun _ _ => ⟨rfl, e3, (by decide : 0 + 0 ≤ _), (by decide : 0 + 0 ≤ _)⟩)
  dsimp only [Pt.U, Pt.locs, Pt.cells, Pt.slots] at X5 l5 y5 z5 st5 hQ5
  subst l5 y5 z5
  obtain ⟨rfl, Nq5, e5⟩ := hQ5
  have N6 := Fr.app N4 Nq5
  refine own_via st5 ?_
  show own_Go p e below _ (T5.setTop (mkF m 18 #[oR p0, oI (0 : Int32)] [(.int (f17 c0_))]))
  by_cases hc18_7 : (f17 c0_) = (0 : Int32)
  · refine own_via (fun t kz => XS.ifNo X5.here hx rfl (hb hby d5_18) rfl ((if0 _ _).trans (teq hc18_7).2) kz) ?_
    refine own_via (fun t kz => XS.iconst X5.here hx rfl (hb hby d5_21) kz) ?_
    show own_Go p e below _ (T5.setTop (mkF m 22 #[oR p0, oI (0 : Int32)] [(.int (0 : Int32))]))
    have hv : (fW2 c0_ c1_) = (0 : Int32) := by unfold fW2; rw [if_pos hc18_7]
    obtain ⟨fs, hr, hrun, hended, hW, hsame⟩ := X5.leave (v := some (.int (0 : Int32))) (fun h => by rw [Bd.returns] at h; cases h)
    refine ⟨_, _, retN X5 hx (t := .boolean) Bd.returns (by simp) (hb hby d5_22) hr, hrun, hended, _, _, rfl, ?_, ⟨_, rfl⟩, hW, hsame.mono (by decide) (by decide)⟩
    show QW2 Z p0 c0_ c1_ wcs wsf r h0 n0 _ T5.heap _
    rw [e5]
    exact ⟨by rw [← hr0, hv], N6, rfl⟩
  · refine own_via (fun t kz => XS.ifYes X5.here hx rfl (pc0 := 18) (pc' := 23) rfl (hb hby d5_18) rfl ((if0 _ _).trans (feq hc18_7).2) (by decide) (by decide) kz) ?_
    show own_Go p e below _ (T5.setTop (mkF m 23 #[oR p0, oI (0 : Int32)] []))
    refine own_via (fun t kz => XS.iinc X5.here hx rfl (hb hby d5_23) rfl (l' := #[oR p0, oI (1 : Int32)]) rfl kz) ?_
    refine own_via (fun t kz => XS.goto X5.here hx rfl (pc0 := 26) (pc' := 2) rfl (hb hby d5_26) (by decide) (by decide) kz) ?_
    refine own_via (fun t kz => XS.iloadN X5.here hx rfl (hb hby d5_2) rfl kz) ?_
    refine own_via (fun t kz => XS.aloadN X5.here hx rfl (hb hby d5_3) rfl rfl kz) ?_
    show own_Go p e below _ (T5.setTop (mkF m 4 #[oR p0, oI (1 : Int32)] [(.ref p0), (.int (1 : Int32))]))
    obtain ⟨cq9, kq9, qa9, qb9, qc9⟩ := isOf hZ e5 (own_strE2 SR)
    obtain ⟨_, _, ⟨T9, L9, k9, n9⟩, -, X9, ⟨Lc9, hQ9, l9, y9, z9⟩, st9⟩ := X5.virtualBack hx (y := (⟨"java/lang/String", "length", "()I"⟩ : MethodName)) (z := (⟨"java/lang/String", "length", "()I"⟩ : MethodName)) hown (mvT hZ (own_w hw 30)) (mvT hZ (own_w hw 31)) (notFace_of_selects (args := #[]) (mvT hZ (own_w hw 33))) (mvT hZ (own_w hw 33)) (mvT hZ (own_w hw 32)) (by decide) (backOf (W := 1) (rmL2 l Z a0 hw [] p0 c0_ c1_ wcs wsf h0 n0 Z0 SR OLD hcs rsf B_wcs B_wsf B_wad B_whi B_wlo) hZ (own_w hw 34) (own_w hw 6) (by decide) (by decide)) qa9 qc9 (g := (mkF m 4 #[oR p0, oI (1 : Int32)] [(.ref p0), (.int (1 : Int32))])) rfl (by rw [hml]; rfl) (Steps.refl _) (argsL := []) (rest := [(.int (1 : Int32))]) (lenOf pd_5_0 rfl) rfl (by show 2 * 0 + _ ≤ _; exact Nat.le_of_eq rfl) (hb hby d5_4) (fun _ _ => ⟨rfl, e5, (by decide : 0 + 0 ≤ _), (by decide : 0 + 0 ≤ _)⟩)
    dsimp only [Pt.U, Pt.locs, Pt.cells, Pt.slots] at X9 l9 y9 z9 st9 hQ9
    subst l9 y9 z9
    obtain ⟨rfl, Nq9, e9⟩ := hQ9
    have N10 := Fr.app N6 Nq9
    refine own_tr st9 ?_
    show own_Go p e below _ (T9.setTop (mkF m 7 #[oR p0, oI (1 : Int32)] [(.int (2 : Int32)), (.int (1 : Int32))]))
    refine own_via (fun t kz => XS.icmpNo X9.here hx rfl (hb hby d5_7) rfl (tlt (by decide : (1 : Int32) < (2 : Int32))).2.1 kz) ?_
    refine own_via (fun t kz => XS.aloadN X9.here hx rfl (hb hby d5_10) rfl rfl kz) ?_
    refine own_via (fun t kz => XS.iloadN X9.here hx rfl (hb hby d5_11) rfl kz) ?_
    show own_Go p e below _ (T9.setTop (mkF m 12 #[oR p0, oI (1 : Int32)] [(.int (1 : Int32)), (.ref p0)]))
    obtain ⟨cq11, kq11, qa11, qb11, qc11⟩ := isOf hZ e9 (own_strE2 SR)
    obtain ⟨_, _, ⟨T11, L11, k11, n11⟩, -, X11, ⟨Lc11, hQ11, l11, y11, z11⟩, st11⟩ := X9.virtualBack hx (y := (⟨"java/lang/String", "charAt", "(I)C"⟩ : MethodName)) (z := (⟨"java/lang/String", "charAt", "(I)C"⟩ : MethodName)) hown (mvT hZ (own_w hw 54)) (mvT hZ (own_w hw 55)) (notFace_of_selects (args := #[]) (mvT hZ (own_w hw 57))) (mvT hZ (own_w hw 57)) (mvT hZ (own_w hw 56)) (by decide) (backOf (W := 0) (rmA2_1 l Z a0 hw [] p0 c0_ c1_ wcs wsf h0 n0 Z0 SR hc0 hc1 OLD hcs rsf B_wcs B_wsf B_wad B_whi B_wlo) hZ (own_w hw 58) (own_w hw 6) (by decide) (by decide)) qa11 qc11 (g := (mkF m 12 #[oR p0, oI (1 : Int32)] [(.int (1 : Int32)), (.ref p0)])) rfl (by rw [hml]; rfl) (Steps.refl _) (argsL := [(.int (1 : Int32))]) (rest := []) (lenOf pd_5_1 rfl) rfl (by show 2 * 0 + _ ≤ _; exact Nat.le_of_eq rfl) (hb hby d5_12) (fun _ _ => ⟨rfl, e9, (by decide : 0 + 0 ≤ _), (by decide : 0 + 0 ≤ _)⟩)
    dsimp only [Pt.U, Pt.locs, Pt.cells, Pt.slots] at X11 l11 y11 z11 st11 hQ11
    subst l11 y11 z11
    obtain ⟨rfl, Nq11, e11⟩ := hQ11
    have N12 := Fr.app N10 Nq11
    refine own_tr st11 ?_
    show own_Go p e below _ (T11.setTop (mkF m 15 #[oR p0, oI (1 : Int32)] [(.int c1_)]))
    obtain ⟨_, _, ⟨T13, L13, k13, n13⟩, -, X13, ⟨Lc13, hQ13, l13, y13, z13⟩, st13⟩ := Jvm.LawKit.callS X11 hx (y := (⟨"com/example/push_to_tree/pushtotree/XmlChars", "isWhitespace", "(C)Z"⟩ : MethodName)) hown (mvT hZ (own_w hw 76)) (mvT hZ (own_w hw 77)) (mvT hZ (own_w hw 28)) (mvT hZ (own_w hw 78)) (by decide) (backOf (W := 0) (rm17 l Z a0 hw [] c1_ (f17 c1_) h0 n0 Z0 rfl) hZ (own_w hw 78) (own_w hw 28) (by decide) (by decide)) (g := (mkF m 15 #[oR p0, oI (1 : Int32)] [(.int c1_)])) rfl (by rw [hml]; rfl) (argsL := [(.int c1_)]) (rest := []) (lenOf pd_5_2 rfl) rfl (by show 2 * 0 + _ ≤ _; exact Nat.le_of_eq rfl) (hb hby d5_15) (fun _ _ => ⟨rfl, e11, (by decide : 0 + 0 ≤ _), (by decide : 0 + 0 ≤ _)⟩)
    dsimp only [Pt.U, Pt.locs, Pt.cells, Pt.slots] at X13 l13 y13 z13 st13 hQ13
    subst l13 y13 z13
    obtain ⟨rfl, Nq13, e13⟩ := hQ13
    have N14 := Fr.app N12 Nq13
    refine own_via st13 ?_
    show own_Go p e below _ (T13.setTop (mkF m 18 #[oR p0, oI (1 : Int32)] [(.int (f17 c1_))]))
    by_cases hc18_15 : (f17 c1_) = (0 : Int32)
    · refine own_via (fun t kz => XS.ifNo X13.here hx rfl (hb hby d5_18) rfl ((if0 _ _).trans (teq hc18_15).2) kz) ?_
      refine own_via (fun t kz => XS.iconst X13.here hx rfl (hb hby d5_21) kz) ?_
      show own_Go p e below _ (T13.setTop (mkF m 22 #[oR p0, oI (1 : Int32)] [(.int (0 : Int32))]))
      have hv : (fW2 c0_ c1_) = (0 : Int32) := by unfold fW2; rw [if_neg hc18_7, if_pos hc18_15]
      obtain ⟨fs, hr, hrun, hended, hW, hsame⟩ := X13.leave (v := some (.int (0 : Int32))) (fun h => by rw [Bd.returns] at h; cases h)
      refine ⟨_, _, retN X13 hx (t := .boolean) Bd.returns (by simp) (hb hby d5_22) hr, hrun, hended, _, _, rfl, ?_, ⟨_, rfl⟩, hW, hsame.mono (by decide) (by decide)⟩
      show QW2 Z p0 c0_ c1_ wcs wsf r h0 n0 _ T13.heap _
      rw [e13]
      exact ⟨by rw [← hr0, hv], N14, rfl⟩
    · refine own_via (fun t kz => XS.ifYes X13.here hx rfl (pc0 := 18) (pc' := 23) rfl (hb hby d5_18) rfl ((if0 _ _).trans (feq hc18_15).2) (by decide) (by decide) kz) ?_
      show own_Go p e below _ (T13.setTop (mkF m 23 #[oR p0, oI (1 : Int32)] []))
      refine own_via (fun t kz => XS.iinc X13.here hx rfl (hb hby d5_23) rfl (l' := #[oR p0, oI (2 : Int32)]) rfl kz) ?_
      refine own_via (fun t kz => XS.goto X13.here hx rfl (pc0 := 26) (pc' := 2) rfl (hb hby d5_26) (by decide) (by decide) kz) ?_
      refine own_via (fun t kz => XS.iloadN X13.here hx rfl (hb hby d5_2) rfl kz) ?_
      refine own_via (fun t kz => XS.aloadN X13.here hx rfl (hb hby d5_3) rfl rfl kz) ?_
      show own_Go p e below _ (T13.setTop (mkF m 4 #[oR p0, oI (2 : Int32)] [(.ref p0), (.int (2 : Int32))]))
      obtain ⟨cq17, kq17, qa17, qb17, qc17⟩ := isOf hZ e13 (own_strE2 SR)
      obtain ⟨_, _, ⟨T17, L17, k17, n17⟩, -, X17, ⟨Lc17, hQ17, l17, y17, z17⟩, st17⟩ := X13.virtualBack hx (y := (⟨"java/lang/String", "length", "()I"⟩ : MethodName)) (z := (⟨"java/lang/String", "length", "()I"⟩ : MethodName)) hown (mvT hZ (own_w hw 30)) (mvT hZ (own_w hw 31)) (notFace_of_selects (args := #[]) (mvT hZ (own_w hw 33))) (mvT hZ (own_w hw 33)) (mvT hZ (own_w hw 32)) (by decide) (backOf (W := 1) (rmL2 l Z a0 hw [] p0 c0_ c1_ wcs wsf h0 n0 Z0 SR OLD hcs rsf B_wcs B_wsf B_wad B_whi B_wlo) hZ (own_w hw 34) (own_w hw 6) (by decide) (by decide)) qa17 qc17 (g := (mkF m 4 #[oR p0, oI (2 : Int32)] [(.ref p0), (.int (2 : Int32))])) rfl (by rw [hml]; rfl) (Steps.refl _) (argsL := []) (rest := [(.int (2 : Int32))]) (lenOf pd_5_0 rfl) rfl (by show 2 * 0 + _ ≤ _; exact Nat.le_of_eq rfl) (hb hby d5_4) (fun _ _ => ⟨rfl, e13, (by decide : 0 + 0 ≤ _), (by decide : 0 + 0 ≤ _)⟩)
      dsimp only [Pt.U, Pt.locs, Pt.cells, Pt.slots] at X17 l17 y17 z17 st17 hQ17
      subst l17 y17 z17
      obtain ⟨rfl, Nq17, e17⟩ := hQ17
      have N18 := Fr.app N14 Nq17
      refine own_tr st17 ?_
      show own_Go p e below _ (T17.setTop (mkF m 7 #[oR p0, oI (2 : Int32)] [(.int (2 : Int32)), (.int (2 : Int32))]))
      refine own_via (fun t kz => XS.icmpYes X17.here hx rfl (pc0 := 7) (pc' := 29) rfl (hb hby d5_7) rfl (flt (by decide : ¬ ((2 : Int32) < (2 : Int32)))).2.1 (by decide) (by decide) kz) ?_
      refine own_via (fun t kz => XS.iconst X17.here hx rfl (hb hby d5_29) kz) ?_
      show own_Go p e below _ (T17.setTop (mkF m 30 #[oR p0, oI (2 : Int32)] [(.int (1 : Int32))]))
      have hv : (fW2 c0_ c1_) = (1 : Int32) := by unfold fW2; rw [if_neg hc18_7, if_neg hc18_15]
      obtain ⟨fs, hr, hrun, hended, hW, hsame⟩ := X17.leave (v := some (.int (1 : Int32))) (fun h => by rw [Bd.returns] at h; cases h)
      refine ⟨_, _, retN X17 hx (t := .boolean) Bd.returns (by simp) (hb hby d5_30) hr, hrun, hended, _, _, rfl, ?_, ⟨_, rfl⟩, hW, hsame.mono (by decide) (by decide)⟩
      show QW2 Z p0 c0_ c1_ wcs wsf r h0 n0 _ T17.heap _
      rw [e17]
      exact ⟨by rw [← hr0, hv], N18, rfl⟩
theorem own_strE3 {Z : State} {h : Heap} {n0 : Nat} {s : Addr} {c0_ c1_ c2_ : Int32} (H : own_Str3 Z h n0 s c0_ c1_ c2_) : Exa Z h s "java/lang/String" := by
  obtain ⟨arr, kb, -, E, -⟩ := H
  exact E
def fW3 (c0_ : Int32) (c1_ : Int32) (c2_ : Int32) : Int32 := (if (f17 c0_) = (0 : Int32) then (0 : Int32) else (if (f17 c1_) = (0 : Int32) then (0 : Int32) else (if (f17 c2_) = (0 : Int32) then (0 : Int32) else (1 : Int32))))
theorem ef_rmW3 (m : MethodId) (q0 : Addr) : entryFrame m #[(.ref q0)] 2 = mkF m 0 #[oR q0, .unset] [] := by first | (simp [entryFrame, mkF, argsToLocals, Value.category]; done) | rfl
def QW3 (Z : State) (p0 : Addr) (c0_ : Int32) (c1_ : Int32) (c2_ : Int32) (wcs : Int32) (wsf : Value) (r : Int32) (h0 : Heap) (n0 : Nat) (v : Option Value) (h : Heap) (L : List Loc) : Prop := v = some (.int r) ∧ Fr n0 L ∧ h = h0
set_option maxRecDepth 65536 in
set_option maxHeartbeats 40000000 in
theorem rmW3 (l : Launch) (Z : State) (a0 : Array Value) (hw : ∀ d ∈ tables_1, d.before a0 Z = true) (ws : List Jvm.Cond) (p0 : Addr) (c0_ : Int32) (c1_ : Int32) (c2_ : Int32) (wcs : Int32) (wsf : Value) (r : Int32) (h0 : Heap) (n0 : Nat) (Z0 : n0 ≤ h0.size) (SR : own_Str3 Z h0 n0 p0 c0_ c1_ c2_) (hc0 : own_ch c0_) (hc1 : own_ch c1_) (hc2 : own_ch c2_) (OLD : Old Z n0 h0) (hcs : ¬ (wcs = (0 : Int32))) (rsf : wsf.isRef = true) (B_wcs : Sta Z Z.heap "java/lang/String" "COMPACT_STRINGS" "Z" (.int wcs)) (B_wsf : Sta Z Z.heap "jdk/internal/util/Preconditions" "SIOOBE_FORMATTER" "Ljava/util/function/BiFunction;" wsf) (B_wad : Sta Z Z.heap "java/lang/StringUTF16" "$assertionsDisabled" "Z" (.int (1 : Int32))) (B_whi : Sta Z Z.heap "java/lang/StringUTF16" "HI_BYTE_SHIFT" "I" (.int (0 : Int32))) (B_wlo : Sta Z Z.heap "java/lang/StringUTF16" "LO_BYTE_SHIFT" "I" (.int (8 : Int32))) (hr0 : (fW3 c0_ c1_ c2_) = r) :
    MetFree l (⟨"com/example/push_to_tree/pushtotree/XmlChars", "isWhitespace", "(Ljava/lang/String;)Z"⟩ : MethodName) (head1 (Jvm.Cond.code (⟨"com/example/push_to_tree/pushtotree/XmlChars", "isWhitespace", "(Ljava/lang/String;)Z"⟩ : MethodName) prog_89_method_10_code 2 (some .boolean) :: ws) ({ frames := 5, cells := 0, slots := 0, locals := 66 } : Room)) (fun a U => a = #[(.ref p0)] ∧ Z.Warmed39 U.vm ∧ U.heap = h0) (fun _ _ _ _ _ => True) (fun _ U o U' => ∃ v L, o = .returned v ∧ QW3 Z p0 c0_ c1_ c2_ wcs wsf r h0 n0 v U'.heap L ∧ FrameEnd U o U' L ({ frames := 5, cells := 0, slots := 0, locals := 66 } : Room).cells ({ frames := 5, cells := 0, slots := 0, locals := 66 } : Room).slots) := by
  refine MetFree.of_bodySF (plainFor_of_name pn_17) hisR ?_
  intro p e s m args below meth c s₁ Bd hml0 hP hK
  obtain ⟨rfl, hZ, hh⟩ := hP
  have hx := Bd.exec
  have hby := Bd.bytes
  have hml : c.maxLocals = 2 := hml0
  have hown : s.vm.findClass "com/example/push_to_tree/pushtotree/XmlChars" = some m.cls := findClass_of_methodNamed Bd.named
  have hnm := (name_of_methodNamed Bd.named Bd.method).1
  have X0 : Stand p l e ({ frames := 5, cells := 0, slots := 0, locals := 66 } : Room) s m #[(.ref p0)] below meth c s₁ [] 0 0 := Stand.of_body Bd
  have e0 : s₁.heap = h0 := by rw [← hh, Bd.state]; rfl
  have N0 := Fr.nil n0
  refine own_start ?_
  refine own_via (fun t k => castTop (ef_rmW3 m p0) k) ?_
  show own_Go p e below _ (s₁.setTop (mkF m 0 #[oR p0, .unset] []))
  refine own_via (fun t kz => XS.iconst X0.here hx rfl (hb hby d5_0) kz) ?_
  refine own_via (fun t kz => XS.istoreN X0.here hx rfl (hb hby d5_1) rfl (l' := #[oR p0, oI (0 : Int32)]) rfl kz) ?_
  refine own_via (fun t kz => XS.iloadN X0.here hx rfl (hb hby d5_2) rfl kz) ?_
  refine own_via (fun t kz => XS.aloadN X0.here hx rfl (hb hby d5_3) rfl rfl kz) ?_
  show own_Go p e below _ (s₁.setTop (mkF m 4 #[oR p0, oI (0 : Int32)] [(.ref p0), (.int (0 : Int32))]))
  obtain ⟨cq1, kq1, qa1, qb1, qc1⟩ := isOf hZ e0 (own_strE3 SR)
  obtain ⟨_, _, ⟨T1, L1, k1, n1⟩, -, X1, ⟨Lc1, hQ1, l1, y1, z1⟩, st1⟩ := X0.virtualBack hx (y := (⟨"java/lang/String", "length", "()I"⟩ : MethodName)) (z := (⟨"java/lang/String", "length", "()I"⟩ : MethodName)) hown (mvT hZ (own_w hw 30)) (mvT hZ (own_w hw 31)) (notFace_of_selects (args := #[]) (mvT hZ (own_w hw 33))) (mvT hZ (own_w hw 33)) (mvT hZ (own_w hw 32)) (by decide) (backOf (W := 1) (rmL3 l Z a0 hw [] p0 c0_ c1_ c2_ wcs wsf h0 n0 Z0 SR OLD hcs rsf B_wcs B_wsf B_wad B_whi B_wlo) hZ (own_w hw 34) (own_w hw 6) (by decide) (by decide)) qa1 qc1 (g := (mkF m 4 #[oR p0, oI (0 : Int32)] [(.ref p0), (.int (0 : Int32))])) rfl (by rw [hml]; rfl) (Steps.refl _) (argsL := []) (rest := [(.int (0 : Int32))]) (lenOf pd_5_0 rfl) rfl (by show 2 * 0 + _ ≤ _; exact Nat.le_of_eq rfl) (hb hby d5_4) (fun _ _ => ⟨rfl, e0, (by decide : 0 + 0 ≤ _), (by decide : 0 + 0 ≤ _)⟩)
  dsimp only [Pt.U, Pt.locs, Pt.cells, Pt.slots] at X1 l1 y1 z1 st1 hQ1
  subst l1 y1 z1
  obtain ⟨rfl, Nq1, e1⟩ := hQ1
  have N2 := Fr.app N0 Nq1
  refine own_tr st1 ?_
  show own_Go p e below _ (T1.setTop (mkF m 7 #[oR p0, oI (0 : Int32)] [(.int (3 : Int32)), (.int (0 : Int32))]))
  refine own_via (fun t kz => XS.icmpNo X1.here hx rfl (hb hby d5_7) rfl (tlt (by decide : (0 : Int32) < (3 : Int32))).2.1 kz) ?_
  refine own_via (fun t kz => XS.aloadN X1.here hx rfl (hb hby d5_10) rfl rfl kz) ?_
  refine own_via (fun t kz => XS.iloadN X1.here hx rfl (hb hby d5_11) rfl kz) ?_
  show own_Go p e below _ (T1.setTop (mkF m 12 #[oR p0, oI (0 : Int32)] [(.int (0 : Int32)), (.ref p0)]))
  obtain ⟨cq3, kq3, qa3, qb3, qc3⟩ := isOf hZ e1 (own_strE3 SR)
  obtain ⟨_, _, ⟨T3, L3, k3, n3⟩, -, X3, ⟨Lc3, hQ3, l3, y3, z3⟩, st3⟩ := X1.virtualBack hx (y := (⟨"java/lang/String", "charAt", "(I)C"⟩ : MethodName)) (z := (⟨"java/lang/String", "charAt", "(I)C"⟩ : MethodName)) hown (mvT hZ (own_w hw 54)) (mvT hZ (own_w hw 55)) (notFace_of_selects (args := #[]) (mvT hZ (own_w hw 57))) (mvT hZ (own_w hw 57)) (mvT hZ (own_w hw 56)) (by decide) (backOf (W := 0) (rmA3_0 l Z a0 hw [] p0 c0_ c1_ c2_ wcs wsf h0 n0 Z0 SR hc0 hc1 hc2 OLD hcs rsf B_wcs B_wsf B_wad B_whi B_wlo) hZ (own_w hw 58) (own_w hw 6) (by decide) (by decide)) qa3 qc3 (g := (mkF m 12 #[oR p0, oI (0 : Int32)] [(.int (0 : Int32)), (.ref p0)])) rfl (by rw [hml]; rfl) (Steps.refl _) (argsL := [(.int (0 : Int32))]) (rest := []) (lenOf pd_5_1 rfl) rfl (by show 2 * 0 + _ ≤ _; exact Nat.le_of_eq rfl) (hb hby d5_12) (fun _ _ => ⟨rfl, e1, (by decide : 0 + 0 ≤ _), (by decide : 0 + 0 ≤ _)⟩)
  dsimp only [Pt.U, Pt.locs, Pt.cells, Pt.slots] at X3 l3 y3 z3 st3 hQ3
  subst l3 y3 z3
  obtain ⟨rfl, Nq3, e3⟩ := hQ3
  have N4 := Fr.app N2 Nq3
  refine own_tr st3 ?_
  show own_Go p e below _ (T3.setTop (mkF m 15 #[oR p0, oI (0 : Int32)] [(.int c0_)]))
  obtain ⟨_, _, ⟨T5, L5, k5, n5⟩, -, X5, ⟨Lc5, hQ5, l5, y5, z5⟩, st5⟩ := Jvm.LawKit.callS X3 hx (y := (⟨"com/example/push_to_tree/pushtotree/XmlChars", "isWhitespace", "(C)Z"⟩ : MethodName)) hown (mvT hZ (own_w hw 76)) (mvT hZ (own_w hw 77)) (mvT hZ (own_w hw 28)) (mvT hZ (own_w hw 78)) (by decide) (backOf (W := 0) (rm17 l Z a0 hw [] c0_ (f17 c0_) h0 n0 Z0 rfl) hZ (own_w hw 78) (own_w hw 28) (by decide) (by decide)) (g := (mkF m 15 #[oR p0, oI (0 : Int32)] [(.int c0_)])) rfl (by rw [hml]; rfl) (argsL := [(.int c0_)]) (rest := []) (lenOf pd_5_2 rfl) rfl (by show 2 * 0 + _ ≤ _; exact Nat.le_of_eq rfl) (hb hby d5_15) (fun _ _ => ⟨rfl, e3, (by decide : 0 + 0 ≤ _), (by decide : 0 + 0 ≤ _)⟩)
  dsimp only [Pt.U, Pt.locs, Pt.cells, Pt.slots] at X5 l5 y5 z5 st5 hQ5
  subst l5 y5 z5
  obtain ⟨rfl, Nq5, e5⟩ := hQ5
  have N6 := Fr.app N4 Nq5
  refine own_via st5 ?_
  show own_Go p e below _ (T5.setTop (mkF m 18 #[oR p0, oI (0 : Int32)] [(.int (f17 c0_))]))
  by_cases hc18_7 : (f17 c0_) = (0 : Int32)
  · refine own_via (fun t kz => XS.ifNo X5.here hx rfl (hb hby d5_18) rfl ((if0 _ _).trans (teq hc18_7).2) kz) ?_
    refine own_via (fun t kz => XS.iconst X5.here hx rfl (hb hby d5_21) kz) ?_
    show own_Go p e below _ (T5.setTop (mkF m 22 #[oR p0, oI (0 : Int32)] [(.int (0 : Int32))]))
    have hv : (fW3 c0_ c1_ c2_) = (0 : Int32) := by unfold fW3; rw [if_pos hc18_7]
    obtain ⟨fs, hr, hrun, hended, hW, hsame⟩ := X5.leave (v := some (.int (0 : Int32))) (fun h => by rw [Bd.returns] at h; cases h)
    refine ⟨_, _, retN X5 hx (t := .boolean) Bd.returns (by simp) (hb hby d5_22) hr, hrun, hended, _, _, rfl, ?_, ⟨_, rfl⟩, hW, hsame.mono (by decide) (by decide)⟩
    show QW3 Z p0 c0_ c1_ c2_ wcs wsf r h0 n0 _ T5.heap _
    rw [e5]
    exact ⟨by rw [← hr0, hv], N6, rfl⟩
  · refine own_via (fun t kz => XS.ifYes X5.here hx rfl (pc0 := 18) (pc' := 23) rfl (hb hby d5_18) rfl ((if0 _ _).trans (feq hc18_7).2) (by decide) (by decide) kz) ?_
    show own_Go p e below _ (T5.setTop (mkF m 23 #[oR p0, oI (0 : Int32)] []))
    refine own_via (fun t kz => XS.iinc X5.here hx rfl (hb hby d5_23) rfl (l' := #[oR p0, oI (1 : Int32)]) rfl kz) ?_
    refine own_via (fun t kz => XS.goto X5.here hx rfl (pc0 := 26) (pc' := 2) rfl (hb hby d5_26) (by decide) (by decide) kz) ?_
    refine own_via (fun t kz => XS.iloadN X5.here hx rfl (hb hby d5_2) rfl kz) ?_
    refine own_via (fun t kz => XS.aloadN X5.here hx rfl (hb hby d5_3) rfl rfl kz) ?_
    show own_Go p e below _ (T5.setTop (mkF m 4 #[oR p0, oI (1 : Int32)] [(.ref p0), (.int (1 : Int32))]))
    obtain ⟨cq9, kq9, qa9, qb9, qc9⟩ := isOf hZ e5 (own_strE3 SR)
    obtain ⟨_, _, ⟨T9, L9, k9, n9⟩, -, X9, ⟨Lc9, hQ9, l9, y9, z9⟩, st9⟩ := X5.virtualBack hx (y := (⟨"java/lang/String", "length", "()I"⟩ : MethodName)) (z := (⟨"java/lang/String", "length", "()I"⟩ : MethodName)) hown (mvT hZ (own_w hw 30)) (mvT hZ (own_w hw 31)) (notFace_of_selects (args := #[]) (mvT hZ (own_w hw 33))) (mvT hZ (own_w hw 33)) (mvT hZ (own_w hw 32)) (by decide) (backOf (W := 1) (rmL3 l Z a0 hw [] p0 c0_ c1_ c2_ wcs wsf h0 n0 Z0 SR OLD hcs rsf B_wcs B_wsf B_wad B_whi B_wlo) hZ (own_w hw 34) (own_w hw 6) (by decide) (by decide)) qa9 qc9 (g := (mkF m 4 #[oR p0, oI (1 : Int32)] [(.ref p0), (.int (1 : Int32))])) rfl (by rw [hml]; rfl) (Steps.refl _) (argsL := []) (rest := [(.int (1 : Int32))]) (lenOf pd_5_0 rfl) rfl (by show 2 * 0 + _ ≤ _; exact Nat.le_of_eq rfl) (hb hby d5_4) (fun _ _ => ⟨rfl, e5, (by decide : 0 + 0 ≤ _), (by decide : 0 + 0 ≤ _)⟩)
    dsimp only [Pt.U, Pt.locs, Pt.cells, Pt.slots] at X9 l9 y9 z9 st9 hQ9
    subst l9 y9 z9
    obtain ⟨rfl, Nq9, e9⟩ := hQ9
    have N10 := Fr.app N6 Nq9
    refine own_tr st9 ?_
    show own_Go p e below _ (T9.setTop (mkF m 7 #[oR p0, oI (1 : Int32)] [(.int (3 : Int32)), (.int (1 : Int32))]))
    refine own_via (fun t kz => XS.icmpNo X9.here hx rfl (hb hby d5_7) rfl (tlt (by decide : (1 : Int32) < (3 : Int32))).2.1 kz) ?_
    refine own_via (fun t kz => XS.aloadN X9.here hx rfl (hb hby d5_10) rfl rfl kz) ?_
    refine own_via (fun t kz => XS.iloadN X9.here hx rfl (hb hby d5_11) rfl kz) ?_
    show own_Go p e below _ (T9.setTop (mkF m 12 #[oR p0, oI (1 : Int32)] [(.int (1 : Int32)), (.ref p0)]))
    obtain ⟨cq11, kq11, qa11, qb11, qc11⟩ := isOf hZ e9 (own_strE3 SR)
    obtain ⟨_, _, ⟨T11, L11, k11, n11⟩, -, X11, ⟨Lc11, hQ11, l11, y11, z11⟩, st11⟩ := X9.virtualBack hx (y := (⟨"java/lang/String", "charAt", "(I)C"⟩ : MethodName)) (z := (⟨"java/lang/String", "charAt", "(I)C"⟩ : MethodName)) hown (mvT hZ (own_w hw 54)) (mvT hZ (own_w hw 55)) (notFace_of_selects (args := #[]) (mvT hZ (own_w hw 57))) (mvT hZ (own_w hw 57)) (mvT hZ (own_w hw 56)) (by decide) (backOf (W := 0) (rmA3_1 l Z a0 hw [] p0 c0_ c1_ c2_ wcs wsf h0 n0 Z0 SR hc0 hc1 hc2 OLD hcs rsf B_wcs B_wsf B_wad B_whi B_wlo) hZ (own_w hw 58) (own_w hw 6) (by decide) (by decide)) qa11 qc11 (g := (mkF m 12 #[oR p0, oI (1 : Int32)] [(.int (1 : Int32)), (.ref p0)])) rfl (by rw [hml]; rfl) (Steps.refl _) (argsL := [(.int (1 : Int32))]) (rest := []) (lenOf pd_5_1 rfl) rfl (by show 2 * 0 + _ ≤ _; exact Nat.le_of_eq rfl) (hb hby d5_12) (fun _ _ => ⟨rfl, e9, (by decide : 0 + 0 ≤ _), (by decide : 0 + 0 ≤ _)⟩)
    dsimp only [Pt.U, Pt.locs, Pt.cells, Pt.slots] at X11 l11 y11 z11 st11 hQ11
    subst l11 y11 z11
    obtain ⟨rfl, Nq11, e11⟩ := hQ11
    have N12 := Fr.app N10 Nq11
    refine own_tr st11 ?_
    show own_Go p e below _ (T11.setTop (mkF m 15 #[oR p0, oI (1 : Int32)] [(.int c1_)]))
    obtain ⟨_, _, ⟨T13, L13, k13, n13⟩, -, X13, ⟨Lc13, hQ13, l13, y13, z13⟩, st13⟩ := Jvm.LawKit.callS X11 hx (y := (⟨"com/example/push_to_tree/pushtotree/XmlChars", "isWhitespace", "(C)Z"⟩ : MethodName)) hown (mvT hZ (own_w hw 76)) (mvT hZ (own_w hw 77)) (mvT hZ (own_w hw 28)) (mvT hZ (own_w hw 78)) (by decide) (backOf (W := 0) (rm17 l Z a0 hw [] c1_ (f17 c1_) h0 n0 Z0 rfl) hZ (own_w hw 78) (own_w hw 28) (by decide) (by decide)) (g := (mkF m 15 #[oR p0, oI (1 : Int32)] [(.int c1_)])) rfl (by rw [hml]; rfl) (argsL := [(.int c1_)]) (rest := []) (lenOf pd_5_2 rfl) rfl (by show 2 * 0 + _ ≤ _; exact Nat.le_of_eq rfl) (hb hby d5_15) (fun _ _ => ⟨rfl, e11, (by decide : 0 + 0 ≤ _), (by decide : 0 + 0 ≤ _)⟩)
    dsimp only [Pt.U, Pt.locs, Pt.cells, Pt.slots] at X13 l13 y13 z13 st13 hQ13
    subst l13 y13 z13
    obtain ⟨rfl, Nq13, e13⟩ := hQ13
    have N14 := Fr.app N12 Nq13
    refine own_via st13 ?_
    show own_Go p e below _ (T13.setTop (mkF m 18 #[oR p0, oI (1 : Int32)] [(.int (f17 c1_))]))
    by_cases hc18_15 : (f17 c1_) = (0 : Int32)
    · refine own_via (fun t kz => XS.ifNo X13.here hx rfl (hb hby d5_18) rfl ((if0 _ _).trans (teq hc18_15).2) kz) ?_
      refine own_via (fun t kz => XS.iconst X13.here hx rfl (hb hby d5_21) kz) ?_
      show own_Go p e below _ (T13.setTop (mkF m 22 #[oR p0, oI (1 : Int32)] [(.int (0 : Int32))]))
      have hv : (fW3 c0_ c1_ c2_) = (0 : Int32) := by unfold fW3; rw [if_neg hc18_7, if_pos hc18_15]
      obtain ⟨fs, hr, hrun, hended, hW, hsame⟩ := X13.leave (v := some (.int (0 : Int32))) (fun h => by rw [Bd.returns] at h; cases h)
      refine ⟨_, _, retN X13 hx (t := .boolean) Bd.returns (by simp) (hb hby d5_22) hr, hrun, hended, _, _, rfl, ?_, ⟨_, rfl⟩, hW, hsame.mono (by decide) (by decide)⟩
      show QW3 Z p0 c0_ c1_ c2_ wcs wsf r h0 n0 _ T13.heap _
      rw [e13]
      exact ⟨by rw [← hr0, hv], N14, rfl⟩
    · refine own_via (fun t kz => XS.ifYes X13.here hx rfl (pc0 := 18) (pc' := 23) rfl (hb hby d5_18) rfl ((if0 _ _).trans (feq hc18_15).2) (by decide) (by decide) kz) ?_
      show own_Go p e below _ (T13.setTop (mkF m 23 #[oR p0, oI (1 : Int32)] []))
      refine own_via (fun t kz => XS.iinc X13.here hx rfl (hb hby d5_23) rfl (l' := #[oR p0, oI (2 : Int32)]) rfl kz) ?_
      refine own_via (fun t kz => XS.goto X13.here hx rfl (pc0 := 26) (pc' := 2) rfl (hb hby d5_26) (by decide) (by decide) kz) ?_
      refine own_via (fun t kz => XS.iloadN X13.here hx rfl (hb hby d5_2) rfl kz) ?_
      refine own_via (fun t kz => XS.aloadN X13.here hx rfl (hb hby d5_3) rfl rfl kz) ?_
      show own_Go p e below _ (T13.setTop (mkF m 4 #[oR p0, oI (2 : Int32)] [(.ref p0), (.int (2 : Int32))]))
      obtain ⟨cq17, kq17, qa17, qb17, qc17⟩ := isOf hZ e13 (own_strE3 SR)
      obtain ⟨_, _, ⟨T17, L17, k17, n17⟩, -, X17, ⟨Lc17, hQ17, l17, y17, z17⟩, st17⟩ := X13.virtualBack hx (y := (⟨"java/lang/String", "length", "()I"⟩ : MethodName)) (z := (⟨"java/lang/String", "length", "()I"⟩ : MethodName)) hown (mvT hZ (own_w hw 30)) (mvT hZ (own_w hw 31)) (notFace_of_selects (args := #[]) (mvT hZ (own_w hw 33))) (mvT hZ (own_w hw 33)) (mvT hZ (own_w hw 32)) (by decide) (backOf (W := 1) (rmL3 l Z a0 hw [] p0 c0_ c1_ c2_ wcs wsf h0 n0 Z0 SR OLD hcs rsf B_wcs B_wsf B_wad B_whi B_wlo) hZ (own_w hw 34) (own_w hw 6) (by decide) (by decide)) qa17 qc17 (g := (mkF m 4 #[oR p0, oI (2 : Int32)] [(.ref p0), (.int (2 : Int32))])) rfl (by rw [hml]; rfl) (Steps.refl _) (argsL := []) (rest := [(.int (2 : Int32))]) (lenOf pd_5_0 rfl) rfl (by show 2 * 0 + _ ≤ _; exact Nat.le_of_eq rfl) (hb hby d5_4) (fun _ _ => ⟨rfl, e13, (by decide : 0 + 0 ≤ _), (by decide : 0 + 0 ≤ _)⟩)
      dsimp only [Pt.U, Pt.locs, Pt.cells, Pt.slots] at X17 l17 y17 z17 st17 hQ17
      subst l17 y17 z17
      obtain ⟨rfl, Nq17, e17⟩ := hQ17
      have N18 := Fr.app N14 Nq17
      refine own_tr st17 ?_
      show own_Go p e below _ (T17.setTop (mkF m 7 #[oR p0, oI (2 : Int32)] [(.int (3 : Int32)), (.int (2 : Int32))]))
      refine own_via (fun t kz => XS.icmpNo X17.here hx rfl (hb hby d5_7) rfl (tlt (by decide : (2 : Int32) < (3 : Int32))).2.1 kz) ?_
      refine own_via (fun t kz => XS.aloadN X17.here hx rfl (hb hby d5_10) rfl rfl kz) ?_
      refine own_via (fun t kz => XS.iloadN X17.here hx rfl (hb hby d5_11) rfl kz) ?_
      show own_Go p e below _ (T17.setTop (mkF m 12 #[oR p0, oI (2 : Int32)] [(.int (2 : Int32)), (.ref p0)]))
      obtain ⟨cq19, kq19, qa19, qb19, qc19⟩ := isOf hZ e17 (own_strE3 SR)
      obtain ⟨_, _, ⟨T19, L19, k19, n19⟩, -, X19, ⟨Lc19, hQ19, l19, y19, z19⟩, st19⟩ := X17.virtualBack hx (y := (⟨"java/lang/String", "charAt", "(I)C"⟩ : MethodName)) (z := (⟨"java/lang/String", "charAt", "(I)C"⟩ : MethodName)) hown (mvT hZ (own_w hw 54)) (mvT hZ (own_w hw 55)) (notFace_of_selects (args := #[]) (mvT hZ (own_w hw 57))) (mvT hZ (own_w hw 57)) (mvT hZ (own_w hw 56)) (by decide) (backOf (W := 0) (rmA3_2 l Z a0 hw [] p0 c0_ c1_ c2_ wcs wsf h0 n0 Z0 SR hc0 hc1 hc2 OLD hcs rsf B_wcs B_wsf B_wad B_whi B_wlo) hZ (own_w hw 58) (own_w hw 6) (by decide) (by decide)) qa19 qc19 (g := (mkF m 12 #[oR p0, oI (2 : Int32)] [(.int (2 : Int32)), (.ref p0)])) rfl (by rw [hml]; rfl) (Steps.refl _) (argsL := [(.int (2 : Int32))]) (rest := []) (lenOf pd_5_1 rfl) rfl (by show 2 * 0 + _ ≤ _; exact Nat.le_of_eq rfl) (hb hby d5_12) (fun _ _ => ⟨rfl, e17, (by decide : 0 + 0 ≤ _), (by decide : 0 + 0 ≤ _)⟩)
      dsimp only [Pt.U, Pt.locs, Pt.cells, Pt.slots] at X19 l19 y19 z19 st19 hQ19
      subst l19 y19 z19
      obtain ⟨rfl, Nq19, e19⟩ := hQ19
      have N20 := Fr.app N18 Nq19
      refine own_tr st19 ?_
      show own_Go p e below _ (T19.setTop (mkF m 15 #[oR p0, oI (2 : Int32)] [(.int c2_)]))
      obtain ⟨_, _, ⟨T21, L21, k21, n21⟩, -, X21, ⟨Lc21, hQ21, l21, y21, z21⟩, st21⟩ := Jvm.LawKit.callS X19 hx (y := (⟨"com/example/push_to_tree/pushtotree/XmlChars", "isWhitespace", "(C)Z"⟩ : MethodName)) hown (mvT hZ (own_w hw 76)) (mvT hZ (own_w hw 77)) (mvT hZ (own_w hw 28)) (mvT hZ (own_w hw 78)) (by decide) (backOf (W := 0) (rm17 l Z a0 hw [] c2_ (f17 c2_) h0 n0 Z0 rfl) hZ (own_w hw 78) (own_w hw 28) (by decide) (by decide)) (g := (mkF m 15 #[oR p0, oI (2 : Int32)] [(.int c2_)])) rfl (by rw [hml]; rfl) (argsL := [(.int c2_)]) (rest := []) (lenOf pd_5_2 rfl) rfl (by show 2 * 0 + _ ≤ _; exact Nat.le_of_eq rfl) (hb hby d5_15) (fun _ _ => ⟨rfl, e19, (by decide : 0 + 0 ≤ _), (by decide : 0 + 0 ≤ _)⟩)
      dsimp only [Pt.U, Pt.locs, Pt.cells, Pt.slots] at X21 l21 y21 z21 st21 hQ21
      subst l21 y21 z21
      obtain ⟨rfl, Nq21, e21⟩ := hQ21
      have N22 := Fr.app N20 Nq21
      refine own_via st21 ?_
      show own_Go p e below _ (T21.setTop (mkF m 18 #[oR p0, oI (2 : Int32)] [(.int (f17 c2_))]))
      by_cases hc18_23 : (f17 c2_) = (0 : Int32)
      · refine own_via (fun t kz => XS.ifNo X21.here hx rfl (hb hby d5_18) rfl ((if0 _ _).trans (teq hc18_23).2) kz) ?_
        refine own_via (fun t kz => XS.iconst X21.here hx rfl (hb hby d5_21) kz) ?_
        show own_Go p e below _ (T21.setTop (mkF m 22 #[oR p0, oI (2 : Int32)] [(.int (0 : Int32))]))
        have hv : (fW3 c0_ c1_ c2_) = (0 : Int32) := by unfold fW3; rw [if_neg hc18_7, if_neg hc18_15, if_pos hc18_23]
        obtain ⟨fs, hr, hrun, hended, hW, hsame⟩ := X21.leave (v := some (.int (0 : Int32))) (fun h => by rw [Bd.returns] at h; cases h)
        refine ⟨_, _, retN X21 hx (t := .boolean) Bd.returns (by simp) (hb hby d5_22) hr, hrun, hended, _, _, rfl, ?_, ⟨_, rfl⟩, hW, hsame.mono (by decide) (by decide)⟩
        show QW3 Z p0 c0_ c1_ c2_ wcs wsf r h0 n0 _ T21.heap _
        rw [e21]
        exact ⟨by rw [← hr0, hv], N22, rfl⟩
      · refine own_via (fun t kz => XS.ifYes X21.here hx rfl (pc0 := 18) (pc' := 23) rfl (hb hby d5_18) rfl ((if0 _ _).trans (feq hc18_23).2) (by decide) (by decide) kz) ?_
        show own_Go p e below _ (T21.setTop (mkF m 23 #[oR p0, oI (2 : Int32)] []))
        refine own_via (fun t kz => XS.iinc X21.here hx rfl (hb hby d5_23) rfl (l' := #[oR p0, oI (3 : Int32)]) rfl kz) ?_
        refine own_via (fun t kz => XS.goto X21.here hx rfl (pc0 := 26) (pc' := 2) rfl (hb hby d5_26) (by decide) (by decide) kz) ?_
        refine own_via (fun t kz => XS.iloadN X21.here hx rfl (hb hby d5_2) rfl kz) ?_
        refine own_via (fun t kz => XS.aloadN X21.here hx rfl (hb hby d5_3) rfl rfl kz) ?_
        show own_Go p e below _ (T21.setTop (mkF m 4 #[oR p0, oI (3 : Int32)] [(.ref p0), (.int (3 : Int32))]))
        obtain ⟨cq25, kq25, qa25, qb25, qc25⟩ := isOf hZ e21 (own_strE3 SR)
        obtain ⟨_, _, ⟨T25, L25, k25, n25⟩, -, X25, ⟨Lc25, hQ25, l25, y25, z25⟩, st25⟩ := X21.virtualBack hx (y := (⟨"java/lang/String", "length", "()I"⟩ : MethodName)) (z := (⟨"java/lang/String", "length", "()I"⟩ : MethodName)) hown (mvT hZ (own_w hw 30)) (mvT hZ (own_w hw 31)) (notFace_of_selects (args := #[]) (mvT hZ (own_w hw 33))) (mvT hZ (own_w hw 33)) (mvT hZ (own_w hw 32)) (by decide) (backOf (W := 1) (rmL3 l Z a0 hw [] p0 c0_ c1_ c2_ wcs wsf h0 n0 Z0 SR OLD hcs rsf B_wcs B_wsf B_wad B_whi B_wlo) hZ (own_w hw 34) (own_w hw 6) (by decide) (by decide)) qa25 qc25 (g := (mkF m 4 #[oR p0, oI (3 : Int32)] [(.ref p0), (.int (3 : Int32))])) rfl (by rw [hml]; rfl) (Steps.refl _) (argsL := []) (rest := [(.int (3 : Int32))]) (lenOf pd_5_0 rfl) rfl (by show 2 * 0 + _ ≤ _; exact Nat.le_of_eq rfl) (hb hby d5_4) (fun _ _ => ⟨rfl, e21, (by decide : 0 + 0 ≤ _), (by decide : 0 + 0 ≤ _)⟩)
        dsimp only [Pt.U, Pt.locs, Pt.cells, Pt.slots] at X25 l25 y25 z25 st25 hQ25
        subst l25 y25 z25
        obtain ⟨rfl, Nq25, e25⟩ := hQ25
        have N26 := Fr.app N22 Nq25
        refine own_tr st25 ?_
        show own_Go p e below _ (T25.setTop (mkF m 7 #[oR p0, oI (3 : Int32)] [(.int (3 : Int32)), (.int (3 : Int32))]))
        refine own_via (fun t kz => XS.icmpYes X25.here hx rfl (pc0 := 7) (pc' := 29) rfl (hb hby d5_7) rfl (flt (by decide : ¬ ((3 : Int32) < (3 : Int32)))).2.1 (by decide) (by decide) kz) ?_
        refine own_via (fun t kz => XS.iconst X25.here hx rfl (hb hby d5_29) kz) ?_
        show own_Go p e below _ (T25.setTop (mkF m 30 #[oR p0, oI (3 : Int32)] [(.int (1 : Int32))]))
        have hv : (fW3 c0_ c1_ c2_) = (1 : Int32) := by unfold fW3; rw [if_neg hc18_7, if_neg hc18_15, if_neg hc18_23]
        obtain ⟨fs, hr, hrun, hended, hW, hsame⟩ := X25.leave (v := some (.int (1 : Int32))) (fun h => by rw [Bd.returns] at h; cases h)
        refine ⟨_, _, retN X25 hx (t := .boolean) Bd.returns (by simp) (hb hby d5_30) hr, hrun, hended, _, _, rfl, ?_, ⟨_, rfl⟩, hW, hsame.mono (by decide) (by decide)⟩
        show QW3 Z p0 c0_ c1_ c2_ wcs wsf r h0 n0 _ T25.heap _
        rw [e25]
        exact ⟨by rw [← hr0, hv], N26, rfl⟩
def f0 (p0 : Int32) (p1 : Int32) (p2 : Int32) (p3 : Int32) : Int32 := (if (p0 &&& (3 : Int32)) = (0 : Int32) then (1 : Int32) else (if (p0 &&& (3 : Int32)) = (1 : Int32) then (if (f11 (f1 p1)) = (0 : Int32) then (if (fW1 (f1 p1)) = (0 : Int32) then (1 : Int32) else (0 : Int32)) else (if (fW1 (f1 p1)) = (1 : Int32) then (1 : Int32) else (0 : Int32))) else (if (p0 &&& (3 : Int32)) = (2 : Int32) then (if (f11 (f1 p1)) = (0 : Int32) then (if (fW2 (f1 p1) (f1 p2)) = (0 : Int32) then (1 : Int32) else (0 : Int32)) else (if (f11 (f1 p2)) = (0 : Int32) then (if (fW2 (f1 p1) (f1 p2)) = (0 : Int32) then (1 : Int32) else (0 : Int32)) else (if (fW2 (f1 p1) (f1 p2)) = (1 : Int32) then (1 : Int32) else (0 : Int32)))) else (if (f11 (f1 p1)) = (0 : Int32) then (if (fW3 (f1 p1) (f1 p2) (f1 p3)) = (0 : Int32) then (1 : Int32) else (0 : Int32)) else (if (f11 (f1 p2)) = (0 : Int32) then (if (fW3 (f1 p1) (f1 p2) (f1 p3)) = (0 : Int32) then (1 : Int32) else (0 : Int32)) else (if (f11 (f1 p3)) = (0 : Int32) then (if (fW3 (f1 p1) (f1 p2) (f1 p3)) = (0 : Int32) then (1 : Int32) else (0 : Int32)) else (if (fW3 (f1 p1) (f1 p2) (f1 p3)) = (1 : Int32) then (1 : Int32) else (0 : Int32))))))))
theorem own_plain (p0 p1 p2 p3 : Int32) : f0 p0 p1 p2 p3 = 1 := by
  unfold f0 fW1 fW2 fW3
  rw [own_wc, own_wc, own_wc]
  by_cases h1 : f11 (f1 p1) = (0 : Int32)
  · simp only [if_pos h1, if_true, ite_self]
  · by_cases h2 : f11 (f1 p2) = (0 : Int32)
    · simp only [if_neg h1, if_pos h2, if_true, ite_self]
    · by_cases h3 : f11 (f1 p3) = (0 : Int32)
      · simp only [if_neg h1, if_neg h2, if_pos h3, if_true, ite_self]
      · simp only [if_neg h1, if_neg h2, if_neg h3, if_true, ite_self]
theorem pd_0_0 : parseMethodDescriptor "(I)C" = some ⟨[.int], some .char⟩ := by decide +kernel
theorem pd_0_1 : parseMethodDescriptor "([C)V" = some ⟨[(.array .char)], none⟩ := by decide +kernel
theorem pd_0_2 : parseMethodDescriptor "(Ljava/lang/String;)Z" = some ⟨[(.object "java/lang/String")], some .boolean⟩ := by decide +kernel
theorem pd_0_3 : parseMethodDescriptor "(C)Z" = some ⟨[.char], some .boolean⟩ := by decide +kernel
theorem ef_rm0 (m : MethodId) (q0 : Int32) (q1 : Int32) (q2 : Int32) (q3 : Int32) : entryFrame m #[(.int q0), (.int q1), (.int q2), (.int q3)] maxLocals = mkF m 0 #[oI q0, oI q1, oI q2, oI q3, .unset, .unset, .unset, .unset, .unset, .unset] [] := by first | (simp [entryFrame, mkF, argsToLocals, Value.category, maxLocals]; done) | rfl
def Q0 (Z : State) (p0 : Int32) (p1 : Int32) (p2 : Int32) (p3 : Int32) (wcs : Int32) (wsf : Value) (h0 : Heap) (n0 : Nat) (v : Option Value) (h : Heap) (L : List Loc) : Prop := v = some (.int (1 : Int32)) ∧ Fr n0 L
set_option maxRecDepth 65536 in
set_option maxHeartbeats 40000000 in
theorem rm0 (l : Launch) (Z : State) (a0 : Array Value) (hw : ∀ d ∈ tables_1, d.before a0 Z = true) (ws : List Jvm.Cond) (p0 : Int32) (p1 : Int32) (p2 : Int32) (p3 : Int32) (wcs : Int32) (wsf : Value) (h0 : Heap) (n0 : Nat) (Z0 : n0 ≤ h0.size) (OLD : Old Z n0 h0) (hcs : ¬ (wcs = (0 : Int32))) (rsf : wsf.isRef = true) (B_wcs : Sta Z Z.heap "java/lang/String" "COMPACT_STRINGS" "Z" (.int wcs)) (B_wsf : Sta Z Z.heap "jdk/internal/util/Preconditions" "SIOOBE_FORMATTER" "Ljava/util/function/BiFunction;" wsf) (B_wad : Sta Z Z.heap "java/lang/StringUTF16" "$assertionsDisabled" "Z" (.int (1 : Int32))) (B_whi : Sta Z Z.heap "java/lang/StringUTF16" "HI_BYTE_SHIFT" "I" (.int (0 : Int32))) (B_wlo : Sta Z Z.heap "java/lang/StringUTF16" "LO_BYTE_SHIFT" "I" (.int (8 : Int32))) :
    MetFree l x (head1 (Jvm.Cond.code x code maxLocals ret :: ws) room_1) (fun a U => a = #[(.int p0), (.int p1), (.int p2), (.int p3)] ∧ Z.Warmed39 U.vm ∧ U.heap = h0 ∧ CHv Z own_EL U.vm h0) (fun _ _ _ _ _ => True) (fun _ U o U' => ∃ v L, o = .returned v ∧ Q0 Z p0 p1 p2 p3 wcs wsf h0 n0 v U'.heap L ∧ ReturnedEndW U o U' L room_1.cells room_1.slots) := by
  refine MetFree.of_bodySF (plainFor_of_name pn_1) hisR ?_
  intro p e s m args below meth c s₁ Bd hml0 hP hK
  obtain ⟨rfl, hZ, hh, HC0⟩ := hP
  have hx := Bd.exec
  have hby := Bd.bytes
  have hml : c.maxLocals = 10 := hml0
  have hown : s.vm.findClass "com/example/push_to_tree/pushtotree/XmlCharsIsWhitespacePinLaw" = some m.cls := findClass_of_methodNamed Bd.named
  have hnm := (name_of_methodNamed Bd.named Bd.method).1
  have X0 : Stand p l e room_1 s m #[(.int p0), (.int p1), (.int p2), (.int p3)] below meth c s₁ [] 0 0 := Stand.of_body Bd
  have e0 : s₁.heap = h0 := by rw [← hh, Bd.state]; rfl
  have N0 := Fr.nil n0
  have hZ : Z.Warmed39 (s.setVm s.vm).vm := hZ
  have hown : (s.setVm s.vm).vm.findClass "com/example/push_to_tree/pushtotree/XmlCharsIsWhitespacePinLaw" = some m.cls := hown
  have X0 : Stand p l e room_1 (s.setVm s.vm) m #[(.int p0), (.int p1), (.int p2), (.int p3)] below meth c s₁ [] 0 0 := X0
  have R0 : CHr Z own_EL s.vm h0 s.vm h0 := CHr.refl HC0
  have hS0 : s.Since s.vm s.heap.size := (State.WarmedH.refl s).since _
  have hk0 : s.heap.size ≤ h0.size := by rw [hh]; exact Nat.le_refl _
  have hEL := own_hEL hw
  refine own_start ?_
  refine own_via (fun t k => castTop (ef_rm0 m p0 p1 p2 p3) k) ?_
  show own_Go p e below _ (s₁.setTop (mkF m 0 #[oI p0, oI p1, oI p2, oI p3, .unset, .unset, .unset, .unset, .unset, .unset] []))
  refine own_via (fun t kz => XS.iloadN X0.here hx rfl (hb hby at_0) rfl kz) ?_
  refine own_via (fun t kz => XS.iconst X0.here hx rfl (hb hby at_1) kz) ?_
  refine own_via (fun t kz => XS.iand X0.here hx rfl (hb hby at_2) rfl kz) ?_
  refine own_via (fun t kz => XS.istore X0.here hx rfl (hb hby at_3) rfl (l' := #[oI p0, oI p1, oI p2, oI p3, oI (p0 &&& (3 : Int32)), .unset, .unset, .unset, .unset, .unset]) rfl kz) ?_
  refine own_via (fun t kz => XS.iloadN X0.here hx rfl (hb hby at_5) rfl kz) ?_
  show own_Go p e below _ (s₁.setTop (mkF m 6 #[oI p0, oI p1, oI p2, oI p3, oI (p0 &&& (3 : Int32)), .unset, .unset, .unset, .unset, .unset] [(.int p1)]))
  obtain ⟨_, _, ⟨T1, L1, k1, n1⟩, -, X1, ⟨Lc1, hQ1, l1, y1, z1⟩, st1⟩ := Jvm.LawKit.callS X0 hx (y := (⟨"com/example/push_to_tree/pushtotree/XmlCharsIsWhitespacePinLaw", "pick", "(I)C"⟩ : MethodName)) hown (mvT hZ (own_w hw 0)) (mvT hZ (own_w hw 1)) (mvT hZ (own_w hw 2)) (mvT hZ (own_w hw 3)) (by decide) (backOf (W := 0) (rm1 l Z a0 hw [] p1 (f1 p1) h0 n0 Z0 rfl) hZ (own_w hw 3) (own_w hw 2) (by decide) (by decide)) (g := (mkF m 6 #[oI p0, oI p1, oI p2, oI p3, oI (p0 &&& (3 : Int32)), .unset, .unset, .unset, .unset, .unset] [(.int p1)])) rfl (by rw [hml]; rfl) (argsL := [(.int p1)]) (rest := []) (lenOf pd_0_0 rfl) rfl (by show 2 * 0 + _ ≤ _; exact Nat.le_of_eq rfl) (hb hby at_6) (fun _ _ => ⟨rfl, e0, (by decide : 0 + 0 ≤ _), (by decide : 0 + 0 ≤ _)⟩)
  dsimp only [Pt.U, Pt.locs, Pt.cells, Pt.slots] at X1 l1 y1 z1 st1 hQ1
  subst l1 y1 z1
  obtain ⟨rfl, Nq1, e1⟩ := hQ1
  have N2 := Fr.app N0 Nq1
  refine own_via st1 ?_
  refine own_via (fun t kz => XS.istore X1.here hx rfl (hb hby at_9) rfl (l' := #[oI p0, oI p1, oI p2, oI p3, oI (p0 &&& (3 : Int32)), oI (f1 p1), .unset, .unset, .unset, .unset]) rfl kz) ?_
  refine own_via (fun t kz => XS.iloadN X1.here hx rfl (hb hby at_11) rfl kz) ?_
  show own_Go p e below _ (T1.setTop (mkF m 12 #[oI p0, oI p1, oI p2, oI p3, oI (p0 &&& (3 : Int32)), oI (f1 p1), .unset, .unset, .unset, .unset] [(.int p2)]))
  obtain ⟨_, _, ⟨T3, L3, k3, n3⟩, -, X3, ⟨Lc3, hQ3, l3, y3, z3⟩, st3⟩ := Jvm.LawKit.callS X1 hx (y := (⟨"com/example/push_to_tree/pushtotree/XmlCharsIsWhitespacePinLaw", "pick", "(I)C"⟩ : MethodName)) hown (mvT hZ (own_w hw 0)) (mvT hZ (own_w hw 1)) (mvT hZ (own_w hw 2)) (mvT hZ (own_w hw 3)) (by decide) (backOf (W := 0) (rm1 l Z a0 hw [] p2 (f1 p2) h0 n0 Z0 rfl) hZ (own_w hw 3) (own_w hw 2) (by decide) (by decide)) (g := (mkF m 12 #[oI p0, oI p1, oI p2, oI p3, oI (p0 &&& (3 : Int32)), oI (f1 p1), .unset, .unset, .unset, .unset] [(.int p2)])) rfl (by rw [hml]; rfl) (argsL := [(.int p2)]) (rest := []) (lenOf pd_0_0 rfl) rfl (by show 2 * 0 + _ ≤ _; exact Nat.le_of_eq rfl) (hb hby at_12) (fun _ _ => ⟨rfl, e1, (by decide : 0 + 0 ≤ _), (by decide : 0 + 0 ≤ _)⟩)
  dsimp only [Pt.U, Pt.locs, Pt.cells, Pt.slots] at X3 l3 y3 z3 st3 hQ3
  subst l3 y3 z3
  obtain ⟨rfl, Nq3, e3⟩ := hQ3
  have N4 := Fr.app N2 Nq3
  refine own_via st3 ?_
  refine own_via (fun t kz => XS.istore X3.here hx rfl (hb hby at_15) rfl (l' := #[oI p0, oI p1, oI p2, oI p3, oI (p0 &&& (3 : Int32)), oI (f1 p1), oI (f1 p2), .unset, .unset, .unset]) rfl kz) ?_
  refine own_via (fun t kz => XS.iloadN X3.here hx rfl (hb hby at_17) rfl kz) ?_
  show own_Go p e below _ (T3.setTop (mkF m 18 #[oI p0, oI p1, oI p2, oI p3, oI (p0 &&& (3 : Int32)), oI (f1 p1), oI (f1 p2), .unset, .unset, .unset] [(.int p3)]))
  obtain ⟨_, _, ⟨T5, L5, k5, n5⟩, -, X5, ⟨Lc5, hQ5, l5, y5, z5⟩, st5⟩ := Jvm.LawKit.callS X3 hx (y := (⟨"com/example/push_to_tree/pushtotree/XmlCharsIsWhitespacePinLaw", "pick", "(I)C"⟩ : MethodName)) hown (mvT hZ (own_w hw 0)) (mvT hZ (own_w hw 1)) (mvT hZ (own_w hw 2)) (mvT hZ (own_w hw 3)) (by decide) (backOf (W := 0) (rm1 l Z a0 hw [] p3 (f1 p3) h0 n0 Z0 rfl) hZ (own_w hw 3) (own_w hw 2) (by decide) (by decide)) (g := (mkF m 18 #[oI p0, oI p1, oI p2, oI p3, oI (p0 &&& (3 : Int32)), oI (f1 p1), oI (f1 p2), .unset, .unset, .unset] [(.int p3)])) rfl (by rw [hml]; rfl) (argsL := [(.int p3)]) (rest := []) (lenOf pd_0_0 rfl) rfl (by show 2 * 0 + _ ≤ _; exact Nat.le_of_eq rfl) (hb hby at_18) (fun _ _ => ⟨rfl, e3, (by decide : 0 + 0 ≤ _), (by decide : 0 + 0 ≤ _)⟩)
  dsimp only [Pt.U, Pt.locs, Pt.cells, Pt.slots] at X5 l5 y5 z5 st5 hQ5
  subst l5 y5 z5
  obtain ⟨rfl, Nq5, e5⟩ := hQ5
  have N6 := Fr.app N4 Nq5
  refine own_via st5 ?_
  refine own_via (fun t kz => XS.istore X5.here hx rfl (hb hby at_21) rfl (l' := #[oI p0, oI p1, oI p2, oI p3, oI (p0 &&& (3 : Int32)), oI (f1 p1), oI (f1 p2), oI (f1 p3), .unset, .unset]) rfl kz) ?_
  refine own_via (fun t kz => XS.iload X5.here hx rfl (hb hby at_23) rfl kz) ?_
  show own_Go p e below _ (T5.setTop (mkF m 25 #[oI p0, oI p1, oI p2, oI p3, oI (p0 &&& (3 : Int32)), oI (f1 p1), oI (f1 p2), oI (f1 p3), .unset, .unset] [(.int (p0 &&& (3 : Int32)))]))
  by_cases hc25_7 : (p0 &&& (3 : Int32)) = (0 : Int32)
  · refine own_via (fun t kz => XS.ifNo X5.here hx rfl (hb hby at_25) rfl ((if0 _ _).trans (teq hc25_7).2) kz) ?_
    show own_Go p e below _ (T5.setTop (mkF m 28 #[oI p0, oI p1, oI p2, oI p3, oI (p0 &&& (3 : Int32)), oI (f1 p1), oI (f1 p2), oI (f1 p3), .unset, .unset] []))
    obtain ⟨T8, h8, X8, e8, E8, A8, D8, -, st8⟩ := newO X5 hx hZ hown (own_w hw 4) (own_w hw 5) (own_w hw 6) e5 (g := (mkF m 28 #[oI p0, oI p1, oI p2, oI p3, oI (p0 &&& (3 : Int32)), oI (f1 p1), oI (f1 p2), oI (f1 p3), .unset, .unset] [])) rfl (hb hby at_28) (by decide) (by decide)
    obtain ⟨a8, g8⟩ : ∃ z, z = h0.size := ⟨_, rfl⟩
    rw [← g8] at A8 D8 st8
    refine own_via st8 ?_
    have fr9 : n0 ≤ a8 := Nat.le_trans Z0 (Nat.le_of_eq g8.symm)
    have cv10 : CHr Z own_EL s.vm h0 s.vm h8 := CHr.ext E8 R0.1
    have R10 := R0.trans cv10
    have hk10 := Nat.le_trans hk0 cv10.2.1
    have O11 : Old Z n0 h8 := OLD.ext E8
    have Zs12 : n0 ≤ h8.size := Nat.le_trans Z0 E8.1
    have sn8 : Safe Z own_EL s.vm h8 a8 := Safe.ext E8 R0.1 (Safe.new (Nat.le_of_eq g8.symm))
    have F13 : Fld Z h8 a8 "java/lang/String" "value" "[B" .null := D8 (Or.inr (own_w hw 20)) (ty := (.array .byte)) (by decide)
    have F14 : Fld Z h8 a8 "java/lang/String" "coder" "B" (.int (0 : Int32)) := D8 (Or.inr (own_w hw 21)) (ty := .byte) (by decide)
    refine own_via (fun t kz => XS.dup X8.here hx rfl (hb hby at_31) rfl rfl kz) ?_
    refine own_via (fun t kz => XS.iconst X8.here hx rfl (hb hby at_32) kz) ?_
    show own_Go p e below _ (T8.setTop (mkF m 33 #[oI p0, oI p1, oI p2, oI p3, oI (p0 &&& (3 : Int32)), oI (f1 p1), oI (f1 p2), oI (f1 p3), .unset, .unset] [(.int (0 : Int32)), (.ref a8), (.ref a8)]))
    obtain ⟨T15, h15, k15, X15, e15, E15, A15, st15⟩ := newP X8 hx hZ (aty := .char) (own_w hw 7) e8 (g := (mkF m 33 #[oI p0, oI p1, oI p2, oI p3, oI (p0 &&& (3 : Int32)), oI (f1 p1), oI (f1 p2), oI (f1 p3), .unset, .unset] [(.int (0 : Int32)), (.ref a8), (.ref a8)])) rfl (hb hby at_33) rfl (by decide) (cap := 0) (by decide) (by decide) (by decide) (by decide)
    obtain ⟨a15, g15⟩ : ∃ z, z = h8.size := ⟨_, rfl⟩
    rw [← g15] at A15 st15
    refine own_via st15 ?_
    have lt16 : a8 < a15 := Nat.lt_of_lt_of_le A8.lt (Nat.le_of_eq g15.symm)
    have fr17 : n0 ≤ a15 := Nat.le_trans Zs12 (Nat.le_of_eq g15.symm)
    have cv18 : CHr Z own_EL s.vm h8 s.vm h15 := CHr.ext E15 R10.1
    have R18 := R10.trans cv18
    have sf18a8 : Safe Z own_EL s.vm h15 a8 := cv18.safe A8.lt sn8
    have hk18 := Nat.le_trans hk10 cv18.2.1
    have O19 : Old Z n0 h15 := O11.ext E15
    have E20 := A8.ext E15
    have F21 := F13.ext E15
    have F22 := F14.ext E15
    have Zs23 : n0 ≤ h15.size := Nat.le_trans Zs12 E15.1
    have V24 : Arv Z h15 a15 k15 .char (0 : Int32) [] (.int (0 : Int32)) := (Arv.new A15 (by decide)).pad (pad_rep [] (.int (0 : Int32)) 0)
    show own_Go p e below _ (T15.setTop (mkF m 35 #[oI p0, oI p1, oI p2, oI p3, oI (p0 &&& (3 : Int32)), oI (f1 p1), oI (f1 p2), oI (f1 p3), .unset, .unset] [(.ref a15), (.ref a8), (.ref a8)]))
    obtain ⟨_, _, ⟨T25, L25, k25, n25⟩, -, X25, hs25, hg25, ⟨Lc25, hQ25, l25, y25, z25, cv25⟩, st25⟩ := X15.specialBackS hx (y := (⟨"java/lang/String", "<init>", "([C)V"⟩ : MethodName)) rfl hown (mvT hZ (own_w hw 8)) (mvT hZ (own_w hw 9)) (mvT hZ (own_w hw 10)) (by decide) (own_backSH (s := s) (vm0 := s.vm) (W := 1) (P := fun vm => Safe Z own_EL vm h15 a8) (rmI_0 l Z a0 hw [] a8 a15 k15 h15 n0 Zs23 fr9 E20 F21 F22 V24 (Ne.symm (Nat.ne_of_lt lt16))) hZ (own_w hw 10) (own_w hw 6) (by decide) (by decide) hEL R18.1 (fun _ r => r.safe E20.lt sf18a8)) (g := (mkF m 35 #[oI p0, oI p1, oI p2, oI p3, oI (p0 &&& (3 : Int32)), oI (f1 p1), oI (f1 p2), oI (f1 p3), .unset, .unset] [(.ref a15), (.ref a8), (.ref a8)])) rfl (by rw [hml]; rfl) (Steps.refl _) (a := a8) (argsL := [(.ref a15)]) (rest := [(.ref a8)]) (lenOf pd_0_1 rfl) rfl (by show 2 * 0 + _ ≤ _; exact Nat.le_of_eq rfl) (hb hby at_35) (fun _ _ => ⟨rfl, e15, (by decide : 2 + 4 ≤ _), (by decide : 4 + 8 ≤ _)⟩)
    dsimp only [Pt.U, Pt.locs, Pt.cells, Pt.slots] at X25 l25 y25 z25 st25 hQ25 hs25 hg25 cv25
    subst l25 y25 z25
    obtain ⟨rfl, Nq25, Kc25, SR25⟩ := hQ25
    have N26 := Fr.app N6 Nq25
    refine own_tr st25 ?_
    obtain ⟨X25, hS25, hZ, hown⟩ := rebS hS0 (show _ ≤ T15.heap.size by rw [e15]; exact hk18) X25 hs25 hg25 hZ hown
    have R25 := R18.trans cv25
    have sf25a8 : Safe Z own_EL T25.vm T25.heap a8 := cv25.safe E20.lt sf18a8
    have O27 : Old Z n0 T25.heap := O19.keep Kc25 (allS fr9 all0)
    have E28 := E20.keep Kc25
    have V29 := V24.keep Kc25 (ninS (Ne.symm (Nat.ne_of_lt lt16)) nin0)
    have Zs30 : n0 ≤ T25.heap.size := Nat.le_trans Zs23 Kc25.1
    refine own_via (fun t kz => XS.astore X25.here hx rfl (hb hby at_38) rfl rfl (l' := #[oI p0, oI p1, oI p2, oI p3, oI (p0 &&& (3 : Int32)), oI (f1 p1), oI (f1 p2), oI (f1 p3), oR a8, .unset]) rfl kz) ?_
    refine own_via (fun t kz => XS.goto X25.here hx rfl (pc0 := 40) (pc' := 127) rfl (hb hby at_40) (by decide) (by decide) kz) ?_
    refine own_via (fun t kz => XS.iload X25.here hx rfl (hb hby at_127) rfl kz) ?_
    refine own_via (fun t kz => XS.iconst X25.here hx rfl (hb hby at_129) kz) ?_
    show own_Go p e below _ (T25.setTop (mkF m 130 #[oI p0, oI p1, oI p2, oI p3, oI (p0 &&& (3 : Int32)), oI (f1 p1), oI (f1 p2), oI (f1 p3), oR a8, .unset] [(.int (1 : Int32)), (.int (p0 &&& (3 : Int32)))]))
    refine own_via (fun t kz => XS.icmpYes X25.here hx rfl (pc0 := 130) (pc' := 141) rfl (hb hby at_130) rfl (tlt (by rw [hc25_7]; decide : (p0 &&& (3 : Int32)) < (1 : Int32))).1 (by decide) (by decide) kz) ?_
    refine own_via (fun t kz => XS.iload X25.here hx rfl (hb hby at_141) rfl kz) ?_
    refine own_via (fun t kz => XS.iconst X25.here hx rfl (hb hby at_143) kz) ?_
    show own_Go p e below _ (T25.setTop (mkF m 144 #[oI p0, oI p1, oI p2, oI p3, oI (p0 &&& (3 : Int32)), oI (f1 p1), oI (f1 p2), oI (f1 p3), oR a8, .unset] [(.int (2 : Int32)), (.int (p0 &&& (3 : Int32)))]))
    refine own_via (fun t kz => XS.icmpYes X25.here hx rfl (pc0 := 144) (pc' := 155) rfl (hb hby at_144) rfl (tlt (by rw [hc25_7]; decide : (p0 &&& (3 : Int32)) < (2 : Int32))).1 (by decide) (by decide) kz) ?_
    refine own_via (fun t kz => XS.iload X25.here hx rfl (hb hby at_155) rfl kz) ?_
    refine own_via (fun t kz => XS.iconst X25.here hx rfl (hb hby at_157) kz) ?_
    show own_Go p e below _ (T25.setTop (mkF m 158 #[oI p0, oI p1, oI p2, oI p3, oI (p0 &&& (3 : Int32)), oI (f1 p1), oI (f1 p2), oI (f1 p3), oR a8, .unset] [(.int (3 : Int32)), (.int (p0 &&& (3 : Int32)))]))
    refine own_via (fun t kz => XS.icmpYes X25.here hx rfl (pc0 := 158) (pc' := 169) rfl (hb hby at_158) rfl (tlt (by rw [hc25_7]; decide : (p0 &&& (3 : Int32)) < (3 : Int32))).1 (by decide) (by decide) kz) ?_
    refine own_via (fun t kz => XS.iconst X25.here hx rfl (hb hby at_169) kz) ?_
    refine own_via (fun t kz => XS.goto X25.here hx rfl (pc0 := 170) (pc' := 174) rfl (hb hby at_170) (by decide) (by decide) kz) ?_
    refine own_via (fun t kz => XS.istore X25.here hx rfl (hb hby at_174) rfl (l' := #[oI p0, oI p1, oI p2, oI p3, oI (p0 &&& (3 : Int32)), oI (f1 p1), oI (f1 p2), oI (f1 p3), oR a8, oI (1 : Int32)]) rfl kz) ?_
    refine own_via (fun t kz => XS.aload X25.here hx rfl (hb hby at_176) rfl rfl kz) ?_
    show own_Go p e below _ (T25.setTop (mkF m 178 #[oI p0, oI p1, oI p2, oI p3, oI (p0 &&& (3 : Int32)), oI (f1 p1), oI (f1 p2), oI (f1 p3), oR a8, oI (1 : Int32)] [(.ref a8)]))
    obtain ⟨_, _, ⟨T31, L31, k31, n31⟩, -, X31, ⟨Lc31, hQ31, l31, y31, z31⟩, st31⟩ := Jvm.LawKit.callS X25 hx (y := (⟨"com/example/push_to_tree/pushtotree/XmlChars", "isWhitespace", "(Ljava/lang/String;)Z"⟩ : MethodName)) hown (mvT hZ (own_w hw 26)) (mvT hZ (own_w hw 27)) (mvT hZ (own_w hw 28)) (mvT hZ (own_w hw 29)) (by decide) (backOf (W := 0) (rmW0 l Z a0 hw [] a8 wcs wsf (1 : Int32) T25.heap n0 Zs30 SR25 O27 hcs rsf B_wcs B_wsf B_wad B_whi B_wlo (by unfold fW0; rfl)) hZ (own_w hw 29) (own_w hw 28) (by decide) (by decide)) (g := (mkF m 178 #[oI p0, oI p1, oI p2, oI p3, oI (p0 &&& (3 : Int32)), oI (f1 p1), oI (f1 p2), oI (f1 p3), oR a8, oI (1 : Int32)] [(.ref a8)])) rfl (by rw [hml]; rfl) (argsL := [(.ref a8)]) (rest := []) (lenOf pd_0_2 rfl) rfl (by show 2 * 0 + _ ≤ _; exact Nat.le_of_eq rfl) (hb hby at_178) (fun _ _ => ⟨rfl, rfl, (by decide : 6 + 0 ≤ _), (by decide : 12 + 0 ≤ _)⟩)
    dsimp only [Pt.U, Pt.locs, Pt.cells, Pt.slots] at X31 l31 y31 z31 st31 hQ31
    subst l31 y31 z31
    obtain ⟨rfl, Nq31, e31⟩ := hQ31
    have N32 := Fr.app N26 Nq31
    refine own_via st31 ?_
    refine own_via (fun t kz => XS.iload X31.here hx rfl (hb hby at_181) rfl kz) ?_
    show own_Go p e below _ (T31.setTop (mkF m 183 #[oI p0, oI p1, oI p2, oI p3, oI (p0 &&& (3 : Int32)), oI (f1 p1), oI (f1 p2), oI (f1 p3), oR a8, oI (1 : Int32)] [(.int (1 : Int32)), (.int (1 : Int32))]))
    refine own_via (fun t kz => XS.icmpNo X31.here hx rfl (hb hby at_183) rfl (teq (by decide : (1 : Int32) = (1 : Int32))).2 kz) ?_
    refine own_via (fun t kz => XS.iconst X31.here hx rfl (hb hby at_186) kz) ?_
    refine own_via (fun t kz => XS.goto X31.here hx rfl (pc0 := 187) (pc' := 191) rfl (hb hby at_187) (by decide) (by decide) kz) ?_
    show own_Go p e below _ (T31.setTop (mkF m 191 #[oI p0, oI p1, oI p2, oI p3, oI (p0 &&& (3 : Int32)), oI (f1 p1), oI (f1 p2), oI (f1 p3), oR a8, oI (1 : Int32)] [(.int (1 : Int32))]))
    have hv : f0 p0 p1 p2 p3 = (1 : Int32) := by unfold f0; rw [if_pos hc25_7]
    obtain ⟨fs, hr, hrun, hended, hEnd⟩ := Jvm.Stand.leaveW (s := s) (vm₁ := T25.vm) X31 hS25 (show _ ≤ T31.heap.size by rw [e31]; exact (Nat.le_refl T25.heap.size)) (v := some (.int (1 : Int32))) (fun h => by rw [Bd.returns] at h; cases h)
    refine ⟨_, _, retN X31 hx (t := .boolean) Bd.returns (by simp) (hb hby at_191) hr, hrun, hended, _, _, rfl, ?_, ⟨hEnd.1, hEnd.2.1, hEnd.2.2.1, hEnd.2.2.2.mono (by decide) (by decide)⟩⟩
    show Q0 Z p0 p1 p2 p3 wcs wsf h0 n0 _ T31.heap _
    rw [e31]
    exact ⟨rfl, N32⟩
  · refine own_via (fun t kz => XS.ifYes X5.here hx rfl (pc0 := 25) (pc' := 43) rfl (hb hby at_25) rfl ((if0 _ _).trans (feq hc25_7).2) (by decide) (by decide) kz) ?_
    refine own_via (fun t kz => XS.iload X5.here hx rfl (hb hby at_43) rfl kz) ?_
    refine own_via (fun t kz => XS.iconst X5.here hx rfl (hb hby at_45) kz) ?_
    show own_Go p e below _ (T5.setTop (mkF m 46 #[oI p0, oI p1, oI p2, oI p3, oI (p0 &&& (3 : Int32)), oI (f1 p1), oI (f1 p2), oI (f1 p3), .unset, .unset] [(.int (1 : Int32)), (.int (p0 &&& (3 : Int32)))]))
    by_cases hc46_34 : (p0 &&& (3 : Int32)) = (1 : Int32)
    · refine own_via (fun t kz => XS.icmpNo X5.here hx rfl (hb hby at_46) rfl (teq hc46_34).2 kz) ?_
      show own_Go p e below _ (T5.setTop (mkF m 49 #[oI p0, oI p1, oI p2, oI p3, oI (p0 &&& (3 : Int32)), oI (f1 p1), oI (f1 p2), oI (f1 p3), .unset, .unset] []))
      obtain ⟨T35, h35, X35, e35, E35, A35, D35, -, st35⟩ := newO X5 hx hZ hown (own_w hw 4) (own_w hw 5) (own_w hw 6) e5 (g := (mkF m 49 #[oI p0, oI p1, oI p2, oI p3, oI (p0 &&& (3 : Int32)), oI (f1 p1), oI (f1 p2), oI (f1 p3), .unset, .unset] [])) rfl (hb hby at_49) (by decide) (by decide)
      obtain ⟨a35, g35⟩ : ∃ z, z = h0.size := ⟨_, rfl⟩
      rw [← g35] at A35 D35 st35
      refine own_via st35 ?_
      have fr36 : n0 ≤ a35 := Nat.le_trans Z0 (Nat.le_of_eq g35.symm)
      have cv37 : CHr Z own_EL s.vm h0 s.vm h35 := CHr.ext E35 R0.1
      have R37 := R0.trans cv37
      have hk37 := Nat.le_trans hk0 cv37.2.1
      have O38 : Old Z n0 h35 := OLD.ext E35
      have Zs39 : n0 ≤ h35.size := Nat.le_trans Z0 E35.1
      have sn35 : Safe Z own_EL s.vm h35 a35 := Safe.ext E35 R0.1 (Safe.new (Nat.le_of_eq g35.symm))
      have F40 : Fld Z h35 a35 "java/lang/String" "value" "[B" .null := D35 (Or.inr (own_w hw 20)) (ty := (.array .byte)) (by decide)
      have F41 : Fld Z h35 a35 "java/lang/String" "coder" "B" (.int (0 : Int32)) := D35 (Or.inr (own_w hw 21)) (ty := .byte) (by decide)
      refine own_via (fun t kz => XS.dup X35.here hx rfl (hb hby at_52) rfl rfl kz) ?_
      refine own_via (fun t kz => XS.iconst X35.here hx rfl (hb hby at_53) kz) ?_
      show own_Go p e below _ (T35.setTop (mkF m 54 #[oI p0, oI p1, oI p2, oI p3, oI (p0 &&& (3 : Int32)), oI (f1 p1), oI (f1 p2), oI (f1 p3), .unset, .unset] [(.int (1 : Int32)), (.ref a35), (.ref a35)]))
      obtain ⟨T42, h42, k42, X42, e42, E42, A42, st42⟩ := newP X35 hx hZ (aty := .char) (own_w hw 7) e35 (g := (mkF m 54 #[oI p0, oI p1, oI p2, oI p3, oI (p0 &&& (3 : Int32)), oI (f1 p1), oI (f1 p2), oI (f1 p3), .unset, .unset] [(.int (1 : Int32)), (.ref a35), (.ref a35)])) rfl (hb hby at_54) rfl (by decide) (cap := 1) (by decide) (by decide) (by decide) (by decide)
      obtain ⟨a42, g42⟩ : ∃ z, z = h35.size := ⟨_, rfl⟩
      rw [← g42] at A42 st42
      refine own_via st42 ?_
      have lt43 : a35 < a42 := Nat.lt_of_lt_of_le A35.lt (Nat.le_of_eq g42.symm)
      have fr44 : n0 ≤ a42 := Nat.le_trans Zs39 (Nat.le_of_eq g42.symm)
      have cv45 : CHr Z own_EL s.vm h35 s.vm h42 := CHr.ext E42 R37.1
      have R45 := R37.trans cv45
      have sf45a35 : Safe Z own_EL s.vm h42 a35 := cv45.safe A35.lt sn35
      have hk45 := Nat.le_trans hk37 cv45.2.1
      have O46 : Old Z n0 h42 := O38.ext E42
      have E47 := A35.ext E42
      have F48 := F40.ext E42
      have F49 := F41.ext E42
      have Zs50 : n0 ≤ h42.size := Nat.le_trans Zs39 E42.1
      have V51 : Arv Z h42 a42 k42 .char (1 : Int32) [(.int (0 : Int32))] (.int (0 : Int32)) := (Arv.new A42 (by decide)).pad (pad_rep [] (.int (0 : Int32)) 1)
      refine own_via (fun t kz => XS.dup X42.here hx rfl (hb hby at_56) rfl rfl kz) ?_
      refine own_via (fun t kz => XS.iconst X42.here hx rfl (hb hby at_57) kz) ?_
      refine own_via (fun t kz => XS.iload X42.here hx rfl (hb hby at_58) rfl kz) ?_
      show own_Go p e below _ (T42.setTop (mkF m 60 #[oI p0, oI p1, oI p2, oI p3, oI (p0 &&& (3 : Int32)), oI (f1 p1), oI (f1 p2), oI (f1 p3), .unset, .unset] [(.int (f1 p1)), (.int (0 : Int32)), (.ref a42), (.ref a42), (.ref a35), (.ref a35)]))
      obtain ⟨cl52, Ar52, kc52, Sz52, Nn52, Hs52, Gs52⟩ := id V51
      obtain ⟨T52, h52, X52, e52, W52, st52⟩ := stC X42 hx hZ e42 Ar52 (j := (0 : Int32)) (inb_of Sz52 ⟨by decide, by decide⟩) (g := (mkF m 60 #[oI p0, oI p1, oI p2, oI p3, oI (p0 &&& (3 : Int32)), oI (f1 p1), oI (f1 p2), oI (f1 p3), .unset, .unset] [(.int (f1 p1)), (.int (0 : Int32)), (.ref a42), (.ref a42), (.ref a35), (.ref a35)])) rfl rfl (hb hby at_60)
      refine own_via st52 ?_
      have na52 : nar .char (f1 p1) = (f1 p1) := own_narc (own_pick p1)
      rw [na52] at W52
      have hk53 := Nat.le_trans hk45 (Keep.of_wr W52).1
      have O54 : Old Z n0 h52 := O46.wr W52 fr44
      have E55 := E47.wr W52
      have F56 := F48.other W52 (Or.inl (Nat.ne_of_lt lt43))
      have F57 := F49.other W52 (Or.inl (Nat.ne_of_lt lt43))
      have Zs58 : n0 ≤ h52.size := Nat.le_trans Zs50 (Keep.of_wr W52).1
      have N59 := Fr.snoc X52 N6 fr44
      have V60 : Arv Z h52 a42 k42 .char (1 : Int32) [(.int (f1 p1))] (.int (0 : Int32)) := Arv.set Ar52 kc52 Sz52 Nn52 Hs52 Gs52 (by rw [← na52]; exact fits_nar_char _) W52 0 (by first | decide | (show 0 < 1; decide)) (by first | decide | (show 0 < 1; decide))
      show own_Go p e below _ (T52.setTop (mkF m 61 #[oI p0, oI p1, oI p2, oI p3, oI (p0 &&& (3 : Int32)), oI (f1 p1), oI (f1 p2), oI (f1 p3), .unset, .unset] [(.ref a42), (.ref a35), (.ref a35)]))
      obtain ⟨_, _, ⟨T61, L61, k61, n61⟩, -, X61, ⟨Lc61, hQ61, l61, y61, z61⟩, st61⟩ := X52.specialBack hx (y := (⟨"java/lang/String", "<init>", "([C)V"⟩ : MethodName)) rfl hown (mvT hZ (own_w hw 8)) (mvT hZ (own_w hw 9)) (mvT hZ (own_w hw 10)) (by decide) (backOf (W := 1) (rmI_1 l Z a0 hw [] a35 a42 k42 (f1 p1) wcs wsf h52 n0 Zs58 fr36 E55 F56 F57 V60 (Ne.symm (Nat.ne_of_lt lt43)) (own_pick p1) O54 hcs rsf B_wcs B_wsf B_wad B_whi B_wlo) hZ (own_w hw 10) (own_w hw 6) (by decide) (by decide)) (g := (mkF m 61 #[oI p0, oI p1, oI p2, oI p3, oI (p0 &&& (3 : Int32)), oI (f1 p1), oI (f1 p2), oI (f1 p3), .unset, .unset] [(.ref a42), (.ref a35), (.ref a35)])) rfl (by rw [hml]; rfl) (Steps.refl _) (a := a35) (argsL := [(.ref a42)]) (rest := [(.ref a35)]) (lenOf pd_0_1 rfl) rfl (by show 2 * 0 + _ ≤ _; exact Nat.le_of_eq rfl) (hb hby at_61) (fun _ _ => ⟨rfl, e52, (by decide : 2 + 2 ≤ _), (by decide : 5 + 3 ≤ _)⟩)
      dsimp only [Pt.U, Pt.locs, Pt.cells, Pt.slots] at X61 l61 y61 z61 st61 hQ61
      subst l61 y61 z61
      obtain ⟨rfl, Nq61, Kc61, SR61⟩ := hQ61
      have N62 := Fr.app N59 Nq61
      refine own_tr st61 ?_
      have hk63 := Nat.le_trans hk53 Kc61.1
      have O64 : Old Z n0 T61.heap := O54.keep Kc61 (allS fr36 all0)
      have E65 := E55.keep Kc61
      have V66 := V60.keep Kc61 (ninS (Ne.symm (Nat.ne_of_lt lt43)) nin0)
      have Zs67 : n0 ≤ T61.heap.size := Nat.le_trans Zs58 Kc61.1
      refine own_via (fun t kz => XS.astore X61.here hx rfl (hb hby at_64) rfl rfl (l' := #[oI p0, oI p1, oI p2, oI p3, oI (p0 &&& (3 : Int32)), oI (f1 p1), oI (f1 p2), oI (f1 p3), oR a35, .unset]) rfl kz) ?_
      refine own_via (fun t kz => XS.goto X61.here hx rfl (pc0 := 66) (pc' := 127) rfl (hb hby at_66) (by decide) (by decide) kz) ?_
      refine own_via (fun t kz => XS.iload X61.here hx rfl (hb hby at_127) rfl kz) ?_
      refine own_via (fun t kz => XS.iconst X61.here hx rfl (hb hby at_129) kz) ?_
      show own_Go p e below _ (T61.setTop (mkF m 130 #[oI p0, oI p1, oI p2, oI p3, oI (p0 &&& (3 : Int32)), oI (f1 p1), oI (f1 p2), oI (f1 p3), oR a35, .unset] [(.int (1 : Int32)), (.int (p0 &&& (3 : Int32)))]))
      refine own_via (fun t kz => XS.icmpNo X61.here hx rfl (hb hby at_130) rfl (flt (by rw [hc46_34]; decide : ¬ ((p0 &&& (3 : Int32)) < (1 : Int32)))).1 kz) ?_
      refine own_via (fun t kz => XS.iload X61.here hx rfl (hb hby at_133) rfl kz) ?_
      show own_Go p e below _ (T61.setTop (mkF m 135 #[oI p0, oI p1, oI p2, oI p3, oI (p0 &&& (3 : Int32)), oI (f1 p1), oI (f1 p2), oI (f1 p3), oR a35, .unset] [(.int (f1 p1))]))
      obtain ⟨_, _, ⟨T68, L68, k68, n68⟩, -, X68, ⟨Lc68, hQ68, l68, y68, z68⟩, st68⟩ := Jvm.LawKit.callS X61 hx (y := (⟨"com/example/push_to_tree/pushtotree/XmlCharsIsWhitespacePinLaw", "ws", "(C)Z"⟩ : MethodName)) hown (mvT hZ (own_w hw 51)) (mvT hZ (own_w hw 52)) (mvT hZ (own_w hw 2)) (mvT hZ (own_w hw 53)) (by decide) (backOf (W := 0) (rm11 l Z a0 hw [] (f1 p1) (f11 (f1 p1)) T61.heap n0 Zs67 rfl) hZ (own_w hw 53) (own_w hw 2) (by decide) (by decide)) (g := (mkF m 135 #[oI p0, oI p1, oI p2, oI p3, oI (p0 &&& (3 : Int32)), oI (f1 p1), oI (f1 p2), oI (f1 p3), oR a35, .unset] [(.int (f1 p1))])) rfl (by rw [hml]; rfl) (argsL := [(.int (f1 p1))]) (rest := []) (lenOf pd_0_3 rfl) rfl (by show 2 * 0 + _ ≤ _; exact Nat.le_of_eq rfl) (hb hby at_135) (fun _ _ => ⟨rfl, rfl, (by decide : 4 + 0 ≤ _), (by decide : 8 + 0 ≤ _)⟩)
      dsimp only [Pt.U, Pt.locs, Pt.cells, Pt.slots] at X68 l68 y68 z68 st68 hQ68
      subst l68 y68 z68
      obtain ⟨rfl, Nq68, e68⟩ := hQ68
      have N69 := Fr.app N62 Nq68
      refine own_via st68 ?_
      show own_Go p e below _ (T68.setTop (mkF m 138 #[oI p0, oI p1, oI p2, oI p3, oI (p0 &&& (3 : Int32)), oI (f1 p1), oI (f1 p2), oI (f1 p3), oR a35, .unset] [(.int (f11 (f1 p1)))]))
      by_cases hc138_70 : (f11 (f1 p1)) = (0 : Int32)
      · refine own_via (fun t kz => XS.ifYes X68.here hx rfl (pc0 := 138) (pc' := 173) rfl (hb hby at_138) rfl ((if0 _ _).trans (teq hc138_70).1) (by decide) (by decide) kz) ?_
        refine own_via (fun t kz => XS.iconst X68.here hx rfl (hb hby at_173) kz) ?_
        refine own_via (fun t kz => XS.istore X68.here hx rfl (hb hby at_174) rfl (l' := #[oI p0, oI p1, oI p2, oI p3, oI (p0 &&& (3 : Int32)), oI (f1 p1), oI (f1 p2), oI (f1 p3), oR a35, oI (0 : Int32)]) rfl kz) ?_
        refine own_via (fun t kz => XS.aload X68.here hx rfl (hb hby at_176) rfl rfl kz) ?_
        show own_Go p e below _ (T68.setTop (mkF m 178 #[oI p0, oI p1, oI p2, oI p3, oI (p0 &&& (3 : Int32)), oI (f1 p1), oI (f1 p2), oI (f1 p3), oR a35, oI (0 : Int32)] [(.ref a35)]))
        obtain ⟨_, _, ⟨T71, L71, k71, n71⟩, -, X71, ⟨Lc71, hQ71, l71, y71, z71⟩, st71⟩ := Jvm.LawKit.callS X68 hx (y := (⟨"com/example/push_to_tree/pushtotree/XmlChars", "isWhitespace", "(Ljava/lang/String;)Z"⟩ : MethodName)) hown (mvT hZ (own_w hw 26)) (mvT hZ (own_w hw 27)) (mvT hZ (own_w hw 28)) (mvT hZ (own_w hw 29)) (by decide) (backOf (W := 0) (rmW1 l Z a0 hw [] a35 (f1 p1) wcs wsf (fW1 (f1 p1)) T61.heap n0 Zs67 SR61 (own_pick p1) O64 hcs rsf B_wcs B_wsf B_wad B_whi B_wlo rfl) hZ (own_w hw 29) (own_w hw 28) (by decide) (by decide)) (g := (mkF m 178 #[oI p0, oI p1, oI p2, oI p3, oI (p0 &&& (3 : Int32)), oI (f1 p1), oI (f1 p2), oI (f1 p3), oR a35, oI (0 : Int32)] [(.ref a35)])) rfl (by rw [hml]; rfl) (argsL := [(.ref a35)]) (rest := []) (lenOf pd_0_2 rfl) rfl (by show 2 * 0 + _ ≤ _; exact Nat.le_of_eq rfl) (hb hby at_178) (fun _ _ => ⟨rfl, e68, (by decide : 4 + 0 ≤ _), (by decide : 8 + 0 ≤ _)⟩)
        dsimp only [Pt.U, Pt.locs, Pt.cells, Pt.slots] at X71 l71 y71 z71 st71 hQ71
        subst l71 y71 z71
        obtain ⟨rfl, Nq71, e71⟩ := hQ71
        have N72 := Fr.app N69 Nq71
        refine own_via st71 ?_
        refine own_via (fun t kz => XS.iload X71.here hx rfl (hb hby at_181) rfl kz) ?_
        show own_Go p e below _ (T71.setTop (mkF m 183 #[oI p0, oI p1, oI p2, oI p3, oI (p0 &&& (3 : Int32)), oI (f1 p1), oI (f1 p2), oI (f1 p3), oR a35, oI (0 : Int32)] [(.int (0 : Int32)), (.int (fW1 (f1 p1)))]))
        by_cases hc183_73 : (fW1 (f1 p1)) = (0 : Int32)
        · refine own_via (fun t kz => XS.icmpNo X71.here hx rfl (hb hby at_183) rfl (teq hc183_73).2 kz) ?_
          refine own_via (fun t kz => XS.iconst X71.here hx rfl (hb hby at_186) kz) ?_
          refine own_via (fun t kz => XS.goto X71.here hx rfl (pc0 := 187) (pc' := 191) rfl (hb hby at_187) (by decide) (by decide) kz) ?_
          show own_Go p e below _ (T71.setTop (mkF m 191 #[oI p0, oI p1, oI p2, oI p3, oI (p0 &&& (3 : Int32)), oI (f1 p1), oI (f1 p2), oI (f1 p3), oR a35, oI (0 : Int32)] [(.int (1 : Int32))]))
          have hv : f0 p0 p1 p2 p3 = (1 : Int32) := by unfold f0; rw [if_neg hc25_7, if_pos hc46_34, if_pos hc138_70, if_pos hc183_73]
          obtain ⟨fs, hr, hrun, hended, hEnd⟩ := Jvm.Stand.leaveW (s := s) (vm₁ := s.vm) X71 hS0 (show _ ≤ T71.heap.size by rw [e71]; exact hk63) (v := some (.int (1 : Int32))) (fun h => by rw [Bd.returns] at h; cases h)
          refine ⟨_, _, retN X71 hx (t := .boolean) Bd.returns (by simp) (hb hby at_191) hr, hrun, hended, _, _, rfl, ?_, ⟨hEnd.1, hEnd.2.1, hEnd.2.2.1, hEnd.2.2.2.mono (by decide) (by decide)⟩⟩
          show Q0 Z p0 p1 p2 p3 wcs wsf h0 n0 _ T71.heap _
          rw [e71]
          exact ⟨rfl, N72⟩
        · refine own_via (fun t kz => XS.icmpYes X71.here hx rfl (pc0 := 183) (pc' := 190) rfl (hb hby at_183) rfl (feq hc183_73).2 (by decide) (by decide) kz) ?_
          refine own_via (fun t kz => XS.iconst X71.here hx rfl (hb hby at_190) kz) ?_
          show own_Go p e below _ (T71.setTop (mkF m 191 #[oI p0, oI p1, oI p2, oI p3, oI (p0 &&& (3 : Int32)), oI (f1 p1), oI (f1 p2), oI (f1 p3), oR a35, oI (0 : Int32)] [(.int (0 : Int32))]))
          have hv : f0 p0 p1 p2 p3 = (0 : Int32) := by unfold f0; rw [if_neg hc25_7, if_pos hc46_34, if_pos hc138_70, if_neg hc183_73]
          exact absurd ((own_plain p0 p1 p2 p3 ).symm.trans hv) (by decide)
      · refine own_via (fun t kz => XS.ifNo X68.here hx rfl (hb hby at_138) rfl ((if0 _ _).trans (feq hc138_70).1) kz) ?_
        refine own_via (fun t kz => XS.iload X68.here hx rfl (hb hby at_141) rfl kz) ?_
        refine own_via (fun t kz => XS.iconst X68.here hx rfl (hb hby at_143) kz) ?_
        show own_Go p e below _ (T68.setTop (mkF m 144 #[oI p0, oI p1, oI p2, oI p3, oI (p0 &&& (3 : Int32)), oI (f1 p1), oI (f1 p2), oI (f1 p3), oR a35, .unset] [(.int (2 : Int32)), (.int (p0 &&& (3 : Int32)))]))
        refine own_via (fun t kz => XS.icmpYes X68.here hx rfl (pc0 := 144) (pc' := 155) rfl (hb hby at_144) rfl (tlt (by rw [hc46_34]; decide : (p0 &&& (3 : Int32)) < (2 : Int32))).1 (by decide) (by decide) kz) ?_
        refine own_via (fun t kz => XS.iload X68.here hx rfl (hb hby at_155) rfl kz) ?_
        refine own_via (fun t kz => XS.iconst X68.here hx rfl (hb hby at_157) kz) ?_
        show own_Go p e below _ (T68.setTop (mkF m 158 #[oI p0, oI p1, oI p2, oI p3, oI (p0 &&& (3 : Int32)), oI (f1 p1), oI (f1 p2), oI (f1 p3), oR a35, .unset] [(.int (3 : Int32)), (.int (p0 &&& (3 : Int32)))]))
        refine own_via (fun t kz => XS.icmpYes X68.here hx rfl (pc0 := 158) (pc' := 169) rfl (hb hby at_158) rfl (tlt (by rw [hc46_34]; decide : (p0 &&& (3 : Int32)) < (3 : Int32))).1 (by decide) (by decide) kz) ?_
        refine own_via (fun t kz => XS.iconst X68.here hx rfl (hb hby at_169) kz) ?_
        refine own_via (fun t kz => XS.goto X68.here hx rfl (pc0 := 170) (pc' := 174) rfl (hb hby at_170) (by decide) (by decide) kz) ?_
        refine own_via (fun t kz => XS.istore X68.here hx rfl (hb hby at_174) rfl (l' := #[oI p0, oI p1, oI p2, oI p3, oI (p0 &&& (3 : Int32)), oI (f1 p1), oI (f1 p2), oI (f1 p3), oR a35, oI (1 : Int32)]) rfl kz) ?_
        refine own_via (fun t kz => XS.aload X68.here hx rfl (hb hby at_176) rfl rfl kz) ?_
        show own_Go p e below _ (T68.setTop (mkF m 178 #[oI p0, oI p1, oI p2, oI p3, oI (p0 &&& (3 : Int32)), oI (f1 p1), oI (f1 p2), oI (f1 p3), oR a35, oI (1 : Int32)] [(.ref a35)]))
        obtain ⟨_, _, ⟨T75, L75, k75, n75⟩, -, X75, ⟨Lc75, hQ75, l75, y75, z75⟩, st75⟩ := Jvm.LawKit.callS X68 hx (y := (⟨"com/example/push_to_tree/pushtotree/XmlChars", "isWhitespace", "(Ljava/lang/String;)Z"⟩ : MethodName)) hown (mvT hZ (own_w hw 26)) (mvT hZ (own_w hw 27)) (mvT hZ (own_w hw 28)) (mvT hZ (own_w hw 29)) (by decide) (backOf (W := 0) (rmW1 l Z a0 hw [] a35 (f1 p1) wcs wsf (fW1 (f1 p1)) T61.heap n0 Zs67 SR61 (own_pick p1) O64 hcs rsf B_wcs B_wsf B_wad B_whi B_wlo rfl) hZ (own_w hw 29) (own_w hw 28) (by decide) (by decide)) (g := (mkF m 178 #[oI p0, oI p1, oI p2, oI p3, oI (p0 &&& (3 : Int32)), oI (f1 p1), oI (f1 p2), oI (f1 p3), oR a35, oI (1 : Int32)] [(.ref a35)])) rfl (by rw [hml]; rfl) (argsL := [(.ref a35)]) (rest := []) (lenOf pd_0_2 rfl) rfl (by show 2 * 0 + _ ≤ _; exact Nat.le_of_eq rfl) (hb hby at_178) (fun _ _ => ⟨rfl, e68, (by decide : 4 + 0 ≤ _), (by decide : 8 + 0 ≤ _)⟩)
        dsimp only [Pt.U, Pt.locs, Pt.cells, Pt.slots] at X75 l75 y75 z75 st75 hQ75
        subst l75 y75 z75
        obtain ⟨rfl, Nq75, e75⟩ := hQ75
        have N76 := Fr.app N69 Nq75
        refine own_via st75 ?_
        refine own_via (fun t kz => XS.iload X75.here hx rfl (hb hby at_181) rfl kz) ?_
        show own_Go p e below _ (T75.setTop (mkF m 183 #[oI p0, oI p1, oI p2, oI p3, oI (p0 &&& (3 : Int32)), oI (f1 p1), oI (f1 p2), oI (f1 p3), oR a35, oI (1 : Int32)] [(.int (1 : Int32)), (.int (fW1 (f1 p1)))]))
        by_cases hc183_77 : (fW1 (f1 p1)) = (1 : Int32)
        · refine own_via (fun t kz => XS.icmpNo X75.here hx rfl (hb hby at_183) rfl (teq hc183_77).2 kz) ?_
          refine own_via (fun t kz => XS.iconst X75.here hx rfl (hb hby at_186) kz) ?_
          refine own_via (fun t kz => XS.goto X75.here hx rfl (pc0 := 187) (pc' := 191) rfl (hb hby at_187) (by decide) (by decide) kz) ?_
          show own_Go p e below _ (T75.setTop (mkF m 191 #[oI p0, oI p1, oI p2, oI p3, oI (p0 &&& (3 : Int32)), oI (f1 p1), oI (f1 p2), oI (f1 p3), oR a35, oI (1 : Int32)] [(.int (1 : Int32))]))
          have hv : f0 p0 p1 p2 p3 = (1 : Int32) := by unfold f0; rw [if_neg hc25_7, if_pos hc46_34, if_neg hc138_70, if_pos hc183_77]
          obtain ⟨fs, hr, hrun, hended, hEnd⟩ := Jvm.Stand.leaveW (s := s) (vm₁ := s.vm) X75 hS0 (show _ ≤ T75.heap.size by rw [e75]; exact hk63) (v := some (.int (1 : Int32))) (fun h => by rw [Bd.returns] at h; cases h)
          refine ⟨_, _, retN X75 hx (t := .boolean) Bd.returns (by simp) (hb hby at_191) hr, hrun, hended, _, _, rfl, ?_, ⟨hEnd.1, hEnd.2.1, hEnd.2.2.1, hEnd.2.2.2.mono (by decide) (by decide)⟩⟩
          show Q0 Z p0 p1 p2 p3 wcs wsf h0 n0 _ T75.heap _
          rw [e75]
          exact ⟨rfl, N76⟩
        · refine own_via (fun t kz => XS.icmpYes X75.here hx rfl (pc0 := 183) (pc' := 190) rfl (hb hby at_183) rfl (feq hc183_77).2 (by decide) (by decide) kz) ?_
          refine own_via (fun t kz => XS.iconst X75.here hx rfl (hb hby at_190) kz) ?_
          show own_Go p e below _ (T75.setTop (mkF m 191 #[oI p0, oI p1, oI p2, oI p3, oI (p0 &&& (3 : Int32)), oI (f1 p1), oI (f1 p2), oI (f1 p3), oR a35, oI (1 : Int32)] [(.int (0 : Int32))]))
          have hv : f0 p0 p1 p2 p3 = (0 : Int32) := by unfold f0; rw [if_neg hc25_7, if_pos hc46_34, if_neg hc138_70, if_neg hc183_77]
          exact absurd ((own_plain p0 p1 p2 p3 ).symm.trans hv) (by decide)
    · refine own_via (fun t kz => XS.icmpYes X5.here hx rfl (pc0 := 46) (pc' := 69) rfl (hb hby at_46) rfl (feq hc46_34).2 (by decide) (by decide) kz) ?_
      refine own_via (fun t kz => XS.iload X5.here hx rfl (hb hby at_69) rfl kz) ?_
      refine own_via (fun t kz => XS.iconst X5.here hx rfl (hb hby at_71) kz) ?_
      show own_Go p e below _ (T5.setTop (mkF m 72 #[oI p0, oI p1, oI p2, oI p3, oI (p0 &&& (3 : Int32)), oI (f1 p1), oI (f1 p2), oI (f1 p3), .unset, .unset] [(.int (2 : Int32)), (.int (p0 &&& (3 : Int32)))]))
      by_cases hc72_79 : (p0 &&& (3 : Int32)) = (2 : Int32)
      · refine own_via (fun t kz => XS.icmpNo X5.here hx rfl (hb hby at_72) rfl (teq hc72_79).2 kz) ?_
        show own_Go p e below _ (T5.setTop (mkF m 75 #[oI p0, oI p1, oI p2, oI p3, oI (p0 &&& (3 : Int32)), oI (f1 p1), oI (f1 p2), oI (f1 p3), .unset, .unset] []))
        obtain ⟨T80, h80, X80, e80, E80, A80, D80, -, st80⟩ := newO X5 hx hZ hown (own_w hw 4) (own_w hw 5) (own_w hw 6) e5 (g := (mkF m 75 #[oI p0, oI p1, oI p2, oI p3, oI (p0 &&& (3 : Int32)), oI (f1 p1), oI (f1 p2), oI (f1 p3), .unset, .unset] [])) rfl (hb hby at_75) (by decide) (by decide)
        obtain ⟨a80, g80⟩ : ∃ z, z = h0.size := ⟨_, rfl⟩
        rw [← g80] at A80 D80 st80
        refine own_via st80 ?_
        have fr81 : n0 ≤ a80 := Nat.le_trans Z0 (Nat.le_of_eq g80.symm)
        have cv82 : CHr Z own_EL s.vm h0 s.vm h80 := CHr.ext E80 R0.1
        have R82 := R0.trans cv82
        have hk82 := Nat.le_trans hk0 cv82.2.1
        have O83 : Old Z n0 h80 := OLD.ext E80
        have Zs84 : n0 ≤ h80.size := Nat.le_trans Z0 E80.1
        have sn80 : Safe Z own_EL s.vm h80 a80 := Safe.ext E80 R0.1 (Safe.new (Nat.le_of_eq g80.symm))
        have F85 : Fld Z h80 a80 "java/lang/String" "value" "[B" .null := D80 (Or.inr (own_w hw 20)) (ty := (.array .byte)) (by decide)
        have F86 : Fld Z h80 a80 "java/lang/String" "coder" "B" (.int (0 : Int32)) := D80 (Or.inr (own_w hw 21)) (ty := .byte) (by decide)
        refine own_via (fun t kz => XS.dup X80.here hx rfl (hb hby at_78) rfl rfl kz) ?_
        refine own_via (fun t kz => XS.iconst X80.here hx rfl (hb hby at_79) kz) ?_
        show own_Go p e below _ (T80.setTop (mkF m 80 #[oI p0, oI p1, oI p2, oI p3, oI (p0 &&& (3 : Int32)), oI (f1 p1), oI (f1 p2), oI (f1 p3), .unset, .unset] [(.int (2 : Int32)), (.ref a80), (.ref a80)]))
        obtain ⟨T87, h87, k87, X87, e87, E87, A87, st87⟩ := newP X80 hx hZ (aty := .char) (own_w hw 7) e80 (g := (mkF m 80 #[oI p0, oI p1, oI p2, oI p3, oI (p0 &&& (3 : Int32)), oI (f1 p1), oI (f1 p2), oI (f1 p3), .unset, .unset] [(.int (2 : Int32)), (.ref a80), (.ref a80)])) rfl (hb hby at_80) rfl (by decide) (cap := 2) (by decide) (by decide) (by decide) (by decide)
        obtain ⟨a87, g87⟩ : ∃ z, z = h80.size := ⟨_, rfl⟩
        rw [← g87] at A87 st87
        refine own_via st87 ?_
        have lt88 : a80 < a87 := Nat.lt_of_lt_of_le A80.lt (Nat.le_of_eq g87.symm)
        have fr89 : n0 ≤ a87 := Nat.le_trans Zs84 (Nat.le_of_eq g87.symm)
        have cv90 : CHr Z own_EL s.vm h80 s.vm h87 := CHr.ext E87 R82.1
        have R90 := R82.trans cv90
        have sf90a80 : Safe Z own_EL s.vm h87 a80 := cv90.safe A80.lt sn80
        have hk90 := Nat.le_trans hk82 cv90.2.1
        have O91 : Old Z n0 h87 := O83.ext E87
        have E92 := A80.ext E87
        have F93 := F85.ext E87
        have F94 := F86.ext E87
        have Zs95 : n0 ≤ h87.size := Nat.le_trans Zs84 E87.1
        have V96 : Arv Z h87 a87 k87 .char (2 : Int32) [(.int (0 : Int32)), (.int (0 : Int32))] (.int (0 : Int32)) := (Arv.new A87 (by decide)).pad (pad_rep [] (.int (0 : Int32)) 2)
        refine own_via (fun t kz => XS.dup X87.here hx rfl (hb hby at_82) rfl rfl kz) ?_
        refine own_via (fun t kz => XS.iconst X87.here hx rfl (hb hby at_83) kz) ?_
        refine own_via (fun t kz => XS.iload X87.here hx rfl (hb hby at_84) rfl kz) ?_
        show own_Go p e below _ (T87.setTop (mkF m 86 #[oI p0, oI p1, oI p2, oI p3, oI (p0 &&& (3 : Int32)), oI (f1 p1), oI (f1 p2), oI (f1 p3), .unset, .unset] [(.int (f1 p1)), (.int (0 : Int32)), (.ref a87), (.ref a87), (.ref a80), (.ref a80)]))
        obtain ⟨cl97, Ar97, kc97, Sz97, Nn97, Hs97, Gs97⟩ := id V96
        obtain ⟨T97, h97, X97, e97, W97, st97⟩ := stC X87 hx hZ e87 Ar97 (j := (0 : Int32)) (inb_of Sz97 ⟨by decide, by decide⟩) (g := (mkF m 86 #[oI p0, oI p1, oI p2, oI p3, oI (p0 &&& (3 : Int32)), oI (f1 p1), oI (f1 p2), oI (f1 p3), .unset, .unset] [(.int (f1 p1)), (.int (0 : Int32)), (.ref a87), (.ref a87), (.ref a80), (.ref a80)])) rfl rfl (hb hby at_86)
        refine own_via st97 ?_
        have na97 : nar .char (f1 p1) = (f1 p1) := own_narc (own_pick p1)
        rw [na97] at W97
        have hk98 := Nat.le_trans hk90 (Keep.of_wr W97).1
        have O99 : Old Z n0 h97 := O91.wr W97 fr89
        have E100 := E92.wr W97
        have F101 := F93.other W97 (Or.inl (Nat.ne_of_lt lt88))
        have F102 := F94.other W97 (Or.inl (Nat.ne_of_lt lt88))
        have Zs103 : n0 ≤ h97.size := Nat.le_trans Zs95 (Keep.of_wr W97).1
        have N104 := Fr.snoc X97 N6 fr89
        have V105 : Arv Z h97 a87 k87 .char (2 : Int32) [(.int (f1 p1)), (.int (0 : Int32))] (.int (0 : Int32)) := Arv.set Ar97 kc97 Sz97 Nn97 Hs97 Gs97 (by rw [← na97]; exact fits_nar_char _) W97 0 (by first | decide | (show 0 < 2; decide)) (by first | decide | (show 0 < 2; decide))
        refine own_via (fun t kz => XS.dup X97.here hx rfl (hb hby at_87) rfl rfl kz) ?_
        refine own_via (fun t kz => XS.iconst X97.here hx rfl (hb hby at_88) kz) ?_
        refine own_via (fun t kz => XS.iload X97.here hx rfl (hb hby at_89) rfl kz) ?_
        show own_Go p e below _ (T97.setTop (mkF m 91 #[oI p0, oI p1, oI p2, oI p3, oI (p0 &&& (3 : Int32)), oI (f1 p1), oI (f1 p2), oI (f1 p3), .unset, .unset] [(.int (f1 p2)), (.int (1 : Int32)), (.ref a87), (.ref a87), (.ref a80), (.ref a80)]))
        obtain ⟨cl106, Ar106, kc106, Sz106, Nn106, Hs106, Gs106⟩ := id V105
        obtain ⟨T106, h106, X106, e106, W106, st106⟩ := stC X97 hx hZ e97 Ar106 (j := (1 : Int32)) (inb_of Sz106 ⟨by decide, by decide⟩) (g := (mkF m 91 #[oI p0, oI p1, oI p2, oI p3, oI (p0 &&& (3 : Int32)), oI (f1 p1), oI (f1 p2), oI (f1 p3), .unset, .unset] [(.int (f1 p2)), (.int (1 : Int32)), (.ref a87), (.ref a87), (.ref a80), (.ref a80)])) rfl rfl (hb hby at_91)
        refine own_via st106 ?_
        have na106 : nar .char (f1 p2) = (f1 p2) := own_narc (own_pick p2)
        rw [na106] at W106
        have hk107 := Nat.le_trans hk98 (Keep.of_wr W106).1
        have O108 : Old Z n0 h106 := O99.wr W106 fr89
        have E109 := E100.wr W106
        have F110 := F101.other W106 (Or.inl (Nat.ne_of_lt lt88))
        have F111 := F102.other W106 (Or.inl (Nat.ne_of_lt lt88))
        have Zs112 : n0 ≤ h106.size := Nat.le_trans Zs103 (Keep.of_wr W106).1
        have N113 := Fr.snoc X106 N104 fr89
        have V114 : Arv Z h106 a87 k87 .char (2 : Int32) [(.int (f1 p1)), (.int (f1 p2))] (.int (0 : Int32)) := Arv.set Ar106 kc106 Sz106 Nn106 Hs106 Gs106 (by rw [← na106]; exact fits_nar_char _) W106 1 (by first | decide | (show 1 < 2; decide)) (by first | decide | (show 1 < 2; decide))
        show own_Go p e below _ (T106.setTop (mkF m 92 #[oI p0, oI p1, oI p2, oI p3, oI (p0 &&& (3 : Int32)), oI (f1 p1), oI (f1 p2), oI (f1 p3), .unset, .unset] [(.ref a87), (.ref a80), (.ref a80)]))
        obtain ⟨_, _, ⟨T115, L115, k115, n115⟩, -, X115, ⟨Lc115, hQ115, l115, y115, z115⟩, st115⟩ := X106.specialBack hx (y := (⟨"java/lang/String", "<init>", "([C)V"⟩ : MethodName)) rfl hown (mvT hZ (own_w hw 8)) (mvT hZ (own_w hw 9)) (mvT hZ (own_w hw 10)) (by decide) (backOf (W := 1) (rmI_2 l Z a0 hw [] a80 a87 k87 (f1 p1) (f1 p2) wcs wsf h106 n0 Zs112 fr81 E109 F110 F111 V114 (Ne.symm (Nat.ne_of_lt lt88)) (own_pick p1) (own_pick p2) O108 hcs rsf B_wcs B_wsf B_wad B_whi B_wlo) hZ (own_w hw 10) (own_w hw 6) (by decide) (by decide)) (g := (mkF m 92 #[oI p0, oI p1, oI p2, oI p3, oI (p0 &&& (3 : Int32)), oI (f1 p1), oI (f1 p2), oI (f1 p3), .unset, .unset] [(.ref a87), (.ref a80), (.ref a80)])) rfl (by rw [hml]; rfl) (Steps.refl _) (a := a80) (argsL := [(.ref a87)]) (rest := [(.ref a80)]) (lenOf pd_0_1 rfl) rfl (by show 2 * 0 + _ ≤ _; exact Nat.le_of_eq rfl) (hb hby at_92) (fun _ _ => ⟨rfl, e106, (by decide : 2 + 2 ≤ _), (by decide : 6 + 6 ≤ _)⟩)
        dsimp only [Pt.U, Pt.locs, Pt.cells, Pt.slots] at X115 l115 y115 z115 st115 hQ115
        subst l115 y115 z115
        obtain ⟨rfl, Nq115, Kc115, SR115⟩ := hQ115
        have N116 := Fr.app N113 Nq115
        refine own_tr st115 ?_
        have hk117 := Nat.le_trans hk107 Kc115.1
        have O118 : Old Z n0 T115.heap := O108.keep Kc115 (allS fr81 all0)
        have E119 := E109.keep Kc115
        have V120 := V114.keep Kc115 (ninS (Ne.symm (Nat.ne_of_lt lt88)) nin0)
        have Zs121 : n0 ≤ T115.heap.size := Nat.le_trans Zs112 Kc115.1
        refine own_via (fun t kz => XS.astore X115.here hx rfl (hb hby at_95) rfl rfl (l' := #[oI p0, oI p1, oI p2, oI p3, oI (p0 &&& (3 : Int32)), oI (f1 p1), oI (f1 p2), oI (f1 p3), oR a80, .unset]) rfl kz) ?_
        refine own_via (fun t kz => XS.goto X115.here hx rfl (pc0 := 97) (pc' := 127) rfl (hb hby at_97) (by decide) (by decide) kz) ?_
        refine own_via (fun t kz => XS.iload X115.here hx rfl (hb hby at_127) rfl kz) ?_
        refine own_via (fun t kz => XS.iconst X115.here hx rfl (hb hby at_129) kz) ?_
        show own_Go p e below _ (T115.setTop (mkF m 130 #[oI p0, oI p1, oI p2, oI p3, oI (p0 &&& (3 : Int32)), oI (f1 p1), oI (f1 p2), oI (f1 p3), oR a80, .unset] [(.int (1 : Int32)), (.int (p0 &&& (3 : Int32)))]))
        refine own_via (fun t kz => XS.icmpNo X115.here hx rfl (hb hby at_130) rfl (flt (by rw [hc72_79]; decide : ¬ ((p0 &&& (3 : Int32)) < (1 : Int32)))).1 kz) ?_
        refine own_via (fun t kz => XS.iload X115.here hx rfl (hb hby at_133) rfl kz) ?_
        show own_Go p e below _ (T115.setTop (mkF m 135 #[oI p0, oI p1, oI p2, oI p3, oI (p0 &&& (3 : Int32)), oI (f1 p1), oI (f1 p2), oI (f1 p3), oR a80, .unset] [(.int (f1 p1))]))
        obtain ⟨_, _, ⟨T122, L122, k122, n122⟩, -, X122, ⟨Lc122, hQ122, l122, y122, z122⟩, st122⟩ := Jvm.LawKit.callS X115 hx (y := (⟨"com/example/push_to_tree/pushtotree/XmlCharsIsWhitespacePinLaw", "ws", "(C)Z"⟩ : MethodName)) hown (mvT hZ (own_w hw 51)) (mvT hZ (own_w hw 52)) (mvT hZ (own_w hw 2)) (mvT hZ (own_w hw 53)) (by decide) (backOf (W := 0) (rm11 l Z a0 hw [] (f1 p1) (f11 (f1 p1)) T115.heap n0 Zs121 rfl) hZ (own_w hw 53) (own_w hw 2) (by decide) (by decide)) (g := (mkF m 135 #[oI p0, oI p1, oI p2, oI p3, oI (p0 &&& (3 : Int32)), oI (f1 p1), oI (f1 p2), oI (f1 p3), oR a80, .unset] [(.int (f1 p1))])) rfl (by rw [hml]; rfl) (argsL := [(.int (f1 p1))]) (rest := []) (lenOf pd_0_3 rfl) rfl (by show 2 * 0 + _ ≤ _; exact Nat.le_of_eq rfl) (hb hby at_135) (fun _ _ => ⟨rfl, rfl, (by decide : 4 + 0 ≤ _), (by decide : 12 + 0 ≤ _)⟩)
        dsimp only [Pt.U, Pt.locs, Pt.cells, Pt.slots] at X122 l122 y122 z122 st122 hQ122
        subst l122 y122 z122
        obtain ⟨rfl, Nq122, e122⟩ := hQ122
        have N123 := Fr.app N116 Nq122
        refine own_via st122 ?_
        show own_Go p e below _ (T122.setTop (mkF m 138 #[oI p0, oI p1, oI p2, oI p3, oI (p0 &&& (3 : Int32)), oI (f1 p1), oI (f1 p2), oI (f1 p3), oR a80, .unset] [(.int (f11 (f1 p1)))]))
        by_cases hc138_124 : (f11 (f1 p1)) = (0 : Int32)
        · refine own_via (fun t kz => XS.ifYes X122.here hx rfl (pc0 := 138) (pc' := 173) rfl (hb hby at_138) rfl ((if0 _ _).trans (teq hc138_124).1) (by decide) (by decide) kz) ?_
          refine own_via (fun t kz => XS.iconst X122.here hx rfl (hb hby at_173) kz) ?_
          refine own_via (fun t kz => XS.istore X122.here hx rfl (hb hby at_174) rfl (l' := #[oI p0, oI p1, oI p2, oI p3, oI (p0 &&& (3 : Int32)), oI (f1 p1), oI (f1 p2), oI (f1 p3), oR a80, oI (0 : Int32)]) rfl kz) ?_
          refine own_via (fun t kz => XS.aload X122.here hx rfl (hb hby at_176) rfl rfl kz) ?_
          show own_Go p e below _ (T122.setTop (mkF m 178 #[oI p0, oI p1, oI p2, oI p3, oI (p0 &&& (3 : Int32)), oI (f1 p1), oI (f1 p2), oI (f1 p3), oR a80, oI (0 : Int32)] [(.ref a80)]))
          obtain ⟨_, _, ⟨T125, L125, k125, n125⟩, -, X125, ⟨Lc125, hQ125, l125, y125, z125⟩, st125⟩ := Jvm.LawKit.callS X122 hx (y := (⟨"com/example/push_to_tree/pushtotree/XmlChars", "isWhitespace", "(Ljava/lang/String;)Z"⟩ : MethodName)) hown (mvT hZ (own_w hw 26)) (mvT hZ (own_w hw 27)) (mvT hZ (own_w hw 28)) (mvT hZ (own_w hw 29)) (by decide) (backOf (W := 0) (rmW2 l Z a0 hw [] a80 (f1 p1) (f1 p2) wcs wsf (fW2 (f1 p1) (f1 p2)) T115.heap n0 Zs121 SR115 (own_pick p1) (own_pick p2) O118 hcs rsf B_wcs B_wsf B_wad B_whi B_wlo rfl) hZ (own_w hw 29) (own_w hw 28) (by decide) (by decide)) (g := (mkF m 178 #[oI p0, oI p1, oI p2, oI p3, oI (p0 &&& (3 : Int32)), oI (f1 p1), oI (f1 p2), oI (f1 p3), oR a80, oI (0 : Int32)] [(.ref a80)])) rfl (by rw [hml]; rfl) (argsL := [(.ref a80)]) (rest := []) (lenOf pd_0_2 rfl) rfl (by show 2 * 0 + _ ≤ _; exact Nat.le_of_eq rfl) (hb hby at_178) (fun _ _ => ⟨rfl, e122, (by decide : 4 + 0 ≤ _), (by decide : 12 + 0 ≤ _)⟩)
          dsimp only [Pt.U, Pt.locs, Pt.cells, Pt.slots] at X125 l125 y125 z125 st125 hQ125
          subst l125 y125 z125
          obtain ⟨rfl, Nq125, e125⟩ := hQ125
          have N126 := Fr.app N123 Nq125
          refine own_via st125 ?_
          refine own_via (fun t kz => XS.iload X125.here hx rfl (hb hby at_181) rfl kz) ?_
          show own_Go p e below _ (T125.setTop (mkF m 183 #[oI p0, oI p1, oI p2, oI p3, oI (p0 &&& (3 : Int32)), oI (f1 p1), oI (f1 p2), oI (f1 p3), oR a80, oI (0 : Int32)] [(.int (0 : Int32)), (.int (fW2 (f1 p1) (f1 p2)))]))
          by_cases hc183_127 : (fW2 (f1 p1) (f1 p2)) = (0 : Int32)
          · refine own_via (fun t kz => XS.icmpNo X125.here hx rfl (hb hby at_183) rfl (teq hc183_127).2 kz) ?_
            refine own_via (fun t kz => XS.iconst X125.here hx rfl (hb hby at_186) kz) ?_
            refine own_via (fun t kz => XS.goto X125.here hx rfl (pc0 := 187) (pc' := 191) rfl (hb hby at_187) (by decide) (by decide) kz) ?_
            show own_Go p e below _ (T125.setTop (mkF m 191 #[oI p0, oI p1, oI p2, oI p3, oI (p0 &&& (3 : Int32)), oI (f1 p1), oI (f1 p2), oI (f1 p3), oR a80, oI (0 : Int32)] [(.int (1 : Int32))]))
            have hv : f0 p0 p1 p2 p3 = (1 : Int32) := by unfold f0; rw [if_neg hc25_7, if_neg hc46_34, if_pos hc72_79, if_pos hc138_124, if_pos hc183_127]
            obtain ⟨fs, hr, hrun, hended, hEnd⟩ := Jvm.Stand.leaveW (s := s) (vm₁ := s.vm) X125 hS0 (show _ ≤ T125.heap.size by rw [e125]; exact hk117) (v := some (.int (1 : Int32))) (fun h => by rw [Bd.returns] at h; cases h)
            refine ⟨_, _, retN X125 hx (t := .boolean) Bd.returns (by simp) (hb hby at_191) hr, hrun, hended, _, _, rfl, ?_, ⟨hEnd.1, hEnd.2.1, hEnd.2.2.1, hEnd.2.2.2.mono (by decide) (by decide)⟩⟩
            show Q0 Z p0 p1 p2 p3 wcs wsf h0 n0 _ T125.heap _
            rw [e125]
            exact ⟨rfl, N126⟩
          · refine own_via (fun t kz => XS.icmpYes X125.here hx rfl (pc0 := 183) (pc' := 190) rfl (hb hby at_183) rfl (feq hc183_127).2 (by decide) (by decide) kz) ?_
            refine own_via (fun t kz => XS.iconst X125.here hx rfl (hb hby at_190) kz) ?_
            show own_Go p e below _ (T125.setTop (mkF m 191 #[oI p0, oI p1, oI p2, oI p3, oI (p0 &&& (3 : Int32)), oI (f1 p1), oI (f1 p2), oI (f1 p3), oR a80, oI (0 : Int32)] [(.int (0 : Int32))]))
            have hv : f0 p0 p1 p2 p3 = (0 : Int32) := by unfold f0; rw [if_neg hc25_7, if_neg hc46_34, if_pos hc72_79, if_pos hc138_124, if_neg hc183_127]
            exact absurd ((own_plain p0 p1 p2 p3 ).symm.trans hv) (by decide)
        · refine own_via (fun t kz => XS.ifNo X122.here hx rfl (hb hby at_138) rfl ((if0 _ _).trans (feq hc138_124).1) kz) ?_
          refine own_via (fun t kz => XS.iload X122.here hx rfl (hb hby at_141) rfl kz) ?_
          refine own_via (fun t kz => XS.iconst X122.here hx rfl (hb hby at_143) kz) ?_
          show own_Go p e below _ (T122.setTop (mkF m 144 #[oI p0, oI p1, oI p2, oI p3, oI (p0 &&& (3 : Int32)), oI (f1 p1), oI (f1 p2), oI (f1 p3), oR a80, .unset] [(.int (2 : Int32)), (.int (p0 &&& (3 : Int32)))]))
          refine own_via (fun t kz => XS.icmpNo X122.here hx rfl (hb hby at_144) rfl (flt (by rw [hc72_79]; decide : ¬ ((p0 &&& (3 : Int32)) < (2 : Int32)))).1 kz) ?_
          refine own_via (fun t kz => XS.iload X122.here hx rfl (hb hby at_147) rfl kz) ?_
          show own_Go p e below _ (T122.setTop (mkF m 149 #[oI p0, oI p1, oI p2, oI p3, oI (p0 &&& (3 : Int32)), oI (f1 p1), oI (f1 p2), oI (f1 p3), oR a80, .unset] [(.int (f1 p2))]))
          obtain ⟨_, _, ⟨T129, L129, k129, n129⟩, -, X129, ⟨Lc129, hQ129, l129, y129, z129⟩, st129⟩ := Jvm.LawKit.callS X122 hx (y := (⟨"com/example/push_to_tree/pushtotree/XmlCharsIsWhitespacePinLaw", "ws", "(C)Z"⟩ : MethodName)) hown (mvT hZ (own_w hw 51)) (mvT hZ (own_w hw 52)) (mvT hZ (own_w hw 2)) (mvT hZ (own_w hw 53)) (by decide) (backOf (W := 0) (rm11 l Z a0 hw [] (f1 p2) (f11 (f1 p2)) T115.heap n0 Zs121 rfl) hZ (own_w hw 53) (own_w hw 2) (by decide) (by decide)) (g := (mkF m 149 #[oI p0, oI p1, oI p2, oI p3, oI (p0 &&& (3 : Int32)), oI (f1 p1), oI (f1 p2), oI (f1 p3), oR a80, .unset] [(.int (f1 p2))])) rfl (by rw [hml]; rfl) (argsL := [(.int (f1 p2))]) (rest := []) (lenOf pd_0_3 rfl) rfl (by show 2 * 0 + _ ≤ _; exact Nat.le_of_eq rfl) (hb hby at_149) (fun _ _ => ⟨rfl, e122, (by decide : 4 + 0 ≤ _), (by decide : 12 + 0 ≤ _)⟩)
          dsimp only [Pt.U, Pt.locs, Pt.cells, Pt.slots] at X129 l129 y129 z129 st129 hQ129
          subst l129 y129 z129
          obtain ⟨rfl, Nq129, e129⟩ := hQ129
          have N130 := Fr.app N123 Nq129
          refine own_via st129 ?_
          show own_Go p e below _ (T129.setTop (mkF m 152 #[oI p0, oI p1, oI p2, oI p3, oI (p0 &&& (3 : Int32)), oI (f1 p1), oI (f1 p2), oI (f1 p3), oR a80, .unset] [(.int (f11 (f1 p2)))]))
          by_cases hc152_131 : (f11 (f1 p2)) = (0 : Int32)
          · refine own_via (fun t kz => XS.ifYes X129.here hx rfl (pc0 := 152) (pc' := 173) rfl (hb hby at_152) rfl ((if0 _ _).trans (teq hc152_131).1) (by decide) (by decide) kz) ?_
            refine own_via (fun t kz => XS.iconst X129.here hx rfl (hb hby at_173) kz) ?_
            refine own_via (fun t kz => XS.istore X129.here hx rfl (hb hby at_174) rfl (l' := #[oI p0, oI p1, oI p2, oI p3, oI (p0 &&& (3 : Int32)), oI (f1 p1), oI (f1 p2), oI (f1 p3), oR a80, oI (0 : Int32)]) rfl kz) ?_
            refine own_via (fun t kz => XS.aload X129.here hx rfl (hb hby at_176) rfl rfl kz) ?_
            show own_Go p e below _ (T129.setTop (mkF m 178 #[oI p0, oI p1, oI p2, oI p3, oI (p0 &&& (3 : Int32)), oI (f1 p1), oI (f1 p2), oI (f1 p3), oR a80, oI (0 : Int32)] [(.ref a80)]))
            obtain ⟨_, _, ⟨T132, L132, k132, n132⟩, -, X132, ⟨Lc132, hQ132, l132, y132, z132⟩, st132⟩ := Jvm.LawKit.callS X129 hx (y := (⟨"com/example/push_to_tree/pushtotree/XmlChars", "isWhitespace", "(Ljava/lang/String;)Z"⟩ : MethodName)) hown (mvT hZ (own_w hw 26)) (mvT hZ (own_w hw 27)) (mvT hZ (own_w hw 28)) (mvT hZ (own_w hw 29)) (by decide) (backOf (W := 0) (rmW2 l Z a0 hw [] a80 (f1 p1) (f1 p2) wcs wsf (fW2 (f1 p1) (f1 p2)) T115.heap n0 Zs121 SR115 (own_pick p1) (own_pick p2) O118 hcs rsf B_wcs B_wsf B_wad B_whi B_wlo rfl) hZ (own_w hw 29) (own_w hw 28) (by decide) (by decide)) (g := (mkF m 178 #[oI p0, oI p1, oI p2, oI p3, oI (p0 &&& (3 : Int32)), oI (f1 p1), oI (f1 p2), oI (f1 p3), oR a80, oI (0 : Int32)] [(.ref a80)])) rfl (by rw [hml]; rfl) (argsL := [(.ref a80)]) (rest := []) (lenOf pd_0_2 rfl) rfl (by show 2 * 0 + _ ≤ _; exact Nat.le_of_eq rfl) (hb hby at_178) (fun _ _ => ⟨rfl, e129, (by decide : 4 + 0 ≤ _), (by decide : 12 + 0 ≤ _)⟩)
            dsimp only [Pt.U, Pt.locs, Pt.cells, Pt.slots] at X132 l132 y132 z132 st132 hQ132
            subst l132 y132 z132
            obtain ⟨rfl, Nq132, e132⟩ := hQ132
            have N133 := Fr.app N130 Nq132
            refine own_via st132 ?_
            refine own_via (fun t kz => XS.iload X132.here hx rfl (hb hby at_181) rfl kz) ?_
            show own_Go p e below _ (T132.setTop (mkF m 183 #[oI p0, oI p1, oI p2, oI p3, oI (p0 &&& (3 : Int32)), oI (f1 p1), oI (f1 p2), oI (f1 p3), oR a80, oI (0 : Int32)] [(.int (0 : Int32)), (.int (fW2 (f1 p1) (f1 p2)))]))
            by_cases hc183_134 : (fW2 (f1 p1) (f1 p2)) = (0 : Int32)
            · refine own_via (fun t kz => XS.icmpNo X132.here hx rfl (hb hby at_183) rfl (teq hc183_134).2 kz) ?_
              refine own_via (fun t kz => XS.iconst X132.here hx rfl (hb hby at_186) kz) ?_
              refine own_via (fun t kz => XS.goto X132.here hx rfl (pc0 := 187) (pc' := 191) rfl (hb hby at_187) (by decide) (by decide) kz) ?_
              show own_Go p e below _ (T132.setTop (mkF m 191 #[oI p0, oI p1, oI p2, oI p3, oI (p0 &&& (3 : Int32)), oI (f1 p1), oI (f1 p2), oI (f1 p3), oR a80, oI (0 : Int32)] [(.int (1 : Int32))]))
              have hv : f0 p0 p1 p2 p3 = (1 : Int32) := by unfold f0; rw [if_neg hc25_7, if_neg hc46_34, if_pos hc72_79, if_neg hc138_124, if_pos hc152_131, if_pos hc183_134]
              obtain ⟨fs, hr, hrun, hended, hEnd⟩ := Jvm.Stand.leaveW (s := s) (vm₁ := s.vm) X132 hS0 (show _ ≤ T132.heap.size by rw [e132]; exact hk117) (v := some (.int (1 : Int32))) (fun h => by rw [Bd.returns] at h; cases h)
              refine ⟨_, _, retN X132 hx (t := .boolean) Bd.returns (by simp) (hb hby at_191) hr, hrun, hended, _, _, rfl, ?_, ⟨hEnd.1, hEnd.2.1, hEnd.2.2.1, hEnd.2.2.2.mono (by decide) (by decide)⟩⟩
              show Q0 Z p0 p1 p2 p3 wcs wsf h0 n0 _ T132.heap _
              rw [e132]
              exact ⟨rfl, N133⟩
            · refine own_via (fun t kz => XS.icmpYes X132.here hx rfl (pc0 := 183) (pc' := 190) rfl (hb hby at_183) rfl (feq hc183_134).2 (by decide) (by decide) kz) ?_
              refine own_via (fun t kz => XS.iconst X132.here hx rfl (hb hby at_190) kz) ?_
              show own_Go p e below _ (T132.setTop (mkF m 191 #[oI p0, oI p1, oI p2, oI p3, oI (p0 &&& (3 : Int32)), oI (f1 p1), oI (f1 p2), oI (f1 p3), oR a80, oI (0 : Int32)] [(.int (0 : Int32))]))
              have hv : f0 p0 p1 p2 p3 = (0 : Int32) := by unfold f0; rw [if_neg hc25_7, if_neg hc46_34, if_pos hc72_79, if_neg hc138_124, if_pos hc152_131, if_neg hc183_134]
              exact absurd ((own_plain p0 p1 p2 p3 ).symm.trans hv) (by decide)
          · refine own_via (fun t kz => XS.ifNo X129.here hx rfl (hb hby at_152) rfl ((if0 _ _).trans (feq hc152_131).1) kz) ?_
            refine own_via (fun t kz => XS.iload X129.here hx rfl (hb hby at_155) rfl kz) ?_
            refine own_via (fun t kz => XS.iconst X129.here hx rfl (hb hby at_157) kz) ?_
            show own_Go p e below _ (T129.setTop (mkF m 158 #[oI p0, oI p1, oI p2, oI p3, oI (p0 &&& (3 : Int32)), oI (f1 p1), oI (f1 p2), oI (f1 p3), oR a80, .unset] [(.int (3 : Int32)), (.int (p0 &&& (3 : Int32)))]))
            refine own_via (fun t kz => XS.icmpYes X129.here hx rfl (pc0 := 158) (pc' := 169) rfl (hb hby at_158) rfl (tlt (by rw [hc72_79]; decide : (p0 &&& (3 : Int32)) < (3 : Int32))).1 (by decide) (by decide) kz) ?_
            refine own_via (fun t kz => XS.iconst X129.here hx rfl (hb hby at_169) kz) ?_
            refine own_via (fun t kz => XS.goto X129.here hx rfl (pc0 := 170) (pc' := 174) rfl (hb hby at_170) (by decide) (by decide) kz) ?_
            refine own_via (fun t kz => XS.istore X129.here hx rfl (hb hby at_174) rfl (l' := #[oI p0, oI p1, oI p2, oI p3, oI (p0 &&& (3 : Int32)), oI (f1 p1), oI (f1 p2), oI (f1 p3), oR a80, oI (1 : Int32)]) rfl kz) ?_
            refine own_via (fun t kz => XS.aload X129.here hx rfl (hb hby at_176) rfl rfl kz) ?_
            show own_Go p e below _ (T129.setTop (mkF m 178 #[oI p0, oI p1, oI p2, oI p3, oI (p0 &&& (3 : Int32)), oI (f1 p1), oI (f1 p2), oI (f1 p3), oR a80, oI (1 : Int32)] [(.ref a80)]))
            obtain ⟨_, _, ⟨T136, L136, k136, n136⟩, -, X136, ⟨Lc136, hQ136, l136, y136, z136⟩, st136⟩ := Jvm.LawKit.callS X129 hx (y := (⟨"com/example/push_to_tree/pushtotree/XmlChars", "isWhitespace", "(Ljava/lang/String;)Z"⟩ : MethodName)) hown (mvT hZ (own_w hw 26)) (mvT hZ (own_w hw 27)) (mvT hZ (own_w hw 28)) (mvT hZ (own_w hw 29)) (by decide) (backOf (W := 0) (rmW2 l Z a0 hw [] a80 (f1 p1) (f1 p2) wcs wsf (fW2 (f1 p1) (f1 p2)) T115.heap n0 Zs121 SR115 (own_pick p1) (own_pick p2) O118 hcs rsf B_wcs B_wsf B_wad B_whi B_wlo rfl) hZ (own_w hw 29) (own_w hw 28) (by decide) (by decide)) (g := (mkF m 178 #[oI p0, oI p1, oI p2, oI p3, oI (p0 &&& (3 : Int32)), oI (f1 p1), oI (f1 p2), oI (f1 p3), oR a80, oI (1 : Int32)] [(.ref a80)])) rfl (by rw [hml]; rfl) (argsL := [(.ref a80)]) (rest := []) (lenOf pd_0_2 rfl) rfl (by show 2 * 0 + _ ≤ _; exact Nat.le_of_eq rfl) (hb hby at_178) (fun _ _ => ⟨rfl, e129, (by decide : 4 + 0 ≤ _), (by decide : 12 + 0 ≤ _)⟩)
            dsimp only [Pt.U, Pt.locs, Pt.cells, Pt.slots] at X136 l136 y136 z136 st136 hQ136
            subst l136 y136 z136
            obtain ⟨rfl, Nq136, e136⟩ := hQ136
            have N137 := Fr.app N130 Nq136
            refine own_via st136 ?_
            refine own_via (fun t kz => XS.iload X136.here hx rfl (hb hby at_181) rfl kz) ?_
            show own_Go p e below _ (T136.setTop (mkF m 183 #[oI p0, oI p1, oI p2, oI p3, oI (p0 &&& (3 : Int32)), oI (f1 p1), oI (f1 p2), oI (f1 p3), oR a80, oI (1 : Int32)] [(.int (1 : Int32)), (.int (fW2 (f1 p1) (f1 p2)))]))
            by_cases hc183_138 : (fW2 (f1 p1) (f1 p2)) = (1 : Int32)
            · refine own_via (fun t kz => XS.icmpNo X136.here hx rfl (hb hby at_183) rfl (teq hc183_138).2 kz) ?_
              refine own_via (fun t kz => XS.iconst X136.here hx rfl (hb hby at_186) kz) ?_
              refine own_via (fun t kz => XS.goto X136.here hx rfl (pc0 := 187) (pc' := 191) rfl (hb hby at_187) (by decide) (by decide) kz) ?_
              show own_Go p e below _ (T136.setTop (mkF m 191 #[oI p0, oI p1, oI p2, oI p3, oI (p0 &&& (3 : Int32)), oI (f1 p1), oI (f1 p2), oI (f1 p3), oR a80, oI (1 : Int32)] [(.int (1 : Int32))]))
              have hv : f0 p0 p1 p2 p3 = (1 : Int32) := by unfold f0; rw [if_neg hc25_7, if_neg hc46_34, if_pos hc72_79, if_neg hc138_124, if_neg hc152_131, if_pos hc183_138]
              obtain ⟨fs, hr, hrun, hended, hEnd⟩ := Jvm.Stand.leaveW (s := s) (vm₁ := s.vm) X136 hS0 (show _ ≤ T136.heap.size by rw [e136]; exact hk117) (v := some (.int (1 : Int32))) (fun h => by rw [Bd.returns] at h; cases h)
              refine ⟨_, _, retN X136 hx (t := .boolean) Bd.returns (by simp) (hb hby at_191) hr, hrun, hended, _, _, rfl, ?_, ⟨hEnd.1, hEnd.2.1, hEnd.2.2.1, hEnd.2.2.2.mono (by decide) (by decide)⟩⟩
              show Q0 Z p0 p1 p2 p3 wcs wsf h0 n0 _ T136.heap _
              rw [e136]
              exact ⟨rfl, N137⟩
            · refine own_via (fun t kz => XS.icmpYes X136.here hx rfl (pc0 := 183) (pc' := 190) rfl (hb hby at_183) rfl (feq hc183_138).2 (by decide) (by decide) kz) ?_
              refine own_via (fun t kz => XS.iconst X136.here hx rfl (hb hby at_190) kz) ?_
              show own_Go p e below _ (T136.setTop (mkF m 191 #[oI p0, oI p1, oI p2, oI p3, oI (p0 &&& (3 : Int32)), oI (f1 p1), oI (f1 p2), oI (f1 p3), oR a80, oI (1 : Int32)] [(.int (0 : Int32))]))
              have hv : f0 p0 p1 p2 p3 = (0 : Int32) := by unfold f0; rw [if_neg hc25_7, if_neg hc46_34, if_pos hc72_79, if_neg hc138_124, if_neg hc152_131, if_neg hc183_138]
              exact absurd ((own_plain p0 p1 p2 p3 ).symm.trans hv) (by decide)
      · refine own_via (fun t kz => XS.icmpYes X5.here hx rfl (pc0 := 72) (pc' := 100) rfl (hb hby at_72) rfl (feq hc72_79).2 (by decide) (by decide) kz) ?_
        have h3 : (p0 &&& (3 : Int32)) = (3 : Int32) := own_and3 p0 hc25_7 hc46_34 hc72_79
        show own_Go p e below _ (T5.setTop (mkF m 100 #[oI p0, oI p1, oI p2, oI p3, oI (p0 &&& (3 : Int32)), oI (f1 p1), oI (f1 p2), oI (f1 p3), .unset, .unset] []))
        obtain ⟨T140, h140, X140, e140, E140, A140, D140, -, st140⟩ := newO X5 hx hZ hown (own_w hw 4) (own_w hw 5) (own_w hw 6) e5 (g := (mkF m 100 #[oI p0, oI p1, oI p2, oI p3, oI (p0 &&& (3 : Int32)), oI (f1 p1), oI (f1 p2), oI (f1 p3), .unset, .unset] [])) rfl (hb hby at_100) (by decide) (by decide)
        obtain ⟨a140, g140⟩ : ∃ z, z = h0.size := ⟨_, rfl⟩
        rw [← g140] at A140 D140 st140
        refine own_via st140 ?_
        have fr141 : n0 ≤ a140 := Nat.le_trans Z0 (Nat.le_of_eq g140.symm)
        have cv142 : CHr Z own_EL s.vm h0 s.vm h140 := CHr.ext E140 R0.1
        have R142 := R0.trans cv142
        have hk142 := Nat.le_trans hk0 cv142.2.1
        have O143 : Old Z n0 h140 := OLD.ext E140
        have Zs144 : n0 ≤ h140.size := Nat.le_trans Z0 E140.1
        have sn140 : Safe Z own_EL s.vm h140 a140 := Safe.ext E140 R0.1 (Safe.new (Nat.le_of_eq g140.symm))
        have F145 : Fld Z h140 a140 "java/lang/String" "value" "[B" .null := D140 (Or.inr (own_w hw 20)) (ty := (.array .byte)) (by decide)
        have F146 : Fld Z h140 a140 "java/lang/String" "coder" "B" (.int (0 : Int32)) := D140 (Or.inr (own_w hw 21)) (ty := .byte) (by decide)
        refine own_via (fun t kz => XS.dup X140.here hx rfl (hb hby at_103) rfl rfl kz) ?_
        refine own_via (fun t kz => XS.iconst X140.here hx rfl (hb hby at_104) kz) ?_
        show own_Go p e below _ (T140.setTop (mkF m 105 #[oI p0, oI p1, oI p2, oI p3, oI (p0 &&& (3 : Int32)), oI (f1 p1), oI (f1 p2), oI (f1 p3), .unset, .unset] [(.int (3 : Int32)), (.ref a140), (.ref a140)]))
        obtain ⟨T147, h147, k147, X147, e147, E147, A147, st147⟩ := newP X140 hx hZ (aty := .char) (own_w hw 7) e140 (g := (mkF m 105 #[oI p0, oI p1, oI p2, oI p3, oI (p0 &&& (3 : Int32)), oI (f1 p1), oI (f1 p2), oI (f1 p3), .unset, .unset] [(.int (3 : Int32)), (.ref a140), (.ref a140)])) rfl (hb hby at_105) rfl (by decide) (cap := 3) (by decide) (by decide) (by decide) (by decide)
        obtain ⟨a147, g147⟩ : ∃ z, z = h140.size := ⟨_, rfl⟩
        rw [← g147] at A147 st147
        refine own_via st147 ?_
        have lt148 : a140 < a147 := Nat.lt_of_lt_of_le A140.lt (Nat.le_of_eq g147.symm)
        have fr149 : n0 ≤ a147 := Nat.le_trans Zs144 (Nat.le_of_eq g147.symm)
        have cv150 : CHr Z own_EL s.vm h140 s.vm h147 := CHr.ext E147 R142.1
        have R150 := R142.trans cv150
        have sf150a140 : Safe Z own_EL s.vm h147 a140 := cv150.safe A140.lt sn140
        have hk150 := Nat.le_trans hk142 cv150.2.1
        have O151 : Old Z n0 h147 := O143.ext E147
        have E152 := A140.ext E147
        have F153 := F145.ext E147
        have F154 := F146.ext E147
        have Zs155 : n0 ≤ h147.size := Nat.le_trans Zs144 E147.1
        have V156 : Arv Z h147 a147 k147 .char (3 : Int32) [(.int (0 : Int32)), (.int (0 : Int32)), (.int (0 : Int32))] (.int (0 : Int32)) := (Arv.new A147 (by decide)).pad (pad_rep [] (.int (0 : Int32)) 3)
        refine own_via (fun t kz => XS.dup X147.here hx rfl (hb hby at_107) rfl rfl kz) ?_
        refine own_via (fun t kz => XS.iconst X147.here hx rfl (hb hby at_108) kz) ?_
        refine own_via (fun t kz => XS.iload X147.here hx rfl (hb hby at_109) rfl kz) ?_
        show own_Go p e below _ (T147.setTop (mkF m 111 #[oI p0, oI p1, oI p2, oI p3, oI (p0 &&& (3 : Int32)), oI (f1 p1), oI (f1 p2), oI (f1 p3), .unset, .unset] [(.int (f1 p1)), (.int (0 : Int32)), (.ref a147), (.ref a147), (.ref a140), (.ref a140)]))
        obtain ⟨cl157, Ar157, kc157, Sz157, Nn157, Hs157, Gs157⟩ := id V156
        obtain ⟨T157, h157, X157, e157, W157, st157⟩ := stC X147 hx hZ e147 Ar157 (j := (0 : Int32)) (inb_of Sz157 ⟨by decide, by decide⟩) (g := (mkF m 111 #[oI p0, oI p1, oI p2, oI p3, oI (p0 &&& (3 : Int32)), oI (f1 p1), oI (f1 p2), oI (f1 p3), .unset, .unset] [(.int (f1 p1)), (.int (0 : Int32)), (.ref a147), (.ref a147), (.ref a140), (.ref a140)])) rfl rfl (hb hby at_111)
        refine own_via st157 ?_
        have na157 : nar .char (f1 p1) = (f1 p1) := own_narc (own_pick p1)
        rw [na157] at W157
        have hk158 := Nat.le_trans hk150 (Keep.of_wr W157).1
        have O159 : Old Z n0 h157 := O151.wr W157 fr149
        have E160 := E152.wr W157
        have F161 := F153.other W157 (Or.inl (Nat.ne_of_lt lt148))
        have F162 := F154.other W157 (Or.inl (Nat.ne_of_lt lt148))
        have Zs163 : n0 ≤ h157.size := Nat.le_trans Zs155 (Keep.of_wr W157).1
        have N164 := Fr.snoc X157 N6 fr149
        have V165 : Arv Z h157 a147 k147 .char (3 : Int32) [(.int (f1 p1)), (.int (0 : Int32)), (.int (0 : Int32))] (.int (0 : Int32)) := Arv.set Ar157 kc157 Sz157 Nn157 Hs157 Gs157 (by rw [← na157]; exact fits_nar_char _) W157 0 (by first | decide | (show 0 < 3; decide)) (by first | decide | (show 0 < 3; decide))
        refine own_via (fun t kz => XS.dup X157.here hx rfl (hb hby at_112) rfl rfl kz) ?_
        refine own_via (fun t kz => XS.iconst X157.here hx rfl (hb hby at_113) kz) ?_
        refine own_via (fun t kz => XS.iload X157.here hx rfl (hb hby at_114) rfl kz) ?_
        show own_Go p e below _ (T157.setTop (mkF m 116 #[oI p0, oI p1, oI p2, oI p3, oI (p0 &&& (3 : Int32)), oI (f1 p1), oI (f1 p2), oI (f1 p3), .unset, .unset] [(.int (f1 p2)), (.int (1 : Int32)), (.ref a147), (.ref a147), (.ref a140), (.ref a140)]))
        obtain ⟨cl166, Ar166, kc166, Sz166, Nn166, Hs166, Gs166⟩ := id V165
        obtain ⟨T166, h166, X166, e166, W166, st166⟩ := stC X157 hx hZ e157 Ar166 (j := (1 : Int32)) (inb_of Sz166 ⟨by decide, by decide⟩) (g := (mkF m 116 #[oI p0, oI p1, oI p2, oI p3, oI (p0 &&& (3 : Int32)), oI (f1 p1), oI (f1 p2), oI (f1 p3), .unset, .unset] [(.int (f1 p2)), (.int (1 : Int32)), (.ref a147), (.ref a147), (.ref a140), (.ref a140)])) rfl rfl (hb hby at_116)
        refine own_via st166 ?_
        have na166 : nar .char (f1 p2) = (f1 p2) := own_narc (own_pick p2)
        rw [na166] at W166
        have hk167 := Nat.le_trans hk158 (Keep.of_wr W166).1
        have O168 : Old Z n0 h166 := O159.wr W166 fr149
        have E169 := E160.wr W166
        have F170 := F161.other W166 (Or.inl (Nat.ne_of_lt lt148))
        have F171 := F162.other W166 (Or.inl (Nat.ne_of_lt lt148))
        have Zs172 : n0 ≤ h166.size := Nat.le_trans Zs163 (Keep.of_wr W166).1
        have N173 := Fr.snoc X166 N164 fr149
        have V174 : Arv Z h166 a147 k147 .char (3 : Int32) [(.int (f1 p1)), (.int (f1 p2)), (.int (0 : Int32))] (.int (0 : Int32)) := Arv.set Ar166 kc166 Sz166 Nn166 Hs166 Gs166 (by rw [← na166]; exact fits_nar_char _) W166 1 (by first | decide | (show 1 < 3; decide)) (by first | decide | (show 1 < 3; decide))
        refine own_via (fun t kz => XS.dup X166.here hx rfl (hb hby at_117) rfl rfl kz) ?_
        refine own_via (fun t kz => XS.iconst X166.here hx rfl (hb hby at_118) kz) ?_
        refine own_via (fun t kz => XS.iload X166.here hx rfl (hb hby at_119) rfl kz) ?_
        show own_Go p e below _ (T166.setTop (mkF m 121 #[oI p0, oI p1, oI p2, oI p3, oI (p0 &&& (3 : Int32)), oI (f1 p1), oI (f1 p2), oI (f1 p3), .unset, .unset] [(.int (f1 p3)), (.int (2 : Int32)), (.ref a147), (.ref a147), (.ref a140), (.ref a140)]))
        obtain ⟨cl175, Ar175, kc175, Sz175, Nn175, Hs175, Gs175⟩ := id V174
        obtain ⟨T175, h175, X175, e175, W175, st175⟩ := stC X166 hx hZ e166 Ar175 (j := (2 : Int32)) (inb_of Sz175 ⟨by decide, by decide⟩) (g := (mkF m 121 #[oI p0, oI p1, oI p2, oI p3, oI (p0 &&& (3 : Int32)), oI (f1 p1), oI (f1 p2), oI (f1 p3), .unset, .unset] [(.int (f1 p3)), (.int (2 : Int32)), (.ref a147), (.ref a147), (.ref a140), (.ref a140)])) rfl rfl (hb hby at_121)
        refine own_via st175 ?_
        have na175 : nar .char (f1 p3) = (f1 p3) := own_narc (own_pick p3)
        rw [na175] at W175
        have hk176 := Nat.le_trans hk167 (Keep.of_wr W175).1
        have O177 : Old Z n0 h175 := O168.wr W175 fr149
        have E178 := E169.wr W175
        have F179 := F170.other W175 (Or.inl (Nat.ne_of_lt lt148))
        have F180 := F171.other W175 (Or.inl (Nat.ne_of_lt lt148))
        have Zs181 : n0 ≤ h175.size := Nat.le_trans Zs172 (Keep.of_wr W175).1
        have N182 := Fr.snoc X175 N173 fr149
        have V183 : Arv Z h175 a147 k147 .char (3 : Int32) [(.int (f1 p1)), (.int (f1 p2)), (.int (f1 p3))] (.int (0 : Int32)) := Arv.set Ar175 kc175 Sz175 Nn175 Hs175 Gs175 (by rw [← na175]; exact fits_nar_char _) W175 2 (by first | decide | (show 2 < 3; decide)) (by first | decide | (show 2 < 3; decide))
        show own_Go p e below _ (T175.setTop (mkF m 122 #[oI p0, oI p1, oI p2, oI p3, oI (p0 &&& (3 : Int32)), oI (f1 p1), oI (f1 p2), oI (f1 p3), .unset, .unset] [(.ref a147), (.ref a140), (.ref a140)]))
        obtain ⟨_, _, ⟨T184, L184, k184, n184⟩, -, X184, ⟨Lc184, hQ184, l184, y184, z184⟩, st184⟩ := X175.specialBack hx (y := (⟨"java/lang/String", "<init>", "([C)V"⟩ : MethodName)) rfl hown (mvT hZ (own_w hw 8)) (mvT hZ (own_w hw 9)) (mvT hZ (own_w hw 10)) (by decide) (backOf (W := 1) (rmI_3 l Z a0 hw [] a140 a147 k147 (f1 p1) (f1 p2) (f1 p3) wcs wsf h175 n0 Zs181 fr141 E178 F179 F180 V183 (Ne.symm (Nat.ne_of_lt lt148)) (own_pick p1) (own_pick p2) (own_pick p3) O177 hcs rsf B_wcs B_wsf B_wad B_whi B_wlo) hZ (own_w hw 10) (own_w hw 6) (by decide) (by decide)) (g := (mkF m 122 #[oI p0, oI p1, oI p2, oI p3, oI (p0 &&& (3 : Int32)), oI (f1 p1), oI (f1 p2), oI (f1 p3), .unset, .unset] [(.ref a147), (.ref a140), (.ref a140)])) rfl (by rw [hml]; rfl) (Steps.refl _) (a := a140) (argsL := [(.ref a147)]) (rest := [(.ref a140)]) (lenOf pd_0_1 rfl) rfl (by show 2 * 0 + _ ≤ _; exact Nat.le_of_eq rfl) (hb hby at_122) (fun _ _ => ⟨rfl, e175, (by decide : 2 + 2 ≤ _), (by decide : 7 + 9 ≤ _)⟩)
        dsimp only [Pt.U, Pt.locs, Pt.cells, Pt.slots] at X184 l184 y184 z184 st184 hQ184
        subst l184 y184 z184
        obtain ⟨rfl, Nq184, Kc184, SR184⟩ := hQ184
        have N185 := Fr.app N182 Nq184
        refine own_tr st184 ?_
        have hk186 := Nat.le_trans hk176 Kc184.1
        have O187 : Old Z n0 T184.heap := O177.keep Kc184 (allS fr141 all0)
        have E188 := E178.keep Kc184
        have V189 := V183.keep Kc184 (ninS (Ne.symm (Nat.ne_of_lt lt148)) nin0)
        have Zs190 : n0 ≤ T184.heap.size := Nat.le_trans Zs181 Kc184.1
        refine own_via (fun t kz => XS.astore X184.here hx rfl (hb hby at_125) rfl rfl (l' := #[oI p0, oI p1, oI p2, oI p3, oI (p0 &&& (3 : Int32)), oI (f1 p1), oI (f1 p2), oI (f1 p3), oR a140, .unset]) rfl kz) ?_
        refine own_via (fun t kz => XS.iload X184.here hx rfl (hb hby at_127) rfl kz) ?_
        refine own_via (fun t kz => XS.iconst X184.here hx rfl (hb hby at_129) kz) ?_
        show own_Go p e below _ (T184.setTop (mkF m 130 #[oI p0, oI p1, oI p2, oI p3, oI (p0 &&& (3 : Int32)), oI (f1 p1), oI (f1 p2), oI (f1 p3), oR a140, .unset] [(.int (1 : Int32)), (.int (p0 &&& (3 : Int32)))]))
        refine own_via (fun t kz => XS.icmpNo X184.here hx rfl (hb hby at_130) rfl (flt (by rw [h3]; decide : ¬ ((p0 &&& (3 : Int32)) < (1 : Int32)))).1 kz) ?_
        refine own_via (fun t kz => XS.iload X184.here hx rfl (hb hby at_133) rfl kz) ?_
        show own_Go p e below _ (T184.setTop (mkF m 135 #[oI p0, oI p1, oI p2, oI p3, oI (p0 &&& (3 : Int32)), oI (f1 p1), oI (f1 p2), oI (f1 p3), oR a140, .unset] [(.int (f1 p1))]))
        obtain ⟨_, _, ⟨T191, L191, k191, n191⟩, -, X191, ⟨Lc191, hQ191, l191, y191, z191⟩, st191⟩ := Jvm.LawKit.callS X184 hx (y := (⟨"com/example/push_to_tree/pushtotree/XmlCharsIsWhitespacePinLaw", "ws", "(C)Z"⟩ : MethodName)) hown (mvT hZ (own_w hw 51)) (mvT hZ (own_w hw 52)) (mvT hZ (own_w hw 2)) (mvT hZ (own_w hw 53)) (by decide) (backOf (W := 0) (rm11 l Z a0 hw [] (f1 p1) (f11 (f1 p1)) T184.heap n0 Zs190 rfl) hZ (own_w hw 53) (own_w hw 2) (by decide) (by decide)) (g := (mkF m 135 #[oI p0, oI p1, oI p2, oI p3, oI (p0 &&& (3 : Int32)), oI (f1 p1), oI (f1 p2), oI (f1 p3), oR a140, .unset] [(.int (f1 p1))])) rfl (by rw [hml]; rfl) (argsL := [(.int (f1 p1))]) (rest := []) (lenOf pd_0_3 rfl) rfl (by show 2 * 0 + _ ≤ _; exact Nat.le_of_eq rfl) (hb hby at_135) (fun _ _ => ⟨rfl, rfl, (by decide : 4 + 0 ≤ _), (by decide : 16 + 0 ≤ _)⟩)
        dsimp only [Pt.U, Pt.locs, Pt.cells, Pt.slots] at X191 l191 y191 z191 st191 hQ191
        subst l191 y191 z191
        obtain ⟨rfl, Nq191, e191⟩ := hQ191
        have N192 := Fr.app N185 Nq191
        refine own_via st191 ?_
        show own_Go p e below _ (T191.setTop (mkF m 138 #[oI p0, oI p1, oI p2, oI p3, oI (p0 &&& (3 : Int32)), oI (f1 p1), oI (f1 p2), oI (f1 p3), oR a140, .unset] [(.int (f11 (f1 p1)))]))
        by_cases hc138_193 : (f11 (f1 p1)) = (0 : Int32)
        · refine own_via (fun t kz => XS.ifYes X191.here hx rfl (pc0 := 138) (pc' := 173) rfl (hb hby at_138) rfl ((if0 _ _).trans (teq hc138_193).1) (by decide) (by decide) kz) ?_
          refine own_via (fun t kz => XS.iconst X191.here hx rfl (hb hby at_173) kz) ?_
          refine own_via (fun t kz => XS.istore X191.here hx rfl (hb hby at_174) rfl (l' := #[oI p0, oI p1, oI p2, oI p3, oI (p0 &&& (3 : Int32)), oI (f1 p1), oI (f1 p2), oI (f1 p3), oR a140, oI (0 : Int32)]) rfl kz) ?_
          refine own_via (fun t kz => XS.aload X191.here hx rfl (hb hby at_176) rfl rfl kz) ?_
          show own_Go p e below _ (T191.setTop (mkF m 178 #[oI p0, oI p1, oI p2, oI p3, oI (p0 &&& (3 : Int32)), oI (f1 p1), oI (f1 p2), oI (f1 p3), oR a140, oI (0 : Int32)] [(.ref a140)]))
          obtain ⟨_, _, ⟨T194, L194, k194, n194⟩, -, X194, ⟨Lc194, hQ194, l194, y194, z194⟩, st194⟩ := Jvm.LawKit.callS X191 hx (y := (⟨"com/example/push_to_tree/pushtotree/XmlChars", "isWhitespace", "(Ljava/lang/String;)Z"⟩ : MethodName)) hown (mvT hZ (own_w hw 26)) (mvT hZ (own_w hw 27)) (mvT hZ (own_w hw 28)) (mvT hZ (own_w hw 29)) (by decide) (backOf (W := 0) (rmW3 l Z a0 hw [] a140 (f1 p1) (f1 p2) (f1 p3) wcs wsf (fW3 (f1 p1) (f1 p2) (f1 p3)) T184.heap n0 Zs190 SR184 (own_pick p1) (own_pick p2) (own_pick p3) O187 hcs rsf B_wcs B_wsf B_wad B_whi B_wlo rfl) hZ (own_w hw 29) (own_w hw 28) (by decide) (by decide)) (g := (mkF m 178 #[oI p0, oI p1, oI p2, oI p3, oI (p0 &&& (3 : Int32)), oI (f1 p1), oI (f1 p2), oI (f1 p3), oR a140, oI (0 : Int32)] [(.ref a140)])) rfl (by rw [hml]; rfl) (argsL := [(.ref a140)]) (rest := []) (lenOf pd_0_2 rfl) rfl (by show 2 * 0 + _ ≤ _; exact Nat.le_of_eq rfl) (hb hby at_178) (fun _ _ => ⟨rfl, e191, (by decide : 4 + 0 ≤ _), (by decide : 16 + 0 ≤ _)⟩)
          dsimp only [Pt.U, Pt.locs, Pt.cells, Pt.slots] at X194 l194 y194 z194 st194 hQ194
          subst l194 y194 z194
          obtain ⟨rfl, Nq194, e194⟩ := hQ194
          have N195 := Fr.app N192 Nq194
          refine own_via st194 ?_
          refine own_via (fun t kz => XS.iload X194.here hx rfl (hb hby at_181) rfl kz) ?_
          show own_Go p e below _ (T194.setTop (mkF m 183 #[oI p0, oI p1, oI p2, oI p3, oI (p0 &&& (3 : Int32)), oI (f1 p1), oI (f1 p2), oI (f1 p3), oR a140, oI (0 : Int32)] [(.int (0 : Int32)), (.int (fW3 (f1 p1) (f1 p2) (f1 p3)))]))
          by_cases hc183_196 : (fW3 (f1 p1) (f1 p2) (f1 p3)) = (0 : Int32)
          · refine own_via (fun t kz => XS.icmpNo X194.here hx rfl (hb hby at_183) rfl (teq hc183_196).2 kz) ?_
            refine own_via (fun t kz => XS.iconst X194.here hx rfl (hb hby at_186) kz) ?_
            refine own_via (fun t kz => XS.goto X194.here hx rfl (pc0 := 187) (pc' := 191) rfl (hb hby at_187) (by decide) (by decide) kz) ?_
            show own_Go p e below _ (T194.setTop (mkF m 191 #[oI p0, oI p1, oI p2, oI p3, oI (p0 &&& (3 : Int32)), oI (f1 p1), oI (f1 p2), oI (f1 p3), oR a140, oI (0 : Int32)] [(.int (1 : Int32))]))
            have hv : f0 p0 p1 p2 p3 = (1 : Int32) := by unfold f0; rw [if_neg hc25_7, if_neg hc46_34, if_neg hc72_79, if_pos hc138_193, if_pos hc183_196]
            obtain ⟨fs, hr, hrun, hended, hEnd⟩ := Jvm.Stand.leaveW (s := s) (vm₁ := s.vm) X194 hS0 (show _ ≤ T194.heap.size by rw [e194]; exact hk186) (v := some (.int (1 : Int32))) (fun h => by rw [Bd.returns] at h; cases h)
            refine ⟨_, _, retN X194 hx (t := .boolean) Bd.returns (by simp) (hb hby at_191) hr, hrun, hended, _, _, rfl, ?_, ⟨hEnd.1, hEnd.2.1, hEnd.2.2.1, hEnd.2.2.2.mono (by decide) (by decide)⟩⟩
            show Q0 Z p0 p1 p2 p3 wcs wsf h0 n0 _ T194.heap _
            rw [e194]
            exact ⟨rfl, N195⟩
          · refine own_via (fun t kz => XS.icmpYes X194.here hx rfl (pc0 := 183) (pc' := 190) rfl (hb hby at_183) rfl (feq hc183_196).2 (by decide) (by decide) kz) ?_
            refine own_via (fun t kz => XS.iconst X194.here hx rfl (hb hby at_190) kz) ?_
            show own_Go p e below _ (T194.setTop (mkF m 191 #[oI p0, oI p1, oI p2, oI p3, oI (p0 &&& (3 : Int32)), oI (f1 p1), oI (f1 p2), oI (f1 p3), oR a140, oI (0 : Int32)] [(.int (0 : Int32))]))
            have hv : f0 p0 p1 p2 p3 = (0 : Int32) := by unfold f0; rw [if_neg hc25_7, if_neg hc46_34, if_neg hc72_79, if_pos hc138_193, if_neg hc183_196]
            exact absurd ((own_plain p0 p1 p2 p3 ).symm.trans hv) (by decide)
        · refine own_via (fun t kz => XS.ifNo X191.here hx rfl (hb hby at_138) rfl ((if0 _ _).trans (feq hc138_193).1) kz) ?_
          refine own_via (fun t kz => XS.iload X191.here hx rfl (hb hby at_141) rfl kz) ?_
          refine own_via (fun t kz => XS.iconst X191.here hx rfl (hb hby at_143) kz) ?_
          show own_Go p e below _ (T191.setTop (mkF m 144 #[oI p0, oI p1, oI p2, oI p3, oI (p0 &&& (3 : Int32)), oI (f1 p1), oI (f1 p2), oI (f1 p3), oR a140, .unset] [(.int (2 : Int32)), (.int (p0 &&& (3 : Int32)))]))
          refine own_via (fun t kz => XS.icmpNo X191.here hx rfl (hb hby at_144) rfl (flt (by rw [h3]; decide : ¬ ((p0 &&& (3 : Int32)) < (2 : Int32)))).1 kz) ?_
          refine own_via (fun t kz => XS.iload X191.here hx rfl (hb hby at_147) rfl kz) ?_
          show own_Go p e below _ (T191.setTop (mkF m 149 #[oI p0, oI p1, oI p2, oI p3, oI (p0 &&& (3 : Int32)), oI (f1 p1), oI (f1 p2), oI (f1 p3), oR a140, .unset] [(.int (f1 p2))]))
          obtain ⟨_, _, ⟨T198, L198, k198, n198⟩, -, X198, ⟨Lc198, hQ198, l198, y198, z198⟩, st198⟩ := Jvm.LawKit.callS X191 hx (y := (⟨"com/example/push_to_tree/pushtotree/XmlCharsIsWhitespacePinLaw", "ws", "(C)Z"⟩ : MethodName)) hown (mvT hZ (own_w hw 51)) (mvT hZ (own_w hw 52)) (mvT hZ (own_w hw 2)) (mvT hZ (own_w hw 53)) (by decide) (backOf (W := 0) (rm11 l Z a0 hw [] (f1 p2) (f11 (f1 p2)) T184.heap n0 Zs190 rfl) hZ (own_w hw 53) (own_w hw 2) (by decide) (by decide)) (g := (mkF m 149 #[oI p0, oI p1, oI p2, oI p3, oI (p0 &&& (3 : Int32)), oI (f1 p1), oI (f1 p2), oI (f1 p3), oR a140, .unset] [(.int (f1 p2))])) rfl (by rw [hml]; rfl) (argsL := [(.int (f1 p2))]) (rest := []) (lenOf pd_0_3 rfl) rfl (by show 2 * 0 + _ ≤ _; exact Nat.le_of_eq rfl) (hb hby at_149) (fun _ _ => ⟨rfl, e191, (by decide : 4 + 0 ≤ _), (by decide : 16 + 0 ≤ _)⟩)
          dsimp only [Pt.U, Pt.locs, Pt.cells, Pt.slots] at X198 l198 y198 z198 st198 hQ198
          subst l198 y198 z198
          obtain ⟨rfl, Nq198, e198⟩ := hQ198
          have N199 := Fr.app N192 Nq198
          refine own_via st198 ?_
          show own_Go p e below _ (T198.setTop (mkF m 152 #[oI p0, oI p1, oI p2, oI p3, oI (p0 &&& (3 : Int32)), oI (f1 p1), oI (f1 p2), oI (f1 p3), oR a140, .unset] [(.int (f11 (f1 p2)))]))
          by_cases hc152_200 : (f11 (f1 p2)) = (0 : Int32)
          · refine own_via (fun t kz => XS.ifYes X198.here hx rfl (pc0 := 152) (pc' := 173) rfl (hb hby at_152) rfl ((if0 _ _).trans (teq hc152_200).1) (by decide) (by decide) kz) ?_
            refine own_via (fun t kz => XS.iconst X198.here hx rfl (hb hby at_173) kz) ?_
            refine own_via (fun t kz => XS.istore X198.here hx rfl (hb hby at_174) rfl (l' := #[oI p0, oI p1, oI p2, oI p3, oI (p0 &&& (3 : Int32)), oI (f1 p1), oI (f1 p2), oI (f1 p3), oR a140, oI (0 : Int32)]) rfl kz) ?_
            refine own_via (fun t kz => XS.aload X198.here hx rfl (hb hby at_176) rfl rfl kz) ?_
            show own_Go p e below _ (T198.setTop (mkF m 178 #[oI p0, oI p1, oI p2, oI p3, oI (p0 &&& (3 : Int32)), oI (f1 p1), oI (f1 p2), oI (f1 p3), oR a140, oI (0 : Int32)] [(.ref a140)]))
            obtain ⟨_, _, ⟨T201, L201, k201, n201⟩, -, X201, ⟨Lc201, hQ201, l201, y201, z201⟩, st201⟩ := Jvm.LawKit.callS X198 hx (y := (⟨"com/example/push_to_tree/pushtotree/XmlChars", "isWhitespace", "(Ljava/lang/String;)Z"⟩ : MethodName)) hown (mvT hZ (own_w hw 26)) (mvT hZ (own_w hw 27)) (mvT hZ (own_w hw 28)) (mvT hZ (own_w hw 29)) (by decide) (backOf (W := 0) (rmW3 l Z a0 hw [] a140 (f1 p1) (f1 p2) (f1 p3) wcs wsf (fW3 (f1 p1) (f1 p2) (f1 p3)) T184.heap n0 Zs190 SR184 (own_pick p1) (own_pick p2) (own_pick p3) O187 hcs rsf B_wcs B_wsf B_wad B_whi B_wlo rfl) hZ (own_w hw 29) (own_w hw 28) (by decide) (by decide)) (g := (mkF m 178 #[oI p0, oI p1, oI p2, oI p3, oI (p0 &&& (3 : Int32)), oI (f1 p1), oI (f1 p2), oI (f1 p3), oR a140, oI (0 : Int32)] [(.ref a140)])) rfl (by rw [hml]; rfl) (argsL := [(.ref a140)]) (rest := []) (lenOf pd_0_2 rfl) rfl (by show 2 * 0 + _ ≤ _; exact Nat.le_of_eq rfl) (hb hby at_178) (fun _ _ => ⟨rfl, e198, (by decide : 4 + 0 ≤ _), (by decide : 16 + 0 ≤ _)⟩)
            dsimp only [Pt.U, Pt.locs, Pt.cells, Pt.slots] at X201 l201 y201 z201 st201 hQ201
            subst l201 y201 z201
            obtain ⟨rfl, Nq201, e201⟩ := hQ201
            have N202 := Fr.app N199 Nq201
            refine own_via st201 ?_
            refine own_via (fun t kz => XS.iload X201.here hx rfl (hb hby at_181) rfl kz) ?_
            show own_Go p e below _ (T201.setTop (mkF m 183 #[oI p0, oI p1, oI p2, oI p3, oI (p0 &&& (3 : Int32)), oI (f1 p1), oI (f1 p2), oI (f1 p3), oR a140, oI (0 : Int32)] [(.int (0 : Int32)), (.int (fW3 (f1 p1) (f1 p2) (f1 p3)))]))
            by_cases hc183_203 : (fW3 (f1 p1) (f1 p2) (f1 p3)) = (0 : Int32)
            · refine own_via (fun t kz => XS.icmpNo X201.here hx rfl (hb hby at_183) rfl (teq hc183_203).2 kz) ?_
              refine own_via (fun t kz => XS.iconst X201.here hx rfl (hb hby at_186) kz) ?_
              refine own_via (fun t kz => XS.goto X201.here hx rfl (pc0 := 187) (pc' := 191) rfl (hb hby at_187) (by decide) (by decide) kz) ?_
              show own_Go p e below _ (T201.setTop (mkF m 191 #[oI p0, oI p1, oI p2, oI p3, oI (p0 &&& (3 : Int32)), oI (f1 p1), oI (f1 p2), oI (f1 p3), oR a140, oI (0 : Int32)] [(.int (1 : Int32))]))
              have hv : f0 p0 p1 p2 p3 = (1 : Int32) := by unfold f0; rw [if_neg hc25_7, if_neg hc46_34, if_neg hc72_79, if_neg hc138_193, if_pos hc152_200, if_pos hc183_203]
              obtain ⟨fs, hr, hrun, hended, hEnd⟩ := Jvm.Stand.leaveW (s := s) (vm₁ := s.vm) X201 hS0 (show _ ≤ T201.heap.size by rw [e201]; exact hk186) (v := some (.int (1 : Int32))) (fun h => by rw [Bd.returns] at h; cases h)
              refine ⟨_, _, retN X201 hx (t := .boolean) Bd.returns (by simp) (hb hby at_191) hr, hrun, hended, _, _, rfl, ?_, ⟨hEnd.1, hEnd.2.1, hEnd.2.2.1, hEnd.2.2.2.mono (by decide) (by decide)⟩⟩
              show Q0 Z p0 p1 p2 p3 wcs wsf h0 n0 _ T201.heap _
              rw [e201]
              exact ⟨rfl, N202⟩
            · refine own_via (fun t kz => XS.icmpYes X201.here hx rfl (pc0 := 183) (pc' := 190) rfl (hb hby at_183) rfl (feq hc183_203).2 (by decide) (by decide) kz) ?_
              refine own_via (fun t kz => XS.iconst X201.here hx rfl (hb hby at_190) kz) ?_
              show own_Go p e below _ (T201.setTop (mkF m 191 #[oI p0, oI p1, oI p2, oI p3, oI (p0 &&& (3 : Int32)), oI (f1 p1), oI (f1 p2), oI (f1 p3), oR a140, oI (0 : Int32)] [(.int (0 : Int32))]))
              have hv : f0 p0 p1 p2 p3 = (0 : Int32) := by unfold f0; rw [if_neg hc25_7, if_neg hc46_34, if_neg hc72_79, if_neg hc138_193, if_pos hc152_200, if_neg hc183_203]
              exact absurd ((own_plain p0 p1 p2 p3 ).symm.trans hv) (by decide)
          · refine own_via (fun t kz => XS.ifNo X198.here hx rfl (hb hby at_152) rfl ((if0 _ _).trans (feq hc152_200).1) kz) ?_
            refine own_via (fun t kz => XS.iload X198.here hx rfl (hb hby at_155) rfl kz) ?_
            refine own_via (fun t kz => XS.iconst X198.here hx rfl (hb hby at_157) kz) ?_
            show own_Go p e below _ (T198.setTop (mkF m 158 #[oI p0, oI p1, oI p2, oI p3, oI (p0 &&& (3 : Int32)), oI (f1 p1), oI (f1 p2), oI (f1 p3), oR a140, .unset] [(.int (3 : Int32)), (.int (p0 &&& (3 : Int32)))]))
            refine own_via (fun t kz => XS.icmpNo X198.here hx rfl (hb hby at_158) rfl (flt (by rw [h3]; decide : ¬ ((p0 &&& (3 : Int32)) < (3 : Int32)))).1 kz) ?_
            refine own_via (fun t kz => XS.iload X198.here hx rfl (hb hby at_161) rfl kz) ?_
            show own_Go p e below _ (T198.setTop (mkF m 163 #[oI p0, oI p1, oI p2, oI p3, oI (p0 &&& (3 : Int32)), oI (f1 p1), oI (f1 p2), oI (f1 p3), oR a140, .unset] [(.int (f1 p3))]))
            obtain ⟨_, _, ⟨T205, L205, k205, n205⟩, -, X205, ⟨Lc205, hQ205, l205, y205, z205⟩, st205⟩ := Jvm.LawKit.callS X198 hx (y := (⟨"com/example/push_to_tree/pushtotree/XmlCharsIsWhitespacePinLaw", "ws", "(C)Z"⟩ : MethodName)) hown (mvT hZ (own_w hw 51)) (mvT hZ (own_w hw 52)) (mvT hZ (own_w hw 2)) (mvT hZ (own_w hw 53)) (by decide) (backOf (W := 0) (rm11 l Z a0 hw [] (f1 p3) (f11 (f1 p3)) T184.heap n0 Zs190 rfl) hZ (own_w hw 53) (own_w hw 2) (by decide) (by decide)) (g := (mkF m 163 #[oI p0, oI p1, oI p2, oI p3, oI (p0 &&& (3 : Int32)), oI (f1 p1), oI (f1 p2), oI (f1 p3), oR a140, .unset] [(.int (f1 p3))])) rfl (by rw [hml]; rfl) (argsL := [(.int (f1 p3))]) (rest := []) (lenOf pd_0_3 rfl) rfl (by show 2 * 0 + _ ≤ _; exact Nat.le_of_eq rfl) (hb hby at_163) (fun _ _ => ⟨rfl, e198, (by decide : 4 + 0 ≤ _), (by decide : 16 + 0 ≤ _)⟩)
            dsimp only [Pt.U, Pt.locs, Pt.cells, Pt.slots] at X205 l205 y205 z205 st205 hQ205
            subst l205 y205 z205
            obtain ⟨rfl, Nq205, e205⟩ := hQ205
            have N206 := Fr.app N199 Nq205
            refine own_via st205 ?_
            show own_Go p e below _ (T205.setTop (mkF m 166 #[oI p0, oI p1, oI p2, oI p3, oI (p0 &&& (3 : Int32)), oI (f1 p1), oI (f1 p2), oI (f1 p3), oR a140, .unset] [(.int (f11 (f1 p3)))]))
            by_cases hc166_207 : (f11 (f1 p3)) = (0 : Int32)
            · refine own_via (fun t kz => XS.ifYes X205.here hx rfl (pc0 := 166) (pc' := 173) rfl (hb hby at_166) rfl ((if0 _ _).trans (teq hc166_207).1) (by decide) (by decide) kz) ?_
              refine own_via (fun t kz => XS.iconst X205.here hx rfl (hb hby at_173) kz) ?_
              refine own_via (fun t kz => XS.istore X205.here hx rfl (hb hby at_174) rfl (l' := #[oI p0, oI p1, oI p2, oI p3, oI (p0 &&& (3 : Int32)), oI (f1 p1), oI (f1 p2), oI (f1 p3), oR a140, oI (0 : Int32)]) rfl kz) ?_
              refine own_via (fun t kz => XS.aload X205.here hx rfl (hb hby at_176) rfl rfl kz) ?_
              show own_Go p e below _ (T205.setTop (mkF m 178 #[oI p0, oI p1, oI p2, oI p3, oI (p0 &&& (3 : Int32)), oI (f1 p1), oI (f1 p2), oI (f1 p3), oR a140, oI (0 : Int32)] [(.ref a140)]))
              obtain ⟨_, _, ⟨T208, L208, k208, n208⟩, -, X208, ⟨Lc208, hQ208, l208, y208, z208⟩, st208⟩ := Jvm.LawKit.callS X205 hx (y := (⟨"com/example/push_to_tree/pushtotree/XmlChars", "isWhitespace", "(Ljava/lang/String;)Z"⟩ : MethodName)) hown (mvT hZ (own_w hw 26)) (mvT hZ (own_w hw 27)) (mvT hZ (own_w hw 28)) (mvT hZ (own_w hw 29)) (by decide) (backOf (W := 0) (rmW3 l Z a0 hw [] a140 (f1 p1) (f1 p2) (f1 p3) wcs wsf (fW3 (f1 p1) (f1 p2) (f1 p3)) T184.heap n0 Zs190 SR184 (own_pick p1) (own_pick p2) (own_pick p3) O187 hcs rsf B_wcs B_wsf B_wad B_whi B_wlo rfl) hZ (own_w hw 29) (own_w hw 28) (by decide) (by decide)) (g := (mkF m 178 #[oI p0, oI p1, oI p2, oI p3, oI (p0 &&& (3 : Int32)), oI (f1 p1), oI (f1 p2), oI (f1 p3), oR a140, oI (0 : Int32)] [(.ref a140)])) rfl (by rw [hml]; rfl) (argsL := [(.ref a140)]) (rest := []) (lenOf pd_0_2 rfl) rfl (by show 2 * 0 + _ ≤ _; exact Nat.le_of_eq rfl) (hb hby at_178) (fun _ _ => ⟨rfl, e205, (by decide : 4 + 0 ≤ _), (by decide : 16 + 0 ≤ _)⟩)
              dsimp only [Pt.U, Pt.locs, Pt.cells, Pt.slots] at X208 l208 y208 z208 st208 hQ208
              subst l208 y208 z208
              obtain ⟨rfl, Nq208, e208⟩ := hQ208
              have N209 := Fr.app N206 Nq208
              refine own_via st208 ?_
              refine own_via (fun t kz => XS.iload X208.here hx rfl (hb hby at_181) rfl kz) ?_
              show own_Go p e below _ (T208.setTop (mkF m 183 #[oI p0, oI p1, oI p2, oI p3, oI (p0 &&& (3 : Int32)), oI (f1 p1), oI (f1 p2), oI (f1 p3), oR a140, oI (0 : Int32)] [(.int (0 : Int32)), (.int (fW3 (f1 p1) (f1 p2) (f1 p3)))]))
              by_cases hc183_210 : (fW3 (f1 p1) (f1 p2) (f1 p3)) = (0 : Int32)
              · refine own_via (fun t kz => XS.icmpNo X208.here hx rfl (hb hby at_183) rfl (teq hc183_210).2 kz) ?_
                refine own_via (fun t kz => XS.iconst X208.here hx rfl (hb hby at_186) kz) ?_
                refine own_via (fun t kz => XS.goto X208.here hx rfl (pc0 := 187) (pc' := 191) rfl (hb hby at_187) (by decide) (by decide) kz) ?_
                show own_Go p e below _ (T208.setTop (mkF m 191 #[oI p0, oI p1, oI p2, oI p3, oI (p0 &&& (3 : Int32)), oI (f1 p1), oI (f1 p2), oI (f1 p3), oR a140, oI (0 : Int32)] [(.int (1 : Int32))]))
                have hv : f0 p0 p1 p2 p3 = (1 : Int32) := by unfold f0; rw [if_neg hc25_7, if_neg hc46_34, if_neg hc72_79, if_neg hc138_193, if_neg hc152_200, if_pos hc166_207, if_pos hc183_210]
                obtain ⟨fs, hr, hrun, hended, hEnd⟩ := Jvm.Stand.leaveW (s := s) (vm₁ := s.vm) X208 hS0 (show _ ≤ T208.heap.size by rw [e208]; exact hk186) (v := some (.int (1 : Int32))) (fun h => by rw [Bd.returns] at h; cases h)
                refine ⟨_, _, retN X208 hx (t := .boolean) Bd.returns (by simp) (hb hby at_191) hr, hrun, hended, _, _, rfl, ?_, ⟨hEnd.1, hEnd.2.1, hEnd.2.2.1, hEnd.2.2.2.mono (by decide) (by decide)⟩⟩
                show Q0 Z p0 p1 p2 p3 wcs wsf h0 n0 _ T208.heap _
                rw [e208]
                exact ⟨rfl, N209⟩
              · refine own_via (fun t kz => XS.icmpYes X208.here hx rfl (pc0 := 183) (pc' := 190) rfl (hb hby at_183) rfl (feq hc183_210).2 (by decide) (by decide) kz) ?_
                refine own_via (fun t kz => XS.iconst X208.here hx rfl (hb hby at_190) kz) ?_
                show own_Go p e below _ (T208.setTop (mkF m 191 #[oI p0, oI p1, oI p2, oI p3, oI (p0 &&& (3 : Int32)), oI (f1 p1), oI (f1 p2), oI (f1 p3), oR a140, oI (0 : Int32)] [(.int (0 : Int32))]))
                have hv : f0 p0 p1 p2 p3 = (0 : Int32) := by unfold f0; rw [if_neg hc25_7, if_neg hc46_34, if_neg hc72_79, if_neg hc138_193, if_neg hc152_200, if_pos hc166_207, if_neg hc183_210]
                exact absurd ((own_plain p0 p1 p2 p3 ).symm.trans hv) (by decide)
            · refine own_via (fun t kz => XS.ifNo X205.here hx rfl (hb hby at_166) rfl ((if0 _ _).trans (feq hc166_207).1) kz) ?_
              refine own_via (fun t kz => XS.iconst X205.here hx rfl (hb hby at_169) kz) ?_
              refine own_via (fun t kz => XS.goto X205.here hx rfl (pc0 := 170) (pc' := 174) rfl (hb hby at_170) (by decide) (by decide) kz) ?_
              refine own_via (fun t kz => XS.istore X205.here hx rfl (hb hby at_174) rfl (l' := #[oI p0, oI p1, oI p2, oI p3, oI (p0 &&& (3 : Int32)), oI (f1 p1), oI (f1 p2), oI (f1 p3), oR a140, oI (1 : Int32)]) rfl kz) ?_
              refine own_via (fun t kz => XS.aload X205.here hx rfl (hb hby at_176) rfl rfl kz) ?_
              show own_Go p e below _ (T205.setTop (mkF m 178 #[oI p0, oI p1, oI p2, oI p3, oI (p0 &&& (3 : Int32)), oI (f1 p1), oI (f1 p2), oI (f1 p3), oR a140, oI (1 : Int32)] [(.ref a140)]))
              obtain ⟨_, _, ⟨T212, L212, k212, n212⟩, -, X212, ⟨Lc212, hQ212, l212, y212, z212⟩, st212⟩ := Jvm.LawKit.callS X205 hx (y := (⟨"com/example/push_to_tree/pushtotree/XmlChars", "isWhitespace", "(Ljava/lang/String;)Z"⟩ : MethodName)) hown (mvT hZ (own_w hw 26)) (mvT hZ (own_w hw 27)) (mvT hZ (own_w hw 28)) (mvT hZ (own_w hw 29)) (by decide) (backOf (W := 0) (rmW3 l Z a0 hw [] a140 (f1 p1) (f1 p2) (f1 p3) wcs wsf (fW3 (f1 p1) (f1 p2) (f1 p3)) T184.heap n0 Zs190 SR184 (own_pick p1) (own_pick p2) (own_pick p3) O187 hcs rsf B_wcs B_wsf B_wad B_whi B_wlo rfl) hZ (own_w hw 29) (own_w hw 28) (by decide) (by decide)) (g := (mkF m 178 #[oI p0, oI p1, oI p2, oI p3, oI (p0 &&& (3 : Int32)), oI (f1 p1), oI (f1 p2), oI (f1 p3), oR a140, oI (1 : Int32)] [(.ref a140)])) rfl (by rw [hml]; rfl) (argsL := [(.ref a140)]) (rest := []) (lenOf pd_0_2 rfl) rfl (by show 2 * 0 + _ ≤ _; exact Nat.le_of_eq rfl) (hb hby at_178) (fun _ _ => ⟨rfl, e205, (by decide : 4 + 0 ≤ _), (by decide : 16 + 0 ≤ _)⟩)
              dsimp only [Pt.U, Pt.locs, Pt.cells, Pt.slots] at X212 l212 y212 z212 st212 hQ212
              subst l212 y212 z212
              obtain ⟨rfl, Nq212, e212⟩ := hQ212
              have N213 := Fr.app N206 Nq212
              refine own_via st212 ?_
              refine own_via (fun t kz => XS.iload X212.here hx rfl (hb hby at_181) rfl kz) ?_
              show own_Go p e below _ (T212.setTop (mkF m 183 #[oI p0, oI p1, oI p2, oI p3, oI (p0 &&& (3 : Int32)), oI (f1 p1), oI (f1 p2), oI (f1 p3), oR a140, oI (1 : Int32)] [(.int (1 : Int32)), (.int (fW3 (f1 p1) (f1 p2) (f1 p3)))]))
              by_cases hc183_214 : (fW3 (f1 p1) (f1 p2) (f1 p3)) = (1 : Int32)
              · refine own_via (fun t kz => XS.icmpNo X212.here hx rfl (hb hby at_183) rfl (teq hc183_214).2 kz) ?_
                refine own_via (fun t kz => XS.iconst X212.here hx rfl (hb hby at_186) kz) ?_
                refine own_via (fun t kz => XS.goto X212.here hx rfl (pc0 := 187) (pc' := 191) rfl (hb hby at_187) (by decide) (by decide) kz) ?_
                show own_Go p e below _ (T212.setTop (mkF m 191 #[oI p0, oI p1, oI p2, oI p3, oI (p0 &&& (3 : Int32)), oI (f1 p1), oI (f1 p2), oI (f1 p3), oR a140, oI (1 : Int32)] [(.int (1 : Int32))]))
                have hv : f0 p0 p1 p2 p3 = (1 : Int32) := by unfold f0; rw [if_neg hc25_7, if_neg hc46_34, if_neg hc72_79, if_neg hc138_193, if_neg hc152_200, if_neg hc166_207, if_pos hc183_214]
                obtain ⟨fs, hr, hrun, hended, hEnd⟩ := Jvm.Stand.leaveW (s := s) (vm₁ := s.vm) X212 hS0 (show _ ≤ T212.heap.size by rw [e212]; exact hk186) (v := some (.int (1 : Int32))) (fun h => by rw [Bd.returns] at h; cases h)
                refine ⟨_, _, retN X212 hx (t := .boolean) Bd.returns (by simp) (hb hby at_191) hr, hrun, hended, _, _, rfl, ?_, ⟨hEnd.1, hEnd.2.1, hEnd.2.2.1, hEnd.2.2.2.mono (by decide) (by decide)⟩⟩
                show Q0 Z p0 p1 p2 p3 wcs wsf h0 n0 _ T212.heap _
                rw [e212]
                exact ⟨rfl, N213⟩
              · refine own_via (fun t kz => XS.icmpYes X212.here hx rfl (pc0 := 183) (pc' := 190) rfl (hb hby at_183) rfl (feq hc183_214).2 (by decide) (by decide) kz) ?_
                refine own_via (fun t kz => XS.iconst X212.here hx rfl (hb hby at_190) kz) ?_
                show own_Go p e below _ (T212.setTop (mkF m 191 #[oI p0, oI p1, oI p2, oI p3, oI (p0 &&& (3 : Int32)), oI (f1 p1), oI (f1 p2), oI (f1 p3), oR a140, oI (1 : Int32)] [(.int (0 : Int32))]))
                have hv : f0 p0 p1 p2 p3 = (0 : Int32) := by unfold f0; rw [if_neg hc25_7, if_neg hc46_34, if_neg hc72_79, if_neg hc138_193, if_neg hc152_200, if_neg hc166_207, if_neg hc183_214]
                exact absurd ((own_plain p0 p1 p2 p3 ).symm.trans hv) (by decide)
set_option maxRecDepth 65536 in
set_option maxHeartbeats 40000000 in
theorem comes_1 {Post : Tables → Env → Array Value → State → Outcome → State → Prop} (hpost : ∀ tb e args s v u, (limb_1_1.after args s (.returned v) u = true ∧ limb_1_2.after args s (.returned v) u = true ∧ True) → ReturnedEndW s (.returned v) u (Jvm.fieldLocs frame_1_writes args s ++ Jvm.arrayLocs frame_1_arrays args s ++ Jvm.staticLocs frame_1_statics s) 24 1152 → Post tb e args s (.returned v) u) :
    ArmFor flags0 classFile x code maxLocals ret World_1 tables_1 room_1 Calls_1 rest_1 Pre_1 Post := by
  intro l hfl _ _ p e ha hc hk s m args below hf hA hF happ hP
  obtain ⟨hcalls, hrest, hpre⟩ := hP
  obtain ⟨-, -, -, hnamed, -, -, -, hat⟩ := (Spec.applies_iff hf).mp happ
  obtain ⟨hg, hn⟩ := and_e (Cond.before_iff.mp (show (Jvm.Cond.and given_1 narrow_1).before args s = true from hpre))
  obtain ⟨g1, g2⟩ := and_e hg
  obtain ⟨g3, g4⟩ := and_e g2
  obtain ⟨g5, g6⟩ := and_e g4
  obtain ⟨g7, g8⟩ := and_e g6
  obtain ⟨w0, w1, w2, w3, rfl⟩ : ∃ w0 w1 w2 w3 : Value, args = #[w0, w1, w2, w3] := by
    have hs : args.size = 4 := by simpa [Cond.value, given_1] using g1
    obtain ⟨L⟩ := args
    match L, hs with
    | [w0, w1, w2, w3], _ => exact ⟨w0, w1, w2, w3, rfl⟩
  obtain ⟨hsets, hown0⟩ := atoms_of _ (rest_1_c_eq ▸ (show rest_1_c.before _ s = true from hrest))
  have hw := fun d (hd : d ∈ tables_1) => atoms_spec (ws := Jvm.Cond.code x code maxLocals ret :: tables_1) hat d (List.mem_cons_of_mem _ hd)
  obtain ⟨i0, ei0⟩ := is_v g3
  obtain rfl : w0 = (.int i0) := Option.some.inj ei0
  obtain ⟨i1, ei1⟩ := is_v g5
  obtain rfl : w1 = (.int i1) := Option.some.inj ei1
  obtain ⟨i2, ei2⟩ := is_v g7
  obtain rfl : w2 = (.int i2) := Option.some.inj ei2
  obtain ⟨i3, ei3⟩ := is_v g8
  obtain rfl : w3 = (.int i3) := Option.some.inj ei3
  obtain ⟨wcs, evcs⟩ := is_v (Cond.before_iff.mp (hsets _ (List.mem_of_getElem? (i := 1) rfl)))
  have B_wcs := Sta.start evcs (Or.inl (hsets _ (List.mem_of_getElem? (i := 0) rfl)))
  have hcs : ¬ (wcs = (0 : Int32)) := own_ne0 evcs (Cond.before_iff.mp (hsets _ (List.mem_of_getElem? (i := 2) rfl)))
  obtain ⟨wsf, evsf, rsf⟩ := isR_v (Cond.before_iff.mp (hsets _ (List.mem_of_getElem? (i := 8) rfl)))
  have B_wsf := Sta.start evsf (Or.inl (hsets _ (List.mem_of_getElem? (i := 7) rfl)))
  have B_wad := Sta.start (own_seq (k := (1 : Int32)) (Cond.before_iff.mp (hsets _ (List.mem_of_getElem? (i := 12) rfl)))) (Or.inl (hsets _ (List.mem_of_getElem? (i := 11) rfl)))
  have B_whi := Sta.start (own_seq (k := (0 : Int32)) (Cond.before_iff.mp (hsets _ (List.mem_of_getElem? (i := 15) rfl)))) (Or.inl (hsets _ (List.mem_of_getElem? (i := 14) rfl)))
  have B_wlo := Sta.start (own_seq (k := (8 : Int32)) (Cond.before_iff.mp (hsets _ (List.mem_of_getElem? (i := 18) rfl)))) (Or.inl (hsets _ (List.mem_of_getElem? (i := 17) rfl)))
  have OLD : Old s s.heap.size s.heap := Old.start s
  have hcw : Jvm.Lit.compactW.before _ s = true := hsets _ (List.mem_of_getElem? (i := 2) rfl)
  have own_held : ∀ p ∈ own_EL, Jvm.Lit.constHeld s p.1 p.2 := fun p hp => hcalls.1 p hp
  have HC : CHv s own_EL s.vm s.heap := CHv.start (own_hEL hw) own_held hcw (own_sa hw _ (List.mem_of_getElem? (i := 2) rfl)) (own_sa hw _ (List.mem_of_getElem? (i := 1) rfl))
  obtain ⟨n, o, h1, h2, h3, _, L, rfl, ⟨rfl, N⟩, hq⟩ := rm0 l s _ hw tables_1 i0 i1 i2 i3 wcs wsf s.heap s.heap.size (Nat.le_refl _) OLD hcs rsf B_wcs B_wsf B_wad B_whi B_wlo p e ha hc hk s m _ below hf ((Spec.applies_iff_loose hf).mp happ).1 ⟨rfl, State.Warmed39.refl s, rfl, HC⟩ trivial
  refine ⟨n, _, h1, h2, h3, hpost _ _ _ _ _ _ ⟨Cond.after_iff.mpr rfl, Cond.after_iff.mpr (eq_i res_at (Term.int_eval (1)) rfl), trivial⟩ ⟨hq.1, hq.2.1, hq.2.2.1, (hq.2.2.2.sift fun y hy => Or.inr (N y hy)).mono (by decide) (by decide)⟩⟩
theorem main_1_1 : Claimed_1_1 := comes_1 fun _ _ _ _ _ _ h hF => ⟨h.1, hF⟩
theorem main_1_2 : Claimed_1_2 := comes_1 fun _ _ _ _ _ _ h hF => ⟨h.2.1, hF⟩
end Jvm.Pilot.@@N@@
namespace Jvm.Pilot.@@N@@
open Jvm Jvm.ClassFile Sem Op Lib Jvm.Free Jvm.Stand Jvm.Pilot.@@N@@.Jvm.D
/-! MADE BY PROGRAM (witnessworld.py) out of the Statement's table words and the real class files: 20 classes; the members and pool entries that the words name. The judged class is class 1, her method 3. -/
namespace start1
open Jvm.ClassFile
def u (s : String) : CpInfo := .utf8 (stringToUtf16 s)
/-- a pool by its gaps: so many unusable entries, then the entry; so many at the end -/
def gap : Nat → List CpInfo → List CpInfo
  | 0, r => r
  | n + 1, r => .unusable :: gap n r
def poolList (es : List (Nat × CpInfo)) (last : Nat) : List CpInfo := es.foldr (fun e r => gap e.1 (e.2 :: r)) (gap last [])
def pool (es : List (Nat × CpInfo)) (last : Nat) : Array CpInfo := ⟨poolList es last⟩
def fileOf (pool : Array CpInfo) (this : Nat) (attrs : Array Attribute := #[]) (ms : Array MethodInfo := #[]) (fl : Nat := 33) (sup : Nat := 0) (ifs : Array Nat := #[]) (fds : Array FieldInfo := #[]) : ClassFile where
  minorVersion := 0
  majorVersion := 65
  constantPool := pool
  accessFlags := fl
  thisClass := this
  superClass := sup
  interfaces := ifs
  fields := fds
  methods := ms
  attributes := attrs
def plain (name : String) (sup : Option ClassId) : Class where
  name := name
  kind := .ordinary
  loader := none
  accessFlags := 33
  super := sup
  interfaces := #[]
  cf := none
  fields := #[]
  methods := #[]
  instanceTypes := #[]
  staticTypes := #[]
  resolved := #[]
  callSites := []
  init := .initialized
  statics := none
  mirror := none

def pool0 : Array CpInfo := pool [(5, u "<init>"), (0, u "()V"), (1, .class_ 10), (1, u "java/lang/Object")] 113

def k0c0 : Code := { maxStack := 0, maxLocals := 1, code := object_method_1_code, exceptionTable := #[], attributes := #[] }
def k0m0 : Method := { name := "<init>", desc := "()V", sig := { parameters := [], returnType := none }, accessFlags := 1, code := some k0c0 }
/-- java/lang/Object -/
def k0 : Class := { plain "java/lang/Object" none with
  accessFlags := 33
  interfaces := #[]
  cf := some (fileOf pool0 8 #[] #[{ accessFlags := 1, nameIndex := 5, descriptorIndex := 6, attributes := #[] }] 33 0 #[] #[])
  fields := #[]
  methods := #[k0m0]
  instanceTypes := #[]
  staticTypes := #[]
  resolved := Array.replicate 124 none
  statics := none }

def pool1 : Array CpInfo := pool [(2, .class_ 4), (1, u "java/lang/Object"), (0, u "<init>"), (0, u "()V"), (0, .methodref 8 9), (0, .class_ 10), (0, .nameAndType 11 12), (0, u "com/example/push_to_tree/pushtotree/XmlCharsIsWhitespacePinLaw"), (0, u "pick"), (0, u "(I)C"), (0, .class_ 14), (0, u "java/lang/String"), (0, .methodref 13 16), (0, .nameAndType 5 17), (0, u "([C)V"), (0, .methodref 8 19), (0, .nameAndType 20 21), (0, u "ws"), (0, u "(C)Z"), (0, .methodref 23 24), (0, .class_ 25), (0, .nameAndType 26 27), (0, u "com/example/push_to_tree/pushtotree/XmlChars"), (0, u "isWhitespace"), (0, u "(Ljava/lang/String;)Z"), (3, u "law"), (0, u "(IIII)Z")] 2

def k1m0 : Method := { name := "<init>", desc := "()V", sig := { parameters := [], returnType := none }, accessFlags := 2, code := none }
def k1c1 : Code := { maxStack := 2, maxLocals := 2, code := method_2_code, exceptionTable := #[], attributes := #[] }
def k1m1 : Method := { name := "pick", desc := "(I)C", sig := { parameters := [.int], returnType := some .char }, accessFlags := 10, code := some k1c1 }
def k1c2 : Code := { maxStack := 2, maxLocals := 1, code := method_3_code, exceptionTable := #[], attributes := #[] }
def k1m2 : Method := { name := "ws", desc := "(C)Z", sig := { parameters := [.char], returnType := some .boolean }, accessFlags := 10, code := some k1c2 }
def k1c3 : Code := { maxStack := 6, maxLocals := 10, code := code, exceptionTable := #[], attributes := #[] }
def k1m3 : Method := { name := "law", desc := "(IIII)Z", sig := { parameters := [.int, .int, .int, .int], returnType := some .boolean }, accessFlags := 9, code := some k1c3 }
/-- com/example/push_to_tree/pushtotree/XmlCharsIsWhitespacePinLaw -/
def k1 : Class := { plain "com/example/push_to_tree/pushtotree/XmlCharsIsWhitespacePinLaw" (some 0) with
  accessFlags := 49
  interfaces := #[]
  cf := some (fileOf pool1 8 #[] #[{ accessFlags := 2, nameIndex := 5, descriptorIndex := 6, attributes := #[] }, { accessFlags := 10, nameIndex := 11, descriptorIndex := 12, attributes := #[] }, { accessFlags := 10, nameIndex := 20, descriptorIndex := 21, attributes := #[] }, { accessFlags := 9, nameIndex := 31, descriptorIndex := 32, attributes := #[] }] 49 2 #[] #[])
  fields := #[]
  methods := #[k1m0, k1m1, k1m2, k1m3]
  instanceTypes := #[]
  staticTypes := #[]
  resolved := Array.replicate 35 none
  statics := none }

def pool2 : Array CpInfo := pool [(1, .class_ 2), (0, u "java/io/Serializable"), (0, .class_ 4), (0, u "java/lang/Object")] 2

/-- java/io/Serializable -/
def k2 : Class := { plain "java/io/Serializable" (some 0) with
  accessFlags := 1537
  interfaces := #[]
  cf := some (fileOf pool2 1 #[] #[] 1537 3 #[] #[])
  fields := #[]
  methods := #[]
  instanceTypes := #[]
  staticTypes := #[]
  resolved := Array.replicate 7 none
  statics := none }

def pool3 : Array CpInfo := pool [(1, .class_ 2), (0, u "java/lang/Comparable"), (0, .class_ 4), (0, u "java/lang/Object")] 7

/-- java/lang/Comparable -/
def k3 : Class := { plain "java/lang/Comparable" (some 0) with
  accessFlags := 1537
  interfaces := #[]
  cf := some (fileOf pool3 1 #[] #[] 1537 3 #[] #[])
  fields := #[]
  methods := #[]
  instanceTypes := #[]
  staticTypes := #[]
  resolved := Array.replicate 12 none
  statics := none }

def pool4 : Array CpInfo := pool [(2, .class_ 4), (1, u "java/lang/CharSequence"), (42, .class_ 48), (0, u "java/lang/CharSequence$1CodePointIterator"), (10, .class_ 60), (0, u "java/lang/CharSequence$1CharIterator"), (5, .class_ 67), (0, u "java/lang/Object")] 63

/-- java/lang/CharSequence -/
def k4 : Class := { plain "java/lang/CharSequence" (some 0) with
  accessFlags := 1537
  interfaces := #[]
  cf := some (fileOf pool4 2 #[.nestMembers #[47, 59]] #[] 1537 66 #[] #[])
  fields := #[]
  methods := #[]
  instanceTypes := #[]
  staticTypes := #[]
  resolved := Array.replicate 131 none
  statics := none }

def pool5 : Array CpInfo := pool [(1, .class_ 2), (0, u "java/lang/constant/Constable"), (0, .class_ 4), (0, u "java/lang/Object")] 6

/-- java/lang/constant/Constable -/
def k5 : Class := { plain "java/lang/constant/Constable" (some 0) with
  accessFlags := 1537
  interfaces := #[]
  cf := some (fileOf pool5 1 #[] #[] 1537 3 #[] #[])
  fields := #[]
  methods := #[]
  instanceTypes := #[]
  staticTypes := #[]
  resolved := Array.replicate 11 none
  statics := none }

def pool6 : Array CpInfo := pool [(1, .class_ 2), (0, u "java/lang/constant/ConstantDesc"), (0, .class_ 4), (0, u "java/lang/Object")] 32

/-- java/lang/constant/ConstantDesc -/
def k6 : Class := { plain "java/lang/constant/ConstantDesc" (some 0) with
  accessFlags := 1537
  interfaces := #[]
  cf := some (fileOf pool6 1 #[] #[] 1537 3 #[] #[])
  fields := #[]
  methods := #[]
  instanceTypes := #[]
  staticTypes := #[]
  resolved := Array.replicate 37 none
  statics := none }

def pool7 : Array CpInfo := pool [(1, .methodref 2 3), (0, .class_ 4), (0, .nameAndType 5 6), (0, u "java/lang/Object"), (0, u "<init>"), (0, u "()V"), (0, .string 8), (0, u ""), (0, .fieldref 10 11), (0, .class_ 12), (0, .nameAndType 13 14), (0, u "java/lang/String"), (0, u "value"), (0, u "[B"), (0, .fieldref 10 16), (0, .nameAndType 17 18), (0, u "coder"), (0, u "B"), (2, u "hash"), (0, u "I"), (2, u "hashIsZero"), (0, u "Z"), (0, .methodref 10 28), (0, .nameAndType 5 29), (0, u "([CIILjava/lang/Void;)V"), (8, .fieldref 10 39), (0, .nameAndType 40 26), (0, u "COMPACT_STRINGS"), (1, .class_ 44), (1, u "java/lang/StringUTF16"), (0, u "compress"), (1, .methodref 42 48), (0, .nameAndType 49 50), (0, u "coderFromArrayLen"), (0, u "([BI)B"), (56, .class_ 109), (1, u "java/lang/StringLatin1"), (32, u "()Z"), (34, .methodref 42 178), (0, .nameAndType 45 179), (0, u "([CII)[B"), (154, u "()I"), (0, .methodref 10 336), (0, .nameAndType 17 337), (0, u "()B"), (25, u "([BI)C"), (27, u "(II)V"), (35, u "(I)C"), (64, .methodref 10 493), (0, .nameAndType 494 142), (0, u "isLatin1"), (0, .methodref 107 496), (0, .nameAndType 497 363), (0, u "charAt"), (0, .methodref 42 496), (2, u "checkIndex"), (5, u "length"), (67, .class_ 576), (0, u "java/lang/CharSequence"), (22, u "CASE_INSENSITIVE_ORDER"), (0, u "Ljava/util/Comparator;"), (409, u "([C)V"), (42, .fieldref 1054 1055), (0, .class_ 1056), (0, .nameAndType 1057 1058), (0, u "jdk/internal/util/Preconditions"), (0, u "SIOOBE_FORMATTER"), (0, u "Ljava/util/function/BiFunction;"), (0, .methodref 1054 1060), (0, .nameAndType 501 1061), (0, u "(IILjava/util/function/BiFunction;)I"), (39, u "serialPersistentFields"), (0, u "[Ljava/io/ObjectStreamField;"), (0, .class_ 1104), (0, u "java/lang/String$CaseInsensitiveComparator"), (1, .class_ 1107), (0, u "java/io/Serializable"), (0, .class_ 1109), (0, u "java/lang/Comparable"), (0, .class_ 1111), (0, u "java/lang/constant/Constable"), (0, .class_ 1113), (0, u "java/lang/constant/ConstantDesc"), (2, u "serialVersionUID"), (0, u "J"), (3, u "REPL"), (0, u "C"), (2, u "LATIN1"), (1, u "UTF16")] 323

def k7m0 : Method := { name := "<init>", desc := "()V", sig := { parameters := [], returnType := none }, accessFlags := 1, code := none }
def k7c1 : Code := { maxStack := 5, maxLocals := 2, code := jdk_42_method_3_code, exceptionTable := #[], attributes := #[] }
def k7m1 : Method := { name := "<init>", desc := "([C)V", sig := { parameters := [(.array .char)], returnType := none }, accessFlags := 1, code := some k7c1 }
def k7c2 : Code := { maxStack := 2, maxLocals := 1, code := jdk_42_method_54_code, exceptionTable := #[], attributes := #[] }
def k7m2 : Method := { name := "length", desc := "()I", sig := { parameters := [], returnType := some .int }, accessFlags := 1, code := some k7c2 }
def k7c3 : Code := { maxStack := 2, maxLocals := 2, code := jdk_42_method_56_code, exceptionTable := #[], attributes := #[] }
def k7m3 : Method := { name := "charAt", desc := "(I)C", sig := { parameters := [.int], returnType := some .char }, accessFlags := 1, code := some k7c3 }
def k7c4 : Code := { maxStack := 4, maxLocals := 6, code := jdk_42_method_149_code, exceptionTable := #[], attributes := #[] }
def k7m4 : Method := { name := "<init>", desc := "([CIILjava/lang/Void;)V", sig := { parameters := [(.array .char), .int, .int, (.object "java/lang/Void")], returnType := none }, accessFlags := 2, code := some k7c4 }
def k7c5 : Code := { maxStack := 1, maxLocals := 1, code := jdk_42_method_152_code, exceptionTable := #[], attributes := #[] }
def k7m5 : Method := { name := "coder", desc := "()B", sig := { parameters := [], returnType := some .byte }, accessFlags := 0, code := some k7c5 }
def k7c6 : Code := { maxStack := 1, maxLocals := 1, code := jdk_42_method_154_code, exceptionTable := #[], attributes := #[] }
def k7m6 : Method := { name := "isLatin1", desc := "()Z", sig := { parameters := [], returnType := some .boolean }, accessFlags := 0, code := some k7c6 }
def k7c7 : Code := { maxStack := 3, maxLocals := 2, code := jdk_42_method_155_code, exceptionTable := #[], attributes := #[] }
def k7m7 : Method := { name := "checkIndex", desc := "(II)V", sig := { parameters := [.int, .int], returnType := none }, accessFlags := 8, code := some k7c7 }
/-- java/lang/String -/
def k7 : Class := { plain "java/lang/String" (some 0) with
  accessFlags := 49
  interfaces := #[2, 3, 4, 5, 6]
  cf := some (fileOf pool7 10 #[.nestMembers #[1103]] #[{ accessFlags := 1, nameIndex := 5, descriptorIndex := 6, attributes := #[] }, { accessFlags := 1, nameIndex := 5, descriptorIndex := 1010, attributes := #[] }, { accessFlags := 1, nameIndex := 507, descriptorIndex := 334, attributes := #[] }, { accessFlags := 1, nameIndex := 497, descriptorIndex := 427, attributes := #[] }, { accessFlags := 2, nameIndex := 5, descriptorIndex := 29, attributes := #[] }, { accessFlags := 0, nameIndex := 17, descriptorIndex := 337, attributes := #[] }, { accessFlags := 0, nameIndex := 494, descriptorIndex := 142, attributes := #[] }, { accessFlags := 8, nameIndex := 501, descriptorIndex := 391, attributes := #[] }] 49 2 #[1106, 1108, 575, 1110, 1112] #[{ accessFlags := 18, nameIndex := 13, descriptorIndex := 14, attributes := #[] }, { accessFlags := 18, nameIndex := 17, descriptorIndex := 18, attributes := #[] }, { accessFlags := 2, nameIndex := 21, descriptorIndex := 22, attributes := #[] }, { accessFlags := 2, nameIndex := 25, descriptorIndex := 26, attributes := #[] }, { accessFlags := 26, nameIndex := 1116, descriptorIndex := 1117, attributes := #[] }, { accessFlags := 24, nameIndex := 40, descriptorIndex := 26, attributes := #[] }, { accessFlags := 26, nameIndex := 1101, descriptorIndex := 1102, attributes := #[] }, { accessFlags := 26, nameIndex := 1121, descriptorIndex := 1122, attributes := #[] }, { accessFlags := 25, nameIndex := 599, descriptorIndex := 600, attributes := #[] }, { accessFlags := 24, nameIndex := 1125, descriptorIndex := 18, attributes := #[] }, { accessFlags := 24, nameIndex := 1127, descriptorIndex := 18, attributes := #[] }])
  fields := #[{ name := "value", type := (.array .byte), accessFlags := 18, slot := 0, constantValue := 0 }, { name := "coder", type := .byte, accessFlags := 18, slot := 1, constantValue := 0 }, { name := "hash", type := .int, accessFlags := 2, slot := 2, constantValue := 0 }, { name := "hashIsZero", type := .boolean, accessFlags := 2, slot := 3, constantValue := 0 }, { name := "serialVersionUID", type := .long, accessFlags := 26, slot := 0, constantValue := 0 }, { name := "COMPACT_STRINGS", type := .boolean, accessFlags := 24, slot := 1, constantValue := 0 }, { name := "serialPersistentFields", type := (.array (.object "java/io/ObjectStreamField")), accessFlags := 26, slot := 2, constantValue := 0 }, { name := "REPL", type := .char, accessFlags := 26, slot := 3, constantValue := 0 }, { name := "CASE_INSENSITIVE_ORDER", type := (.object "java/util/Comparator"), accessFlags := 25, slot := 4, constantValue := 0 }, { name := "LATIN1", type := .byte, accessFlags := 24, slot := 5, constantValue := 0 }, { name := "UTF16", type := .byte, accessFlags := 24, slot := 6, constantValue := 0 }]
  methods := #[k7m0, k7m1, k7m2, k7m3, k7m4, k7m5, k7m6, k7m7]
  instanceTypes := #[(.array .byte), .byte, .int, .boolean]
  staticTypes := #[.long, .boolean, (.array (.object "java/io/ObjectStreamField")), .char, (.object "java/util/Comparator"), .byte, .byte]
  resolved := Array.replicate 1451 none
  statics := some 0 }

def pool8 : Array CpInfo := pool [(2, .class_ 4), (1, u "java/lang/Object"), (0, u "<init>"), (0, u "()V"), (6, .class_ 15), (1, u "com/example/push_to_tree/pushtotree/XmlChars"), (0, u "PREDEFINED_ENTITIES"), (0, u "Ljava/util/Map;"), (10, u "CHARACTER_REFERENCE"), (0, u "Ljava/util/regex/Pattern;"), (28, u "()I"), (7, .methodref 67 68), (0, .class_ 69), (0, .nameAndType 70 58), (0, u "java/lang/String"), (0, u "length"), (0, .methodref 67 72), (0, .nameAndType 73 74), (0, u "charAt"), (0, u "(I)C"), (9, u "(Ljava/lang/String;)Z"), (5, u "NAME_START_CHARS"), (0, u "[I"), (12, u "OTHER_NAME_CHARS"), (9, .methodref 13 115), (0, .nameAndType 116 117), (0, u "isWhitespace"), (0, u "(C)Z"), (30, u "PUBLIC_ID_MARKS"), (0, u "Ljava/lang/String;")] 12

def k8m0 : Method := { name := "<init>", desc := "()V", sig := { parameters := [], returnType := none }, accessFlags := 2, code := none }
def k8c1 : Code := { maxStack := 2, maxLocals := 2, code := prog_89_method_10_code, exceptionTable := #[], attributes := #[] }
def k8m1 : Method := { name := "isWhitespace", desc := "(Ljava/lang/String;)Z", sig := { parameters := [(.object "java/lang/String")], returnType := some .boolean }, accessFlags := 8, code := some k8c1 }
def k8c2 : Code := { maxStack := 2, maxLocals := 1, code := prog_89_method_11_code, exceptionTable := #[], attributes := #[] }
def k8m2 : Method := { name := "isWhitespace", desc := "(C)Z", sig := { parameters := [.char], returnType := some .boolean }, accessFlags := 8, code := some k8c2 }
/-- com/example/push_to_tree/pushtotree/XmlChars -/
def k8 : Class := { plain "com/example/push_to_tree/pushtotree/XmlChars" (some 0) with
  accessFlags := 48
  interfaces := #[]
  cf := some (fileOf pool8 13 #[] #[{ accessFlags := 2, nameIndex := 5, descriptorIndex := 6, attributes := #[] }, { accessFlags := 8, nameIndex := 116, descriptorIndex := 84, attributes := #[] }, { accessFlags := 8, nameIndex := 116, descriptorIndex := 117, attributes := #[] }] 48 2 #[] #[{ accessFlags := 26, nameIndex := 90, descriptorIndex := 91, attributes := #[] }, { accessFlags := 26, nameIndex := 104, descriptorIndex := 91, attributes := #[] }, { accessFlags := 26, nameIndex := 16, descriptorIndex := 17, attributes := #[] }, { accessFlags := 26, nameIndex := 28, descriptorIndex := 29, attributes := #[] }, { accessFlags := 26, nameIndex := 148, descriptorIndex := 149, attributes := #[] }])
  fields := #[{ name := "NAME_START_CHARS", type := (.array .int), accessFlags := 26, slot := 0, constantValue := 0 }, { name := "OTHER_NAME_CHARS", type := (.array .int), accessFlags := 26, slot := 1, constantValue := 0 }, { name := "PREDEFINED_ENTITIES", type := (.object "java/util/Map"), accessFlags := 26, slot := 2, constantValue := 0 }, { name := "CHARACTER_REFERENCE", type := (.object "java/util/regex/Pattern"), accessFlags := 26, slot := 3, constantValue := 0 }, { name := "PUBLIC_ID_MARKS", type := (.object "java/lang/String"), accessFlags := 26, slot := 4, constantValue := 0 }]
  methods := #[k8m0, k8m1, k8m2]
  instanceTypes := #[]
  staticTypes := #[(.array .int), (.array .int), (.object "java/util/Map"), (.object "java/util/regex/Pattern"), (.object "java/lang/String")]
  resolved := Array.replicate 162 none
  statics := none }

def pool9 : Array CpInfo := pool [(3, .class_ 4), (0, u "java/lang/String"), (1, .class_ 8), (1, u "java/lang/Object"), (0, u "<init>"), (0, u "()V"), (0, .methodref 12 13), (0, .class_ 14), (0, .nameAndType 15 16), (0, u "java/lang/StringUTF16"), (0, u "newBytesLength"), (0, u "(I)I"), (3, .integer 1073741823), (23, .fieldref 12 45), (0, .nameAndType 46 47), (0, u "$assertionsDisabled"), (0, u "Z"), (0, .methodref 12 49), (0, .nameAndType 50 51), (0, u "length"), (0, u "([B)I"), (7, .fieldref 12 60), (0, .nameAndType 61 62), (0, u "HI_BYTE_SHIFT"), (0, u "I"), (0, .fieldref 12 64), (0, .nameAndType 65 62), (0, u "LO_BYTE_SHIFT"), (1, .methodref 12 68), (0, .nameAndType 69 70), (0, u "checkIndex"), (0, u "(I[B)V"), (0, .methodref 12 72), (0, .nameAndType 73 74), (0, u "getChar"), (0, u "([BI)C"), (32, .methodref 12 108), (0, .nameAndType 109 110), (0, u "newBytesFor"), (0, u "(I)[B"), (0, .methodref 12 112), (0, .nameAndType 113 114), (0, u "putChar"), (0, u "([BII)V"), (0, .methodref 12 116), (0, .nameAndType 117 118), (0, u "compress"), (0, u "([CI[BII)I"), (0, .methodref 12 120), (0, .nameAndType 121 122), (0, u "toBytes"), (0, u "([CII)[B"), (138, u "coderFromArrayLen"), (0, u "([BI)B"), (106, .class_ 371), (1, u "java/lang/StringUTF16$LinesSpliterator"), (20, u "charAt"), (21, .methodref 3 415), (0, .nameAndType 69 416), (0, u "(II)V"), (13, u "MAX_LENGTH"), (196, .class_ 628), (0, u "java/lang/StringUTF16$CodePointsSpliterator"), (0, .class_ 630), (0, u "java/lang/StringUTF16$CharsSpliterator")] 4

def k9m0 : Method := { name := "<init>", desc := "()V", sig := { parameters := [], returnType := none }, accessFlags := 0, code := none }
def k9c1 : Code := { maxStack := 1, maxLocals := 1, code := jdk_52_method_2_code, exceptionTable := #[], attributes := #[] }
def k9m1 : Method := { name := "newBytesFor", desc := "(I)[B", sig := { parameters := [.int], returnType := some (.array .byte) }, accessFlags := 9, code := some k9c1 }
def k9c2 : Code := { maxStack := 4, maxLocals := 1, code := jdk_52_method_3_code, exceptionTable := #[], attributes := #[] }
def k9m2 : Method := { name := "newBytesLength", desc := "(I)I", sig := { parameters := [.int], returnType := some .int }, accessFlags := 9, code := some k9c2 }
def k9c3 : Code := { maxStack := 4, maxLocals := 3, code := jdk_52_method_4_code, exceptionTable := #[], attributes := #[] }
def k9m3 : Method := { name := "putChar", desc := "([BII)V", sig := { parameters := [(.array .byte), .int, .int], returnType := none }, accessFlags := 8, code := some k9c3 }
def k9c4 : Code := { maxStack := 3, maxLocals := 2, code := jdk_52_method_5_code, exceptionTable := #[], attributes := #[] }
def k9m4 : Method := { name := "getChar", desc := "([BI)C", sig := { parameters := [(.array .byte), .int], returnType := some .char }, accessFlags := 8, code := some k9c4 }
def k9c5 : Code := { maxStack := 2, maxLocals := 1, code := jdk_52_method_6_code, exceptionTable := #[], attributes := #[] }
def k9m5 : Method := { name := "length", desc := "([B)I", sig := { parameters := [(.array .byte)], returnType := some .int }, accessFlags := 9, code := some k9c5 }
def k9c6 : Code := { maxStack := 4, maxLocals := 5, code := jdk_52_method_14_code, exceptionTable := #[], attributes := #[] }
def k9m6 : Method := { name := "toBytes", desc := "([CII)[B", sig := { parameters := [(.array .char), .int, .int], returnType := some (.array .byte) }, accessFlags := 9, code := some k9c6 }
def k9c7 : Code := { maxStack := 2, maxLocals := 2, code := jdk_52_method_15_code, exceptionTable := #[], attributes := #[] }
def k9m7 : Method := { name := "coderFromArrayLen", desc := "([BI)B", sig := { parameters := [(.array .byte), .int], returnType := some .byte }, accessFlags := 8, code := some k9c7 }
def k9c8 : Code := { maxStack := 5, maxLocals := 6, code := jdk_52_method_16_code, exceptionTable := #[], attributes := #[] }
def k9m8 : Method := { name := "compress", desc := "([CII)[B", sig := { parameters := [(.array .char), .int, .int], returnType := some (.array .byte) }, accessFlags := 9, code := some k9c8 }
def k9c9 : Code := { maxStack := 3, maxLocals := 7, code := jdk_52_method_21_code, exceptionTable := #[], attributes := #[] }
def k9m9 : Method := { name := "compress", desc := "([CI[BII)I", sig := { parameters := [(.array .char), .int, (.array .byte), .int, .int], returnType := some .int }, accessFlags := 9, code := some k9c9 }
def k9c10 : Code := { maxStack := 2, maxLocals := 2, code := jdk_52_method_83_code, exceptionTable := #[], attributes := #[] }
def k9m10 : Method := { name := "charAt", desc := "([BI)C", sig := { parameters := [(.array .byte), .int], returnType := some .char }, accessFlags := 9, code := some k9c10 }
def k9c11 : Code := { maxStack := 2, maxLocals := 2, code := jdk_52_method_91_code, exceptionTable := #[], attributes := #[] }
def k9m11 : Method := { name := "checkIndex", desc := "(I[B)V", sig := { parameters := [.int, (.array .byte)], returnType := none }, accessFlags := 9, code := some k9c11 }
/-- java/lang/StringUTF16 -/
def k9 : Class := { plain "java/lang/StringUTF16" (some 0) with
  accessFlags := 48
  interfaces := #[]
  cf := some (fileOf pool9 12 #[.nestMembers #[627, 629, 369]] #[{ accessFlags := 0, nameIndex := 9, descriptorIndex := 10, attributes := #[] }, { accessFlags := 9, nameIndex := 109, descriptorIndex := 110, attributes := #[] }, { accessFlags := 9, nameIndex := 15, descriptorIndex := 16, attributes := #[] }, { accessFlags := 8, nameIndex := 113, descriptorIndex := 114, attributes := #[] }, { accessFlags := 8, nameIndex := 73, descriptorIndex := 74, attributes := #[] }, { accessFlags := 9, nameIndex := 50, descriptorIndex := 51, attributes := #[] }, { accessFlags := 9, nameIndex := 121, descriptorIndex := 122, attributes := #[] }, { accessFlags := 8, nameIndex := 261, descriptorIndex := 262, attributes := #[] }, { accessFlags := 9, nameIndex := 117, descriptorIndex := 122, attributes := #[] }, { accessFlags := 9, nameIndex := 117, descriptorIndex := 118, attributes := #[] }, { accessFlags := 9, nameIndex := 392, descriptorIndex := 74, attributes := #[] }, { accessFlags := 9, nameIndex := 69, descriptorIndex := 70, attributes := #[] }] 48 6 #[] #[{ accessFlags := 26, nameIndex := 61, descriptorIndex := 62, attributes := #[] }, { accessFlags := 26, nameIndex := 65, descriptorIndex := 62, attributes := #[] }, { accessFlags := 24, nameIndex := 430, descriptorIndex := 62, attributes := #[] }, { accessFlags := 4120, nameIndex := 46, descriptorIndex := 47, attributes := #[] }])
  fields := #[{ name := "HI_BYTE_SHIFT", type := .int, accessFlags := 26, slot := 0, constantValue := 0 }, { name := "LO_BYTE_SHIFT", type := .int, accessFlags := 26, slot := 1, constantValue := 0 }, { name := "MAX_LENGTH", type := .int, accessFlags := 24, slot := 2, constantValue := 0 }, { name := "$assertionsDisabled", type := .boolean, accessFlags := 4120, slot := 3, constantValue := 0 }]
  methods := #[k9m0, k9m1, k9m2, k9m3, k9m4, k9m5, k9m6, k9m7, k9m8, k9m9, k9m10, k9m11]
  instanceTypes := #[]
  staticTypes := #[.int, .int, .int, .boolean]
  resolved := Array.replicate 635 none
  statics := some 1 }

def pool10 : Array CpInfo := pool [(1, .class_ 2), (0, u "java/lang/String"), (1, .class_ 6), (1, u "java/lang/Object"), (0, u "<init>"), (0, u "()V"), (0, .methodref 1 10), (0, .nameAndType 11 12), (0, u "checkIndex"), (0, u "(II)V"), (1, .class_ 16), (1, u "java/lang/StringLatin1"), (36, u "([BI)C"), (67, u "$assertionsDisabled"), (0, u "Z"), (98, .class_ 223), (1, u "java/lang/StringLatin1$LinesSpliterator"), (28, u "charAt"), (137, .class_ 391), (0, u "java/lang/StringLatin1$CharsSpliterator")] 3

def k10m0 : Method := { name := "<init>", desc := "()V", sig := { parameters := [], returnType := none }, accessFlags := 0, code := none }
def k10c1 : Code := { maxStack := 2, maxLocals := 2, code := jdk_43_method_2_code, exceptionTable := #[], attributes := #[] }
def k10m1 : Method := { name := "charAt", desc := "([BI)C", sig := { parameters := [(.array .byte), .int], returnType := some .char }, accessFlags := 9, code := some k10c1 }
/-- java/lang/StringLatin1 -/
def k10 : Class := { plain "java/lang/StringLatin1" (some 0) with
  accessFlags := 48
  interfaces := #[]
  cf := some (fileOf pool10 14 #[.nestMembers #[390, 221]] #[{ accessFlags := 0, nameIndex := 7, descriptorIndex := 8, attributes := #[] }, { accessFlags := 9, nameIndex := 252, descriptorIndex := 53, attributes := #[] }] 48 4 #[] #[{ accessFlags := 4120, nameIndex := 121, descriptorIndex := 122, attributes := #[] }])
  fields := #[{ name := "$assertionsDisabled", type := .boolean, accessFlags := 4120, slot := 0, constantValue := 0 }]
  methods := #[k10m0, k10m1]
  instanceTypes := #[]
  staticTypes := #[.boolean]
  resolved := Array.replicate 395 none
  statics := none }

def pool11 : Array CpInfo := pool [(2, .class_ 4), (1, u "java/lang/Object"), (0, u "<init>"), (0, u "()V"), (17, .class_ 26), (1, u "jdk/internal/util/Preconditions"), (6, u "checkIndex"), (21, .class_ 56), (0, u "jdk/internal/util/Preconditions$4"), (57, .class_ 115), (0, u "jdk/internal/util/Preconditions$1"), (7, u "SIOOBE_FORMATTER"), (0, u "Ljava/util/function/BiFunction;"), (0, .class_ 126), (0, u "jdk/internal/util/Preconditions$2"), (3, u "AIOOBE_FORMATTER"), (0, .class_ 132), (0, u "jdk/internal/util/Preconditions$3"), (3, u "IOOBE_FORMATTER"), (41, u "(IILjava/util/function/BiFunction;)I")] 15

def k11m0 : Method := { name := "<init>", desc := "()V", sig := { parameters := [], returnType := none }, accessFlags := 1, code := none }
def k11c1 : Code := { maxStack := 3, maxLocals := 3, code := jdk_41_method_11_code, exceptionTable := #[], attributes := #[] }
def k11m1 : Method := { name := "checkIndex", desc := "(IILjava/util/function/BiFunction;)I", sig := { parameters := [.int, .int, (.object "java/util/function/BiFunction")], returnType := some .int }, accessFlags := 9, code := some k11c1 }
/-- jdk/internal/util/Preconditions -/
def k11 : Class := { plain "jdk/internal/util/Preconditions" (some 0) with
  accessFlags := 33
  interfaces := #[]
  cf := some (fileOf pool11 24 #[.nestMembers #[55, 131, 125, 114]] #[{ accessFlags := 1, nameIndex := 5, descriptorIndex := 6, attributes := #[] }, { accessFlags := 9, nameIndex := 33, descriptorIndex := 178, attributes := #[] }] 33 2 #[] #[{ accessFlags := 25, nameIndex := 123, descriptorIndex := 124, attributes := #[] }, { accessFlags := 25, nameIndex := 130, descriptorIndex := 124, attributes := #[] }, { accessFlags := 25, nameIndex := 136, descriptorIndex := 124, attributes := #[] }])
  fields := #[{ name := "SIOOBE_FORMATTER", type := (.object "java/util/function/BiFunction"), accessFlags := 25, slot := 0, constantValue := 0 }, { name := "AIOOBE_FORMATTER", type := (.object "java/util/function/BiFunction"), accessFlags := 25, slot := 1, constantValue := 0 }, { name := "IOOBE_FORMATTER", type := (.object "java/util/function/BiFunction"), accessFlags := 25, slot := 2, constantValue := 0 }]
  methods := #[k11m0, k11m1]
  instanceTypes := #[]
  staticTypes := #[(.object "java/util/function/BiFunction"), (.object "java/util/function/BiFunction"), (.object "java/util/function/BiFunction")]
  resolved := Array.replicate 194 none
  statics := some 2 }

def pool12 : Array CpInfo := pool [(9, u "<init>"), (6, .class_ 18), (1, u "java/lang/Object"), (0, u "()V"), (1, .class_ 23), (1, u "jdk/internal/util/ArraysSupport"), (0, u "LOG2_ARRAY_LONG_INDEX_SCALE"), (0, u "I"), (2, u "U"), (0, u "Ljdk/internal/misc/Unsafe;"), (8, u "BIG_ENDIAN"), (0, u "Z"), (8, u "LOG2_BYTE_BIT_SIZE"), (4, u "LOG2_ARRAY_INT_INDEX_SCALE"), (54, u "JLA"), (0, u "Ljdk/internal/access/JavaLangAccess;"), (11, u "LOG2_ARRAY_BOOLEAN_INDEX_SCALE"), (9, u "LOG2_ARRAY_BYTE_INDEX_SCALE"), (5, u "LOG2_ARRAY_CHAR_INDEX_SCALE"), (5, u "LOG2_ARRAY_SHORT_INDEX_SCALE"), (18, u "LOG2_ARRAY_FLOAT_INDEX_SCALE"), (24, u "LOG2_ARRAY_DOUBLE_INDEX_SCALE"), (89, u "T_BOOLEAN"), (2, u "T_CHAR"), (1, u "T_FLOAT"), (1, u "T_DOUBLE"), (1, u "T_BYTE"), (1, u "T_SHORT"), (1, u "T_INT"), (1, u "T_LONG"), (1, u "SOFT_MAX_ARRAY_LENGTH")] 83

def k12m0 : Method := { name := "<init>", desc := "()V", sig := { parameters := [], returnType := none }, accessFlags := 2, code := none }
/-- jdk/internal/util/ArraysSupport -/
def k12 : Class := { plain "jdk/internal/util/ArraysSupport" (some 0) with
  accessFlags := 33
  interfaces := #[]
  cf := some (fileOf pool12 21 #[] #[{ accessFlags := 2, nameIndex := 9, descriptorIndex := 19, attributes := #[] }] 33 16 #[] #[{ accessFlags := 24, nameIndex := 28, descriptorIndex := 29, attributes := #[] }, { accessFlags := 26, nameIndex := 38, descriptorIndex := 39, attributes := #[] }, { accessFlags := 25, nameIndex := 121, descriptorIndex := 25, attributes := #[] }, { accessFlags := 25, nameIndex := 131, descriptorIndex := 25, attributes := #[] }, { accessFlags := 25, nameIndex := 137, descriptorIndex := 25, attributes := #[] }, { accessFlags := 25, nameIndex := 143, descriptorIndex := 25, attributes := #[] }, { accessFlags := 25, nameIndex := 53, descriptorIndex := 25, attributes := #[] }, { accessFlags := 25, nameIndex := 24, descriptorIndex := 25, attributes := #[] }, { accessFlags := 25, nameIndex := 162, descriptorIndex := 25, attributes := #[] }, { accessFlags := 25, nameIndex := 187, descriptorIndex := 25, attributes := #[] }, { accessFlags := 26, nameIndex := 48, descriptorIndex := 25, attributes := #[] }, { accessFlags := 25, nameIndex := 277, descriptorIndex := 25, attributes := #[] }, { accessFlags := 25, nameIndex := 280, descriptorIndex := 25, attributes := #[] }, { accessFlags := 25, nameIndex := 282, descriptorIndex := 25, attributes := #[] }, { accessFlags := 25, nameIndex := 284, descriptorIndex := 25, attributes := #[] }, { accessFlags := 25, nameIndex := 286, descriptorIndex := 25, attributes := #[] }, { accessFlags := 25, nameIndex := 288, descriptorIndex := 25, attributes := #[] }, { accessFlags := 25, nameIndex := 290, descriptorIndex := 25, attributes := #[] }, { accessFlags := 25, nameIndex := 292, descriptorIndex := 25, attributes := #[] }, { accessFlags := 26, nameIndex := 108, descriptorIndex := 109, attributes := #[] }, { accessFlags := 25, nameIndex := 294, descriptorIndex := 25, attributes := #[] }])
  fields := #[{ name := "U", type := (.object "jdk/internal/misc/Unsafe"), accessFlags := 24, slot := 0, constantValue := 0 }, { name := "BIG_ENDIAN", type := .boolean, accessFlags := 26, slot := 1, constantValue := 0 }, { name := "LOG2_ARRAY_BOOLEAN_INDEX_SCALE", type := .int, accessFlags := 25, slot := 2, constantValue := 0 }, { name := "LOG2_ARRAY_BYTE_INDEX_SCALE", type := .int, accessFlags := 25, slot := 3, constantValue := 0 }, { name := "LOG2_ARRAY_CHAR_INDEX_SCALE", type := .int, accessFlags := 25, slot := 4, constantValue := 0 }, { name := "LOG2_ARRAY_SHORT_INDEX_SCALE", type := .int, accessFlags := 25, slot := 5, constantValue := 0 }, { name := "LOG2_ARRAY_INT_INDEX_SCALE", type := .int, accessFlags := 25, slot := 6, constantValue := 0 }, { name := "LOG2_ARRAY_LONG_INDEX_SCALE", type := .int, accessFlags := 25, slot := 7, constantValue := 0 }, { name := "LOG2_ARRAY_FLOAT_INDEX_SCALE", type := .int, accessFlags := 25, slot := 8, constantValue := 0 }, { name := "LOG2_ARRAY_DOUBLE_INDEX_SCALE", type := .int, accessFlags := 25, slot := 9, constantValue := 0 }, { name := "LOG2_BYTE_BIT_SIZE", type := .int, accessFlags := 26, slot := 10, constantValue := 0 }, { name := "T_BOOLEAN", type := .int, accessFlags := 25, slot := 11, constantValue := 0 }, { name := "T_CHAR", type := .int, accessFlags := 25, slot := 12, constantValue := 0 }, { name := "T_FLOAT", type := .int, accessFlags := 25, slot := 13, constantValue := 0 }, { name := "T_DOUBLE", type := .int, accessFlags := 25, slot := 14, constantValue := 0 }, { name := "T_BYTE", type := .int, accessFlags := 25, slot := 15, constantValue := 0 }, { name := "T_SHORT", type := .int, accessFlags := 25, slot := 16, constantValue := 0 }, { name := "T_INT", type := .int, accessFlags := 25, slot := 17, constantValue := 0 }, { name := "T_LONG", type := .int, accessFlags := 25, slot := 18, constantValue := 0 }, { name := "JLA", type := (.object "jdk/internal/access/JavaLangAccess"), accessFlags := 26, slot := 19, constantValue := 0 }, { name := "SOFT_MAX_ARRAY_LENGTH", type := .int, accessFlags := 25, slot := 20, constantValue := 0 }]
  methods := #[k12m0]
  instanceTypes := #[]
  staticTypes := #[(.object "jdk/internal/misc/Unsafe"), .boolean, .int, .int, .int, .int, .int, .int, .int, .int, .int, .int, .int, .int, .int, .int, .int, .int, .int, (.object "jdk/internal/access/JavaLangAccess"), .int]
  resolved := Array.replicate 378 none
  statics := none }

def pool13 : Array CpInfo := pool [(1, u "java/lang/Cloneable"), (0, .class_ 1), (0, u "java/lang/Object"), (0, .class_ 3)] 3

/-- java/lang/Cloneable -/
def k13 : Class := { plain "java/lang/Cloneable" (some 0) with
  accessFlags := 1537
  interfaces := #[]
  cf := some (fileOf pool13 2 #[] #[] 1537 4 #[] #[])
  fields := #[]
  methods := #[]
  instanceTypes := #[]
  staticTypes := #[]
  resolved := Array.replicate 8 none
  statics := none }

/-- the primitive byte -/
def k14 : Class := { plain "byte" none with kind := .primitive 'B', accessFlags := 0x411 }
/-- [B -/
def k15 : Class := { plain "[B" (some 0) with kind := .array 14 .byte, interfaces := #[13, 2], accessFlags := 1041 }

/-- the primitive char -/
def k16 : Class := { plain "char" none with kind := .primitive 'C', accessFlags := 0x411 }
/-- [C -/
def k17 : Class := { plain "[C" (some 0) with kind := .array 16 .char, interfaces := #[13, 2], accessFlags := 1041 }

/-- the primitive int -/
def k18 : Class := { plain "int" none with kind := .primitive 'I', accessFlags := 0x411 }
/-- [I -/
def k19 : Class := { plain "[I" (some 0) with kind := .array 18 .int, interfaces := #[13, 2], accessFlags := 1041 }

def heap : Heap := #[{ cls := 7, slots := #[.long 0, .int 1, .null, .int 0, .null, .int 0, .int 0], vm := .statics 7 },
  { cls := 9, slots := #[.int 0, .int 8, .int 0, .int 1], vm := .statics 9 },
  { cls := 11, slots := #[.null, .null, .null], vm := .statics 11 }]
def classes : Array Class := #[k0, k1, k2, k3, k4, k5, k6, k7, k8, k9, k10, k11, k12, k13, k14, k15, k16, k17, k18, k19]
def interned : List (Array UInt16 × Addr) := []
def slotsUsed : Nat := 14
def theMethod : MethodId := ⟨1, 3⟩
def args0 : Array Value := #[.int 5, .int 3, .int 2, .int 65]
def aboutOver (below : List Frame) : State where
  vm := { classes := classes, interned := interned.toArray }
  heap := heap
  slotsUsed := slotsUsed
  threads := #[{ frames := .invoking theMethod args0 :: below }]
def below0 : List Frame := [.native { method := ⟨0, 0⟩, args := #[] }]
def about1 : State := aboutOver below0
def p0 : Program := .bare "" "" ""
def e0 : Env := launch0.env 0 0 0
theorem w_frames : about1.frames = Frame.invoking theMethod args0 :: below0 := rfl
set_option maxRecDepth 65536 in
theorem w_args : argsFit about1.vm theMethod args0 = true := by decide +kernel
set_option maxRecDepth 65536 in
theorem w_heap : heapFits about1 = true := by decide +kernel
set_option maxRecDepth 65536 in
theorem w_runnable : about1.curStatus? = some .runnable := by decide +kernel
set_option maxRecDepth 65536 in
theorem w_alone : about1.alone = true := by decide +kernel
set_option maxRecDepth 65536 in
theorem w_named : about1.methodNamed? x = some theMethod := by decide +kernel
set_option maxRecDepth 65536 in
theorem w_hears : about1.hears theMethod below0 = true := by decide +kernel
set_option maxRecDepth 65536 in
theorem w_ripe : about1.ripe theMethod args0 below0 = true := by decide +kernel
theorem w_running : about1.status = .running := rfl
set_option maxRecDepth 65536 in
theorem w_room : about1.hasRoom e0.platform room_1 = true :=
  launch0.hasRoom_least _ room_1 (by decide +kernel) (by decide +kernel) (by decide +kernel) (by decide +kernel) (by decide +kernel) (by decide +kernel)
theorem allAtoms_all (ts : List Jvm.Cond) (a : Array Jvm.Value) (st : Jvm.State) : (allAtoms ts).before a st = ts.all (fun c => c.before a st) := by
  induction ts with
  | nil => rfl
  | cons c t ih =>
    show (Jvm.Cond.and c (allAtoms t)).before a st = _
    rw [Jvm.Cond.before_and, ih, List.all_cons]
def words1 : List Jvm.Cond := Jvm.Cond.code x code maxLocals ret :: tables_1
/-- a 'code' word, met by the world's own term for the bytes: nothing is compared byte by byte -/
theorem code_word {y : MethodName} {bytes : ByteArray} {mx : Nat} {rt : Option FieldType} {a : Array Value} {s : State} {m : MethodId} {meth : Method} {c : Code} (h1 : s.methodNamed? y = some m) (h2 : s.vm.method? m = some meth) (h3 : meth.code = some c) (h4 : c.code = bytes)
    (h5 : (c.maxLocals == mx && c.exceptionTable.isEmpty && decide (c.maxStack ≤ mostOperands) && decide (meth.sig.returnType = rt) && !meth.locks && decide (parseMethodDescriptor y.desc = some meth.sig)) = true) : (Jvm.Cond.code y bytes mx rt).before a s = true := by
  simp only [Bool.and_eq_true, beq_iff_eq, Bool.not_eq_true', decide_eq_true_eq] at h5
  obtain ⟨⟨⟨⟨⟨g1, g2⟩, g3⟩, g4⟩, g5⟩, g6⟩ := h5
  simp [Cond.before, Cond.holds, Cond.value, h1, h2, h3, h4, g1, g2, g3, g4, g5, g6]
def isCode : Jvm.Cond → Bool
  | .code _ _ _ _ => true
  | _ => false
theorem all_split {L : List Jvm.Cond} {P : Jvm.Cond → Bool} (h1 : L.all (fun c => isCode c || P c) = true) (h2 : ∀ c ∈ L.filter isCode, P c = true) : L.all P = true := by
  refine List.all_eq_true.mpr fun c hc => ?_
  have h := List.all_eq_true.mp h1 c hc
  rcases Bool.eq_false_or_eq_true (isCode c) with hi | hi
  · exact h2 c (List.mem_filter.mpr ⟨hc, hi⟩)
  · simpa [hi] using h
set_option maxRecDepth 65536 in
theorem w_c0 : (Jvm.Cond.code x code maxLocals ret).before args0 about1 = true := code_word (m := ⟨1, 3⟩) (meth := k1m3) (c := k1c3) (by decide +kernel) rfl rfl rfl (by decide +kernel)
set_option maxRecDepth 65536 in
theorem w_c1 : (Jvm.Cond.code ({ cls := "com/example/push_to_tree/pushtotree/XmlCharsIsWhitespacePinLaw", name := "pick", desc := "(I)C" } : Jvm.MethodName) method_2_code (2 : Nat) (Option.some Jvm.ClassFile.FieldType.char)).before args0 about1 = true := code_word (m := ⟨1, 1⟩) (meth := k1m1) (c := k1c1) (by decide +kernel) rfl rfl rfl (by decide +kernel)
set_option maxRecDepth 65536 in
theorem w_c2 : (Jvm.Cond.code ({ cls := "java/lang/String", name := "<init>", desc := "([C)V" } : Jvm.MethodName) jdk_42_method_3_code (2 : Nat) (Option.none : Option Jvm.ClassFile.FieldType)).before args0 about1 = true := code_word (m := ⟨7, 1⟩) (meth := k7m1) (c := k7c1) (by decide +kernel) rfl rfl rfl (by decide +kernel)
set_option maxRecDepth 65536 in
theorem w_c3 : (Jvm.Cond.code ({ cls := "java/lang/String", name := "<init>", desc := "([CIILjava/lang/Void;)V" } : Jvm.MethodName) jdk_42_method_149_code (6 : Nat) (Option.none : Option Jvm.ClassFile.FieldType)).before args0 about1 = true := code_word (m := ⟨7, 4⟩) (meth := k7m4) (c := k7c4) (by decide +kernel) rfl rfl rfl (by decide +kernel)
set_option maxRecDepth 65536 in
theorem w_c4 : (Jvm.Cond.code ({ cls := "java/lang/Object", name := "<init>", desc := "()V" } : Jvm.MethodName) object_method_1_code (1 : Nat) (Option.none : Option Jvm.ClassFile.FieldType)).before args0 about1 = true := code_word (m := ⟨0, 0⟩) (meth := k0m0) (c := k0c0) (by decide +kernel) rfl rfl rfl (by decide +kernel)
set_option maxRecDepth 65536 in
theorem w_c5 : (Jvm.Cond.code ({ cls := "com/example/push_to_tree/pushtotree/XmlChars", name := "isWhitespace", desc := "(Ljava/lang/String;)Z" } : Jvm.MethodName) prog_89_method_10_code (2 : Nat) (Option.some Jvm.ClassFile.FieldType.boolean)).before args0 about1 = true := code_word (m := ⟨8, 1⟩) (meth := k8m1) (c := k8c1) (by decide +kernel) rfl rfl rfl (by decide +kernel)
set_option maxRecDepth 65536 in
theorem w_c6 : (Jvm.Cond.code ({ cls := "java/lang/String", name := "length", desc := "()I" } : Jvm.MethodName) jdk_42_method_54_code (1 : Nat) (Option.some Jvm.ClassFile.FieldType.int)).before args0 about1 = true := code_word (m := ⟨7, 2⟩) (meth := k7m2) (c := k7c2) (by decide +kernel) rfl rfl rfl (by decide +kernel)
set_option maxRecDepth 65536 in
theorem w_c7 : (Jvm.Cond.code ({ cls := "java/lang/String", name := "coder", desc := "()B" } : Jvm.MethodName) jdk_42_method_152_code (1 : Nat) (Option.some Jvm.ClassFile.FieldType.byte)).before args0 about1 = true := code_word (m := ⟨7, 5⟩) (meth := k7m5) (c := k7c5) (by decide +kernel) rfl rfl rfl (by decide +kernel)
set_option maxRecDepth 65536 in
theorem w_c8 : (Jvm.Cond.code ({ cls := "java/lang/StringUTF16", name := "compress", desc := "([CII)[B" } : Jvm.MethodName) jdk_52_method_16_code (6 : Nat) (Option.some (Jvm.ClassFile.FieldType.array Jvm.ClassFile.FieldType.byte))).before args0 about1 = true := code_word (m := ⟨9, 8⟩) (meth := k9m8) (c := k9c8) (by decide +kernel) rfl rfl rfl (by decide +kernel)
set_option maxRecDepth 65536 in
theorem w_c9 : (Jvm.Cond.code ({ cls := "java/lang/StringUTF16", name := "compress", desc := "([CI[BII)I" } : Jvm.MethodName) jdk_52_method_21_code (7 : Nat) (Option.some Jvm.ClassFile.FieldType.int)).before args0 about1 = true := code_word (m := ⟨9, 9⟩) (meth := k9m9) (c := k9c9) (by decide +kernel) rfl rfl rfl (by decide +kernel)
set_option maxRecDepth 65536 in
theorem w_c10 : (Jvm.Cond.code ({ cls := "java/lang/StringUTF16", name := "coderFromArrayLen", desc := "([BI)B" } : Jvm.MethodName) jdk_52_method_15_code (2 : Nat) (Option.some Jvm.ClassFile.FieldType.byte)).before args0 about1 = true := code_word (m := ⟨9, 7⟩) (meth := k9m7) (c := k9c7) (by decide +kernel) rfl rfl rfl (by decide +kernel)
set_option maxRecDepth 65536 in
theorem w_c11 : (Jvm.Cond.code ({ cls := "com/example/push_to_tree/pushtotree/XmlCharsIsWhitespacePinLaw", name := "ws", desc := "(C)Z" } : Jvm.MethodName) method_3_code (1 : Nat) (Option.some Jvm.ClassFile.FieldType.boolean)).before args0 about1 = true := code_word (m := ⟨1, 2⟩) (meth := k1m2) (c := k1c2) (by decide +kernel) rfl rfl rfl (by decide +kernel)
set_option maxRecDepth 65536 in
theorem w_c12 : (Jvm.Cond.code ({ cls := "java/lang/String", name := "charAt", desc := "(I)C" } : Jvm.MethodName) jdk_42_method_56_code (2 : Nat) (Option.some Jvm.ClassFile.FieldType.char)).before args0 about1 = true := code_word (m := ⟨7, 3⟩) (meth := k7m3) (c := k7c3) (by decide +kernel) rfl rfl rfl (by decide +kernel)
set_option maxRecDepth 65536 in
theorem w_c13 : (Jvm.Cond.code ({ cls := "java/lang/String", name := "isLatin1", desc := "()Z" } : Jvm.MethodName) jdk_42_method_154_code (1 : Nat) (Option.some Jvm.ClassFile.FieldType.boolean)).before args0 about1 = true := code_word (m := ⟨7, 6⟩) (meth := k7m6) (c := k7c6) (by decide +kernel) rfl rfl rfl (by decide +kernel)
set_option maxRecDepth 65536 in
theorem w_c14 : (Jvm.Cond.code ({ cls := "java/lang/StringLatin1", name := "charAt", desc := "([BI)C" } : Jvm.MethodName) jdk_43_method_2_code (2 : Nat) (Option.some Jvm.ClassFile.FieldType.char)).before args0 about1 = true := code_word (m := ⟨10, 1⟩) (meth := k10m1) (c := k10c1) (by decide +kernel) rfl rfl rfl (by decide +kernel)
set_option maxRecDepth 65536 in
theorem w_c15 : (Jvm.Cond.code ({ cls := "java/lang/String", name := "checkIndex", desc := "(II)V" } : Jvm.MethodName) jdk_42_method_155_code (2 : Nat) (Option.none : Option Jvm.ClassFile.FieldType)).before args0 about1 = true := code_word (m := ⟨7, 7⟩) (meth := k7m7) (c := k7c7) (by decide +kernel) rfl rfl rfl (by decide +kernel)
set_option maxRecDepth 65536 in
theorem w_c16 : (Jvm.Cond.code ({ cls := "jdk/internal/util/Preconditions", name := "checkIndex", desc := "(IILjava/util/function/BiFunction;)I" } : Jvm.MethodName) jdk_41_method_11_code (3 : Nat) (Option.some Jvm.ClassFile.FieldType.int)).before args0 about1 = true := code_word (m := ⟨11, 1⟩) (meth := k11m1) (c := k11c1) (by decide +kernel) rfl rfl rfl (by decide +kernel)
set_option maxRecDepth 65536 in
theorem w_c17 : (Jvm.Cond.code ({ cls := "com/example/push_to_tree/pushtotree/XmlChars", name := "isWhitespace", desc := "(C)Z" } : Jvm.MethodName) prog_89_method_11_code (1 : Nat) (Option.some Jvm.ClassFile.FieldType.boolean)).before args0 about1 = true := code_word (m := ⟨8, 2⟩) (meth := k8m2) (c := k8c2) (by decide +kernel) rfl rfl rfl (by decide +kernel)
set_option maxRecDepth 65536 in
theorem w_c18 : (Jvm.Cond.code ({ cls := "java/lang/StringUTF16", name := "toBytes", desc := "([CII)[B" } : Jvm.MethodName) jdk_52_method_14_code (5 : Nat) (Option.some (Jvm.ClassFile.FieldType.array Jvm.ClassFile.FieldType.byte))).before args0 about1 = true := code_word (m := ⟨9, 6⟩) (meth := k9m6) (c := k9c6) (by decide +kernel) rfl rfl rfl (by decide +kernel)
set_option maxRecDepth 65536 in
theorem w_c19 : (Jvm.Cond.code ({ cls := "java/lang/StringUTF16", name := "newBytesFor", desc := "(I)[B" } : Jvm.MethodName) jdk_52_method_2_code (1 : Nat) (Option.some (Jvm.ClassFile.FieldType.array Jvm.ClassFile.FieldType.byte))).before args0 about1 = true := code_word (m := ⟨9, 1⟩) (meth := k9m1) (c := k9c1) (by decide +kernel) rfl rfl rfl (by decide +kernel)
set_option maxRecDepth 65536 in
theorem w_c20 : (Jvm.Cond.code ({ cls := "java/lang/StringUTF16", name := "newBytesLength", desc := "(I)I" } : Jvm.MethodName) jdk_52_method_3_code (1 : Nat) (Option.some Jvm.ClassFile.FieldType.int)).before args0 about1 = true := code_word (m := ⟨9, 2⟩) (meth := k9m2) (c := k9c2) (by decide +kernel) rfl rfl rfl (by decide +kernel)
set_option maxRecDepth 65536 in
theorem w_c21 : (Jvm.Cond.code ({ cls := "java/lang/StringUTF16", name := "putChar", desc := "([BII)V" } : Jvm.MethodName) jdk_52_method_4_code (3 : Nat) (Option.none : Option Jvm.ClassFile.FieldType)).before args0 about1 = true := code_word (m := ⟨9, 3⟩) (meth := k9m3) (c := k9c3) (by decide +kernel) rfl rfl rfl (by decide +kernel)
set_option maxRecDepth 65536 in
theorem w_c22 : (Jvm.Cond.code ({ cls := "java/lang/StringUTF16", name := "getChar", desc := "([BI)C" } : Jvm.MethodName) jdk_52_method_5_code (2 : Nat) (Option.some Jvm.ClassFile.FieldType.char)).before args0 about1 = true := code_word (m := ⟨9, 4⟩) (meth := k9m4) (c := k9c4) (by decide +kernel) rfl rfl rfl (by decide +kernel)
set_option maxRecDepth 65536 in
theorem w_c23 : (Jvm.Cond.code ({ cls := "java/lang/StringUTF16", name := "charAt", desc := "([BI)C" } : Jvm.MethodName) jdk_52_method_83_code (2 : Nat) (Option.some Jvm.ClassFile.FieldType.char)).before args0 about1 = true := code_word (m := ⟨9, 10⟩) (meth := k9m10) (c := k9c10) (by decide +kernel) rfl rfl rfl (by decide +kernel)
set_option maxRecDepth 65536 in
theorem w_c24 : (Jvm.Cond.code ({ cls := "java/lang/StringUTF16", name := "checkIndex", desc := "(I[B)V" } : Jvm.MethodName) jdk_52_method_91_code (2 : Nat) (Option.none : Option Jvm.ClassFile.FieldType)).before args0 about1 = true := code_word (m := ⟨9, 11⟩) (meth := k9m11) (c := k9c11) (by decide +kernel) rfl rfl rfl (by decide +kernel)
set_option maxRecDepth 65536 in
theorem w_c25 : (Jvm.Cond.code ({ cls := "java/lang/StringUTF16", name := "length", desc := "([B)I" } : Jvm.MethodName) jdk_52_method_6_code (1 : Nat) (Option.some Jvm.ClassFile.FieldType.int)).before args0 about1 = true := code_word (m := ⟨9, 5⟩) (meth := k9m5) (c := k9c5) (by decide +kernel) rfl rfl rfl (by decide +kernel)
def codes1 : List Jvm.Cond := [Jvm.Cond.code x code maxLocals ret, Jvm.Cond.code ({ cls := "com/example/push_to_tree/pushtotree/XmlCharsIsWhitespacePinLaw", name := "pick", desc := "(I)C" } : Jvm.MethodName) method_2_code (2 : Nat) (Option.some Jvm.ClassFile.FieldType.char), Jvm.Cond.code ({ cls := "java/lang/String", name := "<init>", desc := "([C)V" } : Jvm.MethodName) jdk_42_method_3_code (2 : Nat) (Option.none : Option Jvm.ClassFile.FieldType), Jvm.Cond.code ({ cls := "java/lang/String", name := "<init>", desc := "([CIILjava/lang/Void;)V" } : Jvm.MethodName) jdk_42_method_149_code (6 : Nat) (Option.none : Option Jvm.ClassFile.FieldType), Jvm.Cond.code ({ cls := "java/lang/Object", name := "<init>", desc := "()V" } : Jvm.MethodName) object_method_1_code (1 : Nat) (Option.none : Option Jvm.ClassFile.FieldType), Jvm.Cond.code ({ cls := "com/example/push_to_tree/pushtotree/XmlChars", name := "isWhitespace", desc := "(Ljava/lang/String;)Z" } : Jvm.MethodName) prog_89_method_10_code (2 : Nat) (Option.some Jvm.ClassFile.FieldType.boolean), Jvm.Cond.code ({ cls := "java/lang/String", name := "length", desc := "()I" } : Jvm.MethodName) jdk_42_method_54_code (1 : Nat) (Option.some Jvm.ClassFile.FieldType.int), Jvm.Cond.code ({ cls := "java/lang/String", name := "coder", desc := "()B" } : Jvm.MethodName) jdk_42_method_152_code (1 : Nat) (Option.some Jvm.ClassFile.FieldType.byte), Jvm.Cond.code ({ cls := "java/lang/StringUTF16", name := "compress", desc := "([CII)[B" } : Jvm.MethodName) jdk_52_method_16_code (6 : Nat) (Option.some (Jvm.ClassFile.FieldType.array Jvm.ClassFile.FieldType.byte)), Jvm.Cond.code ({ cls := "java/lang/StringUTF16", name := "compress", desc := "([CI[BII)I" } : Jvm.MethodName) jdk_52_method_21_code (7 : Nat) (Option.some Jvm.ClassFile.FieldType.int), Jvm.Cond.code ({ cls := "java/lang/StringUTF16", name := "coderFromArrayLen", desc := "([BI)B" } : Jvm.MethodName) jdk_52_method_15_code (2 : Nat) (Option.some Jvm.ClassFile.FieldType.byte), Jvm.Cond.code ({ cls := "com/example/push_to_tree/pushtotree/XmlCharsIsWhitespacePinLaw", name := "ws", desc := "(C)Z" } : Jvm.MethodName) method_3_code (1 : Nat) (Option.some Jvm.ClassFile.FieldType.boolean), Jvm.Cond.code ({ cls := "java/lang/String", name := "charAt", desc := "(I)C" } : Jvm.MethodName) jdk_42_method_56_code (2 : Nat) (Option.some Jvm.ClassFile.FieldType.char), Jvm.Cond.code ({ cls := "java/lang/String", name := "isLatin1", desc := "()Z" } : Jvm.MethodName) jdk_42_method_154_code (1 : Nat) (Option.some Jvm.ClassFile.FieldType.boolean), Jvm.Cond.code ({ cls := "java/lang/StringLatin1", name := "charAt", desc := "([BI)C" } : Jvm.MethodName) jdk_43_method_2_code (2 : Nat) (Option.some Jvm.ClassFile.FieldType.char), Jvm.Cond.code ({ cls := "java/lang/String", name := "checkIndex", desc := "(II)V" } : Jvm.MethodName) jdk_42_method_155_code (2 : Nat) (Option.none : Option Jvm.ClassFile.FieldType), Jvm.Cond.code ({ cls := "jdk/internal/util/Preconditions", name := "checkIndex", desc := "(IILjava/util/function/BiFunction;)I" } : Jvm.MethodName) jdk_41_method_11_code (3 : Nat) (Option.some Jvm.ClassFile.FieldType.int), Jvm.Cond.code ({ cls := "com/example/push_to_tree/pushtotree/XmlChars", name := "isWhitespace", desc := "(C)Z" } : Jvm.MethodName) prog_89_method_11_code (1 : Nat) (Option.some Jvm.ClassFile.FieldType.boolean), Jvm.Cond.code ({ cls := "java/lang/StringUTF16", name := "toBytes", desc := "([CII)[B" } : Jvm.MethodName) jdk_52_method_14_code (5 : Nat) (Option.some (Jvm.ClassFile.FieldType.array Jvm.ClassFile.FieldType.byte)), Jvm.Cond.code ({ cls := "java/lang/StringUTF16", name := "newBytesFor", desc := "(I)[B" } : Jvm.MethodName) jdk_52_method_2_code (1 : Nat) (Option.some (Jvm.ClassFile.FieldType.array Jvm.ClassFile.FieldType.byte)), Jvm.Cond.code ({ cls := "java/lang/StringUTF16", name := "newBytesLength", desc := "(I)I" } : Jvm.MethodName) jdk_52_method_3_code (1 : Nat) (Option.some Jvm.ClassFile.FieldType.int), Jvm.Cond.code ({ cls := "java/lang/StringUTF16", name := "putChar", desc := "([BII)V" } : Jvm.MethodName) jdk_52_method_4_code (3 : Nat) (Option.none : Option Jvm.ClassFile.FieldType), Jvm.Cond.code ({ cls := "java/lang/StringUTF16", name := "getChar", desc := "([BI)C" } : Jvm.MethodName) jdk_52_method_5_code (2 : Nat) (Option.some Jvm.ClassFile.FieldType.char), Jvm.Cond.code ({ cls := "java/lang/StringUTF16", name := "charAt", desc := "([BI)C" } : Jvm.MethodName) jdk_52_method_83_code (2 : Nat) (Option.some Jvm.ClassFile.FieldType.char), Jvm.Cond.code ({ cls := "java/lang/StringUTF16", name := "checkIndex", desc := "(I[B)V" } : Jvm.MethodName) jdk_52_method_91_code (2 : Nat) (Option.none : Option Jvm.ClassFile.FieldType), Jvm.Cond.code ({ cls := "java/lang/StringUTF16", name := "length", desc := "([B)I" } : Jvm.MethodName) jdk_52_method_6_code (1 : Nat) (Option.some Jvm.ClassFile.FieldType.int)]
set_option maxRecDepth 65536 in
theorem codes_eq : words1.filter isCode = codes1 := rfl
theorem w_codes : ∀ c ∈ words1.filter isCode, c.before args0 about1 = true := by
  rw [codes_eq]
  intro c hc
  simp only [codes1, List.mem_cons, List.not_mem_nil, or_false] at hc
  rcases hc with rfl | rfl | rfl | rfl | rfl | rfl | rfl | rfl | rfl | rfl | rfl | rfl | rfl | rfl | rfl | rfl | rfl | rfl | rfl | rfl | rfl | rfl | rfl | rfl | rfl | rfl
  · exact w_c0
  · exact w_c1
  · exact w_c2
  · exact w_c3
  · exact w_c4
  · exact w_c5
  · exact w_c6
  · exact w_c7
  · exact w_c8
  · exact w_c9
  · exact w_c10
  · exact w_c11
  · exact w_c12
  · exact w_c13
  · exact w_c14
  · exact w_c15
  · exact w_c16
  · exact w_c17
  · exact w_c18
  · exact w_c19
  · exact w_c20
  · exact w_c21
  · exact w_c22
  · exact w_c23
  · exact w_c24
  · exact w_c25
set_option maxRecDepth 65536 in
theorem w_t1 : (words1.take 24).all (fun c => isCode c || c.before args0 about1) = true := by decide +kernel
set_option maxRecDepth 65536 in
theorem w_t2 : ((words1.drop 24).take 24).all (fun c => isCode c || c.before args0 about1) = true := by decide +kernel
set_option maxRecDepth 65536 in
theorem w_t3 : (((words1.drop 24).drop 24).take 24).all (fun c => isCode c || c.before args0 about1) = true := by decide +kernel
set_option maxRecDepth 65536 in
theorem w_t4 : ((((words1.drop 24).drop 24).drop 24).take 24).all (fun c => isCode c || c.before args0 about1) = true := by decide +kernel
set_option maxRecDepth 65536 in
theorem w_t5 : ((((words1.drop 24).drop 24).drop 24).drop 24).all (fun c => isCode c || c.before args0 about1) = true := by decide +kernel
theorem w_tables : (allAtoms (Jvm.Cond.code x code maxLocals ret :: tables_1)).before args0 about1 = true := by
  rw [allAtoms_all]
  show words1.all (fun c => c.before args0 about1) = true
  refine all_split ?_ w_codes
  rw [← List.take_append_drop 24 words1, List.all_append, w_t1, ← List.take_append_drop 24 (words1.drop 24), List.all_append, w_t2, ← List.take_append_drop 24 ((words1.drop 24).drop 24), List.all_append, w_t3, ← List.take_append_drop 24 (((words1.drop 24).drop 24).drop 24), List.all_append, w_t4, w_t5]
  rfl
set_option maxRecDepth 65536 in
theorem w_rest : rest_1_c.before args0 about1 = true := by decide +kernel
set_option maxRecDepth 65536 in
theorem w_case : (Jvm.Cond.and given_1 narrow_1).before args0 about1 = true := by decide +kernel
set_option maxRecDepth 65536 in
theorem w_consts : constsHeld consts_1 about1 := Jvm.Lit.constsHeldB_iff.mp (by decide +kernel)
theorem w_applies : (headSpec (Jvm.Cond.code x code maxLocals ret :: tables_1) room_1).applies x e0.platform about1 = true :=
  (Spec.applies_iff w_frames).mpr ⟨w_running, w_runnable, w_alone, w_named, w_hears, w_ripe, w_room, w_tables⟩
theorem atStart : AtStart classFile x code maxLocals ret World_1 tables_1 room_1 Calls_1 rest_1 Pre_1 launch0 p0 e0 about1 theMethod args0 below0 :=
  ⟨lists_1, trivial, launch0.admits_env _ _ _, launch0.least_env, fairChoices_fair.cas, fairChoices_fair.clock, w_frames, w_args, w_heap, w_applies, ⟨w_consts, trivial⟩, w_rest, w_case⟩
end start1
theorem witness_1 : WitnessClaimed_1 := ⟨start1.p0, start1.e0, start1.about1, start1.theMethod, start1.args0, start1.below0, start1.atStart⟩
end Jvm.Pilot.@@N@@
