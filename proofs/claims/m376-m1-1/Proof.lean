import JvmDerived
import JvmDerived.Pilot.@@N@@Statement
import JvmDerived.Pilot.@@N@@Code
set_option linter.unusedVariables false
set_option linter.unusedSimpArgs false
namespace Jvm.RoadKit
open Sem ClassFile Op Lib Jvm.Stand Jvm.Free Jvm.LawKit
section New
variable {p : Program} {l : Launch} {e : Env} {R : Room} {s : State} {m : MethodId} {args : Array Value} {below : List Frame} {meth : Method} {c : Code} {T : State} {locs : List Loc} {cells slots : Nat}
theorem retI (X : Stand p l e R s m args below meth c T locs cells slots) (hx : p.tables.exec = Jvm.exec) {pc : Nat} {Ls : Array Slot} {z : Int32} {rest : List Value} (hret : meth.sig.returnType = some .int) (hd : decode c.code pc = .ok (.ireturn, 1)) {fs : List Frame}
    (hl : ∀ (f : JFrame) (acts : List Action), f.method = m → f.locked = none → f.entered = [] → (doReturn e (T.setTop f) acts (some (.int z))).1 = T.setFrames fs) : Steps p.tables e below (T.setTop (mkF m pc Ls (.int z :: rest))) (T.setFrames fs) := by
  have hm' : T.vm.method? m = some meth := X.method'
  have hn : narrow .int (.int z) = .int z := rfl
  show Steps p.tables e below (T.setTop { method := m, pc := pc, locals := Ls, stack := _ :: rest, locked := none }) _
  jvm_step X.here [X.here.top, hx, hd, hm', hret, hn]
  first | (intro acts; rw [hl _ acts rfl rfl rfl]) | rw [hl _ _ rfl rfl rfl]
  exact Steps.refl _
end New
end Jvm.RoadKit
namespace Jvm.Pilot.@@N@@
open Jvm Jvm.ClassFile Sem Op Lib Jvm.Free Jvm.Stand Jvm.LawKit Jvm.RoadKit Bundle Jvm.Pilot.@@N@@.Jvm.D
theorem own_w {a0 : Array Value} {Z : State} (hw : ∀ d ∈ tables_1, d.before a0 Z = true) (k : Nat) {d : Jvm.Cond} (h : tables_1[k]? = some d := by rfl) : d.before a0 Z = true := hw _ (List.mem_of_getElem? h)
theorem own_neq {a b : Nat} (h : a < b ∨ b < a) : a ≠ b := by omega
abbrev oI (x : Int32) : Slot := .val (.int x)
abbrev oR (a : Addr) : Slot := .val (.ref a)
abbrev oJ (x : Int64) : Slot := .val (.long x)
abbrev oD (x : UInt64) : Slot := .val (.double x)
/-- from the state A the run comes to an end of which Q holds -/
def own_Go (p : Program) (e : Env) (below : List Frame) (Q : Outcome → State → Prop) (A : State) : Prop := ∃ s₂ o, Steps p.tables e below A s₂ ∧ s₂.status = .running ∧ Ended s₂ below o ∧ Q o s₂
theorem own_via {p : Program} {e : Env} {below : List Frame} {Q : Outcome → State → Prop} {A B : State} (h : ∀ t, Steps p.tables e below B t → Steps p.tables e below A t) (g : own_Go p e below Q B) : own_Go p e below Q A := by
  obtain ⟨s₂, o, h1, h2⟩ := g
  exact ⟨s₂, o, h _ h1, h2⟩
theorem own_tr {p : Program} {e : Env} {below : List Frame} {Q : Outcome → State → Prop} {A B : State} (h : Steps p.tables e below A B) (g : own_Go p e below Q B) : own_Go p e below Q A := by
  obtain ⟨s₂, o, h1, h2⟩ := g
  exact ⟨s₂, o, h.trans h1, h2⟩
/-- from the state A the run comes to a state B of which Φ holds -/
def own_Pc (p : Program) (e : Env) (below : List Frame) (Φ : State → Prop) (A : State) : Prop := ∃ B, (∀ t, Steps p.tables e below B t → Steps p.tables e below A t) ∧ Φ B
theorem own_pvia {p : Program} {e : Env} {below : List Frame} {Φ : State → Prop} {A B : State} (h : ∀ t, Steps p.tables e below B t → Steps p.tables e below A t) (g : own_Pc p e below Φ B) : own_Pc p e below Φ A := by
  obtain ⟨B', h1, h2⟩ := g
  exact ⟨B', fun t k => h t (h1 t k), h2⟩
theorem own_ptr {p : Program} {e : Env} {below : List Frame} {Φ : State → Prop} {A B : State} (h : Steps p.tables e below A B) (g : own_Pc p e below Φ B) : own_Pc p e below Φ A := own_pvia (fun t k => h.trans k) g
theorem own_start {p : Program} {e : Env} {below : List Frame} {Q : Outcome → State → Prop} {A : State} (h : own_Go p e below Q A) : ∃ s₂ o, Steps p.tables e below A s₂ ∧ s₂.status = .running ∧ Ended s₂ below o ∧ Q o s₂ := h
abbrev own_S : Type := Int32 × Int32 × Int32 × Int32 × Int32 × Int32 × Int32 × Int32 × Int32 × Int32 × Int32 × Int32 × Int32
def own_mk (wm00 wm01 wm10 wm11 wt0 wt1 ws00 ws01 ws10 ws11 wc0 wc1 wn : Int32) : own_S := (wm00, wm01, wm10, wm11, wt0, wt1, ws00, ws01, ws10, ws11, wc0, wc1, wn)
def own_pwm00 (S : own_S) : Int32 := S.1
def own_pwm01 (S : own_S) : Int32 := S.2.1
def own_pwm10 (S : own_S) : Int32 := S.2.2.1
def own_pwm11 (S : own_S) : Int32 := S.2.2.2.1
def own_pwt0 (S : own_S) : Int32 := S.2.2.2.2.1
def own_pwt1 (S : own_S) : Int32 := S.2.2.2.2.2.1
def own_pws00 (S : own_S) : Int32 := S.2.2.2.2.2.2.1
def own_pws01 (S : own_S) : Int32 := S.2.2.2.2.2.2.2.1
def own_pws10 (S : own_S) : Int32 := S.2.2.2.2.2.2.2.2.1
def own_pws11 (S : own_S) : Int32 := S.2.2.2.2.2.2.2.2.2.1
def own_pwc0 (S : own_S) : Int32 := S.2.2.2.2.2.2.2.2.2.2.1
def own_pwc1 (S : own_S) : Int32 := S.2.2.2.2.2.2.2.2.2.2.2.1
def own_pwn (S : own_S) : Int32 := S.2.2.2.2.2.2.2.2.2.2.2.2
def own_TC (Z : State) (h : Heap) (n0 : Nat) (this : Addr) (S : own_S) : Prop := ∃ (amo am0 am1 ata aso as0 as1 aca : Addr) (ck1 ck2 ck3 ck4 ck5 ck6 ck7 ck8 : ClassId), (n0 ≤ this ∧ @LT.lt Nat instLTNat this amo ∧ @LT.lt Nat instLTNat amo am0 ∧ @LT.lt Nat instLTNat am0 am1 ∧ @LT.lt Nat instLTNat am1 ata ∧ @LT.lt Nat instLTNat ata aso ∧ @LT.lt Nat instLTNat aso as0 ∧ @LT.lt Nat instLTNat as0 as1 ∧ @LT.lt Nat instLTNat as1 aca) ∧ Exa Z h this "com/example/matchloom/matchloom/league/TouchedCells" ∧ Fld Z h this "com/example/matchloom/matchloom/league/TouchedCells" "marked" "[[Z" (.ref amo) ∧ Fld Z h this "com/example/matchloom/matchloom/league/TouchedCells" "teams" "[I" (.ref ata) ∧ Fld Z h this "com/example/matchloom/matchloom/league/TouchedCells" "slots" "[[I" (.ref aso) ∧ Fld Z h this "com/example/matchloom/matchloom/league/TouchedCells" "slotCount" "[I" (.ref aca) ∧ Fld Z h this "com/example/matchloom/matchloom/league/TouchedCells" "teamCount" "I" (.int (own_pwn S)) ∧ Arv Z h amo ck1 (.array .boolean) (2 : Int32) [(.ref am0), (.ref am1)] .null ∧ Arv Z h am0 ck2 .boolean (2 : Int32) [(.int (own_pwm00 S)), (.int (own_pwm01 S))] (.int (0 : Int32)) ∧ Arv Z h am1 ck3 .boolean (2 : Int32) [(.int (own_pwm10 S)), (.int (own_pwm11 S))] (.int (0 : Int32)) ∧ Arv Z h ata ck4 .int (2 : Int32) [(.int (own_pwt0 S)), (.int (own_pwt1 S))] (.int (0 : Int32)) ∧ Arv Z h aso ck5 (.array .int) (2 : Int32) [(.ref as0), (.ref as1)] .null ∧ Arv Z h as0 ck6 .int (2 : Int32) [(.int (own_pws00 S)), (.int (own_pws01 S))] (.int (0 : Int32)) ∧ Arv Z h as1 ck7 .int (2 : Int32) [(.int (own_pws10 S)), (.int (own_pws11 S))] (.int (0 : Int32)) ∧ Arv Z h aca ck8 .int (2 : Int32) [(.int (own_pwc0 S)), (.int (own_pwc1 S))] (.int (0 : Int32))
theorem own_exa {Z : State} {h : Heap} {n0 : Nat} {this : Addr} {S : own_S} (H : own_TC Z h n0 this S) : Exa Z h this "com/example/matchloom/matchloom/league/TouchedCells" := by
  obtain ⟨_, _, _, _, _, _, _, _, _, _, _, _, _, _, _, _, -, E, -⟩ := H
  exact E
theorem own_dupX2 {tb : Tables} [Ours tb] {e : Env} {below : List Frame} {T target : State} {m : MethodId} {c : Code} {g : JFrame} (h : At T m c below) (hx : tb.exec = Jvm.exec) (hg : g.method = m) {x y z : Value} {rest : List Value} (hd : decode c.code g.pc = .ok (.dup_x2, 1)) (hs : g.stack = x :: y :: z :: rest) (hc : x.category = 1) (hc' : y.category = 1) (hc'' : z.category = 1)
    (hr : Steps tb e below (T.setTop { g with pc := g.pc + 1, stack := x :: y :: z :: x :: rest }) target) : Steps tb e below (T.setTop g) target := by
  subst hg
  jvm_step h [h.top, hx, hd, hs, hc, hc', hc'']
  exact hr
def own_pick (t s a b c d : Int32) : Int32 := if t = 0 then (if s = 0 then a else b) else (if s = 0 then c else d)
def own_pick1 (t a b : Int32) : Int32 := if t = 0 then a else b
theorem d1_0 : decode prog_45_method_1_code 0 = .ok (.aload_n 0, 1) := by decide +kernel
theorem d1_1 : decode prog_45_method_1_code 1 = .ok (.invokespecial 1, 3) := by decide +kernel
theorem d1_4 : decode prog_45_method_1_code 4 = .ok (.aload_n 0, 1) := by decide +kernel
theorem d1_5 : decode prog_45_method_1_code 5 = .ok (.iload_n 1, 1) := by decide +kernel
theorem d1_6 : decode prog_45_method_1_code 6 = .ok (.iload_n 2, 1) := by decide +kernel
theorem d1_7 : decode prog_45_method_1_code 7 = .ok (.multianewarray 7 2, 4) := by decide +kernel
theorem d1_11 : decode prog_45_method_1_code 11 = .ok (.putfield 9, 3) := by decide +kernel
theorem d1_14 : decode prog_45_method_1_code 14 = .ok (.aload_n 0, 1) := by decide +kernel
theorem d1_15 : decode prog_45_method_1_code 15 = .ok (.iload_n 1, 1) := by decide +kernel
theorem d1_16 : decode prog_45_method_1_code 16 = .ok (.newarray .int, 2) := by decide +kernel
theorem d1_18 : decode prog_45_method_1_code 18 = .ok (.putfield 14, 3) := by decide +kernel
theorem d1_21 : decode prog_45_method_1_code 21 = .ok (.aload_n 0, 1) := by decide +kernel
theorem d1_22 : decode prog_45_method_1_code 22 = .ok (.iload_n 1, 1) := by decide +kernel
theorem d1_23 : decode prog_45_method_1_code 23 = .ok (.iload_n 2, 1) := by decide +kernel
theorem d1_24 : decode prog_45_method_1_code 24 = .ok (.multianewarray 18 2, 4) := by decide +kernel
theorem d1_28 : decode prog_45_method_1_code 28 = .ok (.putfield 20, 3) := by decide +kernel
theorem d1_31 : decode prog_45_method_1_code 31 = .ok (.aload_n 0, 1) := by decide +kernel
theorem d1_32 : decode prog_45_method_1_code 32 = .ok (.iload_n 1, 1) := by decide +kernel
theorem d1_33 : decode prog_45_method_1_code 33 = .ok (.newarray .int, 2) := by decide +kernel
theorem d1_35 : decode prog_45_method_1_code 35 = .ok (.putfield 23, 3) := by decide +kernel
theorem d1_38 : decode prog_45_method_1_code 38 = .ok (.return_, 1) := by decide +kernel
theorem pn_1 : plainName "com/example/matchloom/matchloom/league/TouchedCells" = true := by first | (simp [plainName, overriddenIn]; done) | decide +kernel
theorem ef_rm1 (m : MethodId) (q0 : Addr) : entryFrame m #[(.ref q0), (.int (2 : Int32)), (.int (2 : Int32))] 3 = mkF m 0 #[oR q0, oI (2 : Int32), oI (2 : Int32)] [] := by first | (simp [entryFrame, mkF, argsToLocals, Value.category]; done) | rfl
def Q1 (Z : State) (this : Addr) (h0 : Heap) (n0 : Nat) (v : Option Value) (h : Heap) (L : List Loc) : Prop := v = none ∧ Fr n0 L ∧ n0 ≤ h.size ∧ own_TC Z h n0 this (own_mk (0 : Int32) (0 : Int32) (0 : Int32) (0 : Int32) (0 : Int32) (0 : Int32) (0 : Int32) (0 : Int32) (0 : Int32) (0 : Int32) (0 : Int32) (0 : Int32) (0 : Int32))
set_option maxRecDepth 65536 in
set_option maxHeartbeats 40000000 in
theorem rm1 (l : Launch) (Z : State) (a0 : Array Value) (hw : ∀ d ∈ tables_1, d.before a0 Z = true) (ws : List Jvm.Cond) (this : Addr) (h0 : Heap) (n0 : Nat) (Z0 : n0 ≤ h0.size) (g_this : n0 ≤ this) (E_this : Exa Z h0 this "com/example/matchloom/matchloom/league/TouchedCells") (F_marked : Fld Z h0 this "com/example/matchloom/matchloom/league/TouchedCells" "marked" "[[Z" .null) (F_teams : Fld Z h0 this "com/example/matchloom/matchloom/league/TouchedCells" "teams" "[I" .null) (F_slots : Fld Z h0 this "com/example/matchloom/matchloom/league/TouchedCells" "slots" "[[I" .null) (F_slotCount : Fld Z h0 this "com/example/matchloom/matchloom/league/TouchedCells" "slotCount" "[I" .null) (F_teamCount : Fld Z h0 this "com/example/matchloom/matchloom/league/TouchedCells" "teamCount" "I" (.int (0 : Int32))) :
    MetFree l (⟨"com/example/matchloom/matchloom/league/TouchedCells", "<init>", "(II)V"⟩ : MethodName) (head1 (Jvm.Cond.code (⟨"com/example/matchloom/matchloom/league/TouchedCells", "<init>", "(II)V"⟩ : MethodName) prog_45_method_1_code 3 none :: ws) ({ frames := 1, cells := 8, slots := 16, locals := 12 } : Room)) (fun a U => a = #[(.ref this), (.int (2 : Int32)), (.int (2 : Int32))] ∧ Z.Warmed39 U.vm ∧ U.heap = h0) (fun _ _ _ _ _ => True) (fun _ U o U' => ∃ v L, o = .returned v ∧ Q1 Z this h0 n0 v U'.heap L ∧ FrameEnd U o U' L ({ frames := 1, cells := 8, slots := 16, locals := 12 } : Room).cells ({ frames := 1, cells := 8, slots := 16, locals := 12 } : Room).slots) := by
  refine MetFree.of_bodySF (plainFor_of_name pn_1) hisR ?_
  intro p e s m args below meth c s₁ Bd hml0 hP hK
  obtain ⟨rfl, hZ, hh⟩ := hP
  have hx := Bd.exec
  have hby := Bd.bytes
  have hml : c.maxLocals = 3 := hml0
  have hown : s.vm.findClass "com/example/matchloom/matchloom/league/TouchedCells" = some m.cls := findClass_of_methodNamed Bd.named
  have hnm := (name_of_methodNamed Bd.named Bd.method).1
  have X0 : Stand p l e ({ frames := 1, cells := 8, slots := 16, locals := 12 } : Room) s m #[(.ref this), (.int (2 : Int32)), (.int (2 : Int32))] below meth c s₁ [] 0 0 := Stand.of_body Bd
  have e0 : s₁.heap = h0 := by rw [← hh, Bd.state]; rfl
  have N0 := Fr.nil n0
  refine own_start ?_
  refine own_via (fun t k => castTop (ef_rm1 m this) k) ?_
  show own_Go p e below _ (s₁.setTop (mkF m 0 #[oR this, oI (2 : Int32), oI (2 : Int32)] []))
  refine own_via (fun t kz => XS.aloadN X0.here hx rfl (hb hby d1_0) rfl rfl kz) ?_
  show own_Go p e below _ (s₁.setTop (mkF m 1 #[oR this, oI (2 : Int32), oI (2 : Int32)] [(.ref this)]))
  obtain ⟨T1, X1, e1, st1⟩ := initO X0 hx hZ hown (own_w hw 6) (own_w hw 7) (own_w hw 8) e0 (g := (mkF m 1 #[oR this, oI (2 : Int32), oI (2 : Int32)] [(.ref this)])) rfl (by rw [hml]; rfl) rfl (hb hby d1_1) (by decide) (W := 0) (by show 2 * 0 + _ ≤ _; exact Nat.le_of_eq rfl) (by decide)
  refine own_via st1 ?_
  show own_Go p e below _ (T1.setTop (mkF m 4 #[oR this, oI (2 : Int32), oI (2 : Int32)] []))
  refine own_via (fun t kz => XS.aloadN X1.here hx rfl (hb hby d1_4) rfl rfl kz) ?_
  show own_Go p e below _ (T1.setTop (mkF m 5 #[oR this, oI (2 : Int32), oI (2 : Int32)] [(.ref this)]))
  refine own_via (fun t kz => XS.iloadN X1.here hx rfl (hb hby d1_5) rfl kz) ?_
  show own_Go p e below _ (T1.setTop (mkF m 6 #[oR this, oI (2 : Int32), oI (2 : Int32)] [(.int (2 : Int32)), (.ref this)]))
  refine own_via (fun t kz => XS.iloadN X1.here hx rfl (hb hby d1_6) rfl kz) ?_
  show own_Go p e below _ (T1.setTop (mkF m 7 #[oR this, oI (2 : Int32), oI (2 : Int32)] [(.int (2 : Int32)), (.int (2 : Int32)), (.ref this)]))
  obtain ⟨b2_0, gb2_0⟩ : ∃ z, z = h0.size + 1 + 0 := ⟨_, rfl⟩
  obtain ⟨b2_1, gb2_1⟩ : ∃ z, z = h0.size + 1 + 1 := ⟨_, rfl⟩
  obtain ⟨T2, h2, k2, kk2, X2, e2, E2, A2, -, -, B2, st2⟩ := gridM X1 hx hZ (C := "[Z") (ad := "[[Z") (ty := .boolean) hown (by decide) (by decide) (own_w hw 9) (own_w hw 10) (own_w hw 11) e1 (g := (mkF m 7 #[oR this, oI (2 : Int32), oI (2 : Int32)] [(.int (2 : Int32)), (.int (2 : Int32)), (.ref this)])) rfl (hb hby d1_7) rfl (by decide) (by decide) (xs := [b2_0, b2_1]) (N := 2) (by decide) (by rw [gb2_0, gb2_1]; rfl) (cap := 2) (by decide) (by decide) (by decide) rfl rfl (by decide) (by decide)
  obtain ⟨a2, g2⟩ : ∃ z, z = h0.size := ⟨_, rfl⟩
  rw [← g2] at A2 st2
  refine own_via st2 ?_
  have lt3 : this < a2 := Nat.lt_of_lt_of_le E_this.lt (Nat.le_of_eq g2.symm)
  have fr4 : n0 ≤ a2 := Nat.le_trans Z0 (Nat.le_of_eq g2.symm)
  have lt5 : this < b2_0 := Nat.lt_trans lt3 (by omega)
  have lt6 : a2 < b2_0 := by omega
  have fr7 : n0 ≤ b2_0 := Nat.le_trans fr4 (by omega)
  have lt8 : this < b2_1 := Nat.lt_trans lt3 (by omega)
  have lt9 : a2 < b2_1 := by omega
  have lt10 : b2_0 < b2_1 := by omega
  have fr11 : n0 ≤ b2_1 := Nat.le_trans fr4 (by omega)
  have E12 := E_this.ext E2
  have F13 := F_marked.ext E2
  have F14 := F_teams.ext E2
  have F15 := F_slots.ext E2
  have F16 := F_slotCount.ext E2
  have F17 := F_teamCount.ext E2
  have Zs18 : n0 ≤ h2.size := Nat.le_trans Z0 E2.1
  have V19 : Arv Z h2 a2 k2 (.array .boolean) (2 : Int32) [(.ref b2_0), (.ref b2_1)] .null := A2
  have V20 : Arv Z h2 b2_0 kk2 .boolean (2 : Int32) [(.int (0 : Int32)), (.int (0 : Int32))] (.int (0 : Int32)) := (Arv.new (B2 0 b2_0 rfl).1 (by decide)).pad (pad_rep [] (.int (0 : Int32)) 2)
  have V21 : Arv Z h2 b2_1 kk2 .boolean (2 : Int32) [(.int (0 : Int32)), (.int (0 : Int32))] (.int (0 : Int32)) := (Arv.new (B2 1 b2_1 rfl).1 (by decide)).pad (pad_rep [] (.int (0 : Int32)) 2)
  show own_Go p e below _ (T2.setTop (mkF m 11 #[oR this, oI (2 : Int32), oI (2 : Int32)] [(.ref a2), (.ref this)]))
  obtain ⟨T22, h22, X22, e22, W22, st22⟩ := putF X2 hx hZ hown (host := "") (Or.inl (own_w hw 12)) Via.refl e2 F13 E12 (Or.inr ⟨(own_w hw 13), rfl, hnm⟩) (own_w hw 1) (ty := (.array (.array .boolean))) (by decide) rfl rfl (g := (mkF m 11 #[oR this, oI (2 : Int32), oI (2 : Int32)] [(.ref a2), (.ref this)])) rfl rfl (hb hby d1_11)
  refine own_via st22 ?_
  have E23 := E12.wr W22
  have F24 := F13.same W22
  have F25 := F14.other W22 (Or.inr (slot_ne (Or.inr (own_w hw 16)) (Or.inr (own_w hw 13)) (by decide) (t := (.array .int)) (t' := (.array (.array .boolean))) (by decide) (by decide)))
  have F26 := F15.other W22 (Or.inr (slot_ne (Or.inr (own_w hw 20)) (Or.inr (own_w hw 13)) (by decide) (t := (.array (.array .int))) (t' := (.array (.array .boolean))) (by decide) (by decide)))
  have F27 := F16.other W22 (Or.inr (slot_ne (Or.inr (own_w hw 22)) (Or.inr (own_w hw 13)) (by decide) (t := (.array .int)) (t' := (.array (.array .boolean))) (by decide) (by decide)))
  have F28 := F17.other W22 (Or.inr (slot_ne (Or.inl (own_w hw 29)) (Or.inr (own_w hw 13)) (by decide) (t := .int) (t' := (.array (.array .boolean))) (by decide) (by decide)))
  have V29 := V19.other W22 (Ne.symm (Nat.ne_of_lt lt3))
  have V30 := V20.other W22 (Ne.symm (Nat.ne_of_lt lt5))
  have V31 := V21.other W22 (Ne.symm (Nat.ne_of_lt lt8))
  have Zs32 : n0 ≤ h22.size := Nat.le_trans Zs18 (Keep.of_wr W22).1
  have N33 := Fr.snoc X22 N0 g_this
  show own_Go p e below _ (T22.setTop (mkF m 14 #[oR this, oI (2 : Int32), oI (2 : Int32)] []))
  refine own_via (fun t kz => XS.aloadN X22.here hx rfl (hb hby d1_14) rfl rfl kz) ?_
  show own_Go p e below _ (T22.setTop (mkF m 15 #[oR this, oI (2 : Int32), oI (2 : Int32)] [(.ref this)]))
  refine own_via (fun t kz => XS.iloadN X22.here hx rfl (hb hby d1_15) rfl kz) ?_
  show own_Go p e below _ (T22.setTop (mkF m 16 #[oR this, oI (2 : Int32), oI (2 : Int32)] [(.int (2 : Int32)), (.ref this)]))
  obtain ⟨T34, h34, k34, X34, e34, E34, A34, st34⟩ := newP X22 hx hZ (aty := .int) (own_w hw 14) e22 (g := (mkF m 16 #[oR this, oI (2 : Int32), oI (2 : Int32)] [(.int (2 : Int32)), (.ref this)])) rfl (hb hby d1_16) rfl (by decide) (cap := 2) (by decide) (by decide) (by decide) (by decide)
  obtain ⟨a34, g34⟩ : ∃ z, z = h22.size := ⟨_, rfl⟩
  rw [← g34] at A34 st34
  refine own_via st34 ?_
  have lt35 : this < a34 := Nat.lt_of_lt_of_le E23.lt (Nat.le_of_eq g34.symm)
  have lt36 : a2 < a34 := Nat.lt_of_lt_of_le V29.lt (Nat.le_of_eq g34.symm)
  have lt37 : b2_0 < a34 := Nat.lt_of_lt_of_le V30.lt (Nat.le_of_eq g34.symm)
  have lt38 : b2_1 < a34 := Nat.lt_of_lt_of_le V31.lt (Nat.le_of_eq g34.symm)
  have fr39 : n0 ≤ a34 := Nat.le_trans Zs32 (Nat.le_of_eq g34.symm)
  have E40 := E23.ext E34
  have F41 := F24.ext E34
  have F42 := F25.ext E34
  have F43 := F26.ext E34
  have F44 := F27.ext E34
  have F45 := F28.ext E34
  have V46 := V29.ext E34
  have V47 := V30.ext E34
  have V48 := V31.ext E34
  have Zs49 : n0 ≤ h34.size := Nat.le_trans Zs32 E34.1
  have V50 : Arv Z h34 a34 k34 .int (2 : Int32) [(.int (0 : Int32)), (.int (0 : Int32))] (.int (0 : Int32)) := (Arv.new A34 (by decide)).pad (pad_rep [] (.int (0 : Int32)) 2)
  show own_Go p e below _ (T34.setTop (mkF m 18 #[oR this, oI (2 : Int32), oI (2 : Int32)] [(.ref a34), (.ref this)]))
  obtain ⟨T51, h51, X51, e51, W51, st51⟩ := putF X34 hx hZ hown (host := "") (Or.inl (own_w hw 15)) Via.refl e34 F42 E40 (Or.inr ⟨(own_w hw 16), rfl, hnm⟩) (own_w hw 1) (ty := (.array .int)) (by decide) rfl rfl (g := (mkF m 18 #[oR this, oI (2 : Int32), oI (2 : Int32)] [(.ref a34), (.ref this)])) rfl rfl (hb hby d1_18)
  refine own_via st51 ?_
  have E52 := E40.wr W51
  have F53 := F41.other W51 (Or.inr (slot_ne (Or.inr (own_w hw 13)) (Or.inr (own_w hw 16)) (by decide) (t := (.array (.array .boolean))) (t' := (.array .int)) (by decide) (by decide)))
  have F54 := F42.same W51
  have F55 := F43.other W51 (Or.inr (slot_ne (Or.inr (own_w hw 20)) (Or.inr (own_w hw 16)) (by decide) (t := (.array (.array .int))) (t' := (.array .int)) (by decide) (by decide)))
  have F56 := F44.other W51 (Or.inr (slot_ne (Or.inr (own_w hw 22)) (Or.inr (own_w hw 16)) (by decide) (t := (.array .int)) (t' := (.array .int)) (by decide) (by decide)))
  have F57 := F45.other W51 (Or.inr (slot_ne (Or.inl (own_w hw 29)) (Or.inr (own_w hw 16)) (by decide) (t := .int) (t' := (.array .int)) (by decide) (by decide)))
  have V58 := V46.other W51 (Ne.symm (Nat.ne_of_lt lt3))
  have V59 := V47.other W51 (Ne.symm (Nat.ne_of_lt lt5))
  have V60 := V48.other W51 (Ne.symm (Nat.ne_of_lt lt8))
  have V61 := V50.other W51 (Ne.symm (Nat.ne_of_lt lt35))
  have Zs62 : n0 ≤ h51.size := Nat.le_trans Zs49 (Keep.of_wr W51).1
  have N63 := Fr.snoc X51 N33 g_this
  show own_Go p e below _ (T51.setTop (mkF m 21 #[oR this, oI (2 : Int32), oI (2 : Int32)] []))
  refine own_via (fun t kz => XS.aloadN X51.here hx rfl (hb hby d1_21) rfl rfl kz) ?_
  show own_Go p e below _ (T51.setTop (mkF m 22 #[oR this, oI (2 : Int32), oI (2 : Int32)] [(.ref this)]))
  refine own_via (fun t kz => XS.iloadN X51.here hx rfl (hb hby d1_22) rfl kz) ?_
  show own_Go p e below _ (T51.setTop (mkF m 23 #[oR this, oI (2 : Int32), oI (2 : Int32)] [(.int (2 : Int32)), (.ref this)]))
  refine own_via (fun t kz => XS.iloadN X51.here hx rfl (hb hby d1_23) rfl kz) ?_
  show own_Go p e below _ (T51.setTop (mkF m 24 #[oR this, oI (2 : Int32), oI (2 : Int32)] [(.int (2 : Int32)), (.int (2 : Int32)), (.ref this)]))
  obtain ⟨b64_0, gb64_0⟩ : ∃ z, z = h51.size + 1 + 0 := ⟨_, rfl⟩
  obtain ⟨b64_1, gb64_1⟩ : ∃ z, z = h51.size + 1 + 1 := ⟨_, rfl⟩
  obtain ⟨T64, h64, k64, kk64, X64, e64, E64, A64, -, -, B64, st64⟩ := gridM X51 hx hZ (C := "[I") (ad := "[[I") (ty := .int) hown (by decide) (by decide) (own_w hw 17) (own_w hw 18) (own_w hw 14) e51 (g := (mkF m 24 #[oR this, oI (2 : Int32), oI (2 : Int32)] [(.int (2 : Int32)), (.int (2 : Int32)), (.ref this)])) rfl (hb hby d1_24) rfl (by decide) (by decide) (xs := [b64_0, b64_1]) (N := 2) (by decide) (by rw [gb64_0, gb64_1]; rfl) (cap := 2) (by decide) (by decide) (by decide) rfl rfl (by decide) (by decide)
  obtain ⟨a64, g64⟩ : ∃ z, z = h51.size := ⟨_, rfl⟩
  rw [← g64] at A64 st64
  refine own_via st64 ?_
  have lt65 : this < a64 := Nat.lt_of_lt_of_le E52.lt (Nat.le_of_eq g64.symm)
  have lt66 : a2 < a64 := Nat.lt_of_lt_of_le V58.lt (Nat.le_of_eq g64.symm)
  have lt67 : b2_0 < a64 := Nat.lt_of_lt_of_le V59.lt (Nat.le_of_eq g64.symm)
  have lt68 : b2_1 < a64 := Nat.lt_of_lt_of_le V60.lt (Nat.le_of_eq g64.symm)
  have lt69 : a34 < a64 := Nat.lt_of_lt_of_le V61.lt (Nat.le_of_eq g64.symm)
  have fr70 : n0 ≤ a64 := Nat.le_trans Zs62 (Nat.le_of_eq g64.symm)
  have lt71 : this < b64_0 := Nat.lt_trans lt65 (by omega)
  have lt72 : a2 < b64_0 := Nat.lt_trans lt66 (by omega)
  have lt73 : b2_0 < b64_0 := Nat.lt_trans lt67 (by omega)
  have lt74 : b2_1 < b64_0 := Nat.lt_trans lt68 (by omega)
  have lt75 : a34 < b64_0 := Nat.lt_trans lt69 (by omega)
  have lt76 : a64 < b64_0 := by omega
  have fr77 : n0 ≤ b64_0 := Nat.le_trans fr70 (by omega)
  have lt78 : this < b64_1 := Nat.lt_trans lt65 (by omega)
  have lt79 : a2 < b64_1 := Nat.lt_trans lt66 (by omega)
  have lt80 : b2_0 < b64_1 := Nat.lt_trans lt67 (by omega)
  have lt81 : b2_1 < b64_1 := Nat.lt_trans lt68 (by omega)
  have lt82 : a34 < b64_1 := Nat.lt_trans lt69 (by omega)
  have lt83 : a64 < b64_1 := by omega
  have lt84 : b64_0 < b64_1 := by omega
  have fr85 : n0 ≤ b64_1 := Nat.le_trans fr70 (by omega)
  have E86 := E52.ext E64
  have F87 := F53.ext E64
  have F88 := F54.ext E64
  have F89 := F55.ext E64
  have F90 := F56.ext E64
  have F91 := F57.ext E64
  have V92 := V58.ext E64
  have V93 := V59.ext E64
  have V94 := V60.ext E64
  have V95 := V61.ext E64
  have Zs96 : n0 ≤ h64.size := Nat.le_trans Zs62 E64.1
  have V97 : Arv Z h64 a64 k64 (.array .int) (2 : Int32) [(.ref b64_0), (.ref b64_1)] .null := A64
  have V98 : Arv Z h64 b64_0 kk64 .int (2 : Int32) [(.int (0 : Int32)), (.int (0 : Int32))] (.int (0 : Int32)) := (Arv.new (B64 0 b64_0 rfl).1 (by decide)).pad (pad_rep [] (.int (0 : Int32)) 2)
  have V99 : Arv Z h64 b64_1 kk64 .int (2 : Int32) [(.int (0 : Int32)), (.int (0 : Int32))] (.int (0 : Int32)) := (Arv.new (B64 1 b64_1 rfl).1 (by decide)).pad (pad_rep [] (.int (0 : Int32)) 2)
  show own_Go p e below _ (T64.setTop (mkF m 28 #[oR this, oI (2 : Int32), oI (2 : Int32)] [(.ref a64), (.ref this)]))
  obtain ⟨T100, h100, X100, e100, W100, st100⟩ := putF X64 hx hZ hown (host := "") (Or.inl (own_w hw 19)) Via.refl e64 F89 E86 (Or.inr ⟨(own_w hw 20), rfl, hnm⟩) (own_w hw 1) (ty := (.array (.array .int))) (by decide) rfl rfl (g := (mkF m 28 #[oR this, oI (2 : Int32), oI (2 : Int32)] [(.ref a64), (.ref this)])) rfl rfl (hb hby d1_28)
  refine own_via st100 ?_
  have E101 := E86.wr W100
  have F102 := F87.other W100 (Or.inr (slot_ne (Or.inr (own_w hw 13)) (Or.inr (own_w hw 20)) (by decide) (t := (.array (.array .boolean))) (t' := (.array (.array .int))) (by decide) (by decide)))
  have F103 := F88.other W100 (Or.inr (slot_ne (Or.inr (own_w hw 16)) (Or.inr (own_w hw 20)) (by decide) (t := (.array .int)) (t' := (.array (.array .int))) (by decide) (by decide)))
  have F104 := F89.same W100
  have F105 := F90.other W100 (Or.inr (slot_ne (Or.inr (own_w hw 22)) (Or.inr (own_w hw 20)) (by decide) (t := (.array .int)) (t' := (.array (.array .int))) (by decide) (by decide)))
  have F106 := F91.other W100 (Or.inr (slot_ne (Or.inl (own_w hw 29)) (Or.inr (own_w hw 20)) (by decide) (t := .int) (t' := (.array (.array .int))) (by decide) (by decide)))
  have V107 := V92.other W100 (Ne.symm (Nat.ne_of_lt lt3))
  have V108 := V93.other W100 (Ne.symm (Nat.ne_of_lt lt5))
  have V109 := V94.other W100 (Ne.symm (Nat.ne_of_lt lt8))
  have V110 := V95.other W100 (Ne.symm (Nat.ne_of_lt lt35))
  have V111 := V97.other W100 (Ne.symm (Nat.ne_of_lt lt65))
  have V112 := V98.other W100 (Ne.symm (Nat.ne_of_lt lt71))
  have V113 := V99.other W100 (Ne.symm (Nat.ne_of_lt lt78))
  have Zs114 : n0 ≤ h100.size := Nat.le_trans Zs96 (Keep.of_wr W100).1
  have N115 := Fr.snoc X100 N63 g_this
  show own_Go p e below _ (T100.setTop (mkF m 31 #[oR this, oI (2 : Int32), oI (2 : Int32)] []))
  refine own_via (fun t kz => XS.aloadN X100.here hx rfl (hb hby d1_31) rfl rfl kz) ?_
  show own_Go p e below _ (T100.setTop (mkF m 32 #[oR this, oI (2 : Int32), oI (2 : Int32)] [(.ref this)]))
  refine own_via (fun t kz => XS.iloadN X100.here hx rfl (hb hby d1_32) rfl kz) ?_
  show own_Go p e below _ (T100.setTop (mkF m 33 #[oR this, oI (2 : Int32), oI (2 : Int32)] [(.int (2 : Int32)), (.ref this)]))
  obtain ⟨T116, h116, k116, X116, e116, E116, A116, st116⟩ := newP X100 hx hZ (aty := .int) (own_w hw 14) e100 (g := (mkF m 33 #[oR this, oI (2 : Int32), oI (2 : Int32)] [(.int (2 : Int32)), (.ref this)])) rfl (hb hby d1_33) rfl (by decide) (cap := 2) (by decide) (by decide) (by decide) (by decide)
  obtain ⟨a116, g116⟩ : ∃ z, z = h100.size := ⟨_, rfl⟩
  rw [← g116] at A116 st116
  refine own_via st116 ?_
  have lt117 : this < a116 := Nat.lt_of_lt_of_le E101.lt (Nat.le_of_eq g116.symm)
  have lt118 : a2 < a116 := Nat.lt_of_lt_of_le V107.lt (Nat.le_of_eq g116.symm)
  have lt119 : b2_0 < a116 := Nat.lt_of_lt_of_le V108.lt (Nat.le_of_eq g116.symm)
  have lt120 : b2_1 < a116 := Nat.lt_of_lt_of_le V109.lt (Nat.le_of_eq g116.symm)
  have lt121 : a34 < a116 := Nat.lt_of_lt_of_le V110.lt (Nat.le_of_eq g116.symm)
  have lt122 : a64 < a116 := Nat.lt_of_lt_of_le V111.lt (Nat.le_of_eq g116.symm)
  have lt123 : b64_0 < a116 := Nat.lt_of_lt_of_le V112.lt (Nat.le_of_eq g116.symm)
  have lt124 : b64_1 < a116 := Nat.lt_of_lt_of_le V113.lt (Nat.le_of_eq g116.symm)
  have fr125 : n0 ≤ a116 := Nat.le_trans Zs114 (Nat.le_of_eq g116.symm)
  have E126 := E101.ext E116
  have F127 := F102.ext E116
  have F128 := F103.ext E116
  have F129 := F104.ext E116
  have F130 := F105.ext E116
  have F131 := F106.ext E116
  have V132 := V107.ext E116
  have V133 := V108.ext E116
  have V134 := V109.ext E116
  have V135 := V110.ext E116
  have V136 := V111.ext E116
  have V137 := V112.ext E116
  have V138 := V113.ext E116
  have Zs139 : n0 ≤ h116.size := Nat.le_trans Zs114 E116.1
  have V140 : Arv Z h116 a116 k116 .int (2 : Int32) [(.int (0 : Int32)), (.int (0 : Int32))] (.int (0 : Int32)) := (Arv.new A116 (by decide)).pad (pad_rep [] (.int (0 : Int32)) 2)
  show own_Go p e below _ (T116.setTop (mkF m 35 #[oR this, oI (2 : Int32), oI (2 : Int32)] [(.ref a116), (.ref this)]))
  obtain ⟨T141, h141, X141, e141, W141, st141⟩ := putF X116 hx hZ hown (host := "") (Or.inl (own_w hw 21)) Via.refl e116 F130 E126 (Or.inr ⟨(own_w hw 22), rfl, hnm⟩) (own_w hw 1) (ty := (.array .int)) (by decide) rfl rfl (g := (mkF m 35 #[oR this, oI (2 : Int32), oI (2 : Int32)] [(.ref a116), (.ref this)])) rfl rfl (hb hby d1_35)
  refine own_via st141 ?_
  have E142 := E126.wr W141
  have F143 := F127.other W141 (Or.inr (slot_ne (Or.inr (own_w hw 13)) (Or.inr (own_w hw 22)) (by decide) (t := (.array (.array .boolean))) (t' := (.array .int)) (by decide) (by decide)))
  have F144 := F128.other W141 (Or.inr (slot_ne (Or.inr (own_w hw 16)) (Or.inr (own_w hw 22)) (by decide) (t := (.array .int)) (t' := (.array .int)) (by decide) (by decide)))
  have F145 := F129.other W141 (Or.inr (slot_ne (Or.inr (own_w hw 20)) (Or.inr (own_w hw 22)) (by decide) (t := (.array (.array .int))) (t' := (.array .int)) (by decide) (by decide)))
  have F146 := F130.same W141
  have F147 := F131.other W141 (Or.inr (slot_ne (Or.inl (own_w hw 29)) (Or.inr (own_w hw 22)) (by decide) (t := .int) (t' := (.array .int)) (by decide) (by decide)))
  have V148 := V132.other W141 (Ne.symm (Nat.ne_of_lt lt3))
  have V149 := V133.other W141 (Ne.symm (Nat.ne_of_lt lt5))
  have V150 := V134.other W141 (Ne.symm (Nat.ne_of_lt lt8))
  have V151 := V135.other W141 (Ne.symm (Nat.ne_of_lt lt35))
  have V152 := V136.other W141 (Ne.symm (Nat.ne_of_lt lt65))
  have V153 := V137.other W141 (Ne.symm (Nat.ne_of_lt lt71))
  have V154 := V138.other W141 (Ne.symm (Nat.ne_of_lt lt78))
  have V155 := V140.other W141 (Ne.symm (Nat.ne_of_lt lt117))
  have Zs156 : n0 ≤ h141.size := Nat.le_trans Zs139 (Keep.of_wr W141).1
  have N157 := Fr.snoc X141 N115 g_this
  show own_Go p e below _ (T141.setTop (mkF m 38 #[oR this, oI (2 : Int32), oI (2 : Int32)] []))
  obtain ⟨fs, hr, hrun, hended, hW, hsame⟩ := X141.leave (v := none) (fun _ => rfl)
  refine ⟨_, _, X141.returnOut hx Bd.returns (hb hby d1_38) hr, hrun, hended, _, _, rfl, ?_, ⟨_, rfl⟩, hW, hsame.mono (by decide) (by decide)⟩
  show Q1 Z this h0 n0 _ T141.heap _
  rw [e141]
  exact ⟨rfl, N157, Zs156, a2, b2_0, b2_1, a34, a64, b64_0, b64_1, a116, k2, kk2, kk2, k34, k64, kk64, kk64, k116, ⟨g_this, lt3, lt6, lt10, lt38, lt69, lt76, lt84, lt124⟩, E142, F143, F144, F145, F146, F147, V148, V149, V150, V151, V152, V153, V154, V155⟩
def own_mark (p1 p2 wm00 wm01 wm10 wm11 wt0 wt1 ws00 ws01 ws10 ws11 wc0 wc1 wn : Int32) : own_S := (if p1 = (0 : Int32) then (if p2 = (0 : Int32) then (if wm00 = (0 : Int32) then (if wc0 = (0 : Int32) then (if wn = (0 : Int32) then (own_mk (1 : Int32) wm01 wm10 wm11 (0 : Int32) wt1 (0 : Int32) ws01 ws10 ws11 (1 : Int32) wc1 (1 : Int32)) else (own_mk (1 : Int32) wm01 wm10 wm11 wt0 (0 : Int32) (0 : Int32) ws01 ws10 ws11 (1 : Int32) wc1 (2 : Int32))) else (own_mk (1 : Int32) wm01 wm10 wm11 wt0 wt1 ws00 (0 : Int32) ws10 ws11 (2 : Int32) wc1 wn)) else (own_mk wm00 wm01 wm10 wm11 wt0 wt1 ws00 ws01 ws10 ws11 wc0 wc1 wn)) else (if wm01 = (0 : Int32) then (if wc0 = (0 : Int32) then (if wn = (0 : Int32) then (own_mk wm00 (1 : Int32) wm10 wm11 (0 : Int32) wt1 (1 : Int32) ws01 ws10 ws11 (1 : Int32) wc1 (1 : Int32)) else (own_mk wm00 (1 : Int32) wm10 wm11 wt0 (0 : Int32) (1 : Int32) ws01 ws10 ws11 (1 : Int32) wc1 (2 : Int32))) else (own_mk wm00 (1 : Int32) wm10 wm11 wt0 wt1 ws00 (1 : Int32) ws10 ws11 (2 : Int32) wc1 wn)) else (own_mk wm00 wm01 wm10 wm11 wt0 wt1 ws00 ws01 ws10 ws11 wc0 wc1 wn))) else (if p2 = (0 : Int32) then (if wm10 = (0 : Int32) then (if wc1 = (0 : Int32) then (if wn = (0 : Int32) then (own_mk wm00 wm01 (1 : Int32) wm11 (1 : Int32) wt1 ws00 ws01 (0 : Int32) ws11 wc0 (1 : Int32) (1 : Int32)) else (own_mk wm00 wm01 (1 : Int32) wm11 wt0 (1 : Int32) ws00 ws01 (0 : Int32) ws11 wc0 (1 : Int32) (2 : Int32))) else (own_mk wm00 wm01 (1 : Int32) wm11 wt0 wt1 ws00 ws01 ws10 (0 : Int32) wc0 (2 : Int32) wn)) else (own_mk wm00 wm01 wm10 wm11 wt0 wt1 ws00 ws01 ws10 ws11 wc0 wc1 wn)) else (if wm11 = (0 : Int32) then (if wc1 = (0 : Int32) then (if wn = (0 : Int32) then (own_mk wm00 wm01 wm10 (1 : Int32) (1 : Int32) wt1 ws00 ws01 (1 : Int32) ws11 wc0 (1 : Int32) (1 : Int32)) else (own_mk wm00 wm01 wm10 (1 : Int32) wt0 (1 : Int32) ws00 ws01 (1 : Int32) ws11 wc0 (1 : Int32) (2 : Int32))) else (own_mk wm00 wm01 wm10 (1 : Int32) wt0 wt1 ws00 ws01 ws10 (1 : Int32) wc0 (2 : Int32) wn)) else (own_mk wm00 wm01 wm10 wm11 wt0 wt1 ws00 ws01 ws10 ws11 wc0 wc1 wn))))
theorem d3_0 : decode prog_45_method_2_code 0 = .ok (.aload_n 0, 1) := by decide +kernel
theorem d3_1 : decode prog_45_method_2_code 1 = .ok (.getfield 9, 3) := by decide +kernel
theorem d3_4 : decode prog_45_method_2_code 4 = .ok (.iload_n 1, 1) := by decide +kernel
theorem d3_5 : decode prog_45_method_2_code 5 = .ok (.aaload, 1) := by decide +kernel
theorem d3_6 : decode prog_45_method_2_code 6 = .ok (.iload_n 2, 1) := by decide +kernel
theorem d3_7 : decode prog_45_method_2_code 7 = .ok (.baload, 1) := by decide +kernel
theorem d3_8 : decode prog_45_method_2_code 8 = .ok (.ifCond .eq 4, 3) := by decide +kernel
theorem d3_11 : decode prog_45_method_2_code 11 = .ok (.return_, 1) := by decide +kernel
theorem d3_12 : decode prog_45_method_2_code 12 = .ok (.aload_n 0, 1) := by decide +kernel
theorem d3_13 : decode prog_45_method_2_code 13 = .ok (.getfield 9, 3) := by decide +kernel
theorem d3_16 : decode prog_45_method_2_code 16 = .ok (.iload_n 1, 1) := by decide +kernel
theorem d3_17 : decode prog_45_method_2_code 17 = .ok (.aaload, 1) := by decide +kernel
theorem d3_18 : decode prog_45_method_2_code 18 = .ok (.iload_n 2, 1) := by decide +kernel
theorem d3_19 : decode prog_45_method_2_code 19 = .ok (.iconst 1, 1) := by decide +kernel
theorem d3_20 : decode prog_45_method_2_code 20 = .ok (.bastore, 1) := by decide +kernel
theorem d3_21 : decode prog_45_method_2_code 21 = .ok (.aload_n 0, 1) := by decide +kernel
theorem d3_22 : decode prog_45_method_2_code 22 = .ok (.getfield 23, 3) := by decide +kernel
theorem d3_25 : decode prog_45_method_2_code 25 = .ok (.iload_n 1, 1) := by decide +kernel
theorem d3_26 : decode prog_45_method_2_code 26 = .ok (.iaload, 1) := by decide +kernel
theorem d3_27 : decode prog_45_method_2_code 27 = .ok (.ifCond .ne 20, 3) := by decide +kernel
theorem d3_30 : decode prog_45_method_2_code 30 = .ok (.aload_n 0, 1) := by decide +kernel
theorem d3_31 : decode prog_45_method_2_code 31 = .ok (.getfield 14, 3) := by decide +kernel
theorem d3_34 : decode prog_45_method_2_code 34 = .ok (.aload_n 0, 1) := by decide +kernel
theorem d3_35 : decode prog_45_method_2_code 35 = .ok (.dup, 1) := by decide +kernel
theorem d3_36 : decode prog_45_method_2_code 36 = .ok (.getfield 26, 3) := by decide +kernel
theorem d3_39 : decode prog_45_method_2_code 39 = .ok (.dup_x1, 1) := by decide +kernel
theorem d3_40 : decode prog_45_method_2_code 40 = .ok (.iconst 1, 1) := by decide +kernel
theorem d3_41 : decode prog_45_method_2_code 41 = .ok (.iadd, 1) := by decide +kernel
theorem d3_42 : decode prog_45_method_2_code 42 = .ok (.putfield 26, 3) := by decide +kernel
theorem d3_45 : decode prog_45_method_2_code 45 = .ok (.iload_n 1, 1) := by decide +kernel
theorem d3_46 : decode prog_45_method_2_code 46 = .ok (.iastore, 1) := by decide +kernel
theorem d3_47 : decode prog_45_method_2_code 47 = .ok (.aload_n 0, 1) := by decide +kernel
theorem d3_48 : decode prog_45_method_2_code 48 = .ok (.getfield 20, 3) := by decide +kernel
theorem d3_51 : decode prog_45_method_2_code 51 = .ok (.iload_n 1, 1) := by decide +kernel
theorem d3_52 : decode prog_45_method_2_code 52 = .ok (.aaload, 1) := by decide +kernel
theorem d3_53 : decode prog_45_method_2_code 53 = .ok (.aload_n 0, 1) := by decide +kernel
theorem d3_54 : decode prog_45_method_2_code 54 = .ok (.getfield 23, 3) := by decide +kernel
theorem d3_57 : decode prog_45_method_2_code 57 = .ok (.iload_n 1, 1) := by decide +kernel
theorem d3_58 : decode prog_45_method_2_code 58 = .ok (.dup2, 1) := by decide +kernel
theorem d3_59 : decode prog_45_method_2_code 59 = .ok (.iaload, 1) := by decide +kernel
theorem d3_60 : decode prog_45_method_2_code 60 = .ok (.dup_x2, 1) := by decide +kernel
theorem d3_61 : decode prog_45_method_2_code 61 = .ok (.iconst 1, 1) := by decide +kernel
theorem d3_62 : decode prog_45_method_2_code 62 = .ok (.iadd, 1) := by decide +kernel
theorem d3_63 : decode prog_45_method_2_code 63 = .ok (.iastore, 1) := by decide +kernel
theorem d3_64 : decode prog_45_method_2_code 64 = .ok (.iload_n 2, 1) := by decide +kernel
theorem d3_65 : decode prog_45_method_2_code 65 = .ok (.iastore, 1) := by decide +kernel
theorem d3_66 : decode prog_45_method_2_code 66 = .ok (.return_, 1) := by decide +kernel
theorem ef_rm3 (m : MethodId) (q0 : Addr) (q1 : Int32) (q2 : Int32) : entryFrame m #[(.ref q0), (.int q1), (.int q2)] 3 = mkF m 0 #[oR q0, oI q1, oI q2] [] := by first | (simp [entryFrame, mkF, argsToLocals, Value.category]; done) | rfl
def Q3 (Z : State) (this : Addr) (p1 : Int32) (p2 : Int32) (wm00 : Int32) (wm01 : Int32) (wm10 : Int32) (wm11 : Int32) (wt0 : Int32) (wt1 : Int32) (ws00 : Int32) (ws01 : Int32) (ws10 : Int32) (ws11 : Int32) (wc0 : Int32) (wc1 : Int32) (wn : Int32) (h0 : Heap) (n0 : Nat) (v : Option Value) (h : Heap) (L : List Loc) : Prop := v = none ∧ Fr n0 L ∧ n0 ≤ h.size ∧ own_TC Z h n0 this (own_mark p1 p2 wm00 wm01 wm10 wm11 wt0 wt1 ws00 ws01 ws10 ws11 wc0 wc1 wn)
set_option maxRecDepth 65536 in
set_option maxHeartbeats 40000000 in
theorem rm3 (l : Launch) (Z : State) (a0 : Array Value) (hw : ∀ d ∈ tables_1, d.before a0 Z = true) (ws : List Jvm.Cond) (this : Addr) (p1 : Int32) (p2 : Int32) (wm00 : Int32) (wm01 : Int32) (wm10 : Int32) (wm11 : Int32) (wt0 : Int32) (wt1 : Int32) (ws00 : Int32) (ws01 : Int32) (ws10 : Int32) (ws11 : Int32) (wc0 : Int32) (wc1 : Int32) (wn : Int32) (h0 : Heap) (n0 : Nat) (Z0 : n0 ≤ h0.size) (TC : own_TC Z h0 n0 this (own_mk wm00 wm01 wm10 wm11 wt0 wt1 ws00 ws01 ws10 ws11 wc0 wc1 wn)) (ht : p1 = 0 ∨ p1 = 1) (hs : p2 = 0 ∨ p2 = 1) (hok1 : own_pick p1 p2 wm00 wm01 wm10 wm11 = 0 → own_pick1 p1 wc0 wc1 = 0 ∨ own_pick1 p1 wc0 wc1 = 1) (hok2 : own_pick p1 p2 wm00 wm01 wm10 wm11 = 0 → own_pick1 p1 wc0 wc1 = 0 → wn = 0 ∨ wn = 1) :
    MetFree l (⟨"com/example/matchloom/matchloom/league/TouchedCells", "mark", "(II)V"⟩ : MethodName) (head1 (Jvm.Cond.code (⟨"com/example/matchloom/matchloom/league/TouchedCells", "mark", "(II)V"⟩ : MethodName) prog_45_method_2_code 3 none :: ws) ({ frames := 0, cells := 0, slots := 0, locals := 0 } : Room)) (fun a U => a = #[(.ref this), (.int p1), (.int p2)] ∧ Z.Warmed39 U.vm ∧ U.heap = h0) (fun _ _ _ _ _ => True) (fun _ U o U' => ∃ v L, o = .returned v ∧ Q3 Z this p1 p2 wm00 wm01 wm10 wm11 wt0 wt1 ws00 ws01 ws10 ws11 wc0 wc1 wn h0 n0 v U'.heap L ∧ FrameEnd U o U' L ({ frames := 0, cells := 0, slots := 0, locals := 0 } : Room).cells ({ frames := 0, cells := 0, slots := 0, locals := 0 } : Room).slots) := by
  refine MetFree.of_bodySF (plainFor_of_name pn_1) hisR ?_
  intro p e s m args below meth c s₁ Bd hml0 hP hK
  obtain ⟨rfl, hZ, hh⟩ := hP
  have hx := Bd.exec
  have hby := Bd.bytes
  have hml : c.maxLocals = 3 := hml0
  have hown : s.vm.findClass "com/example/matchloom/matchloom/league/TouchedCells" = some m.cls := findClass_of_methodNamed Bd.named
  have hnm := (name_of_methodNamed Bd.named Bd.method).1
  have X0 : Stand p l e ({ frames := 0, cells := 0, slots := 0, locals := 0 } : Room) s m #[(.ref this), (.int p1), (.int p2)] below meth c s₁ [] 0 0 := Stand.of_body Bd
  have e0 : s₁.heap = h0 := by rw [← hh, Bd.state]; rfl
  have N0 := Fr.nil n0
  refine own_start ?_
  refine own_via (fun t k => castTop (ef_rm3 m this p1 p2) k) ?_
  obtain ⟨amo, am0, am1, ata, aso, as0, as1, aca, ck1, ck2, ck3, ck4, ck5, ck6, ck7, ck8, ⟨ch0, ch1, ch2, ch3, ch4, ch5, ch6, ch7, ch8⟩, Eq, Fq0, Fq1, Fq2, Fq3, Fq4, Vq0, Vq1, Vq2, Vq3, Vq4, Vq5, Vq6, Vq7⟩ := TC
  have Fo0 : Fld Z h0 this "com/example/matchloom/matchloom/league/TouchedCells" "marked" "[[Z" (.ref amo) := Fq0
  have Fo1 : Fld Z h0 this "com/example/matchloom/matchloom/league/TouchedCells" "teams" "[I" (.ref ata) := Fq1
  have Fo2 : Fld Z h0 this "com/example/matchloom/matchloom/league/TouchedCells" "slots" "[[I" (.ref aso) := Fq2
  have Fo3 : Fld Z h0 this "com/example/matchloom/matchloom/league/TouchedCells" "slotCount" "[I" (.ref aca) := Fq3
  have Fo4 : Fld Z h0 this "com/example/matchloom/matchloom/league/TouchedCells" "teamCount" "I" (.int wn) := Fq4
  have Vo0 : Arv Z h0 amo ck1 (.array .boolean) (2 : Int32) [(.ref am0), (.ref am1)] .null := Vq0
  have Vo1 : Arv Z h0 am0 ck2 .boolean (2 : Int32) [(.int wm00), (.int wm01)] (.int (0 : Int32)) := Vq1
  have Vo2 : Arv Z h0 am1 ck3 .boolean (2 : Int32) [(.int wm10), (.int wm11)] (.int (0 : Int32)) := Vq2
  have Vo3 : Arv Z h0 ata ck4 .int (2 : Int32) [(.int wt0), (.int wt1)] (.int (0 : Int32)) := Vq3
  have Vo4 : Arv Z h0 aso ck5 (.array .int) (2 : Int32) [(.ref as0), (.ref as1)] .null := Vq4
  have Vo5 : Arv Z h0 as0 ck6 .int (2 : Int32) [(.int ws00), (.int ws01)] (.int (0 : Int32)) := Vq5
  have Vo6 : Arv Z h0 as1 ck7 .int (2 : Int32) [(.int ws10), (.int ws11)] (.int (0 : Int32)) := Vq6
  have Vo7 : Arv Z h0 aca ck8 .int (2 : Int32) [(.int wc0), (.int wc1)] (.int (0 : Int32)) := Vq7
  rcases ht with rfl | rfl
  · rcases hs with rfl | rfl
    · show own_Go p e below _ (s₁.setTop (mkF m 0 #[oR this, oI (0 : Int32), oI (0 : Int32)] []))
      refine own_via (fun t kz => XS.aloadN X0.here hx rfl (hb hby d3_0) rfl rfl kz) ?_
      show own_Go p e below _ (s₁.setTop (mkF m 1 #[oR this, oI (0 : Int32), oI (0 : Int32)] [(.ref this)]))
      obtain ⟨T2, X2, e2, st2⟩ := getF X0 hx hZ hown (host := "") (Or.inl (own_w hw 12)) Via.refl e0 Fo0 (g := (mkF m 1 #[oR this, oI (0 : Int32), oI (0 : Int32)] [(.ref this)])) rfl rfl (hb hby d3_1)
      refine own_via st2 ?_
      show own_Go p e below _ (T2.setTop (mkF m 4 #[oR this, oI (0 : Int32), oI (0 : Int32)] [(.ref amo)]))
      refine own_via (fun t kz => XS.iloadN X2.here hx rfl (hb hby d3_4) rfl kz) ?_
      show own_Go p e below _ (T2.setTop (mkF m 5 #[oR this, oI (0 : Int32), oI (0 : Int32)] [(.int (0 : Int32)), (.ref amo)]))
      obtain ⟨cl3, Ar3, kc3, Sz3, Nn3, Hs3, Gs3⟩ := id Vo0
      have in3 := inb_of (j := (0 : Int32)) Sz3 ⟨by decide, by decide⟩
      have at3 : cl3.slots[((0 : Int32)).toNatClampNeg]? = some (.ref am0) := Hs3.at in3 rfl
      refine own_via (fun t kz => X2.aaload hx (j := (0 : Int32)) (v := (.ref am0)) (by rw [e2]; exact Ar3.1) (State.isArrayOf_alike hZ.alike Ar3.2.1) rfl Ar3.2.2 in3 at3 (g := (mkF m 5 #[oR this, oI (0 : Int32), oI (0 : Int32)] [(.int (0 : Int32)), (.ref amo)])) rfl rfl (hb hby d3_5) t kz) ?_
      show own_Go p e below _ (T2.setTop (mkF m 6 #[oR this, oI (0 : Int32), oI (0 : Int32)] [(.ref am0)]))
      refine own_via (fun t kz => XS.iloadN X2.here hx rfl (hb hby d3_6) rfl kz) ?_
      show own_Go p e below _ (T2.setTop (mkF m 7 #[oR this, oI (0 : Int32), oI (0 : Int32)] [(.int (0 : Int32)), (.ref am0)]))
      obtain ⟨cl4, Ar4, kc4, Sz4, Nn4, Hs4, Gs4⟩ := id Vo1
      have in4 := inb_of (j := (0 : Int32)) Sz4 ⟨by decide, by decide⟩
      have at4 : cl4.slots[((0 : Int32)).toNatClampNeg]? = some (.int wm00) := Hs4.at in4 rfl
      refine own_via (fun t kz => X2.baloadBooleans hx (j := (0 : Int32)) (v := (.int wm00)) (by rw [e2]; exact Ar4.1) (State.isArrayOf_alike hZ.alike Ar4.2.1) Ar4.2.2 in4 at4 (g := (mkF m 7 #[oR this, oI (0 : Int32), oI (0 : Int32)] [(.int (0 : Int32)), (.ref am0)])) rfl rfl (hb hby d3_7) t kz) ?_
      show own_Go p e below _ (T2.setTop (mkF m 8 #[oR this, oI (0 : Int32), oI (0 : Int32)] [(.int wm00)]))
      by_cases hc8_5 : wm00 = (0 : Int32)
      · refine own_via (fun t kz => XS.ifYes X2.here hx rfl (pc0 := 8) (pc' := 12) rfl (hb hby d3_8) rfl ((if0 _ _).trans (teq hc8_5).1) (by decide) (by decide) kz) ?_
        show own_Go p e below _ (T2.setTop (mkF m 12 #[oR this, oI (0 : Int32), oI (0 : Int32)] []))
        refine own_via (fun t kz => XS.aloadN X2.here hx rfl (hb hby d3_12) rfl rfl kz) ?_
        show own_Go p e below _ (T2.setTop (mkF m 13 #[oR this, oI (0 : Int32), oI (0 : Int32)] [(.ref this)]))
        obtain ⟨T6, X6, e6, st6⟩ := getF X2 hx hZ hown (host := "") (Or.inl (own_w hw 12)) Via.refl e2 Fo0 (g := (mkF m 13 #[oR this, oI (0 : Int32), oI (0 : Int32)] [(.ref this)])) rfl rfl (hb hby d3_13)
        refine own_via st6 ?_
        show own_Go p e below _ (T6.setTop (mkF m 16 #[oR this, oI (0 : Int32), oI (0 : Int32)] [(.ref amo)]))
        refine own_via (fun t kz => XS.iloadN X6.here hx rfl (hb hby d3_16) rfl kz) ?_
        show own_Go p e below _ (T6.setTop (mkF m 17 #[oR this, oI (0 : Int32), oI (0 : Int32)] [(.int (0 : Int32)), (.ref amo)]))
        obtain ⟨cl7, Ar7, kc7, Sz7, Nn7, Hs7, Gs7⟩ := id Vo0
        have in7 := inb_of (j := (0 : Int32)) Sz7 ⟨by decide, by decide⟩
        have at7 : cl7.slots[((0 : Int32)).toNatClampNeg]? = some (.ref am0) := Hs7.at in7 rfl
        refine own_via (fun t kz => X6.aaload hx (j := (0 : Int32)) (v := (.ref am0)) (by rw [e6]; exact Ar7.1) (State.isArrayOf_alike hZ.alike Ar7.2.1) rfl Ar7.2.2 in7 at7 (g := (mkF m 17 #[oR this, oI (0 : Int32), oI (0 : Int32)] [(.int (0 : Int32)), (.ref amo)])) rfl rfl (hb hby d3_17) t kz) ?_
        show own_Go p e below _ (T6.setTop (mkF m 18 #[oR this, oI (0 : Int32), oI (0 : Int32)] [(.ref am0)]))
        refine own_via (fun t kz => XS.iloadN X6.here hx rfl (hb hby d3_18) rfl kz) ?_
        show own_Go p e below _ (T6.setTop (mkF m 19 #[oR this, oI (0 : Int32), oI (0 : Int32)] [(.int (0 : Int32)), (.ref am0)]))
        refine own_via (fun t kz => XS.iconst X6.here hx rfl (hb hby d3_19) kz) ?_
        show own_Go p e below _ (T6.setTop (mkF m 20 #[oR this, oI (0 : Int32), oI (0 : Int32)] [(.int (1 : Int32)), (.int (0 : Int32)), (.ref am0)]))
        obtain ⟨cl8, Ar8, kc8, Sz8, Nn8, Hs8, Gs8⟩ := id Vo1
        obtain ⟨T8, h8, X8, e8, W8, st8⟩ := stZ X6 hx hZ e6 Ar8 (j := (0 : Int32)) (inb_of Sz8 ⟨by decide, by decide⟩) (g := (mkF m 20 #[oR this, oI (0 : Int32), oI (0 : Int32)] [(.int (1 : Int32)), (.int (0 : Int32)), (.ref am0)])) rfl rfl (hb hby d3_20)
        refine own_via st8 ?_
        have na8 : nar .boolean (1 : Int32) = (1 : Int32) := by decide
        rw [na8] at W8
        have E9 := Eq.wr W8
        have F10 := Fo0.other W8 (Or.inl (own_neq (by omega)))
        have F11 := Fo1.other W8 (Or.inl (own_neq (by omega)))
        have F12 := Fo2.other W8 (Or.inl (own_neq (by omega)))
        have F13 := Fo3.other W8 (Or.inl (own_neq (by omega)))
        have F14 := Fo4.other W8 (Or.inl (own_neq (by omega)))
        have V15 := Vo0.other W8 (own_neq (by omega))
        have V16 := Vo2.other W8 (own_neq (by omega))
        have V17 := Vo3.other W8 (own_neq (by omega))
        have V18 := Vo4.other W8 (own_neq (by omega))
        have V19 := Vo5.other W8 (own_neq (by omega))
        have V20 := Vo6.other W8 (own_neq (by omega))
        have V21 := Vo7.other W8 (own_neq (by omega))
        have Zs22 : n0 ≤ h8.size := Nat.le_trans Z0 (Keep.of_wr W8).1
        have N23 := Fr.snoc X8 N0 (show n0 ≤ am0 by omega)
        have V24 : Arv Z h8 am0 ck2 .boolean (2 : Int32) [(.int (1 : Int32)), (.int wm01)] (.int (0 : Int32)) := Arv.set Ar8 kc8 Sz8 Nn8 Hs8 Gs8 (by rw [← na8]; first | exact fits_nar_char _ | exact fits_nar_bool _ | exact fits_nar_byte _) W8 0 (by first | decide | (show 0 < 2; decide)) (by first | decide | (show 0 < 2; decide))
        show own_Go p e below _ (T8.setTop (mkF m 21 #[oR this, oI (0 : Int32), oI (0 : Int32)] []))
        refine own_via (fun t kz => XS.aloadN X8.here hx rfl (hb hby d3_21) rfl rfl kz) ?_
        show own_Go p e below _ (T8.setTop (mkF m 22 #[oR this, oI (0 : Int32), oI (0 : Int32)] [(.ref this)]))
        obtain ⟨T25, X25, e25, st25⟩ := getF X8 hx hZ hown (host := "") (Or.inl (own_w hw 21)) Via.refl e8 F13 (g := (mkF m 22 #[oR this, oI (0 : Int32), oI (0 : Int32)] [(.ref this)])) rfl rfl (hb hby d3_22)
        refine own_via st25 ?_
        show own_Go p e below _ (T25.setTop (mkF m 25 #[oR this, oI (0 : Int32), oI (0 : Int32)] [(.ref aca)]))
        refine own_via (fun t kz => XS.iloadN X25.here hx rfl (hb hby d3_25) rfl kz) ?_
        show own_Go p e below _ (T25.setTop (mkF m 26 #[oR this, oI (0 : Int32), oI (0 : Int32)] [(.int (0 : Int32)), (.ref aca)]))
        obtain ⟨cl26, Ar26, kc26, Sz26, Nn26, Hs26, Gs26⟩ := id V21
        have in26 := inb_of (j := (0 : Int32)) Sz26 ⟨by decide, by decide⟩
        have at26 : cl26.slots[((0 : Int32)).toNatClampNeg]? = some (.int wc0) := Hs26.at in26 rfl
        refine own_via (fun t kz => X25.iaload hx (j := (0 : Int32)) (v := (.int wc0)) (by rw [e25]; exact Ar26.1) (State.isArrayOf_alike hZ.alike Ar26.2.1) Ar26.2.2 in26 at26 (g := (mkF m 26 #[oR this, oI (0 : Int32), oI (0 : Int32)] [(.int (0 : Int32)), (.ref aca)])) rfl rfl (hb hby d3_26) t kz) ?_
        show own_Go p e below _ (T25.setTop (mkF m 27 #[oR this, oI (0 : Int32), oI (0 : Int32)] [(.int wc0)]))
        by_cases hc27_27 : wc0 = (0 : Int32)
        · refine own_via (fun t kz => XS.ifNo X25.here hx rfl (hb hby d3_27) rfl ((if0 _ _).trans (teq hc27_27).2) kz) ?_
          have hq1 : wc0 = 0 ∨ wc0 = 1 := by first | exact hok1 hc8_5 | simpa [own_pick, own_pick1, hc8_5] using hok1
          have hq2 : wc0 = 0 → wn = 0 ∨ wn = 1 := by first | exact hok2 hc8_5 | simpa [own_pick, own_pick1, hc8_5] using hok2
          have hq3 := hq2 hc27_27
          subst hc27_27
          rcases hq3 with rfl | rfl
          · show own_Go p e below _ (T25.setTop (mkF m 30 #[oR this, oI (0 : Int32), oI (0 : Int32)] []))
            refine own_via (fun t kz => XS.aloadN X25.here hx rfl (hb hby d3_30) rfl rfl kz) ?_
            show own_Go p e below _ (T25.setTop (mkF m 31 #[oR this, oI (0 : Int32), oI (0 : Int32)] [(.ref this)]))
            obtain ⟨T28, X28, e28, st28⟩ := getF X25 hx hZ hown (host := "") (Or.inl (own_w hw 15)) Via.refl e25 F11 (g := (mkF m 31 #[oR this, oI (0 : Int32), oI (0 : Int32)] [(.ref this)])) rfl rfl (hb hby d3_31)
            refine own_via st28 ?_
            show own_Go p e below _ (T28.setTop (mkF m 34 #[oR this, oI (0 : Int32), oI (0 : Int32)] [(.ref ata)]))
            refine own_via (fun t kz => XS.aloadN X28.here hx rfl (hb hby d3_34) rfl rfl kz) ?_
            show own_Go p e below _ (T28.setTop (mkF m 35 #[oR this, oI (0 : Int32), oI (0 : Int32)] [(.ref this), (.ref ata)]))
            refine own_via (fun t kz => XS.dup X28.here hx rfl (hb hby d3_35) rfl rfl kz) ?_
            show own_Go p e below _ (T28.setTop (mkF m 36 #[oR this, oI (0 : Int32), oI (0 : Int32)] [(.ref this), (.ref this), (.ref ata)]))
            obtain ⟨T29, X29, e29, st29⟩ := getF X28 hx hZ hown (host := "") (Or.inl (own_w hw 28)) Via.refl e28 F14 (g := (mkF m 36 #[oR this, oI (0 : Int32), oI (0 : Int32)] [(.ref this), (.ref this), (.ref ata)])) rfl rfl (hb hby d3_36)
            refine own_via st29 ?_
            show own_Go p e below _ (T29.setTop (mkF m 39 #[oR this, oI (0 : Int32), oI (0 : Int32)] [(.int (0 : Int32)), (.ref this), (.ref ata)]))
            refine own_via (fun t kz => XS.dupX1 X29.here hx rfl (hb hby d3_39) rfl rfl rfl kz) ?_
            show own_Go p e below _ (T29.setTop (mkF m 40 #[oR this, oI (0 : Int32), oI (0 : Int32)] [(.int (0 : Int32)), (.ref this), (.int (0 : Int32)), (.ref ata)]))
            refine own_via (fun t kz => XS.iconst X29.here hx rfl (hb hby d3_40) kz) ?_
            show own_Go p e below _ (T29.setTop (mkF m 41 #[oR this, oI (0 : Int32), oI (0 : Int32)] [(.int (1 : Int32)), (.int (0 : Int32)), (.ref this), (.int (0 : Int32)), (.ref ata)]))
            refine own_via (fun t kz => XS.iadd X29.here hx rfl (hb hby d3_41) rfl kz) ?_
            show own_Go p e below _ (T29.setTop (mkF m 42 #[oR this, oI (0 : Int32), oI (0 : Int32)] [(.int (1 : Int32)), (.ref this), (.int (0 : Int32)), (.ref ata)]))
            obtain ⟨T30, h30, X30, e30, W30, st30⟩ := putF X29 hx hZ hown (host := "") (Or.inl (own_w hw 28)) Via.refl e29 F14 E9 (Or.inl (own_w hw 29)) (own_w hw 1) (ty := .int) (by decide) rfl rfl (g := (mkF m 42 #[oR this, oI (0 : Int32), oI (0 : Int32)] [(.int (1 : Int32)), (.ref this), (.int (0 : Int32)), (.ref ata)])) rfl rfl (hb hby d3_42)
            refine own_via st30 ?_
            have E31 := E9.wr W30
            have F32 := F10.other W30 (Or.inr (slot_ne (Or.inr (own_w hw 13)) (Or.inl (own_w hw 29)) (by decide) (t := (.array (.array .boolean))) (t' := .int) (by decide) (by decide)))
            have F33 := F11.other W30 (Or.inr (slot_ne (Or.inr (own_w hw 16)) (Or.inl (own_w hw 29)) (by decide) (t := (.array .int)) (t' := .int) (by decide) (by decide)))
            have F34 := F12.other W30 (Or.inr (slot_ne (Or.inr (own_w hw 20)) (Or.inl (own_w hw 29)) (by decide) (t := (.array (.array .int))) (t' := .int) (by decide) (by decide)))
            have F35 := F13.other W30 (Or.inr (slot_ne (Or.inr (own_w hw 22)) (Or.inl (own_w hw 29)) (by decide) (t := (.array .int)) (t' := .int) (by decide) (by decide)))
            have F36 := F14.same W30
            have V37 := V15.other W30 (own_neq (by omega))
            have V38 := V24.other W30 (own_neq (by omega))
            have V39 := V16.other W30 (own_neq (by omega))
            have V40 := V17.other W30 (own_neq (by omega))
            have V41 := V18.other W30 (own_neq (by omega))
            have V42 := V19.other W30 (own_neq (by omega))
            have V43 := V20.other W30 (own_neq (by omega))
            have V44 := V21.other W30 (own_neq (by omega))
            have Zs45 : n0 ≤ h30.size := Nat.le_trans Zs22 (Keep.of_wr W30).1
            have N46 := Fr.snoc X30 N23 (show n0 ≤ this by omega)
            show own_Go p e below _ (T30.setTop (mkF m 45 #[oR this, oI (0 : Int32), oI (0 : Int32)] [(.int (0 : Int32)), (.ref ata)]))
            refine own_via (fun t kz => XS.iloadN X30.here hx rfl (hb hby d3_45) rfl kz) ?_
            show own_Go p e below _ (T30.setTop (mkF m 46 #[oR this, oI (0 : Int32), oI (0 : Int32)] [(.int (0 : Int32)), (.int (0 : Int32)), (.ref ata)]))
            obtain ⟨cl47, Ar47, kc47, Sz47, Nn47, Hs47, Gs47⟩ := id V40
            obtain ⟨T47, h47, X47, e47, W47, st47⟩ := stI X30 hx hZ e30 Ar47 (j := (0 : Int32)) (inb_of Sz47 ⟨by decide, by decide⟩) (g := (mkF m 46 #[oR this, oI (0 : Int32), oI (0 : Int32)] [(.int (0 : Int32)), (.int (0 : Int32)), (.ref ata)])) rfl rfl (hb hby d3_46)
            refine own_via st47 ?_
            have E48 := E31.wr W47
            have F49 := F32.other W47 (Or.inl (own_neq (by omega)))
            have F50 := F33.other W47 (Or.inl (own_neq (by omega)))
            have F51 := F34.other W47 (Or.inl (own_neq (by omega)))
            have F52 := F35.other W47 (Or.inl (own_neq (by omega)))
            have F53 := F36.other W47 (Or.inl (own_neq (by omega)))
            have V54 := V37.other W47 (own_neq (by omega))
            have V55 := V38.other W47 (own_neq (by omega))
            have V56 := V39.other W47 (own_neq (by omega))
            have V57 := V41.other W47 (own_neq (by omega))
            have V58 := V42.other W47 (own_neq (by omega))
            have V59 := V43.other W47 (own_neq (by omega))
            have V60 := V44.other W47 (own_neq (by omega))
            have Zs61 : n0 ≤ h47.size := Nat.le_trans Zs45 (Keep.of_wr W47).1
            have N62 := Fr.snoc X47 N46 (show n0 ≤ ata by omega)
            have V63 : Arv Z h47 ata ck4 .int (2 : Int32) [(.int (0 : Int32)), (.int wt1)] (.int (0 : Int32)) := Arv.set Ar47 kc47 Sz47 Nn47 Hs47 Gs47 rfl W47 0 (by first | decide | (show 0 < 2; decide)) (by first | decide | (show 0 < 2; decide))
            show own_Go p e below _ (T47.setTop (mkF m 47 #[oR this, oI (0 : Int32), oI (0 : Int32)] []))
            refine own_via (fun t kz => XS.aloadN X47.here hx rfl (hb hby d3_47) rfl rfl kz) ?_
            show own_Go p e below _ (T47.setTop (mkF m 48 #[oR this, oI (0 : Int32), oI (0 : Int32)] [(.ref this)]))
            obtain ⟨T64, X64, e64, st64⟩ := getF X47 hx hZ hown (host := "") (Or.inl (own_w hw 19)) Via.refl e47 F51 (g := (mkF m 48 #[oR this, oI (0 : Int32), oI (0 : Int32)] [(.ref this)])) rfl rfl (hb hby d3_48)
            refine own_via st64 ?_
            show own_Go p e below _ (T64.setTop (mkF m 51 #[oR this, oI (0 : Int32), oI (0 : Int32)] [(.ref aso)]))
            refine own_via (fun t kz => XS.iloadN X64.here hx rfl (hb hby d3_51) rfl kz) ?_
            show own_Go p e below _ (T64.setTop (mkF m 52 #[oR this, oI (0 : Int32), oI (0 : Int32)] [(.int (0 : Int32)), (.ref aso)]))
            obtain ⟨cl65, Ar65, kc65, Sz65, Nn65, Hs65, Gs65⟩ := id V57
            have in65 := inb_of (j := (0 : Int32)) Sz65 ⟨by decide, by decide⟩
            have at65 : cl65.slots[((0 : Int32)).toNatClampNeg]? = some (.ref as0) := Hs65.at in65 rfl
            refine own_via (fun t kz => X64.aaload hx (j := (0 : Int32)) (v := (.ref as0)) (by rw [e64]; exact Ar65.1) (State.isArrayOf_alike hZ.alike Ar65.2.1) rfl Ar65.2.2 in65 at65 (g := (mkF m 52 #[oR this, oI (0 : Int32), oI (0 : Int32)] [(.int (0 : Int32)), (.ref aso)])) rfl rfl (hb hby d3_52) t kz) ?_
            show own_Go p e below _ (T64.setTop (mkF m 53 #[oR this, oI (0 : Int32), oI (0 : Int32)] [(.ref as0)]))
            refine own_via (fun t kz => XS.aloadN X64.here hx rfl (hb hby d3_53) rfl rfl kz) ?_
            show own_Go p e below _ (T64.setTop (mkF m 54 #[oR this, oI (0 : Int32), oI (0 : Int32)] [(.ref this), (.ref as0)]))
            obtain ⟨T66, X66, e66, st66⟩ := getF X64 hx hZ hown (host := "") (Or.inl (own_w hw 21)) Via.refl e64 F52 (g := (mkF m 54 #[oR this, oI (0 : Int32), oI (0 : Int32)] [(.ref this), (.ref as0)])) rfl rfl (hb hby d3_54)
            refine own_via st66 ?_
            show own_Go p e below _ (T66.setTop (mkF m 57 #[oR this, oI (0 : Int32), oI (0 : Int32)] [(.ref aca), (.ref as0)]))
            refine own_via (fun t kz => XS.iloadN X66.here hx rfl (hb hby d3_57) rfl kz) ?_
            show own_Go p e below _ (T66.setTop (mkF m 58 #[oR this, oI (0 : Int32), oI (0 : Int32)] [(.int (0 : Int32)), (.ref aca), (.ref as0)]))
            refine own_via (fun t kz => XT.dup2 X66.here hx rfl (hb hby d3_58) rfl rfl rfl kz) ?_
            show own_Go p e below _ (T66.setTop (mkF m 59 #[oR this, oI (0 : Int32), oI (0 : Int32)] [(.int (0 : Int32)), (.ref aca), (.int (0 : Int32)), (.ref aca), (.ref as0)]))
            obtain ⟨cl67, Ar67, kc67, Sz67, Nn67, Hs67, Gs67⟩ := id V60
            have in67 := inb_of (j := (0 : Int32)) Sz67 ⟨by decide, by decide⟩
            have at67 : cl67.slots[((0 : Int32)).toNatClampNeg]? = some (.int (0 : Int32)) := Hs67.at in67 rfl
            refine own_via (fun t kz => X66.iaload hx (j := (0 : Int32)) (v := (.int (0 : Int32))) (by rw [e66]; exact Ar67.1) (State.isArrayOf_alike hZ.alike Ar67.2.1) Ar67.2.2 in67 at67 (g := (mkF m 59 #[oR this, oI (0 : Int32), oI (0 : Int32)] [(.int (0 : Int32)), (.ref aca), (.int (0 : Int32)), (.ref aca), (.ref as0)])) rfl rfl (hb hby d3_59) t kz) ?_
            show own_Go p e below _ (T66.setTop (mkF m 60 #[oR this, oI (0 : Int32), oI (0 : Int32)] [(.int (0 : Int32)), (.int (0 : Int32)), (.ref aca), (.ref as0)]))
            refine own_via (fun t kz => own_dupX2 X66.here hx rfl (hb hby d3_60) rfl rfl rfl rfl kz) ?_
            show own_Go p e below _ (T66.setTop (mkF m 61 #[oR this, oI (0 : Int32), oI (0 : Int32)] [(.int (0 : Int32)), (.int (0 : Int32)), (.ref aca), (.int (0 : Int32)), (.ref as0)]))
            refine own_via (fun t kz => XS.iconst X66.here hx rfl (hb hby d3_61) kz) ?_
            show own_Go p e below _ (T66.setTop (mkF m 62 #[oR this, oI (0 : Int32), oI (0 : Int32)] [(.int (1 : Int32)), (.int (0 : Int32)), (.int (0 : Int32)), (.ref aca), (.int (0 : Int32)), (.ref as0)]))
            refine own_via (fun t kz => XS.iadd X66.here hx rfl (hb hby d3_62) rfl kz) ?_
            show own_Go p e below _ (T66.setTop (mkF m 63 #[oR this, oI (0 : Int32), oI (0 : Int32)] [(.int (1 : Int32)), (.int (0 : Int32)), (.ref aca), (.int (0 : Int32)), (.ref as0)]))
            obtain ⟨cl68, Ar68, kc68, Sz68, Nn68, Hs68, Gs68⟩ := id V60
            obtain ⟨T68, h68, X68, e68, W68, st68⟩ := stI X66 hx hZ e66 Ar68 (j := (0 : Int32)) (inb_of Sz68 ⟨by decide, by decide⟩) (g := (mkF m 63 #[oR this, oI (0 : Int32), oI (0 : Int32)] [(.int (1 : Int32)), (.int (0 : Int32)), (.ref aca), (.int (0 : Int32)), (.ref as0)])) rfl rfl (hb hby d3_63)
            refine own_via st68 ?_
            have E69 := E48.wr W68
            have F70 := F49.other W68 (Or.inl (own_neq (by omega)))
            have F71 := F50.other W68 (Or.inl (own_neq (by omega)))
            have F72 := F51.other W68 (Or.inl (own_neq (by omega)))
            have F73 := F52.other W68 (Or.inl (own_neq (by omega)))
            have F74 := F53.other W68 (Or.inl (own_neq (by omega)))
            have V75 := V54.other W68 (own_neq (by omega))
            have V76 := V55.other W68 (own_neq (by omega))
            have V77 := V56.other W68 (own_neq (by omega))
            have V78 := V63.other W68 (own_neq (by omega))
            have V79 := V57.other W68 (own_neq (by omega))
            have V80 := V58.other W68 (own_neq (by omega))
            have V81 := V59.other W68 (own_neq (by omega))
            have Zs82 : n0 ≤ h68.size := Nat.le_trans Zs61 (Keep.of_wr W68).1
            have N83 := Fr.snoc X68 N62 (show n0 ≤ aca by omega)
            have V84 : Arv Z h68 aca ck8 .int (2 : Int32) [(.int (1 : Int32)), (.int wc1)] (.int (0 : Int32)) := Arv.set Ar68 kc68 Sz68 Nn68 Hs68 Gs68 rfl W68 0 (by first | decide | (show 0 < 2; decide)) (by first | decide | (show 0 < 2; decide))
            show own_Go p e below _ (T68.setTop (mkF m 64 #[oR this, oI (0 : Int32), oI (0 : Int32)] [(.int (0 : Int32)), (.ref as0)]))
            refine own_via (fun t kz => XS.iloadN X68.here hx rfl (hb hby d3_64) rfl kz) ?_
            show own_Go p e below _ (T68.setTop (mkF m 65 #[oR this, oI (0 : Int32), oI (0 : Int32)] [(.int (0 : Int32)), (.int (0 : Int32)), (.ref as0)]))
            obtain ⟨cl85, Ar85, kc85, Sz85, Nn85, Hs85, Gs85⟩ := id V80
            obtain ⟨T85, h85, X85, e85, W85, st85⟩ := stI X68 hx hZ e68 Ar85 (j := (0 : Int32)) (inb_of Sz85 ⟨by decide, by decide⟩) (g := (mkF m 65 #[oR this, oI (0 : Int32), oI (0 : Int32)] [(.int (0 : Int32)), (.int (0 : Int32)), (.ref as0)])) rfl rfl (hb hby d3_65)
            refine own_via st85 ?_
            have E86 := E69.wr W85
            have F87 := F70.other W85 (Or.inl (own_neq (by omega)))
            have F88 := F71.other W85 (Or.inl (own_neq (by omega)))
            have F89 := F72.other W85 (Or.inl (own_neq (by omega)))
            have F90 := F73.other W85 (Or.inl (own_neq (by omega)))
            have F91 := F74.other W85 (Or.inl (own_neq (by omega)))
            have V92 := V75.other W85 (own_neq (by omega))
            have V93 := V76.other W85 (own_neq (by omega))
            have V94 := V77.other W85 (own_neq (by omega))
            have V95 := V78.other W85 (own_neq (by omega))
            have V96 := V79.other W85 (own_neq (by omega))
            have V97 := V81.other W85 (own_neq (by omega))
            have V98 := V84.other W85 (own_neq (by omega))
            have Zs99 : n0 ≤ h85.size := Nat.le_trans Zs82 (Keep.of_wr W85).1
            have N100 := Fr.snoc X85 N83 (show n0 ≤ as0 by omega)
            have V101 : Arv Z h85 as0 ck6 .int (2 : Int32) [(.int (0 : Int32)), (.int ws01)] (.int (0 : Int32)) := Arv.set Ar85 kc85 Sz85 Nn85 Hs85 Gs85 rfl W85 0 (by first | decide | (show 0 < 2; decide)) (by first | decide | (show 0 < 2; decide))
            show own_Go p e below _ (T85.setTop (mkF m 66 #[oR this, oI (0 : Int32), oI (0 : Int32)] []))
            have hT : own_TC Z h85 n0 this (own_mk (1 : Int32) wm01 wm10 wm11 (0 : Int32) wt1 (0 : Int32) ws01 ws10 ws11 (1 : Int32) wc1 (1 : Int32)) := ⟨amo, am0, am1, ata, aso, as0, as1, aca, ck1, ck2, ck3, ck4, ck5, ck6, ck7, ck8, ⟨by omega, by omega, by omega, by omega, by omega, by omega, by omega, by omega, by omega⟩, E86, F87, F88, F89, F90, F91, V92, V93, V94, V95, V96, V101, V97, V98⟩
            obtain ⟨fs, hr, hrun, hended, hW, hsame⟩ := X85.leave (v := none) (fun _ => rfl)
            refine ⟨_, _, X85.returnOut hx Bd.returns (hb hby d3_66) hr, hrun, hended, _, _, rfl, ?_, ⟨_, rfl⟩, hW, hsame.mono (by decide) (by decide)⟩
            show Q3 Z this (0 : Int32) (0 : Int32) wm00 wm01 wm10 wm11 wt0 wt1 ws00 ws01 ws10 ws11 (0 : Int32) wc1 (0 : Int32) h0 n0 _ T85.heap _
            rw [e85]
            exact ⟨rfl, N100, Zs99, by unfold own_mark; rw [if_pos (by decide : (0 : Int32) = (0 : Int32)), if_pos (by decide : (0 : Int32) = (0 : Int32)), if_pos hc8_5, if_pos (by decide : (0 : Int32) = (0 : Int32)), if_pos (by decide : (0 : Int32) = (0 : Int32))]; exact hT⟩
          · show own_Go p e below _ (T25.setTop (mkF m 30 #[oR this, oI (0 : Int32), oI (0 : Int32)] []))
            refine own_via (fun t kz => XS.aloadN X25.here hx rfl (hb hby d3_30) rfl rfl kz) ?_
            show own_Go p e below _ (T25.setTop (mkF m 31 #[oR this, oI (0 : Int32), oI (0 : Int32)] [(.ref this)]))
            obtain ⟨T103, X103, e103, st103⟩ := getF X25 hx hZ hown (host := "") (Or.inl (own_w hw 15)) Via.refl e25 F11 (g := (mkF m 31 #[oR this, oI (0 : Int32), oI (0 : Int32)] [(.ref this)])) rfl rfl (hb hby d3_31)
            refine own_via st103 ?_
            show own_Go p e below _ (T103.setTop (mkF m 34 #[oR this, oI (0 : Int32), oI (0 : Int32)] [(.ref ata)]))
            refine own_via (fun t kz => XS.aloadN X103.here hx rfl (hb hby d3_34) rfl rfl kz) ?_
            show own_Go p e below _ (T103.setTop (mkF m 35 #[oR this, oI (0 : Int32), oI (0 : Int32)] [(.ref this), (.ref ata)]))
            refine own_via (fun t kz => XS.dup X103.here hx rfl (hb hby d3_35) rfl rfl kz) ?_
            show own_Go p e below _ (T103.setTop (mkF m 36 #[oR this, oI (0 : Int32), oI (0 : Int32)] [(.ref this), (.ref this), (.ref ata)]))
            obtain ⟨T104, X104, e104, st104⟩ := getF X103 hx hZ hown (host := "") (Or.inl (own_w hw 28)) Via.refl e103 F14 (g := (mkF m 36 #[oR this, oI (0 : Int32), oI (0 : Int32)] [(.ref this), (.ref this), (.ref ata)])) rfl rfl (hb hby d3_36)
            refine own_via st104 ?_
            show own_Go p e below _ (T104.setTop (mkF m 39 #[oR this, oI (0 : Int32), oI (0 : Int32)] [(.int (1 : Int32)), (.ref this), (.ref ata)]))
            refine own_via (fun t kz => XS.dupX1 X104.here hx rfl (hb hby d3_39) rfl rfl rfl kz) ?_
            show own_Go p e below _ (T104.setTop (mkF m 40 #[oR this, oI (0 : Int32), oI (0 : Int32)] [(.int (1 : Int32)), (.ref this), (.int (1 : Int32)), (.ref ata)]))
            refine own_via (fun t kz => XS.iconst X104.here hx rfl (hb hby d3_40) kz) ?_
            show own_Go p e below _ (T104.setTop (mkF m 41 #[oR this, oI (0 : Int32), oI (0 : Int32)] [(.int (1 : Int32)), (.int (1 : Int32)), (.ref this), (.int (1 : Int32)), (.ref ata)]))
            refine own_via (fun t kz => XS.iadd X104.here hx rfl (hb hby d3_41) rfl kz) ?_
            show own_Go p e below _ (T104.setTop (mkF m 42 #[oR this, oI (0 : Int32), oI (0 : Int32)] [(.int (2 : Int32)), (.ref this), (.int (1 : Int32)), (.ref ata)]))
            obtain ⟨T105, h105, X105, e105, W105, st105⟩ := putF X104 hx hZ hown (host := "") (Or.inl (own_w hw 28)) Via.refl e104 F14 E9 (Or.inl (own_w hw 29)) (own_w hw 1) (ty := .int) (by decide) rfl rfl (g := (mkF m 42 #[oR this, oI (0 : Int32), oI (0 : Int32)] [(.int (2 : Int32)), (.ref this), (.int (1 : Int32)), (.ref ata)])) rfl rfl (hb hby d3_42)
            refine own_via st105 ?_
            have E106 := E9.wr W105
            have F107 := F10.other W105 (Or.inr (slot_ne (Or.inr (own_w hw 13)) (Or.inl (own_w hw 29)) (by decide) (t := (.array (.array .boolean))) (t' := .int) (by decide) (by decide)))
            have F108 := F11.other W105 (Or.inr (slot_ne (Or.inr (own_w hw 16)) (Or.inl (own_w hw 29)) (by decide) (t := (.array .int)) (t' := .int) (by decide) (by decide)))
            have F109 := F12.other W105 (Or.inr (slot_ne (Or.inr (own_w hw 20)) (Or.inl (own_w hw 29)) (by decide) (t := (.array (.array .int))) (t' := .int) (by decide) (by decide)))
            have F110 := F13.other W105 (Or.inr (slot_ne (Or.inr (own_w hw 22)) (Or.inl (own_w hw 29)) (by decide) (t := (.array .int)) (t' := .int) (by decide) (by decide)))
            have F111 := F14.same W105
            have V112 := V15.other W105 (own_neq (by omega))
            have V113 := V24.other W105 (own_neq (by omega))
            have V114 := V16.other W105 (own_neq (by omega))
            have V115 := V17.other W105 (own_neq (by omega))
            have V116 := V18.other W105 (own_neq (by omega))
            have V117 := V19.other W105 (own_neq (by omega))
            have V118 := V20.other W105 (own_neq (by omega))
            have V119 := V21.other W105 (own_neq (by omega))
            have Zs120 : n0 ≤ h105.size := Nat.le_trans Zs22 (Keep.of_wr W105).1
            have N121 := Fr.snoc X105 N23 (show n0 ≤ this by omega)
            show own_Go p e below _ (T105.setTop (mkF m 45 #[oR this, oI (0 : Int32), oI (0 : Int32)] [(.int (1 : Int32)), (.ref ata)]))
            refine own_via (fun t kz => XS.iloadN X105.here hx rfl (hb hby d3_45) rfl kz) ?_
            show own_Go p e below _ (T105.setTop (mkF m 46 #[oR this, oI (0 : Int32), oI (0 : Int32)] [(.int (0 : Int32)), (.int (1 : Int32)), (.ref ata)]))
            obtain ⟨cl122, Ar122, kc122, Sz122, Nn122, Hs122, Gs122⟩ := id V115
            obtain ⟨T122, h122, X122, e122, W122, st122⟩ := stI X105 hx hZ e105 Ar122 (j := (1 : Int32)) (inb_of Sz122 ⟨by decide, by decide⟩) (g := (mkF m 46 #[oR this, oI (0 : Int32), oI (0 : Int32)] [(.int (0 : Int32)), (.int (1 : Int32)), (.ref ata)])) rfl rfl (hb hby d3_46)
            refine own_via st122 ?_
            have E123 := E106.wr W122
            have F124 := F107.other W122 (Or.inl (own_neq (by omega)))
            have F125 := F108.other W122 (Or.inl (own_neq (by omega)))
            have F126 := F109.other W122 (Or.inl (own_neq (by omega)))
            have F127 := F110.other W122 (Or.inl (own_neq (by omega)))
            have F128 := F111.other W122 (Or.inl (own_neq (by omega)))
            have V129 := V112.other W122 (own_neq (by omega))
            have V130 := V113.other W122 (own_neq (by omega))
            have V131 := V114.other W122 (own_neq (by omega))
            have V132 := V116.other W122 (own_neq (by omega))
            have V133 := V117.other W122 (own_neq (by omega))
            have V134 := V118.other W122 (own_neq (by omega))
            have V135 := V119.other W122 (own_neq (by omega))
            have Zs136 : n0 ≤ h122.size := Nat.le_trans Zs120 (Keep.of_wr W122).1
            have N137 := Fr.snoc X122 N121 (show n0 ≤ ata by omega)
            have V138 : Arv Z h122 ata ck4 .int (2 : Int32) [(.int wt0), (.int (0 : Int32))] (.int (0 : Int32)) := Arv.set Ar122 kc122 Sz122 Nn122 Hs122 Gs122 rfl W122 1 (by first | decide | (show 1 < 2; decide)) (by first | decide | (show 1 < 2; decide))
            show own_Go p e below _ (T122.setTop (mkF m 47 #[oR this, oI (0 : Int32), oI (0 : Int32)] []))
            refine own_via (fun t kz => XS.aloadN X122.here hx rfl (hb hby d3_47) rfl rfl kz) ?_
            show own_Go p e below _ (T122.setTop (mkF m 48 #[oR this, oI (0 : Int32), oI (0 : Int32)] [(.ref this)]))
            obtain ⟨T139, X139, e139, st139⟩ := getF X122 hx hZ hown (host := "") (Or.inl (own_w hw 19)) Via.refl e122 F126 (g := (mkF m 48 #[oR this, oI (0 : Int32), oI (0 : Int32)] [(.ref this)])) rfl rfl (hb hby d3_48)
            refine own_via st139 ?_
            show own_Go p e below _ (T139.setTop (mkF m 51 #[oR this, oI (0 : Int32), oI (0 : Int32)] [(.ref aso)]))
            refine own_via (fun t kz => XS.iloadN X139.here hx rfl (hb hby d3_51) rfl kz) ?_
            show own_Go p e below _ (T139.setTop (mkF m 52 #[oR this, oI (0 : Int32), oI (0 : Int32)] [(.int (0 : Int32)), (.ref aso)]))
            obtain ⟨cl140, Ar140, kc140, Sz140, Nn140, Hs140, Gs140⟩ := id V132
            have in140 := inb_of (j := (0 : Int32)) Sz140 ⟨by decide, by decide⟩
            have at140 : cl140.slots[((0 : Int32)).toNatClampNeg]? = some (.ref as0) := Hs140.at in140 rfl
            refine own_via (fun t kz => X139.aaload hx (j := (0 : Int32)) (v := (.ref as0)) (by rw [e139]; exact Ar140.1) (State.isArrayOf_alike hZ.alike Ar140.2.1) rfl Ar140.2.2 in140 at140 (g := (mkF m 52 #[oR this, oI (0 : Int32), oI (0 : Int32)] [(.int (0 : Int32)), (.ref aso)])) rfl rfl (hb hby d3_52) t kz) ?_
            show own_Go p e below _ (T139.setTop (mkF m 53 #[oR this, oI (0 : Int32), oI (0 : Int32)] [(.ref as0)]))
            refine own_via (fun t kz => XS.aloadN X139.here hx rfl (hb hby d3_53) rfl rfl kz) ?_
            show own_Go p e below _ (T139.setTop (mkF m 54 #[oR this, oI (0 : Int32), oI (0 : Int32)] [(.ref this), (.ref as0)]))
            obtain ⟨T141, X141, e141, st141⟩ := getF X139 hx hZ hown (host := "") (Or.inl (own_w hw 21)) Via.refl e139 F127 (g := (mkF m 54 #[oR this, oI (0 : Int32), oI (0 : Int32)] [(.ref this), (.ref as0)])) rfl rfl (hb hby d3_54)
            refine own_via st141 ?_
            show own_Go p e below _ (T141.setTop (mkF m 57 #[oR this, oI (0 : Int32), oI (0 : Int32)] [(.ref aca), (.ref as0)]))
            refine own_via (fun t kz => XS.iloadN X141.here hx rfl (hb hby d3_57) rfl kz) ?_
            show own_Go p e below _ (T141.setTop (mkF m 58 #[oR this, oI (0 : Int32), oI (0 : Int32)] [(.int (0 : Int32)), (.ref aca), (.ref as0)]))
            refine own_via (fun t kz => XT.dup2 X141.here hx rfl (hb hby d3_58) rfl rfl rfl kz) ?_
            show own_Go p e below _ (T141.setTop (mkF m 59 #[oR this, oI (0 : Int32), oI (0 : Int32)] [(.int (0 : Int32)), (.ref aca), (.int (0 : Int32)), (.ref aca), (.ref as0)]))
            obtain ⟨cl142, Ar142, kc142, Sz142, Nn142, Hs142, Gs142⟩ := id V135
            have in142 := inb_of (j := (0 : Int32)) Sz142 ⟨by decide, by decide⟩
            have at142 : cl142.slots[((0 : Int32)).toNatClampNeg]? = some (.int (0 : Int32)) := Hs142.at in142 rfl
            refine own_via (fun t kz => X141.iaload hx (j := (0 : Int32)) (v := (.int (0 : Int32))) (by rw [e141]; exact Ar142.1) (State.isArrayOf_alike hZ.alike Ar142.2.1) Ar142.2.2 in142 at142 (g := (mkF m 59 #[oR this, oI (0 : Int32), oI (0 : Int32)] [(.int (0 : Int32)), (.ref aca), (.int (0 : Int32)), (.ref aca), (.ref as0)])) rfl rfl (hb hby d3_59) t kz) ?_
            show own_Go p e below _ (T141.setTop (mkF m 60 #[oR this, oI (0 : Int32), oI (0 : Int32)] [(.int (0 : Int32)), (.int (0 : Int32)), (.ref aca), (.ref as0)]))
            refine own_via (fun t kz => own_dupX2 X141.here hx rfl (hb hby d3_60) rfl rfl rfl rfl kz) ?_
            show own_Go p e below _ (T141.setTop (mkF m 61 #[oR this, oI (0 : Int32), oI (0 : Int32)] [(.int (0 : Int32)), (.int (0 : Int32)), (.ref aca), (.int (0 : Int32)), (.ref as0)]))
            refine own_via (fun t kz => XS.iconst X141.here hx rfl (hb hby d3_61) kz) ?_
            show own_Go p e below _ (T141.setTop (mkF m 62 #[oR this, oI (0 : Int32), oI (0 : Int32)] [(.int (1 : Int32)), (.int (0 : Int32)), (.int (0 : Int32)), (.ref aca), (.int (0 : Int32)), (.ref as0)]))
            refine own_via (fun t kz => XS.iadd X141.here hx rfl (hb hby d3_62) rfl kz) ?_
            show own_Go p e below _ (T141.setTop (mkF m 63 #[oR this, oI (0 : Int32), oI (0 : Int32)] [(.int (1 : Int32)), (.int (0 : Int32)), (.ref aca), (.int (0 : Int32)), (.ref as0)]))
            obtain ⟨cl143, Ar143, kc143, Sz143, Nn143, Hs143, Gs143⟩ := id V135
            obtain ⟨T143, h143, X143, e143, W143, st143⟩ := stI X141 hx hZ e141 Ar143 (j := (0 : Int32)) (inb_of Sz143 ⟨by decide, by decide⟩) (g := (mkF m 63 #[oR this, oI (0 : Int32), oI (0 : Int32)] [(.int (1 : Int32)), (.int (0 : Int32)), (.ref aca), (.int (0 : Int32)), (.ref as0)])) rfl rfl (hb hby d3_63)
            refine own_via st143 ?_
            have E144 := E123.wr W143
            have F145 := F124.other W143 (Or.inl (own_neq (by omega)))
            have F146 := F125.other W143 (Or.inl (own_neq (by omega)))
            have F147 := F126.other W143 (Or.inl (own_neq (by omega)))
            have F148 := F127.other W143 (Or.inl (own_neq (by omega)))
            have F149 := F128.other W143 (Or.inl (own_neq (by omega)))
            have V150 := V129.other W143 (own_neq (by omega))
            have V151 := V130.other W143 (own_neq (by omega))
            have V152 := V131.other W143 (own_neq (by omega))
            have V153 := V138.other W143 (own_neq (by omega))
            have V154 := V132.other W143 (own_neq (by omega))
            have V155 := V133.other W143 (own_neq (by omega))
            have V156 := V134.other W143 (own_neq (by omega))
            have Zs157 : n0 ≤ h143.size := Nat.le_trans Zs136 (Keep.of_wr W143).1
            have N158 := Fr.snoc X143 N137 (show n0 ≤ aca by omega)
            have V159 : Arv Z h143 aca ck8 .int (2 : Int32) [(.int (1 : Int32)), (.int wc1)] (.int (0 : Int32)) := Arv.set Ar143 kc143 Sz143 Nn143 Hs143 Gs143 rfl W143 0 (by first | decide | (show 0 < 2; decide)) (by first | decide | (show 0 < 2; decide))
            show own_Go p e below _ (T143.setTop (mkF m 64 #[oR this, oI (0 : Int32), oI (0 : Int32)] [(.int (0 : Int32)), (.ref as0)]))
            refine own_via (fun t kz => XS.iloadN X143.here hx rfl (hb hby d3_64) rfl kz) ?_
            show own_Go p e below _ (T143.setTop (mkF m 65 #[oR this, oI (0 : Int32), oI (0 : Int32)] [(.int (0 : Int32)), (.int (0 : Int32)), (.ref as0)]))
            obtain ⟨cl160, Ar160, kc160, Sz160, Nn160, Hs160, Gs160⟩ := id V155
            obtain ⟨T160, h160, X160, e160, W160, st160⟩ := stI X143 hx hZ e143 Ar160 (j := (0 : Int32)) (inb_of Sz160 ⟨by decide, by decide⟩) (g := (mkF m 65 #[oR this, oI (0 : Int32), oI (0 : Int32)] [(.int (0 : Int32)), (.int (0 : Int32)), (.ref as0)])) rfl rfl (hb hby d3_65)
            refine own_via st160 ?_
            have E161 := E144.wr W160
            have F162 := F145.other W160 (Or.inl (own_neq (by omega)))
            have F163 := F146.other W160 (Or.inl (own_neq (by omega)))
            have F164 := F147.other W160 (Or.inl (own_neq (by omega)))
            have F165 := F148.other W160 (Or.inl (own_neq (by omega)))
            have F166 := F149.other W160 (Or.inl (own_neq (by omega)))
            have V167 := V150.other W160 (own_neq (by omega))
            have V168 := V151.other W160 (own_neq (by omega))
            have V169 := V152.other W160 (own_neq (by omega))
            have V170 := V153.other W160 (own_neq (by omega))
            have V171 := V154.other W160 (own_neq (by omega))
            have V172 := V156.other W160 (own_neq (by omega))
            have V173 := V159.other W160 (own_neq (by omega))
            have Zs174 : n0 ≤ h160.size := Nat.le_trans Zs157 (Keep.of_wr W160).1
            have N175 := Fr.snoc X160 N158 (show n0 ≤ as0 by omega)
            have V176 : Arv Z h160 as0 ck6 .int (2 : Int32) [(.int (0 : Int32)), (.int ws01)] (.int (0 : Int32)) := Arv.set Ar160 kc160 Sz160 Nn160 Hs160 Gs160 rfl W160 0 (by first | decide | (show 0 < 2; decide)) (by first | decide | (show 0 < 2; decide))
            show own_Go p e below _ (T160.setTop (mkF m 66 #[oR this, oI (0 : Int32), oI (0 : Int32)] []))
            have hT : own_TC Z h160 n0 this (own_mk (1 : Int32) wm01 wm10 wm11 wt0 (0 : Int32) (0 : Int32) ws01 ws10 ws11 (1 : Int32) wc1 (2 : Int32)) := ⟨amo, am0, am1, ata, aso, as0, as1, aca, ck1, ck2, ck3, ck4, ck5, ck6, ck7, ck8, ⟨by omega, by omega, by omega, by omega, by omega, by omega, by omega, by omega, by omega⟩, E161, F162, F163, F164, F165, F166, V167, V168, V169, V170, V171, V176, V172, V173⟩
            obtain ⟨fs, hr, hrun, hended, hW, hsame⟩ := X160.leave (v := none) (fun _ => rfl)
            refine ⟨_, _, X160.returnOut hx Bd.returns (hb hby d3_66) hr, hrun, hended, _, _, rfl, ?_, ⟨_, rfl⟩, hW, hsame.mono (by decide) (by decide)⟩
            show Q3 Z this (0 : Int32) (0 : Int32) wm00 wm01 wm10 wm11 wt0 wt1 ws00 ws01 ws10 ws11 (0 : Int32) wc1 (1 : Int32) h0 n0 _ T160.heap _
            rw [e160]
            exact ⟨rfl, N175, Zs174, by unfold own_mark; rw [if_pos (by decide : (0 : Int32) = (0 : Int32)), if_pos (by decide : (0 : Int32) = (0 : Int32)), if_pos hc8_5, if_pos (by decide : (0 : Int32) = (0 : Int32)), if_neg (by decide : ¬ ((1 : Int32) = (0 : Int32)))]; exact hT⟩
        · refine own_via (fun t kz => XS.ifYes X25.here hx rfl (pc0 := 27) (pc' := 47) rfl (hb hby d3_27) rfl ((if0 _ _).trans (feq hc27_27).2) (by decide) (by decide) kz) ?_
          have hq1 : wc0 = 0 ∨ wc0 = 1 := by first | exact hok1 hc8_5 | simpa [own_pick, own_pick1, hc8_5] using hok1
          have hq2 : wc0 = 0 → wn = 0 ∨ wn = 1 := by first | exact hok2 hc8_5 | simpa [own_pick, own_pick1, hc8_5] using hok2
          have hq3 := hq1.resolve_left hc27_27
          clear hc27_27
          subst hq3
          show own_Go p e below _ (T25.setTop (mkF m 47 #[oR this, oI (0 : Int32), oI (0 : Int32)] []))
          refine own_via (fun t kz => XS.aloadN X25.here hx rfl (hb hby d3_47) rfl rfl kz) ?_
          show own_Go p e below _ (T25.setTop (mkF m 48 #[oR this, oI (0 : Int32), oI (0 : Int32)] [(.ref this)]))
          obtain ⟨T178, X178, e178, st178⟩ := getF X25 hx hZ hown (host := "") (Or.inl (own_w hw 19)) Via.refl e25 F12 (g := (mkF m 48 #[oR this, oI (0 : Int32), oI (0 : Int32)] [(.ref this)])) rfl rfl (hb hby d3_48)
          refine own_via st178 ?_
          show own_Go p e below _ (T178.setTop (mkF m 51 #[oR this, oI (0 : Int32), oI (0 : Int32)] [(.ref aso)]))
          refine own_via (fun t kz => XS.iloadN X178.here hx rfl (hb hby d3_51) rfl kz) ?_
          show own_Go p e below _ (T178.setTop (mkF m 52 #[oR this, oI (0 : Int32), oI (0 : Int32)] [(.int (0 : Int32)), (.ref aso)]))
          obtain ⟨cl179, Ar179, kc179, Sz179, Nn179, Hs179, Gs179⟩ := id V18
          have in179 := inb_of (j := (0 : Int32)) Sz179 ⟨by decide, by decide⟩
          have at179 : cl179.slots[((0 : Int32)).toNatClampNeg]? = some (.ref as0) := Hs179.at in179 rfl
          refine own_via (fun t kz => X178.aaload hx (j := (0 : Int32)) (v := (.ref as0)) (by rw [e178]; exact Ar179.1) (State.isArrayOf_alike hZ.alike Ar179.2.1) rfl Ar179.2.2 in179 at179 (g := (mkF m 52 #[oR this, oI (0 : Int32), oI (0 : Int32)] [(.int (0 : Int32)), (.ref aso)])) rfl rfl (hb hby d3_52) t kz) ?_
          show own_Go p e below _ (T178.setTop (mkF m 53 #[oR this, oI (0 : Int32), oI (0 : Int32)] [(.ref as0)]))
          refine own_via (fun t kz => XS.aloadN X178.here hx rfl (hb hby d3_53) rfl rfl kz) ?_
          show own_Go p e below _ (T178.setTop (mkF m 54 #[oR this, oI (0 : Int32), oI (0 : Int32)] [(.ref this), (.ref as0)]))
          obtain ⟨T180, X180, e180, st180⟩ := getF X178 hx hZ hown (host := "") (Or.inl (own_w hw 21)) Via.refl e178 F13 (g := (mkF m 54 #[oR this, oI (0 : Int32), oI (0 : Int32)] [(.ref this), (.ref as0)])) rfl rfl (hb hby d3_54)
          refine own_via st180 ?_
          show own_Go p e below _ (T180.setTop (mkF m 57 #[oR this, oI (0 : Int32), oI (0 : Int32)] [(.ref aca), (.ref as0)]))
          refine own_via (fun t kz => XS.iloadN X180.here hx rfl (hb hby d3_57) rfl kz) ?_
          show own_Go p e below _ (T180.setTop (mkF m 58 #[oR this, oI (0 : Int32), oI (0 : Int32)] [(.int (0 : Int32)), (.ref aca), (.ref as0)]))
          refine own_via (fun t kz => XT.dup2 X180.here hx rfl (hb hby d3_58) rfl rfl rfl kz) ?_
          show own_Go p e below _ (T180.setTop (mkF m 59 #[oR this, oI (0 : Int32), oI (0 : Int32)] [(.int (0 : Int32)), (.ref aca), (.int (0 : Int32)), (.ref aca), (.ref as0)]))
          obtain ⟨cl181, Ar181, kc181, Sz181, Nn181, Hs181, Gs181⟩ := id V21
          have in181 := inb_of (j := (0 : Int32)) Sz181 ⟨by decide, by decide⟩
          have at181 : cl181.slots[((0 : Int32)).toNatClampNeg]? = some (.int (1 : Int32)) := Hs181.at in181 rfl
          refine own_via (fun t kz => X180.iaload hx (j := (0 : Int32)) (v := (.int (1 : Int32))) (by rw [e180]; exact Ar181.1) (State.isArrayOf_alike hZ.alike Ar181.2.1) Ar181.2.2 in181 at181 (g := (mkF m 59 #[oR this, oI (0 : Int32), oI (0 : Int32)] [(.int (0 : Int32)), (.ref aca), (.int (0 : Int32)), (.ref aca), (.ref as0)])) rfl rfl (hb hby d3_59) t kz) ?_
          show own_Go p e below _ (T180.setTop (mkF m 60 #[oR this, oI (0 : Int32), oI (0 : Int32)] [(.int (1 : Int32)), (.int (0 : Int32)), (.ref aca), (.ref as0)]))
          refine own_via (fun t kz => own_dupX2 X180.here hx rfl (hb hby d3_60) rfl rfl rfl rfl kz) ?_
          show own_Go p e below _ (T180.setTop (mkF m 61 #[oR this, oI (0 : Int32), oI (0 : Int32)] [(.int (1 : Int32)), (.int (0 : Int32)), (.ref aca), (.int (1 : Int32)), (.ref as0)]))
          refine own_via (fun t kz => XS.iconst X180.here hx rfl (hb hby d3_61) kz) ?_
          show own_Go p e below _ (T180.setTop (mkF m 62 #[oR this, oI (0 : Int32), oI (0 : Int32)] [(.int (1 : Int32)), (.int (1 : Int32)), (.int (0 : Int32)), (.ref aca), (.int (1 : Int32)), (.ref as0)]))
          refine own_via (fun t kz => XS.iadd X180.here hx rfl (hb hby d3_62) rfl kz) ?_
          show own_Go p e below _ (T180.setTop (mkF m 63 #[oR this, oI (0 : Int32), oI (0 : Int32)] [(.int (2 : Int32)), (.int (0 : Int32)), (.ref aca), (.int (1 : Int32)), (.ref as0)]))
          obtain ⟨cl182, Ar182, kc182, Sz182, Nn182, Hs182, Gs182⟩ := id V21
          obtain ⟨T182, h182, X182, e182, W182, st182⟩ := stI X180 hx hZ e180 Ar182 (j := (0 : Int32)) (inb_of Sz182 ⟨by decide, by decide⟩) (g := (mkF m 63 #[oR this, oI (0 : Int32), oI (0 : Int32)] [(.int (2 : Int32)), (.int (0 : Int32)), (.ref aca), (.int (1 : Int32)), (.ref as0)])) rfl rfl (hb hby d3_63)
          refine own_via st182 ?_
          have E183 := E9.wr W182
          have F184 := F10.other W182 (Or.inl (own_neq (by omega)))
          have F185 := F11.other W182 (Or.inl (own_neq (by omega)))
          have F186 := F12.other W182 (Or.inl (own_neq (by omega)))
          have F187 := F13.other W182 (Or.inl (own_neq (by omega)))
          have F188 := F14.other W182 (Or.inl (own_neq (by omega)))
          have V189 := V15.other W182 (own_neq (by omega))
          have V190 := V24.other W182 (own_neq (by omega))
          have V191 := V16.other W182 (own_neq (by omega))
          have V192 := V17.other W182 (own_neq (by omega))
          have V193 := V18.other W182 (own_neq (by omega))
          have V194 := V19.other W182 (own_neq (by omega))
          have V195 := V20.other W182 (own_neq (by omega))
          have Zs196 : n0 ≤ h182.size := Nat.le_trans Zs22 (Keep.of_wr W182).1
          have N197 := Fr.snoc X182 N23 (show n0 ≤ aca by omega)
          have V198 : Arv Z h182 aca ck8 .int (2 : Int32) [(.int (2 : Int32)), (.int wc1)] (.int (0 : Int32)) := Arv.set Ar182 kc182 Sz182 Nn182 Hs182 Gs182 rfl W182 0 (by first | decide | (show 0 < 2; decide)) (by first | decide | (show 0 < 2; decide))
          show own_Go p e below _ (T182.setTop (mkF m 64 #[oR this, oI (0 : Int32), oI (0 : Int32)] [(.int (1 : Int32)), (.ref as0)]))
          refine own_via (fun t kz => XS.iloadN X182.here hx rfl (hb hby d3_64) rfl kz) ?_
          show own_Go p e below _ (T182.setTop (mkF m 65 #[oR this, oI (0 : Int32), oI (0 : Int32)] [(.int (0 : Int32)), (.int (1 : Int32)), (.ref as0)]))
          obtain ⟨cl199, Ar199, kc199, Sz199, Nn199, Hs199, Gs199⟩ := id V194
          obtain ⟨T199, h199, X199, e199, W199, st199⟩ := stI X182 hx hZ e182 Ar199 (j := (1 : Int32)) (inb_of Sz199 ⟨by decide, by decide⟩) (g := (mkF m 65 #[oR this, oI (0 : Int32), oI (0 : Int32)] [(.int (0 : Int32)), (.int (1 : Int32)), (.ref as0)])) rfl rfl (hb hby d3_65)
          refine own_via st199 ?_
          have E200 := E183.wr W199
          have F201 := F184.other W199 (Or.inl (own_neq (by omega)))
          have F202 := F185.other W199 (Or.inl (own_neq (by omega)))
          have F203 := F186.other W199 (Or.inl (own_neq (by omega)))
          have F204 := F187.other W199 (Or.inl (own_neq (by omega)))
          have F205 := F188.other W199 (Or.inl (own_neq (by omega)))
          have V206 := V189.other W199 (own_neq (by omega))
          have V207 := V190.other W199 (own_neq (by omega))
          have V208 := V191.other W199 (own_neq (by omega))
          have V209 := V192.other W199 (own_neq (by omega))
          have V210 := V193.other W199 (own_neq (by omega))
          have V211 := V195.other W199 (own_neq (by omega))
          have V212 := V198.other W199 (own_neq (by omega))
          have Zs213 : n0 ≤ h199.size := Nat.le_trans Zs196 (Keep.of_wr W199).1
          have N214 := Fr.snoc X199 N197 (show n0 ≤ as0 by omega)
          have V215 : Arv Z h199 as0 ck6 .int (2 : Int32) [(.int ws00), (.int (0 : Int32))] (.int (0 : Int32)) := Arv.set Ar199 kc199 Sz199 Nn199 Hs199 Gs199 rfl W199 1 (by first | decide | (show 1 < 2; decide)) (by first | decide | (show 1 < 2; decide))
          show own_Go p e below _ (T199.setTop (mkF m 66 #[oR this, oI (0 : Int32), oI (0 : Int32)] []))
          have hT : own_TC Z h199 n0 this (own_mk (1 : Int32) wm01 wm10 wm11 wt0 wt1 ws00 (0 : Int32) ws10 ws11 (2 : Int32) wc1 wn) := ⟨amo, am0, am1, ata, aso, as0, as1, aca, ck1, ck2, ck3, ck4, ck5, ck6, ck7, ck8, ⟨by omega, by omega, by omega, by omega, by omega, by omega, by omega, by omega, by omega⟩, E200, F201, F202, F203, F204, F205, V206, V207, V208, V209, V210, V215, V211, V212⟩
          obtain ⟨fs, hr, hrun, hended, hW, hsame⟩ := X199.leave (v := none) (fun _ => rfl)
          refine ⟨_, _, X199.returnOut hx Bd.returns (hb hby d3_66) hr, hrun, hended, _, _, rfl, ?_, ⟨_, rfl⟩, hW, hsame.mono (by decide) (by decide)⟩
          show Q3 Z this (0 : Int32) (0 : Int32) wm00 wm01 wm10 wm11 wt0 wt1 ws00 ws01 ws10 ws11 (1 : Int32) wc1 wn h0 n0 _ T199.heap _
          rw [e199]
          exact ⟨rfl, N214, Zs213, by unfold own_mark; rw [if_pos (by decide : (0 : Int32) = (0 : Int32)), if_pos (by decide : (0 : Int32) = (0 : Int32)), if_pos hc8_5, if_neg (by decide : ¬ ((1 : Int32) = (0 : Int32)))]; exact hT⟩
      · refine own_via (fun t kz => XS.ifNo X2.here hx rfl (hb hby d3_8) rfl ((if0 _ _).trans (feq hc8_5).1) kz) ?_
        show own_Go p e below _ (T2.setTop (mkF m 11 #[oR this, oI (0 : Int32), oI (0 : Int32)] []))
        have hT : own_TC Z h0 n0 this (own_mk wm00 wm01 wm10 wm11 wt0 wt1 ws00 ws01 ws10 ws11 wc0 wc1 wn) := ⟨amo, am0, am1, ata, aso, as0, as1, aca, ck1, ck2, ck3, ck4, ck5, ck6, ck7, ck8, ⟨by omega, by omega, by omega, by omega, by omega, by omega, by omega, by omega, by omega⟩, Eq, Fo0, Fo1, Fo2, Fo3, Fo4, Vo0, Vo1, Vo2, Vo3, Vo4, Vo5, Vo6, Vo7⟩
        obtain ⟨fs, hr, hrun, hended, hW, hsame⟩ := X2.leave (v := none) (fun _ => rfl)
        refine ⟨_, _, X2.returnOut hx Bd.returns (hb hby d3_11) hr, hrun, hended, _, _, rfl, ?_, ⟨_, rfl⟩, hW, hsame.mono (by decide) (by decide)⟩
        show Q3 Z this (0 : Int32) (0 : Int32) wm00 wm01 wm10 wm11 wt0 wt1 ws00 ws01 ws10 ws11 wc0 wc1 wn h0 n0 _ T2.heap _
        rw [e2]
        exact ⟨rfl, N0, Z0, by unfold own_mark; rw [if_pos (by decide : (0 : Int32) = (0 : Int32)), if_pos (by decide : (0 : Int32) = (0 : Int32)), if_neg hc8_5]; exact hT⟩
    · show own_Go p e below _ (s₁.setTop (mkF m 0 #[oR this, oI (0 : Int32), oI (1 : Int32)] []))
      refine own_via (fun t kz => XS.aloadN X0.here hx rfl (hb hby d3_0) rfl rfl kz) ?_
      show own_Go p e below _ (s₁.setTop (mkF m 1 #[oR this, oI (0 : Int32), oI (1 : Int32)] [(.ref this)]))
      obtain ⟨T218, X218, e218, st218⟩ := getF X0 hx hZ hown (host := "") (Or.inl (own_w hw 12)) Via.refl e0 Fo0 (g := (mkF m 1 #[oR this, oI (0 : Int32), oI (1 : Int32)] [(.ref this)])) rfl rfl (hb hby d3_1)
      refine own_via st218 ?_
      show own_Go p e below _ (T218.setTop (mkF m 4 #[oR this, oI (0 : Int32), oI (1 : Int32)] [(.ref amo)]))
      refine own_via (fun t kz => XS.iloadN X218.here hx rfl (hb hby d3_4) rfl kz) ?_
      show own_Go p e below _ (T218.setTop (mkF m 5 #[oR this, oI (0 : Int32), oI (1 : Int32)] [(.int (0 : Int32)), (.ref amo)]))
      obtain ⟨cl219, Ar219, kc219, Sz219, Nn219, Hs219, Gs219⟩ := id Vo0
      have in219 := inb_of (j := (0 : Int32)) Sz219 ⟨by decide, by decide⟩
      have at219 : cl219.slots[((0 : Int32)).toNatClampNeg]? = some (.ref am0) := Hs219.at in219 rfl
      refine own_via (fun t kz => X218.aaload hx (j := (0 : Int32)) (v := (.ref am0)) (by rw [e218]; exact Ar219.1) (State.isArrayOf_alike hZ.alike Ar219.2.1) rfl Ar219.2.2 in219 at219 (g := (mkF m 5 #[oR this, oI (0 : Int32), oI (1 : Int32)] [(.int (0 : Int32)), (.ref amo)])) rfl rfl (hb hby d3_5) t kz) ?_
      show own_Go p e below _ (T218.setTop (mkF m 6 #[oR this, oI (0 : Int32), oI (1 : Int32)] [(.ref am0)]))
      refine own_via (fun t kz => XS.iloadN X218.here hx rfl (hb hby d3_6) rfl kz) ?_
      show own_Go p e below _ (T218.setTop (mkF m 7 #[oR this, oI (0 : Int32), oI (1 : Int32)] [(.int (1 : Int32)), (.ref am0)]))
      obtain ⟨cl220, Ar220, kc220, Sz220, Nn220, Hs220, Gs220⟩ := id Vo1
      have in220 := inb_of (j := (1 : Int32)) Sz220 ⟨by decide, by decide⟩
      have at220 : cl220.slots[((1 : Int32)).toNatClampNeg]? = some (.int wm01) := Hs220.at in220 rfl
      refine own_via (fun t kz => X218.baloadBooleans hx (j := (1 : Int32)) (v := (.int wm01)) (by rw [e218]; exact Ar220.1) (State.isArrayOf_alike hZ.alike Ar220.2.1) Ar220.2.2 in220 at220 (g := (mkF m 7 #[oR this, oI (0 : Int32), oI (1 : Int32)] [(.int (1 : Int32)), (.ref am0)])) rfl rfl (hb hby d3_7) t kz) ?_
      show own_Go p e below _ (T218.setTop (mkF m 8 #[oR this, oI (0 : Int32), oI (1 : Int32)] [(.int wm01)]))
      by_cases hc8_221 : wm01 = (0 : Int32)
      · refine own_via (fun t kz => XS.ifYes X218.here hx rfl (pc0 := 8) (pc' := 12) rfl (hb hby d3_8) rfl ((if0 _ _).trans (teq hc8_221).1) (by decide) (by decide) kz) ?_
        show own_Go p e below _ (T218.setTop (mkF m 12 #[oR this, oI (0 : Int32), oI (1 : Int32)] []))
        refine own_via (fun t kz => XS.aloadN X218.here hx rfl (hb hby d3_12) rfl rfl kz) ?_
        show own_Go p e below _ (T218.setTop (mkF m 13 #[oR this, oI (0 : Int32), oI (1 : Int32)] [(.ref this)]))
        obtain ⟨T222, X222, e222, st222⟩ := getF X218 hx hZ hown (host := "") (Or.inl (own_w hw 12)) Via.refl e218 Fo0 (g := (mkF m 13 #[oR this, oI (0 : Int32), oI (1 : Int32)] [(.ref this)])) rfl rfl (hb hby d3_13)
        refine own_via st222 ?_
        show own_Go p e below _ (T222.setTop (mkF m 16 #[oR this, oI (0 : Int32), oI (1 : Int32)] [(.ref amo)]))
        refine own_via (fun t kz => XS.iloadN X222.here hx rfl (hb hby d3_16) rfl kz) ?_
        show own_Go p e below _ (T222.setTop (mkF m 17 #[oR this, oI (0 : Int32), oI (1 : Int32)] [(.int (0 : Int32)), (.ref amo)]))
        obtain ⟨cl223, Ar223, kc223, Sz223, Nn223, Hs223, Gs223⟩ := id Vo0
        have in223 := inb_of (j := (0 : Int32)) Sz223 ⟨by decide, by decide⟩
        have at223 : cl223.slots[((0 : Int32)).toNatClampNeg]? = some (.ref am0) := Hs223.at in223 rfl
        refine own_via (fun t kz => X222.aaload hx (j := (0 : Int32)) (v := (.ref am0)) (by rw [e222]; exact Ar223.1) (State.isArrayOf_alike hZ.alike Ar223.2.1) rfl Ar223.2.2 in223 at223 (g := (mkF m 17 #[oR this, oI (0 : Int32), oI (1 : Int32)] [(.int (0 : Int32)), (.ref amo)])) rfl rfl (hb hby d3_17) t kz) ?_
        show own_Go p e below _ (T222.setTop (mkF m 18 #[oR this, oI (0 : Int32), oI (1 : Int32)] [(.ref am0)]))
        refine own_via (fun t kz => XS.iloadN X222.here hx rfl (hb hby d3_18) rfl kz) ?_
        show own_Go p e below _ (T222.setTop (mkF m 19 #[oR this, oI (0 : Int32), oI (1 : Int32)] [(.int (1 : Int32)), (.ref am0)]))
        refine own_via (fun t kz => XS.iconst X222.here hx rfl (hb hby d3_19) kz) ?_
        show own_Go p e below _ (T222.setTop (mkF m 20 #[oR this, oI (0 : Int32), oI (1 : Int32)] [(.int (1 : Int32)), (.int (1 : Int32)), (.ref am0)]))
        obtain ⟨cl224, Ar224, kc224, Sz224, Nn224, Hs224, Gs224⟩ := id Vo1
        obtain ⟨T224, h224, X224, e224, W224, st224⟩ := stZ X222 hx hZ e222 Ar224 (j := (1 : Int32)) (inb_of Sz224 ⟨by decide, by decide⟩) (g := (mkF m 20 #[oR this, oI (0 : Int32), oI (1 : Int32)] [(.int (1 : Int32)), (.int (1 : Int32)), (.ref am0)])) rfl rfl (hb hby d3_20)
        refine own_via st224 ?_
        have na224 : nar .boolean (1 : Int32) = (1 : Int32) := by decide
        rw [na224] at W224
        have E225 := Eq.wr W224
        have F226 := Fo0.other W224 (Or.inl (own_neq (by omega)))
        have F227 := Fo1.other W224 (Or.inl (own_neq (by omega)))
        have F228 := Fo2.other W224 (Or.inl (own_neq (by omega)))
        have F229 := Fo3.other W224 (Or.inl (own_neq (by omega)))
        have F230 := Fo4.other W224 (Or.inl (own_neq (by omega)))
        have V231 := Vo0.other W224 (own_neq (by omega))
        have V232 := Vo2.other W224 (own_neq (by omega))
        have V233 := Vo3.other W224 (own_neq (by omega))
        have V234 := Vo4.other W224 (own_neq (by omega))
        have V235 := Vo5.other W224 (own_neq (by omega))
        have V236 := Vo6.other W224 (own_neq (by omega))
        have V237 := Vo7.other W224 (own_neq (by omega))
        have Zs238 : n0 ≤ h224.size := Nat.le_trans Z0 (Keep.of_wr W224).1
        have N239 := Fr.snoc X224 N0 (show n0 ≤ am0 by omega)
        have V240 : Arv Z h224 am0 ck2 .boolean (2 : Int32) [(.int wm00), (.int (1 : Int32))] (.int (0 : Int32)) := Arv.set Ar224 kc224 Sz224 Nn224 Hs224 Gs224 (by rw [← na224]; first | exact fits_nar_char _ | exact fits_nar_bool _ | exact fits_nar_byte _) W224 1 (by first | decide | (show 1 < 2; decide)) (by first | decide | (show 1 < 2; decide))
        show own_Go p e below _ (T224.setTop (mkF m 21 #[oR this, oI (0 : Int32), oI (1 : Int32)] []))
        refine own_via (fun t kz => XS.aloadN X224.here hx rfl (hb hby d3_21) rfl rfl kz) ?_
        show own_Go p e below _ (T224.setTop (mkF m 22 #[oR this, oI (0 : Int32), oI (1 : Int32)] [(.ref this)]))
        obtain ⟨T241, X241, e241, st241⟩ := getF X224 hx hZ hown (host := "") (Or.inl (own_w hw 21)) Via.refl e224 F229 (g := (mkF m 22 #[oR this, oI (0 : Int32), oI (1 : Int32)] [(.ref this)])) rfl rfl (hb hby d3_22)
        refine own_via st241 ?_
        show own_Go p e below _ (T241.setTop (mkF m 25 #[oR this, oI (0 : Int32), oI (1 : Int32)] [(.ref aca)]))
        refine own_via (fun t kz => XS.iloadN X241.here hx rfl (hb hby d3_25) rfl kz) ?_
        show own_Go p e below _ (T241.setTop (mkF m 26 #[oR this, oI (0 : Int32), oI (1 : Int32)] [(.int (0 : Int32)), (.ref aca)]))
        obtain ⟨cl242, Ar242, kc242, Sz242, Nn242, Hs242, Gs242⟩ := id V237
        have in242 := inb_of (j := (0 : Int32)) Sz242 ⟨by decide, by decide⟩
        have at242 : cl242.slots[((0 : Int32)).toNatClampNeg]? = some (.int wc0) := Hs242.at in242 rfl
        refine own_via (fun t kz => X241.iaload hx (j := (0 : Int32)) (v := (.int wc0)) (by rw [e241]; exact Ar242.1) (State.isArrayOf_alike hZ.alike Ar242.2.1) Ar242.2.2 in242 at242 (g := (mkF m 26 #[oR this, oI (0 : Int32), oI (1 : Int32)] [(.int (0 : Int32)), (.ref aca)])) rfl rfl (hb hby d3_26) t kz) ?_
        show own_Go p e below _ (T241.setTop (mkF m 27 #[oR this, oI (0 : Int32), oI (1 : Int32)] [(.int wc0)]))
        by_cases hc27_243 : wc0 = (0 : Int32)
        · refine own_via (fun t kz => XS.ifNo X241.here hx rfl (hb hby d3_27) rfl ((if0 _ _).trans (teq hc27_243).2) kz) ?_
          have hq1 : wc0 = 0 ∨ wc0 = 1 := by first | exact hok1 hc8_221 | simpa [own_pick, own_pick1, hc8_221] using hok1
          have hq2 : wc0 = 0 → wn = 0 ∨ wn = 1 := by first | exact hok2 hc8_221 | simpa [own_pick, own_pick1, hc8_221] using hok2
          have hq3 := hq2 hc27_243
          subst hc27_243
          rcases hq3 with rfl | rfl
          · show own_Go p e below _ (T241.setTop (mkF m 30 #[oR this, oI (0 : Int32), oI (1 : Int32)] []))
            refine own_via (fun t kz => XS.aloadN X241.here hx rfl (hb hby d3_30) rfl rfl kz) ?_
            show own_Go p e below _ (T241.setTop (mkF m 31 #[oR this, oI (0 : Int32), oI (1 : Int32)] [(.ref this)]))
            obtain ⟨T244, X244, e244, st244⟩ := getF X241 hx hZ hown (host := "") (Or.inl (own_w hw 15)) Via.refl e241 F227 (g := (mkF m 31 #[oR this, oI (0 : Int32), oI (1 : Int32)] [(.ref this)])) rfl rfl (hb hby d3_31)
            refine own_via st244 ?_
            show own_Go p e below _ (T244.setTop (mkF m 34 #[oR this, oI (0 : Int32), oI (1 : Int32)] [(.ref ata)]))
            refine own_via (fun t kz => XS.aloadN X244.here hx rfl (hb hby d3_34) rfl rfl kz) ?_
            show own_Go p e below _ (T244.setTop (mkF m 35 #[oR this, oI (0 : Int32), oI (1 : Int32)] [(.ref this), (.ref ata)]))
            refine own_via (fun t kz => XS.dup X244.here hx rfl (hb hby d3_35) rfl rfl kz) ?_
            show own_Go p e below _ (T244.setTop (mkF m 36 #[oR this, oI (0 : Int32), oI (1 : Int32)] [(.ref this), (.ref this), (.ref ata)]))
            obtain ⟨T245, X245, e245, st245⟩ := getF X244 hx hZ hown (host := "") (Or.inl (own_w hw 28)) Via.refl e244 F230 (g := (mkF m 36 #[oR this, oI (0 : Int32), oI (1 : Int32)] [(.ref this), (.ref this), (.ref ata)])) rfl rfl (hb hby d3_36)
            refine own_via st245 ?_
            show own_Go p e below _ (T245.setTop (mkF m 39 #[oR this, oI (0 : Int32), oI (1 : Int32)] [(.int (0 : Int32)), (.ref this), (.ref ata)]))
            refine own_via (fun t kz => XS.dupX1 X245.here hx rfl (hb hby d3_39) rfl rfl rfl kz) ?_
            show own_Go p e below _ (T245.setTop (mkF m 40 #[oR this, oI (0 : Int32), oI (1 : Int32)] [(.int (0 : Int32)), (.ref this), (.int (0 : Int32)), (.ref ata)]))
            refine own_via (fun t kz => XS.iconst X245.here hx rfl (hb hby d3_40) kz) ?_
            show own_Go p e below _ (T245.setTop (mkF m 41 #[oR this, oI (0 : Int32), oI (1 : Int32)] [(.int (1 : Int32)), (.int (0 : Int32)), (.ref this), (.int (0 : Int32)), (.ref ata)]))
            refine own_via (fun t kz => XS.iadd X245.here hx rfl (hb hby d3_41) rfl kz) ?_
            show own_Go p e below _ (T245.setTop (mkF m 42 #[oR this, oI (0 : Int32), oI (1 : Int32)] [(.int (1 : Int32)), (.ref this), (.int (0 : Int32)), (.ref ata)]))
            obtain ⟨T246, h246, X246, e246, W246, st246⟩ := putF X245 hx hZ hown (host := "") (Or.inl (own_w hw 28)) Via.refl e245 F230 E225 (Or.inl (own_w hw 29)) (own_w hw 1) (ty := .int) (by decide) rfl rfl (g := (mkF m 42 #[oR this, oI (0 : Int32), oI (1 : Int32)] [(.int (1 : Int32)), (.ref this), (.int (0 : Int32)), (.ref ata)])) rfl rfl (hb hby d3_42)
            refine own_via st246 ?_
            have E247 := E225.wr W246
            have F248 := F226.other W246 (Or.inr (slot_ne (Or.inr (own_w hw 13)) (Or.inl (own_w hw 29)) (by decide) (t := (.array (.array .boolean))) (t' := .int) (by decide) (by decide)))
            have F249 := F227.other W246 (Or.inr (slot_ne (Or.inr (own_w hw 16)) (Or.inl (own_w hw 29)) (by decide) (t := (.array .int)) (t' := .int) (by decide) (by decide)))
            have F250 := F228.other W246 (Or.inr (slot_ne (Or.inr (own_w hw 20)) (Or.inl (own_w hw 29)) (by decide) (t := (.array (.array .int))) (t' := .int) (by decide) (by decide)))
            have F251 := F229.other W246 (Or.inr (slot_ne (Or.inr (own_w hw 22)) (Or.inl (own_w hw 29)) (by decide) (t := (.array .int)) (t' := .int) (by decide) (by decide)))
            have F252 := F230.same W246
            have V253 := V231.other W246 (own_neq (by omega))
            have V254 := V240.other W246 (own_neq (by omega))
            have V255 := V232.other W246 (own_neq (by omega))
            have V256 := V233.other W246 (own_neq (by omega))
            have V257 := V234.other W246 (own_neq (by omega))
            have V258 := V235.other W246 (own_neq (by omega))
            have V259 := V236.other W246 (own_neq (by omega))
            have V260 := V237.other W246 (own_neq (by omega))
            have Zs261 : n0 ≤ h246.size := Nat.le_trans Zs238 (Keep.of_wr W246).1
            have N262 := Fr.snoc X246 N239 (show n0 ≤ this by omega)
            show own_Go p e below _ (T246.setTop (mkF m 45 #[oR this, oI (0 : Int32), oI (1 : Int32)] [(.int (0 : Int32)), (.ref ata)]))
            refine own_via (fun t kz => XS.iloadN X246.here hx rfl (hb hby d3_45) rfl kz) ?_
            show own_Go p e below _ (T246.setTop (mkF m 46 #[oR this, oI (0 : Int32), oI (1 : Int32)] [(.int (0 : Int32)), (.int (0 : Int32)), (.ref ata)]))
            obtain ⟨cl263, Ar263, kc263, Sz263, Nn263, Hs263, Gs263⟩ := id V256
            obtain ⟨T263, h263, X263, e263, W263, st263⟩ := stI X246 hx hZ e246 Ar263 (j := (0 : Int32)) (inb_of Sz263 ⟨by decide, by decide⟩) (g := (mkF m 46 #[oR this, oI (0 : Int32), oI (1 : Int32)] [(.int (0 : Int32)), (.int (0 : Int32)), (.ref ata)])) rfl rfl (hb hby d3_46)
            refine own_via st263 ?_
            have E264 := E247.wr W263
            have F265 := F248.other W263 (Or.inl (own_neq (by omega)))
            have F266 := F249.other W263 (Or.inl (own_neq (by omega)))
            have F267 := F250.other W263 (Or.inl (own_neq (by omega)))
            have F268 := F251.other W263 (Or.inl (own_neq (by omega)))
            have F269 := F252.other W263 (Or.inl (own_neq (by omega)))
            have V270 := V253.other W263 (own_neq (by omega))
            have V271 := V254.other W263 (own_neq (by omega))
            have V272 := V255.other W263 (own_neq (by omega))
            have V273 := V257.other W263 (own_neq (by omega))
            have V274 := V258.other W263 (own_neq (by omega))
            have V275 := V259.other W263 (own_neq (by omega))
            have V276 := V260.other W263 (own_neq (by omega))
            have Zs277 : n0 ≤ h263.size := Nat.le_trans Zs261 (Keep.of_wr W263).1
            have N278 := Fr.snoc X263 N262 (show n0 ≤ ata by omega)
            have V279 : Arv Z h263 ata ck4 .int (2 : Int32) [(.int (0 : Int32)), (.int wt1)] (.int (0 : Int32)) := Arv.set Ar263 kc263 Sz263 Nn263 Hs263 Gs263 rfl W263 0 (by first | decide | (show 0 < 2; decide)) (by first | decide | (show 0 < 2; decide))
            show own_Go p e below _ (T263.setTop (mkF m 47 #[oR this, oI (0 : Int32), oI (1 : Int32)] []))
            refine own_via (fun t kz => XS.aloadN X263.here hx rfl (hb hby d3_47) rfl rfl kz) ?_
            show own_Go p e below _ (T263.setTop (mkF m 48 #[oR this, oI (0 : Int32), oI (1 : Int32)] [(.ref this)]))
            obtain ⟨T280, X280, e280, st280⟩ := getF X263 hx hZ hown (host := "") (Or.inl (own_w hw 19)) Via.refl e263 F267 (g := (mkF m 48 #[oR this, oI (0 : Int32), oI (1 : Int32)] [(.ref this)])) rfl rfl (hb hby d3_48)
            refine own_via st280 ?_
            show own_Go p e below _ (T280.setTop (mkF m 51 #[oR this, oI (0 : Int32), oI (1 : Int32)] [(.ref aso)]))
            refine own_via (fun t kz => XS.iloadN X280.here hx rfl (hb hby d3_51) rfl kz) ?_
            show own_Go p e below _ (T280.setTop (mkF m 52 #[oR this, oI (0 : Int32), oI (1 : Int32)] [(.int (0 : Int32)), (.ref aso)]))
            obtain ⟨cl281, Ar281, kc281, Sz281, Nn281, Hs281, Gs281⟩ := id V273
            have in281 := inb_of (j := (0 : Int32)) Sz281 ⟨by decide, by decide⟩
            have at281 : cl281.slots[((0 : Int32)).toNatClampNeg]? = some (.ref as0) := Hs281.at in281 rfl
            refine own_via (fun t kz => X280.aaload hx (j := (0 : Int32)) (v := (.ref as0)) (by rw [e280]; exact Ar281.1) (State.isArrayOf_alike hZ.alike Ar281.2.1) rfl Ar281.2.2 in281 at281 (g := (mkF m 52 #[oR this, oI (0 : Int32), oI (1 : Int32)] [(.int (0 : Int32)), (.ref aso)])) rfl rfl (hb hby d3_52) t kz) ?_
            show own_Go p e below _ (T280.setTop (mkF m 53 #[oR this, oI (0 : Int32), oI (1 : Int32)] [(.ref as0)]))
            refine own_via (fun t kz => XS.aloadN X280.here hx rfl (hb hby d3_53) rfl rfl kz) ?_
            show own_Go p e below _ (T280.setTop (mkF m 54 #[oR this, oI (0 : Int32), oI (1 : Int32)] [(.ref this), (.ref as0)]))
            obtain ⟨T282, X282, e282, st282⟩ := getF X280 hx hZ hown (host := "") (Or.inl (own_w hw 21)) Via.refl e280 F268 (g := (mkF m 54 #[oR this, oI (0 : Int32), oI (1 : Int32)] [(.ref this), (.ref as0)])) rfl rfl (hb hby d3_54)
            refine own_via st282 ?_
            show own_Go p e below _ (T282.setTop (mkF m 57 #[oR this, oI (0 : Int32), oI (1 : Int32)] [(.ref aca), (.ref as0)]))
            refine own_via (fun t kz => XS.iloadN X282.here hx rfl (hb hby d3_57) rfl kz) ?_
            show own_Go p e below _ (T282.setTop (mkF m 58 #[oR this, oI (0 : Int32), oI (1 : Int32)] [(.int (0 : Int32)), (.ref aca), (.ref as0)]))
            refine own_via (fun t kz => XT.dup2 X282.here hx rfl (hb hby d3_58) rfl rfl rfl kz) ?_
            show own_Go p e below _ (T282.setTop (mkF m 59 #[oR this, oI (0 : Int32), oI (1 : Int32)] [(.int (0 : Int32)), (.ref aca), (.int (0 : Int32)), (.ref aca), (.ref as0)]))
            obtain ⟨cl283, Ar283, kc283, Sz283, Nn283, Hs283, Gs283⟩ := id V276
            have in283 := inb_of (j := (0 : Int32)) Sz283 ⟨by decide, by decide⟩
            have at283 : cl283.slots[((0 : Int32)).toNatClampNeg]? = some (.int (0 : Int32)) := Hs283.at in283 rfl
            refine own_via (fun t kz => X282.iaload hx (j := (0 : Int32)) (v := (.int (0 : Int32))) (by rw [e282]; exact Ar283.1) (State.isArrayOf_alike hZ.alike Ar283.2.1) Ar283.2.2 in283 at283 (g := (mkF m 59 #[oR this, oI (0 : Int32), oI (1 : Int32)] [(.int (0 : Int32)), (.ref aca), (.int (0 : Int32)), (.ref aca), (.ref as0)])) rfl rfl (hb hby d3_59) t kz) ?_
            show own_Go p e below _ (T282.setTop (mkF m 60 #[oR this, oI (0 : Int32), oI (1 : Int32)] [(.int (0 : Int32)), (.int (0 : Int32)), (.ref aca), (.ref as0)]))
            refine own_via (fun t kz => own_dupX2 X282.here hx rfl (hb hby d3_60) rfl rfl rfl rfl kz) ?_
            show own_Go p e below _ (T282.setTop (mkF m 61 #[oR this, oI (0 : Int32), oI (1 : Int32)] [(.int (0 : Int32)), (.int (0 : Int32)), (.ref aca), (.int (0 : Int32)), (.ref as0)]))
            refine own_via (fun t kz => XS.iconst X282.here hx rfl (hb hby d3_61) kz) ?_
            show own_Go p e below _ (T282.setTop (mkF m 62 #[oR this, oI (0 : Int32), oI (1 : Int32)] [(.int (1 : Int32)), (.int (0 : Int32)), (.int (0 : Int32)), (.ref aca), (.int (0 : Int32)), (.ref as0)]))
            refine own_via (fun t kz => XS.iadd X282.here hx rfl (hb hby d3_62) rfl kz) ?_
            show own_Go p e below _ (T282.setTop (mkF m 63 #[oR this, oI (0 : Int32), oI (1 : Int32)] [(.int (1 : Int32)), (.int (0 : Int32)), (.ref aca), (.int (0 : Int32)), (.ref as0)]))
            obtain ⟨cl284, Ar284, kc284, Sz284, Nn284, Hs284, Gs284⟩ := id V276
            obtain ⟨T284, h284, X284, e284, W284, st284⟩ := stI X282 hx hZ e282 Ar284 (j := (0 : Int32)) (inb_of Sz284 ⟨by decide, by decide⟩) (g := (mkF m 63 #[oR this, oI (0 : Int32), oI (1 : Int32)] [(.int (1 : Int32)), (.int (0 : Int32)), (.ref aca), (.int (0 : Int32)), (.ref as0)])) rfl rfl (hb hby d3_63)
            refine own_via st284 ?_
            have E285 := E264.wr W284
            have F286 := F265.other W284 (Or.inl (own_neq (by omega)))
            have F287 := F266.other W284 (Or.inl (own_neq (by omega)))
            have F288 := F267.other W284 (Or.inl (own_neq (by omega)))
            have F289 := F268.other W284 (Or.inl (own_neq (by omega)))
            have F290 := F269.other W284 (Or.inl (own_neq (by omega)))
            have V291 := V270.other W284 (own_neq (by omega))
            have V292 := V271.other W284 (own_neq (by omega))
            have V293 := V272.other W284 (own_neq (by omega))
            have V294 := V279.other W284 (own_neq (by omega))
            have V295 := V273.other W284 (own_neq (by omega))
            have V296 := V274.other W284 (own_neq (by omega))
            have V297 := V275.other W284 (own_neq (by omega))
            have Zs298 : n0 ≤ h284.size := Nat.le_trans Zs277 (Keep.of_wr W284).1
            have N299 := Fr.snoc X284 N278 (show n0 ≤ aca by omega)
            have V300 : Arv Z h284 aca ck8 .int (2 : Int32) [(.int (1 : Int32)), (.int wc1)] (.int (0 : Int32)) := Arv.set Ar284 kc284 Sz284 Nn284 Hs284 Gs284 rfl W284 0 (by first | decide | (show 0 < 2; decide)) (by first | decide | (show 0 < 2; decide))
            show own_Go p e below _ (T284.setTop (mkF m 64 #[oR this, oI (0 : Int32), oI (1 : Int32)] [(.int (0 : Int32)), (.ref as0)]))
            refine own_via (fun t kz => XS.iloadN X284.here hx rfl (hb hby d3_64) rfl kz) ?_
            show own_Go p e below _ (T284.setTop (mkF m 65 #[oR this, oI (0 : Int32), oI (1 : Int32)] [(.int (1 : Int32)), (.int (0 : Int32)), (.ref as0)]))
            obtain ⟨cl301, Ar301, kc301, Sz301, Nn301, Hs301, Gs301⟩ := id V296
            obtain ⟨T301, h301, X301, e301, W301, st301⟩ := stI X284 hx hZ e284 Ar301 (j := (0 : Int32)) (inb_of Sz301 ⟨by decide, by decide⟩) (g := (mkF m 65 #[oR this, oI (0 : Int32), oI (1 : Int32)] [(.int (1 : Int32)), (.int (0 : Int32)), (.ref as0)])) rfl rfl (hb hby d3_65)
            refine own_via st301 ?_
            have E302 := E285.wr W301
            have F303 := F286.other W301 (Or.inl (own_neq (by omega)))
            have F304 := F287.other W301 (Or.inl (own_neq (by omega)))
            have F305 := F288.other W301 (Or.inl (own_neq (by omega)))
            have F306 := F289.other W301 (Or.inl (own_neq (by omega)))
            have F307 := F290.other W301 (Or.inl (own_neq (by omega)))
            have V308 := V291.other W301 (own_neq (by omega))
            have V309 := V292.other W301 (own_neq (by omega))
            have V310 := V293.other W301 (own_neq (by omega))
            have V311 := V294.other W301 (own_neq (by omega))
            have V312 := V295.other W301 (own_neq (by omega))
            have V313 := V297.other W301 (own_neq (by omega))
            have V314 := V300.other W301 (own_neq (by omega))
            have Zs315 : n0 ≤ h301.size := Nat.le_trans Zs298 (Keep.of_wr W301).1
            have N316 := Fr.snoc X301 N299 (show n0 ≤ as0 by omega)
            have V317 : Arv Z h301 as0 ck6 .int (2 : Int32) [(.int (1 : Int32)), (.int ws01)] (.int (0 : Int32)) := Arv.set Ar301 kc301 Sz301 Nn301 Hs301 Gs301 rfl W301 0 (by first | decide | (show 0 < 2; decide)) (by first | decide | (show 0 < 2; decide))
            show own_Go p e below _ (T301.setTop (mkF m 66 #[oR this, oI (0 : Int32), oI (1 : Int32)] []))
            have hT : own_TC Z h301 n0 this (own_mk wm00 (1 : Int32) wm10 wm11 (0 : Int32) wt1 (1 : Int32) ws01 ws10 ws11 (1 : Int32) wc1 (1 : Int32)) := ⟨amo, am0, am1, ata, aso, as0, as1, aca, ck1, ck2, ck3, ck4, ck5, ck6, ck7, ck8, ⟨by omega, by omega, by omega, by omega, by omega, by omega, by omega, by omega, by omega⟩, E302, F303, F304, F305, F306, F307, V308, V309, V310, V311, V312, V317, V313, V314⟩
            obtain ⟨fs, hr, hrun, hended, hW, hsame⟩ := X301.leave (v := none) (fun _ => rfl)
            refine ⟨_, _, X301.returnOut hx Bd.returns (hb hby d3_66) hr, hrun, hended, _, _, rfl, ?_, ⟨_, rfl⟩, hW, hsame.mono (by decide) (by decide)⟩
            show Q3 Z this (0 : Int32) (1 : Int32) wm00 wm01 wm10 wm11 wt0 wt1 ws00 ws01 ws10 ws11 (0 : Int32) wc1 (0 : Int32) h0 n0 _ T301.heap _
            rw [e301]
            exact ⟨rfl, N316, Zs315, by unfold own_mark; rw [if_pos (by decide : (0 : Int32) = (0 : Int32)), if_neg (by decide : ¬ ((1 : Int32) = (0 : Int32))), if_pos hc8_221, if_pos (by decide : (0 : Int32) = (0 : Int32)), if_pos (by decide : (0 : Int32) = (0 : Int32))]; exact hT⟩
          · show own_Go p e below _ (T241.setTop (mkF m 30 #[oR this, oI (0 : Int32), oI (1 : Int32)] []))
            refine own_via (fun t kz => XS.aloadN X241.here hx rfl (hb hby d3_30) rfl rfl kz) ?_
            show own_Go p e below _ (T241.setTop (mkF m 31 #[oR this, oI (0 : Int32), oI (1 : Int32)] [(.ref this)]))
            obtain ⟨T319, X319, e319, st319⟩ := getF X241 hx hZ hown (host := "") (Or.inl (own_w hw 15)) Via.refl e241 F227 (g := (mkF m 31 #[oR this, oI (0 : Int32), oI (1 : Int32)] [(.ref this)])) rfl rfl (hb hby d3_31)
            refine own_via st319 ?_
            show own_Go p e below _ (T319.setTop (mkF m 34 #[oR this, oI (0 : Int32), oI (1 : Int32)] [(.ref ata)]))
            refine own_via (fun t kz => XS.aloadN X319.here hx rfl (hb hby d3_34) rfl rfl kz) ?_
            show own_Go p e below _ (T319.setTop (mkF m 35 #[oR this, oI (0 : Int32), oI (1 : Int32)] [(.ref this), (.ref ata)]))
            refine own_via (fun t kz => XS.dup X319.here hx rfl (hb hby d3_35) rfl rfl kz) ?_
            show own_Go p e below _ (T319.setTop (mkF m 36 #[oR this, oI (0 : Int32), oI (1 : Int32)] [(.ref this), (.ref this), (.ref ata)]))
            obtain ⟨T320, X320, e320, st320⟩ := getF X319 hx hZ hown (host := "") (Or.inl (own_w hw 28)) Via.refl e319 F230 (g := (mkF m 36 #[oR this, oI (0 : Int32), oI (1 : Int32)] [(.ref this), (.ref this), (.ref ata)])) rfl rfl (hb hby d3_36)
            refine own_via st320 ?_
            show own_Go p e below _ (T320.setTop (mkF m 39 #[oR this, oI (0 : Int32), oI (1 : Int32)] [(.int (1 : Int32)), (.ref this), (.ref ata)]))
            refine own_via (fun t kz => XS.dupX1 X320.here hx rfl (hb hby d3_39) rfl rfl rfl kz) ?_
            show own_Go p e below _ (T320.setTop (mkF m 40 #[oR this, oI (0 : Int32), oI (1 : Int32)] [(.int (1 : Int32)), (.ref this), (.int (1 : Int32)), (.ref ata)]))
            refine own_via (fun t kz => XS.iconst X320.here hx rfl (hb hby d3_40) kz) ?_
            show own_Go p e below _ (T320.setTop (mkF m 41 #[oR this, oI (0 : Int32), oI (1 : Int32)] [(.int (1 : Int32)), (.int (1 : Int32)), (.ref this), (.int (1 : Int32)), (.ref ata)]))
            refine own_via (fun t kz => XS.iadd X320.here hx rfl (hb hby d3_41) rfl kz) ?_
            show own_Go p e below _ (T320.setTop (mkF m 42 #[oR this, oI (0 : Int32), oI (1 : Int32)] [(.int (2 : Int32)), (.ref this), (.int (1 : Int32)), (.ref ata)]))
            obtain ⟨T321, h321, X321, e321, W321, st321⟩ := putF X320 hx hZ hown (host := "") (Or.inl (own_w hw 28)) Via.refl e320 F230 E225 (Or.inl (own_w hw 29)) (own_w hw 1) (ty := .int) (by decide) rfl rfl (g := (mkF m 42 #[oR this, oI (0 : Int32), oI (1 : Int32)] [(.int (2 : Int32)), (.ref this), (.int (1 : Int32)), (.ref ata)])) rfl rfl (hb hby d3_42)
            refine own_via st321 ?_
            have E322 := E225.wr W321
            have F323 := F226.other W321 (Or.inr (slot_ne (Or.inr (own_w hw 13)) (Or.inl (own_w hw 29)) (by decide) (t := (.array (.array .boolean))) (t' := .int) (by decide) (by decide)))
            have F324 := F227.other W321 (Or.inr (slot_ne (Or.inr (own_w hw 16)) (Or.inl (own_w hw 29)) (by decide) (t := (.array .int)) (t' := .int) (by decide) (by decide)))
            have F325 := F228.other W321 (Or.inr (slot_ne (Or.inr (own_w hw 20)) (Or.inl (own_w hw 29)) (by decide) (t := (.array (.array .int))) (t' := .int) (by decide) (by decide)))
            have F326 := F229.other W321 (Or.inr (slot_ne (Or.inr (own_w hw 22)) (Or.inl (own_w hw 29)) (by decide) (t := (.array .int)) (t' := .int) (by decide) (by decide)))
            have F327 := F230.same W321
            have V328 := V231.other W321 (own_neq (by omega))
            have V329 := V240.other W321 (own_neq (by omega))
            have V330 := V232.other W321 (own_neq (by omega))
            have V331 := V233.other W321 (own_neq (by omega))
            have V332 := V234.other W321 (own_neq (by omega))
            have V333 := V235.other W321 (own_neq (by omega))
            have V334 := V236.other W321 (own_neq (by omega))
            have V335 := V237.other W321 (own_neq (by omega))
            have Zs336 : n0 ≤ h321.size := Nat.le_trans Zs238 (Keep.of_wr W321).1
            have N337 := Fr.snoc X321 N239 (show n0 ≤ this by omega)
            show own_Go p e below _ (T321.setTop (mkF m 45 #[oR this, oI (0 : Int32), oI (1 : Int32)] [(.int (1 : Int32)), (.ref ata)]))
            refine own_via (fun t kz => XS.iloadN X321.here hx rfl (hb hby d3_45) rfl kz) ?_
            show own_Go p e below _ (T321.setTop (mkF m 46 #[oR this, oI (0 : Int32), oI (1 : Int32)] [(.int (0 : Int32)), (.int (1 : Int32)), (.ref ata)]))
            obtain ⟨cl338, Ar338, kc338, Sz338, Nn338, Hs338, Gs338⟩ := id V331
            obtain ⟨T338, h338, X338, e338, W338, st338⟩ := stI X321 hx hZ e321 Ar338 (j := (1 : Int32)) (inb_of Sz338 ⟨by decide, by decide⟩) (g := (mkF m 46 #[oR this, oI (0 : Int32), oI (1 : Int32)] [(.int (0 : Int32)), (.int (1 : Int32)), (.ref ata)])) rfl rfl (hb hby d3_46)
            refine own_via st338 ?_
            have E339 := E322.wr W338
            have F340 := F323.other W338 (Or.inl (own_neq (by omega)))
            have F341 := F324.other W338 (Or.inl (own_neq (by omega)))
            have F342 := F325.other W338 (Or.inl (own_neq (by omega)))
            have F343 := F326.other W338 (Or.inl (own_neq (by omega)))
            have F344 := F327.other W338 (Or.inl (own_neq (by omega)))
            have V345 := V328.other W338 (own_neq (by omega))
            have V346 := V329.other W338 (own_neq (by omega))
            have V347 := V330.other W338 (own_neq (by omega))
            have V348 := V332.other W338 (own_neq (by omega))
            have V349 := V333.other W338 (own_neq (by omega))
            have V350 := V334.other W338 (own_neq (by omega))
            have V351 := V335.other W338 (own_neq (by omega))
            have Zs352 : n0 ≤ h338.size := Nat.le_trans Zs336 (Keep.of_wr W338).1
            have N353 := Fr.snoc X338 N337 (show n0 ≤ ata by omega)
            have V354 : Arv Z h338 ata ck4 .int (2 : Int32) [(.int wt0), (.int (0 : Int32))] (.int (0 : Int32)) := Arv.set Ar338 kc338 Sz338 Nn338 Hs338 Gs338 rfl W338 1 (by first | decide | (show 1 < 2; decide)) (by first | decide | (show 1 < 2; decide))
            show own_Go p e below _ (T338.setTop (mkF m 47 #[oR this, oI (0 : Int32), oI (1 : Int32)] []))
            refine own_via (fun t kz => XS.aloadN X338.here hx rfl (hb hby d3_47) rfl rfl kz) ?_
            show own_Go p e below _ (T338.setTop (mkF m 48 #[oR this, oI (0 : Int32), oI (1 : Int32)] [(.ref this)]))
            obtain ⟨T355, X355, e355, st355⟩ := getF X338 hx hZ hown (host := "") (Or.inl (own_w hw 19)) Via.refl e338 F342 (g := (mkF m 48 #[oR this, oI (0 : Int32), oI (1 : Int32)] [(.ref this)])) rfl rfl (hb hby d3_48)
            refine own_via st355 ?_
            show own_Go p e below _ (T355.setTop (mkF m 51 #[oR this, oI (0 : Int32), oI (1 : Int32)] [(.ref aso)]))
            refine own_via (fun t kz => XS.iloadN X355.here hx rfl (hb hby d3_51) rfl kz) ?_
            show own_Go p e below _ (T355.setTop (mkF m 52 #[oR this, oI (0 : Int32), oI (1 : Int32)] [(.int (0 : Int32)), (.ref aso)]))
            obtain ⟨cl356, Ar356, kc356, Sz356, Nn356, Hs356, Gs356⟩ := id V348
            have in356 := inb_of (j := (0 : Int32)) Sz356 ⟨by decide, by decide⟩
            have at356 : cl356.slots[((0 : Int32)).toNatClampNeg]? = some (.ref as0) := Hs356.at in356 rfl
            refine own_via (fun t kz => X355.aaload hx (j := (0 : Int32)) (v := (.ref as0)) (by rw [e355]; exact Ar356.1) (State.isArrayOf_alike hZ.alike Ar356.2.1) rfl Ar356.2.2 in356 at356 (g := (mkF m 52 #[oR this, oI (0 : Int32), oI (1 : Int32)] [(.int (0 : Int32)), (.ref aso)])) rfl rfl (hb hby d3_52) t kz) ?_
            show own_Go p e below _ (T355.setTop (mkF m 53 #[oR this, oI (0 : Int32), oI (1 : Int32)] [(.ref as0)]))
            refine own_via (fun t kz => XS.aloadN X355.here hx rfl (hb hby d3_53) rfl rfl kz) ?_
            show own_Go p e below _ (T355.setTop (mkF m 54 #[oR this, oI (0 : Int32), oI (1 : Int32)] [(.ref this), (.ref as0)]))
            obtain ⟨T357, X357, e357, st357⟩ := getF X355 hx hZ hown (host := "") (Or.inl (own_w hw 21)) Via.refl e355 F343 (g := (mkF m 54 #[oR this, oI (0 : Int32), oI (1 : Int32)] [(.ref this), (.ref as0)])) rfl rfl (hb hby d3_54)
            refine own_via st357 ?_
            show own_Go p e below _ (T357.setTop (mkF m 57 #[oR this, oI (0 : Int32), oI (1 : Int32)] [(.ref aca), (.ref as0)]))
            refine own_via (fun t kz => XS.iloadN X357.here hx rfl (hb hby d3_57) rfl kz) ?_
            show own_Go p e below _ (T357.setTop (mkF m 58 #[oR this, oI (0 : Int32), oI (1 : Int32)] [(.int (0 : Int32)), (.ref aca), (.ref as0)]))
            refine own_via (fun t kz => XT.dup2 X357.here hx rfl (hb hby d3_58) rfl rfl rfl kz) ?_
            show own_Go p e below _ (T357.setTop (mkF m 59 #[oR this, oI (0 : Int32), oI (1 : Int32)] [(.int (0 : Int32)), (.ref aca), (.int (0 : Int32)), (.ref aca), (.ref as0)]))
            obtain ⟨cl358, Ar358, kc358, Sz358, Nn358, Hs358, Gs358⟩ := id V351
            have in358 := inb_of (j := (0 : Int32)) Sz358 ⟨by decide, by decide⟩
            have at358 : cl358.slots[((0 : Int32)).toNatClampNeg]? = some (.int (0 : Int32)) := Hs358.at in358 rfl
            refine own_via (fun t kz => X357.iaload hx (j := (0 : Int32)) (v := (.int (0 : Int32))) (by rw [e357]; exact Ar358.1) (State.isArrayOf_alike hZ.alike Ar358.2.1) Ar358.2.2 in358 at358 (g := (mkF m 59 #[oR this, oI (0 : Int32), oI (1 : Int32)] [(.int (0 : Int32)), (.ref aca), (.int (0 : Int32)), (.ref aca), (.ref as0)])) rfl rfl (hb hby d3_59) t kz) ?_
            show own_Go p e below _ (T357.setTop (mkF m 60 #[oR this, oI (0 : Int32), oI (1 : Int32)] [(.int (0 : Int32)), (.int (0 : Int32)), (.ref aca), (.ref as0)]))
            refine own_via (fun t kz => own_dupX2 X357.here hx rfl (hb hby d3_60) rfl rfl rfl rfl kz) ?_
            show own_Go p e below _ (T357.setTop (mkF m 61 #[oR this, oI (0 : Int32), oI (1 : Int32)] [(.int (0 : Int32)), (.int (0 : Int32)), (.ref aca), (.int (0 : Int32)), (.ref as0)]))
            refine own_via (fun t kz => XS.iconst X357.here hx rfl (hb hby d3_61) kz) ?_
            show own_Go p e below _ (T357.setTop (mkF m 62 #[oR this, oI (0 : Int32), oI (1 : Int32)] [(.int (1 : Int32)), (.int (0 : Int32)), (.int (0 : Int32)), (.ref aca), (.int (0 : Int32)), (.ref as0)]))
            refine own_via (fun t kz => XS.iadd X357.here hx rfl (hb hby d3_62) rfl kz) ?_
            show own_Go p e below _ (T357.setTop (mkF m 63 #[oR this, oI (0 : Int32), oI (1 : Int32)] [(.int (1 : Int32)), (.int (0 : Int32)), (.ref aca), (.int (0 : Int32)), (.ref as0)]))
            obtain ⟨cl359, Ar359, kc359, Sz359, Nn359, Hs359, Gs359⟩ := id V351
            obtain ⟨T359, h359, X359, e359, W359, st359⟩ := stI X357 hx hZ e357 Ar359 (j := (0 : Int32)) (inb_of Sz359 ⟨by decide, by decide⟩) (g := (mkF m 63 #[oR this, oI (0 : Int32), oI (1 : Int32)] [(.int (1 : Int32)), (.int (0 : Int32)), (.ref aca), (.int (0 : Int32)), (.ref as0)])) rfl rfl (hb hby d3_63)
            refine own_via st359 ?_
            have E360 := E339.wr W359
            have F361 := F340.other W359 (Or.inl (own_neq (by omega)))
            have F362 := F341.other W359 (Or.inl (own_neq (by omega)))
            have F363 := F342.other W359 (Or.inl (own_neq (by omega)))
            have F364 := F343.other W359 (Or.inl (own_neq (by omega)))
            have F365 := F344.other W359 (Or.inl (own_neq (by omega)))
            have V366 := V345.other W359 (own_neq (by omega))
            have V367 := V346.other W359 (own_neq (by omega))
            have V368 := V347.other W359 (own_neq (by omega))
            have V369 := V354.other W359 (own_neq (by omega))
            have V370 := V348.other W359 (own_neq (by omega))
            have V371 := V349.other W359 (own_neq (by omega))
            have V372 := V350.other W359 (own_neq (by omega))
            have Zs373 : n0 ≤ h359.size := Nat.le_trans Zs352 (Keep.of_wr W359).1
            have N374 := Fr.snoc X359 N353 (show n0 ≤ aca by omega)
            have V375 : Arv Z h359 aca ck8 .int (2 : Int32) [(.int (1 : Int32)), (.int wc1)] (.int (0 : Int32)) := Arv.set Ar359 kc359 Sz359 Nn359 Hs359 Gs359 rfl W359 0 (by first | decide | (show 0 < 2; decide)) (by first | decide | (show 0 < 2; decide))
            show own_Go p e below _ (T359.setTop (mkF m 64 #[oR this, oI (0 : Int32), oI (1 : Int32)] [(.int (0 : Int32)), (.ref as0)]))
            refine own_via (fun t kz => XS.iloadN X359.here hx rfl (hb hby d3_64) rfl kz) ?_
            show own_Go p e below _ (T359.setTop (mkF m 65 #[oR this, oI (0 : Int32), oI (1 : Int32)] [(.int (1 : Int32)), (.int (0 : Int32)), (.ref as0)]))
            obtain ⟨cl376, Ar376, kc376, Sz376, Nn376, Hs376, Gs376⟩ := id V371
            obtain ⟨T376, h376, X376, e376, W376, st376⟩ := stI X359 hx hZ e359 Ar376 (j := (0 : Int32)) (inb_of Sz376 ⟨by decide, by decide⟩) (g := (mkF m 65 #[oR this, oI (0 : Int32), oI (1 : Int32)] [(.int (1 : Int32)), (.int (0 : Int32)), (.ref as0)])) rfl rfl (hb hby d3_65)
            refine own_via st376 ?_
            have E377 := E360.wr W376
            have F378 := F361.other W376 (Or.inl (own_neq (by omega)))
            have F379 := F362.other W376 (Or.inl (own_neq (by omega)))
            have F380 := F363.other W376 (Or.inl (own_neq (by omega)))
            have F381 := F364.other W376 (Or.inl (own_neq (by omega)))
            have F382 := F365.other W376 (Or.inl (own_neq (by omega)))
            have V383 := V366.other W376 (own_neq (by omega))
            have V384 := V367.other W376 (own_neq (by omega))
            have V385 := V368.other W376 (own_neq (by omega))
            have V386 := V369.other W376 (own_neq (by omega))
            have V387 := V370.other W376 (own_neq (by omega))
            have V388 := V372.other W376 (own_neq (by omega))
            have V389 := V375.other W376 (own_neq (by omega))
            have Zs390 : n0 ≤ h376.size := Nat.le_trans Zs373 (Keep.of_wr W376).1
            have N391 := Fr.snoc X376 N374 (show n0 ≤ as0 by omega)
            have V392 : Arv Z h376 as0 ck6 .int (2 : Int32) [(.int (1 : Int32)), (.int ws01)] (.int (0 : Int32)) := Arv.set Ar376 kc376 Sz376 Nn376 Hs376 Gs376 rfl W376 0 (by first | decide | (show 0 < 2; decide)) (by first | decide | (show 0 < 2; decide))
            show own_Go p e below _ (T376.setTop (mkF m 66 #[oR this, oI (0 : Int32), oI (1 : Int32)] []))
            have hT : own_TC Z h376 n0 this (own_mk wm00 (1 : Int32) wm10 wm11 wt0 (0 : Int32) (1 : Int32) ws01 ws10 ws11 (1 : Int32) wc1 (2 : Int32)) := ⟨amo, am0, am1, ata, aso, as0, as1, aca, ck1, ck2, ck3, ck4, ck5, ck6, ck7, ck8, ⟨by omega, by omega, by omega, by omega, by omega, by omega, by omega, by omega, by omega⟩, E377, F378, F379, F380, F381, F382, V383, V384, V385, V386, V387, V392, V388, V389⟩
            obtain ⟨fs, hr, hrun, hended, hW, hsame⟩ := X376.leave (v := none) (fun _ => rfl)
            refine ⟨_, _, X376.returnOut hx Bd.returns (hb hby d3_66) hr, hrun, hended, _, _, rfl, ?_, ⟨_, rfl⟩, hW, hsame.mono (by decide) (by decide)⟩
            show Q3 Z this (0 : Int32) (1 : Int32) wm00 wm01 wm10 wm11 wt0 wt1 ws00 ws01 ws10 ws11 (0 : Int32) wc1 (1 : Int32) h0 n0 _ T376.heap _
            rw [e376]
            exact ⟨rfl, N391, Zs390, by unfold own_mark; rw [if_pos (by decide : (0 : Int32) = (0 : Int32)), if_neg (by decide : ¬ ((1 : Int32) = (0 : Int32))), if_pos hc8_221, if_pos (by decide : (0 : Int32) = (0 : Int32)), if_neg (by decide : ¬ ((1 : Int32) = (0 : Int32)))]; exact hT⟩
        · refine own_via (fun t kz => XS.ifYes X241.here hx rfl (pc0 := 27) (pc' := 47) rfl (hb hby d3_27) rfl ((if0 _ _).trans (feq hc27_243).2) (by decide) (by decide) kz) ?_
          have hq1 : wc0 = 0 ∨ wc0 = 1 := by first | exact hok1 hc8_221 | simpa [own_pick, own_pick1, hc8_221] using hok1
          have hq2 : wc0 = 0 → wn = 0 ∨ wn = 1 := by first | exact hok2 hc8_221 | simpa [own_pick, own_pick1, hc8_221] using hok2
          have hq3 := hq1.resolve_left hc27_243
          clear hc27_243
          subst hq3
          show own_Go p e below _ (T241.setTop (mkF m 47 #[oR this, oI (0 : Int32), oI (1 : Int32)] []))
          refine own_via (fun t kz => XS.aloadN X241.here hx rfl (hb hby d3_47) rfl rfl kz) ?_
          show own_Go p e below _ (T241.setTop (mkF m 48 #[oR this, oI (0 : Int32), oI (1 : Int32)] [(.ref this)]))
          obtain ⟨T394, X394, e394, st394⟩ := getF X241 hx hZ hown (host := "") (Or.inl (own_w hw 19)) Via.refl e241 F228 (g := (mkF m 48 #[oR this, oI (0 : Int32), oI (1 : Int32)] [(.ref this)])) rfl rfl (hb hby d3_48)
          refine own_via st394 ?_
          show own_Go p e below _ (T394.setTop (mkF m 51 #[oR this, oI (0 : Int32), oI (1 : Int32)] [(.ref aso)]))
          refine own_via (fun t kz => XS.iloadN X394.here hx rfl (hb hby d3_51) rfl kz) ?_
          show own_Go p e below _ (T394.setTop (mkF m 52 #[oR this, oI (0 : Int32), oI (1 : Int32)] [(.int (0 : Int32)), (.ref aso)]))
          obtain ⟨cl395, Ar395, kc395, Sz395, Nn395, Hs395, Gs395⟩ := id V234
          have in395 := inb_of (j := (0 : Int32)) Sz395 ⟨by decide, by decide⟩
          have at395 : cl395.slots[((0 : Int32)).toNatClampNeg]? = some (.ref as0) := Hs395.at in395 rfl
          refine own_via (fun t kz => X394.aaload hx (j := (0 : Int32)) (v := (.ref as0)) (by rw [e394]; exact Ar395.1) (State.isArrayOf_alike hZ.alike Ar395.2.1) rfl Ar395.2.2 in395 at395 (g := (mkF m 52 #[oR this, oI (0 : Int32), oI (1 : Int32)] [(.int (0 : Int32)), (.ref aso)])) rfl rfl (hb hby d3_52) t kz) ?_
          show own_Go p e below _ (T394.setTop (mkF m 53 #[oR this, oI (0 : Int32), oI (1 : Int32)] [(.ref as0)]))
          refine own_via (fun t kz => XS.aloadN X394.here hx rfl (hb hby d3_53) rfl rfl kz) ?_
          show own_Go p e below _ (T394.setTop (mkF m 54 #[oR this, oI (0 : Int32), oI (1 : Int32)] [(.ref this), (.ref as0)]))
          obtain ⟨T396, X396, e396, st396⟩ := getF X394 hx hZ hown (host := "") (Or.inl (own_w hw 21)) Via.refl e394 F229 (g := (mkF m 54 #[oR this, oI (0 : Int32), oI (1 : Int32)] [(.ref this), (.ref as0)])) rfl rfl (hb hby d3_54)
          refine own_via st396 ?_
          show own_Go p e below _ (T396.setTop (mkF m 57 #[oR this, oI (0 : Int32), oI (1 : Int32)] [(.ref aca), (.ref as0)]))
          refine own_via (fun t kz => XS.iloadN X396.here hx rfl (hb hby d3_57) rfl kz) ?_
          show own_Go p e below _ (T396.setTop (mkF m 58 #[oR this, oI (0 : Int32), oI (1 : Int32)] [(.int (0 : Int32)), (.ref aca), (.ref as0)]))
          refine own_via (fun t kz => XT.dup2 X396.here hx rfl (hb hby d3_58) rfl rfl rfl kz) ?_
          show own_Go p e below _ (T396.setTop (mkF m 59 #[oR this, oI (0 : Int32), oI (1 : Int32)] [(.int (0 : Int32)), (.ref aca), (.int (0 : Int32)), (.ref aca), (.ref as0)]))
          obtain ⟨cl397, Ar397, kc397, Sz397, Nn397, Hs397, Gs397⟩ := id V237
          have in397 := inb_of (j := (0 : Int32)) Sz397 ⟨by decide, by decide⟩
          have at397 : cl397.slots[((0 : Int32)).toNatClampNeg]? = some (.int (1 : Int32)) := Hs397.at in397 rfl
          refine own_via (fun t kz => X396.iaload hx (j := (0 : Int32)) (v := (.int (1 : Int32))) (by rw [e396]; exact Ar397.1) (State.isArrayOf_alike hZ.alike Ar397.2.1) Ar397.2.2 in397 at397 (g := (mkF m 59 #[oR this, oI (0 : Int32), oI (1 : Int32)] [(.int (0 : Int32)), (.ref aca), (.int (0 : Int32)), (.ref aca), (.ref as0)])) rfl rfl (hb hby d3_59) t kz) ?_
          show own_Go p e below _ (T396.setTop (mkF m 60 #[oR this, oI (0 : Int32), oI (1 : Int32)] [(.int (1 : Int32)), (.int (0 : Int32)), (.ref aca), (.ref as0)]))
          refine own_via (fun t kz => own_dupX2 X396.here hx rfl (hb hby d3_60) rfl rfl rfl rfl kz) ?_
          show own_Go p e below _ (T396.setTop (mkF m 61 #[oR this, oI (0 : Int32), oI (1 : Int32)] [(.int (1 : Int32)), (.int (0 : Int32)), (.ref aca), (.int (1 : Int32)), (.ref as0)]))
          refine own_via (fun t kz => XS.iconst X396.here hx rfl (hb hby d3_61) kz) ?_
          show own_Go p e below _ (T396.setTop (mkF m 62 #[oR this, oI (0 : Int32), oI (1 : Int32)] [(.int (1 : Int32)), (.int (1 : Int32)), (.int (0 : Int32)), (.ref aca), (.int (1 : Int32)), (.ref as0)]))
          refine own_via (fun t kz => XS.iadd X396.here hx rfl (hb hby d3_62) rfl kz) ?_
          show own_Go p e below _ (T396.setTop (mkF m 63 #[oR this, oI (0 : Int32), oI (1 : Int32)] [(.int (2 : Int32)), (.int (0 : Int32)), (.ref aca), (.int (1 : Int32)), (.ref as0)]))
          obtain ⟨cl398, Ar398, kc398, Sz398, Nn398, Hs398, Gs398⟩ := id V237
          obtain ⟨T398, h398, X398, e398, W398, st398⟩ := stI X396 hx hZ e396 Ar398 (j := (0 : Int32)) (inb_of Sz398 ⟨by decide, by decide⟩) (g := (mkF m 63 #[oR this, oI (0 : Int32), oI (1 : Int32)] [(.int (2 : Int32)), (.int (0 : Int32)), (.ref aca), (.int (1 : Int32)), (.ref as0)])) rfl rfl (hb hby d3_63)
          refine own_via st398 ?_
          have E399 := E225.wr W398
          have F400 := F226.other W398 (Or.inl (own_neq (by omega)))
          have F401 := F227.other W398 (Or.inl (own_neq (by omega)))
          have F402 := F228.other W398 (Or.inl (own_neq (by omega)))
          have F403 := F229.other W398 (Or.inl (own_neq (by omega)))
          have F404 := F230.other W398 (Or.inl (own_neq (by omega)))
          have V405 := V231.other W398 (own_neq (by omega))
          have V406 := V240.other W398 (own_neq (by omega))
          have V407 := V232.other W398 (own_neq (by omega))
          have V408 := V233.other W398 (own_neq (by omega))
          have V409 := V234.other W398 (own_neq (by omega))
          have V410 := V235.other W398 (own_neq (by omega))
          have V411 := V236.other W398 (own_neq (by omega))
          have Zs412 : n0 ≤ h398.size := Nat.le_trans Zs238 (Keep.of_wr W398).1
          have N413 := Fr.snoc X398 N239 (show n0 ≤ aca by omega)
          have V414 : Arv Z h398 aca ck8 .int (2 : Int32) [(.int (2 : Int32)), (.int wc1)] (.int (0 : Int32)) := Arv.set Ar398 kc398 Sz398 Nn398 Hs398 Gs398 rfl W398 0 (by first | decide | (show 0 < 2; decide)) (by first | decide | (show 0 < 2; decide))
          show own_Go p e below _ (T398.setTop (mkF m 64 #[oR this, oI (0 : Int32), oI (1 : Int32)] [(.int (1 : Int32)), (.ref as0)]))
          refine own_via (fun t kz => XS.iloadN X398.here hx rfl (hb hby d3_64) rfl kz) ?_
          show own_Go p e below _ (T398.setTop (mkF m 65 #[oR this, oI (0 : Int32), oI (1 : Int32)] [(.int (1 : Int32)), (.int (1 : Int32)), (.ref as0)]))
          obtain ⟨cl415, Ar415, kc415, Sz415, Nn415, Hs415, Gs415⟩ := id V410
          obtain ⟨T415, h415, X415, e415, W415, st415⟩ := stI X398 hx hZ e398 Ar415 (j := (1 : Int32)) (inb_of Sz415 ⟨by decide, by decide⟩) (g := (mkF m 65 #[oR this, oI (0 : Int32), oI (1 : Int32)] [(.int (1 : Int32)), (.int (1 : Int32)), (.ref as0)])) rfl rfl (hb hby d3_65)
          refine own_via st415 ?_
          have E416 := E399.wr W415
          have F417 := F400.other W415 (Or.inl (own_neq (by omega)))
          have F418 := F401.other W415 (Or.inl (own_neq (by omega)))
          have F419 := F402.other W415 (Or.inl (own_neq (by omega)))
          have F420 := F403.other W415 (Or.inl (own_neq (by omega)))
          have F421 := F404.other W415 (Or.inl (own_neq (by omega)))
          have V422 := V405.other W415 (own_neq (by omega))
          have V423 := V406.other W415 (own_neq (by omega))
          have V424 := V407.other W415 (own_neq (by omega))
          have V425 := V408.other W415 (own_neq (by omega))
          have V426 := V409.other W415 (own_neq (by omega))
          have V427 := V411.other W415 (own_neq (by omega))
          have V428 := V414.other W415 (own_neq (by omega))
          have Zs429 : n0 ≤ h415.size := Nat.le_trans Zs412 (Keep.of_wr W415).1
          have N430 := Fr.snoc X415 N413 (show n0 ≤ as0 by omega)
          have V431 : Arv Z h415 as0 ck6 .int (2 : Int32) [(.int ws00), (.int (1 : Int32))] (.int (0 : Int32)) := Arv.set Ar415 kc415 Sz415 Nn415 Hs415 Gs415 rfl W415 1 (by first | decide | (show 1 < 2; decide)) (by first | decide | (show 1 < 2; decide))
          show own_Go p e below _ (T415.setTop (mkF m 66 #[oR this, oI (0 : Int32), oI (1 : Int32)] []))
          have hT : own_TC Z h415 n0 this (own_mk wm00 (1 : Int32) wm10 wm11 wt0 wt1 ws00 (1 : Int32) ws10 ws11 (2 : Int32) wc1 wn) := ⟨amo, am0, am1, ata, aso, as0, as1, aca, ck1, ck2, ck3, ck4, ck5, ck6, ck7, ck8, ⟨by omega, by omega, by omega, by omega, by omega, by omega, by omega, by omega, by omega⟩, E416, F417, F418, F419, F420, F421, V422, V423, V424, V425, V426, V431, V427, V428⟩
          obtain ⟨fs, hr, hrun, hended, hW, hsame⟩ := X415.leave (v := none) (fun _ => rfl)
          refine ⟨_, _, X415.returnOut hx Bd.returns (hb hby d3_66) hr, hrun, hended, _, _, rfl, ?_, ⟨_, rfl⟩, hW, hsame.mono (by decide) (by decide)⟩
          show Q3 Z this (0 : Int32) (1 : Int32) wm00 wm01 wm10 wm11 wt0 wt1 ws00 ws01 ws10 ws11 (1 : Int32) wc1 wn h0 n0 _ T415.heap _
          rw [e415]
          exact ⟨rfl, N430, Zs429, by unfold own_mark; rw [if_pos (by decide : (0 : Int32) = (0 : Int32)), if_neg (by decide : ¬ ((1 : Int32) = (0 : Int32))), if_pos hc8_221, if_neg (by decide : ¬ ((1 : Int32) = (0 : Int32)))]; exact hT⟩
      · refine own_via (fun t kz => XS.ifNo X218.here hx rfl (hb hby d3_8) rfl ((if0 _ _).trans (feq hc8_221).1) kz) ?_
        show own_Go p e below _ (T218.setTop (mkF m 11 #[oR this, oI (0 : Int32), oI (1 : Int32)] []))
        have hT : own_TC Z h0 n0 this (own_mk wm00 wm01 wm10 wm11 wt0 wt1 ws00 ws01 ws10 ws11 wc0 wc1 wn) := ⟨amo, am0, am1, ata, aso, as0, as1, aca, ck1, ck2, ck3, ck4, ck5, ck6, ck7, ck8, ⟨by omega, by omega, by omega, by omega, by omega, by omega, by omega, by omega, by omega⟩, Eq, Fo0, Fo1, Fo2, Fo3, Fo4, Vo0, Vo1, Vo2, Vo3, Vo4, Vo5, Vo6, Vo7⟩
        obtain ⟨fs, hr, hrun, hended, hW, hsame⟩ := X218.leave (v := none) (fun _ => rfl)
        refine ⟨_, _, X218.returnOut hx Bd.returns (hb hby d3_11) hr, hrun, hended, _, _, rfl, ?_, ⟨_, rfl⟩, hW, hsame.mono (by decide) (by decide)⟩
        show Q3 Z this (0 : Int32) (1 : Int32) wm00 wm01 wm10 wm11 wt0 wt1 ws00 ws01 ws10 ws11 wc0 wc1 wn h0 n0 _ T218.heap _
        rw [e218]
        exact ⟨rfl, N0, Z0, by unfold own_mark; rw [if_pos (by decide : (0 : Int32) = (0 : Int32)), if_neg (by decide : ¬ ((1 : Int32) = (0 : Int32))), if_neg hc8_221]; exact hT⟩
  · rcases hs with rfl | rfl
    · show own_Go p e below _ (s₁.setTop (mkF m 0 #[oR this, oI (1 : Int32), oI (0 : Int32)] []))
      refine own_via (fun t kz => XS.aloadN X0.here hx rfl (hb hby d3_0) rfl rfl kz) ?_
      show own_Go p e below _ (s₁.setTop (mkF m 1 #[oR this, oI (1 : Int32), oI (0 : Int32)] [(.ref this)]))
      obtain ⟨T434, X434, e434, st434⟩ := getF X0 hx hZ hown (host := "") (Or.inl (own_w hw 12)) Via.refl e0 Fo0 (g := (mkF m 1 #[oR this, oI (1 : Int32), oI (0 : Int32)] [(.ref this)])) rfl rfl (hb hby d3_1)
      refine own_via st434 ?_
      show own_Go p e below _ (T434.setTop (mkF m 4 #[oR this, oI (1 : Int32), oI (0 : Int32)] [(.ref amo)]))
      refine own_via (fun t kz => XS.iloadN X434.here hx rfl (hb hby d3_4) rfl kz) ?_
      show own_Go p e below _ (T434.setTop (mkF m 5 #[oR this, oI (1 : Int32), oI (0 : Int32)] [(.int (1 : Int32)), (.ref amo)]))
      obtain ⟨cl435, Ar435, kc435, Sz435, Nn435, Hs435, Gs435⟩ := id Vo0
      have in435 := inb_of (j := (1 : Int32)) Sz435 ⟨by decide, by decide⟩
      have at435 : cl435.slots[((1 : Int32)).toNatClampNeg]? = some (.ref am1) := Hs435.at in435 rfl
      refine own_via (fun t kz => X434.aaload hx (j := (1 : Int32)) (v := (.ref am1)) (by rw [e434]; exact Ar435.1) (State.isArrayOf_alike hZ.alike Ar435.2.1) rfl Ar435.2.2 in435 at435 (g := (mkF m 5 #[oR this, oI (1 : Int32), oI (0 : Int32)] [(.int (1 : Int32)), (.ref amo)])) rfl rfl (hb hby d3_5) t kz) ?_
      show own_Go p e below _ (T434.setTop (mkF m 6 #[oR this, oI (1 : Int32), oI (0 : Int32)] [(.ref am1)]))
      refine own_via (fun t kz => XS.iloadN X434.here hx rfl (hb hby d3_6) rfl kz) ?_
      show own_Go p e below _ (T434.setTop (mkF m 7 #[oR this, oI (1 : Int32), oI (0 : Int32)] [(.int (0 : Int32)), (.ref am1)]))
      obtain ⟨cl436, Ar436, kc436, Sz436, Nn436, Hs436, Gs436⟩ := id Vo2
      have in436 := inb_of (j := (0 : Int32)) Sz436 ⟨by decide, by decide⟩
      have at436 : cl436.slots[((0 : Int32)).toNatClampNeg]? = some (.int wm10) := Hs436.at in436 rfl
      refine own_via (fun t kz => X434.baloadBooleans hx (j := (0 : Int32)) (v := (.int wm10)) (by rw [e434]; exact Ar436.1) (State.isArrayOf_alike hZ.alike Ar436.2.1) Ar436.2.2 in436 at436 (g := (mkF m 7 #[oR this, oI (1 : Int32), oI (0 : Int32)] [(.int (0 : Int32)), (.ref am1)])) rfl rfl (hb hby d3_7) t kz) ?_
      show own_Go p e below _ (T434.setTop (mkF m 8 #[oR this, oI (1 : Int32), oI (0 : Int32)] [(.int wm10)]))
      by_cases hc8_437 : wm10 = (0 : Int32)
      · refine own_via (fun t kz => XS.ifYes X434.here hx rfl (pc0 := 8) (pc' := 12) rfl (hb hby d3_8) rfl ((if0 _ _).trans (teq hc8_437).1) (by decide) (by decide) kz) ?_
        show own_Go p e below _ (T434.setTop (mkF m 12 #[oR this, oI (1 : Int32), oI (0 : Int32)] []))
        refine own_via (fun t kz => XS.aloadN X434.here hx rfl (hb hby d3_12) rfl rfl kz) ?_
        show own_Go p e below _ (T434.setTop (mkF m 13 #[oR this, oI (1 : Int32), oI (0 : Int32)] [(.ref this)]))
        obtain ⟨T438, X438, e438, st438⟩ := getF X434 hx hZ hown (host := "") (Or.inl (own_w hw 12)) Via.refl e434 Fo0 (g := (mkF m 13 #[oR this, oI (1 : Int32), oI (0 : Int32)] [(.ref this)])) rfl rfl (hb hby d3_13)
        refine own_via st438 ?_
        show own_Go p e below _ (T438.setTop (mkF m 16 #[oR this, oI (1 : Int32), oI (0 : Int32)] [(.ref amo)]))
        refine own_via (fun t kz => XS.iloadN X438.here hx rfl (hb hby d3_16) rfl kz) ?_
        show own_Go p e below _ (T438.setTop (mkF m 17 #[oR this, oI (1 : Int32), oI (0 : Int32)] [(.int (1 : Int32)), (.ref amo)]))
        obtain ⟨cl439, Ar439, kc439, Sz439, Nn439, Hs439, Gs439⟩ := id Vo0
        have in439 := inb_of (j := (1 : Int32)) Sz439 ⟨by decide, by decide⟩
        have at439 : cl439.slots[((1 : Int32)).toNatClampNeg]? = some (.ref am1) := Hs439.at in439 rfl
        refine own_via (fun t kz => X438.aaload hx (j := (1 : Int32)) (v := (.ref am1)) (by rw [e438]; exact Ar439.1) (State.isArrayOf_alike hZ.alike Ar439.2.1) rfl Ar439.2.2 in439 at439 (g := (mkF m 17 #[oR this, oI (1 : Int32), oI (0 : Int32)] [(.int (1 : Int32)), (.ref amo)])) rfl rfl (hb hby d3_17) t kz) ?_
        show own_Go p e below _ (T438.setTop (mkF m 18 #[oR this, oI (1 : Int32), oI (0 : Int32)] [(.ref am1)]))
        refine own_via (fun t kz => XS.iloadN X438.here hx rfl (hb hby d3_18) rfl kz) ?_
        show own_Go p e below _ (T438.setTop (mkF m 19 #[oR this, oI (1 : Int32), oI (0 : Int32)] [(.int (0 : Int32)), (.ref am1)]))
        refine own_via (fun t kz => XS.iconst X438.here hx rfl (hb hby d3_19) kz) ?_
        show own_Go p e below _ (T438.setTop (mkF m 20 #[oR this, oI (1 : Int32), oI (0 : Int32)] [(.int (1 : Int32)), (.int (0 : Int32)), (.ref am1)]))
        obtain ⟨cl440, Ar440, kc440, Sz440, Nn440, Hs440, Gs440⟩ := id Vo2
        obtain ⟨T440, h440, X440, e440, W440, st440⟩ := stZ X438 hx hZ e438 Ar440 (j := (0 : Int32)) (inb_of Sz440 ⟨by decide, by decide⟩) (g := (mkF m 20 #[oR this, oI (1 : Int32), oI (0 : Int32)] [(.int (1 : Int32)), (.int (0 : Int32)), (.ref am1)])) rfl rfl (hb hby d3_20)
        refine own_via st440 ?_
        have na440 : nar .boolean (1 : Int32) = (1 : Int32) := by decide
        rw [na440] at W440
        have E441 := Eq.wr W440
        have F442 := Fo0.other W440 (Or.inl (own_neq (by omega)))
        have F443 := Fo1.other W440 (Or.inl (own_neq (by omega)))
        have F444 := Fo2.other W440 (Or.inl (own_neq (by omega)))
        have F445 := Fo3.other W440 (Or.inl (own_neq (by omega)))
        have F446 := Fo4.other W440 (Or.inl (own_neq (by omega)))
        have V447 := Vo0.other W440 (own_neq (by omega))
        have V448 := Vo1.other W440 (own_neq (by omega))
        have V449 := Vo3.other W440 (own_neq (by omega))
        have V450 := Vo4.other W440 (own_neq (by omega))
        have V451 := Vo5.other W440 (own_neq (by omega))
        have V452 := Vo6.other W440 (own_neq (by omega))
        have V453 := Vo7.other W440 (own_neq (by omega))
        have Zs454 : n0 ≤ h440.size := Nat.le_trans Z0 (Keep.of_wr W440).1
        have N455 := Fr.snoc X440 N0 (show n0 ≤ am1 by omega)
        have V456 : Arv Z h440 am1 ck3 .boolean (2 : Int32) [(.int (1 : Int32)), (.int wm11)] (.int (0 : Int32)) := Arv.set Ar440 kc440 Sz440 Nn440 Hs440 Gs440 (by rw [← na440]; first | exact fits_nar_char _ | exact fits_nar_bool _ | exact fits_nar_byte _) W440 0 (by first | decide | (show 0 < 2; decide)) (by first | decide | (show 0 < 2; decide))
        show own_Go p e below _ (T440.setTop (mkF m 21 #[oR this, oI (1 : Int32), oI (0 : Int32)] []))
        refine own_via (fun t kz => XS.aloadN X440.here hx rfl (hb hby d3_21) rfl rfl kz) ?_
        show own_Go p e below _ (T440.setTop (mkF m 22 #[oR this, oI (1 : Int32), oI (0 : Int32)] [(.ref this)]))
        obtain ⟨T457, X457, e457, st457⟩ := getF X440 hx hZ hown (host := "") (Or.inl (own_w hw 21)) Via.refl e440 F445 (g := (mkF m 22 #[oR this, oI (1 : Int32), oI (0 : Int32)] [(.ref this)])) rfl rfl (hb hby d3_22)
        refine own_via st457 ?_
        show own_Go p e below _ (T457.setTop (mkF m 25 #[oR this, oI (1 : Int32), oI (0 : Int32)] [(.ref aca)]))
        refine own_via (fun t kz => XS.iloadN X457.here hx rfl (hb hby d3_25) rfl kz) ?_
        show own_Go p e below _ (T457.setTop (mkF m 26 #[oR this, oI (1 : Int32), oI (0 : Int32)] [(.int (1 : Int32)), (.ref aca)]))
        obtain ⟨cl458, Ar458, kc458, Sz458, Nn458, Hs458, Gs458⟩ := id V453
        have in458 := inb_of (j := (1 : Int32)) Sz458 ⟨by decide, by decide⟩
        have at458 : cl458.slots[((1 : Int32)).toNatClampNeg]? = some (.int wc1) := Hs458.at in458 rfl
        refine own_via (fun t kz => X457.iaload hx (j := (1 : Int32)) (v := (.int wc1)) (by rw [e457]; exact Ar458.1) (State.isArrayOf_alike hZ.alike Ar458.2.1) Ar458.2.2 in458 at458 (g := (mkF m 26 #[oR this, oI (1 : Int32), oI (0 : Int32)] [(.int (1 : Int32)), (.ref aca)])) rfl rfl (hb hby d3_26) t kz) ?_
        show own_Go p e below _ (T457.setTop (mkF m 27 #[oR this, oI (1 : Int32), oI (0 : Int32)] [(.int wc1)]))
        by_cases hc27_459 : wc1 = (0 : Int32)
        · refine own_via (fun t kz => XS.ifNo X457.here hx rfl (hb hby d3_27) rfl ((if0 _ _).trans (teq hc27_459).2) kz) ?_
          have hq1 : wc1 = 0 ∨ wc1 = 1 := by first | exact hok1 hc8_437 | simpa [own_pick, own_pick1, hc8_437] using hok1
          have hq2 : wc1 = 0 → wn = 0 ∨ wn = 1 := by first | exact hok2 hc8_437 | simpa [own_pick, own_pick1, hc8_437] using hok2
          have hq3 := hq2 hc27_459
          subst hc27_459
          rcases hq3 with rfl | rfl
          · show own_Go p e below _ (T457.setTop (mkF m 30 #[oR this, oI (1 : Int32), oI (0 : Int32)] []))
            refine own_via (fun t kz => XS.aloadN X457.here hx rfl (hb hby d3_30) rfl rfl kz) ?_
            show own_Go p e below _ (T457.setTop (mkF m 31 #[oR this, oI (1 : Int32), oI (0 : Int32)] [(.ref this)]))
            obtain ⟨T460, X460, e460, st460⟩ := getF X457 hx hZ hown (host := "") (Or.inl (own_w hw 15)) Via.refl e457 F443 (g := (mkF m 31 #[oR this, oI (1 : Int32), oI (0 : Int32)] [(.ref this)])) rfl rfl (hb hby d3_31)
            refine own_via st460 ?_
            show own_Go p e below _ (T460.setTop (mkF m 34 #[oR this, oI (1 : Int32), oI (0 : Int32)] [(.ref ata)]))
            refine own_via (fun t kz => XS.aloadN X460.here hx rfl (hb hby d3_34) rfl rfl kz) ?_
            show own_Go p e below _ (T460.setTop (mkF m 35 #[oR this, oI (1 : Int32), oI (0 : Int32)] [(.ref this), (.ref ata)]))
            refine own_via (fun t kz => XS.dup X460.here hx rfl (hb hby d3_35) rfl rfl kz) ?_
            show own_Go p e below _ (T460.setTop (mkF m 36 #[oR this, oI (1 : Int32), oI (0 : Int32)] [(.ref this), (.ref this), (.ref ata)]))
            obtain ⟨T461, X461, e461, st461⟩ := getF X460 hx hZ hown (host := "") (Or.inl (own_w hw 28)) Via.refl e460 F446 (g := (mkF m 36 #[oR this, oI (1 : Int32), oI (0 : Int32)] [(.ref this), (.ref this), (.ref ata)])) rfl rfl (hb hby d3_36)
            refine own_via st461 ?_
            show own_Go p e below _ (T461.setTop (mkF m 39 #[oR this, oI (1 : Int32), oI (0 : Int32)] [(.int (0 : Int32)), (.ref this), (.ref ata)]))
            refine own_via (fun t kz => XS.dupX1 X461.here hx rfl (hb hby d3_39) rfl rfl rfl kz) ?_
            show own_Go p e below _ (T461.setTop (mkF m 40 #[oR this, oI (1 : Int32), oI (0 : Int32)] [(.int (0 : Int32)), (.ref this), (.int (0 : Int32)), (.ref ata)]))
            refine own_via (fun t kz => XS.iconst X461.here hx rfl (hb hby d3_40) kz) ?_
            show own_Go p e below _ (T461.setTop (mkF m 41 #[oR this, oI (1 : Int32), oI (0 : Int32)] [(.int (1 : Int32)), (.int (0 : Int32)), (.ref this), (.int (0 : Int32)), (.ref ata)]))
            refine own_via (fun t kz => XS.iadd X461.here hx rfl (hb hby d3_41) rfl kz) ?_
            show own_Go p e below _ (T461.setTop (mkF m 42 #[oR this, oI (1 : Int32), oI (0 : Int32)] [(.int (1 : Int32)), (.ref this), (.int (0 : Int32)), (.ref ata)]))
            obtain ⟨T462, h462, X462, e462, W462, st462⟩ := putF X461 hx hZ hown (host := "") (Or.inl (own_w hw 28)) Via.refl e461 F446 E441 (Or.inl (own_w hw 29)) (own_w hw 1) (ty := .int) (by decide) rfl rfl (g := (mkF m 42 #[oR this, oI (1 : Int32), oI (0 : Int32)] [(.int (1 : Int32)), (.ref this), (.int (0 : Int32)), (.ref ata)])) rfl rfl (hb hby d3_42)
            refine own_via st462 ?_
            have E463 := E441.wr W462
            have F464 := F442.other W462 (Or.inr (slot_ne (Or.inr (own_w hw 13)) (Or.inl (own_w hw 29)) (by decide) (t := (.array (.array .boolean))) (t' := .int) (by decide) (by decide)))
            have F465 := F443.other W462 (Or.inr (slot_ne (Or.inr (own_w hw 16)) (Or.inl (own_w hw 29)) (by decide) (t := (.array .int)) (t' := .int) (by decide) (by decide)))
            have F466 := F444.other W462 (Or.inr (slot_ne (Or.inr (own_w hw 20)) (Or.inl (own_w hw 29)) (by decide) (t := (.array (.array .int))) (t' := .int) (by decide) (by decide)))
            have F467 := F445.other W462 (Or.inr (slot_ne (Or.inr (own_w hw 22)) (Or.inl (own_w hw 29)) (by decide) (t := (.array .int)) (t' := .int) (by decide) (by decide)))
            have F468 := F446.same W462
            have V469 := V447.other W462 (own_neq (by omega))
            have V470 := V448.other W462 (own_neq (by omega))
            have V471 := V456.other W462 (own_neq (by omega))
            have V472 := V449.other W462 (own_neq (by omega))
            have V473 := V450.other W462 (own_neq (by omega))
            have V474 := V451.other W462 (own_neq (by omega))
            have V475 := V452.other W462 (own_neq (by omega))
            have V476 := V453.other W462 (own_neq (by omega))
            have Zs477 : n0 ≤ h462.size := Nat.le_trans Zs454 (Keep.of_wr W462).1
            have N478 := Fr.snoc X462 N455 (show n0 ≤ this by omega)
            show own_Go p e below _ (T462.setTop (mkF m 45 #[oR this, oI (1 : Int32), oI (0 : Int32)] [(.int (0 : Int32)), (.ref ata)]))
            refine own_via (fun t kz => XS.iloadN X462.here hx rfl (hb hby d3_45) rfl kz) ?_
            show own_Go p e below _ (T462.setTop (mkF m 46 #[oR this, oI (1 : Int32), oI (0 : Int32)] [(.int (1 : Int32)), (.int (0 : Int32)), (.ref ata)]))
            obtain ⟨cl479, Ar479, kc479, Sz479, Nn479, Hs479, Gs479⟩ := id V472
            obtain ⟨T479, h479, X479, e479, W479, st479⟩ := stI X462 hx hZ e462 Ar479 (j := (0 : Int32)) (inb_of Sz479 ⟨by decide, by decide⟩) (g := (mkF m 46 #[oR this, oI (1 : Int32), oI (0 : Int32)] [(.int (1 : Int32)), (.int (0 : Int32)), (.ref ata)])) rfl rfl (hb hby d3_46)
            refine own_via st479 ?_
            have E480 := E463.wr W479
            have F481 := F464.other W479 (Or.inl (own_neq (by omega)))
            have F482 := F465.other W479 (Or.inl (own_neq (by omega)))
            have F483 := F466.other W479 (Or.inl (own_neq (by omega)))
            have F484 := F467.other W479 (Or.inl (own_neq (by omega)))
            have F485 := F468.other W479 (Or.inl (own_neq (by omega)))
            have V486 := V469.other W479 (own_neq (by omega))
            have V487 := V470.other W479 (own_neq (by omega))
            have V488 := V471.other W479 (own_neq (by omega))
            have V489 := V473.other W479 (own_neq (by omega))
            have V490 := V474.other W479 (own_neq (by omega))
            have V491 := V475.other W479 (own_neq (by omega))
            have V492 := V476.other W479 (own_neq (by omega))
            have Zs493 : n0 ≤ h479.size := Nat.le_trans Zs477 (Keep.of_wr W479).1
            have N494 := Fr.snoc X479 N478 (show n0 ≤ ata by omega)
            have V495 : Arv Z h479 ata ck4 .int (2 : Int32) [(.int (1 : Int32)), (.int wt1)] (.int (0 : Int32)) := Arv.set Ar479 kc479 Sz479 Nn479 Hs479 Gs479 rfl W479 0 (by first | decide | (show 0 < 2; decide)) (by first | decide | (show 0 < 2; decide))
            show own_Go p e below _ (T479.setTop (mkF m 47 #[oR this, oI (1 : Int32), oI (0 : Int32)] []))
            refine own_via (fun t kz => XS.aloadN X479.here hx rfl (hb hby d3_47) rfl rfl kz) ?_
            show own_Go p e below _ (T479.setTop (mkF m 48 #[oR this, oI (1 : Int32), oI (0 : Int32)] [(.ref this)]))
            obtain ⟨T496, X496, e496, st496⟩ := getF X479 hx hZ hown (host := "") (Or.inl (own_w hw 19)) Via.refl e479 F483 (g := (mkF m 48 #[oR this, oI (1 : Int32), oI (0 : Int32)] [(.ref this)])) rfl rfl (hb hby d3_48)
            refine own_via st496 ?_
            show own_Go p e below _ (T496.setTop (mkF m 51 #[oR this, oI (1 : Int32), oI (0 : Int32)] [(.ref aso)]))
            refine own_via (fun t kz => XS.iloadN X496.here hx rfl (hb hby d3_51) rfl kz) ?_
            show own_Go p e below _ (T496.setTop (mkF m 52 #[oR this, oI (1 : Int32), oI (0 : Int32)] [(.int (1 : Int32)), (.ref aso)]))
            obtain ⟨cl497, Ar497, kc497, Sz497, Nn497, Hs497, Gs497⟩ := id V489
            have in497 := inb_of (j := (1 : Int32)) Sz497 ⟨by decide, by decide⟩
            have at497 : cl497.slots[((1 : Int32)).toNatClampNeg]? = some (.ref as1) := Hs497.at in497 rfl
            refine own_via (fun t kz => X496.aaload hx (j := (1 : Int32)) (v := (.ref as1)) (by rw [e496]; exact Ar497.1) (State.isArrayOf_alike hZ.alike Ar497.2.1) rfl Ar497.2.2 in497 at497 (g := (mkF m 52 #[oR this, oI (1 : Int32), oI (0 : Int32)] [(.int (1 : Int32)), (.ref aso)])) rfl rfl (hb hby d3_52) t kz) ?_
            show own_Go p e below _ (T496.setTop (mkF m 53 #[oR this, oI (1 : Int32), oI (0 : Int32)] [(.ref as1)]))
            refine own_via (fun t kz => XS.aloadN X496.here hx rfl (hb hby d3_53) rfl rfl kz) ?_
            show own_Go p e below _ (T496.setTop (mkF m 54 #[oR this, oI (1 : Int32), oI (0 : Int32)] [(.ref this), (.ref as1)]))
            obtain ⟨T498, X498, e498, st498⟩ := getF X496 hx hZ hown (host := "") (Or.inl (own_w hw 21)) Via.refl e496 F484 (g := (mkF m 54 #[oR this, oI (1 : Int32), oI (0 : Int32)] [(.ref this), (.ref as1)])) rfl rfl (hb hby d3_54)
            refine own_via st498 ?_
            show own_Go p e below _ (T498.setTop (mkF m 57 #[oR this, oI (1 : Int32), oI (0 : Int32)] [(.ref aca), (.ref as1)]))
            refine own_via (fun t kz => XS.iloadN X498.here hx rfl (hb hby d3_57) rfl kz) ?_
            show own_Go p e below _ (T498.setTop (mkF m 58 #[oR this, oI (1 : Int32), oI (0 : Int32)] [(.int (1 : Int32)), (.ref aca), (.ref as1)]))
            refine own_via (fun t kz => XT.dup2 X498.here hx rfl (hb hby d3_58) rfl rfl rfl kz) ?_
            show own_Go p e below _ (T498.setTop (mkF m 59 #[oR this, oI (1 : Int32), oI (0 : Int32)] [(.int (1 : Int32)), (.ref aca), (.int (1 : Int32)), (.ref aca), (.ref as1)]))
            obtain ⟨cl499, Ar499, kc499, Sz499, Nn499, Hs499, Gs499⟩ := id V492
            have in499 := inb_of (j := (1 : Int32)) Sz499 ⟨by decide, by decide⟩
            have at499 : cl499.slots[((1 : Int32)).toNatClampNeg]? = some (.int (0 : Int32)) := Hs499.at in499 rfl
            refine own_via (fun t kz => X498.iaload hx (j := (1 : Int32)) (v := (.int (0 : Int32))) (by rw [e498]; exact Ar499.1) (State.isArrayOf_alike hZ.alike Ar499.2.1) Ar499.2.2 in499 at499 (g := (mkF m 59 #[oR this, oI (1 : Int32), oI (0 : Int32)] [(.int (1 : Int32)), (.ref aca), (.int (1 : Int32)), (.ref aca), (.ref as1)])) rfl rfl (hb hby d3_59) t kz) ?_
            show own_Go p e below _ (T498.setTop (mkF m 60 #[oR this, oI (1 : Int32), oI (0 : Int32)] [(.int (0 : Int32)), (.int (1 : Int32)), (.ref aca), (.ref as1)]))
            refine own_via (fun t kz => own_dupX2 X498.here hx rfl (hb hby d3_60) rfl rfl rfl rfl kz) ?_
            show own_Go p e below _ (T498.setTop (mkF m 61 #[oR this, oI (1 : Int32), oI (0 : Int32)] [(.int (0 : Int32)), (.int (1 : Int32)), (.ref aca), (.int (0 : Int32)), (.ref as1)]))
            refine own_via (fun t kz => XS.iconst X498.here hx rfl (hb hby d3_61) kz) ?_
            show own_Go p e below _ (T498.setTop (mkF m 62 #[oR this, oI (1 : Int32), oI (0 : Int32)] [(.int (1 : Int32)), (.int (0 : Int32)), (.int (1 : Int32)), (.ref aca), (.int (0 : Int32)), (.ref as1)]))
            refine own_via (fun t kz => XS.iadd X498.here hx rfl (hb hby d3_62) rfl kz) ?_
            show own_Go p e below _ (T498.setTop (mkF m 63 #[oR this, oI (1 : Int32), oI (0 : Int32)] [(.int (1 : Int32)), (.int (1 : Int32)), (.ref aca), (.int (0 : Int32)), (.ref as1)]))
            obtain ⟨cl500, Ar500, kc500, Sz500, Nn500, Hs500, Gs500⟩ := id V492
            obtain ⟨T500, h500, X500, e500, W500, st500⟩ := stI X498 hx hZ e498 Ar500 (j := (1 : Int32)) (inb_of Sz500 ⟨by decide, by decide⟩) (g := (mkF m 63 #[oR this, oI (1 : Int32), oI (0 : Int32)] [(.int (1 : Int32)), (.int (1 : Int32)), (.ref aca), (.int (0 : Int32)), (.ref as1)])) rfl rfl (hb hby d3_63)
            refine own_via st500 ?_
            have E501 := E480.wr W500
            have F502 := F481.other W500 (Or.inl (own_neq (by omega)))
            have F503 := F482.other W500 (Or.inl (own_neq (by omega)))
            have F504 := F483.other W500 (Or.inl (own_neq (by omega)))
            have F505 := F484.other W500 (Or.inl (own_neq (by omega)))
            have F506 := F485.other W500 (Or.inl (own_neq (by omega)))
            have V507 := V486.other W500 (own_neq (by omega))
            have V508 := V487.other W500 (own_neq (by omega))
            have V509 := V488.other W500 (own_neq (by omega))
            have V510 := V495.other W500 (own_neq (by omega))
            have V511 := V489.other W500 (own_neq (by omega))
            have V512 := V490.other W500 (own_neq (by omega))
            have V513 := V491.other W500 (own_neq (by omega))
            have Zs514 : n0 ≤ h500.size := Nat.le_trans Zs493 (Keep.of_wr W500).1
            have N515 := Fr.snoc X500 N494 (show n0 ≤ aca by omega)
            have V516 : Arv Z h500 aca ck8 .int (2 : Int32) [(.int wc0), (.int (1 : Int32))] (.int (0 : Int32)) := Arv.set Ar500 kc500 Sz500 Nn500 Hs500 Gs500 rfl W500 1 (by first | decide | (show 1 < 2; decide)) (by first | decide | (show 1 < 2; decide))
            show own_Go p e below _ (T500.setTop (mkF m 64 #[oR this, oI (1 : Int32), oI (0 : Int32)] [(.int (0 : Int32)), (.ref as1)]))
            refine own_via (fun t kz => XS.iloadN X500.here hx rfl (hb hby d3_64) rfl kz) ?_
            show own_Go p e below _ (T500.setTop (mkF m 65 #[oR this, oI (1 : Int32), oI (0 : Int32)] [(.int (0 : Int32)), (.int (0 : Int32)), (.ref as1)]))
            obtain ⟨cl517, Ar517, kc517, Sz517, Nn517, Hs517, Gs517⟩ := id V513
            obtain ⟨T517, h517, X517, e517, W517, st517⟩ := stI X500 hx hZ e500 Ar517 (j := (0 : Int32)) (inb_of Sz517 ⟨by decide, by decide⟩) (g := (mkF m 65 #[oR this, oI (1 : Int32), oI (0 : Int32)] [(.int (0 : Int32)), (.int (0 : Int32)), (.ref as1)])) rfl rfl (hb hby d3_65)
            refine own_via st517 ?_
            have E518 := E501.wr W517
            have F519 := F502.other W517 (Or.inl (own_neq (by omega)))
            have F520 := F503.other W517 (Or.inl (own_neq (by omega)))
            have F521 := F504.other W517 (Or.inl (own_neq (by omega)))
            have F522 := F505.other W517 (Or.inl (own_neq (by omega)))
            have F523 := F506.other W517 (Or.inl (own_neq (by omega)))
            have V524 := V507.other W517 (own_neq (by omega))
            have V525 := V508.other W517 (own_neq (by omega))
            have V526 := V509.other W517 (own_neq (by omega))
            have V527 := V510.other W517 (own_neq (by omega))
            have V528 := V511.other W517 (own_neq (by omega))
            have V529 := V512.other W517 (own_neq (by omega))
            have V530 := V516.other W517 (own_neq (by omega))
            have Zs531 : n0 ≤ h517.size := Nat.le_trans Zs514 (Keep.of_wr W517).1
            have N532 := Fr.snoc X517 N515 (show n0 ≤ as1 by omega)
            have V533 : Arv Z h517 as1 ck7 .int (2 : Int32) [(.int (0 : Int32)), (.int ws11)] (.int (0 : Int32)) := Arv.set Ar517 kc517 Sz517 Nn517 Hs517 Gs517 rfl W517 0 (by first | decide | (show 0 < 2; decide)) (by first | decide | (show 0 < 2; decide))
            show own_Go p e below _ (T517.setTop (mkF m 66 #[oR this, oI (1 : Int32), oI (0 : Int32)] []))
            have hT : own_TC Z h517 n0 this (own_mk wm00 wm01 (1 : Int32) wm11 (1 : Int32) wt1 ws00 ws01 (0 : Int32) ws11 wc0 (1 : Int32) (1 : Int32)) := ⟨amo, am0, am1, ata, aso, as0, as1, aca, ck1, ck2, ck3, ck4, ck5, ck6, ck7, ck8, ⟨by omega, by omega, by omega, by omega, by omega, by omega, by omega, by omega, by omega⟩, E518, F519, F520, F521, F522, F523, V524, V525, V526, V527, V528, V529, V533, V530⟩
            obtain ⟨fs, hr, hrun, hended, hW, hsame⟩ := X517.leave (v := none) (fun _ => rfl)
            refine ⟨_, _, X517.returnOut hx Bd.returns (hb hby d3_66) hr, hrun, hended, _, _, rfl, ?_, ⟨_, rfl⟩, hW, hsame.mono (by decide) (by decide)⟩
            show Q3 Z this (1 : Int32) (0 : Int32) wm00 wm01 wm10 wm11 wt0 wt1 ws00 ws01 ws10 ws11 wc0 (0 : Int32) (0 : Int32) h0 n0 _ T517.heap _
            rw [e517]
            exact ⟨rfl, N532, Zs531, by unfold own_mark; rw [if_neg (by decide : ¬ ((1 : Int32) = (0 : Int32))), if_pos (by decide : (0 : Int32) = (0 : Int32)), if_pos hc8_437, if_pos (by decide : (0 : Int32) = (0 : Int32)), if_pos (by decide : (0 : Int32) = (0 : Int32))]; exact hT⟩
          · show own_Go p e below _ (T457.setTop (mkF m 30 #[oR this, oI (1 : Int32), oI (0 : Int32)] []))
            refine own_via (fun t kz => XS.aloadN X457.here hx rfl (hb hby d3_30) rfl rfl kz) ?_
            show own_Go p e below _ (T457.setTop (mkF m 31 #[oR this, oI (1 : Int32), oI (0 : Int32)] [(.ref this)]))
            obtain ⟨T535, X535, e535, st535⟩ := getF X457 hx hZ hown (host := "") (Or.inl (own_w hw 15)) Via.refl e457 F443 (g := (mkF m 31 #[oR this, oI (1 : Int32), oI (0 : Int32)] [(.ref this)])) rfl rfl (hb hby d3_31)
            refine own_via st535 ?_
            show own_Go p e below _ (T535.setTop (mkF m 34 #[oR this, oI (1 : Int32), oI (0 : Int32)] [(.ref ata)]))
            refine own_via (fun t kz => XS.aloadN X535.here hx rfl (hb hby d3_34) rfl rfl kz) ?_
            show own_Go p e below _ (T535.setTop (mkF m 35 #[oR this, oI (1 : Int32), oI (0 : Int32)] [(.ref this), (.ref ata)]))
            refine own_via (fun t kz => XS.dup X535.here hx rfl (hb hby d3_35) rfl rfl kz) ?_
            show own_Go p e below _ (T535.setTop (mkF m 36 #[oR this, oI (1 : Int32), oI (0 : Int32)] [(.ref this), (.ref this), (.ref ata)]))
            obtain ⟨T536, X536, e536, st536⟩ := getF X535 hx hZ hown (host := "") (Or.inl (own_w hw 28)) Via.refl e535 F446 (g := (mkF m 36 #[oR this, oI (1 : Int32), oI (0 : Int32)] [(.ref this), (.ref this), (.ref ata)])) rfl rfl (hb hby d3_36)
            refine own_via st536 ?_
            show own_Go p e below _ (T536.setTop (mkF m 39 #[oR this, oI (1 : Int32), oI (0 : Int32)] [(.int (1 : Int32)), (.ref this), (.ref ata)]))
            refine own_via (fun t kz => XS.dupX1 X536.here hx rfl (hb hby d3_39) rfl rfl rfl kz) ?_
            show own_Go p e below _ (T536.setTop (mkF m 40 #[oR this, oI (1 : Int32), oI (0 : Int32)] [(.int (1 : Int32)), (.ref this), (.int (1 : Int32)), (.ref ata)]))
            refine own_via (fun t kz => XS.iconst X536.here hx rfl (hb hby d3_40) kz) ?_
            show own_Go p e below _ (T536.setTop (mkF m 41 #[oR this, oI (1 : Int32), oI (0 : Int32)] [(.int (1 : Int32)), (.int (1 : Int32)), (.ref this), (.int (1 : Int32)), (.ref ata)]))
            refine own_via (fun t kz => XS.iadd X536.here hx rfl (hb hby d3_41) rfl kz) ?_
            show own_Go p e below _ (T536.setTop (mkF m 42 #[oR this, oI (1 : Int32), oI (0 : Int32)] [(.int (2 : Int32)), (.ref this), (.int (1 : Int32)), (.ref ata)]))
            obtain ⟨T537, h537, X537, e537, W537, st537⟩ := putF X536 hx hZ hown (host := "") (Or.inl (own_w hw 28)) Via.refl e536 F446 E441 (Or.inl (own_w hw 29)) (own_w hw 1) (ty := .int) (by decide) rfl rfl (g := (mkF m 42 #[oR this, oI (1 : Int32), oI (0 : Int32)] [(.int (2 : Int32)), (.ref this), (.int (1 : Int32)), (.ref ata)])) rfl rfl (hb hby d3_42)
            refine own_via st537 ?_
            have E538 := E441.wr W537
            have F539 := F442.other W537 (Or.inr (slot_ne (Or.inr (own_w hw 13)) (Or.inl (own_w hw 29)) (by decide) (t := (.array (.array .boolean))) (t' := .int) (by decide) (by decide)))
            have F540 := F443.other W537 (Or.inr (slot_ne (Or.inr (own_w hw 16)) (Or.inl (own_w hw 29)) (by decide) (t := (.array .int)) (t' := .int) (by decide) (by decide)))
            have F541 := F444.other W537 (Or.inr (slot_ne (Or.inr (own_w hw 20)) (Or.inl (own_w hw 29)) (by decide) (t := (.array (.array .int))) (t' := .int) (by decide) (by decide)))
            have F542 := F445.other W537 (Or.inr (slot_ne (Or.inr (own_w hw 22)) (Or.inl (own_w hw 29)) (by decide) (t := (.array .int)) (t' := .int) (by decide) (by decide)))
            have F543 := F446.same W537
            have V544 := V447.other W537 (own_neq (by omega))
            have V545 := V448.other W537 (own_neq (by omega))
            have V546 := V456.other W537 (own_neq (by omega))
            have V547 := V449.other W537 (own_neq (by omega))
            have V548 := V450.other W537 (own_neq (by omega))
            have V549 := V451.other W537 (own_neq (by omega))
            have V550 := V452.other W537 (own_neq (by omega))
            have V551 := V453.other W537 (own_neq (by omega))
            have Zs552 : n0 ≤ h537.size := Nat.le_trans Zs454 (Keep.of_wr W537).1
            have N553 := Fr.snoc X537 N455 (show n0 ≤ this by omega)
            show own_Go p e below _ (T537.setTop (mkF m 45 #[oR this, oI (1 : Int32), oI (0 : Int32)] [(.int (1 : Int32)), (.ref ata)]))
            refine own_via (fun t kz => XS.iloadN X537.here hx rfl (hb hby d3_45) rfl kz) ?_
            show own_Go p e below _ (T537.setTop (mkF m 46 #[oR this, oI (1 : Int32), oI (0 : Int32)] [(.int (1 : Int32)), (.int (1 : Int32)), (.ref ata)]))
            obtain ⟨cl554, Ar554, kc554, Sz554, Nn554, Hs554, Gs554⟩ := id V547
            obtain ⟨T554, h554, X554, e554, W554, st554⟩ := stI X537 hx hZ e537 Ar554 (j := (1 : Int32)) (inb_of Sz554 ⟨by decide, by decide⟩) (g := (mkF m 46 #[oR this, oI (1 : Int32), oI (0 : Int32)] [(.int (1 : Int32)), (.int (1 : Int32)), (.ref ata)])) rfl rfl (hb hby d3_46)
            refine own_via st554 ?_
            have E555 := E538.wr W554
            have F556 := F539.other W554 (Or.inl (own_neq (by omega)))
            have F557 := F540.other W554 (Or.inl (own_neq (by omega)))
            have F558 := F541.other W554 (Or.inl (own_neq (by omega)))
            have F559 := F542.other W554 (Or.inl (own_neq (by omega)))
            have F560 := F543.other W554 (Or.inl (own_neq (by omega)))
            have V561 := V544.other W554 (own_neq (by omega))
            have V562 := V545.other W554 (own_neq (by omega))
            have V563 := V546.other W554 (own_neq (by omega))
            have V564 := V548.other W554 (own_neq (by omega))
            have V565 := V549.other W554 (own_neq (by omega))
            have V566 := V550.other W554 (own_neq (by omega))
            have V567 := V551.other W554 (own_neq (by omega))
            have Zs568 : n0 ≤ h554.size := Nat.le_trans Zs552 (Keep.of_wr W554).1
            have N569 := Fr.snoc X554 N553 (show n0 ≤ ata by omega)
            have V570 : Arv Z h554 ata ck4 .int (2 : Int32) [(.int wt0), (.int (1 : Int32))] (.int (0 : Int32)) := Arv.set Ar554 kc554 Sz554 Nn554 Hs554 Gs554 rfl W554 1 (by first | decide | (show 1 < 2; decide)) (by first | decide | (show 1 < 2; decide))
            show own_Go p e below _ (T554.setTop (mkF m 47 #[oR this, oI (1 : Int32), oI (0 : Int32)] []))
            refine own_via (fun t kz => XS.aloadN X554.here hx rfl (hb hby d3_47) rfl rfl kz) ?_
            show own_Go p e below _ (T554.setTop (mkF m 48 #[oR this, oI (1 : Int32), oI (0 : Int32)] [(.ref this)]))
            obtain ⟨T571, X571, e571, st571⟩ := getF X554 hx hZ hown (host := "") (Or.inl (own_w hw 19)) Via.refl e554 F558 (g := (mkF m 48 #[oR this, oI (1 : Int32), oI (0 : Int32)] [(.ref this)])) rfl rfl (hb hby d3_48)
            refine own_via st571 ?_
            show own_Go p e below _ (T571.setTop (mkF m 51 #[oR this, oI (1 : Int32), oI (0 : Int32)] [(.ref aso)]))
            refine own_via (fun t kz => XS.iloadN X571.here hx rfl (hb hby d3_51) rfl kz) ?_
            show own_Go p e below _ (T571.setTop (mkF m 52 #[oR this, oI (1 : Int32), oI (0 : Int32)] [(.int (1 : Int32)), (.ref aso)]))
            obtain ⟨cl572, Ar572, kc572, Sz572, Nn572, Hs572, Gs572⟩ := id V564
            have in572 := inb_of (j := (1 : Int32)) Sz572 ⟨by decide, by decide⟩
            have at572 : cl572.slots[((1 : Int32)).toNatClampNeg]? = some (.ref as1) := Hs572.at in572 rfl
            refine own_via (fun t kz => X571.aaload hx (j := (1 : Int32)) (v := (.ref as1)) (by rw [e571]; exact Ar572.1) (State.isArrayOf_alike hZ.alike Ar572.2.1) rfl Ar572.2.2 in572 at572 (g := (mkF m 52 #[oR this, oI (1 : Int32), oI (0 : Int32)] [(.int (1 : Int32)), (.ref aso)])) rfl rfl (hb hby d3_52) t kz) ?_
            show own_Go p e below _ (T571.setTop (mkF m 53 #[oR this, oI (1 : Int32), oI (0 : Int32)] [(.ref as1)]))
            refine own_via (fun t kz => XS.aloadN X571.here hx rfl (hb hby d3_53) rfl rfl kz) ?_
            show own_Go p e below _ (T571.setTop (mkF m 54 #[oR this, oI (1 : Int32), oI (0 : Int32)] [(.ref this), (.ref as1)]))
            obtain ⟨T573, X573, e573, st573⟩ := getF X571 hx hZ hown (host := "") (Or.inl (own_w hw 21)) Via.refl e571 F559 (g := (mkF m 54 #[oR this, oI (1 : Int32), oI (0 : Int32)] [(.ref this), (.ref as1)])) rfl rfl (hb hby d3_54)
            refine own_via st573 ?_
            show own_Go p e below _ (T573.setTop (mkF m 57 #[oR this, oI (1 : Int32), oI (0 : Int32)] [(.ref aca), (.ref as1)]))
            refine own_via (fun t kz => XS.iloadN X573.here hx rfl (hb hby d3_57) rfl kz) ?_
            show own_Go p e below _ (T573.setTop (mkF m 58 #[oR this, oI (1 : Int32), oI (0 : Int32)] [(.int (1 : Int32)), (.ref aca), (.ref as1)]))
            refine own_via (fun t kz => XT.dup2 X573.here hx rfl (hb hby d3_58) rfl rfl rfl kz) ?_
            show own_Go p e below _ (T573.setTop (mkF m 59 #[oR this, oI (1 : Int32), oI (0 : Int32)] [(.int (1 : Int32)), (.ref aca), (.int (1 : Int32)), (.ref aca), (.ref as1)]))
            obtain ⟨cl574, Ar574, kc574, Sz574, Nn574, Hs574, Gs574⟩ := id V567
            have in574 := inb_of (j := (1 : Int32)) Sz574 ⟨by decide, by decide⟩
            have at574 : cl574.slots[((1 : Int32)).toNatClampNeg]? = some (.int (0 : Int32)) := Hs574.at in574 rfl
            refine own_via (fun t kz => X573.iaload hx (j := (1 : Int32)) (v := (.int (0 : Int32))) (by rw [e573]; exact Ar574.1) (State.isArrayOf_alike hZ.alike Ar574.2.1) Ar574.2.2 in574 at574 (g := (mkF m 59 #[oR this, oI (1 : Int32), oI (0 : Int32)] [(.int (1 : Int32)), (.ref aca), (.int (1 : Int32)), (.ref aca), (.ref as1)])) rfl rfl (hb hby d3_59) t kz) ?_
            show own_Go p e below _ (T573.setTop (mkF m 60 #[oR this, oI (1 : Int32), oI (0 : Int32)] [(.int (0 : Int32)), (.int (1 : Int32)), (.ref aca), (.ref as1)]))
            refine own_via (fun t kz => own_dupX2 X573.here hx rfl (hb hby d3_60) rfl rfl rfl rfl kz) ?_
            show own_Go p e below _ (T573.setTop (mkF m 61 #[oR this, oI (1 : Int32), oI (0 : Int32)] [(.int (0 : Int32)), (.int (1 : Int32)), (.ref aca), (.int (0 : Int32)), (.ref as1)]))
            refine own_via (fun t kz => XS.iconst X573.here hx rfl (hb hby d3_61) kz) ?_
            show own_Go p e below _ (T573.setTop (mkF m 62 #[oR this, oI (1 : Int32), oI (0 : Int32)] [(.int (1 : Int32)), (.int (0 : Int32)), (.int (1 : Int32)), (.ref aca), (.int (0 : Int32)), (.ref as1)]))
            refine own_via (fun t kz => XS.iadd X573.here hx rfl (hb hby d3_62) rfl kz) ?_
            show own_Go p e below _ (T573.setTop (mkF m 63 #[oR this, oI (1 : Int32), oI (0 : Int32)] [(.int (1 : Int32)), (.int (1 : Int32)), (.ref aca), (.int (0 : Int32)), (.ref as1)]))
            obtain ⟨cl575, Ar575, kc575, Sz575, Nn575, Hs575, Gs575⟩ := id V567
            obtain ⟨T575, h575, X575, e575, W575, st575⟩ := stI X573 hx hZ e573 Ar575 (j := (1 : Int32)) (inb_of Sz575 ⟨by decide, by decide⟩) (g := (mkF m 63 #[oR this, oI (1 : Int32), oI (0 : Int32)] [(.int (1 : Int32)), (.int (1 : Int32)), (.ref aca), (.int (0 : Int32)), (.ref as1)])) rfl rfl (hb hby d3_63)
            refine own_via st575 ?_
            have E576 := E555.wr W575
            have F577 := F556.other W575 (Or.inl (own_neq (by omega)))
            have F578 := F557.other W575 (Or.inl (own_neq (by omega)))
            have F579 := F558.other W575 (Or.inl (own_neq (by omega)))
            have F580 := F559.other W575 (Or.inl (own_neq (by omega)))
            have F581 := F560.other W575 (Or.inl (own_neq (by omega)))
            have V582 := V561.other W575 (own_neq (by omega))
            have V583 := V562.other W575 (own_neq (by omega))
            have V584 := V563.other W575 (own_neq (by omega))
            have V585 := V570.other W575 (own_neq (by omega))
            have V586 := V564.other W575 (own_neq (by omega))
            have V587 := V565.other W575 (own_neq (by omega))
            have V588 := V566.other W575 (own_neq (by omega))
            have Zs589 : n0 ≤ h575.size := Nat.le_trans Zs568 (Keep.of_wr W575).1
            have N590 := Fr.snoc X575 N569 (show n0 ≤ aca by omega)
            have V591 : Arv Z h575 aca ck8 .int (2 : Int32) [(.int wc0), (.int (1 : Int32))] (.int (0 : Int32)) := Arv.set Ar575 kc575 Sz575 Nn575 Hs575 Gs575 rfl W575 1 (by first | decide | (show 1 < 2; decide)) (by first | decide | (show 1 < 2; decide))
            show own_Go p e below _ (T575.setTop (mkF m 64 #[oR this, oI (1 : Int32), oI (0 : Int32)] [(.int (0 : Int32)), (.ref as1)]))
            refine own_via (fun t kz => XS.iloadN X575.here hx rfl (hb hby d3_64) rfl kz) ?_
            show own_Go p e below _ (T575.setTop (mkF m 65 #[oR this, oI (1 : Int32), oI (0 : Int32)] [(.int (0 : Int32)), (.int (0 : Int32)), (.ref as1)]))
            obtain ⟨cl592, Ar592, kc592, Sz592, Nn592, Hs592, Gs592⟩ := id V588
            obtain ⟨T592, h592, X592, e592, W592, st592⟩ := stI X575 hx hZ e575 Ar592 (j := (0 : Int32)) (inb_of Sz592 ⟨by decide, by decide⟩) (g := (mkF m 65 #[oR this, oI (1 : Int32), oI (0 : Int32)] [(.int (0 : Int32)), (.int (0 : Int32)), (.ref as1)])) rfl rfl (hb hby d3_65)
            refine own_via st592 ?_
            have E593 := E576.wr W592
            have F594 := F577.other W592 (Or.inl (own_neq (by omega)))
            have F595 := F578.other W592 (Or.inl (own_neq (by omega)))
            have F596 := F579.other W592 (Or.inl (own_neq (by omega)))
            have F597 := F580.other W592 (Or.inl (own_neq (by omega)))
            have F598 := F581.other W592 (Or.inl (own_neq (by omega)))
            have V599 := V582.other W592 (own_neq (by omega))
            have V600 := V583.other W592 (own_neq (by omega))
            have V601 := V584.other W592 (own_neq (by omega))
            have V602 := V585.other W592 (own_neq (by omega))
            have V603 := V586.other W592 (own_neq (by omega))
            have V604 := V587.other W592 (own_neq (by omega))
            have V605 := V591.other W592 (own_neq (by omega))
            have Zs606 : n0 ≤ h592.size := Nat.le_trans Zs589 (Keep.of_wr W592).1
            have N607 := Fr.snoc X592 N590 (show n0 ≤ as1 by omega)
            have V608 : Arv Z h592 as1 ck7 .int (2 : Int32) [(.int (0 : Int32)), (.int ws11)] (.int (0 : Int32)) := Arv.set Ar592 kc592 Sz592 Nn592 Hs592 Gs592 rfl W592 0 (by first | decide | (show 0 < 2; decide)) (by first | decide | (show 0 < 2; decide))
            show own_Go p e below _ (T592.setTop (mkF m 66 #[oR this, oI (1 : Int32), oI (0 : Int32)] []))
            have hT : own_TC Z h592 n0 this (own_mk wm00 wm01 (1 : Int32) wm11 wt0 (1 : Int32) ws00 ws01 (0 : Int32) ws11 wc0 (1 : Int32) (2 : Int32)) := ⟨amo, am0, am1, ata, aso, as0, as1, aca, ck1, ck2, ck3, ck4, ck5, ck6, ck7, ck8, ⟨by omega, by omega, by omega, by omega, by omega, by omega, by omega, by omega, by omega⟩, E593, F594, F595, F596, F597, F598, V599, V600, V601, V602, V603, V604, V608, V605⟩
            obtain ⟨fs, hr, hrun, hended, hW, hsame⟩ := X592.leave (v := none) (fun _ => rfl)
            refine ⟨_, _, X592.returnOut hx Bd.returns (hb hby d3_66) hr, hrun, hended, _, _, rfl, ?_, ⟨_, rfl⟩, hW, hsame.mono (by decide) (by decide)⟩
            show Q3 Z this (1 : Int32) (0 : Int32) wm00 wm01 wm10 wm11 wt0 wt1 ws00 ws01 ws10 ws11 wc0 (0 : Int32) (1 : Int32) h0 n0 _ T592.heap _
            rw [e592]
            exact ⟨rfl, N607, Zs606, by unfold own_mark; rw [if_neg (by decide : ¬ ((1 : Int32) = (0 : Int32))), if_pos (by decide : (0 : Int32) = (0 : Int32)), if_pos hc8_437, if_pos (by decide : (0 : Int32) = (0 : Int32)), if_neg (by decide : ¬ ((1 : Int32) = (0 : Int32)))]; exact hT⟩
        · refine own_via (fun t kz => XS.ifYes X457.here hx rfl (pc0 := 27) (pc' := 47) rfl (hb hby d3_27) rfl ((if0 _ _).trans (feq hc27_459).2) (by decide) (by decide) kz) ?_
          have hq1 : wc1 = 0 ∨ wc1 = 1 := by first | exact hok1 hc8_437 | simpa [own_pick, own_pick1, hc8_437] using hok1
          have hq2 : wc1 = 0 → wn = 0 ∨ wn = 1 := by first | exact hok2 hc8_437 | simpa [own_pick, own_pick1, hc8_437] using hok2
          have hq3 := hq1.resolve_left hc27_459
          clear hc27_459
          subst hq3
          show own_Go p e below _ (T457.setTop (mkF m 47 #[oR this, oI (1 : Int32), oI (0 : Int32)] []))
          refine own_via (fun t kz => XS.aloadN X457.here hx rfl (hb hby d3_47) rfl rfl kz) ?_
          show own_Go p e below _ (T457.setTop (mkF m 48 #[oR this, oI (1 : Int32), oI (0 : Int32)] [(.ref this)]))
          obtain ⟨T610, X610, e610, st610⟩ := getF X457 hx hZ hown (host := "") (Or.inl (own_w hw 19)) Via.refl e457 F444 (g := (mkF m 48 #[oR this, oI (1 : Int32), oI (0 : Int32)] [(.ref this)])) rfl rfl (hb hby d3_48)
          refine own_via st610 ?_
          show own_Go p e below _ (T610.setTop (mkF m 51 #[oR this, oI (1 : Int32), oI (0 : Int32)] [(.ref aso)]))
          refine own_via (fun t kz => XS.iloadN X610.here hx rfl (hb hby d3_51) rfl kz) ?_
          show own_Go p e below _ (T610.setTop (mkF m 52 #[oR this, oI (1 : Int32), oI (0 : Int32)] [(.int (1 : Int32)), (.ref aso)]))
          obtain ⟨cl611, Ar611, kc611, Sz611, Nn611, Hs611, Gs611⟩ := id V450
          have in611 := inb_of (j := (1 : Int32)) Sz611 ⟨by decide, by decide⟩
          have at611 : cl611.slots[((1 : Int32)).toNatClampNeg]? = some (.ref as1) := Hs611.at in611 rfl
          refine own_via (fun t kz => X610.aaload hx (j := (1 : Int32)) (v := (.ref as1)) (by rw [e610]; exact Ar611.1) (State.isArrayOf_alike hZ.alike Ar611.2.1) rfl Ar611.2.2 in611 at611 (g := (mkF m 52 #[oR this, oI (1 : Int32), oI (0 : Int32)] [(.int (1 : Int32)), (.ref aso)])) rfl rfl (hb hby d3_52) t kz) ?_
          show own_Go p e below _ (T610.setTop (mkF m 53 #[oR this, oI (1 : Int32), oI (0 : Int32)] [(.ref as1)]))
          refine own_via (fun t kz => XS.aloadN X610.here hx rfl (hb hby d3_53) rfl rfl kz) ?_
          show own_Go p e below _ (T610.setTop (mkF m 54 #[oR this, oI (1 : Int32), oI (0 : Int32)] [(.ref this), (.ref as1)]))
          obtain ⟨T612, X612, e612, st612⟩ := getF X610 hx hZ hown (host := "") (Or.inl (own_w hw 21)) Via.refl e610 F445 (g := (mkF m 54 #[oR this, oI (1 : Int32), oI (0 : Int32)] [(.ref this), (.ref as1)])) rfl rfl (hb hby d3_54)
          refine own_via st612 ?_
          show own_Go p e below _ (T612.setTop (mkF m 57 #[oR this, oI (1 : Int32), oI (0 : Int32)] [(.ref aca), (.ref as1)]))
          refine own_via (fun t kz => XS.iloadN X612.here hx rfl (hb hby d3_57) rfl kz) ?_
          show own_Go p e below _ (T612.setTop (mkF m 58 #[oR this, oI (1 : Int32), oI (0 : Int32)] [(.int (1 : Int32)), (.ref aca), (.ref as1)]))
          refine own_via (fun t kz => XT.dup2 X612.here hx rfl (hb hby d3_58) rfl rfl rfl kz) ?_
          show own_Go p e below _ (T612.setTop (mkF m 59 #[oR this, oI (1 : Int32), oI (0 : Int32)] [(.int (1 : Int32)), (.ref aca), (.int (1 : Int32)), (.ref aca), (.ref as1)]))
          obtain ⟨cl613, Ar613, kc613, Sz613, Nn613, Hs613, Gs613⟩ := id V453
          have in613 := inb_of (j := (1 : Int32)) Sz613 ⟨by decide, by decide⟩
          have at613 : cl613.slots[((1 : Int32)).toNatClampNeg]? = some (.int (1 : Int32)) := Hs613.at in613 rfl
          refine own_via (fun t kz => X612.iaload hx (j := (1 : Int32)) (v := (.int (1 : Int32))) (by rw [e612]; exact Ar613.1) (State.isArrayOf_alike hZ.alike Ar613.2.1) Ar613.2.2 in613 at613 (g := (mkF m 59 #[oR this, oI (1 : Int32), oI (0 : Int32)] [(.int (1 : Int32)), (.ref aca), (.int (1 : Int32)), (.ref aca), (.ref as1)])) rfl rfl (hb hby d3_59) t kz) ?_
          show own_Go p e below _ (T612.setTop (mkF m 60 #[oR this, oI (1 : Int32), oI (0 : Int32)] [(.int (1 : Int32)), (.int (1 : Int32)), (.ref aca), (.ref as1)]))
          refine own_via (fun t kz => own_dupX2 X612.here hx rfl (hb hby d3_60) rfl rfl rfl rfl kz) ?_
          show own_Go p e below _ (T612.setTop (mkF m 61 #[oR this, oI (1 : Int32), oI (0 : Int32)] [(.int (1 : Int32)), (.int (1 : Int32)), (.ref aca), (.int (1 : Int32)), (.ref as1)]))
          refine own_via (fun t kz => XS.iconst X612.here hx rfl (hb hby d3_61) kz) ?_
          show own_Go p e below _ (T612.setTop (mkF m 62 #[oR this, oI (1 : Int32), oI (0 : Int32)] [(.int (1 : Int32)), (.int (1 : Int32)), (.int (1 : Int32)), (.ref aca), (.int (1 : Int32)), (.ref as1)]))
          refine own_via (fun t kz => XS.iadd X612.here hx rfl (hb hby d3_62) rfl kz) ?_
          show own_Go p e below _ (T612.setTop (mkF m 63 #[oR this, oI (1 : Int32), oI (0 : Int32)] [(.int (2 : Int32)), (.int (1 : Int32)), (.ref aca), (.int (1 : Int32)), (.ref as1)]))
          obtain ⟨cl614, Ar614, kc614, Sz614, Nn614, Hs614, Gs614⟩ := id V453
          obtain ⟨T614, h614, X614, e614, W614, st614⟩ := stI X612 hx hZ e612 Ar614 (j := (1 : Int32)) (inb_of Sz614 ⟨by decide, by decide⟩) (g := (mkF m 63 #[oR this, oI (1 : Int32), oI (0 : Int32)] [(.int (2 : Int32)), (.int (1 : Int32)), (.ref aca), (.int (1 : Int32)), (.ref as1)])) rfl rfl (hb hby d3_63)
          refine own_via st614 ?_
          have E615 := E441.wr W614
          have F616 := F442.other W614 (Or.inl (own_neq (by omega)))
          have F617 := F443.other W614 (Or.inl (own_neq (by omega)))
          have F618 := F444.other W614 (Or.inl (own_neq (by omega)))
          have F619 := F445.other W614 (Or.inl (own_neq (by omega)))
          have F620 := F446.other W614 (Or.inl (own_neq (by omega)))
          have V621 := V447.other W614 (own_neq (by omega))
          have V622 := V448.other W614 (own_neq (by omega))
          have V623 := V456.other W614 (own_neq (by omega))
          have V624 := V449.other W614 (own_neq (by omega))
          have V625 := V450.other W614 (own_neq (by omega))
          have V626 := V451.other W614 (own_neq (by omega))
          have V627 := V452.other W614 (own_neq (by omega))
          have Zs628 : n0 ≤ h614.size := Nat.le_trans Zs454 (Keep.of_wr W614).1
          have N629 := Fr.snoc X614 N455 (show n0 ≤ aca by omega)
          have V630 : Arv Z h614 aca ck8 .int (2 : Int32) [(.int wc0), (.int (2 : Int32))] (.int (0 : Int32)) := Arv.set Ar614 kc614 Sz614 Nn614 Hs614 Gs614 rfl W614 1 (by first | decide | (show 1 < 2; decide)) (by first | decide | (show 1 < 2; decide))
          show own_Go p e below _ (T614.setTop (mkF m 64 #[oR this, oI (1 : Int32), oI (0 : Int32)] [(.int (1 : Int32)), (.ref as1)]))
          refine own_via (fun t kz => XS.iloadN X614.here hx rfl (hb hby d3_64) rfl kz) ?_
          show own_Go p e below _ (T614.setTop (mkF m 65 #[oR this, oI (1 : Int32), oI (0 : Int32)] [(.int (0 : Int32)), (.int (1 : Int32)), (.ref as1)]))
          obtain ⟨cl631, Ar631, kc631, Sz631, Nn631, Hs631, Gs631⟩ := id V627
          obtain ⟨T631, h631, X631, e631, W631, st631⟩ := stI X614 hx hZ e614 Ar631 (j := (1 : Int32)) (inb_of Sz631 ⟨by decide, by decide⟩) (g := (mkF m 65 #[oR this, oI (1 : Int32), oI (0 : Int32)] [(.int (0 : Int32)), (.int (1 : Int32)), (.ref as1)])) rfl rfl (hb hby d3_65)
          refine own_via st631 ?_
          have E632 := E615.wr W631
          have F633 := F616.other W631 (Or.inl (own_neq (by omega)))
          have F634 := F617.other W631 (Or.inl (own_neq (by omega)))
          have F635 := F618.other W631 (Or.inl (own_neq (by omega)))
          have F636 := F619.other W631 (Or.inl (own_neq (by omega)))
          have F637 := F620.other W631 (Or.inl (own_neq (by omega)))
          have V638 := V621.other W631 (own_neq (by omega))
          have V639 := V622.other W631 (own_neq (by omega))
          have V640 := V623.other W631 (own_neq (by omega))
          have V641 := V624.other W631 (own_neq (by omega))
          have V642 := V625.other W631 (own_neq (by omega))
          have V643 := V626.other W631 (own_neq (by omega))
          have V644 := V630.other W631 (own_neq (by omega))
          have Zs645 : n0 ≤ h631.size := Nat.le_trans Zs628 (Keep.of_wr W631).1
          have N646 := Fr.snoc X631 N629 (show n0 ≤ as1 by omega)
          have V647 : Arv Z h631 as1 ck7 .int (2 : Int32) [(.int ws10), (.int (0 : Int32))] (.int (0 : Int32)) := Arv.set Ar631 kc631 Sz631 Nn631 Hs631 Gs631 rfl W631 1 (by first | decide | (show 1 < 2; decide)) (by first | decide | (show 1 < 2; decide))
          show own_Go p e below _ (T631.setTop (mkF m 66 #[oR this, oI (1 : Int32), oI (0 : Int32)] []))
          have hT : own_TC Z h631 n0 this (own_mk wm00 wm01 (1 : Int32) wm11 wt0 wt1 ws00 ws01 ws10 (0 : Int32) wc0 (2 : Int32) wn) := ⟨amo, am0, am1, ata, aso, as0, as1, aca, ck1, ck2, ck3, ck4, ck5, ck6, ck7, ck8, ⟨by omega, by omega, by omega, by omega, by omega, by omega, by omega, by omega, by omega⟩, E632, F633, F634, F635, F636, F637, V638, V639, V640, V641, V642, V643, V647, V644⟩
          obtain ⟨fs, hr, hrun, hended, hW, hsame⟩ := X631.leave (v := none) (fun _ => rfl)
          refine ⟨_, _, X631.returnOut hx Bd.returns (hb hby d3_66) hr, hrun, hended, _, _, rfl, ?_, ⟨_, rfl⟩, hW, hsame.mono (by decide) (by decide)⟩
          show Q3 Z this (1 : Int32) (0 : Int32) wm00 wm01 wm10 wm11 wt0 wt1 ws00 ws01 ws10 ws11 wc0 (1 : Int32) wn h0 n0 _ T631.heap _
          rw [e631]
          exact ⟨rfl, N646, Zs645, by unfold own_mark; rw [if_neg (by decide : ¬ ((1 : Int32) = (0 : Int32))), if_pos (by decide : (0 : Int32) = (0 : Int32)), if_pos hc8_437, if_neg (by decide : ¬ ((1 : Int32) = (0 : Int32)))]; exact hT⟩
      · refine own_via (fun t kz => XS.ifNo X434.here hx rfl (hb hby d3_8) rfl ((if0 _ _).trans (feq hc8_437).1) kz) ?_
        show own_Go p e below _ (T434.setTop (mkF m 11 #[oR this, oI (1 : Int32), oI (0 : Int32)] []))
        have hT : own_TC Z h0 n0 this (own_mk wm00 wm01 wm10 wm11 wt0 wt1 ws00 ws01 ws10 ws11 wc0 wc1 wn) := ⟨amo, am0, am1, ata, aso, as0, as1, aca, ck1, ck2, ck3, ck4, ck5, ck6, ck7, ck8, ⟨by omega, by omega, by omega, by omega, by omega, by omega, by omega, by omega, by omega⟩, Eq, Fo0, Fo1, Fo2, Fo3, Fo4, Vo0, Vo1, Vo2, Vo3, Vo4, Vo5, Vo6, Vo7⟩
        obtain ⟨fs, hr, hrun, hended, hW, hsame⟩ := X434.leave (v := none) (fun _ => rfl)
        refine ⟨_, _, X434.returnOut hx Bd.returns (hb hby d3_11) hr, hrun, hended, _, _, rfl, ?_, ⟨_, rfl⟩, hW, hsame.mono (by decide) (by decide)⟩
        show Q3 Z this (1 : Int32) (0 : Int32) wm00 wm01 wm10 wm11 wt0 wt1 ws00 ws01 ws10 ws11 wc0 wc1 wn h0 n0 _ T434.heap _
        rw [e434]
        exact ⟨rfl, N0, Z0, by unfold own_mark; rw [if_neg (by decide : ¬ ((1 : Int32) = (0 : Int32))), if_pos (by decide : (0 : Int32) = (0 : Int32)), if_neg hc8_437]; exact hT⟩
    · show own_Go p e below _ (s₁.setTop (mkF m 0 #[oR this, oI (1 : Int32), oI (1 : Int32)] []))
      refine own_via (fun t kz => XS.aloadN X0.here hx rfl (hb hby d3_0) rfl rfl kz) ?_
      show own_Go p e below _ (s₁.setTop (mkF m 1 #[oR this, oI (1 : Int32), oI (1 : Int32)] [(.ref this)]))
      obtain ⟨T650, X650, e650, st650⟩ := getF X0 hx hZ hown (host := "") (Or.inl (own_w hw 12)) Via.refl e0 Fo0 (g := (mkF m 1 #[oR this, oI (1 : Int32), oI (1 : Int32)] [(.ref this)])) rfl rfl (hb hby d3_1)
      refine own_via st650 ?_
      show own_Go p e below _ (T650.setTop (mkF m 4 #[oR this, oI (1 : Int32), oI (1 : Int32)] [(.ref amo)]))
      refine own_via (fun t kz => XS.iloadN X650.here hx rfl (hb hby d3_4) rfl kz) ?_
      show own_Go p e below _ (T650.setTop (mkF m 5 #[oR this, oI (1 : Int32), oI (1 : Int32)] [(.int (1 : Int32)), (.ref amo)]))
      obtain ⟨cl651, Ar651, kc651, Sz651, Nn651, Hs651, Gs651⟩ := id Vo0
      have in651 := inb_of (j := (1 : Int32)) Sz651 ⟨by decide, by decide⟩
      have at651 : cl651.slots[((1 : Int32)).toNatClampNeg]? = some (.ref am1) := Hs651.at in651 rfl
      refine own_via (fun t kz => X650.aaload hx (j := (1 : Int32)) (v := (.ref am1)) (by rw [e650]; exact Ar651.1) (State.isArrayOf_alike hZ.alike Ar651.2.1) rfl Ar651.2.2 in651 at651 (g := (mkF m 5 #[oR this, oI (1 : Int32), oI (1 : Int32)] [(.int (1 : Int32)), (.ref amo)])) rfl rfl (hb hby d3_5) t kz) ?_
      show own_Go p e below _ (T650.setTop (mkF m 6 #[oR this, oI (1 : Int32), oI (1 : Int32)] [(.ref am1)]))
      refine own_via (fun t kz => XS.iloadN X650.here hx rfl (hb hby d3_6) rfl kz) ?_
      show own_Go p e below _ (T650.setTop (mkF m 7 #[oR this, oI (1 : Int32), oI (1 : Int32)] [(.int (1 : Int32)), (.ref am1)]))
      obtain ⟨cl652, Ar652, kc652, Sz652, Nn652, Hs652, Gs652⟩ := id Vo2
      have in652 := inb_of (j := (1 : Int32)) Sz652 ⟨by decide, by decide⟩
      have at652 : cl652.slots[((1 : Int32)).toNatClampNeg]? = some (.int wm11) := Hs652.at in652 rfl
      refine own_via (fun t kz => X650.baloadBooleans hx (j := (1 : Int32)) (v := (.int wm11)) (by rw [e650]; exact Ar652.1) (State.isArrayOf_alike hZ.alike Ar652.2.1) Ar652.2.2 in652 at652 (g := (mkF m 7 #[oR this, oI (1 : Int32), oI (1 : Int32)] [(.int (1 : Int32)), (.ref am1)])) rfl rfl (hb hby d3_7) t kz) ?_
      show own_Go p e below _ (T650.setTop (mkF m 8 #[oR this, oI (1 : Int32), oI (1 : Int32)] [(.int wm11)]))
      by_cases hc8_653 : wm11 = (0 : Int32)
      · refine own_via (fun t kz => XS.ifYes X650.here hx rfl (pc0 := 8) (pc' := 12) rfl (hb hby d3_8) rfl ((if0 _ _).trans (teq hc8_653).1) (by decide) (by decide) kz) ?_
        show own_Go p e below _ (T650.setTop (mkF m 12 #[oR this, oI (1 : Int32), oI (1 : Int32)] []))
        refine own_via (fun t kz => XS.aloadN X650.here hx rfl (hb hby d3_12) rfl rfl kz) ?_
        show own_Go p e below _ (T650.setTop (mkF m 13 #[oR this, oI (1 : Int32), oI (1 : Int32)] [(.ref this)]))
        obtain ⟨T654, X654, e654, st654⟩ := getF X650 hx hZ hown (host := "") (Or.inl (own_w hw 12)) Via.refl e650 Fo0 (g := (mkF m 13 #[oR this, oI (1 : Int32), oI (1 : Int32)] [(.ref this)])) rfl rfl (hb hby d3_13)
        refine own_via st654 ?_
        show own_Go p e below _ (T654.setTop (mkF m 16 #[oR this, oI (1 : Int32), oI (1 : Int32)] [(.ref amo)]))
        refine own_via (fun t kz => XS.iloadN X654.here hx rfl (hb hby d3_16) rfl kz) ?_
        show own_Go p e below _ (T654.setTop (mkF m 17 #[oR this, oI (1 : Int32), oI (1 : Int32)] [(.int (1 : Int32)), (.ref amo)]))
        obtain ⟨cl655, Ar655, kc655, Sz655, Nn655, Hs655, Gs655⟩ := id Vo0
        have in655 := inb_of (j := (1 : Int32)) Sz655 ⟨by decide, by decide⟩
        have at655 : cl655.slots[((1 : Int32)).toNatClampNeg]? = some (.ref am1) := Hs655.at in655 rfl
        refine own_via (fun t kz => X654.aaload hx (j := (1 : Int32)) (v := (.ref am1)) (by rw [e654]; exact Ar655.1) (State.isArrayOf_alike hZ.alike Ar655.2.1) rfl Ar655.2.2 in655 at655 (g := (mkF m 17 #[oR this, oI (1 : Int32), oI (1 : Int32)] [(.int (1 : Int32)), (.ref amo)])) rfl rfl (hb hby d3_17) t kz) ?_
        show own_Go p e below _ (T654.setTop (mkF m 18 #[oR this, oI (1 : Int32), oI (1 : Int32)] [(.ref am1)]))
        refine own_via (fun t kz => XS.iloadN X654.here hx rfl (hb hby d3_18) rfl kz) ?_
        show own_Go p e below _ (T654.setTop (mkF m 19 #[oR this, oI (1 : Int32), oI (1 : Int32)] [(.int (1 : Int32)), (.ref am1)]))
        refine own_via (fun t kz => XS.iconst X654.here hx rfl (hb hby d3_19) kz) ?_
        show own_Go p e below _ (T654.setTop (mkF m 20 #[oR this, oI (1 : Int32), oI (1 : Int32)] [(.int (1 : Int32)), (.int (1 : Int32)), (.ref am1)]))
        obtain ⟨cl656, Ar656, kc656, Sz656, Nn656, Hs656, Gs656⟩ := id Vo2
        obtain ⟨T656, h656, X656, e656, W656, st656⟩ := stZ X654 hx hZ e654 Ar656 (j := (1 : Int32)) (inb_of Sz656 ⟨by decide, by decide⟩) (g := (mkF m 20 #[oR this, oI (1 : Int32), oI (1 : Int32)] [(.int (1 : Int32)), (.int (1 : Int32)), (.ref am1)])) rfl rfl (hb hby d3_20)
        refine own_via st656 ?_
        have na656 : nar .boolean (1 : Int32) = (1 : Int32) := by decide
        rw [na656] at W656
        have E657 := Eq.wr W656
        have F658 := Fo0.other W656 (Or.inl (own_neq (by omega)))
        have F659 := Fo1.other W656 (Or.inl (own_neq (by omega)))
        have F660 := Fo2.other W656 (Or.inl (own_neq (by omega)))
        have F661 := Fo3.other W656 (Or.inl (own_neq (by omega)))
        have F662 := Fo4.other W656 (Or.inl (own_neq (by omega)))
        have V663 := Vo0.other W656 (own_neq (by omega))
        have V664 := Vo1.other W656 (own_neq (by omega))
        have V665 := Vo3.other W656 (own_neq (by omega))
        have V666 := Vo4.other W656 (own_neq (by omega))
        have V667 := Vo5.other W656 (own_neq (by omega))
        have V668 := Vo6.other W656 (own_neq (by omega))
        have V669 := Vo7.other W656 (own_neq (by omega))
        have Zs670 : n0 ≤ h656.size := Nat.le_trans Z0 (Keep.of_wr W656).1
        have N671 := Fr.snoc X656 N0 (show n0 ≤ am1 by omega)
        have V672 : Arv Z h656 am1 ck3 .boolean (2 : Int32) [(.int wm10), (.int (1 : Int32))] (.int (0 : Int32)) := Arv.set Ar656 kc656 Sz656 Nn656 Hs656 Gs656 (by rw [← na656]; first | exact fits_nar_char _ | exact fits_nar_bool _ | exact fits_nar_byte _) W656 1 (by first | decide | (show 1 < 2; decide)) (by first | decide | (show 1 < 2; decide))
        show own_Go p e below _ (T656.setTop (mkF m 21 #[oR this, oI (1 : Int32), oI (1 : Int32)] []))
        refine own_via (fun t kz => XS.aloadN X656.here hx rfl (hb hby d3_21) rfl rfl kz) ?_
        show own_Go p e below _ (T656.setTop (mkF m 22 #[oR this, oI (1 : Int32), oI (1 : Int32)] [(.ref this)]))
        obtain ⟨T673, X673, e673, st673⟩ := getF X656 hx hZ hown (host := "") (Or.inl (own_w hw 21)) Via.refl e656 F661 (g := (mkF m 22 #[oR this, oI (1 : Int32), oI (1 : Int32)] [(.ref this)])) rfl rfl (hb hby d3_22)
        refine own_via st673 ?_
        show own_Go p e below _ (T673.setTop (mkF m 25 #[oR this, oI (1 : Int32), oI (1 : Int32)] [(.ref aca)]))
        refine own_via (fun t kz => XS.iloadN X673.here hx rfl (hb hby d3_25) rfl kz) ?_
        show own_Go p e below _ (T673.setTop (mkF m 26 #[oR this, oI (1 : Int32), oI (1 : Int32)] [(.int (1 : Int32)), (.ref aca)]))
        obtain ⟨cl674, Ar674, kc674, Sz674, Nn674, Hs674, Gs674⟩ := id V669
        have in674 := inb_of (j := (1 : Int32)) Sz674 ⟨by decide, by decide⟩
        have at674 : cl674.slots[((1 : Int32)).toNatClampNeg]? = some (.int wc1) := Hs674.at in674 rfl
        refine own_via (fun t kz => X673.iaload hx (j := (1 : Int32)) (v := (.int wc1)) (by rw [e673]; exact Ar674.1) (State.isArrayOf_alike hZ.alike Ar674.2.1) Ar674.2.2 in674 at674 (g := (mkF m 26 #[oR this, oI (1 : Int32), oI (1 : Int32)] [(.int (1 : Int32)), (.ref aca)])) rfl rfl (hb hby d3_26) t kz) ?_
        show own_Go p e below _ (T673.setTop (mkF m 27 #[oR this, oI (1 : Int32), oI (1 : Int32)] [(.int wc1)]))
        by_cases hc27_675 : wc1 = (0 : Int32)
        · refine own_via (fun t kz => XS.ifNo X673.here hx rfl (hb hby d3_27) rfl ((if0 _ _).trans (teq hc27_675).2) kz) ?_
          have hq1 : wc1 = 0 ∨ wc1 = 1 := by first | exact hok1 hc8_653 | simpa [own_pick, own_pick1, hc8_653] using hok1
          have hq2 : wc1 = 0 → wn = 0 ∨ wn = 1 := by first | exact hok2 hc8_653 | simpa [own_pick, own_pick1, hc8_653] using hok2
          have hq3 := hq2 hc27_675
          subst hc27_675
          rcases hq3 with rfl | rfl
          · show own_Go p e below _ (T673.setTop (mkF m 30 #[oR this, oI (1 : Int32), oI (1 : Int32)] []))
            refine own_via (fun t kz => XS.aloadN X673.here hx rfl (hb hby d3_30) rfl rfl kz) ?_
            show own_Go p e below _ (T673.setTop (mkF m 31 #[oR this, oI (1 : Int32), oI (1 : Int32)] [(.ref this)]))
            obtain ⟨T676, X676, e676, st676⟩ := getF X673 hx hZ hown (host := "") (Or.inl (own_w hw 15)) Via.refl e673 F659 (g := (mkF m 31 #[oR this, oI (1 : Int32), oI (1 : Int32)] [(.ref this)])) rfl rfl (hb hby d3_31)
            refine own_via st676 ?_
            show own_Go p e below _ (T676.setTop (mkF m 34 #[oR this, oI (1 : Int32), oI (1 : Int32)] [(.ref ata)]))
            refine own_via (fun t kz => XS.aloadN X676.here hx rfl (hb hby d3_34) rfl rfl kz) ?_
            show own_Go p e below _ (T676.setTop (mkF m 35 #[oR this, oI (1 : Int32), oI (1 : Int32)] [(.ref this), (.ref ata)]))
            refine own_via (fun t kz => XS.dup X676.here hx rfl (hb hby d3_35) rfl rfl kz) ?_
            show own_Go p e below _ (T676.setTop (mkF m 36 #[oR this, oI (1 : Int32), oI (1 : Int32)] [(.ref this), (.ref this), (.ref ata)]))
            obtain ⟨T677, X677, e677, st677⟩ := getF X676 hx hZ hown (host := "") (Or.inl (own_w hw 28)) Via.refl e676 F662 (g := (mkF m 36 #[oR this, oI (1 : Int32), oI (1 : Int32)] [(.ref this), (.ref this), (.ref ata)])) rfl rfl (hb hby d3_36)
            refine own_via st677 ?_
            show own_Go p e below _ (T677.setTop (mkF m 39 #[oR this, oI (1 : Int32), oI (1 : Int32)] [(.int (0 : Int32)), (.ref this), (.ref ata)]))
            refine own_via (fun t kz => XS.dupX1 X677.here hx rfl (hb hby d3_39) rfl rfl rfl kz) ?_
            show own_Go p e below _ (T677.setTop (mkF m 40 #[oR this, oI (1 : Int32), oI (1 : Int32)] [(.int (0 : Int32)), (.ref this), (.int (0 : Int32)), (.ref ata)]))
            refine own_via (fun t kz => XS.iconst X677.here hx rfl (hb hby d3_40) kz) ?_
            show own_Go p e below _ (T677.setTop (mkF m 41 #[oR this, oI (1 : Int32), oI (1 : Int32)] [(.int (1 : Int32)), (.int (0 : Int32)), (.ref this), (.int (0 : Int32)), (.ref ata)]))
            refine own_via (fun t kz => XS.iadd X677.here hx rfl (hb hby d3_41) rfl kz) ?_
            show own_Go p e below _ (T677.setTop (mkF m 42 #[oR this, oI (1 : Int32), oI (1 : Int32)] [(.int (1 : Int32)), (.ref this), (.int (0 : Int32)), (.ref ata)]))
            obtain ⟨T678, h678, X678, e678, W678, st678⟩ := putF X677 hx hZ hown (host := "") (Or.inl (own_w hw 28)) Via.refl e677 F662 E657 (Or.inl (own_w hw 29)) (own_w hw 1) (ty := .int) (by decide) rfl rfl (g := (mkF m 42 #[oR this, oI (1 : Int32), oI (1 : Int32)] [(.int (1 : Int32)), (.ref this), (.int (0 : Int32)), (.ref ata)])) rfl rfl (hb hby d3_42)
            refine own_via st678 ?_
            have E679 := E657.wr W678
            have F680 := F658.other W678 (Or.inr (slot_ne (Or.inr (own_w hw 13)) (Or.inl (own_w hw 29)) (by decide) (t := (.array (.array .boolean))) (t' := .int) (by decide) (by decide)))
            have F681 := F659.other W678 (Or.inr (slot_ne (Or.inr (own_w hw 16)) (Or.inl (own_w hw 29)) (by decide) (t := (.array .int)) (t' := .int) (by decide) (by decide)))
            have F682 := F660.other W678 (Or.inr (slot_ne (Or.inr (own_w hw 20)) (Or.inl (own_w hw 29)) (by decide) (t := (.array (.array .int))) (t' := .int) (by decide) (by decide)))
            have F683 := F661.other W678 (Or.inr (slot_ne (Or.inr (own_w hw 22)) (Or.inl (own_w hw 29)) (by decide) (t := (.array .int)) (t' := .int) (by decide) (by decide)))
            have F684 := F662.same W678
            have V685 := V663.other W678 (own_neq (by omega))
            have V686 := V664.other W678 (own_neq (by omega))
            have V687 := V672.other W678 (own_neq (by omega))
            have V688 := V665.other W678 (own_neq (by omega))
            have V689 := V666.other W678 (own_neq (by omega))
            have V690 := V667.other W678 (own_neq (by omega))
            have V691 := V668.other W678 (own_neq (by omega))
            have V692 := V669.other W678 (own_neq (by omega))
            have Zs693 : n0 ≤ h678.size := Nat.le_trans Zs670 (Keep.of_wr W678).1
            have N694 := Fr.snoc X678 N671 (show n0 ≤ this by omega)
            show own_Go p e below _ (T678.setTop (mkF m 45 #[oR this, oI (1 : Int32), oI (1 : Int32)] [(.int (0 : Int32)), (.ref ata)]))
            refine own_via (fun t kz => XS.iloadN X678.here hx rfl (hb hby d3_45) rfl kz) ?_
            show own_Go p e below _ (T678.setTop (mkF m 46 #[oR this, oI (1 : Int32), oI (1 : Int32)] [(.int (1 : Int32)), (.int (0 : Int32)), (.ref ata)]))
            obtain ⟨cl695, Ar695, kc695, Sz695, Nn695, Hs695, Gs695⟩ := id V688
            obtain ⟨T695, h695, X695, e695, W695, st695⟩ := stI X678 hx hZ e678 Ar695 (j := (0 : Int32)) (inb_of Sz695 ⟨by decide, by decide⟩) (g := (mkF m 46 #[oR this, oI (1 : Int32), oI (1 : Int32)] [(.int (1 : Int32)), (.int (0 : Int32)), (.ref ata)])) rfl rfl (hb hby d3_46)
            refine own_via st695 ?_
            have E696 := E679.wr W695
            have F697 := F680.other W695 (Or.inl (own_neq (by omega)))
            have F698 := F681.other W695 (Or.inl (own_neq (by omega)))
            have F699 := F682.other W695 (Or.inl (own_neq (by omega)))
            have F700 := F683.other W695 (Or.inl (own_neq (by omega)))
            have F701 := F684.other W695 (Or.inl (own_neq (by omega)))
            have V702 := V685.other W695 (own_neq (by omega))
            have V703 := V686.other W695 (own_neq (by omega))
            have V704 := V687.other W695 (own_neq (by omega))
            have V705 := V689.other W695 (own_neq (by omega))
            have V706 := V690.other W695 (own_neq (by omega))
            have V707 := V691.other W695 (own_neq (by omega))
            have V708 := V692.other W695 (own_neq (by omega))
            have Zs709 : n0 ≤ h695.size := Nat.le_trans Zs693 (Keep.of_wr W695).1
            have N710 := Fr.snoc X695 N694 (show n0 ≤ ata by omega)
            have V711 : Arv Z h695 ata ck4 .int (2 : Int32) [(.int (1 : Int32)), (.int wt1)] (.int (0 : Int32)) := Arv.set Ar695 kc695 Sz695 Nn695 Hs695 Gs695 rfl W695 0 (by first | decide | (show 0 < 2; decide)) (by first | decide | (show 0 < 2; decide))
            show own_Go p e below _ (T695.setTop (mkF m 47 #[oR this, oI (1 : Int32), oI (1 : Int32)] []))
            refine own_via (fun t kz => XS.aloadN X695.here hx rfl (hb hby d3_47) rfl rfl kz) ?_
            show own_Go p e below _ (T695.setTop (mkF m 48 #[oR this, oI (1 : Int32), oI (1 : Int32)] [(.ref this)]))
            obtain ⟨T712, X712, e712, st712⟩ := getF X695 hx hZ hown (host := "") (Or.inl (own_w hw 19)) Via.refl e695 F699 (g := (mkF m 48 #[oR this, oI (1 : Int32), oI (1 : Int32)] [(.ref this)])) rfl rfl (hb hby d3_48)
            refine own_via st712 ?_
            show own_Go p e below _ (T712.setTop (mkF m 51 #[oR this, oI (1 : Int32), oI (1 : Int32)] [(.ref aso)]))
            refine own_via (fun t kz => XS.iloadN X712.here hx rfl (hb hby d3_51) rfl kz) ?_
            show own_Go p e below _ (T712.setTop (mkF m 52 #[oR this, oI (1 : Int32), oI (1 : Int32)] [(.int (1 : Int32)), (.ref aso)]))
            obtain ⟨cl713, Ar713, kc713, Sz713, Nn713, Hs713, Gs713⟩ := id V705
            have in713 := inb_of (j := (1 : Int32)) Sz713 ⟨by decide, by decide⟩
            have at713 : cl713.slots[((1 : Int32)).toNatClampNeg]? = some (.ref as1) := Hs713.at in713 rfl
            refine own_via (fun t kz => X712.aaload hx (j := (1 : Int32)) (v := (.ref as1)) (by rw [e712]; exact Ar713.1) (State.isArrayOf_alike hZ.alike Ar713.2.1) rfl Ar713.2.2 in713 at713 (g := (mkF m 52 #[oR this, oI (1 : Int32), oI (1 : Int32)] [(.int (1 : Int32)), (.ref aso)])) rfl rfl (hb hby d3_52) t kz) ?_
            show own_Go p e below _ (T712.setTop (mkF m 53 #[oR this, oI (1 : Int32), oI (1 : Int32)] [(.ref as1)]))
            refine own_via (fun t kz => XS.aloadN X712.here hx rfl (hb hby d3_53) rfl rfl kz) ?_
            show own_Go p e below _ (T712.setTop (mkF m 54 #[oR this, oI (1 : Int32), oI (1 : Int32)] [(.ref this), (.ref as1)]))
            obtain ⟨T714, X714, e714, st714⟩ := getF X712 hx hZ hown (host := "") (Or.inl (own_w hw 21)) Via.refl e712 F700 (g := (mkF m 54 #[oR this, oI (1 : Int32), oI (1 : Int32)] [(.ref this), (.ref as1)])) rfl rfl (hb hby d3_54)
            refine own_via st714 ?_
            show own_Go p e below _ (T714.setTop (mkF m 57 #[oR this, oI (1 : Int32), oI (1 : Int32)] [(.ref aca), (.ref as1)]))
            refine own_via (fun t kz => XS.iloadN X714.here hx rfl (hb hby d3_57) rfl kz) ?_
            show own_Go p e below _ (T714.setTop (mkF m 58 #[oR this, oI (1 : Int32), oI (1 : Int32)] [(.int (1 : Int32)), (.ref aca), (.ref as1)]))
            refine own_via (fun t kz => XT.dup2 X714.here hx rfl (hb hby d3_58) rfl rfl rfl kz) ?_
            show own_Go p e below _ (T714.setTop (mkF m 59 #[oR this, oI (1 : Int32), oI (1 : Int32)] [(.int (1 : Int32)), (.ref aca), (.int (1 : Int32)), (.ref aca), (.ref as1)]))
            obtain ⟨cl715, Ar715, kc715, Sz715, Nn715, Hs715, Gs715⟩ := id V708
            have in715 := inb_of (j := (1 : Int32)) Sz715 ⟨by decide, by decide⟩
            have at715 : cl715.slots[((1 : Int32)).toNatClampNeg]? = some (.int (0 : Int32)) := Hs715.at in715 rfl
            refine own_via (fun t kz => X714.iaload hx (j := (1 : Int32)) (v := (.int (0 : Int32))) (by rw [e714]; exact Ar715.1) (State.isArrayOf_alike hZ.alike Ar715.2.1) Ar715.2.2 in715 at715 (g := (mkF m 59 #[oR this, oI (1 : Int32), oI (1 : Int32)] [(.int (1 : Int32)), (.ref aca), (.int (1 : Int32)), (.ref aca), (.ref as1)])) rfl rfl (hb hby d3_59) t kz) ?_
            show own_Go p e below _ (T714.setTop (mkF m 60 #[oR this, oI (1 : Int32), oI (1 : Int32)] [(.int (0 : Int32)), (.int (1 : Int32)), (.ref aca), (.ref as1)]))
            refine own_via (fun t kz => own_dupX2 X714.here hx rfl (hb hby d3_60) rfl rfl rfl rfl kz) ?_
            show own_Go p e below _ (T714.setTop (mkF m 61 #[oR this, oI (1 : Int32), oI (1 : Int32)] [(.int (0 : Int32)), (.int (1 : Int32)), (.ref aca), (.int (0 : Int32)), (.ref as1)]))
            refine own_via (fun t kz => XS.iconst X714.here hx rfl (hb hby d3_61) kz) ?_
            show own_Go p e below _ (T714.setTop (mkF m 62 #[oR this, oI (1 : Int32), oI (1 : Int32)] [(.int (1 : Int32)), (.int (0 : Int32)), (.int (1 : Int32)), (.ref aca), (.int (0 : Int32)), (.ref as1)]))
            refine own_via (fun t kz => XS.iadd X714.here hx rfl (hb hby d3_62) rfl kz) ?_
            show own_Go p e below _ (T714.setTop (mkF m 63 #[oR this, oI (1 : Int32), oI (1 : Int32)] [(.int (1 : Int32)), (.int (1 : Int32)), (.ref aca), (.int (0 : Int32)), (.ref as1)]))
            obtain ⟨cl716, Ar716, kc716, Sz716, Nn716, Hs716, Gs716⟩ := id V708
            obtain ⟨T716, h716, X716, e716, W716, st716⟩ := stI X714 hx hZ e714 Ar716 (j := (1 : Int32)) (inb_of Sz716 ⟨by decide, by decide⟩) (g := (mkF m 63 #[oR this, oI (1 : Int32), oI (1 : Int32)] [(.int (1 : Int32)), (.int (1 : Int32)), (.ref aca), (.int (0 : Int32)), (.ref as1)])) rfl rfl (hb hby d3_63)
            refine own_via st716 ?_
            have E717 := E696.wr W716
            have F718 := F697.other W716 (Or.inl (own_neq (by omega)))
            have F719 := F698.other W716 (Or.inl (own_neq (by omega)))
            have F720 := F699.other W716 (Or.inl (own_neq (by omega)))
            have F721 := F700.other W716 (Or.inl (own_neq (by omega)))
            have F722 := F701.other W716 (Or.inl (own_neq (by omega)))
            have V723 := V702.other W716 (own_neq (by omega))
            have V724 := V703.other W716 (own_neq (by omega))
            have V725 := V704.other W716 (own_neq (by omega))
            have V726 := V711.other W716 (own_neq (by omega))
            have V727 := V705.other W716 (own_neq (by omega))
            have V728 := V706.other W716 (own_neq (by omega))
            have V729 := V707.other W716 (own_neq (by omega))
            have Zs730 : n0 ≤ h716.size := Nat.le_trans Zs709 (Keep.of_wr W716).1
            have N731 := Fr.snoc X716 N710 (show n0 ≤ aca by omega)
            have V732 : Arv Z h716 aca ck8 .int (2 : Int32) [(.int wc0), (.int (1 : Int32))] (.int (0 : Int32)) := Arv.set Ar716 kc716 Sz716 Nn716 Hs716 Gs716 rfl W716 1 (by first | decide | (show 1 < 2; decide)) (by first | decide | (show 1 < 2; decide))
            show own_Go p e below _ (T716.setTop (mkF m 64 #[oR this, oI (1 : Int32), oI (1 : Int32)] [(.int (0 : Int32)), (.ref as1)]))
            refine own_via (fun t kz => XS.iloadN X716.here hx rfl (hb hby d3_64) rfl kz) ?_
            show own_Go p e below _ (T716.setTop (mkF m 65 #[oR this, oI (1 : Int32), oI (1 : Int32)] [(.int (1 : Int32)), (.int (0 : Int32)), (.ref as1)]))
            obtain ⟨cl733, Ar733, kc733, Sz733, Nn733, Hs733, Gs733⟩ := id V729
            obtain ⟨T733, h733, X733, e733, W733, st733⟩ := stI X716 hx hZ e716 Ar733 (j := (0 : Int32)) (inb_of Sz733 ⟨by decide, by decide⟩) (g := (mkF m 65 #[oR this, oI (1 : Int32), oI (1 : Int32)] [(.int (1 : Int32)), (.int (0 : Int32)), (.ref as1)])) rfl rfl (hb hby d3_65)
            refine own_via st733 ?_
            have E734 := E717.wr W733
            have F735 := F718.other W733 (Or.inl (own_neq (by omega)))
            have F736 := F719.other W733 (Or.inl (own_neq (by omega)))
            have F737 := F720.other W733 (Or.inl (own_neq (by omega)))
            have F738 := F721.other W733 (Or.inl (own_neq (by omega)))
            have F739 := F722.other W733 (Or.inl (own_neq (by omega)))
            have V740 := V723.other W733 (own_neq (by omega))
            have V741 := V724.other W733 (own_neq (by omega))
            have V742 := V725.other W733 (own_neq (by omega))
            have V743 := V726.other W733 (own_neq (by omega))
            have V744 := V727.other W733 (own_neq (by omega))
            have V745 := V728.other W733 (own_neq (by omega))
            have V746 := V732.other W733 (own_neq (by omega))
            have Zs747 : n0 ≤ h733.size := Nat.le_trans Zs730 (Keep.of_wr W733).1
            have N748 := Fr.snoc X733 N731 (show n0 ≤ as1 by omega)
            have V749 : Arv Z h733 as1 ck7 .int (2 : Int32) [(.int (1 : Int32)), (.int ws11)] (.int (0 : Int32)) := Arv.set Ar733 kc733 Sz733 Nn733 Hs733 Gs733 rfl W733 0 (by first | decide | (show 0 < 2; decide)) (by first | decide | (show 0 < 2; decide))
            show own_Go p e below _ (T733.setTop (mkF m 66 #[oR this, oI (1 : Int32), oI (1 : Int32)] []))
            have hT : own_TC Z h733 n0 this (own_mk wm00 wm01 wm10 (1 : Int32) (1 : Int32) wt1 ws00 ws01 (1 : Int32) ws11 wc0 (1 : Int32) (1 : Int32)) := ⟨amo, am0, am1, ata, aso, as0, as1, aca, ck1, ck2, ck3, ck4, ck5, ck6, ck7, ck8, ⟨by omega, by omega, by omega, by omega, by omega, by omega, by omega, by omega, by omega⟩, E734, F735, F736, F737, F738, F739, V740, V741, V742, V743, V744, V745, V749, V746⟩
            obtain ⟨fs, hr, hrun, hended, hW, hsame⟩ := X733.leave (v := none) (fun _ => rfl)
            refine ⟨_, _, X733.returnOut hx Bd.returns (hb hby d3_66) hr, hrun, hended, _, _, rfl, ?_, ⟨_, rfl⟩, hW, hsame.mono (by decide) (by decide)⟩
            show Q3 Z this (1 : Int32) (1 : Int32) wm00 wm01 wm10 wm11 wt0 wt1 ws00 ws01 ws10 ws11 wc0 (0 : Int32) (0 : Int32) h0 n0 _ T733.heap _
            rw [e733]
            exact ⟨rfl, N748, Zs747, by unfold own_mark; rw [if_neg (by decide : ¬ ((1 : Int32) = (0 : Int32))), if_neg (by decide : ¬ ((1 : Int32) = (0 : Int32))), if_pos hc8_653, if_pos (by decide : (0 : Int32) = (0 : Int32)), if_pos (by decide : (0 : Int32) = (0 : Int32))]; exact hT⟩
          · show own_Go p e below _ (T673.setTop (mkF m 30 #[oR this, oI (1 : Int32), oI (1 : Int32)] []))
            refine own_via (fun t kz => XS.aloadN X673.here hx rfl (hb hby d3_30) rfl rfl kz) ?_
            show own_Go p e below _ (T673.setTop (mkF m 31 #[oR this, oI (1 : Int32), oI (1 : Int32)] [(.ref this)]))
            obtain ⟨T751, X751, e751, st751⟩ := getF X673 hx hZ hown (host := "") (Or.inl (own_w hw 15)) Via.refl e673 F659 (g := (mkF m 31 #[oR this, oI (1 : Int32), oI (1 : Int32)] [(.ref this)])) rfl rfl (hb hby d3_31)
            refine own_via st751 ?_
            show own_Go p e below _ (T751.setTop (mkF m 34 #[oR this, oI (1 : Int32), oI (1 : Int32)] [(.ref ata)]))
            refine own_via (fun t kz => XS.aloadN X751.here hx rfl (hb hby d3_34) rfl rfl kz) ?_
            show own_Go p e below _ (T751.setTop (mkF m 35 #[oR this, oI (1 : Int32), oI (1 : Int32)] [(.ref this), (.ref ata)]))
            refine own_via (fun t kz => XS.dup X751.here hx rfl (hb hby d3_35) rfl rfl kz) ?_
            show own_Go p e below _ (T751.setTop (mkF m 36 #[oR this, oI (1 : Int32), oI (1 : Int32)] [(.ref this), (.ref this), (.ref ata)]))
            obtain ⟨T752, X752, e752, st752⟩ := getF X751 hx hZ hown (host := "") (Or.inl (own_w hw 28)) Via.refl e751 F662 (g := (mkF m 36 #[oR this, oI (1 : Int32), oI (1 : Int32)] [(.ref this), (.ref this), (.ref ata)])) rfl rfl (hb hby d3_36)
            refine own_via st752 ?_
            show own_Go p e below _ (T752.setTop (mkF m 39 #[oR this, oI (1 : Int32), oI (1 : Int32)] [(.int (1 : Int32)), (.ref this), (.ref ata)]))
            refine own_via (fun t kz => XS.dupX1 X752.here hx rfl (hb hby d3_39) rfl rfl rfl kz) ?_
            show own_Go p e below _ (T752.setTop (mkF m 40 #[oR this, oI (1 : Int32), oI (1 : Int32)] [(.int (1 : Int32)), (.ref this), (.int (1 : Int32)), (.ref ata)]))
            refine own_via (fun t kz => XS.iconst X752.here hx rfl (hb hby d3_40) kz) ?_
            show own_Go p e below _ (T752.setTop (mkF m 41 #[oR this, oI (1 : Int32), oI (1 : Int32)] [(.int (1 : Int32)), (.int (1 : Int32)), (.ref this), (.int (1 : Int32)), (.ref ata)]))
            refine own_via (fun t kz => XS.iadd X752.here hx rfl (hb hby d3_41) rfl kz) ?_
            show own_Go p e below _ (T752.setTop (mkF m 42 #[oR this, oI (1 : Int32), oI (1 : Int32)] [(.int (2 : Int32)), (.ref this), (.int (1 : Int32)), (.ref ata)]))
            obtain ⟨T753, h753, X753, e753, W753, st753⟩ := putF X752 hx hZ hown (host := "") (Or.inl (own_w hw 28)) Via.refl e752 F662 E657 (Or.inl (own_w hw 29)) (own_w hw 1) (ty := .int) (by decide) rfl rfl (g := (mkF m 42 #[oR this, oI (1 : Int32), oI (1 : Int32)] [(.int (2 : Int32)), (.ref this), (.int (1 : Int32)), (.ref ata)])) rfl rfl (hb hby d3_42)
            refine own_via st753 ?_
            have E754 := E657.wr W753
            have F755 := F658.other W753 (Or.inr (slot_ne (Or.inr (own_w hw 13)) (Or.inl (own_w hw 29)) (by decide) (t := (.array (.array .boolean))) (t' := .int) (by decide) (by decide)))
            have F756 := F659.other W753 (Or.inr (slot_ne (Or.inr (own_w hw 16)) (Or.inl (own_w hw 29)) (by decide) (t := (.array .int)) (t' := .int) (by decide) (by decide)))
            have F757 := F660.other W753 (Or.inr (slot_ne (Or.inr (own_w hw 20)) (Or.inl (own_w hw 29)) (by decide) (t := (.array (.array .int))) (t' := .int) (by decide) (by decide)))
            have F758 := F661.other W753 (Or.inr (slot_ne (Or.inr (own_w hw 22)) (Or.inl (own_w hw 29)) (by decide) (t := (.array .int)) (t' := .int) (by decide) (by decide)))
            have F759 := F662.same W753
            have V760 := V663.other W753 (own_neq (by omega))
            have V761 := V664.other W753 (own_neq (by omega))
            have V762 := V672.other W753 (own_neq (by omega))
            have V763 := V665.other W753 (own_neq (by omega))
            have V764 := V666.other W753 (own_neq (by omega))
            have V765 := V667.other W753 (own_neq (by omega))
            have V766 := V668.other W753 (own_neq (by omega))
            have V767 := V669.other W753 (own_neq (by omega))
            have Zs768 : n0 ≤ h753.size := Nat.le_trans Zs670 (Keep.of_wr W753).1
            have N769 := Fr.snoc X753 N671 (show n0 ≤ this by omega)
            show own_Go p e below _ (T753.setTop (mkF m 45 #[oR this, oI (1 : Int32), oI (1 : Int32)] [(.int (1 : Int32)), (.ref ata)]))
            refine own_via (fun t kz => XS.iloadN X753.here hx rfl (hb hby d3_45) rfl kz) ?_
            show own_Go p e below _ (T753.setTop (mkF m 46 #[oR this, oI (1 : Int32), oI (1 : Int32)] [(.int (1 : Int32)), (.int (1 : Int32)), (.ref ata)]))
            obtain ⟨cl770, Ar770, kc770, Sz770, Nn770, Hs770, Gs770⟩ := id V763
            obtain ⟨T770, h770, X770, e770, W770, st770⟩ := stI X753 hx hZ e753 Ar770 (j := (1 : Int32)) (inb_of Sz770 ⟨by decide, by decide⟩) (g := (mkF m 46 #[oR this, oI (1 : Int32), oI (1 : Int32)] [(.int (1 : Int32)), (.int (1 : Int32)), (.ref ata)])) rfl rfl (hb hby d3_46)
            refine own_via st770 ?_
            have E771 := E754.wr W770
            have F772 := F755.other W770 (Or.inl (own_neq (by omega)))
            have F773 := F756.other W770 (Or.inl (own_neq (by omega)))
            have F774 := F757.other W770 (Or.inl (own_neq (by omega)))
            have F775 := F758.other W770 (Or.inl (own_neq (by omega)))
            have F776 := F759.other W770 (Or.inl (own_neq (by omega)))
            have V777 := V760.other W770 (own_neq (by omega))
            have V778 := V761.other W770 (own_neq (by omega))
            have V779 := V762.other W770 (own_neq (by omega))
            have V780 := V764.other W770 (own_neq (by omega))
            have V781 := V765.other W770 (own_neq (by omega))
            have V782 := V766.other W770 (own_neq (by omega))
            have V783 := V767.other W770 (own_neq (by omega))
            have Zs784 : n0 ≤ h770.size := Nat.le_trans Zs768 (Keep.of_wr W770).1
            have N785 := Fr.snoc X770 N769 (show n0 ≤ ata by omega)
            have V786 : Arv Z h770 ata ck4 .int (2 : Int32) [(.int wt0), (.int (1 : Int32))] (.int (0 : Int32)) := Arv.set Ar770 kc770 Sz770 Nn770 Hs770 Gs770 rfl W770 1 (by first | decide | (show 1 < 2; decide)) (by first | decide | (show 1 < 2; decide))
            show own_Go p e below _ (T770.setTop (mkF m 47 #[oR this, oI (1 : Int32), oI (1 : Int32)] []))
            refine own_via (fun t kz => XS.aloadN X770.here hx rfl (hb hby d3_47) rfl rfl kz) ?_
            show own_Go p e below _ (T770.setTop (mkF m 48 #[oR this, oI (1 : Int32), oI (1 : Int32)] [(.ref this)]))
            obtain ⟨T787, X787, e787, st787⟩ := getF X770 hx hZ hown (host := "") (Or.inl (own_w hw 19)) Via.refl e770 F774 (g := (mkF m 48 #[oR this, oI (1 : Int32), oI (1 : Int32)] [(.ref this)])) rfl rfl (hb hby d3_48)
            refine own_via st787 ?_
            show own_Go p e below _ (T787.setTop (mkF m 51 #[oR this, oI (1 : Int32), oI (1 : Int32)] [(.ref aso)]))
            refine own_via (fun t kz => XS.iloadN X787.here hx rfl (hb hby d3_51) rfl kz) ?_
            show own_Go p e below _ (T787.setTop (mkF m 52 #[oR this, oI (1 : Int32), oI (1 : Int32)] [(.int (1 : Int32)), (.ref aso)]))
            obtain ⟨cl788, Ar788, kc788, Sz788, Nn788, Hs788, Gs788⟩ := id V780
            have in788 := inb_of (j := (1 : Int32)) Sz788 ⟨by decide, by decide⟩
            have at788 : cl788.slots[((1 : Int32)).toNatClampNeg]? = some (.ref as1) := Hs788.at in788 rfl
            refine own_via (fun t kz => X787.aaload hx (j := (1 : Int32)) (v := (.ref as1)) (by rw [e787]; exact Ar788.1) (State.isArrayOf_alike hZ.alike Ar788.2.1) rfl Ar788.2.2 in788 at788 (g := (mkF m 52 #[oR this, oI (1 : Int32), oI (1 : Int32)] [(.int (1 : Int32)), (.ref aso)])) rfl rfl (hb hby d3_52) t kz) ?_
            show own_Go p e below _ (T787.setTop (mkF m 53 #[oR this, oI (1 : Int32), oI (1 : Int32)] [(.ref as1)]))
            refine own_via (fun t kz => XS.aloadN X787.here hx rfl (hb hby d3_53) rfl rfl kz) ?_
            show own_Go p e below _ (T787.setTop (mkF m 54 #[oR this, oI (1 : Int32), oI (1 : Int32)] [(.ref this), (.ref as1)]))
            obtain ⟨T789, X789, e789, st789⟩ := getF X787 hx hZ hown (host := "") (Or.inl (own_w hw 21)) Via.refl e787 F775 (g := (mkF m 54 #[oR this, oI (1 : Int32), oI (1 : Int32)] [(.ref this), (.ref as1)])) rfl rfl (hb hby d3_54)
            refine own_via st789 ?_
            show own_Go p e below _ (T789.setTop (mkF m 57 #[oR this, oI (1 : Int32), oI (1 : Int32)] [(.ref aca), (.ref as1)]))
            refine own_via (fun t kz => XS.iloadN X789.here hx rfl (hb hby d3_57) rfl kz) ?_
            show own_Go p e below _ (T789.setTop (mkF m 58 #[oR this, oI (1 : Int32), oI (1 : Int32)] [(.int (1 : Int32)), (.ref aca), (.ref as1)]))
            refine own_via (fun t kz => XT.dup2 X789.here hx rfl (hb hby d3_58) rfl rfl rfl kz) ?_
            show own_Go p e below _ (T789.setTop (mkF m 59 #[oR this, oI (1 : Int32), oI (1 : Int32)] [(.int (1 : Int32)), (.ref aca), (.int (1 : Int32)), (.ref aca), (.ref as1)]))
            obtain ⟨cl790, Ar790, kc790, Sz790, Nn790, Hs790, Gs790⟩ := id V783
            have in790 := inb_of (j := (1 : Int32)) Sz790 ⟨by decide, by decide⟩
            have at790 : cl790.slots[((1 : Int32)).toNatClampNeg]? = some (.int (0 : Int32)) := Hs790.at in790 rfl
            refine own_via (fun t kz => X789.iaload hx (j := (1 : Int32)) (v := (.int (0 : Int32))) (by rw [e789]; exact Ar790.1) (State.isArrayOf_alike hZ.alike Ar790.2.1) Ar790.2.2 in790 at790 (g := (mkF m 59 #[oR this, oI (1 : Int32), oI (1 : Int32)] [(.int (1 : Int32)), (.ref aca), (.int (1 : Int32)), (.ref aca), (.ref as1)])) rfl rfl (hb hby d3_59) t kz) ?_
            show own_Go p e below _ (T789.setTop (mkF m 60 #[oR this, oI (1 : Int32), oI (1 : Int32)] [(.int (0 : Int32)), (.int (1 : Int32)), (.ref aca), (.ref as1)]))
            refine own_via (fun t kz => own_dupX2 X789.here hx rfl (hb hby d3_60) rfl rfl rfl rfl kz) ?_
            show own_Go p e below _ (T789.setTop (mkF m 61 #[oR this, oI (1 : Int32), oI (1 : Int32)] [(.int (0 : Int32)), (.int (1 : Int32)), (.ref aca), (.int (0 : Int32)), (.ref as1)]))
            refine own_via (fun t kz => XS.iconst X789.here hx rfl (hb hby d3_61) kz) ?_
            show own_Go p e below _ (T789.setTop (mkF m 62 #[oR this, oI (1 : Int32), oI (1 : Int32)] [(.int (1 : Int32)), (.int (0 : Int32)), (.int (1 : Int32)), (.ref aca), (.int (0 : Int32)), (.ref as1)]))
            refine own_via (fun t kz => XS.iadd X789.here hx rfl (hb hby d3_62) rfl kz) ?_
            show own_Go p e below _ (T789.setTop (mkF m 63 #[oR this, oI (1 : Int32), oI (1 : Int32)] [(.int (1 : Int32)), (.int (1 : Int32)), (.ref aca), (.int (0 : Int32)), (.ref as1)]))
            obtain ⟨cl791, Ar791, kc791, Sz791, Nn791, Hs791, Gs791⟩ := id V783
            obtain ⟨T791, h791, X791, e791, W791, st791⟩ := stI X789 hx hZ e789 Ar791 (j := (1 : Int32)) (inb_of Sz791 ⟨by decide, by decide⟩) (g := (mkF m 63 #[oR this, oI (1 : Int32), oI (1 : Int32)] [(.int (1 : Int32)), (.int (1 : Int32)), (.ref aca), (.int (0 : Int32)), (.ref as1)])) rfl rfl (hb hby d3_63)
            refine own_via st791 ?_
            have E792 := E771.wr W791
            have F793 := F772.other W791 (Or.inl (own_neq (by omega)))
            have F794 := F773.other W791 (Or.inl (own_neq (by omega)))
            have F795 := F774.other W791 (Or.inl (own_neq (by omega)))
            have F796 := F775.other W791 (Or.inl (own_neq (by omega)))
            have F797 := F776.other W791 (Or.inl (own_neq (by omega)))
            have V798 := V777.other W791 (own_neq (by omega))
            have V799 := V778.other W791 (own_neq (by omega))
            have V800 := V779.other W791 (own_neq (by omega))
            have V801 := V786.other W791 (own_neq (by omega))
            have V802 := V780.other W791 (own_neq (by omega))
            have V803 := V781.other W791 (own_neq (by omega))
            have V804 := V782.other W791 (own_neq (by omega))
            have Zs805 : n0 ≤ h791.size := Nat.le_trans Zs784 (Keep.of_wr W791).1
            have N806 := Fr.snoc X791 N785 (show n0 ≤ aca by omega)
            have V807 : Arv Z h791 aca ck8 .int (2 : Int32) [(.int wc0), (.int (1 : Int32))] (.int (0 : Int32)) := Arv.set Ar791 kc791 Sz791 Nn791 Hs791 Gs791 rfl W791 1 (by first | decide | (show 1 < 2; decide)) (by first | decide | (show 1 < 2; decide))
            show own_Go p e below _ (T791.setTop (mkF m 64 #[oR this, oI (1 : Int32), oI (1 : Int32)] [(.int (0 : Int32)), (.ref as1)]))
            refine own_via (fun t kz => XS.iloadN X791.here hx rfl (hb hby d3_64) rfl kz) ?_
            show own_Go p e below _ (T791.setTop (mkF m 65 #[oR this, oI (1 : Int32), oI (1 : Int32)] [(.int (1 : Int32)), (.int (0 : Int32)), (.ref as1)]))
            obtain ⟨cl808, Ar808, kc808, Sz808, Nn808, Hs808, Gs808⟩ := id V804
            obtain ⟨T808, h808, X808, e808, W808, st808⟩ := stI X791 hx hZ e791 Ar808 (j := (0 : Int32)) (inb_of Sz808 ⟨by decide, by decide⟩) (g := (mkF m 65 #[oR this, oI (1 : Int32), oI (1 : Int32)] [(.int (1 : Int32)), (.int (0 : Int32)), (.ref as1)])) rfl rfl (hb hby d3_65)
            refine own_via st808 ?_
            have E809 := E792.wr W808
            have F810 := F793.other W808 (Or.inl (own_neq (by omega)))
            have F811 := F794.other W808 (Or.inl (own_neq (by omega)))
            have F812 := F795.other W808 (Or.inl (own_neq (by omega)))
            have F813 := F796.other W808 (Or.inl (own_neq (by omega)))
            have F814 := F797.other W808 (Or.inl (own_neq (by omega)))
            have V815 := V798.other W808 (own_neq (by omega))
            have V816 := V799.other W808 (own_neq (by omega))
            have V817 := V800.other W808 (own_neq (by omega))
            have V818 := V801.other W808 (own_neq (by omega))
            have V819 := V802.other W808 (own_neq (by omega))
            have V820 := V803.other W808 (own_neq (by omega))
            have V821 := V807.other W808 (own_neq (by omega))
            have Zs822 : n0 ≤ h808.size := Nat.le_trans Zs805 (Keep.of_wr W808).1
            have N823 := Fr.snoc X808 N806 (show n0 ≤ as1 by omega)
            have V824 : Arv Z h808 as1 ck7 .int (2 : Int32) [(.int (1 : Int32)), (.int ws11)] (.int (0 : Int32)) := Arv.set Ar808 kc808 Sz808 Nn808 Hs808 Gs808 rfl W808 0 (by first | decide | (show 0 < 2; decide)) (by first | decide | (show 0 < 2; decide))
            show own_Go p e below _ (T808.setTop (mkF m 66 #[oR this, oI (1 : Int32), oI (1 : Int32)] []))
            have hT : own_TC Z h808 n0 this (own_mk wm00 wm01 wm10 (1 : Int32) wt0 (1 : Int32) ws00 ws01 (1 : Int32) ws11 wc0 (1 : Int32) (2 : Int32)) := ⟨amo, am0, am1, ata, aso, as0, as1, aca, ck1, ck2, ck3, ck4, ck5, ck6, ck7, ck8, ⟨by omega, by omega, by omega, by omega, by omega, by omega, by omega, by omega, by omega⟩, E809, F810, F811, F812, F813, F814, V815, V816, V817, V818, V819, V820, V824, V821⟩
            obtain ⟨fs, hr, hrun, hended, hW, hsame⟩ := X808.leave (v := none) (fun _ => rfl)
            refine ⟨_, _, X808.returnOut hx Bd.returns (hb hby d3_66) hr, hrun, hended, _, _, rfl, ?_, ⟨_, rfl⟩, hW, hsame.mono (by decide) (by decide)⟩
            show Q3 Z this (1 : Int32) (1 : Int32) wm00 wm01 wm10 wm11 wt0 wt1 ws00 ws01 ws10 ws11 wc0 (0 : Int32) (1 : Int32) h0 n0 _ T808.heap _
            rw [e808]
            exact ⟨rfl, N823, Zs822, by unfold own_mark; rw [if_neg (by decide : ¬ ((1 : Int32) = (0 : Int32))), if_neg (by decide : ¬ ((1 : Int32) = (0 : Int32))), if_pos hc8_653, if_pos (by decide : (0 : Int32) = (0 : Int32)), if_neg (by decide : ¬ ((1 : Int32) = (0 : Int32)))]; exact hT⟩
        · refine own_via (fun t kz => XS.ifYes X673.here hx rfl (pc0 := 27) (pc' := 47) rfl (hb hby d3_27) rfl ((if0 _ _).trans (feq hc27_675).2) (by decide) (by decide) kz) ?_
          have hq1 : wc1 = 0 ∨ wc1 = 1 := by first | exact hok1 hc8_653 | simpa [own_pick, own_pick1, hc8_653] using hok1
          have hq2 : wc1 = 0 → wn = 0 ∨ wn = 1 := by first | exact hok2 hc8_653 | simpa [own_pick, own_pick1, hc8_653] using hok2
          have hq3 := hq1.resolve_left hc27_675
          clear hc27_675
          subst hq3
          show own_Go p e below _ (T673.setTop (mkF m 47 #[oR this, oI (1 : Int32), oI (1 : Int32)] []))
          refine own_via (fun t kz => XS.aloadN X673.here hx rfl (hb hby d3_47) rfl rfl kz) ?_
          show own_Go p e below _ (T673.setTop (mkF m 48 #[oR this, oI (1 : Int32), oI (1 : Int32)] [(.ref this)]))
          obtain ⟨T826, X826, e826, st826⟩ := getF X673 hx hZ hown (host := "") (Or.inl (own_w hw 19)) Via.refl e673 F660 (g := (mkF m 48 #[oR this, oI (1 : Int32), oI (1 : Int32)] [(.ref this)])) rfl rfl (hb hby d3_48)
          refine own_via st826 ?_
          show own_Go p e below _ (T826.setTop (mkF m 51 #[oR this, oI (1 : Int32), oI (1 : Int32)] [(.ref aso)]))
          refine own_via (fun t kz => XS.iloadN X826.here hx rfl (hb hby d3_51) rfl kz) ?_
          show own_Go p e below _ (T826.setTop (mkF m 52 #[oR this, oI (1 : Int32), oI (1 : Int32)] [(.int (1 : Int32)), (.ref aso)]))
          obtain ⟨cl827, Ar827, kc827, Sz827, Nn827, Hs827, Gs827⟩ := id V666
          have in827 := inb_of (j := (1 : Int32)) Sz827 ⟨by decide, by decide⟩
          have at827 : cl827.slots[((1 : Int32)).toNatClampNeg]? = some (.ref as1) := Hs827.at in827 rfl
          refine own_via (fun t kz => X826.aaload hx (j := (1 : Int32)) (v := (.ref as1)) (by rw [e826]; exact Ar827.1) (State.isArrayOf_alike hZ.alike Ar827.2.1) rfl Ar827.2.2 in827 at827 (g := (mkF m 52 #[oR this, oI (1 : Int32), oI (1 : Int32)] [(.int (1 : Int32)), (.ref aso)])) rfl rfl (hb hby d3_52) t kz) ?_
          show own_Go p e below _ (T826.setTop (mkF m 53 #[oR this, oI (1 : Int32), oI (1 : Int32)] [(.ref as1)]))
          refine own_via (fun t kz => XS.aloadN X826.here hx rfl (hb hby d3_53) rfl rfl kz) ?_
          show own_Go p e below _ (T826.setTop (mkF m 54 #[oR this, oI (1 : Int32), oI (1 : Int32)] [(.ref this), (.ref as1)]))
          obtain ⟨T828, X828, e828, st828⟩ := getF X826 hx hZ hown (host := "") (Or.inl (own_w hw 21)) Via.refl e826 F661 (g := (mkF m 54 #[oR this, oI (1 : Int32), oI (1 : Int32)] [(.ref this), (.ref as1)])) rfl rfl (hb hby d3_54)
          refine own_via st828 ?_
          show own_Go p e below _ (T828.setTop (mkF m 57 #[oR this, oI (1 : Int32), oI (1 : Int32)] [(.ref aca), (.ref as1)]))
          refine own_via (fun t kz => XS.iloadN X828.here hx rfl (hb hby d3_57) rfl kz) ?_
          show own_Go p e below _ (T828.setTop (mkF m 58 #[oR this, oI (1 : Int32), oI (1 : Int32)] [(.int (1 : Int32)), (.ref aca), (.ref as1)]))
          refine own_via (fun t kz => XT.dup2 X828.here hx rfl (hb hby d3_58) rfl rfl rfl kz) ?_
          show own_Go p e below _ (T828.setTop (mkF m 59 #[oR this, oI (1 : Int32), oI (1 : Int32)] [(.int (1 : Int32)), (.ref aca), (.int (1 : Int32)), (.ref aca), (.ref as1)]))
          obtain ⟨cl829, Ar829, kc829, Sz829, Nn829, Hs829, Gs829⟩ := id V669
          have in829 := inb_of (j := (1 : Int32)) Sz829 ⟨by decide, by decide⟩
          have at829 : cl829.slots[((1 : Int32)).toNatClampNeg]? = some (.int (1 : Int32)) := Hs829.at in829 rfl
          refine own_via (fun t kz => X828.iaload hx (j := (1 : Int32)) (v := (.int (1 : Int32))) (by rw [e828]; exact Ar829.1) (State.isArrayOf_alike hZ.alike Ar829.2.1) Ar829.2.2 in829 at829 (g := (mkF m 59 #[oR this, oI (1 : Int32), oI (1 : Int32)] [(.int (1 : Int32)), (.ref aca), (.int (1 : Int32)), (.ref aca), (.ref as1)])) rfl rfl (hb hby d3_59) t kz) ?_
          show own_Go p e below _ (T828.setTop (mkF m 60 #[oR this, oI (1 : Int32), oI (1 : Int32)] [(.int (1 : Int32)), (.int (1 : Int32)), (.ref aca), (.ref as1)]))
          refine own_via (fun t kz => own_dupX2 X828.here hx rfl (hb hby d3_60) rfl rfl rfl rfl kz) ?_
          show own_Go p e below _ (T828.setTop (mkF m 61 #[oR this, oI (1 : Int32), oI (1 : Int32)] [(.int (1 : Int32)), (.int (1 : Int32)), (.ref aca), (.int (1 : Int32)), (.ref as1)]))
          refine own_via (fun t kz => XS.iconst X828.here hx rfl (hb hby d3_61) kz) ?_
          show own_Go p e below _ (T828.setTop (mkF m 62 #[oR this, oI (1 : Int32), oI (1 : Int32)] [(.int (1 : Int32)), (.int (1 : Int32)), (.int (1 : Int32)), (.ref aca), (.int (1 : Int32)), (.ref as1)]))
          refine own_via (fun t kz => XS.iadd X828.here hx rfl (hb hby d3_62) rfl kz) ?_
          show own_Go p e below _ (T828.setTop (mkF m 63 #[oR this, oI (1 : Int32), oI (1 : Int32)] [(.int (2 : Int32)), (.int (1 : Int32)), (.ref aca), (.int (1 : Int32)), (.ref as1)]))
          obtain ⟨cl830, Ar830, kc830, Sz830, Nn830, Hs830, Gs830⟩ := id V669
          obtain ⟨T830, h830, X830, e830, W830, st830⟩ := stI X828 hx hZ e828 Ar830 (j := (1 : Int32)) (inb_of Sz830 ⟨by decide, by decide⟩) (g := (mkF m 63 #[oR this, oI (1 : Int32), oI (1 : Int32)] [(.int (2 : Int32)), (.int (1 : Int32)), (.ref aca), (.int (1 : Int32)), (.ref as1)])) rfl rfl (hb hby d3_63)
          refine own_via st830 ?_
          have E831 := E657.wr W830
          have F832 := F658.other W830 (Or.inl (own_neq (by omega)))
          have F833 := F659.other W830 (Or.inl (own_neq (by omega)))
          have F834 := F660.other W830 (Or.inl (own_neq (by omega)))
          have F835 := F661.other W830 (Or.inl (own_neq (by omega)))
          have F836 := F662.other W830 (Or.inl (own_neq (by omega)))
          have V837 := V663.other W830 (own_neq (by omega))
          have V838 := V664.other W830 (own_neq (by omega))
          have V839 := V672.other W830 (own_neq (by omega))
          have V840 := V665.other W830 (own_neq (by omega))
          have V841 := V666.other W830 (own_neq (by omega))
          have V842 := V667.other W830 (own_neq (by omega))
          have V843 := V668.other W830 (own_neq (by omega))
          have Zs844 : n0 ≤ h830.size := Nat.le_trans Zs670 (Keep.of_wr W830).1
          have N845 := Fr.snoc X830 N671 (show n0 ≤ aca by omega)
          have V846 : Arv Z h830 aca ck8 .int (2 : Int32) [(.int wc0), (.int (2 : Int32))] (.int (0 : Int32)) := Arv.set Ar830 kc830 Sz830 Nn830 Hs830 Gs830 rfl W830 1 (by first | decide | (show 1 < 2; decide)) (by first | decide | (show 1 < 2; decide))
          show own_Go p e below _ (T830.setTop (mkF m 64 #[oR this, oI (1 : Int32), oI (1 : Int32)] [(.int (1 : Int32)), (.ref as1)]))
          refine own_via (fun t kz => XS.iloadN X830.here hx rfl (hb hby d3_64) rfl kz) ?_
          show own_Go p e below _ (T830.setTop (mkF m 65 #[oR this, oI (1 : Int32), oI (1 : Int32)] [(.int (1 : Int32)), (.int (1 : Int32)), (.ref as1)]))
          obtain ⟨cl847, Ar847, kc847, Sz847, Nn847, Hs847, Gs847⟩ := id V843
          obtain ⟨T847, h847, X847, e847, W847, st847⟩ := stI X830 hx hZ e830 Ar847 (j := (1 : Int32)) (inb_of Sz847 ⟨by decide, by decide⟩) (g := (mkF m 65 #[oR this, oI (1 : Int32), oI (1 : Int32)] [(.int (1 : Int32)), (.int (1 : Int32)), (.ref as1)])) rfl rfl (hb hby d3_65)
          refine own_via st847 ?_
          have E848 := E831.wr W847
          have F849 := F832.other W847 (Or.inl (own_neq (by omega)))
          have F850 := F833.other W847 (Or.inl (own_neq (by omega)))
          have F851 := F834.other W847 (Or.inl (own_neq (by omega)))
          have F852 := F835.other W847 (Or.inl (own_neq (by omega)))
          have F853 := F836.other W847 (Or.inl (own_neq (by omega)))
          have V854 := V837.other W847 (own_neq (by omega))
          have V855 := V838.other W847 (own_neq (by omega))
          have V856 := V839.other W847 (own_neq (by omega))
          have V857 := V840.other W847 (own_neq (by omega))
          have V858 := V841.other W847 (own_neq (by omega))
          have V859 := V842.other W847 (own_neq (by omega))
          have V860 := V846.other W847 (own_neq (by omega))
          have Zs861 : n0 ≤ h847.size := Nat.le_trans Zs844 (Keep.of_wr W847).1
          have N862 := Fr.snoc X847 N845 (show n0 ≤ as1 by omega)
          have V863 : Arv Z h847 as1 ck7 .int (2 : Int32) [(.int ws10), (.int (1 : Int32))] (.int (0 : Int32)) := Arv.set Ar847 kc847 Sz847 Nn847 Hs847 Gs847 rfl W847 1 (by first | decide | (show 1 < 2; decide)) (by first | decide | (show 1 < 2; decide))
          show own_Go p e below _ (T847.setTop (mkF m 66 #[oR this, oI (1 : Int32), oI (1 : Int32)] []))
          have hT : own_TC Z h847 n0 this (own_mk wm00 wm01 wm10 (1 : Int32) wt0 wt1 ws00 ws01 ws10 (1 : Int32) wc0 (2 : Int32) wn) := ⟨amo, am0, am1, ata, aso, as0, as1, aca, ck1, ck2, ck3, ck4, ck5, ck6, ck7, ck8, ⟨by omega, by omega, by omega, by omega, by omega, by omega, by omega, by omega, by omega⟩, E848, F849, F850, F851, F852, F853, V854, V855, V856, V857, V858, V859, V863, V860⟩
          obtain ⟨fs, hr, hrun, hended, hW, hsame⟩ := X847.leave (v := none) (fun _ => rfl)
          refine ⟨_, _, X847.returnOut hx Bd.returns (hb hby d3_66) hr, hrun, hended, _, _, rfl, ?_, ⟨_, rfl⟩, hW, hsame.mono (by decide) (by decide)⟩
          show Q3 Z this (1 : Int32) (1 : Int32) wm00 wm01 wm10 wm11 wt0 wt1 ws00 ws01 ws10 ws11 wc0 (1 : Int32) wn h0 n0 _ T847.heap _
          rw [e847]
          exact ⟨rfl, N862, Zs861, by unfold own_mark; rw [if_neg (by decide : ¬ ((1 : Int32) = (0 : Int32))), if_neg (by decide : ¬ ((1 : Int32) = (0 : Int32))), if_pos hc8_653, if_neg (by decide : ¬ ((1 : Int32) = (0 : Int32)))]; exact hT⟩
      · refine own_via (fun t kz => XS.ifNo X650.here hx rfl (hb hby d3_8) rfl ((if0 _ _).trans (feq hc8_653).1) kz) ?_
        show own_Go p e below _ (T650.setTop (mkF m 11 #[oR this, oI (1 : Int32), oI (1 : Int32)] []))
        have hT : own_TC Z h0 n0 this (own_mk wm00 wm01 wm10 wm11 wt0 wt1 ws00 ws01 ws10 ws11 wc0 wc1 wn) := ⟨amo, am0, am1, ata, aso, as0, as1, aca, ck1, ck2, ck3, ck4, ck5, ck6, ck7, ck8, ⟨by omega, by omega, by omega, by omega, by omega, by omega, by omega, by omega, by omega⟩, Eq, Fo0, Fo1, Fo2, Fo3, Fo4, Vo0, Vo1, Vo2, Vo3, Vo4, Vo5, Vo6, Vo7⟩
        obtain ⟨fs, hr, hrun, hended, hW, hsame⟩ := X650.leave (v := none) (fun _ => rfl)
        refine ⟨_, _, X650.returnOut hx Bd.returns (hb hby d3_11) hr, hrun, hended, _, _, rfl, ?_, ⟨_, rfl⟩, hW, hsame.mono (by decide) (by decide)⟩
        show Q3 Z this (1 : Int32) (1 : Int32) wm00 wm01 wm10 wm11 wt0 wt1 ws00 ws01 ws10 ws11 wc0 wc1 wn h0 n0 _ T650.heap _
        rw [e650]
        exact ⟨rfl, N0, Z0, by unfold own_mark; rw [if_neg (by decide : ¬ ((1 : Int32) = (0 : Int32))), if_neg (by decide : ¬ ((1 : Int32) = (0 : Int32))), if_neg hc8_653]; exact hT⟩
def own_row (c s0 s1 m0 m1 : Int32) : Prop := (c = 0 ∧ m0 = 0 ∧ m1 = 0) ∨ (c = 1 ∧ s0 = 0 ∧ m1 = 0) ∨ (c = 1 ∧ s0 = 1 ∧ m0 = 0) ∨ (c = 2 ∧ s0 = 0 ∧ s1 = 1) ∨ (c = 2 ∧ s0 = 1 ∧ s1 = 0)
def own_inv (wm00 wm01 wm10 wm11 wt0 wt1 ws00 ws01 ws10 ws11 wc0 wc1 wn : Int32) : Prop := own_row wc0 ws00 ws01 wm00 wm01 ∧ own_row wc1 ws10 ws11 wm10 wm11 ∧ ((wn = 0 ∧ wc0 = 0 ∧ wc1 = 0) ∨ (wn = 1 ∧ wt0 = 0 ∧ wc1 = 0) ∨ (wn = 1 ∧ wt0 = 1 ∧ wc0 = 0) ∨ (wn = 2 ∧ wt0 = 0 ∧ wt1 = 1) ∨ (wn = 2 ∧ wt0 = 1 ∧ wt1 = 0))
theorem own_row0 {s0 s1 m0 m1 : Int32} (h : own_row 0 s0 s1 m0 m1) : m0 = 0 ∧ m1 = 0 := by
  rcases h with h | h | h | h | h
  · exact h.2
  all_goals exact absurd h.1 (by decide)
theorem d4_19 : decode prog_45_method_3_code 19 = .ok (.iload_n 3, 1) := by decide +kernel
theorem d4_20 : decode prog_45_method_3_code 20 = .ok (.aload_n 0, 1) := by decide +kernel
theorem d4_21 : decode prog_45_method_3_code 21 = .ok (.getfield 23, 3) := by decide +kernel
theorem d4_24 : decode prog_45_method_3_code 24 = .ok (.iload_n 2, 1) := by decide +kernel
theorem d4_25 : decode prog_45_method_3_code 25 = .ok (.iaload, 1) := by decide +kernel
theorem d4_26 : decode prog_45_method_3_code 26 = .ok (.if_icmp .ge 25, 3) := by decide +kernel
theorem d4_29 : decode prog_45_method_3_code 29 = .ok (.aload_n 0, 1) := by decide +kernel
theorem d4_30 : decode prog_45_method_3_code 30 = .ok (.getfield 9, 3) := by decide +kernel
theorem d4_33 : decode prog_45_method_3_code 33 = .ok (.iload_n 2, 1) := by decide +kernel
theorem d4_34 : decode prog_45_method_3_code 34 = .ok (.aaload, 1) := by decide +kernel
theorem d4_35 : decode prog_45_method_3_code 35 = .ok (.aload_n 0, 1) := by decide +kernel
theorem d4_36 : decode prog_45_method_3_code 36 = .ok (.getfield 20, 3) := by decide +kernel
theorem d4_39 : decode prog_45_method_3_code 39 = .ok (.iload_n 2, 1) := by decide +kernel
theorem d4_40 : decode prog_45_method_3_code 40 = .ok (.aaload, 1) := by decide +kernel
theorem d4_41 : decode prog_45_method_3_code 41 = .ok (.iload_n 3, 1) := by decide +kernel
theorem d4_42 : decode prog_45_method_3_code 42 = .ok (.iaload, 1) := by decide +kernel
theorem d4_43 : decode prog_45_method_3_code 43 = .ok (.iconst 0, 1) := by decide +kernel
theorem d4_44 : decode prog_45_method_3_code 44 = .ok (.bastore, 1) := by decide +kernel
theorem d4_45 : decode prog_45_method_3_code 45 = .ok (.iinc 3 1, 3) := by decide +kernel
theorem d4_48 : decode prog_45_method_3_code 48 = .ok (.goto (-29), 3) := by decide +kernel
set_option maxRecDepth 65536 in
set_option maxHeartbeats 40000000 in
theorem own_in0 {p : Program} {l : Launch} {e : Env} {R : Room} {s : State} {m : MethodId} {args : Array Value} {below : List Frame} {meth : Method} {c : Code} {T0 : State} {locs : List Loc} {cells slots : Nat} {Z : State} {a0 : Array Value} {h0 : Heap} {n0 : Nat} (this : Addr) (pi : Int32) (wm00 : Int32) (wm01 : Int32) (wm10 : Int32) (wm11 : Int32) (wt0 : Int32) (wt1 : Int32) (ws00 : Int32) (ws01 : Int32) (ws10 : Int32) (ws11 : Int32) (wc0 : Int32) (wc1 : Int32) (wn : Int32)
    (X0 : Stand p l e R s m args below meth c T0 locs cells slots) (hx : p.tables.exec = Jvm.exec) (hZ : Z.Warmed39 s.vm) (hw : ∀ d ∈ tables_1, d.before a0 Z = true) (hby : c.code = prog_45_method_3_code) (hml : c.maxLocals = 4) (hown : s.vm.findClass "com/example/matchloom/matchloom/league/TouchedCells" = some m.cls) (e0 : T0.heap = h0) (N0 : Fr n0 locs) (Z0 : n0 ≤ h0.size) (TC : own_TC Z h0 n0 this (own_mk wm00 wm01 wm10 wm11 wt0 wt1 ws00 ws01 ws10 ws11 wc0 wc1 wn)) (hrow : own_row wc0 ws00 ws01 wm00 wm01) :
    own_Pc p e below (fun B => ∃ (T' : State) (h' : Heap) (locs' : List Loc), B = T'.setTop (mkF m 51 #[oR this, oI pi, oI (0 : Int32), oI wc0] []) ∧ Stand p l e R s m args below meth c T' locs' cells slots ∧ T'.heap = h' ∧ Fr n0 locs' ∧ n0 ≤ h'.size ∧ own_TC Z h' n0 this (own_mk (0 : Int32) (0 : Int32) wm10 wm11 wt0 wt1 ws00 ws01 ws10 ws11 wc0 wc1 wn)) (T0.setTop (mkF m 19 #[oR this, oI pi, oI (0 : Int32), oI (0 : Int32)] [])) := by
  obtain ⟨amo, am0, am1, ata, aso, as0, as1, aca, ck1, ck2, ck3, ck4, ck5, ck6, ck7, ck8, ⟨ch0, ch1, ch2, ch3, ch4, ch5, ch6, ch7, ch8⟩, Eq, Fq0, Fq1, Fq2, Fq3, Fq4, Vq0, Vq1, Vq2, Vq3, Vq4, Vq5, Vq6, Vq7⟩ := TC
  have Fo0 : Fld Z h0 this "com/example/matchloom/matchloom/league/TouchedCells" "marked" "[[Z" (.ref amo) := Fq0
  have Fo1 : Fld Z h0 this "com/example/matchloom/matchloom/league/TouchedCells" "teams" "[I" (.ref ata) := Fq1
  have Fo2 : Fld Z h0 this "com/example/matchloom/matchloom/league/TouchedCells" "slots" "[[I" (.ref aso) := Fq2
  have Fo3 : Fld Z h0 this "com/example/matchloom/matchloom/league/TouchedCells" "slotCount" "[I" (.ref aca) := Fq3
  have Fo4 : Fld Z h0 this "com/example/matchloom/matchloom/league/TouchedCells" "teamCount" "I" (.int wn) := Fq4
  have Vo0 : Arv Z h0 amo ck1 (.array .boolean) (2 : Int32) [(.ref am0), (.ref am1)] .null := Vq0
  have Vo1 : Arv Z h0 am0 ck2 .boolean (2 : Int32) [(.int wm00), (.int wm01)] (.int (0 : Int32)) := Vq1
  have Vo2 : Arv Z h0 am1 ck3 .boolean (2 : Int32) [(.int wm10), (.int wm11)] (.int (0 : Int32)) := Vq2
  have Vo3 : Arv Z h0 ata ck4 .int (2 : Int32) [(.int wt0), (.int wt1)] (.int (0 : Int32)) := Vq3
  have Vo4 : Arv Z h0 aso ck5 (.array .int) (2 : Int32) [(.ref as0), (.ref as1)] .null := Vq4
  have Vo5 : Arv Z h0 as0 ck6 .int (2 : Int32) [(.int ws00), (.int ws01)] (.int (0 : Int32)) := Vq5
  have Vo6 : Arv Z h0 as1 ck7 .int (2 : Int32) [(.int ws10), (.int ws11)] (.int (0 : Int32)) := Vq6
  have Vo7 : Arv Z h0 aca ck8 .int (2 : Int32) [(.int wc0), (.int wc1)] (.int (0 : Int32)) := Vq7
  rcases hrow with ⟨rfl, rfl, rfl⟩ | ⟨rfl, rfl, rfl⟩ | ⟨rfl, rfl, rfl⟩ | ⟨rfl, rfl, rfl⟩ | ⟨rfl, rfl, rfl⟩
  · show own_Pc p e below _ (T0.setTop (mkF m 19 #[oR this, oI pi, oI (0 : Int32), oI (0 : Int32)] []))
    refine own_pvia (fun t kz => XS.iloadN X0.here hx rfl (hb hby d4_19) rfl kz) ?_
    show own_Pc p e below _ (T0.setTop (mkF m 20 #[oR this, oI pi, oI (0 : Int32), oI (0 : Int32)] [(.int (0 : Int32))]))
    refine own_pvia (fun t kz => XS.aloadN X0.here hx rfl (hb hby d4_20) rfl rfl kz) ?_
    show own_Pc p e below _ (T0.setTop (mkF m 21 #[oR this, oI pi, oI (0 : Int32), oI (0 : Int32)] [(.ref this), (.int (0 : Int32))]))
    obtain ⟨T2, X2, e2, st2⟩ := getF X0 hx hZ hown (host := "") (Or.inl (own_w hw 21)) Via.refl e0 Fo3 (g := (mkF m 21 #[oR this, oI pi, oI (0 : Int32), oI (0 : Int32)] [(.ref this), (.int (0 : Int32))])) rfl rfl (hb hby d4_21)
    refine own_pvia st2 ?_
    show own_Pc p e below _ (T2.setTop (mkF m 24 #[oR this, oI pi, oI (0 : Int32), oI (0 : Int32)] [(.ref aca), (.int (0 : Int32))]))
    refine own_pvia (fun t kz => XS.iloadN X2.here hx rfl (hb hby d4_24) rfl kz) ?_
    show own_Pc p e below _ (T2.setTop (mkF m 25 #[oR this, oI pi, oI (0 : Int32), oI (0 : Int32)] [(.int (0 : Int32)), (.ref aca), (.int (0 : Int32))]))
    obtain ⟨cl3, Ar3, kc3, Sz3, Nn3, Hs3, Gs3⟩ := id Vo7
    have in3 := inb_of (j := (0 : Int32)) Sz3 ⟨by decide, by decide⟩
    have at3 : cl3.slots[((0 : Int32)).toNatClampNeg]? = some (.int (0 : Int32)) := Hs3.at in3 rfl
    refine own_pvia (fun t kz => X2.iaload hx (j := (0 : Int32)) (v := (.int (0 : Int32))) (by rw [e2]; exact Ar3.1) (State.isArrayOf_alike hZ.alike Ar3.2.1) Ar3.2.2 in3 at3 (g := (mkF m 25 #[oR this, oI pi, oI (0 : Int32), oI (0 : Int32)] [(.int (0 : Int32)), (.ref aca), (.int (0 : Int32))])) rfl rfl (hb hby d4_25) t kz) ?_
    show own_Pc p e below _ (T2.setTop (mkF m 26 #[oR this, oI pi, oI (0 : Int32), oI (0 : Int32)] [(.int (0 : Int32)), (.int (0 : Int32))]))
    refine own_pvia (fun t kz => XS.icmpYes X2.here hx rfl (pc0 := 26) (pc' := 51) rfl (hb hby d4_26) rfl (flt (by decide : ¬ ((0 : Int32) < (0 : Int32)))).2.1 (by decide) (by decide) kz) ?_
    exact ⟨_, fun t k => k, ⟨T2, h0, _, rfl, X2, e2, N0, Z0, ⟨amo, am0, am1, ata, aso, as0, as1, aca, ck1, ck2, ck3, ck4, ck5, ck6, ck7, ck8, ⟨by omega, by omega, by omega, by omega, by omega, by omega, by omega, by omega, by omega⟩, Eq, Fo0, Fo1, Fo2, Fo3, Fo4, Vo0, Vo1, Vo2, Vo3, Vo4, Vo5, Vo6, Vo7⟩⟩⟩
  · show own_Pc p e below _ (T0.setTop (mkF m 19 #[oR this, oI pi, oI (0 : Int32), oI (0 : Int32)] []))
    refine own_pvia (fun t kz => XS.iloadN X0.here hx rfl (hb hby d4_19) rfl kz) ?_
    show own_Pc p e below _ (T0.setTop (mkF m 20 #[oR this, oI pi, oI (0 : Int32), oI (0 : Int32)] [(.int (0 : Int32))]))
    refine own_pvia (fun t kz => XS.aloadN X0.here hx rfl (hb hby d4_20) rfl rfl kz) ?_
    show own_Pc p e below _ (T0.setTop (mkF m 21 #[oR this, oI pi, oI (0 : Int32), oI (0 : Int32)] [(.ref this), (.int (0 : Int32))]))
    obtain ⟨T4, X4, e4, st4⟩ := getF X0 hx hZ hown (host := "") (Or.inl (own_w hw 21)) Via.refl e0 Fo3 (g := (mkF m 21 #[oR this, oI pi, oI (0 : Int32), oI (0 : Int32)] [(.ref this), (.int (0 : Int32))])) rfl rfl (hb hby d4_21)
    refine own_pvia st4 ?_
    show own_Pc p e below _ (T4.setTop (mkF m 24 #[oR this, oI pi, oI (0 : Int32), oI (0 : Int32)] [(.ref aca), (.int (0 : Int32))]))
    refine own_pvia (fun t kz => XS.iloadN X4.here hx rfl (hb hby d4_24) rfl kz) ?_
    show own_Pc p e below _ (T4.setTop (mkF m 25 #[oR this, oI pi, oI (0 : Int32), oI (0 : Int32)] [(.int (0 : Int32)), (.ref aca), (.int (0 : Int32))]))
    obtain ⟨cl5, Ar5, kc5, Sz5, Nn5, Hs5, Gs5⟩ := id Vo7
    have in5 := inb_of (j := (0 : Int32)) Sz5 ⟨by decide, by decide⟩
    have at5 : cl5.slots[((0 : Int32)).toNatClampNeg]? = some (.int (1 : Int32)) := Hs5.at in5 rfl
    refine own_pvia (fun t kz => X4.iaload hx (j := (0 : Int32)) (v := (.int (1 : Int32))) (by rw [e4]; exact Ar5.1) (State.isArrayOf_alike hZ.alike Ar5.2.1) Ar5.2.2 in5 at5 (g := (mkF m 25 #[oR this, oI pi, oI (0 : Int32), oI (0 : Int32)] [(.int (0 : Int32)), (.ref aca), (.int (0 : Int32))])) rfl rfl (hb hby d4_25) t kz) ?_
    show own_Pc p e below _ (T4.setTop (mkF m 26 #[oR this, oI pi, oI (0 : Int32), oI (0 : Int32)] [(.int (1 : Int32)), (.int (0 : Int32))]))
    refine own_pvia (fun t kz => XS.icmpNo X4.here hx rfl (hb hby d4_26) rfl (tlt (by decide : (0 : Int32) < (1 : Int32))).2.1 kz) ?_
    show own_Pc p e below _ (T4.setTop (mkF m 29 #[oR this, oI pi, oI (0 : Int32), oI (0 : Int32)] []))
    refine own_pvia (fun t kz => XS.aloadN X4.here hx rfl (hb hby d4_29) rfl rfl kz) ?_
    show own_Pc p e below _ (T4.setTop (mkF m 30 #[oR this, oI pi, oI (0 : Int32), oI (0 : Int32)] [(.ref this)]))
    obtain ⟨T6, X6, e6, st6⟩ := getF X4 hx hZ hown (host := "") (Or.inl (own_w hw 12)) Via.refl e4 Fo0 (g := (mkF m 30 #[oR this, oI pi, oI (0 : Int32), oI (0 : Int32)] [(.ref this)])) rfl rfl (hb hby d4_30)
    refine own_pvia st6 ?_
    show own_Pc p e below _ (T6.setTop (mkF m 33 #[oR this, oI pi, oI (0 : Int32), oI (0 : Int32)] [(.ref amo)]))
    refine own_pvia (fun t kz => XS.iloadN X6.here hx rfl (hb hby d4_33) rfl kz) ?_
    show own_Pc p e below _ (T6.setTop (mkF m 34 #[oR this, oI pi, oI (0 : Int32), oI (0 : Int32)] [(.int (0 : Int32)), (.ref amo)]))
    obtain ⟨cl7, Ar7, kc7, Sz7, Nn7, Hs7, Gs7⟩ := id Vo0
    have in7 := inb_of (j := (0 : Int32)) Sz7 ⟨by decide, by decide⟩
    have at7 : cl7.slots[((0 : Int32)).toNatClampNeg]? = some (.ref am0) := Hs7.at in7 rfl
    refine own_pvia (fun t kz => X6.aaload hx (j := (0 : Int32)) (v := (.ref am0)) (by rw [e6]; exact Ar7.1) (State.isArrayOf_alike hZ.alike Ar7.2.1) rfl Ar7.2.2 in7 at7 (g := (mkF m 34 #[oR this, oI pi, oI (0 : Int32), oI (0 : Int32)] [(.int (0 : Int32)), (.ref amo)])) rfl rfl (hb hby d4_34) t kz) ?_
    show own_Pc p e below _ (T6.setTop (mkF m 35 #[oR this, oI pi, oI (0 : Int32), oI (0 : Int32)] [(.ref am0)]))
    refine own_pvia (fun t kz => XS.aloadN X6.here hx rfl (hb hby d4_35) rfl rfl kz) ?_
    show own_Pc p e below _ (T6.setTop (mkF m 36 #[oR this, oI pi, oI (0 : Int32), oI (0 : Int32)] [(.ref this), (.ref am0)]))
    obtain ⟨T8, X8, e8, st8⟩ := getF X6 hx hZ hown (host := "") (Or.inl (own_w hw 19)) Via.refl e6 Fo2 (g := (mkF m 36 #[oR this, oI pi, oI (0 : Int32), oI (0 : Int32)] [(.ref this), (.ref am0)])) rfl rfl (hb hby d4_36)
    refine own_pvia st8 ?_
    show own_Pc p e below _ (T8.setTop (mkF m 39 #[oR this, oI pi, oI (0 : Int32), oI (0 : Int32)] [(.ref aso), (.ref am0)]))
    refine own_pvia (fun t kz => XS.iloadN X8.here hx rfl (hb hby d4_39) rfl kz) ?_
    show own_Pc p e below _ (T8.setTop (mkF m 40 #[oR this, oI pi, oI (0 : Int32), oI (0 : Int32)] [(.int (0 : Int32)), (.ref aso), (.ref am0)]))
    obtain ⟨cl9, Ar9, kc9, Sz9, Nn9, Hs9, Gs9⟩ := id Vo4
    have in9 := inb_of (j := (0 : Int32)) Sz9 ⟨by decide, by decide⟩
    have at9 : cl9.slots[((0 : Int32)).toNatClampNeg]? = some (.ref as0) := Hs9.at in9 rfl
    refine own_pvia (fun t kz => X8.aaload hx (j := (0 : Int32)) (v := (.ref as0)) (by rw [e8]; exact Ar9.1) (State.isArrayOf_alike hZ.alike Ar9.2.1) rfl Ar9.2.2 in9 at9 (g := (mkF m 40 #[oR this, oI pi, oI (0 : Int32), oI (0 : Int32)] [(.int (0 : Int32)), (.ref aso), (.ref am0)])) rfl rfl (hb hby d4_40) t kz) ?_
    show own_Pc p e below _ (T8.setTop (mkF m 41 #[oR this, oI pi, oI (0 : Int32), oI (0 : Int32)] [(.ref as0), (.ref am0)]))
    refine own_pvia (fun t kz => XS.iloadN X8.here hx rfl (hb hby d4_41) rfl kz) ?_
    show own_Pc p e below _ (T8.setTop (mkF m 42 #[oR this, oI pi, oI (0 : Int32), oI (0 : Int32)] [(.int (0 : Int32)), (.ref as0), (.ref am0)]))
    obtain ⟨cl10, Ar10, kc10, Sz10, Nn10, Hs10, Gs10⟩ := id Vo5
    have in10 := inb_of (j := (0 : Int32)) Sz10 ⟨by decide, by decide⟩
    have at10 : cl10.slots[((0 : Int32)).toNatClampNeg]? = some (.int (0 : Int32)) := Hs10.at in10 rfl
    refine own_pvia (fun t kz => X8.iaload hx (j := (0 : Int32)) (v := (.int (0 : Int32))) (by rw [e8]; exact Ar10.1) (State.isArrayOf_alike hZ.alike Ar10.2.1) Ar10.2.2 in10 at10 (g := (mkF m 42 #[oR this, oI pi, oI (0 : Int32), oI (0 : Int32)] [(.int (0 : Int32)), (.ref as0), (.ref am0)])) rfl rfl (hb hby d4_42) t kz) ?_
    show own_Pc p e below _ (T8.setTop (mkF m 43 #[oR this, oI pi, oI (0 : Int32), oI (0 : Int32)] [(.int (0 : Int32)), (.ref am0)]))
    refine own_pvia (fun t kz => XS.iconst X8.here hx rfl (hb hby d4_43) kz) ?_
    show own_Pc p e below _ (T8.setTop (mkF m 44 #[oR this, oI pi, oI (0 : Int32), oI (0 : Int32)] [(.int (0 : Int32)), (.int (0 : Int32)), (.ref am0)]))
    obtain ⟨cl11, Ar11, kc11, Sz11, Nn11, Hs11, Gs11⟩ := id Vo1
    obtain ⟨T11, h11, X11, e11, W11, st11⟩ := stZ X8 hx hZ e8 Ar11 (j := (0 : Int32)) (inb_of Sz11 ⟨by decide, by decide⟩) (g := (mkF m 44 #[oR this, oI pi, oI (0 : Int32), oI (0 : Int32)] [(.int (0 : Int32)), (.int (0 : Int32)), (.ref am0)])) rfl rfl (hb hby d4_44)
    refine own_pvia st11 ?_
    have na11 : nar .boolean (0 : Int32) = (0 : Int32) := by decide
    rw [na11] at W11
    have E12 := Eq.wr W11
    have F13 := Fo0.other W11 (Or.inl (own_neq (by omega)))
    have F14 := Fo1.other W11 (Or.inl (own_neq (by omega)))
    have F15 := Fo2.other W11 (Or.inl (own_neq (by omega)))
    have F16 := Fo3.other W11 (Or.inl (own_neq (by omega)))
    have F17 := Fo4.other W11 (Or.inl (own_neq (by omega)))
    have V18 := Vo0.other W11 (own_neq (by omega))
    have V19 := Vo2.other W11 (own_neq (by omega))
    have V20 := Vo3.other W11 (own_neq (by omega))
    have V21 := Vo4.other W11 (own_neq (by omega))
    have V22 := Vo5.other W11 (own_neq (by omega))
    have V23 := Vo6.other W11 (own_neq (by omega))
    have V24 := Vo7.other W11 (own_neq (by omega))
    have Zs25 : n0 ≤ h11.size := Nat.le_trans Z0 (Keep.of_wr W11).1
    have N26 := Fr.snoc X11 N0 (show n0 ≤ am0 by omega)
    have V27 : Arv Z h11 am0 ck2 .boolean (2 : Int32) [(.int (0 : Int32)), (.int (0 : Int32))] (.int (0 : Int32)) := Arv.set Ar11 kc11 Sz11 Nn11 Hs11 Gs11 (by rw [← na11]; first | exact fits_nar_char _ | exact fits_nar_bool _ | exact fits_nar_byte _) W11 0 (by first | decide | (show 0 < 2; decide)) (by first | decide | (show 0 < 2; decide))
    show own_Pc p e below _ (T11.setTop (mkF m 45 #[oR this, oI pi, oI (0 : Int32), oI (0 : Int32)] []))
    refine own_pvia (fun t kz => XS.iinc X11.here hx rfl (hb hby d4_45) rfl (l' := #[oR this, oI pi, oI (0 : Int32), oI (1 : Int32)]) rfl kz) ?_
    show own_Pc p e below _ (T11.setTop (mkF m 48 #[oR this, oI pi, oI (0 : Int32), oI (1 : Int32)] []))
    refine own_pvia (fun t kz => XS.goto X11.here hx rfl (pc0 := 48) (pc' := 19) rfl (hb hby d4_48) (by decide) (by decide) kz) ?_
    show own_Pc p e below _ (T11.setTop (mkF m 19 #[oR this, oI pi, oI (0 : Int32), oI (1 : Int32)] []))
    refine own_pvia (fun t kz => XS.iloadN X11.here hx rfl (hb hby d4_19) rfl kz) ?_
    show own_Pc p e below _ (T11.setTop (mkF m 20 #[oR this, oI pi, oI (0 : Int32), oI (1 : Int32)] [(.int (1 : Int32))]))
    refine own_pvia (fun t kz => XS.aloadN X11.here hx rfl (hb hby d4_20) rfl rfl kz) ?_
    show own_Pc p e below _ (T11.setTop (mkF m 21 #[oR this, oI pi, oI (0 : Int32), oI (1 : Int32)] [(.ref this), (.int (1 : Int32))]))
    obtain ⟨T28, X28, e28, st28⟩ := getF X11 hx hZ hown (host := "") (Or.inl (own_w hw 21)) Via.refl e11 F16 (g := (mkF m 21 #[oR this, oI pi, oI (0 : Int32), oI (1 : Int32)] [(.ref this), (.int (1 : Int32))])) rfl rfl (hb hby d4_21)
    refine own_pvia st28 ?_
    show own_Pc p e below _ (T28.setTop (mkF m 24 #[oR this, oI pi, oI (0 : Int32), oI (1 : Int32)] [(.ref aca), (.int (1 : Int32))]))
    refine own_pvia (fun t kz => XS.iloadN X28.here hx rfl (hb hby d4_24) rfl kz) ?_
    show own_Pc p e below _ (T28.setTop (mkF m 25 #[oR this, oI pi, oI (0 : Int32), oI (1 : Int32)] [(.int (0 : Int32)), (.ref aca), (.int (1 : Int32))]))
    obtain ⟨cl29, Ar29, kc29, Sz29, Nn29, Hs29, Gs29⟩ := id V24
    have in29 := inb_of (j := (0 : Int32)) Sz29 ⟨by decide, by decide⟩
    have at29 : cl29.slots[((0 : Int32)).toNatClampNeg]? = some (.int (1 : Int32)) := Hs29.at in29 rfl
    refine own_pvia (fun t kz => X28.iaload hx (j := (0 : Int32)) (v := (.int (1 : Int32))) (by rw [e28]; exact Ar29.1) (State.isArrayOf_alike hZ.alike Ar29.2.1) Ar29.2.2 in29 at29 (g := (mkF m 25 #[oR this, oI pi, oI (0 : Int32), oI (1 : Int32)] [(.int (0 : Int32)), (.ref aca), (.int (1 : Int32))])) rfl rfl (hb hby d4_25) t kz) ?_
    show own_Pc p e below _ (T28.setTop (mkF m 26 #[oR this, oI pi, oI (0 : Int32), oI (1 : Int32)] [(.int (1 : Int32)), (.int (1 : Int32))]))
    refine own_pvia (fun t kz => XS.icmpYes X28.here hx rfl (pc0 := 26) (pc' := 51) rfl (hb hby d4_26) rfl (flt (by decide : ¬ ((1 : Int32) < (1 : Int32)))).2.1 (by decide) (by decide) kz) ?_
    exact ⟨_, fun t k => k, ⟨T28, h11, _, rfl, X28, e28, N26, Zs25, ⟨amo, am0, am1, ata, aso, as0, as1, aca, ck1, ck2, ck3, ck4, ck5, ck6, ck7, ck8, ⟨by omega, by omega, by omega, by omega, by omega, by omega, by omega, by omega, by omega⟩, E12, F13, F14, F15, F16, F17, V18, V27, V19, V20, V21, V22, V23, V24⟩⟩⟩
  · show own_Pc p e below _ (T0.setTop (mkF m 19 #[oR this, oI pi, oI (0 : Int32), oI (0 : Int32)] []))
    refine own_pvia (fun t kz => XS.iloadN X0.here hx rfl (hb hby d4_19) rfl kz) ?_
    show own_Pc p e below _ (T0.setTop (mkF m 20 #[oR this, oI pi, oI (0 : Int32), oI (0 : Int32)] [(.int (0 : Int32))]))
    refine own_pvia (fun t kz => XS.aloadN X0.here hx rfl (hb hby d4_20) rfl rfl kz) ?_
    show own_Pc p e below _ (T0.setTop (mkF m 21 #[oR this, oI pi, oI (0 : Int32), oI (0 : Int32)] [(.ref this), (.int (0 : Int32))]))
    obtain ⟨T30, X30, e30, st30⟩ := getF X0 hx hZ hown (host := "") (Or.inl (own_w hw 21)) Via.refl e0 Fo3 (g := (mkF m 21 #[oR this, oI pi, oI (0 : Int32), oI (0 : Int32)] [(.ref this), (.int (0 : Int32))])) rfl rfl (hb hby d4_21)
    refine own_pvia st30 ?_
    show own_Pc p e below _ (T30.setTop (mkF m 24 #[oR this, oI pi, oI (0 : Int32), oI (0 : Int32)] [(.ref aca), (.int (0 : Int32))]))
    refine own_pvia (fun t kz => XS.iloadN X30.here hx rfl (hb hby d4_24) rfl kz) ?_
    show own_Pc p e below _ (T30.setTop (mkF m 25 #[oR this, oI pi, oI (0 : Int32), oI (0 : Int32)] [(.int (0 : Int32)), (.ref aca), (.int (0 : Int32))]))
    obtain ⟨cl31, Ar31, kc31, Sz31, Nn31, Hs31, Gs31⟩ := id Vo7
    have in31 := inb_of (j := (0 : Int32)) Sz31 ⟨by decide, by decide⟩
    have at31 : cl31.slots[((0 : Int32)).toNatClampNeg]? = some (.int (1 : Int32)) := Hs31.at in31 rfl
    refine own_pvia (fun t kz => X30.iaload hx (j := (0 : Int32)) (v := (.int (1 : Int32))) (by rw [e30]; exact Ar31.1) (State.isArrayOf_alike hZ.alike Ar31.2.1) Ar31.2.2 in31 at31 (g := (mkF m 25 #[oR this, oI pi, oI (0 : Int32), oI (0 : Int32)] [(.int (0 : Int32)), (.ref aca), (.int (0 : Int32))])) rfl rfl (hb hby d4_25) t kz) ?_
    show own_Pc p e below _ (T30.setTop (mkF m 26 #[oR this, oI pi, oI (0 : Int32), oI (0 : Int32)] [(.int (1 : Int32)), (.int (0 : Int32))]))
    refine own_pvia (fun t kz => XS.icmpNo X30.here hx rfl (hb hby d4_26) rfl (tlt (by decide : (0 : Int32) < (1 : Int32))).2.1 kz) ?_
    show own_Pc p e below _ (T30.setTop (mkF m 29 #[oR this, oI pi, oI (0 : Int32), oI (0 : Int32)] []))
    refine own_pvia (fun t kz => XS.aloadN X30.here hx rfl (hb hby d4_29) rfl rfl kz) ?_
    show own_Pc p e below _ (T30.setTop (mkF m 30 #[oR this, oI pi, oI (0 : Int32), oI (0 : Int32)] [(.ref this)]))
    obtain ⟨T32, X32, e32, st32⟩ := getF X30 hx hZ hown (host := "") (Or.inl (own_w hw 12)) Via.refl e30 Fo0 (g := (mkF m 30 #[oR this, oI pi, oI (0 : Int32), oI (0 : Int32)] [(.ref this)])) rfl rfl (hb hby d4_30)
    refine own_pvia st32 ?_
    show own_Pc p e below _ (T32.setTop (mkF m 33 #[oR this, oI pi, oI (0 : Int32), oI (0 : Int32)] [(.ref amo)]))
    refine own_pvia (fun t kz => XS.iloadN X32.here hx rfl (hb hby d4_33) rfl kz) ?_
    show own_Pc p e below _ (T32.setTop (mkF m 34 #[oR this, oI pi, oI (0 : Int32), oI (0 : Int32)] [(.int (0 : Int32)), (.ref amo)]))
    obtain ⟨cl33, Ar33, kc33, Sz33, Nn33, Hs33, Gs33⟩ := id Vo0
    have in33 := inb_of (j := (0 : Int32)) Sz33 ⟨by decide, by decide⟩
    have at33 : cl33.slots[((0 : Int32)).toNatClampNeg]? = some (.ref am0) := Hs33.at in33 rfl
    refine own_pvia (fun t kz => X32.aaload hx (j := (0 : Int32)) (v := (.ref am0)) (by rw [e32]; exact Ar33.1) (State.isArrayOf_alike hZ.alike Ar33.2.1) rfl Ar33.2.2 in33 at33 (g := (mkF m 34 #[oR this, oI pi, oI (0 : Int32), oI (0 : Int32)] [(.int (0 : Int32)), (.ref amo)])) rfl rfl (hb hby d4_34) t kz) ?_
    show own_Pc p e below _ (T32.setTop (mkF m 35 #[oR this, oI pi, oI (0 : Int32), oI (0 : Int32)] [(.ref am0)]))
    refine own_pvia (fun t kz => XS.aloadN X32.here hx rfl (hb hby d4_35) rfl rfl kz) ?_
    show own_Pc p e below _ (T32.setTop (mkF m 36 #[oR this, oI pi, oI (0 : Int32), oI (0 : Int32)] [(.ref this), (.ref am0)]))
    obtain ⟨T34, X34, e34, st34⟩ := getF X32 hx hZ hown (host := "") (Or.inl (own_w hw 19)) Via.refl e32 Fo2 (g := (mkF m 36 #[oR this, oI pi, oI (0 : Int32), oI (0 : Int32)] [(.ref this), (.ref am0)])) rfl rfl (hb hby d4_36)
    refine own_pvia st34 ?_
    show own_Pc p e below _ (T34.setTop (mkF m 39 #[oR this, oI pi, oI (0 : Int32), oI (0 : Int32)] [(.ref aso), (.ref am0)]))
    refine own_pvia (fun t kz => XS.iloadN X34.here hx rfl (hb hby d4_39) rfl kz) ?_
    show own_Pc p e below _ (T34.setTop (mkF m 40 #[oR this, oI pi, oI (0 : Int32), oI (0 : Int32)] [(.int (0 : Int32)), (.ref aso), (.ref am0)]))
    obtain ⟨cl35, Ar35, kc35, Sz35, Nn35, Hs35, Gs35⟩ := id Vo4
    have in35 := inb_of (j := (0 : Int32)) Sz35 ⟨by decide, by decide⟩
    have at35 : cl35.slots[((0 : Int32)).toNatClampNeg]? = some (.ref as0) := Hs35.at in35 rfl
    refine own_pvia (fun t kz => X34.aaload hx (j := (0 : Int32)) (v := (.ref as0)) (by rw [e34]; exact Ar35.1) (State.isArrayOf_alike hZ.alike Ar35.2.1) rfl Ar35.2.2 in35 at35 (g := (mkF m 40 #[oR this, oI pi, oI (0 : Int32), oI (0 : Int32)] [(.int (0 : Int32)), (.ref aso), (.ref am0)])) rfl rfl (hb hby d4_40) t kz) ?_
    show own_Pc p e below _ (T34.setTop (mkF m 41 #[oR this, oI pi, oI (0 : Int32), oI (0 : Int32)] [(.ref as0), (.ref am0)]))
    refine own_pvia (fun t kz => XS.iloadN X34.here hx rfl (hb hby d4_41) rfl kz) ?_
    show own_Pc p e below _ (T34.setTop (mkF m 42 #[oR this, oI pi, oI (0 : Int32), oI (0 : Int32)] [(.int (0 : Int32)), (.ref as0), (.ref am0)]))
    obtain ⟨cl36, Ar36, kc36, Sz36, Nn36, Hs36, Gs36⟩ := id Vo5
    have in36 := inb_of (j := (0 : Int32)) Sz36 ⟨by decide, by decide⟩
    have at36 : cl36.slots[((0 : Int32)).toNatClampNeg]? = some (.int (1 : Int32)) := Hs36.at in36 rfl
    refine own_pvia (fun t kz => X34.iaload hx (j := (0 : Int32)) (v := (.int (1 : Int32))) (by rw [e34]; exact Ar36.1) (State.isArrayOf_alike hZ.alike Ar36.2.1) Ar36.2.2 in36 at36 (g := (mkF m 42 #[oR this, oI pi, oI (0 : Int32), oI (0 : Int32)] [(.int (0 : Int32)), (.ref as0), (.ref am0)])) rfl rfl (hb hby d4_42) t kz) ?_
    show own_Pc p e below _ (T34.setTop (mkF m 43 #[oR this, oI pi, oI (0 : Int32), oI (0 : Int32)] [(.int (1 : Int32)), (.ref am0)]))
    refine own_pvia (fun t kz => XS.iconst X34.here hx rfl (hb hby d4_43) kz) ?_
    show own_Pc p e below _ (T34.setTop (mkF m 44 #[oR this, oI pi, oI (0 : Int32), oI (0 : Int32)] [(.int (0 : Int32)), (.int (1 : Int32)), (.ref am0)]))
    obtain ⟨cl37, Ar37, kc37, Sz37, Nn37, Hs37, Gs37⟩ := id Vo1
    obtain ⟨T37, h37, X37, e37, W37, st37⟩ := stZ X34 hx hZ e34 Ar37 (j := (1 : Int32)) (inb_of Sz37 ⟨by decide, by decide⟩) (g := (mkF m 44 #[oR this, oI pi, oI (0 : Int32), oI (0 : Int32)] [(.int (0 : Int32)), (.int (1 : Int32)), (.ref am0)])) rfl rfl (hb hby d4_44)
    refine own_pvia st37 ?_
    have na37 : nar .boolean (0 : Int32) = (0 : Int32) := by decide
    rw [na37] at W37
    have E38 := Eq.wr W37
    have F39 := Fo0.other W37 (Or.inl (own_neq (by omega)))
    have F40 := Fo1.other W37 (Or.inl (own_neq (by omega)))
    have F41 := Fo2.other W37 (Or.inl (own_neq (by omega)))
    have F42 := Fo3.other W37 (Or.inl (own_neq (by omega)))
    have F43 := Fo4.other W37 (Or.inl (own_neq (by omega)))
    have V44 := Vo0.other W37 (own_neq (by omega))
    have V45 := Vo2.other W37 (own_neq (by omega))
    have V46 := Vo3.other W37 (own_neq (by omega))
    have V47 := Vo4.other W37 (own_neq (by omega))
    have V48 := Vo5.other W37 (own_neq (by omega))
    have V49 := Vo6.other W37 (own_neq (by omega))
    have V50 := Vo7.other W37 (own_neq (by omega))
    have Zs51 : n0 ≤ h37.size := Nat.le_trans Z0 (Keep.of_wr W37).1
    have N52 := Fr.snoc X37 N0 (show n0 ≤ am0 by omega)
    have V53 : Arv Z h37 am0 ck2 .boolean (2 : Int32) [(.int (0 : Int32)), (.int (0 : Int32))] (.int (0 : Int32)) := Arv.set Ar37 kc37 Sz37 Nn37 Hs37 Gs37 (by rw [← na37]; first | exact fits_nar_char _ | exact fits_nar_bool _ | exact fits_nar_byte _) W37 1 (by first | decide | (show 1 < 2; decide)) (by first | decide | (show 1 < 2; decide))
    show own_Pc p e below _ (T37.setTop (mkF m 45 #[oR this, oI pi, oI (0 : Int32), oI (0 : Int32)] []))
    refine own_pvia (fun t kz => XS.iinc X37.here hx rfl (hb hby d4_45) rfl (l' := #[oR this, oI pi, oI (0 : Int32), oI (1 : Int32)]) rfl kz) ?_
    show own_Pc p e below _ (T37.setTop (mkF m 48 #[oR this, oI pi, oI (0 : Int32), oI (1 : Int32)] []))
    refine own_pvia (fun t kz => XS.goto X37.here hx rfl (pc0 := 48) (pc' := 19) rfl (hb hby d4_48) (by decide) (by decide) kz) ?_
    show own_Pc p e below _ (T37.setTop (mkF m 19 #[oR this, oI pi, oI (0 : Int32), oI (1 : Int32)] []))
    refine own_pvia (fun t kz => XS.iloadN X37.here hx rfl (hb hby d4_19) rfl kz) ?_
    show own_Pc p e below _ (T37.setTop (mkF m 20 #[oR this, oI pi, oI (0 : Int32), oI (1 : Int32)] [(.int (1 : Int32))]))
    refine own_pvia (fun t kz => XS.aloadN X37.here hx rfl (hb hby d4_20) rfl rfl kz) ?_
    show own_Pc p e below _ (T37.setTop (mkF m 21 #[oR this, oI pi, oI (0 : Int32), oI (1 : Int32)] [(.ref this), (.int (1 : Int32))]))
    obtain ⟨T54, X54, e54, st54⟩ := getF X37 hx hZ hown (host := "") (Or.inl (own_w hw 21)) Via.refl e37 F42 (g := (mkF m 21 #[oR this, oI pi, oI (0 : Int32), oI (1 : Int32)] [(.ref this), (.int (1 : Int32))])) rfl rfl (hb hby d4_21)
    refine own_pvia st54 ?_
    show own_Pc p e below _ (T54.setTop (mkF m 24 #[oR this, oI pi, oI (0 : Int32), oI (1 : Int32)] [(.ref aca), (.int (1 : Int32))]))
    refine own_pvia (fun t kz => XS.iloadN X54.here hx rfl (hb hby d4_24) rfl kz) ?_
    show own_Pc p e below _ (T54.setTop (mkF m 25 #[oR this, oI pi, oI (0 : Int32), oI (1 : Int32)] [(.int (0 : Int32)), (.ref aca), (.int (1 : Int32))]))
    obtain ⟨cl55, Ar55, kc55, Sz55, Nn55, Hs55, Gs55⟩ := id V50
    have in55 := inb_of (j := (0 : Int32)) Sz55 ⟨by decide, by decide⟩
    have at55 : cl55.slots[((0 : Int32)).toNatClampNeg]? = some (.int (1 : Int32)) := Hs55.at in55 rfl
    refine own_pvia (fun t kz => X54.iaload hx (j := (0 : Int32)) (v := (.int (1 : Int32))) (by rw [e54]; exact Ar55.1) (State.isArrayOf_alike hZ.alike Ar55.2.1) Ar55.2.2 in55 at55 (g := (mkF m 25 #[oR this, oI pi, oI (0 : Int32), oI (1 : Int32)] [(.int (0 : Int32)), (.ref aca), (.int (1 : Int32))])) rfl rfl (hb hby d4_25) t kz) ?_
    show own_Pc p e below _ (T54.setTop (mkF m 26 #[oR this, oI pi, oI (0 : Int32), oI (1 : Int32)] [(.int (1 : Int32)), (.int (1 : Int32))]))
    refine own_pvia (fun t kz => XS.icmpYes X54.here hx rfl (pc0 := 26) (pc' := 51) rfl (hb hby d4_26) rfl (flt (by decide : ¬ ((1 : Int32) < (1 : Int32)))).2.1 (by decide) (by decide) kz) ?_
    exact ⟨_, fun t k => k, ⟨T54, h37, _, rfl, X54, e54, N52, Zs51, ⟨amo, am0, am1, ata, aso, as0, as1, aca, ck1, ck2, ck3, ck4, ck5, ck6, ck7, ck8, ⟨by omega, by omega, by omega, by omega, by omega, by omega, by omega, by omega, by omega⟩, E38, F39, F40, F41, F42, F43, V44, V53, V45, V46, V47, V48, V49, V50⟩⟩⟩
  · show own_Pc p e below _ (T0.setTop (mkF m 19 #[oR this, oI pi, oI (0 : Int32), oI (0 : Int32)] []))
    refine own_pvia (fun t kz => XS.iloadN X0.here hx rfl (hb hby d4_19) rfl kz) ?_
    show own_Pc p e below _ (T0.setTop (mkF m 20 #[oR this, oI pi, oI (0 : Int32), oI (0 : Int32)] [(.int (0 : Int32))]))
    refine own_pvia (fun t kz => XS.aloadN X0.here hx rfl (hb hby d4_20) rfl rfl kz) ?_
    show own_Pc p e below _ (T0.setTop (mkF m 21 #[oR this, oI pi, oI (0 : Int32), oI (0 : Int32)] [(.ref this), (.int (0 : Int32))]))
    obtain ⟨T56, X56, e56, st56⟩ := getF X0 hx hZ hown (host := "") (Or.inl (own_w hw 21)) Via.refl e0 Fo3 (g := (mkF m 21 #[oR this, oI pi, oI (0 : Int32), oI (0 : Int32)] [(.ref this), (.int (0 : Int32))])) rfl rfl (hb hby d4_21)
    refine own_pvia st56 ?_
    show own_Pc p e below _ (T56.setTop (mkF m 24 #[oR this, oI pi, oI (0 : Int32), oI (0 : Int32)] [(.ref aca), (.int (0 : Int32))]))
    refine own_pvia (fun t kz => XS.iloadN X56.here hx rfl (hb hby d4_24) rfl kz) ?_
    show own_Pc p e below _ (T56.setTop (mkF m 25 #[oR this, oI pi, oI (0 : Int32), oI (0 : Int32)] [(.int (0 : Int32)), (.ref aca), (.int (0 : Int32))]))
    obtain ⟨cl57, Ar57, kc57, Sz57, Nn57, Hs57, Gs57⟩ := id Vo7
    have in57 := inb_of (j := (0 : Int32)) Sz57 ⟨by decide, by decide⟩
    have at57 : cl57.slots[((0 : Int32)).toNatClampNeg]? = some (.int (2 : Int32)) := Hs57.at in57 rfl
    refine own_pvia (fun t kz => X56.iaload hx (j := (0 : Int32)) (v := (.int (2 : Int32))) (by rw [e56]; exact Ar57.1) (State.isArrayOf_alike hZ.alike Ar57.2.1) Ar57.2.2 in57 at57 (g := (mkF m 25 #[oR this, oI pi, oI (0 : Int32), oI (0 : Int32)] [(.int (0 : Int32)), (.ref aca), (.int (0 : Int32))])) rfl rfl (hb hby d4_25) t kz) ?_
    show own_Pc p e below _ (T56.setTop (mkF m 26 #[oR this, oI pi, oI (0 : Int32), oI (0 : Int32)] [(.int (2 : Int32)), (.int (0 : Int32))]))
    refine own_pvia (fun t kz => XS.icmpNo X56.here hx rfl (hb hby d4_26) rfl (tlt (by decide : (0 : Int32) < (2 : Int32))).2.1 kz) ?_
    show own_Pc p e below _ (T56.setTop (mkF m 29 #[oR this, oI pi, oI (0 : Int32), oI (0 : Int32)] []))
    refine own_pvia (fun t kz => XS.aloadN X56.here hx rfl (hb hby d4_29) rfl rfl kz) ?_
    show own_Pc p e below _ (T56.setTop (mkF m 30 #[oR this, oI pi, oI (0 : Int32), oI (0 : Int32)] [(.ref this)]))
    obtain ⟨T58, X58, e58, st58⟩ := getF X56 hx hZ hown (host := "") (Or.inl (own_w hw 12)) Via.refl e56 Fo0 (g := (mkF m 30 #[oR this, oI pi, oI (0 : Int32), oI (0 : Int32)] [(.ref this)])) rfl rfl (hb hby d4_30)
    refine own_pvia st58 ?_
    show own_Pc p e below _ (T58.setTop (mkF m 33 #[oR this, oI pi, oI (0 : Int32), oI (0 : Int32)] [(.ref amo)]))
    refine own_pvia (fun t kz => XS.iloadN X58.here hx rfl (hb hby d4_33) rfl kz) ?_
    show own_Pc p e below _ (T58.setTop (mkF m 34 #[oR this, oI pi, oI (0 : Int32), oI (0 : Int32)] [(.int (0 : Int32)), (.ref amo)]))
    obtain ⟨cl59, Ar59, kc59, Sz59, Nn59, Hs59, Gs59⟩ := id Vo0
    have in59 := inb_of (j := (0 : Int32)) Sz59 ⟨by decide, by decide⟩
    have at59 : cl59.slots[((0 : Int32)).toNatClampNeg]? = some (.ref am0) := Hs59.at in59 rfl
    refine own_pvia (fun t kz => X58.aaload hx (j := (0 : Int32)) (v := (.ref am0)) (by rw [e58]; exact Ar59.1) (State.isArrayOf_alike hZ.alike Ar59.2.1) rfl Ar59.2.2 in59 at59 (g := (mkF m 34 #[oR this, oI pi, oI (0 : Int32), oI (0 : Int32)] [(.int (0 : Int32)), (.ref amo)])) rfl rfl (hb hby d4_34) t kz) ?_
    show own_Pc p e below _ (T58.setTop (mkF m 35 #[oR this, oI pi, oI (0 : Int32), oI (0 : Int32)] [(.ref am0)]))
    refine own_pvia (fun t kz => XS.aloadN X58.here hx rfl (hb hby d4_35) rfl rfl kz) ?_
    show own_Pc p e below _ (T58.setTop (mkF m 36 #[oR this, oI pi, oI (0 : Int32), oI (0 : Int32)] [(.ref this), (.ref am0)]))
    obtain ⟨T60, X60, e60, st60⟩ := getF X58 hx hZ hown (host := "") (Or.inl (own_w hw 19)) Via.refl e58 Fo2 (g := (mkF m 36 #[oR this, oI pi, oI (0 : Int32), oI (0 : Int32)] [(.ref this), (.ref am0)])) rfl rfl (hb hby d4_36)
    refine own_pvia st60 ?_
    show own_Pc p e below _ (T60.setTop (mkF m 39 #[oR this, oI pi, oI (0 : Int32), oI (0 : Int32)] [(.ref aso), (.ref am0)]))
    refine own_pvia (fun t kz => XS.iloadN X60.here hx rfl (hb hby d4_39) rfl kz) ?_
    show own_Pc p e below _ (T60.setTop (mkF m 40 #[oR this, oI pi, oI (0 : Int32), oI (0 : Int32)] [(.int (0 : Int32)), (.ref aso), (.ref am0)]))
    obtain ⟨cl61, Ar61, kc61, Sz61, Nn61, Hs61, Gs61⟩ := id Vo4
    have in61 := inb_of (j := (0 : Int32)) Sz61 ⟨by decide, by decide⟩
    have at61 : cl61.slots[((0 : Int32)).toNatClampNeg]? = some (.ref as0) := Hs61.at in61 rfl
    refine own_pvia (fun t kz => X60.aaload hx (j := (0 : Int32)) (v := (.ref as0)) (by rw [e60]; exact Ar61.1) (State.isArrayOf_alike hZ.alike Ar61.2.1) rfl Ar61.2.2 in61 at61 (g := (mkF m 40 #[oR this, oI pi, oI (0 : Int32), oI (0 : Int32)] [(.int (0 : Int32)), (.ref aso), (.ref am0)])) rfl rfl (hb hby d4_40) t kz) ?_
    show own_Pc p e below _ (T60.setTop (mkF m 41 #[oR this, oI pi, oI (0 : Int32), oI (0 : Int32)] [(.ref as0), (.ref am0)]))
    refine own_pvia (fun t kz => XS.iloadN X60.here hx rfl (hb hby d4_41) rfl kz) ?_
    show own_Pc p e below _ (T60.setTop (mkF m 42 #[oR this, oI pi, oI (0 : Int32), oI (0 : Int32)] [(.int (0 : Int32)), (.ref as0), (.ref am0)]))
    obtain ⟨cl62, Ar62, kc62, Sz62, Nn62, Hs62, Gs62⟩ := id Vo5
    have in62 := inb_of (j := (0 : Int32)) Sz62 ⟨by decide, by decide⟩
    have at62 : cl62.slots[((0 : Int32)).toNatClampNeg]? = some (.int (0 : Int32)) := Hs62.at in62 rfl
    refine own_pvia (fun t kz => X60.iaload hx (j := (0 : Int32)) (v := (.int (0 : Int32))) (by rw [e60]; exact Ar62.1) (State.isArrayOf_alike hZ.alike Ar62.2.1) Ar62.2.2 in62 at62 (g := (mkF m 42 #[oR this, oI pi, oI (0 : Int32), oI (0 : Int32)] [(.int (0 : Int32)), (.ref as0), (.ref am0)])) rfl rfl (hb hby d4_42) t kz) ?_
    show own_Pc p e below _ (T60.setTop (mkF m 43 #[oR this, oI pi, oI (0 : Int32), oI (0 : Int32)] [(.int (0 : Int32)), (.ref am0)]))
    refine own_pvia (fun t kz => XS.iconst X60.here hx rfl (hb hby d4_43) kz) ?_
    show own_Pc p e below _ (T60.setTop (mkF m 44 #[oR this, oI pi, oI (0 : Int32), oI (0 : Int32)] [(.int (0 : Int32)), (.int (0 : Int32)), (.ref am0)]))
    obtain ⟨cl63, Ar63, kc63, Sz63, Nn63, Hs63, Gs63⟩ := id Vo1
    obtain ⟨T63, h63, X63, e63, W63, st63⟩ := stZ X60 hx hZ e60 Ar63 (j := (0 : Int32)) (inb_of Sz63 ⟨by decide, by decide⟩) (g := (mkF m 44 #[oR this, oI pi, oI (0 : Int32), oI (0 : Int32)] [(.int (0 : Int32)), (.int (0 : Int32)), (.ref am0)])) rfl rfl (hb hby d4_44)
    refine own_pvia st63 ?_
    have na63 : nar .boolean (0 : Int32) = (0 : Int32) := by decide
    rw [na63] at W63
    have E64 := Eq.wr W63
    have F65 := Fo0.other W63 (Or.inl (own_neq (by omega)))
    have F66 := Fo1.other W63 (Or.inl (own_neq (by omega)))
    have F67 := Fo2.other W63 (Or.inl (own_neq (by omega)))
    have F68 := Fo3.other W63 (Or.inl (own_neq (by omega)))
    have F69 := Fo4.other W63 (Or.inl (own_neq (by omega)))
    have V70 := Vo0.other W63 (own_neq (by omega))
    have V71 := Vo2.other W63 (own_neq (by omega))
    have V72 := Vo3.other W63 (own_neq (by omega))
    have V73 := Vo4.other W63 (own_neq (by omega))
    have V74 := Vo5.other W63 (own_neq (by omega))
    have V75 := Vo6.other W63 (own_neq (by omega))
    have V76 := Vo7.other W63 (own_neq (by omega))
    have Zs77 : n0 ≤ h63.size := Nat.le_trans Z0 (Keep.of_wr W63).1
    have N78 := Fr.snoc X63 N0 (show n0 ≤ am0 by omega)
    have V79 : Arv Z h63 am0 ck2 .boolean (2 : Int32) [(.int (0 : Int32)), (.int wm01)] (.int (0 : Int32)) := Arv.set Ar63 kc63 Sz63 Nn63 Hs63 Gs63 (by rw [← na63]; first | exact fits_nar_char _ | exact fits_nar_bool _ | exact fits_nar_byte _) W63 0 (by first | decide | (show 0 < 2; decide)) (by first | decide | (show 0 < 2; decide))
    show own_Pc p e below _ (T63.setTop (mkF m 45 #[oR this, oI pi, oI (0 : Int32), oI (0 : Int32)] []))
    refine own_pvia (fun t kz => XS.iinc X63.here hx rfl (hb hby d4_45) rfl (l' := #[oR this, oI pi, oI (0 : Int32), oI (1 : Int32)]) rfl kz) ?_
    show own_Pc p e below _ (T63.setTop (mkF m 48 #[oR this, oI pi, oI (0 : Int32), oI (1 : Int32)] []))
    refine own_pvia (fun t kz => XS.goto X63.here hx rfl (pc0 := 48) (pc' := 19) rfl (hb hby d4_48) (by decide) (by decide) kz) ?_
    show own_Pc p e below _ (T63.setTop (mkF m 19 #[oR this, oI pi, oI (0 : Int32), oI (1 : Int32)] []))
    refine own_pvia (fun t kz => XS.iloadN X63.here hx rfl (hb hby d4_19) rfl kz) ?_
    show own_Pc p e below _ (T63.setTop (mkF m 20 #[oR this, oI pi, oI (0 : Int32), oI (1 : Int32)] [(.int (1 : Int32))]))
    refine own_pvia (fun t kz => XS.aloadN X63.here hx rfl (hb hby d4_20) rfl rfl kz) ?_
    show own_Pc p e below _ (T63.setTop (mkF m 21 #[oR this, oI pi, oI (0 : Int32), oI (1 : Int32)] [(.ref this), (.int (1 : Int32))]))
    obtain ⟨T80, X80, e80, st80⟩ := getF X63 hx hZ hown (host := "") (Or.inl (own_w hw 21)) Via.refl e63 F68 (g := (mkF m 21 #[oR this, oI pi, oI (0 : Int32), oI (1 : Int32)] [(.ref this), (.int (1 : Int32))])) rfl rfl (hb hby d4_21)
    refine own_pvia st80 ?_
    show own_Pc p e below _ (T80.setTop (mkF m 24 #[oR this, oI pi, oI (0 : Int32), oI (1 : Int32)] [(.ref aca), (.int (1 : Int32))]))
    refine own_pvia (fun t kz => XS.iloadN X80.here hx rfl (hb hby d4_24) rfl kz) ?_
    show own_Pc p e below _ (T80.setTop (mkF m 25 #[oR this, oI pi, oI (0 : Int32), oI (1 : Int32)] [(.int (0 : Int32)), (.ref aca), (.int (1 : Int32))]))
    obtain ⟨cl81, Ar81, kc81, Sz81, Nn81, Hs81, Gs81⟩ := id V76
    have in81 := inb_of (j := (0 : Int32)) Sz81 ⟨by decide, by decide⟩
    have at81 : cl81.slots[((0 : Int32)).toNatClampNeg]? = some (.int (2 : Int32)) := Hs81.at in81 rfl
    refine own_pvia (fun t kz => X80.iaload hx (j := (0 : Int32)) (v := (.int (2 : Int32))) (by rw [e80]; exact Ar81.1) (State.isArrayOf_alike hZ.alike Ar81.2.1) Ar81.2.2 in81 at81 (g := (mkF m 25 #[oR this, oI pi, oI (0 : Int32), oI (1 : Int32)] [(.int (0 : Int32)), (.ref aca), (.int (1 : Int32))])) rfl rfl (hb hby d4_25) t kz) ?_
    show own_Pc p e below _ (T80.setTop (mkF m 26 #[oR this, oI pi, oI (0 : Int32), oI (1 : Int32)] [(.int (2 : Int32)), (.int (1 : Int32))]))
    refine own_pvia (fun t kz => XS.icmpNo X80.here hx rfl (hb hby d4_26) rfl (tlt (by decide : (1 : Int32) < (2 : Int32))).2.1 kz) ?_
    show own_Pc p e below _ (T80.setTop (mkF m 29 #[oR this, oI pi, oI (0 : Int32), oI (1 : Int32)] []))
    refine own_pvia (fun t kz => XS.aloadN X80.here hx rfl (hb hby d4_29) rfl rfl kz) ?_
    show own_Pc p e below _ (T80.setTop (mkF m 30 #[oR this, oI pi, oI (0 : Int32), oI (1 : Int32)] [(.ref this)]))
    obtain ⟨T82, X82, e82, st82⟩ := getF X80 hx hZ hown (host := "") (Or.inl (own_w hw 12)) Via.refl e80 F65 (g := (mkF m 30 #[oR this, oI pi, oI (0 : Int32), oI (1 : Int32)] [(.ref this)])) rfl rfl (hb hby d4_30)
    refine own_pvia st82 ?_
    show own_Pc p e below _ (T82.setTop (mkF m 33 #[oR this, oI pi, oI (0 : Int32), oI (1 : Int32)] [(.ref amo)]))
    refine own_pvia (fun t kz => XS.iloadN X82.here hx rfl (hb hby d4_33) rfl kz) ?_
    show own_Pc p e below _ (T82.setTop (mkF m 34 #[oR this, oI pi, oI (0 : Int32), oI (1 : Int32)] [(.int (0 : Int32)), (.ref amo)]))
    obtain ⟨cl83, Ar83, kc83, Sz83, Nn83, Hs83, Gs83⟩ := id V70
    have in83 := inb_of (j := (0 : Int32)) Sz83 ⟨by decide, by decide⟩
    have at83 : cl83.slots[((0 : Int32)).toNatClampNeg]? = some (.ref am0) := Hs83.at in83 rfl
    refine own_pvia (fun t kz => X82.aaload hx (j := (0 : Int32)) (v := (.ref am0)) (by rw [e82]; exact Ar83.1) (State.isArrayOf_alike hZ.alike Ar83.2.1) rfl Ar83.2.2 in83 at83 (g := (mkF m 34 #[oR this, oI pi, oI (0 : Int32), oI (1 : Int32)] [(.int (0 : Int32)), (.ref amo)])) rfl rfl (hb hby d4_34) t kz) ?_
    show own_Pc p e below _ (T82.setTop (mkF m 35 #[oR this, oI pi, oI (0 : Int32), oI (1 : Int32)] [(.ref am0)]))
    refine own_pvia (fun t kz => XS.aloadN X82.here hx rfl (hb hby d4_35) rfl rfl kz) ?_
    show own_Pc p e below _ (T82.setTop (mkF m 36 #[oR this, oI pi, oI (0 : Int32), oI (1 : Int32)] [(.ref this), (.ref am0)]))
    obtain ⟨T84, X84, e84, st84⟩ := getF X82 hx hZ hown (host := "") (Or.inl (own_w hw 19)) Via.refl e82 F67 (g := (mkF m 36 #[oR this, oI pi, oI (0 : Int32), oI (1 : Int32)] [(.ref this), (.ref am0)])) rfl rfl (hb hby d4_36)
    refine own_pvia st84 ?_
    show own_Pc p e below _ (T84.setTop (mkF m 39 #[oR this, oI pi, oI (0 : Int32), oI (1 : Int32)] [(.ref aso), (.ref am0)]))
    refine own_pvia (fun t kz => XS.iloadN X84.here hx rfl (hb hby d4_39) rfl kz) ?_
    show own_Pc p e below _ (T84.setTop (mkF m 40 #[oR this, oI pi, oI (0 : Int32), oI (1 : Int32)] [(.int (0 : Int32)), (.ref aso), (.ref am0)]))
    obtain ⟨cl85, Ar85, kc85, Sz85, Nn85, Hs85, Gs85⟩ := id V73
    have in85 := inb_of (j := (0 : Int32)) Sz85 ⟨by decide, by decide⟩
    have at85 : cl85.slots[((0 : Int32)).toNatClampNeg]? = some (.ref as0) := Hs85.at in85 rfl
    refine own_pvia (fun t kz => X84.aaload hx (j := (0 : Int32)) (v := (.ref as0)) (by rw [e84]; exact Ar85.1) (State.isArrayOf_alike hZ.alike Ar85.2.1) rfl Ar85.2.2 in85 at85 (g := (mkF m 40 #[oR this, oI pi, oI (0 : Int32), oI (1 : Int32)] [(.int (0 : Int32)), (.ref aso), (.ref am0)])) rfl rfl (hb hby d4_40) t kz) ?_
    show own_Pc p e below _ (T84.setTop (mkF m 41 #[oR this, oI pi, oI (0 : Int32), oI (1 : Int32)] [(.ref as0), (.ref am0)]))
    refine own_pvia (fun t kz => XS.iloadN X84.here hx rfl (hb hby d4_41) rfl kz) ?_
    show own_Pc p e below _ (T84.setTop (mkF m 42 #[oR this, oI pi, oI (0 : Int32), oI (1 : Int32)] [(.int (1 : Int32)), (.ref as0), (.ref am0)]))
    obtain ⟨cl86, Ar86, kc86, Sz86, Nn86, Hs86, Gs86⟩ := id V74
    have in86 := inb_of (j := (1 : Int32)) Sz86 ⟨by decide, by decide⟩
    have at86 : cl86.slots[((1 : Int32)).toNatClampNeg]? = some (.int (1 : Int32)) := Hs86.at in86 rfl
    refine own_pvia (fun t kz => X84.iaload hx (j := (1 : Int32)) (v := (.int (1 : Int32))) (by rw [e84]; exact Ar86.1) (State.isArrayOf_alike hZ.alike Ar86.2.1) Ar86.2.2 in86 at86 (g := (mkF m 42 #[oR this, oI pi, oI (0 : Int32), oI (1 : Int32)] [(.int (1 : Int32)), (.ref as0), (.ref am0)])) rfl rfl (hb hby d4_42) t kz) ?_
    show own_Pc p e below _ (T84.setTop (mkF m 43 #[oR this, oI pi, oI (0 : Int32), oI (1 : Int32)] [(.int (1 : Int32)), (.ref am0)]))
    refine own_pvia (fun t kz => XS.iconst X84.here hx rfl (hb hby d4_43) kz) ?_
    show own_Pc p e below _ (T84.setTop (mkF m 44 #[oR this, oI pi, oI (0 : Int32), oI (1 : Int32)] [(.int (0 : Int32)), (.int (1 : Int32)), (.ref am0)]))
    obtain ⟨cl87, Ar87, kc87, Sz87, Nn87, Hs87, Gs87⟩ := id V79
    obtain ⟨T87, h87, X87, e87, W87, st87⟩ := stZ X84 hx hZ e84 Ar87 (j := (1 : Int32)) (inb_of Sz87 ⟨by decide, by decide⟩) (g := (mkF m 44 #[oR this, oI pi, oI (0 : Int32), oI (1 : Int32)] [(.int (0 : Int32)), (.int (1 : Int32)), (.ref am0)])) rfl rfl (hb hby d4_44)
    refine own_pvia st87 ?_
    have na87 : nar .boolean (0 : Int32) = (0 : Int32) := by decide
    rw [na87] at W87
    have E88 := E64.wr W87
    have F89 := F65.other W87 (Or.inl (own_neq (by omega)))
    have F90 := F66.other W87 (Or.inl (own_neq (by omega)))
    have F91 := F67.other W87 (Or.inl (own_neq (by omega)))
    have F92 := F68.other W87 (Or.inl (own_neq (by omega)))
    have F93 := F69.other W87 (Or.inl (own_neq (by omega)))
    have V94 := V70.other W87 (own_neq (by omega))
    have V95 := V71.other W87 (own_neq (by omega))
    have V96 := V72.other W87 (own_neq (by omega))
    have V97 := V73.other W87 (own_neq (by omega))
    have V98 := V74.other W87 (own_neq (by omega))
    have V99 := V75.other W87 (own_neq (by omega))
    have V100 := V76.other W87 (own_neq (by omega))
    have Zs101 : n0 ≤ h87.size := Nat.le_trans Zs77 (Keep.of_wr W87).1
    have N102 := Fr.snoc X87 N78 (show n0 ≤ am0 by omega)
    have V103 : Arv Z h87 am0 ck2 .boolean (2 : Int32) [(.int (0 : Int32)), (.int (0 : Int32))] (.int (0 : Int32)) := Arv.set Ar87 kc87 Sz87 Nn87 Hs87 Gs87 (by rw [← na87]; first | exact fits_nar_char _ | exact fits_nar_bool _ | exact fits_nar_byte _) W87 1 (by first | decide | (show 1 < 2; decide)) (by first | decide | (show 1 < 2; decide))
    show own_Pc p e below _ (T87.setTop (mkF m 45 #[oR this, oI pi, oI (0 : Int32), oI (1 : Int32)] []))
    refine own_pvia (fun t kz => XS.iinc X87.here hx rfl (hb hby d4_45) rfl (l' := #[oR this, oI pi, oI (0 : Int32), oI (2 : Int32)]) rfl kz) ?_
    show own_Pc p e below _ (T87.setTop (mkF m 48 #[oR this, oI pi, oI (0 : Int32), oI (2 : Int32)] []))
    refine own_pvia (fun t kz => XS.goto X87.here hx rfl (pc0 := 48) (pc' := 19) rfl (hb hby d4_48) (by decide) (by decide) kz) ?_
    show own_Pc p e below _ (T87.setTop (mkF m 19 #[oR this, oI pi, oI (0 : Int32), oI (2 : Int32)] []))
    refine own_pvia (fun t kz => XS.iloadN X87.here hx rfl (hb hby d4_19) rfl kz) ?_
    show own_Pc p e below _ (T87.setTop (mkF m 20 #[oR this, oI pi, oI (0 : Int32), oI (2 : Int32)] [(.int (2 : Int32))]))
    refine own_pvia (fun t kz => XS.aloadN X87.here hx rfl (hb hby d4_20) rfl rfl kz) ?_
    show own_Pc p e below _ (T87.setTop (mkF m 21 #[oR this, oI pi, oI (0 : Int32), oI (2 : Int32)] [(.ref this), (.int (2 : Int32))]))
    obtain ⟨T104, X104, e104, st104⟩ := getF X87 hx hZ hown (host := "") (Or.inl (own_w hw 21)) Via.refl e87 F92 (g := (mkF m 21 #[oR this, oI pi, oI (0 : Int32), oI (2 : Int32)] [(.ref this), (.int (2 : Int32))])) rfl rfl (hb hby d4_21)
    refine own_pvia st104 ?_
    show own_Pc p e below _ (T104.setTop (mkF m 24 #[oR this, oI pi, oI (0 : Int32), oI (2 : Int32)] [(.ref aca), (.int (2 : Int32))]))
    refine own_pvia (fun t kz => XS.iloadN X104.here hx rfl (hb hby d4_24) rfl kz) ?_
    show own_Pc p e below _ (T104.setTop (mkF m 25 #[oR this, oI pi, oI (0 : Int32), oI (2 : Int32)] [(.int (0 : Int32)), (.ref aca), (.int (2 : Int32))]))
    obtain ⟨cl105, Ar105, kc105, Sz105, Nn105, Hs105, Gs105⟩ := id V100
    have in105 := inb_of (j := (0 : Int32)) Sz105 ⟨by decide, by decide⟩
    have at105 : cl105.slots[((0 : Int32)).toNatClampNeg]? = some (.int (2 : Int32)) := Hs105.at in105 rfl
    refine own_pvia (fun t kz => X104.iaload hx (j := (0 : Int32)) (v := (.int (2 : Int32))) (by rw [e104]; exact Ar105.1) (State.isArrayOf_alike hZ.alike Ar105.2.1) Ar105.2.2 in105 at105 (g := (mkF m 25 #[oR this, oI pi, oI (0 : Int32), oI (2 : Int32)] [(.int (0 : Int32)), (.ref aca), (.int (2 : Int32))])) rfl rfl (hb hby d4_25) t kz) ?_
    show own_Pc p e below _ (T104.setTop (mkF m 26 #[oR this, oI pi, oI (0 : Int32), oI (2 : Int32)] [(.int (2 : Int32)), (.int (2 : Int32))]))
    refine own_pvia (fun t kz => XS.icmpYes X104.here hx rfl (pc0 := 26) (pc' := 51) rfl (hb hby d4_26) rfl (flt (by decide : ¬ ((2 : Int32) < (2 : Int32)))).2.1 (by decide) (by decide) kz) ?_
    exact ⟨_, fun t k => k, ⟨T104, h87, _, rfl, X104, e104, N102, Zs101, ⟨amo, am0, am1, ata, aso, as0, as1, aca, ck1, ck2, ck3, ck4, ck5, ck6, ck7, ck8, ⟨by omega, by omega, by omega, by omega, by omega, by omega, by omega, by omega, by omega⟩, E88, F89, F90, F91, F92, F93, V94, V103, V95, V96, V97, V98, V99, V100⟩⟩⟩
  · show own_Pc p e below _ (T0.setTop (mkF m 19 #[oR this, oI pi, oI (0 : Int32), oI (0 : Int32)] []))
    refine own_pvia (fun t kz => XS.iloadN X0.here hx rfl (hb hby d4_19) rfl kz) ?_
    show own_Pc p e below _ (T0.setTop (mkF m 20 #[oR this, oI pi, oI (0 : Int32), oI (0 : Int32)] [(.int (0 : Int32))]))
    refine own_pvia (fun t kz => XS.aloadN X0.here hx rfl (hb hby d4_20) rfl rfl kz) ?_
    show own_Pc p e below _ (T0.setTop (mkF m 21 #[oR this, oI pi, oI (0 : Int32), oI (0 : Int32)] [(.ref this), (.int (0 : Int32))]))
    obtain ⟨T106, X106, e106, st106⟩ := getF X0 hx hZ hown (host := "") (Or.inl (own_w hw 21)) Via.refl e0 Fo3 (g := (mkF m 21 #[oR this, oI pi, oI (0 : Int32), oI (0 : Int32)] [(.ref this), (.int (0 : Int32))])) rfl rfl (hb hby d4_21)
    refine own_pvia st106 ?_
    show own_Pc p e below _ (T106.setTop (mkF m 24 #[oR this, oI pi, oI (0 : Int32), oI (0 : Int32)] [(.ref aca), (.int (0 : Int32))]))
    refine own_pvia (fun t kz => XS.iloadN X106.here hx rfl (hb hby d4_24) rfl kz) ?_
    show own_Pc p e below _ (T106.setTop (mkF m 25 #[oR this, oI pi, oI (0 : Int32), oI (0 : Int32)] [(.int (0 : Int32)), (.ref aca), (.int (0 : Int32))]))
    obtain ⟨cl107, Ar107, kc107, Sz107, Nn107, Hs107, Gs107⟩ := id Vo7
    have in107 := inb_of (j := (0 : Int32)) Sz107 ⟨by decide, by decide⟩
    have at107 : cl107.slots[((0 : Int32)).toNatClampNeg]? = some (.int (2 : Int32)) := Hs107.at in107 rfl
    refine own_pvia (fun t kz => X106.iaload hx (j := (0 : Int32)) (v := (.int (2 : Int32))) (by rw [e106]; exact Ar107.1) (State.isArrayOf_alike hZ.alike Ar107.2.1) Ar107.2.2 in107 at107 (g := (mkF m 25 #[oR this, oI pi, oI (0 : Int32), oI (0 : Int32)] [(.int (0 : Int32)), (.ref aca), (.int (0 : Int32))])) rfl rfl (hb hby d4_25) t kz) ?_
    show own_Pc p e below _ (T106.setTop (mkF m 26 #[oR this, oI pi, oI (0 : Int32), oI (0 : Int32)] [(.int (2 : Int32)), (.int (0 : Int32))]))
    refine own_pvia (fun t kz => XS.icmpNo X106.here hx rfl (hb hby d4_26) rfl (tlt (by decide : (0 : Int32) < (2 : Int32))).2.1 kz) ?_
    show own_Pc p e below _ (T106.setTop (mkF m 29 #[oR this, oI pi, oI (0 : Int32), oI (0 : Int32)] []))
    refine own_pvia (fun t kz => XS.aloadN X106.here hx rfl (hb hby d4_29) rfl rfl kz) ?_
    show own_Pc p e below _ (T106.setTop (mkF m 30 #[oR this, oI pi, oI (0 : Int32), oI (0 : Int32)] [(.ref this)]))
    obtain ⟨T108, X108, e108, st108⟩ := getF X106 hx hZ hown (host := "") (Or.inl (own_w hw 12)) Via.refl e106 Fo0 (g := (mkF m 30 #[oR this, oI pi, oI (0 : Int32), oI (0 : Int32)] [(.ref this)])) rfl rfl (hb hby d4_30)
    refine own_pvia st108 ?_
    show own_Pc p e below _ (T108.setTop (mkF m 33 #[oR this, oI pi, oI (0 : Int32), oI (0 : Int32)] [(.ref amo)]))
    refine own_pvia (fun t kz => XS.iloadN X108.here hx rfl (hb hby d4_33) rfl kz) ?_
    show own_Pc p e below _ (T108.setTop (mkF m 34 #[oR this, oI pi, oI (0 : Int32), oI (0 : Int32)] [(.int (0 : Int32)), (.ref amo)]))
    obtain ⟨cl109, Ar109, kc109, Sz109, Nn109, Hs109, Gs109⟩ := id Vo0
    have in109 := inb_of (j := (0 : Int32)) Sz109 ⟨by decide, by decide⟩
    have at109 : cl109.slots[((0 : Int32)).toNatClampNeg]? = some (.ref am0) := Hs109.at in109 rfl
    refine own_pvia (fun t kz => X108.aaload hx (j := (0 : Int32)) (v := (.ref am0)) (by rw [e108]; exact Ar109.1) (State.isArrayOf_alike hZ.alike Ar109.2.1) rfl Ar109.2.2 in109 at109 (g := (mkF m 34 #[oR this, oI pi, oI (0 : Int32), oI (0 : Int32)] [(.int (0 : Int32)), (.ref amo)])) rfl rfl (hb hby d4_34) t kz) ?_
    show own_Pc p e below _ (T108.setTop (mkF m 35 #[oR this, oI pi, oI (0 : Int32), oI (0 : Int32)] [(.ref am0)]))
    refine own_pvia (fun t kz => XS.aloadN X108.here hx rfl (hb hby d4_35) rfl rfl kz) ?_
    show own_Pc p e below _ (T108.setTop (mkF m 36 #[oR this, oI pi, oI (0 : Int32), oI (0 : Int32)] [(.ref this), (.ref am0)]))
    obtain ⟨T110, X110, e110, st110⟩ := getF X108 hx hZ hown (host := "") (Or.inl (own_w hw 19)) Via.refl e108 Fo2 (g := (mkF m 36 #[oR this, oI pi, oI (0 : Int32), oI (0 : Int32)] [(.ref this), (.ref am0)])) rfl rfl (hb hby d4_36)
    refine own_pvia st110 ?_
    show own_Pc p e below _ (T110.setTop (mkF m 39 #[oR this, oI pi, oI (0 : Int32), oI (0 : Int32)] [(.ref aso), (.ref am0)]))
    refine own_pvia (fun t kz => XS.iloadN X110.here hx rfl (hb hby d4_39) rfl kz) ?_
    show own_Pc p e below _ (T110.setTop (mkF m 40 #[oR this, oI pi, oI (0 : Int32), oI (0 : Int32)] [(.int (0 : Int32)), (.ref aso), (.ref am0)]))
    obtain ⟨cl111, Ar111, kc111, Sz111, Nn111, Hs111, Gs111⟩ := id Vo4
    have in111 := inb_of (j := (0 : Int32)) Sz111 ⟨by decide, by decide⟩
    have at111 : cl111.slots[((0 : Int32)).toNatClampNeg]? = some (.ref as0) := Hs111.at in111 rfl
    refine own_pvia (fun t kz => X110.aaload hx (j := (0 : Int32)) (v := (.ref as0)) (by rw [e110]; exact Ar111.1) (State.isArrayOf_alike hZ.alike Ar111.2.1) rfl Ar111.2.2 in111 at111 (g := (mkF m 40 #[oR this, oI pi, oI (0 : Int32), oI (0 : Int32)] [(.int (0 : Int32)), (.ref aso), (.ref am0)])) rfl rfl (hb hby d4_40) t kz) ?_
    show own_Pc p e below _ (T110.setTop (mkF m 41 #[oR this, oI pi, oI (0 : Int32), oI (0 : Int32)] [(.ref as0), (.ref am0)]))
    refine own_pvia (fun t kz => XS.iloadN X110.here hx rfl (hb hby d4_41) rfl kz) ?_
    show own_Pc p e below _ (T110.setTop (mkF m 42 #[oR this, oI pi, oI (0 : Int32), oI (0 : Int32)] [(.int (0 : Int32)), (.ref as0), (.ref am0)]))
    obtain ⟨cl112, Ar112, kc112, Sz112, Nn112, Hs112, Gs112⟩ := id Vo5
    have in112 := inb_of (j := (0 : Int32)) Sz112 ⟨by decide, by decide⟩
    have at112 : cl112.slots[((0 : Int32)).toNatClampNeg]? = some (.int (1 : Int32)) := Hs112.at in112 rfl
    refine own_pvia (fun t kz => X110.iaload hx (j := (0 : Int32)) (v := (.int (1 : Int32))) (by rw [e110]; exact Ar112.1) (State.isArrayOf_alike hZ.alike Ar112.2.1) Ar112.2.2 in112 at112 (g := (mkF m 42 #[oR this, oI pi, oI (0 : Int32), oI (0 : Int32)] [(.int (0 : Int32)), (.ref as0), (.ref am0)])) rfl rfl (hb hby d4_42) t kz) ?_
    show own_Pc p e below _ (T110.setTop (mkF m 43 #[oR this, oI pi, oI (0 : Int32), oI (0 : Int32)] [(.int (1 : Int32)), (.ref am0)]))
    refine own_pvia (fun t kz => XS.iconst X110.here hx rfl (hb hby d4_43) kz) ?_
    show own_Pc p e below _ (T110.setTop (mkF m 44 #[oR this, oI pi, oI (0 : Int32), oI (0 : Int32)] [(.int (0 : Int32)), (.int (1 : Int32)), (.ref am0)]))
    obtain ⟨cl113, Ar113, kc113, Sz113, Nn113, Hs113, Gs113⟩ := id Vo1
    obtain ⟨T113, h113, X113, e113, W113, st113⟩ := stZ X110 hx hZ e110 Ar113 (j := (1 : Int32)) (inb_of Sz113 ⟨by decide, by decide⟩) (g := (mkF m 44 #[oR this, oI pi, oI (0 : Int32), oI (0 : Int32)] [(.int (0 : Int32)), (.int (1 : Int32)), (.ref am0)])) rfl rfl (hb hby d4_44)
    refine own_pvia st113 ?_
    have na113 : nar .boolean (0 : Int32) = (0 : Int32) := by decide
    rw [na113] at W113
    have E114 := Eq.wr W113
    have F115 := Fo0.other W113 (Or.inl (own_neq (by omega)))
    have F116 := Fo1.other W113 (Or.inl (own_neq (by omega)))
    have F117 := Fo2.other W113 (Or.inl (own_neq (by omega)))
    have F118 := Fo3.other W113 (Or.inl (own_neq (by omega)))
    have F119 := Fo4.other W113 (Or.inl (own_neq (by omega)))
    have V120 := Vo0.other W113 (own_neq (by omega))
    have V121 := Vo2.other W113 (own_neq (by omega))
    have V122 := Vo3.other W113 (own_neq (by omega))
    have V123 := Vo4.other W113 (own_neq (by omega))
    have V124 := Vo5.other W113 (own_neq (by omega))
    have V125 := Vo6.other W113 (own_neq (by omega))
    have V126 := Vo7.other W113 (own_neq (by omega))
    have Zs127 : n0 ≤ h113.size := Nat.le_trans Z0 (Keep.of_wr W113).1
    have N128 := Fr.snoc X113 N0 (show n0 ≤ am0 by omega)
    have V129 : Arv Z h113 am0 ck2 .boolean (2 : Int32) [(.int wm00), (.int (0 : Int32))] (.int (0 : Int32)) := Arv.set Ar113 kc113 Sz113 Nn113 Hs113 Gs113 (by rw [← na113]; first | exact fits_nar_char _ | exact fits_nar_bool _ | exact fits_nar_byte _) W113 1 (by first | decide | (show 1 < 2; decide)) (by first | decide | (show 1 < 2; decide))
    show own_Pc p e below _ (T113.setTop (mkF m 45 #[oR this, oI pi, oI (0 : Int32), oI (0 : Int32)] []))
    refine own_pvia (fun t kz => XS.iinc X113.here hx rfl (hb hby d4_45) rfl (l' := #[oR this, oI pi, oI (0 : Int32), oI (1 : Int32)]) rfl kz) ?_
    show own_Pc p e below _ (T113.setTop (mkF m 48 #[oR this, oI pi, oI (0 : Int32), oI (1 : Int32)] []))
    refine own_pvia (fun t kz => XS.goto X113.here hx rfl (pc0 := 48) (pc' := 19) rfl (hb hby d4_48) (by decide) (by decide) kz) ?_
    show own_Pc p e below _ (T113.setTop (mkF m 19 #[oR this, oI pi, oI (0 : Int32), oI (1 : Int32)] []))
    refine own_pvia (fun t kz => XS.iloadN X113.here hx rfl (hb hby d4_19) rfl kz) ?_
    show own_Pc p e below _ (T113.setTop (mkF m 20 #[oR this, oI pi, oI (0 : Int32), oI (1 : Int32)] [(.int (1 : Int32))]))
    refine own_pvia (fun t kz => XS.aloadN X113.here hx rfl (hb hby d4_20) rfl rfl kz) ?_
    show own_Pc p e below _ (T113.setTop (mkF m 21 #[oR this, oI pi, oI (0 : Int32), oI (1 : Int32)] [(.ref this), (.int (1 : Int32))]))
    obtain ⟨T130, X130, e130, st130⟩ := getF X113 hx hZ hown (host := "") (Or.inl (own_w hw 21)) Via.refl e113 F118 (g := (mkF m 21 #[oR this, oI pi, oI (0 : Int32), oI (1 : Int32)] [(.ref this), (.int (1 : Int32))])) rfl rfl (hb hby d4_21)
    refine own_pvia st130 ?_
    show own_Pc p e below _ (T130.setTop (mkF m 24 #[oR this, oI pi, oI (0 : Int32), oI (1 : Int32)] [(.ref aca), (.int (1 : Int32))]))
    refine own_pvia (fun t kz => XS.iloadN X130.here hx rfl (hb hby d4_24) rfl kz) ?_
    show own_Pc p e below _ (T130.setTop (mkF m 25 #[oR this, oI pi, oI (0 : Int32), oI (1 : Int32)] [(.int (0 : Int32)), (.ref aca), (.int (1 : Int32))]))
    obtain ⟨cl131, Ar131, kc131, Sz131, Nn131, Hs131, Gs131⟩ := id V126
    have in131 := inb_of (j := (0 : Int32)) Sz131 ⟨by decide, by decide⟩
    have at131 : cl131.slots[((0 : Int32)).toNatClampNeg]? = some (.int (2 : Int32)) := Hs131.at in131 rfl
    refine own_pvia (fun t kz => X130.iaload hx (j := (0 : Int32)) (v := (.int (2 : Int32))) (by rw [e130]; exact Ar131.1) (State.isArrayOf_alike hZ.alike Ar131.2.1) Ar131.2.2 in131 at131 (g := (mkF m 25 #[oR this, oI pi, oI (0 : Int32), oI (1 : Int32)] [(.int (0 : Int32)), (.ref aca), (.int (1 : Int32))])) rfl rfl (hb hby d4_25) t kz) ?_
    show own_Pc p e below _ (T130.setTop (mkF m 26 #[oR this, oI pi, oI (0 : Int32), oI (1 : Int32)] [(.int (2 : Int32)), (.int (1 : Int32))]))
    refine own_pvia (fun t kz => XS.icmpNo X130.here hx rfl (hb hby d4_26) rfl (tlt (by decide : (1 : Int32) < (2 : Int32))).2.1 kz) ?_
    show own_Pc p e below _ (T130.setTop (mkF m 29 #[oR this, oI pi, oI (0 : Int32), oI (1 : Int32)] []))
    refine own_pvia (fun t kz => XS.aloadN X130.here hx rfl (hb hby d4_29) rfl rfl kz) ?_
    show own_Pc p e below _ (T130.setTop (mkF m 30 #[oR this, oI pi, oI (0 : Int32), oI (1 : Int32)] [(.ref this)]))
    obtain ⟨T132, X132, e132, st132⟩ := getF X130 hx hZ hown (host := "") (Or.inl (own_w hw 12)) Via.refl e130 F115 (g := (mkF m 30 #[oR this, oI pi, oI (0 : Int32), oI (1 : Int32)] [(.ref this)])) rfl rfl (hb hby d4_30)
    refine own_pvia st132 ?_
    show own_Pc p e below _ (T132.setTop (mkF m 33 #[oR this, oI pi, oI (0 : Int32), oI (1 : Int32)] [(.ref amo)]))
    refine own_pvia (fun t kz => XS.iloadN X132.here hx rfl (hb hby d4_33) rfl kz) ?_
    show own_Pc p e below _ (T132.setTop (mkF m 34 #[oR this, oI pi, oI (0 : Int32), oI (1 : Int32)] [(.int (0 : Int32)), (.ref amo)]))
    obtain ⟨cl133, Ar133, kc133, Sz133, Nn133, Hs133, Gs133⟩ := id V120
    have in133 := inb_of (j := (0 : Int32)) Sz133 ⟨by decide, by decide⟩
    have at133 : cl133.slots[((0 : Int32)).toNatClampNeg]? = some (.ref am0) := Hs133.at in133 rfl
    refine own_pvia (fun t kz => X132.aaload hx (j := (0 : Int32)) (v := (.ref am0)) (by rw [e132]; exact Ar133.1) (State.isArrayOf_alike hZ.alike Ar133.2.1) rfl Ar133.2.2 in133 at133 (g := (mkF m 34 #[oR this, oI pi, oI (0 : Int32), oI (1 : Int32)] [(.int (0 : Int32)), (.ref amo)])) rfl rfl (hb hby d4_34) t kz) ?_
    show own_Pc p e below _ (T132.setTop (mkF m 35 #[oR this, oI pi, oI (0 : Int32), oI (1 : Int32)] [(.ref am0)]))
    refine own_pvia (fun t kz => XS.aloadN X132.here hx rfl (hb hby d4_35) rfl rfl kz) ?_
    show own_Pc p e below _ (T132.setTop (mkF m 36 #[oR this, oI pi, oI (0 : Int32), oI (1 : Int32)] [(.ref this), (.ref am0)]))
    obtain ⟨T134, X134, e134, st134⟩ := getF X132 hx hZ hown (host := "") (Or.inl (own_w hw 19)) Via.refl e132 F117 (g := (mkF m 36 #[oR this, oI pi, oI (0 : Int32), oI (1 : Int32)] [(.ref this), (.ref am0)])) rfl rfl (hb hby d4_36)
    refine own_pvia st134 ?_
    show own_Pc p e below _ (T134.setTop (mkF m 39 #[oR this, oI pi, oI (0 : Int32), oI (1 : Int32)] [(.ref aso), (.ref am0)]))
    refine own_pvia (fun t kz => XS.iloadN X134.here hx rfl (hb hby d4_39) rfl kz) ?_
    show own_Pc p e below _ (T134.setTop (mkF m 40 #[oR this, oI pi, oI (0 : Int32), oI (1 : Int32)] [(.int (0 : Int32)), (.ref aso), (.ref am0)]))
    obtain ⟨cl135, Ar135, kc135, Sz135, Nn135, Hs135, Gs135⟩ := id V123
    have in135 := inb_of (j := (0 : Int32)) Sz135 ⟨by decide, by decide⟩
    have at135 : cl135.slots[((0 : Int32)).toNatClampNeg]? = some (.ref as0) := Hs135.at in135 rfl
    refine own_pvia (fun t kz => X134.aaload hx (j := (0 : Int32)) (v := (.ref as0)) (by rw [e134]; exact Ar135.1) (State.isArrayOf_alike hZ.alike Ar135.2.1) rfl Ar135.2.2 in135 at135 (g := (mkF m 40 #[oR this, oI pi, oI (0 : Int32), oI (1 : Int32)] [(.int (0 : Int32)), (.ref aso), (.ref am0)])) rfl rfl (hb hby d4_40) t kz) ?_
    show own_Pc p e below _ (T134.setTop (mkF m 41 #[oR this, oI pi, oI (0 : Int32), oI (1 : Int32)] [(.ref as0), (.ref am0)]))
    refine own_pvia (fun t kz => XS.iloadN X134.here hx rfl (hb hby d4_41) rfl kz) ?_
    show own_Pc p e below _ (T134.setTop (mkF m 42 #[oR this, oI pi, oI (0 : Int32), oI (1 : Int32)] [(.int (1 : Int32)), (.ref as0), (.ref am0)]))
    obtain ⟨cl136, Ar136, kc136, Sz136, Nn136, Hs136, Gs136⟩ := id V124
    have in136 := inb_of (j := (1 : Int32)) Sz136 ⟨by decide, by decide⟩
    have at136 : cl136.slots[((1 : Int32)).toNatClampNeg]? = some (.int (0 : Int32)) := Hs136.at in136 rfl
    refine own_pvia (fun t kz => X134.iaload hx (j := (1 : Int32)) (v := (.int (0 : Int32))) (by rw [e134]; exact Ar136.1) (State.isArrayOf_alike hZ.alike Ar136.2.1) Ar136.2.2 in136 at136 (g := (mkF m 42 #[oR this, oI pi, oI (0 : Int32), oI (1 : Int32)] [(.int (1 : Int32)), (.ref as0), (.ref am0)])) rfl rfl (hb hby d4_42) t kz) ?_
    show own_Pc p e below _ (T134.setTop (mkF m 43 #[oR this, oI pi, oI (0 : Int32), oI (1 : Int32)] [(.int (0 : Int32)), (.ref am0)]))
    refine own_pvia (fun t kz => XS.iconst X134.here hx rfl (hb hby d4_43) kz) ?_
    show own_Pc p e below _ (T134.setTop (mkF m 44 #[oR this, oI pi, oI (0 : Int32), oI (1 : Int32)] [(.int (0 : Int32)), (.int (0 : Int32)), (.ref am0)]))
    obtain ⟨cl137, Ar137, kc137, Sz137, Nn137, Hs137, Gs137⟩ := id V129
    obtain ⟨T137, h137, X137, e137, W137, st137⟩ := stZ X134 hx hZ e134 Ar137 (j := (0 : Int32)) (inb_of Sz137 ⟨by decide, by decide⟩) (g := (mkF m 44 #[oR this, oI pi, oI (0 : Int32), oI (1 : Int32)] [(.int (0 : Int32)), (.int (0 : Int32)), (.ref am0)])) rfl rfl (hb hby d4_44)
    refine own_pvia st137 ?_
    have na137 : nar .boolean (0 : Int32) = (0 : Int32) := by decide
    rw [na137] at W137
    have E138 := E114.wr W137
    have F139 := F115.other W137 (Or.inl (own_neq (by omega)))
    have F140 := F116.other W137 (Or.inl (own_neq (by omega)))
    have F141 := F117.other W137 (Or.inl (own_neq (by omega)))
    have F142 := F118.other W137 (Or.inl (own_neq (by omega)))
    have F143 := F119.other W137 (Or.inl (own_neq (by omega)))
    have V144 := V120.other W137 (own_neq (by omega))
    have V145 := V121.other W137 (own_neq (by omega))
    have V146 := V122.other W137 (own_neq (by omega))
    have V147 := V123.other W137 (own_neq (by omega))
    have V148 := V124.other W137 (own_neq (by omega))
    have V149 := V125.other W137 (own_neq (by omega))
    have V150 := V126.other W137 (own_neq (by omega))
    have Zs151 : n0 ≤ h137.size := Nat.le_trans Zs127 (Keep.of_wr W137).1
    have N152 := Fr.snoc X137 N128 (show n0 ≤ am0 by omega)
    have V153 : Arv Z h137 am0 ck2 .boolean (2 : Int32) [(.int (0 : Int32)), (.int (0 : Int32))] (.int (0 : Int32)) := Arv.set Ar137 kc137 Sz137 Nn137 Hs137 Gs137 (by rw [← na137]; first | exact fits_nar_char _ | exact fits_nar_bool _ | exact fits_nar_byte _) W137 0 (by first | decide | (show 0 < 2; decide)) (by first | decide | (show 0 < 2; decide))
    show own_Pc p e below _ (T137.setTop (mkF m 45 #[oR this, oI pi, oI (0 : Int32), oI (1 : Int32)] []))
    refine own_pvia (fun t kz => XS.iinc X137.here hx rfl (hb hby d4_45) rfl (l' := #[oR this, oI pi, oI (0 : Int32), oI (2 : Int32)]) rfl kz) ?_
    show own_Pc p e below _ (T137.setTop (mkF m 48 #[oR this, oI pi, oI (0 : Int32), oI (2 : Int32)] []))
    refine own_pvia (fun t kz => XS.goto X137.here hx rfl (pc0 := 48) (pc' := 19) rfl (hb hby d4_48) (by decide) (by decide) kz) ?_
    show own_Pc p e below _ (T137.setTop (mkF m 19 #[oR this, oI pi, oI (0 : Int32), oI (2 : Int32)] []))
    refine own_pvia (fun t kz => XS.iloadN X137.here hx rfl (hb hby d4_19) rfl kz) ?_
    show own_Pc p e below _ (T137.setTop (mkF m 20 #[oR this, oI pi, oI (0 : Int32), oI (2 : Int32)] [(.int (2 : Int32))]))
    refine own_pvia (fun t kz => XS.aloadN X137.here hx rfl (hb hby d4_20) rfl rfl kz) ?_
    show own_Pc p e below _ (T137.setTop (mkF m 21 #[oR this, oI pi, oI (0 : Int32), oI (2 : Int32)] [(.ref this), (.int (2 : Int32))]))
    obtain ⟨T154, X154, e154, st154⟩ := getF X137 hx hZ hown (host := "") (Or.inl (own_w hw 21)) Via.refl e137 F142 (g := (mkF m 21 #[oR this, oI pi, oI (0 : Int32), oI (2 : Int32)] [(.ref this), (.int (2 : Int32))])) rfl rfl (hb hby d4_21)
    refine own_pvia st154 ?_
    show own_Pc p e below _ (T154.setTop (mkF m 24 #[oR this, oI pi, oI (0 : Int32), oI (2 : Int32)] [(.ref aca), (.int (2 : Int32))]))
    refine own_pvia (fun t kz => XS.iloadN X154.here hx rfl (hb hby d4_24) rfl kz) ?_
    show own_Pc p e below _ (T154.setTop (mkF m 25 #[oR this, oI pi, oI (0 : Int32), oI (2 : Int32)] [(.int (0 : Int32)), (.ref aca), (.int (2 : Int32))]))
    obtain ⟨cl155, Ar155, kc155, Sz155, Nn155, Hs155, Gs155⟩ := id V150
    have in155 := inb_of (j := (0 : Int32)) Sz155 ⟨by decide, by decide⟩
    have at155 : cl155.slots[((0 : Int32)).toNatClampNeg]? = some (.int (2 : Int32)) := Hs155.at in155 rfl
    refine own_pvia (fun t kz => X154.iaload hx (j := (0 : Int32)) (v := (.int (2 : Int32))) (by rw [e154]; exact Ar155.1) (State.isArrayOf_alike hZ.alike Ar155.2.1) Ar155.2.2 in155 at155 (g := (mkF m 25 #[oR this, oI pi, oI (0 : Int32), oI (2 : Int32)] [(.int (0 : Int32)), (.ref aca), (.int (2 : Int32))])) rfl rfl (hb hby d4_25) t kz) ?_
    show own_Pc p e below _ (T154.setTop (mkF m 26 #[oR this, oI pi, oI (0 : Int32), oI (2 : Int32)] [(.int (2 : Int32)), (.int (2 : Int32))]))
    refine own_pvia (fun t kz => XS.icmpYes X154.here hx rfl (pc0 := 26) (pc' := 51) rfl (hb hby d4_26) rfl (flt (by decide : ¬ ((2 : Int32) < (2 : Int32)))).2.1 (by decide) (by decide) kz) ?_
    exact ⟨_, fun t k => k, ⟨T154, h137, _, rfl, X154, e154, N152, Zs151, ⟨amo, am0, am1, ata, aso, as0, as1, aca, ck1, ck2, ck3, ck4, ck5, ck6, ck7, ck8, ⟨by omega, by omega, by omega, by omega, by omega, by omega, by omega, by omega, by omega⟩, E138, F139, F140, F141, F142, F143, V144, V153, V145, V146, V147, V148, V149, V150⟩⟩⟩
set_option maxRecDepth 65536 in
set_option maxHeartbeats 40000000 in
theorem own_in1 {p : Program} {l : Launch} {e : Env} {R : Room} {s : State} {m : MethodId} {args : Array Value} {below : List Frame} {meth : Method} {c : Code} {T0 : State} {locs : List Loc} {cells slots : Nat} {Z : State} {a0 : Array Value} {h0 : Heap} {n0 : Nat} (this : Addr) (pi : Int32) (wm00 : Int32) (wm01 : Int32) (wm10 : Int32) (wm11 : Int32) (wt0 : Int32) (wt1 : Int32) (ws00 : Int32) (ws01 : Int32) (ws10 : Int32) (ws11 : Int32) (wc0 : Int32) (wc1 : Int32) (wn : Int32)
    (X0 : Stand p l e R s m args below meth c T0 locs cells slots) (hx : p.tables.exec = Jvm.exec) (hZ : Z.Warmed39 s.vm) (hw : ∀ d ∈ tables_1, d.before a0 Z = true) (hby : c.code = prog_45_method_3_code) (hml : c.maxLocals = 4) (hown : s.vm.findClass "com/example/matchloom/matchloom/league/TouchedCells" = some m.cls) (e0 : T0.heap = h0) (N0 : Fr n0 locs) (Z0 : n0 ≤ h0.size) (TC : own_TC Z h0 n0 this (own_mk wm00 wm01 wm10 wm11 wt0 wt1 ws00 ws01 ws10 ws11 wc0 wc1 wn)) (hrow : own_row wc1 ws10 ws11 wm10 wm11) :
    own_Pc p e below (fun B => ∃ (T' : State) (h' : Heap) (locs' : List Loc), B = T'.setTop (mkF m 51 #[oR this, oI pi, oI (1 : Int32), oI wc1] []) ∧ Stand p l e R s m args below meth c T' locs' cells slots ∧ T'.heap = h' ∧ Fr n0 locs' ∧ n0 ≤ h'.size ∧ own_TC Z h' n0 this (own_mk wm00 wm01 (0 : Int32) (0 : Int32) wt0 wt1 ws00 ws01 ws10 ws11 wc0 wc1 wn)) (T0.setTop (mkF m 19 #[oR this, oI pi, oI (1 : Int32), oI (0 : Int32)] [])) := by
  obtain ⟨amo, am0, am1, ata, aso, as0, as1, aca, ck1, ck2, ck3, ck4, ck5, ck6, ck7, ck8, ⟨ch0, ch1, ch2, ch3, ch4, ch5, ch6, ch7, ch8⟩, Eq, Fq0, Fq1, Fq2, Fq3, Fq4, Vq0, Vq1, Vq2, Vq3, Vq4, Vq5, Vq6, Vq7⟩ := TC
  have Fo0 : Fld Z h0 this "com/example/matchloom/matchloom/league/TouchedCells" "marked" "[[Z" (.ref amo) := Fq0
  have Fo1 : Fld Z h0 this "com/example/matchloom/matchloom/league/TouchedCells" "teams" "[I" (.ref ata) := Fq1
  have Fo2 : Fld Z h0 this "com/example/matchloom/matchloom/league/TouchedCells" "slots" "[[I" (.ref aso) := Fq2
  have Fo3 : Fld Z h0 this "com/example/matchloom/matchloom/league/TouchedCells" "slotCount" "[I" (.ref aca) := Fq3
  have Fo4 : Fld Z h0 this "com/example/matchloom/matchloom/league/TouchedCells" "teamCount" "I" (.int wn) := Fq4
  have Vo0 : Arv Z h0 amo ck1 (.array .boolean) (2 : Int32) [(.ref am0), (.ref am1)] .null := Vq0
  have Vo1 : Arv Z h0 am0 ck2 .boolean (2 : Int32) [(.int wm00), (.int wm01)] (.int (0 : Int32)) := Vq1
  have Vo2 : Arv Z h0 am1 ck3 .boolean (2 : Int32) [(.int wm10), (.int wm11)] (.int (0 : Int32)) := Vq2
  have Vo3 : Arv Z h0 ata ck4 .int (2 : Int32) [(.int wt0), (.int wt1)] (.int (0 : Int32)) := Vq3
  have Vo4 : Arv Z h0 aso ck5 (.array .int) (2 : Int32) [(.ref as0), (.ref as1)] .null := Vq4
  have Vo5 : Arv Z h0 as0 ck6 .int (2 : Int32) [(.int ws00), (.int ws01)] (.int (0 : Int32)) := Vq5
  have Vo6 : Arv Z h0 as1 ck7 .int (2 : Int32) [(.int ws10), (.int ws11)] (.int (0 : Int32)) := Vq6
  have Vo7 : Arv Z h0 aca ck8 .int (2 : Int32) [(.int wc0), (.int wc1)] (.int (0 : Int32)) := Vq7
  rcases hrow with ⟨rfl, rfl, rfl⟩ | ⟨rfl, rfl, rfl⟩ | ⟨rfl, rfl, rfl⟩ | ⟨rfl, rfl, rfl⟩ | ⟨rfl, rfl, rfl⟩
  · show own_Pc p e below _ (T0.setTop (mkF m 19 #[oR this, oI pi, oI (1 : Int32), oI (0 : Int32)] []))
    refine own_pvia (fun t kz => XS.iloadN X0.here hx rfl (hb hby d4_19) rfl kz) ?_
    show own_Pc p e below _ (T0.setTop (mkF m 20 #[oR this, oI pi, oI (1 : Int32), oI (0 : Int32)] [(.int (0 : Int32))]))
    refine own_pvia (fun t kz => XS.aloadN X0.here hx rfl (hb hby d4_20) rfl rfl kz) ?_
    show own_Pc p e below _ (T0.setTop (mkF m 21 #[oR this, oI pi, oI (1 : Int32), oI (0 : Int32)] [(.ref this), (.int (0 : Int32))]))
    obtain ⟨T2, X2, e2, st2⟩ := getF X0 hx hZ hown (host := "") (Or.inl (own_w hw 21)) Via.refl e0 Fo3 (g := (mkF m 21 #[oR this, oI pi, oI (1 : Int32), oI (0 : Int32)] [(.ref this), (.int (0 : Int32))])) rfl rfl (hb hby d4_21)
    refine own_pvia st2 ?_
    show own_Pc p e below _ (T2.setTop (mkF m 24 #[oR this, oI pi, oI (1 : Int32), oI (0 : Int32)] [(.ref aca), (.int (0 : Int32))]))
    refine own_pvia (fun t kz => XS.iloadN X2.here hx rfl (hb hby d4_24) rfl kz) ?_
    show own_Pc p e below _ (T2.setTop (mkF m 25 #[oR this, oI pi, oI (1 : Int32), oI (0 : Int32)] [(.int (1 : Int32)), (.ref aca), (.int (0 : Int32))]))
    obtain ⟨cl3, Ar3, kc3, Sz3, Nn3, Hs3, Gs3⟩ := id Vo7
    have in3 := inb_of (j := (1 : Int32)) Sz3 ⟨by decide, by decide⟩
    have at3 : cl3.slots[((1 : Int32)).toNatClampNeg]? = some (.int (0 : Int32)) := Hs3.at in3 rfl
    refine own_pvia (fun t kz => X2.iaload hx (j := (1 : Int32)) (v := (.int (0 : Int32))) (by rw [e2]; exact Ar3.1) (State.isArrayOf_alike hZ.alike Ar3.2.1) Ar3.2.2 in3 at3 (g := (mkF m 25 #[oR this, oI pi, oI (1 : Int32), oI (0 : Int32)] [(.int (1 : Int32)), (.ref aca), (.int (0 : Int32))])) rfl rfl (hb hby d4_25) t kz) ?_
    show own_Pc p e below _ (T2.setTop (mkF m 26 #[oR this, oI pi, oI (1 : Int32), oI (0 : Int32)] [(.int (0 : Int32)), (.int (0 : Int32))]))
    refine own_pvia (fun t kz => XS.icmpYes X2.here hx rfl (pc0 := 26) (pc' := 51) rfl (hb hby d4_26) rfl (flt (by decide : ¬ ((0 : Int32) < (0 : Int32)))).2.1 (by decide) (by decide) kz) ?_
    exact ⟨_, fun t k => k, ⟨T2, h0, _, rfl, X2, e2, N0, Z0, ⟨amo, am0, am1, ata, aso, as0, as1, aca, ck1, ck2, ck3, ck4, ck5, ck6, ck7, ck8, ⟨by omega, by omega, by omega, by omega, by omega, by omega, by omega, by omega, by omega⟩, Eq, Fo0, Fo1, Fo2, Fo3, Fo4, Vo0, Vo1, Vo2, Vo3, Vo4, Vo5, Vo6, Vo7⟩⟩⟩
  · show own_Pc p e below _ (T0.setTop (mkF m 19 #[oR this, oI pi, oI (1 : Int32), oI (0 : Int32)] []))
    refine own_pvia (fun t kz => XS.iloadN X0.here hx rfl (hb hby d4_19) rfl kz) ?_
    show own_Pc p e below _ (T0.setTop (mkF m 20 #[oR this, oI pi, oI (1 : Int32), oI (0 : Int32)] [(.int (0 : Int32))]))
    refine own_pvia (fun t kz => XS.aloadN X0.here hx rfl (hb hby d4_20) rfl rfl kz) ?_
    show own_Pc p e below _ (T0.setTop (mkF m 21 #[oR this, oI pi, oI (1 : Int32), oI (0 : Int32)] [(.ref this), (.int (0 : Int32))]))
    obtain ⟨T4, X4, e4, st4⟩ := getF X0 hx hZ hown (host := "") (Or.inl (own_w hw 21)) Via.refl e0 Fo3 (g := (mkF m 21 #[oR this, oI pi, oI (1 : Int32), oI (0 : Int32)] [(.ref this), (.int (0 : Int32))])) rfl rfl (hb hby d4_21)
    refine own_pvia st4 ?_
    show own_Pc p e below _ (T4.setTop (mkF m 24 #[oR this, oI pi, oI (1 : Int32), oI (0 : Int32)] [(.ref aca), (.int (0 : Int32))]))
    refine own_pvia (fun t kz => XS.iloadN X4.here hx rfl (hb hby d4_24) rfl kz) ?_
    show own_Pc p e below _ (T4.setTop (mkF m 25 #[oR this, oI pi, oI (1 : Int32), oI (0 : Int32)] [(.int (1 : Int32)), (.ref aca), (.int (0 : Int32))]))
    obtain ⟨cl5, Ar5, kc5, Sz5, Nn5, Hs5, Gs5⟩ := id Vo7
    have in5 := inb_of (j := (1 : Int32)) Sz5 ⟨by decide, by decide⟩
    have at5 : cl5.slots[((1 : Int32)).toNatClampNeg]? = some (.int (1 : Int32)) := Hs5.at in5 rfl
    refine own_pvia (fun t kz => X4.iaload hx (j := (1 : Int32)) (v := (.int (1 : Int32))) (by rw [e4]; exact Ar5.1) (State.isArrayOf_alike hZ.alike Ar5.2.1) Ar5.2.2 in5 at5 (g := (mkF m 25 #[oR this, oI pi, oI (1 : Int32), oI (0 : Int32)] [(.int (1 : Int32)), (.ref aca), (.int (0 : Int32))])) rfl rfl (hb hby d4_25) t kz) ?_
    show own_Pc p e below _ (T4.setTop (mkF m 26 #[oR this, oI pi, oI (1 : Int32), oI (0 : Int32)] [(.int (1 : Int32)), (.int (0 : Int32))]))
    refine own_pvia (fun t kz => XS.icmpNo X4.here hx rfl (hb hby d4_26) rfl (tlt (by decide : (0 : Int32) < (1 : Int32))).2.1 kz) ?_
    show own_Pc p e below _ (T4.setTop (mkF m 29 #[oR this, oI pi, oI (1 : Int32), oI (0 : Int32)] []))
    refine own_pvia (fun t kz => XS.aloadN X4.here hx rfl (hb hby d4_29) rfl rfl kz) ?_
    show own_Pc p e below _ (T4.setTop (mkF m 30 #[oR this, oI pi, oI (1 : Int32), oI (0 : Int32)] [(.ref this)]))
    obtain ⟨T6, X6, e6, st6⟩ := getF X4 hx hZ hown (host := "") (Or.inl (own_w hw 12)) Via.refl e4 Fo0 (g := (mkF m 30 #[oR this, oI pi, oI (1 : Int32), oI (0 : Int32)] [(.ref this)])) rfl rfl (hb hby d4_30)
    refine own_pvia st6 ?_
    show own_Pc p e below _ (T6.setTop (mkF m 33 #[oR this, oI pi, oI (1 : Int32), oI (0 : Int32)] [(.ref amo)]))
    refine own_pvia (fun t kz => XS.iloadN X6.here hx rfl (hb hby d4_33) rfl kz) ?_
    show own_Pc p e below _ (T6.setTop (mkF m 34 #[oR this, oI pi, oI (1 : Int32), oI (0 : Int32)] [(.int (1 : Int32)), (.ref amo)]))
    obtain ⟨cl7, Ar7, kc7, Sz7, Nn7, Hs7, Gs7⟩ := id Vo0
    have in7 := inb_of (j := (1 : Int32)) Sz7 ⟨by decide, by decide⟩
    have at7 : cl7.slots[((1 : Int32)).toNatClampNeg]? = some (.ref am1) := Hs7.at in7 rfl
    refine own_pvia (fun t kz => X6.aaload hx (j := (1 : Int32)) (v := (.ref am1)) (by rw [e6]; exact Ar7.1) (State.isArrayOf_alike hZ.alike Ar7.2.1) rfl Ar7.2.2 in7 at7 (g := (mkF m 34 #[oR this, oI pi, oI (1 : Int32), oI (0 : Int32)] [(.int (1 : Int32)), (.ref amo)])) rfl rfl (hb hby d4_34) t kz) ?_
    show own_Pc p e below _ (T6.setTop (mkF m 35 #[oR this, oI pi, oI (1 : Int32), oI (0 : Int32)] [(.ref am1)]))
    refine own_pvia (fun t kz => XS.aloadN X6.here hx rfl (hb hby d4_35) rfl rfl kz) ?_
    show own_Pc p e below _ (T6.setTop (mkF m 36 #[oR this, oI pi, oI (1 : Int32), oI (0 : Int32)] [(.ref this), (.ref am1)]))
    obtain ⟨T8, X8, e8, st8⟩ := getF X6 hx hZ hown (host := "") (Or.inl (own_w hw 19)) Via.refl e6 Fo2 (g := (mkF m 36 #[oR this, oI pi, oI (1 : Int32), oI (0 : Int32)] [(.ref this), (.ref am1)])) rfl rfl (hb hby d4_36)
    refine own_pvia st8 ?_
    show own_Pc p e below _ (T8.setTop (mkF m 39 #[oR this, oI pi, oI (1 : Int32), oI (0 : Int32)] [(.ref aso), (.ref am1)]))
    refine own_pvia (fun t kz => XS.iloadN X8.here hx rfl (hb hby d4_39) rfl kz) ?_
    show own_Pc p e below _ (T8.setTop (mkF m 40 #[oR this, oI pi, oI (1 : Int32), oI (0 : Int32)] [(.int (1 : Int32)), (.ref aso), (.ref am1)]))
    obtain ⟨cl9, Ar9, kc9, Sz9, Nn9, Hs9, Gs9⟩ := id Vo4
    have in9 := inb_of (j := (1 : Int32)) Sz9 ⟨by decide, by decide⟩
    have at9 : cl9.slots[((1 : Int32)).toNatClampNeg]? = some (.ref as1) := Hs9.at in9 rfl
    refine own_pvia (fun t kz => X8.aaload hx (j := (1 : Int32)) (v := (.ref as1)) (by rw [e8]; exact Ar9.1) (State.isArrayOf_alike hZ.alike Ar9.2.1) rfl Ar9.2.2 in9 at9 (g := (mkF m 40 #[oR this, oI pi, oI (1 : Int32), oI (0 : Int32)] [(.int (1 : Int32)), (.ref aso), (.ref am1)])) rfl rfl (hb hby d4_40) t kz) ?_
    show own_Pc p e below _ (T8.setTop (mkF m 41 #[oR this, oI pi, oI (1 : Int32), oI (0 : Int32)] [(.ref as1), (.ref am1)]))
    refine own_pvia (fun t kz => XS.iloadN X8.here hx rfl (hb hby d4_41) rfl kz) ?_
    show own_Pc p e below _ (T8.setTop (mkF m 42 #[oR this, oI pi, oI (1 : Int32), oI (0 : Int32)] [(.int (0 : Int32)), (.ref as1), (.ref am1)]))
    obtain ⟨cl10, Ar10, kc10, Sz10, Nn10, Hs10, Gs10⟩ := id Vo6
    have in10 := inb_of (j := (0 : Int32)) Sz10 ⟨by decide, by decide⟩
    have at10 : cl10.slots[((0 : Int32)).toNatClampNeg]? = some (.int (0 : Int32)) := Hs10.at in10 rfl
    refine own_pvia (fun t kz => X8.iaload hx (j := (0 : Int32)) (v := (.int (0 : Int32))) (by rw [e8]; exact Ar10.1) (State.isArrayOf_alike hZ.alike Ar10.2.1) Ar10.2.2 in10 at10 (g := (mkF m 42 #[oR this, oI pi, oI (1 : Int32), oI (0 : Int32)] [(.int (0 : Int32)), (.ref as1), (.ref am1)])) rfl rfl (hb hby d4_42) t kz) ?_
    show own_Pc p e below _ (T8.setTop (mkF m 43 #[oR this, oI pi, oI (1 : Int32), oI (0 : Int32)] [(.int (0 : Int32)), (.ref am1)]))
    refine own_pvia (fun t kz => XS.iconst X8.here hx rfl (hb hby d4_43) kz) ?_
    show own_Pc p e below _ (T8.setTop (mkF m 44 #[oR this, oI pi, oI (1 : Int32), oI (0 : Int32)] [(.int (0 : Int32)), (.int (0 : Int32)), (.ref am1)]))
    obtain ⟨cl11, Ar11, kc11, Sz11, Nn11, Hs11, Gs11⟩ := id Vo2
    obtain ⟨T11, h11, X11, e11, W11, st11⟩ := stZ X8 hx hZ e8 Ar11 (j := (0 : Int32)) (inb_of Sz11 ⟨by decide, by decide⟩) (g := (mkF m 44 #[oR this, oI pi, oI (1 : Int32), oI (0 : Int32)] [(.int (0 : Int32)), (.int (0 : Int32)), (.ref am1)])) rfl rfl (hb hby d4_44)
    refine own_pvia st11 ?_
    have na11 : nar .boolean (0 : Int32) = (0 : Int32) := by decide
    rw [na11] at W11
    have E12 := Eq.wr W11
    have F13 := Fo0.other W11 (Or.inl (own_neq (by omega)))
    have F14 := Fo1.other W11 (Or.inl (own_neq (by omega)))
    have F15 := Fo2.other W11 (Or.inl (own_neq (by omega)))
    have F16 := Fo3.other W11 (Or.inl (own_neq (by omega)))
    have F17 := Fo4.other W11 (Or.inl (own_neq (by omega)))
    have V18 := Vo0.other W11 (own_neq (by omega))
    have V19 := Vo1.other W11 (own_neq (by omega))
    have V20 := Vo3.other W11 (own_neq (by omega))
    have V21 := Vo4.other W11 (own_neq (by omega))
    have V22 := Vo5.other W11 (own_neq (by omega))
    have V23 := Vo6.other W11 (own_neq (by omega))
    have V24 := Vo7.other W11 (own_neq (by omega))
    have Zs25 : n0 ≤ h11.size := Nat.le_trans Z0 (Keep.of_wr W11).1
    have N26 := Fr.snoc X11 N0 (show n0 ≤ am1 by omega)
    have V27 : Arv Z h11 am1 ck3 .boolean (2 : Int32) [(.int (0 : Int32)), (.int (0 : Int32))] (.int (0 : Int32)) := Arv.set Ar11 kc11 Sz11 Nn11 Hs11 Gs11 (by rw [← na11]; first | exact fits_nar_char _ | exact fits_nar_bool _ | exact fits_nar_byte _) W11 0 (by first | decide | (show 0 < 2; decide)) (by first | decide | (show 0 < 2; decide))
    show own_Pc p e below _ (T11.setTop (mkF m 45 #[oR this, oI pi, oI (1 : Int32), oI (0 : Int32)] []))
    refine own_pvia (fun t kz => XS.iinc X11.here hx rfl (hb hby d4_45) rfl (l' := #[oR this, oI pi, oI (1 : Int32), oI (1 : Int32)]) rfl kz) ?_
    show own_Pc p e below _ (T11.setTop (mkF m 48 #[oR this, oI pi, oI (1 : Int32), oI (1 : Int32)] []))
    refine own_pvia (fun t kz => XS.goto X11.here hx rfl (pc0 := 48) (pc' := 19) rfl (hb hby d4_48) (by decide) (by decide) kz) ?_
    show own_Pc p e below _ (T11.setTop (mkF m 19 #[oR this, oI pi, oI (1 : Int32), oI (1 : Int32)] []))
    refine own_pvia (fun t kz => XS.iloadN X11.here hx rfl (hb hby d4_19) rfl kz) ?_
    show own_Pc p e below _ (T11.setTop (mkF m 20 #[oR this, oI pi, oI (1 : Int32), oI (1 : Int32)] [(.int (1 : Int32))]))
    refine own_pvia (fun t kz => XS.aloadN X11.here hx rfl (hb hby d4_20) rfl rfl kz) ?_
    show own_Pc p e below _ (T11.setTop (mkF m 21 #[oR this, oI pi, oI (1 : Int32), oI (1 : Int32)] [(.ref this), (.int (1 : Int32))]))
    obtain ⟨T28, X28, e28, st28⟩ := getF X11 hx hZ hown (host := "") (Or.inl (own_w hw 21)) Via.refl e11 F16 (g := (mkF m 21 #[oR this, oI pi, oI (1 : Int32), oI (1 : Int32)] [(.ref this), (.int (1 : Int32))])) rfl rfl (hb hby d4_21)
    refine own_pvia st28 ?_
    show own_Pc p e below _ (T28.setTop (mkF m 24 #[oR this, oI pi, oI (1 : Int32), oI (1 : Int32)] [(.ref aca), (.int (1 : Int32))]))
    refine own_pvia (fun t kz => XS.iloadN X28.here hx rfl (hb hby d4_24) rfl kz) ?_
    show own_Pc p e below _ (T28.setTop (mkF m 25 #[oR this, oI pi, oI (1 : Int32), oI (1 : Int32)] [(.int (1 : Int32)), (.ref aca), (.int (1 : Int32))]))
    obtain ⟨cl29, Ar29, kc29, Sz29, Nn29, Hs29, Gs29⟩ := id V24
    have in29 := inb_of (j := (1 : Int32)) Sz29 ⟨by decide, by decide⟩
    have at29 : cl29.slots[((1 : Int32)).toNatClampNeg]? = some (.int (1 : Int32)) := Hs29.at in29 rfl
    refine own_pvia (fun t kz => X28.iaload hx (j := (1 : Int32)) (v := (.int (1 : Int32))) (by rw [e28]; exact Ar29.1) (State.isArrayOf_alike hZ.alike Ar29.2.1) Ar29.2.2 in29 at29 (g := (mkF m 25 #[oR this, oI pi, oI (1 : Int32), oI (1 : Int32)] [(.int (1 : Int32)), (.ref aca), (.int (1 : Int32))])) rfl rfl (hb hby d4_25) t kz) ?_
    show own_Pc p e below _ (T28.setTop (mkF m 26 #[oR this, oI pi, oI (1 : Int32), oI (1 : Int32)] [(.int (1 : Int32)), (.int (1 : Int32))]))
    refine own_pvia (fun t kz => XS.icmpYes X28.here hx rfl (pc0 := 26) (pc' := 51) rfl (hb hby d4_26) rfl (flt (by decide : ¬ ((1 : Int32) < (1 : Int32)))).2.1 (by decide) (by decide) kz) ?_
    exact ⟨_, fun t k => k, ⟨T28, h11, _, rfl, X28, e28, N26, Zs25, ⟨amo, am0, am1, ata, aso, as0, as1, aca, ck1, ck2, ck3, ck4, ck5, ck6, ck7, ck8, ⟨by omega, by omega, by omega, by omega, by omega, by omega, by omega, by omega, by omega⟩, E12, F13, F14, F15, F16, F17, V18, V19, V27, V20, V21, V22, V23, V24⟩⟩⟩
  · show own_Pc p e below _ (T0.setTop (mkF m 19 #[oR this, oI pi, oI (1 : Int32), oI (0 : Int32)] []))
    refine own_pvia (fun t kz => XS.iloadN X0.here hx rfl (hb hby d4_19) rfl kz) ?_
    show own_Pc p e below _ (T0.setTop (mkF m 20 #[oR this, oI pi, oI (1 : Int32), oI (0 : Int32)] [(.int (0 : Int32))]))
    refine own_pvia (fun t kz => XS.aloadN X0.here hx rfl (hb hby d4_20) rfl rfl kz) ?_
    show own_Pc p e below _ (T0.setTop (mkF m 21 #[oR this, oI pi, oI (1 : Int32), oI (0 : Int32)] [(.ref this), (.int (0 : Int32))]))
    obtain ⟨T30, X30, e30, st30⟩ := getF X0 hx hZ hown (host := "") (Or.inl (own_w hw 21)) Via.refl e0 Fo3 (g := (mkF m 21 #[oR this, oI pi, oI (1 : Int32), oI (0 : Int32)] [(.ref this), (.int (0 : Int32))])) rfl rfl (hb hby d4_21)
    refine own_pvia st30 ?_
    show own_Pc p e below _ (T30.setTop (mkF m 24 #[oR this, oI pi, oI (1 : Int32), oI (0 : Int32)] [(.ref aca), (.int (0 : Int32))]))
    refine own_pvia (fun t kz => XS.iloadN X30.here hx rfl (hb hby d4_24) rfl kz) ?_
    show own_Pc p e below _ (T30.setTop (mkF m 25 #[oR this, oI pi, oI (1 : Int32), oI (0 : Int32)] [(.int (1 : Int32)), (.ref aca), (.int (0 : Int32))]))
    obtain ⟨cl31, Ar31, kc31, Sz31, Nn31, Hs31, Gs31⟩ := id Vo7
    have in31 := inb_of (j := (1 : Int32)) Sz31 ⟨by decide, by decide⟩
    have at31 : cl31.slots[((1 : Int32)).toNatClampNeg]? = some (.int (1 : Int32)) := Hs31.at in31 rfl
    refine own_pvia (fun t kz => X30.iaload hx (j := (1 : Int32)) (v := (.int (1 : Int32))) (by rw [e30]; exact Ar31.1) (State.isArrayOf_alike hZ.alike Ar31.2.1) Ar31.2.2 in31 at31 (g := (mkF m 25 #[oR this, oI pi, oI (1 : Int32), oI (0 : Int32)] [(.int (1 : Int32)), (.ref aca), (.int (0 : Int32))])) rfl rfl (hb hby d4_25) t kz) ?_
    show own_Pc p e below _ (T30.setTop (mkF m 26 #[oR this, oI pi, oI (1 : Int32), oI (0 : Int32)] [(.int (1 : Int32)), (.int (0 : Int32))]))
    refine own_pvia (fun t kz => XS.icmpNo X30.here hx rfl (hb hby d4_26) rfl (tlt (by decide : (0 : Int32) < (1 : Int32))).2.1 kz) ?_
    show own_Pc p e below _ (T30.setTop (mkF m 29 #[oR this, oI pi, oI (1 : Int32), oI (0 : Int32)] []))
    refine own_pvia (fun t kz => XS.aloadN X30.here hx rfl (hb hby d4_29) rfl rfl kz) ?_
    show own_Pc p e below _ (T30.setTop (mkF m 30 #[oR this, oI pi, oI (1 : Int32), oI (0 : Int32)] [(.ref this)]))
    obtain ⟨T32, X32, e32, st32⟩ := getF X30 hx hZ hown (host := "") (Or.inl (own_w hw 12)) Via.refl e30 Fo0 (g := (mkF m 30 #[oR this, oI pi, oI (1 : Int32), oI (0 : Int32)] [(.ref this)])) rfl rfl (hb hby d4_30)
    refine own_pvia st32 ?_
    show own_Pc p e below _ (T32.setTop (mkF m 33 #[oR this, oI pi, oI (1 : Int32), oI (0 : Int32)] [(.ref amo)]))
    refine own_pvia (fun t kz => XS.iloadN X32.here hx rfl (hb hby d4_33) rfl kz) ?_
    show own_Pc p e below _ (T32.setTop (mkF m 34 #[oR this, oI pi, oI (1 : Int32), oI (0 : Int32)] [(.int (1 : Int32)), (.ref amo)]))
    obtain ⟨cl33, Ar33, kc33, Sz33, Nn33, Hs33, Gs33⟩ := id Vo0
    have in33 := inb_of (j := (1 : Int32)) Sz33 ⟨by decide, by decide⟩
    have at33 : cl33.slots[((1 : Int32)).toNatClampNeg]? = some (.ref am1) := Hs33.at in33 rfl
    refine own_pvia (fun t kz => X32.aaload hx (j := (1 : Int32)) (v := (.ref am1)) (by rw [e32]; exact Ar33.1) (State.isArrayOf_alike hZ.alike Ar33.2.1) rfl Ar33.2.2 in33 at33 (g := (mkF m 34 #[oR this, oI pi, oI (1 : Int32), oI (0 : Int32)] [(.int (1 : Int32)), (.ref amo)])) rfl rfl (hb hby d4_34) t kz) ?_
    show own_Pc p e below _ (T32.setTop (mkF m 35 #[oR this, oI pi, oI (1 : Int32), oI (0 : Int32)] [(.ref am1)]))
    refine own_pvia (fun t kz => XS.aloadN X32.here hx rfl (hb hby d4_35) rfl rfl kz) ?_
    show own_Pc p e below _ (T32.setTop (mkF m 36 #[oR this, oI pi, oI (1 : Int32), oI (0 : Int32)] [(.ref this), (.ref am1)]))
    obtain ⟨T34, X34, e34, st34⟩ := getF X32 hx hZ hown (host := "") (Or.inl (own_w hw 19)) Via.refl e32 Fo2 (g := (mkF m 36 #[oR this, oI pi, oI (1 : Int32), oI (0 : Int32)] [(.ref this), (.ref am1)])) rfl rfl (hb hby d4_36)
    refine own_pvia st34 ?_
    show own_Pc p e below _ (T34.setTop (mkF m 39 #[oR this, oI pi, oI (1 : Int32), oI (0 : Int32)] [(.ref aso), (.ref am1)]))
    refine own_pvia (fun t kz => XS.iloadN X34.here hx rfl (hb hby d4_39) rfl kz) ?_
    show own_Pc p e below _ (T34.setTop (mkF m 40 #[oR this, oI pi, oI (1 : Int32), oI (0 : Int32)] [(.int (1 : Int32)), (.ref aso), (.ref am1)]))
    obtain ⟨cl35, Ar35, kc35, Sz35, Nn35, Hs35, Gs35⟩ := id Vo4
    have in35 := inb_of (j := (1 : Int32)) Sz35 ⟨by decide, by decide⟩
    have at35 : cl35.slots[((1 : Int32)).toNatClampNeg]? = some (.ref as1) := Hs35.at in35 rfl
    refine own_pvia (fun t kz => X34.aaload hx (j := (1 : Int32)) (v := (.ref as1)) (by rw [e34]; exact Ar35.1) (State.isArrayOf_alike hZ.alike Ar35.2.1) rfl Ar35.2.2 in35 at35 (g := (mkF m 40 #[oR this, oI pi, oI (1 : Int32), oI (0 : Int32)] [(.int (1 : Int32)), (.ref aso), (.ref am1)])) rfl rfl (hb hby d4_40) t kz) ?_
    show own_Pc p e below _ (T34.setTop (mkF m 41 #[oR this, oI pi, oI (1 : Int32), oI (0 : Int32)] [(.ref as1), (.ref am1)]))
    refine own_pvia (fun t kz => XS.iloadN X34.here hx rfl (hb hby d4_41) rfl kz) ?_
    show own_Pc p e below _ (T34.setTop (mkF m 42 #[oR this, oI pi, oI (1 : Int32), oI (0 : Int32)] [(.int (0 : Int32)), (.ref as1), (.ref am1)]))
    obtain ⟨cl36, Ar36, kc36, Sz36, Nn36, Hs36, Gs36⟩ := id Vo6
    have in36 := inb_of (j := (0 : Int32)) Sz36 ⟨by decide, by decide⟩
    have at36 : cl36.slots[((0 : Int32)).toNatClampNeg]? = some (.int (1 : Int32)) := Hs36.at in36 rfl
    refine own_pvia (fun t kz => X34.iaload hx (j := (0 : Int32)) (v := (.int (1 : Int32))) (by rw [e34]; exact Ar36.1) (State.isArrayOf_alike hZ.alike Ar36.2.1) Ar36.2.2 in36 at36 (g := (mkF m 42 #[oR this, oI pi, oI (1 : Int32), oI (0 : Int32)] [(.int (0 : Int32)), (.ref as1), (.ref am1)])) rfl rfl (hb hby d4_42) t kz) ?_
    show own_Pc p e below _ (T34.setTop (mkF m 43 #[oR this, oI pi, oI (1 : Int32), oI (0 : Int32)] [(.int (1 : Int32)), (.ref am1)]))
    refine own_pvia (fun t kz => XS.iconst X34.here hx rfl (hb hby d4_43) kz) ?_
    show own_Pc p e below _ (T34.setTop (mkF m 44 #[oR this, oI pi, oI (1 : Int32), oI (0 : Int32)] [(.int (0 : Int32)), (.int (1 : Int32)), (.ref am1)]))
    obtain ⟨cl37, Ar37, kc37, Sz37, Nn37, Hs37, Gs37⟩ := id Vo2
    obtain ⟨T37, h37, X37, e37, W37, st37⟩ := stZ X34 hx hZ e34 Ar37 (j := (1 : Int32)) (inb_of Sz37 ⟨by decide, by decide⟩) (g := (mkF m 44 #[oR this, oI pi, oI (1 : Int32), oI (0 : Int32)] [(.int (0 : Int32)), (.int (1 : Int32)), (.ref am1)])) rfl rfl (hb hby d4_44)
    refine own_pvia st37 ?_
    have na37 : nar .boolean (0 : Int32) = (0 : Int32) := by decide
    rw [na37] at W37
    have E38 := Eq.wr W37
    have F39 := Fo0.other W37 (Or.inl (own_neq (by omega)))
    have F40 := Fo1.other W37 (Or.inl (own_neq (by omega)))
    have F41 := Fo2.other W37 (Or.inl (own_neq (by omega)))
    have F42 := Fo3.other W37 (Or.inl (own_neq (by omega)))
    have F43 := Fo4.other W37 (Or.inl (own_neq (by omega)))
    have V44 := Vo0.other W37 (own_neq (by omega))
    have V45 := Vo1.other W37 (own_neq (by omega))
    have V46 := Vo3.other W37 (own_neq (by omega))
    have V47 := Vo4.other W37 (own_neq (by omega))
    have V48 := Vo5.other W37 (own_neq (by omega))
    have V49 := Vo6.other W37 (own_neq (by omega))
    have V50 := Vo7.other W37 (own_neq (by omega))
    have Zs51 : n0 ≤ h37.size := Nat.le_trans Z0 (Keep.of_wr W37).1
    have N52 := Fr.snoc X37 N0 (show n0 ≤ am1 by omega)
    have V53 : Arv Z h37 am1 ck3 .boolean (2 : Int32) [(.int (0 : Int32)), (.int (0 : Int32))] (.int (0 : Int32)) := Arv.set Ar37 kc37 Sz37 Nn37 Hs37 Gs37 (by rw [← na37]; first | exact fits_nar_char _ | exact fits_nar_bool _ | exact fits_nar_byte _) W37 1 (by first | decide | (show 1 < 2; decide)) (by first | decide | (show 1 < 2; decide))
    show own_Pc p e below _ (T37.setTop (mkF m 45 #[oR this, oI pi, oI (1 : Int32), oI (0 : Int32)] []))
    refine own_pvia (fun t kz => XS.iinc X37.here hx rfl (hb hby d4_45) rfl (l' := #[oR this, oI pi, oI (1 : Int32), oI (1 : Int32)]) rfl kz) ?_
    show own_Pc p e below _ (T37.setTop (mkF m 48 #[oR this, oI pi, oI (1 : Int32), oI (1 : Int32)] []))
    refine own_pvia (fun t kz => XS.goto X37.here hx rfl (pc0 := 48) (pc' := 19) rfl (hb hby d4_48) (by decide) (by decide) kz) ?_
    show own_Pc p e below _ (T37.setTop (mkF m 19 #[oR this, oI pi, oI (1 : Int32), oI (1 : Int32)] []))
    refine own_pvia (fun t kz => XS.iloadN X37.here hx rfl (hb hby d4_19) rfl kz) ?_
    show own_Pc p e below _ (T37.setTop (mkF m 20 #[oR this, oI pi, oI (1 : Int32), oI (1 : Int32)] [(.int (1 : Int32))]))
    refine own_pvia (fun t kz => XS.aloadN X37.here hx rfl (hb hby d4_20) rfl rfl kz) ?_
    show own_Pc p e below _ (T37.setTop (mkF m 21 #[oR this, oI pi, oI (1 : Int32), oI (1 : Int32)] [(.ref this), (.int (1 : Int32))]))
    obtain ⟨T54, X54, e54, st54⟩ := getF X37 hx hZ hown (host := "") (Or.inl (own_w hw 21)) Via.refl e37 F42 (g := (mkF m 21 #[oR this, oI pi, oI (1 : Int32), oI (1 : Int32)] [(.ref this), (.int (1 : Int32))])) rfl rfl (hb hby d4_21)
    refine own_pvia st54 ?_
    show own_Pc p e below _ (T54.setTop (mkF m 24 #[oR this, oI pi, oI (1 : Int32), oI (1 : Int32)] [(.ref aca), (.int (1 : Int32))]))
    refine own_pvia (fun t kz => XS.iloadN X54.here hx rfl (hb hby d4_24) rfl kz) ?_
    show own_Pc p e below _ (T54.setTop (mkF m 25 #[oR this, oI pi, oI (1 : Int32), oI (1 : Int32)] [(.int (1 : Int32)), (.ref aca), (.int (1 : Int32))]))
    obtain ⟨cl55, Ar55, kc55, Sz55, Nn55, Hs55, Gs55⟩ := id V50
    have in55 := inb_of (j := (1 : Int32)) Sz55 ⟨by decide, by decide⟩
    have at55 : cl55.slots[((1 : Int32)).toNatClampNeg]? = some (.int (1 : Int32)) := Hs55.at in55 rfl
    refine own_pvia (fun t kz => X54.iaload hx (j := (1 : Int32)) (v := (.int (1 : Int32))) (by rw [e54]; exact Ar55.1) (State.isArrayOf_alike hZ.alike Ar55.2.1) Ar55.2.2 in55 at55 (g := (mkF m 25 #[oR this, oI pi, oI (1 : Int32), oI (1 : Int32)] [(.int (1 : Int32)), (.ref aca), (.int (1 : Int32))])) rfl rfl (hb hby d4_25) t kz) ?_
    show own_Pc p e below _ (T54.setTop (mkF m 26 #[oR this, oI pi, oI (1 : Int32), oI (1 : Int32)] [(.int (1 : Int32)), (.int (1 : Int32))]))
    refine own_pvia (fun t kz => XS.icmpYes X54.here hx rfl (pc0 := 26) (pc' := 51) rfl (hb hby d4_26) rfl (flt (by decide : ¬ ((1 : Int32) < (1 : Int32)))).2.1 (by decide) (by decide) kz) ?_
    exact ⟨_, fun t k => k, ⟨T54, h37, _, rfl, X54, e54, N52, Zs51, ⟨amo, am0, am1, ata, aso, as0, as1, aca, ck1, ck2, ck3, ck4, ck5, ck6, ck7, ck8, ⟨by omega, by omega, by omega, by omega, by omega, by omega, by omega, by omega, by omega⟩, E38, F39, F40, F41, F42, F43, V44, V45, V53, V46, V47, V48, V49, V50⟩⟩⟩
  · show own_Pc p e below _ (T0.setTop (mkF m 19 #[oR this, oI pi, oI (1 : Int32), oI (0 : Int32)] []))
    refine own_pvia (fun t kz => XS.iloadN X0.here hx rfl (hb hby d4_19) rfl kz) ?_
    show own_Pc p e below _ (T0.setTop (mkF m 20 #[oR this, oI pi, oI (1 : Int32), oI (0 : Int32)] [(.int (0 : Int32))]))
    refine own_pvia (fun t kz => XS.aloadN X0.here hx rfl (hb hby d4_20) rfl rfl kz) ?_
    show own_Pc p e below _ (T0.setTop (mkF m 21 #[oR this, oI pi, oI (1 : Int32), oI (0 : Int32)] [(.ref this), (.int (0 : Int32))]))
    obtain ⟨T56, X56, e56, st56⟩ := getF X0 hx hZ hown (host := "") (Or.inl (own_w hw 21)) Via.refl e0 Fo3 (g := (mkF m 21 #[oR this, oI pi, oI (1 : Int32), oI (0 : Int32)] [(.ref this), (.int (0 : Int32))])) rfl rfl (hb hby d4_21)
    refine own_pvia st56 ?_
    show own_Pc p e below _ (T56.setTop (mkF m 24 #[oR this, oI pi, oI (1 : Int32), oI (0 : Int32)] [(.ref aca), (.int (0 : Int32))]))
    refine own_pvia (fun t kz => XS.iloadN X56.here hx rfl (hb hby d4_24) rfl kz) ?_
    show own_Pc p e below _ (T56.setTop (mkF m 25 #[oR this, oI pi, oI (1 : Int32), oI (0 : Int32)] [(.int (1 : Int32)), (.ref aca), (.int (0 : Int32))]))
    obtain ⟨cl57, Ar57, kc57, Sz57, Nn57, Hs57, Gs57⟩ := id Vo7
    have in57 := inb_of (j := (1 : Int32)) Sz57 ⟨by decide, by decide⟩
    have at57 : cl57.slots[((1 : Int32)).toNatClampNeg]? = some (.int (2 : Int32)) := Hs57.at in57 rfl
    refine own_pvia (fun t kz => X56.iaload hx (j := (1 : Int32)) (v := (.int (2 : Int32))) (by rw [e56]; exact Ar57.1) (State.isArrayOf_alike hZ.alike Ar57.2.1) Ar57.2.2 in57 at57 (g := (mkF m 25 #[oR this, oI pi, oI (1 : Int32), oI (0 : Int32)] [(.int (1 : Int32)), (.ref aca), (.int (0 : Int32))])) rfl rfl (hb hby d4_25) t kz) ?_
    show own_Pc p e below _ (T56.setTop (mkF m 26 #[oR this, oI pi, oI (1 : Int32), oI (0 : Int32)] [(.int (2 : Int32)), (.int (0 : Int32))]))
    refine own_pvia (fun t kz => XS.icmpNo X56.here hx rfl (hb hby d4_26) rfl (tlt (by decide : (0 : Int32) < (2 : Int32))).2.1 kz) ?_
    show own_Pc p e below _ (T56.setTop (mkF m 29 #[oR this, oI pi, oI (1 : Int32), oI (0 : Int32)] []))
    refine own_pvia (fun t kz => XS.aloadN X56.here hx rfl (hb hby d4_29) rfl rfl kz) ?_
    show own_Pc p e below _ (T56.setTop (mkF m 30 #[oR this, oI pi, oI (1 : Int32), oI (0 : Int32)] [(.ref this)]))
    obtain ⟨T58, X58, e58, st58⟩ := getF X56 hx hZ hown (host := "") (Or.inl (own_w hw 12)) Via.refl e56 Fo0 (g := (mkF m 30 #[oR this, oI pi, oI (1 : Int32), oI (0 : Int32)] [(.ref this)])) rfl rfl (hb hby d4_30)
    refine own_pvia st58 ?_
    show own_Pc p e below _ (T58.setTop (mkF m 33 #[oR this, oI pi, oI (1 : Int32), oI (0 : Int32)] [(.ref amo)]))
    refine own_pvia (fun t kz => XS.iloadN X58.here hx rfl (hb hby d4_33) rfl kz) ?_
    show own_Pc p e below _ (T58.setTop (mkF m 34 #[oR this, oI pi, oI (1 : Int32), oI (0 : Int32)] [(.int (1 : Int32)), (.ref amo)]))
    obtain ⟨cl59, Ar59, kc59, Sz59, Nn59, Hs59, Gs59⟩ := id Vo0
    have in59 := inb_of (j := (1 : Int32)) Sz59 ⟨by decide, by decide⟩
    have at59 : cl59.slots[((1 : Int32)).toNatClampNeg]? = some (.ref am1) := Hs59.at in59 rfl
    refine own_pvia (fun t kz => X58.aaload hx (j := (1 : Int32)) (v := (.ref am1)) (by rw [e58]; exact Ar59.1) (State.isArrayOf_alike hZ.alike Ar59.2.1) rfl Ar59.2.2 in59 at59 (g := (mkF m 34 #[oR this, oI pi, oI (1 : Int32), oI (0 : Int32)] [(.int (1 : Int32)), (.ref amo)])) rfl rfl (hb hby d4_34) t kz) ?_
    show own_Pc p e below _ (T58.setTop (mkF m 35 #[oR this, oI pi, oI (1 : Int32), oI (0 : Int32)] [(.ref am1)]))
    refine own_pvia (fun t kz => XS.aloadN X58.here hx rfl (hb hby d4_35) rfl rfl kz) ?_
    show own_Pc p e below _ (T58.setTop (mkF m 36 #[oR this, oI pi, oI (1 : Int32), oI (0 : Int32)] [(.ref this), (.ref am1)]))
    obtain ⟨T60, X60, e60, st60⟩ := getF X58 hx hZ hown (host := "") (Or.inl (own_w hw 19)) Via.refl e58 Fo2 (g := (mkF m 36 #[oR this, oI pi, oI (1 : Int32), oI (0 : Int32)] [(.ref this), (.ref am1)])) rfl rfl (hb hby d4_36)
    refine own_pvia st60 ?_
    show own_Pc p e below _ (T60.setTop (mkF m 39 #[oR this, oI pi, oI (1 : Int32), oI (0 : Int32)] [(.ref aso), (.ref am1)]))
    refine own_pvia (fun t kz => XS.iloadN X60.here hx rfl (hb hby d4_39) rfl kz) ?_
    show own_Pc p e below _ (T60.setTop (mkF m 40 #[oR this, oI pi, oI (1 : Int32), oI (0 : Int32)] [(.int (1 : Int32)), (.ref aso), (.ref am1)]))
    obtain ⟨cl61, Ar61, kc61, Sz61, Nn61, Hs61, Gs61⟩ := id Vo4
    have in61 := inb_of (j := (1 : Int32)) Sz61 ⟨by decide, by decide⟩
    have at61 : cl61.slots[((1 : Int32)).toNatClampNeg]? = some (.ref as1) := Hs61.at in61 rfl
    refine own_pvia (fun t kz => X60.aaload hx (j := (1 : Int32)) (v := (.ref as1)) (by rw [e60]; exact Ar61.1) (State.isArrayOf_alike hZ.alike Ar61.2.1) rfl Ar61.2.2 in61 at61 (g := (mkF m 40 #[oR this, oI pi, oI (1 : Int32), oI (0 : Int32)] [(.int (1 : Int32)), (.ref aso), (.ref am1)])) rfl rfl (hb hby d4_40) t kz) ?_
    show own_Pc p e below _ (T60.setTop (mkF m 41 #[oR this, oI pi, oI (1 : Int32), oI (0 : Int32)] [(.ref as1), (.ref am1)]))
    refine own_pvia (fun t kz => XS.iloadN X60.here hx rfl (hb hby d4_41) rfl kz) ?_
    show own_Pc p e below _ (T60.setTop (mkF m 42 #[oR this, oI pi, oI (1 : Int32), oI (0 : Int32)] [(.int (0 : Int32)), (.ref as1), (.ref am1)]))
    obtain ⟨cl62, Ar62, kc62, Sz62, Nn62, Hs62, Gs62⟩ := id Vo6
    have in62 := inb_of (j := (0 : Int32)) Sz62 ⟨by decide, by decide⟩
    have at62 : cl62.slots[((0 : Int32)).toNatClampNeg]? = some (.int (0 : Int32)) := Hs62.at in62 rfl
    refine own_pvia (fun t kz => X60.iaload hx (j := (0 : Int32)) (v := (.int (0 : Int32))) (by rw [e60]; exact Ar62.1) (State.isArrayOf_alike hZ.alike Ar62.2.1) Ar62.2.2 in62 at62 (g := (mkF m 42 #[oR this, oI pi, oI (1 : Int32), oI (0 : Int32)] [(.int (0 : Int32)), (.ref as1), (.ref am1)])) rfl rfl (hb hby d4_42) t kz) ?_
    show own_Pc p e below _ (T60.setTop (mkF m 43 #[oR this, oI pi, oI (1 : Int32), oI (0 : Int32)] [(.int (0 : Int32)), (.ref am1)]))
    refine own_pvia (fun t kz => XS.iconst X60.here hx rfl (hb hby d4_43) kz) ?_
    show own_Pc p e below _ (T60.setTop (mkF m 44 #[oR this, oI pi, oI (1 : Int32), oI (0 : Int32)] [(.int (0 : Int32)), (.int (0 : Int32)), (.ref am1)]))
    obtain ⟨cl63, Ar63, kc63, Sz63, Nn63, Hs63, Gs63⟩ := id Vo2
    obtain ⟨T63, h63, X63, e63, W63, st63⟩ := stZ X60 hx hZ e60 Ar63 (j := (0 : Int32)) (inb_of Sz63 ⟨by decide, by decide⟩) (g := (mkF m 44 #[oR this, oI pi, oI (1 : Int32), oI (0 : Int32)] [(.int (0 : Int32)), (.int (0 : Int32)), (.ref am1)])) rfl rfl (hb hby d4_44)
    refine own_pvia st63 ?_
    have na63 : nar .boolean (0 : Int32) = (0 : Int32) := by decide
    rw [na63] at W63
    have E64 := Eq.wr W63
    have F65 := Fo0.other W63 (Or.inl (own_neq (by omega)))
    have F66 := Fo1.other W63 (Or.inl (own_neq (by omega)))
    have F67 := Fo2.other W63 (Or.inl (own_neq (by omega)))
    have F68 := Fo3.other W63 (Or.inl (own_neq (by omega)))
    have F69 := Fo4.other W63 (Or.inl (own_neq (by omega)))
    have V70 := Vo0.other W63 (own_neq (by omega))
    have V71 := Vo1.other W63 (own_neq (by omega))
    have V72 := Vo3.other W63 (own_neq (by omega))
    have V73 := Vo4.other W63 (own_neq (by omega))
    have V74 := Vo5.other W63 (own_neq (by omega))
    have V75 := Vo6.other W63 (own_neq (by omega))
    have V76 := Vo7.other W63 (own_neq (by omega))
    have Zs77 : n0 ≤ h63.size := Nat.le_trans Z0 (Keep.of_wr W63).1
    have N78 := Fr.snoc X63 N0 (show n0 ≤ am1 by omega)
    have V79 : Arv Z h63 am1 ck3 .boolean (2 : Int32) [(.int (0 : Int32)), (.int wm11)] (.int (0 : Int32)) := Arv.set Ar63 kc63 Sz63 Nn63 Hs63 Gs63 (by rw [← na63]; first | exact fits_nar_char _ | exact fits_nar_bool _ | exact fits_nar_byte _) W63 0 (by first | decide | (show 0 < 2; decide)) (by first | decide | (show 0 < 2; decide))
    show own_Pc p e below _ (T63.setTop (mkF m 45 #[oR this, oI pi, oI (1 : Int32), oI (0 : Int32)] []))
    refine own_pvia (fun t kz => XS.iinc X63.here hx rfl (hb hby d4_45) rfl (l' := #[oR this, oI pi, oI (1 : Int32), oI (1 : Int32)]) rfl kz) ?_
    show own_Pc p e below _ (T63.setTop (mkF m 48 #[oR this, oI pi, oI (1 : Int32), oI (1 : Int32)] []))
    refine own_pvia (fun t kz => XS.goto X63.here hx rfl (pc0 := 48) (pc' := 19) rfl (hb hby d4_48) (by decide) (by decide) kz) ?_
    show own_Pc p e below _ (T63.setTop (mkF m 19 #[oR this, oI pi, oI (1 : Int32), oI (1 : Int32)] []))
    refine own_pvia (fun t kz => XS.iloadN X63.here hx rfl (hb hby d4_19) rfl kz) ?_
    show own_Pc p e below _ (T63.setTop (mkF m 20 #[oR this, oI pi, oI (1 : Int32), oI (1 : Int32)] [(.int (1 : Int32))]))
    refine own_pvia (fun t kz => XS.aloadN X63.here hx rfl (hb hby d4_20) rfl rfl kz) ?_
    show own_Pc p e below _ (T63.setTop (mkF m 21 #[oR this, oI pi, oI (1 : Int32), oI (1 : Int32)] [(.ref this), (.int (1 : Int32))]))
    obtain ⟨T80, X80, e80, st80⟩ := getF X63 hx hZ hown (host := "") (Or.inl (own_w hw 21)) Via.refl e63 F68 (g := (mkF m 21 #[oR this, oI pi, oI (1 : Int32), oI (1 : Int32)] [(.ref this), (.int (1 : Int32))])) rfl rfl (hb hby d4_21)
    refine own_pvia st80 ?_
    show own_Pc p e below _ (T80.setTop (mkF m 24 #[oR this, oI pi, oI (1 : Int32), oI (1 : Int32)] [(.ref aca), (.int (1 : Int32))]))
    refine own_pvia (fun t kz => XS.iloadN X80.here hx rfl (hb hby d4_24) rfl kz) ?_
    show own_Pc p e below _ (T80.setTop (mkF m 25 #[oR this, oI pi, oI (1 : Int32), oI (1 : Int32)] [(.int (1 : Int32)), (.ref aca), (.int (1 : Int32))]))
    obtain ⟨cl81, Ar81, kc81, Sz81, Nn81, Hs81, Gs81⟩ := id V76
    have in81 := inb_of (j := (1 : Int32)) Sz81 ⟨by decide, by decide⟩
    have at81 : cl81.slots[((1 : Int32)).toNatClampNeg]? = some (.int (2 : Int32)) := Hs81.at in81 rfl
    refine own_pvia (fun t kz => X80.iaload hx (j := (1 : Int32)) (v := (.int (2 : Int32))) (by rw [e80]; exact Ar81.1) (State.isArrayOf_alike hZ.alike Ar81.2.1) Ar81.2.2 in81 at81 (g := (mkF m 25 #[oR this, oI pi, oI (1 : Int32), oI (1 : Int32)] [(.int (1 : Int32)), (.ref aca), (.int (1 : Int32))])) rfl rfl (hb hby d4_25) t kz) ?_
    show own_Pc p e below _ (T80.setTop (mkF m 26 #[oR this, oI pi, oI (1 : Int32), oI (1 : Int32)] [(.int (2 : Int32)), (.int (1 : Int32))]))
    refine own_pvia (fun t kz => XS.icmpNo X80.here hx rfl (hb hby d4_26) rfl (tlt (by decide : (1 : Int32) < (2 : Int32))).2.1 kz) ?_
    show own_Pc p e below _ (T80.setTop (mkF m 29 #[oR this, oI pi, oI (1 : Int32), oI (1 : Int32)] []))
    refine own_pvia (fun t kz => XS.aloadN X80.here hx rfl (hb hby d4_29) rfl rfl kz) ?_
    show own_Pc p e below _ (T80.setTop (mkF m 30 #[oR this, oI pi, oI (1 : Int32), oI (1 : Int32)] [(.ref this)]))
    obtain ⟨T82, X82, e82, st82⟩ := getF X80 hx hZ hown (host := "") (Or.inl (own_w hw 12)) Via.refl e80 F65 (g := (mkF m 30 #[oR this, oI pi, oI (1 : Int32), oI (1 : Int32)] [(.ref this)])) rfl rfl (hb hby d4_30)
    refine own_pvia st82 ?_
    show own_Pc p e below _ (T82.setTop (mkF m 33 #[oR this, oI pi, oI (1 : Int32), oI (1 : Int32)] [(.ref amo)]))
    refine own_pvia (fun t kz => XS.iloadN X82.here hx rfl (hb hby d4_33) rfl kz) ?_
    show own_Pc p e below _ (T82.setTop (mkF m 34 #[oR this, oI pi, oI (1 : Int32), oI (1 : Int32)] [(.int (1 : Int32)), (.ref amo)]))
    obtain ⟨cl83, Ar83, kc83, Sz83, Nn83, Hs83, Gs83⟩ := id V70
    have in83 := inb_of (j := (1 : Int32)) Sz83 ⟨by decide, by decide⟩
    have at83 : cl83.slots[((1 : Int32)).toNatClampNeg]? = some (.ref am1) := Hs83.at in83 rfl
    refine own_pvia (fun t kz => X82.aaload hx (j := (1 : Int32)) (v := (.ref am1)) (by rw [e82]; exact Ar83.1) (State.isArrayOf_alike hZ.alike Ar83.2.1) rfl Ar83.2.2 in83 at83 (g := (mkF m 34 #[oR this, oI pi, oI (1 : Int32), oI (1 : Int32)] [(.int (1 : Int32)), (.ref amo)])) rfl rfl (hb hby d4_34) t kz) ?_
    show own_Pc p e below _ (T82.setTop (mkF m 35 #[oR this, oI pi, oI (1 : Int32), oI (1 : Int32)] [(.ref am1)]))
    refine own_pvia (fun t kz => XS.aloadN X82.here hx rfl (hb hby d4_35) rfl rfl kz) ?_
    show own_Pc p e below _ (T82.setTop (mkF m 36 #[oR this, oI pi, oI (1 : Int32), oI (1 : Int32)] [(.ref this), (.ref am1)]))
    obtain ⟨T84, X84, e84, st84⟩ := getF X82 hx hZ hown (host := "") (Or.inl (own_w hw 19)) Via.refl e82 F67 (g := (mkF m 36 #[oR this, oI pi, oI (1 : Int32), oI (1 : Int32)] [(.ref this), (.ref am1)])) rfl rfl (hb hby d4_36)
    refine own_pvia st84 ?_
    show own_Pc p e below _ (T84.setTop (mkF m 39 #[oR this, oI pi, oI (1 : Int32), oI (1 : Int32)] [(.ref aso), (.ref am1)]))
    refine own_pvia (fun t kz => XS.iloadN X84.here hx rfl (hb hby d4_39) rfl kz) ?_
    show own_Pc p e below _ (T84.setTop (mkF m 40 #[oR this, oI pi, oI (1 : Int32), oI (1 : Int32)] [(.int (1 : Int32)), (.ref aso), (.ref am1)]))
    obtain ⟨cl85, Ar85, kc85, Sz85, Nn85, Hs85, Gs85⟩ := id V73
    have in85 := inb_of (j := (1 : Int32)) Sz85 ⟨by decide, by decide⟩
    have at85 : cl85.slots[((1 : Int32)).toNatClampNeg]? = some (.ref as1) := Hs85.at in85 rfl
    refine own_pvia (fun t kz => X84.aaload hx (j := (1 : Int32)) (v := (.ref as1)) (by rw [e84]; exact Ar85.1) (State.isArrayOf_alike hZ.alike Ar85.2.1) rfl Ar85.2.2 in85 at85 (g := (mkF m 40 #[oR this, oI pi, oI (1 : Int32), oI (1 : Int32)] [(.int (1 : Int32)), (.ref aso), (.ref am1)])) rfl rfl (hb hby d4_40) t kz) ?_
    show own_Pc p e below _ (T84.setTop (mkF m 41 #[oR this, oI pi, oI (1 : Int32), oI (1 : Int32)] [(.ref as1), (.ref am1)]))
    refine own_pvia (fun t kz => XS.iloadN X84.here hx rfl (hb hby d4_41) rfl kz) ?_
    show own_Pc p e below _ (T84.setTop (mkF m 42 #[oR this, oI pi, oI (1 : Int32), oI (1 : Int32)] [(.int (1 : Int32)), (.ref as1), (.ref am1)]))
    obtain ⟨cl86, Ar86, kc86, Sz86, Nn86, Hs86, Gs86⟩ := id V75
    have in86 := inb_of (j := (1 : Int32)) Sz86 ⟨by decide, by decide⟩
    have at86 : cl86.slots[((1 : Int32)).toNatClampNeg]? = some (.int (1 : Int32)) := Hs86.at in86 rfl
    refine own_pvia (fun t kz => X84.iaload hx (j := (1 : Int32)) (v := (.int (1 : Int32))) (by rw [e84]; exact Ar86.1) (State.isArrayOf_alike hZ.alike Ar86.2.1) Ar86.2.2 in86 at86 (g := (mkF m 42 #[oR this, oI pi, oI (1 : Int32), oI (1 : Int32)] [(.int (1 : Int32)), (.ref as1), (.ref am1)])) rfl rfl (hb hby d4_42) t kz) ?_
    show own_Pc p e below _ (T84.setTop (mkF m 43 #[oR this, oI pi, oI (1 : Int32), oI (1 : Int32)] [(.int (1 : Int32)), (.ref am1)]))
    refine own_pvia (fun t kz => XS.iconst X84.here hx rfl (hb hby d4_43) kz) ?_
    show own_Pc p e below _ (T84.setTop (mkF m 44 #[oR this, oI pi, oI (1 : Int32), oI (1 : Int32)] [(.int (0 : Int32)), (.int (1 : Int32)), (.ref am1)]))
    obtain ⟨cl87, Ar87, kc87, Sz87, Nn87, Hs87, Gs87⟩ := id V79
    obtain ⟨T87, h87, X87, e87, W87, st87⟩ := stZ X84 hx hZ e84 Ar87 (j := (1 : Int32)) (inb_of Sz87 ⟨by decide, by decide⟩) (g := (mkF m 44 #[oR this, oI pi, oI (1 : Int32), oI (1 : Int32)] [(.int (0 : Int32)), (.int (1 : Int32)), (.ref am1)])) rfl rfl (hb hby d4_44)
    refine own_pvia st87 ?_
    have na87 : nar .boolean (0 : Int32) = (0 : Int32) := by decide
    rw [na87] at W87
    have E88 := E64.wr W87
    have F89 := F65.other W87 (Or.inl (own_neq (by omega)))
    have F90 := F66.other W87 (Or.inl (own_neq (by omega)))
    have F91 := F67.other W87 (Or.inl (own_neq (by omega)))
    have F92 := F68.other W87 (Or.inl (own_neq (by omega)))
    have F93 := F69.other W87 (Or.inl (own_neq (by omega)))
    have V94 := V70.other W87 (own_neq (by omega))
    have V95 := V71.other W87 (own_neq (by omega))
    have V96 := V72.other W87 (own_neq (by omega))
    have V97 := V73.other W87 (own_neq (by omega))
    have V98 := V74.other W87 (own_neq (by omega))
    have V99 := V75.other W87 (own_neq (by omega))
    have V100 := V76.other W87 (own_neq (by omega))
    have Zs101 : n0 ≤ h87.size := Nat.le_trans Zs77 (Keep.of_wr W87).1
    have N102 := Fr.snoc X87 N78 (show n0 ≤ am1 by omega)
    have V103 : Arv Z h87 am1 ck3 .boolean (2 : Int32) [(.int (0 : Int32)), (.int (0 : Int32))] (.int (0 : Int32)) := Arv.set Ar87 kc87 Sz87 Nn87 Hs87 Gs87 (by rw [← na87]; first | exact fits_nar_char _ | exact fits_nar_bool _ | exact fits_nar_byte _) W87 1 (by first | decide | (show 1 < 2; decide)) (by first | decide | (show 1 < 2; decide))
    show own_Pc p e below _ (T87.setTop (mkF m 45 #[oR this, oI pi, oI (1 : Int32), oI (1 : Int32)] []))
    refine own_pvia (fun t kz => XS.iinc X87.here hx rfl (hb hby d4_45) rfl (l' := #[oR this, oI pi, oI (1 : Int32), oI (2 : Int32)]) rfl kz) ?_
    show own_Pc p e below _ (T87.setTop (mkF m 48 #[oR this, oI pi, oI (1 : Int32), oI (2 : Int32)] []))
    refine own_pvia (fun t kz => XS.goto X87.here hx rfl (pc0 := 48) (pc' := 19) rfl (hb hby d4_48) (by decide) (by decide) kz) ?_
    show own_Pc p e below _ (T87.setTop (mkF m 19 #[oR this, oI pi, oI (1 : Int32), oI (2 : Int32)] []))
    refine own_pvia (fun t kz => XS.iloadN X87.here hx rfl (hb hby d4_19) rfl kz) ?_
    show own_Pc p e below _ (T87.setTop (mkF m 20 #[oR this, oI pi, oI (1 : Int32), oI (2 : Int32)] [(.int (2 : Int32))]))
    refine own_pvia (fun t kz => XS.aloadN X87.here hx rfl (hb hby d4_20) rfl rfl kz) ?_
    show own_Pc p e below _ (T87.setTop (mkF m 21 #[oR this, oI pi, oI (1 : Int32), oI (2 : Int32)] [(.ref this), (.int (2 : Int32))]))
    obtain ⟨T104, X104, e104, st104⟩ := getF X87 hx hZ hown (host := "") (Or.inl (own_w hw 21)) Via.refl e87 F92 (g := (mkF m 21 #[oR this, oI pi, oI (1 : Int32), oI (2 : Int32)] [(.ref this), (.int (2 : Int32))])) rfl rfl (hb hby d4_21)
    refine own_pvia st104 ?_
    show own_Pc p e below _ (T104.setTop (mkF m 24 #[oR this, oI pi, oI (1 : Int32), oI (2 : Int32)] [(.ref aca), (.int (2 : Int32))]))
    refine own_pvia (fun t kz => XS.iloadN X104.here hx rfl (hb hby d4_24) rfl kz) ?_
    show own_Pc p e below _ (T104.setTop (mkF m 25 #[oR this, oI pi, oI (1 : Int32), oI (2 : Int32)] [(.int (1 : Int32)), (.ref aca), (.int (2 : Int32))]))
    obtain ⟨cl105, Ar105, kc105, Sz105, Nn105, Hs105, Gs105⟩ := id V100
    have in105 := inb_of (j := (1 : Int32)) Sz105 ⟨by decide, by decide⟩
    have at105 : cl105.slots[((1 : Int32)).toNatClampNeg]? = some (.int (2 : Int32)) := Hs105.at in105 rfl
    refine own_pvia (fun t kz => X104.iaload hx (j := (1 : Int32)) (v := (.int (2 : Int32))) (by rw [e104]; exact Ar105.1) (State.isArrayOf_alike hZ.alike Ar105.2.1) Ar105.2.2 in105 at105 (g := (mkF m 25 #[oR this, oI pi, oI (1 : Int32), oI (2 : Int32)] [(.int (1 : Int32)), (.ref aca), (.int (2 : Int32))])) rfl rfl (hb hby d4_25) t kz) ?_
    show own_Pc p e below _ (T104.setTop (mkF m 26 #[oR this, oI pi, oI (1 : Int32), oI (2 : Int32)] [(.int (2 : Int32)), (.int (2 : Int32))]))
    refine own_pvia (fun t kz => XS.icmpYes X104.here hx rfl (pc0 := 26) (pc' := 51) rfl (hb hby d4_26) rfl (flt (by decide : ¬ ((2 : Int32) < (2 : Int32)))).2.1 (by decide) (by decide) kz) ?_
    exact ⟨_, fun t k => k, ⟨T104, h87, _, rfl, X104, e104, N102, Zs101, ⟨amo, am0, am1, ata, aso, as0, as1, aca, ck1, ck2, ck3, ck4, ck5, ck6, ck7, ck8, ⟨by omega, by omega, by omega, by omega, by omega, by omega, by omega, by omega, by omega⟩, E88, F89, F90, F91, F92, F93, V94, V95, V103, V96, V97, V98, V99, V100⟩⟩⟩
  · show own_Pc p e below _ (T0.setTop (mkF m 19 #[oR this, oI pi, oI (1 : Int32), oI (0 : Int32)] []))
    refine own_pvia (fun t kz => XS.iloadN X0.here hx rfl (hb hby d4_19) rfl kz) ?_
    show own_Pc p e below _ (T0.setTop (mkF m 20 #[oR this, oI pi, oI (1 : Int32), oI (0 : Int32)] [(.int (0 : Int32))]))
    refine own_pvia (fun t kz => XS.aloadN X0.here hx rfl (hb hby d4_20) rfl rfl kz) ?_
    show own_Pc p e below _ (T0.setTop (mkF m 21 #[oR this, oI pi, oI (1 : Int32), oI (0 : Int32)] [(.ref this), (.int (0 : Int32))]))
    obtain ⟨T106, X106, e106, st106⟩ := getF X0 hx hZ hown (host := "") (Or.inl (own_w hw 21)) Via.refl e0 Fo3 (g := (mkF m 21 #[oR this, oI pi, oI (1 : Int32), oI (0 : Int32)] [(.ref this), (.int (0 : Int32))])) rfl rfl (hb hby d4_21)
    refine own_pvia st106 ?_
    show own_Pc p e below _ (T106.setTop (mkF m 24 #[oR this, oI pi, oI (1 : Int32), oI (0 : Int32)] [(.ref aca), (.int (0 : Int32))]))
    refine own_pvia (fun t kz => XS.iloadN X106.here hx rfl (hb hby d4_24) rfl kz) ?_
    show own_Pc p e below _ (T106.setTop (mkF m 25 #[oR this, oI pi, oI (1 : Int32), oI (0 : Int32)] [(.int (1 : Int32)), (.ref aca), (.int (0 : Int32))]))
    obtain ⟨cl107, Ar107, kc107, Sz107, Nn107, Hs107, Gs107⟩ := id Vo7
    have in107 := inb_of (j := (1 : Int32)) Sz107 ⟨by decide, by decide⟩
    have at107 : cl107.slots[((1 : Int32)).toNatClampNeg]? = some (.int (2 : Int32)) := Hs107.at in107 rfl
    refine own_pvia (fun t kz => X106.iaload hx (j := (1 : Int32)) (v := (.int (2 : Int32))) (by rw [e106]; exact Ar107.1) (State.isArrayOf_alike hZ.alike Ar107.2.1) Ar107.2.2 in107 at107 (g := (mkF m 25 #[oR this, oI pi, oI (1 : Int32), oI (0 : Int32)] [(.int (1 : Int32)), (.ref aca), (.int (0 : Int32))])) rfl rfl (hb hby d4_25) t kz) ?_
    show own_Pc p e below _ (T106.setTop (mkF m 26 #[oR this, oI pi, oI (1 : Int32), oI (0 : Int32)] [(.int (2 : Int32)), (.int (0 : Int32))]))
    refine own_pvia (fun t kz => XS.icmpNo X106.here hx rfl (hb hby d4_26) rfl (tlt (by decide : (0 : Int32) < (2 : Int32))).2.1 kz) ?_
    show own_Pc p e below _ (T106.setTop (mkF m 29 #[oR this, oI pi, oI (1 : Int32), oI (0 : Int32)] []))
    refine own_pvia (fun t kz => XS.aloadN X106.here hx rfl (hb hby d4_29) rfl rfl kz) ?_
    show own_Pc p e below _ (T106.setTop (mkF m 30 #[oR this, oI pi, oI (1 : Int32), oI (0 : Int32)] [(.ref this)]))
    obtain ⟨T108, X108, e108, st108⟩ := getF X106 hx hZ hown (host := "") (Or.inl (own_w hw 12)) Via.refl e106 Fo0 (g := (mkF m 30 #[oR this, oI pi, oI (1 : Int32), oI (0 : Int32)] [(.ref this)])) rfl rfl (hb hby d4_30)
    refine own_pvia st108 ?_
    show own_Pc p e below _ (T108.setTop (mkF m 33 #[oR this, oI pi, oI (1 : Int32), oI (0 : Int32)] [(.ref amo)]))
    refine own_pvia (fun t kz => XS.iloadN X108.here hx rfl (hb hby d4_33) rfl kz) ?_
    show own_Pc p e below _ (T108.setTop (mkF m 34 #[oR this, oI pi, oI (1 : Int32), oI (0 : Int32)] [(.int (1 : Int32)), (.ref amo)]))
    obtain ⟨cl109, Ar109, kc109, Sz109, Nn109, Hs109, Gs109⟩ := id Vo0
    have in109 := inb_of (j := (1 : Int32)) Sz109 ⟨by decide, by decide⟩
    have at109 : cl109.slots[((1 : Int32)).toNatClampNeg]? = some (.ref am1) := Hs109.at in109 rfl
    refine own_pvia (fun t kz => X108.aaload hx (j := (1 : Int32)) (v := (.ref am1)) (by rw [e108]; exact Ar109.1) (State.isArrayOf_alike hZ.alike Ar109.2.1) rfl Ar109.2.2 in109 at109 (g := (mkF m 34 #[oR this, oI pi, oI (1 : Int32), oI (0 : Int32)] [(.int (1 : Int32)), (.ref amo)])) rfl rfl (hb hby d4_34) t kz) ?_
    show own_Pc p e below _ (T108.setTop (mkF m 35 #[oR this, oI pi, oI (1 : Int32), oI (0 : Int32)] [(.ref am1)]))
    refine own_pvia (fun t kz => XS.aloadN X108.here hx rfl (hb hby d4_35) rfl rfl kz) ?_
    show own_Pc p e below _ (T108.setTop (mkF m 36 #[oR this, oI pi, oI (1 : Int32), oI (0 : Int32)] [(.ref this), (.ref am1)]))
    obtain ⟨T110, X110, e110, st110⟩ := getF X108 hx hZ hown (host := "") (Or.inl (own_w hw 19)) Via.refl e108 Fo2 (g := (mkF m 36 #[oR this, oI pi, oI (1 : Int32), oI (0 : Int32)] [(.ref this), (.ref am1)])) rfl rfl (hb hby d4_36)
    refine own_pvia st110 ?_
    show own_Pc p e below _ (T110.setTop (mkF m 39 #[oR this, oI pi, oI (1 : Int32), oI (0 : Int32)] [(.ref aso), (.ref am1)]))
    refine own_pvia (fun t kz => XS.iloadN X110.here hx rfl (hb hby d4_39) rfl kz) ?_
    show own_Pc p e below _ (T110.setTop (mkF m 40 #[oR this, oI pi, oI (1 : Int32), oI (0 : Int32)] [(.int (1 : Int32)), (.ref aso), (.ref am1)]))
    obtain ⟨cl111, Ar111, kc111, Sz111, Nn111, Hs111, Gs111⟩ := id Vo4
    have in111 := inb_of (j := (1 : Int32)) Sz111 ⟨by decide, by decide⟩
    have at111 : cl111.slots[((1 : Int32)).toNatClampNeg]? = some (.ref as1) := Hs111.at in111 rfl
    refine own_pvia (fun t kz => X110.aaload hx (j := (1 : Int32)) (v := (.ref as1)) (by rw [e110]; exact Ar111.1) (State.isArrayOf_alike hZ.alike Ar111.2.1) rfl Ar111.2.2 in111 at111 (g := (mkF m 40 #[oR this, oI pi, oI (1 : Int32), oI (0 : Int32)] [(.int (1 : Int32)), (.ref aso), (.ref am1)])) rfl rfl (hb hby d4_40) t kz) ?_
    show own_Pc p e below _ (T110.setTop (mkF m 41 #[oR this, oI pi, oI (1 : Int32), oI (0 : Int32)] [(.ref as1), (.ref am1)]))
    refine own_pvia (fun t kz => XS.iloadN X110.here hx rfl (hb hby d4_41) rfl kz) ?_
    show own_Pc p e below _ (T110.setTop (mkF m 42 #[oR this, oI pi, oI (1 : Int32), oI (0 : Int32)] [(.int (0 : Int32)), (.ref as1), (.ref am1)]))
    obtain ⟨cl112, Ar112, kc112, Sz112, Nn112, Hs112, Gs112⟩ := id Vo6
    have in112 := inb_of (j := (0 : Int32)) Sz112 ⟨by decide, by decide⟩
    have at112 : cl112.slots[((0 : Int32)).toNatClampNeg]? = some (.int (1 : Int32)) := Hs112.at in112 rfl
    refine own_pvia (fun t kz => X110.iaload hx (j := (0 : Int32)) (v := (.int (1 : Int32))) (by rw [e110]; exact Ar112.1) (State.isArrayOf_alike hZ.alike Ar112.2.1) Ar112.2.2 in112 at112 (g := (mkF m 42 #[oR this, oI pi, oI (1 : Int32), oI (0 : Int32)] [(.int (0 : Int32)), (.ref as1), (.ref am1)])) rfl rfl (hb hby d4_42) t kz) ?_
    show own_Pc p e below _ (T110.setTop (mkF m 43 #[oR this, oI pi, oI (1 : Int32), oI (0 : Int32)] [(.int (1 : Int32)), (.ref am1)]))
    refine own_pvia (fun t kz => XS.iconst X110.here hx rfl (hb hby d4_43) kz) ?_
    show own_Pc p e below _ (T110.setTop (mkF m 44 #[oR this, oI pi, oI (1 : Int32), oI (0 : Int32)] [(.int (0 : Int32)), (.int (1 : Int32)), (.ref am1)]))
    obtain ⟨cl113, Ar113, kc113, Sz113, Nn113, Hs113, Gs113⟩ := id Vo2
    obtain ⟨T113, h113, X113, e113, W113, st113⟩ := stZ X110 hx hZ e110 Ar113 (j := (1 : Int32)) (inb_of Sz113 ⟨by decide, by decide⟩) (g := (mkF m 44 #[oR this, oI pi, oI (1 : Int32), oI (0 : Int32)] [(.int (0 : Int32)), (.int (1 : Int32)), (.ref am1)])) rfl rfl (hb hby d4_44)
    refine own_pvia st113 ?_
    have na113 : nar .boolean (0 : Int32) = (0 : Int32) := by decide
    rw [na113] at W113
    have E114 := Eq.wr W113
    have F115 := Fo0.other W113 (Or.inl (own_neq (by omega)))
    have F116 := Fo1.other W113 (Or.inl (own_neq (by omega)))
    have F117 := Fo2.other W113 (Or.inl (own_neq (by omega)))
    have F118 := Fo3.other W113 (Or.inl (own_neq (by omega)))
    have F119 := Fo4.other W113 (Or.inl (own_neq (by omega)))
    have V120 := Vo0.other W113 (own_neq (by omega))
    have V121 := Vo1.other W113 (own_neq (by omega))
    have V122 := Vo3.other W113 (own_neq (by omega))
    have V123 := Vo4.other W113 (own_neq (by omega))
    have V124 := Vo5.other W113 (own_neq (by omega))
    have V125 := Vo6.other W113 (own_neq (by omega))
    have V126 := Vo7.other W113 (own_neq (by omega))
    have Zs127 : n0 ≤ h113.size := Nat.le_trans Z0 (Keep.of_wr W113).1
    have N128 := Fr.snoc X113 N0 (show n0 ≤ am1 by omega)
    have V129 : Arv Z h113 am1 ck3 .boolean (2 : Int32) [(.int wm10), (.int (0 : Int32))] (.int (0 : Int32)) := Arv.set Ar113 kc113 Sz113 Nn113 Hs113 Gs113 (by rw [← na113]; first | exact fits_nar_char _ | exact fits_nar_bool _ | exact fits_nar_byte _) W113 1 (by first | decide | (show 1 < 2; decide)) (by first | decide | (show 1 < 2; decide))
    show own_Pc p e below _ (T113.setTop (mkF m 45 #[oR this, oI pi, oI (1 : Int32), oI (0 : Int32)] []))
    refine own_pvia (fun t kz => XS.iinc X113.here hx rfl (hb hby d4_45) rfl (l' := #[oR this, oI pi, oI (1 : Int32), oI (1 : Int32)]) rfl kz) ?_
    show own_Pc p e below _ (T113.setTop (mkF m 48 #[oR this, oI pi, oI (1 : Int32), oI (1 : Int32)] []))
    refine own_pvia (fun t kz => XS.goto X113.here hx rfl (pc0 := 48) (pc' := 19) rfl (hb hby d4_48) (by decide) (by decide) kz) ?_
    show own_Pc p e below _ (T113.setTop (mkF m 19 #[oR this, oI pi, oI (1 : Int32), oI (1 : Int32)] []))
    refine own_pvia (fun t kz => XS.iloadN X113.here hx rfl (hb hby d4_19) rfl kz) ?_
    show own_Pc p e below _ (T113.setTop (mkF m 20 #[oR this, oI pi, oI (1 : Int32), oI (1 : Int32)] [(.int (1 : Int32))]))
    refine own_pvia (fun t kz => XS.aloadN X113.here hx rfl (hb hby d4_20) rfl rfl kz) ?_
    show own_Pc p e below _ (T113.setTop (mkF m 21 #[oR this, oI pi, oI (1 : Int32), oI (1 : Int32)] [(.ref this), (.int (1 : Int32))]))
    obtain ⟨T130, X130, e130, st130⟩ := getF X113 hx hZ hown (host := "") (Or.inl (own_w hw 21)) Via.refl e113 F118 (g := (mkF m 21 #[oR this, oI pi, oI (1 : Int32), oI (1 : Int32)] [(.ref this), (.int (1 : Int32))])) rfl rfl (hb hby d4_21)
    refine own_pvia st130 ?_
    show own_Pc p e below _ (T130.setTop (mkF m 24 #[oR this, oI pi, oI (1 : Int32), oI (1 : Int32)] [(.ref aca), (.int (1 : Int32))]))
    refine own_pvia (fun t kz => XS.iloadN X130.here hx rfl (hb hby d4_24) rfl kz) ?_
    show own_Pc p e below _ (T130.setTop (mkF m 25 #[oR this, oI pi, oI (1 : Int32), oI (1 : Int32)] [(.int (1 : Int32)), (.ref aca), (.int (1 : Int32))]))
    obtain ⟨cl131, Ar131, kc131, Sz131, Nn131, Hs131, Gs131⟩ := id V126
    have in131 := inb_of (j := (1 : Int32)) Sz131 ⟨by decide, by decide⟩
    have at131 : cl131.slots[((1 : Int32)).toNatClampNeg]? = some (.int (2 : Int32)) := Hs131.at in131 rfl
    refine own_pvia (fun t kz => X130.iaload hx (j := (1 : Int32)) (v := (.int (2 : Int32))) (by rw [e130]; exact Ar131.1) (State.isArrayOf_alike hZ.alike Ar131.2.1) Ar131.2.2 in131 at131 (g := (mkF m 25 #[oR this, oI pi, oI (1 : Int32), oI (1 : Int32)] [(.int (1 : Int32)), (.ref aca), (.int (1 : Int32))])) rfl rfl (hb hby d4_25) t kz) ?_
    show own_Pc p e below _ (T130.setTop (mkF m 26 #[oR this, oI pi, oI (1 : Int32), oI (1 : Int32)] [(.int (2 : Int32)), (.int (1 : Int32))]))
    refine own_pvia (fun t kz => XS.icmpNo X130.here hx rfl (hb hby d4_26) rfl (tlt (by decide : (1 : Int32) < (2 : Int32))).2.1 kz) ?_
    show own_Pc p e below _ (T130.setTop (mkF m 29 #[oR this, oI pi, oI (1 : Int32), oI (1 : Int32)] []))
    refine own_pvia (fun t kz => XS.aloadN X130.here hx rfl (hb hby d4_29) rfl rfl kz) ?_
    show own_Pc p e below _ (T130.setTop (mkF m 30 #[oR this, oI pi, oI (1 : Int32), oI (1 : Int32)] [(.ref this)]))
    obtain ⟨T132, X132, e132, st132⟩ := getF X130 hx hZ hown (host := "") (Or.inl (own_w hw 12)) Via.refl e130 F115 (g := (mkF m 30 #[oR this, oI pi, oI (1 : Int32), oI (1 : Int32)] [(.ref this)])) rfl rfl (hb hby d4_30)
    refine own_pvia st132 ?_
    show own_Pc p e below _ (T132.setTop (mkF m 33 #[oR this, oI pi, oI (1 : Int32), oI (1 : Int32)] [(.ref amo)]))
    refine own_pvia (fun t kz => XS.iloadN X132.here hx rfl (hb hby d4_33) rfl kz) ?_
    show own_Pc p e below _ (T132.setTop (mkF m 34 #[oR this, oI pi, oI (1 : Int32), oI (1 : Int32)] [(.int (1 : Int32)), (.ref amo)]))
    obtain ⟨cl133, Ar133, kc133, Sz133, Nn133, Hs133, Gs133⟩ := id V120
    have in133 := inb_of (j := (1 : Int32)) Sz133 ⟨by decide, by decide⟩
    have at133 : cl133.slots[((1 : Int32)).toNatClampNeg]? = some (.ref am1) := Hs133.at in133 rfl
    refine own_pvia (fun t kz => X132.aaload hx (j := (1 : Int32)) (v := (.ref am1)) (by rw [e132]; exact Ar133.1) (State.isArrayOf_alike hZ.alike Ar133.2.1) rfl Ar133.2.2 in133 at133 (g := (mkF m 34 #[oR this, oI pi, oI (1 : Int32), oI (1 : Int32)] [(.int (1 : Int32)), (.ref amo)])) rfl rfl (hb hby d4_34) t kz) ?_
    show own_Pc p e below _ (T132.setTop (mkF m 35 #[oR this, oI pi, oI (1 : Int32), oI (1 : Int32)] [(.ref am1)]))
    refine own_pvia (fun t kz => XS.aloadN X132.here hx rfl (hb hby d4_35) rfl rfl kz) ?_
    show own_Pc p e below _ (T132.setTop (mkF m 36 #[oR this, oI pi, oI (1 : Int32), oI (1 : Int32)] [(.ref this), (.ref am1)]))
    obtain ⟨T134, X134, e134, st134⟩ := getF X132 hx hZ hown (host := "") (Or.inl (own_w hw 19)) Via.refl e132 F117 (g := (mkF m 36 #[oR this, oI pi, oI (1 : Int32), oI (1 : Int32)] [(.ref this), (.ref am1)])) rfl rfl (hb hby d4_36)
    refine own_pvia st134 ?_
    show own_Pc p e below _ (T134.setTop (mkF m 39 #[oR this, oI pi, oI (1 : Int32), oI (1 : Int32)] [(.ref aso), (.ref am1)]))
    refine own_pvia (fun t kz => XS.iloadN X134.here hx rfl (hb hby d4_39) rfl kz) ?_
    show own_Pc p e below _ (T134.setTop (mkF m 40 #[oR this, oI pi, oI (1 : Int32), oI (1 : Int32)] [(.int (1 : Int32)), (.ref aso), (.ref am1)]))
    obtain ⟨cl135, Ar135, kc135, Sz135, Nn135, Hs135, Gs135⟩ := id V123
    have in135 := inb_of (j := (1 : Int32)) Sz135 ⟨by decide, by decide⟩
    have at135 : cl135.slots[((1 : Int32)).toNatClampNeg]? = some (.ref as1) := Hs135.at in135 rfl
    refine own_pvia (fun t kz => X134.aaload hx (j := (1 : Int32)) (v := (.ref as1)) (by rw [e134]; exact Ar135.1) (State.isArrayOf_alike hZ.alike Ar135.2.1) rfl Ar135.2.2 in135 at135 (g := (mkF m 40 #[oR this, oI pi, oI (1 : Int32), oI (1 : Int32)] [(.int (1 : Int32)), (.ref aso), (.ref am1)])) rfl rfl (hb hby d4_40) t kz) ?_
    show own_Pc p e below _ (T134.setTop (mkF m 41 #[oR this, oI pi, oI (1 : Int32), oI (1 : Int32)] [(.ref as1), (.ref am1)]))
    refine own_pvia (fun t kz => XS.iloadN X134.here hx rfl (hb hby d4_41) rfl kz) ?_
    show own_Pc p e below _ (T134.setTop (mkF m 42 #[oR this, oI pi, oI (1 : Int32), oI (1 : Int32)] [(.int (1 : Int32)), (.ref as1), (.ref am1)]))
    obtain ⟨cl136, Ar136, kc136, Sz136, Nn136, Hs136, Gs136⟩ := id V125
    have in136 := inb_of (j := (1 : Int32)) Sz136 ⟨by decide, by decide⟩
    have at136 : cl136.slots[((1 : Int32)).toNatClampNeg]? = some (.int (0 : Int32)) := Hs136.at in136 rfl
    refine own_pvia (fun t kz => X134.iaload hx (j := (1 : Int32)) (v := (.int (0 : Int32))) (by rw [e134]; exact Ar136.1) (State.isArrayOf_alike hZ.alike Ar136.2.1) Ar136.2.2 in136 at136 (g := (mkF m 42 #[oR this, oI pi, oI (1 : Int32), oI (1 : Int32)] [(.int (1 : Int32)), (.ref as1), (.ref am1)])) rfl rfl (hb hby d4_42) t kz) ?_
    show own_Pc p e below _ (T134.setTop (mkF m 43 #[oR this, oI pi, oI (1 : Int32), oI (1 : Int32)] [(.int (0 : Int32)), (.ref am1)]))
    refine own_pvia (fun t kz => XS.iconst X134.here hx rfl (hb hby d4_43) kz) ?_
    show own_Pc p e below _ (T134.setTop (mkF m 44 #[oR this, oI pi, oI (1 : Int32), oI (1 : Int32)] [(.int (0 : Int32)), (.int (0 : Int32)), (.ref am1)]))
    obtain ⟨cl137, Ar137, kc137, Sz137, Nn137, Hs137, Gs137⟩ := id V129
    obtain ⟨T137, h137, X137, e137, W137, st137⟩ := stZ X134 hx hZ e134 Ar137 (j := (0 : Int32)) (inb_of Sz137 ⟨by decide, by decide⟩) (g := (mkF m 44 #[oR this, oI pi, oI (1 : Int32), oI (1 : Int32)] [(.int (0 : Int32)), (.int (0 : Int32)), (.ref am1)])) rfl rfl (hb hby d4_44)
    refine own_pvia st137 ?_
    have na137 : nar .boolean (0 : Int32) = (0 : Int32) := by decide
    rw [na137] at W137
    have E138 := E114.wr W137
    have F139 := F115.other W137 (Or.inl (own_neq (by omega)))
    have F140 := F116.other W137 (Or.inl (own_neq (by omega)))
    have F141 := F117.other W137 (Or.inl (own_neq (by omega)))
    have F142 := F118.other W137 (Or.inl (own_neq (by omega)))
    have F143 := F119.other W137 (Or.inl (own_neq (by omega)))
    have V144 := V120.other W137 (own_neq (by omega))
    have V145 := V121.other W137 (own_neq (by omega))
    have V146 := V122.other W137 (own_neq (by omega))
    have V147 := V123.other W137 (own_neq (by omega))
    have V148 := V124.other W137 (own_neq (by omega))
    have V149 := V125.other W137 (own_neq (by omega))
    have V150 := V126.other W137 (own_neq (by omega))
    have Zs151 : n0 ≤ h137.size := Nat.le_trans Zs127 (Keep.of_wr W137).1
    have N152 := Fr.snoc X137 N128 (show n0 ≤ am1 by omega)
    have V153 : Arv Z h137 am1 ck3 .boolean (2 : Int32) [(.int (0 : Int32)), (.int (0 : Int32))] (.int (0 : Int32)) := Arv.set Ar137 kc137 Sz137 Nn137 Hs137 Gs137 (by rw [← na137]; first | exact fits_nar_char _ | exact fits_nar_bool _ | exact fits_nar_byte _) W137 0 (by first | decide | (show 0 < 2; decide)) (by first | decide | (show 0 < 2; decide))
    show own_Pc p e below _ (T137.setTop (mkF m 45 #[oR this, oI pi, oI (1 : Int32), oI (1 : Int32)] []))
    refine own_pvia (fun t kz => XS.iinc X137.here hx rfl (hb hby d4_45) rfl (l' := #[oR this, oI pi, oI (1 : Int32), oI (2 : Int32)]) rfl kz) ?_
    show own_Pc p e below _ (T137.setTop (mkF m 48 #[oR this, oI pi, oI (1 : Int32), oI (2 : Int32)] []))
    refine own_pvia (fun t kz => XS.goto X137.here hx rfl (pc0 := 48) (pc' := 19) rfl (hb hby d4_48) (by decide) (by decide) kz) ?_
    show own_Pc p e below _ (T137.setTop (mkF m 19 #[oR this, oI pi, oI (1 : Int32), oI (2 : Int32)] []))
    refine own_pvia (fun t kz => XS.iloadN X137.here hx rfl (hb hby d4_19) rfl kz) ?_
    show own_Pc p e below _ (T137.setTop (mkF m 20 #[oR this, oI pi, oI (1 : Int32), oI (2 : Int32)] [(.int (2 : Int32))]))
    refine own_pvia (fun t kz => XS.aloadN X137.here hx rfl (hb hby d4_20) rfl rfl kz) ?_
    show own_Pc p e below _ (T137.setTop (mkF m 21 #[oR this, oI pi, oI (1 : Int32), oI (2 : Int32)] [(.ref this), (.int (2 : Int32))]))
    obtain ⟨T154, X154, e154, st154⟩ := getF X137 hx hZ hown (host := "") (Or.inl (own_w hw 21)) Via.refl e137 F142 (g := (mkF m 21 #[oR this, oI pi, oI (1 : Int32), oI (2 : Int32)] [(.ref this), (.int (2 : Int32))])) rfl rfl (hb hby d4_21)
    refine own_pvia st154 ?_
    show own_Pc p e below _ (T154.setTop (mkF m 24 #[oR this, oI pi, oI (1 : Int32), oI (2 : Int32)] [(.ref aca), (.int (2 : Int32))]))
    refine own_pvia (fun t kz => XS.iloadN X154.here hx rfl (hb hby d4_24) rfl kz) ?_
    show own_Pc p e below _ (T154.setTop (mkF m 25 #[oR this, oI pi, oI (1 : Int32), oI (2 : Int32)] [(.int (1 : Int32)), (.ref aca), (.int (2 : Int32))]))
    obtain ⟨cl155, Ar155, kc155, Sz155, Nn155, Hs155, Gs155⟩ := id V150
    have in155 := inb_of (j := (1 : Int32)) Sz155 ⟨by decide, by decide⟩
    have at155 : cl155.slots[((1 : Int32)).toNatClampNeg]? = some (.int (2 : Int32)) := Hs155.at in155 rfl
    refine own_pvia (fun t kz => X154.iaload hx (j := (1 : Int32)) (v := (.int (2 : Int32))) (by rw [e154]; exact Ar155.1) (State.isArrayOf_alike hZ.alike Ar155.2.1) Ar155.2.2 in155 at155 (g := (mkF m 25 #[oR this, oI pi, oI (1 : Int32), oI (2 : Int32)] [(.int (1 : Int32)), (.ref aca), (.int (2 : Int32))])) rfl rfl (hb hby d4_25) t kz) ?_
    show own_Pc p e below _ (T154.setTop (mkF m 26 #[oR this, oI pi, oI (1 : Int32), oI (2 : Int32)] [(.int (2 : Int32)), (.int (2 : Int32))]))
    refine own_pvia (fun t kz => XS.icmpYes X154.here hx rfl (pc0 := 26) (pc' := 51) rfl (hb hby d4_26) rfl (flt (by decide : ¬ ((2 : Int32) < (2 : Int32)))).2.1 (by decide) (by decide) kz) ?_
    exact ⟨_, fun t k => k, ⟨T154, h137, _, rfl, X154, e154, N152, Zs151, ⟨amo, am0, am1, ata, aso, as0, as1, aca, ck1, ck2, ck3, ck4, ck5, ck6, ck7, ck8, ⟨by omega, by omega, by omega, by omega, by omega, by omega, by omega, by omega, by omega⟩, E138, F139, F140, F141, F142, F143, V144, V145, V153, V146, V147, V148, V149, V150⟩⟩⟩
theorem d4_0 : decode prog_45_method_3_code 0 = .ok (.iconst 0, 1) := by decide +kernel
theorem d4_1 : decode prog_45_method_3_code 1 = .ok (.istore_n 1, 1) := by decide +kernel
theorem d4_2 : decode prog_45_method_3_code 2 = .ok (.iload_n 1, 1) := by decide +kernel
theorem d4_3 : decode prog_45_method_3_code 3 = .ok (.aload_n 0, 1) := by decide +kernel
theorem d4_4 : decode prog_45_method_3_code 4 = .ok (.getfield 26, 3) := by decide +kernel
theorem d4_7 : decode prog_45_method_3_code 7 = .ok (.if_icmp .ge 57, 3) := by decide +kernel
theorem d4_10 : decode prog_45_method_3_code 10 = .ok (.aload_n 0, 1) := by decide +kernel
theorem d4_11 : decode prog_45_method_3_code 11 = .ok (.getfield 14, 3) := by decide +kernel
theorem d4_14 : decode prog_45_method_3_code 14 = .ok (.iload_n 1, 1) := by decide +kernel
theorem d4_15 : decode prog_45_method_3_code 15 = .ok (.iaload, 1) := by decide +kernel
theorem d4_16 : decode prog_45_method_3_code 16 = .ok (.istore_n 2, 1) := by decide +kernel
theorem d4_17 : decode prog_45_method_3_code 17 = .ok (.iconst 0, 1) := by decide +kernel
theorem d4_18 : decode prog_45_method_3_code 18 = .ok (.istore_n 3, 1) := by decide +kernel
theorem d4_51 : decode prog_45_method_3_code 51 = .ok (.aload_n 0, 1) := by decide +kernel
theorem d4_52 : decode prog_45_method_3_code 52 = .ok (.getfield 23, 3) := by decide +kernel
theorem d4_55 : decode prog_45_method_3_code 55 = .ok (.iload_n 2, 1) := by decide +kernel
theorem d4_56 : decode prog_45_method_3_code 56 = .ok (.iconst 0, 1) := by decide +kernel
theorem d4_57 : decode prog_45_method_3_code 57 = .ok (.iastore, 1) := by decide +kernel
theorem d4_58 : decode prog_45_method_3_code 58 = .ok (.iinc 1 1, 3) := by decide +kernel
theorem d4_61 : decode prog_45_method_3_code 61 = .ok (.goto (-59), 3) := by decide +kernel
theorem d4_64 : decode prog_45_method_3_code 64 = .ok (.aload_n 0, 1) := by decide +kernel
theorem d4_65 : decode prog_45_method_3_code 65 = .ok (.iconst 0, 1) := by decide +kernel
theorem d4_66 : decode prog_45_method_3_code 66 = .ok (.putfield 26, 3) := by decide +kernel
theorem d4_69 : decode prog_45_method_3_code 69 = .ok (.return_, 1) := by decide +kernel
theorem ef_rm4 (m : MethodId) (q0 : Addr) : entryFrame m #[(.ref q0)] 4 = mkF m 0 #[oR q0, .unset, .unset, .unset] [] := by first | (simp [entryFrame, mkF, argsToLocals, Value.category]; done) | rfl
def Q4 (Z : State) (this : Addr) (wm00 : Int32) (wm01 : Int32) (wm10 : Int32) (wm11 : Int32) (wt0 : Int32) (wt1 : Int32) (ws00 : Int32) (ws01 : Int32) (ws10 : Int32) (ws11 : Int32) (wc0 : Int32) (wc1 : Int32) (wn : Int32) (h0 : Heap) (n0 : Nat) (v : Option Value) (h : Heap) (L : List Loc) : Prop := v = none ∧ Fr n0 L ∧ n0 ≤ h.size ∧ ∃ x0 x1 x2 x3 x4 x5 : Int32, own_TC Z h n0 this (own_mk 0 0 0 0 x0 x1 x2 x3 x4 x5 0 0 0)
set_option maxRecDepth 65536 in
set_option maxHeartbeats 40000000 in
theorem rm4 (l : Launch) (Z : State) (a0 : Array Value) (hw : ∀ d ∈ tables_1, d.before a0 Z = true) (ws : List Jvm.Cond) (this : Addr) (wm00 : Int32) (wm01 : Int32) (wm10 : Int32) (wm11 : Int32) (wt0 : Int32) (wt1 : Int32) (ws00 : Int32) (ws01 : Int32) (ws10 : Int32) (ws11 : Int32) (wc0 : Int32) (wc1 : Int32) (wn : Int32) (h0 : Heap) (n0 : Nat) (Z0 : n0 ≤ h0.size) (TC : own_TC Z h0 n0 this (own_mk wm00 wm01 wm10 wm11 wt0 wt1 ws00 ws01 ws10 ws11 wc0 wc1 wn)) (hinv : own_inv wm00 wm01 wm10 wm11 wt0 wt1 ws00 ws01 ws10 ws11 wc0 wc1 wn) :
    MetFree l (⟨"com/example/matchloom/matchloom/league/TouchedCells", "clear", "()V"⟩ : MethodName) (head1 (Jvm.Cond.code (⟨"com/example/matchloom/matchloom/league/TouchedCells", "clear", "()V"⟩ : MethodName) prog_45_method_3_code 4 none :: ws) ({ frames := 0, cells := 0, slots := 0, locals := 0 } : Room)) (fun a U => a = #[(.ref this)] ∧ Z.Warmed39 U.vm ∧ U.heap = h0) (fun _ _ _ _ _ => True) (fun _ U o U' => ∃ v L, o = .returned v ∧ Q4 Z this wm00 wm01 wm10 wm11 wt0 wt1 ws00 ws01 ws10 ws11 wc0 wc1 wn h0 n0 v U'.heap L ∧ FrameEnd U o U' L ({ frames := 0, cells := 0, slots := 0, locals := 0 } : Room).cells ({ frames := 0, cells := 0, slots := 0, locals := 0 } : Room).slots) := by
  refine MetFree.of_bodySF (plainFor_of_name pn_1) hisR ?_
  intro p e s m args below meth c s₁ Bd hml0 hP hK
  obtain ⟨rfl, hZ, hh⟩ := hP
  have hx := Bd.exec
  have hby := Bd.bytes
  have hml : c.maxLocals = 4 := hml0
  have hown : s.vm.findClass "com/example/matchloom/matchloom/league/TouchedCells" = some m.cls := findClass_of_methodNamed Bd.named
  have hnm := (name_of_methodNamed Bd.named Bd.method).1
  have X0 : Stand p l e ({ frames := 0, cells := 0, slots := 0, locals := 0 } : Room) s m #[(.ref this)] below meth c s₁ [] 0 0 := Stand.of_body Bd
  have e0 : s₁.heap = h0 := by rw [← hh, Bd.state]; rfl
  have N0 := Fr.nil n0
  refine own_start ?_
  refine own_via (fun t k => castTop (ef_rm4 m this) k) ?_
  obtain ⟨hr0, hr1, hq⟩ := hinv
  rcases hq with ⟨rfl, rfl, rfl⟩ | ⟨rfl, rfl, rfl⟩ | ⟨rfl, rfl, rfl⟩ | ⟨rfl, rfl, rfl⟩ | ⟨rfl, rfl, rfl⟩
  · obtain ⟨rfl, rfl⟩ := own_row0 hr0
    obtain ⟨rfl, rfl⟩ := own_row0 hr1
    obtain ⟨amo, am0, am1, ata, aso, as0, as1, aca, ck1, ck2, ck3, ck4, ck5, ck6, ck7, ck8, ⟨ch0, ch1, ch2, ch3, ch4, ch5, ch6, ch7, ch8⟩, Eq, Fq0, Fq1, Fq2, Fq3, Fq4, Vq0, Vq1, Vq2, Vq3, Vq4, Vq5, Vq6, Vq7⟩ := TC
    have Fo0 : Fld Z h0 this "com/example/matchloom/matchloom/league/TouchedCells" "marked" "[[Z" (.ref amo) := Fq0
    have Fo1 : Fld Z h0 this "com/example/matchloom/matchloom/league/TouchedCells" "teams" "[I" (.ref ata) := Fq1
    have Fo2 : Fld Z h0 this "com/example/matchloom/matchloom/league/TouchedCells" "slots" "[[I" (.ref aso) := Fq2
    have Fo3 : Fld Z h0 this "com/example/matchloom/matchloom/league/TouchedCells" "slotCount" "[I" (.ref aca) := Fq3
    have Fo4 : Fld Z h0 this "com/example/matchloom/matchloom/league/TouchedCells" "teamCount" "I" (.int (0 : Int32)) := Fq4
    have Vo0 : Arv Z h0 amo ck1 (.array .boolean) (2 : Int32) [(.ref am0), (.ref am1)] .null := Vq0
    have Vo1 : Arv Z h0 am0 ck2 .boolean (2 : Int32) [(.int (0 : Int32)), (.int (0 : Int32))] (.int (0 : Int32)) := Vq1
    have Vo2 : Arv Z h0 am1 ck3 .boolean (2 : Int32) [(.int (0 : Int32)), (.int (0 : Int32))] (.int (0 : Int32)) := Vq2
    have Vo3 : Arv Z h0 ata ck4 .int (2 : Int32) [(.int wt0), (.int wt1)] (.int (0 : Int32)) := Vq3
    have Vo4 : Arv Z h0 aso ck5 (.array .int) (2 : Int32) [(.ref as0), (.ref as1)] .null := Vq4
    have Vo5 : Arv Z h0 as0 ck6 .int (2 : Int32) [(.int ws00), (.int ws01)] (.int (0 : Int32)) := Vq5
    have Vo6 : Arv Z h0 as1 ck7 .int (2 : Int32) [(.int ws10), (.int ws11)] (.int (0 : Int32)) := Vq6
    have Vo7 : Arv Z h0 aca ck8 .int (2 : Int32) [(.int (0 : Int32)), (.int (0 : Int32))] (.int (0 : Int32)) := Vq7
    show own_Go p e below _ (s₁.setTop (mkF m 0 #[oR this, .unset, .unset, .unset] []))
    refine own_via (fun t kz => XS.iconst X0.here hx rfl (hb hby d4_0) kz) ?_
    show own_Go p e below _ (s₁.setTop (mkF m 1 #[oR this, .unset, .unset, .unset] [(.int (0 : Int32))]))
    refine own_via (fun t kz => XS.istoreN X0.here hx rfl (hb hby d4_1) rfl (l' := #[oR this, oI (0 : Int32), .unset, .unset]) rfl kz) ?_
    show own_Go p e below _ (s₁.setTop (mkF m 2 #[oR this, oI (0 : Int32), .unset, .unset] []))
    refine own_via (fun t kz => XS.iloadN X0.here hx rfl (hb hby d4_2) rfl kz) ?_
    show own_Go p e below _ (s₁.setTop (mkF m 3 #[oR this, oI (0 : Int32), .unset, .unset] [(.int (0 : Int32))]))
    refine own_via (fun t kz => XS.aloadN X0.here hx rfl (hb hby d4_3) rfl rfl kz) ?_
    show own_Go p e below _ (s₁.setTop (mkF m 4 #[oR this, oI (0 : Int32), .unset, .unset] [(.ref this), (.int (0 : Int32))]))
    obtain ⟨T2, X2, e2, st2⟩ := getF X0 hx hZ hown (host := "") (Or.inl (own_w hw 28)) Via.refl e0 Fo4 (g := (mkF m 4 #[oR this, oI (0 : Int32), .unset, .unset] [(.ref this), (.int (0 : Int32))])) rfl rfl (hb hby d4_4)
    refine own_via st2 ?_
    show own_Go p e below _ (T2.setTop (mkF m 7 #[oR this, oI (0 : Int32), .unset, .unset] [(.int (0 : Int32)), (.int (0 : Int32))]))
    refine own_via (fun t kz => XS.icmpYes X2.here hx rfl (pc0 := 7) (pc' := 64) rfl (hb hby d4_7) rfl (flt (by decide : ¬ ((0 : Int32) < (0 : Int32)))).2.1 (by decide) (by decide) kz) ?_
    show own_Go p e below _ (T2.setTop (mkF m 64 #[oR this, oI (0 : Int32), .unset, .unset] []))
    refine own_via (fun t kz => XS.aloadN X2.here hx rfl (hb hby d4_64) rfl rfl kz) ?_
    show own_Go p e below _ (T2.setTop (mkF m 65 #[oR this, oI (0 : Int32), .unset, .unset] [(.ref this)]))
    refine own_via (fun t kz => XS.iconst X2.here hx rfl (hb hby d4_65) kz) ?_
    show own_Go p e below _ (T2.setTop (mkF m 66 #[oR this, oI (0 : Int32), .unset, .unset] [(.int (0 : Int32)), (.ref this)]))
    obtain ⟨T3, h3, X3, e3, W3, st3⟩ := putF X2 hx hZ hown (host := "") (Or.inl (own_w hw 28)) Via.refl e2 Fo4 Eq (Or.inl (own_w hw 29)) (own_w hw 1) (ty := .int) (by decide) rfl rfl (g := (mkF m 66 #[oR this, oI (0 : Int32), .unset, .unset] [(.int (0 : Int32)), (.ref this)])) rfl rfl (hb hby d4_66)
    refine own_via st3 ?_
    have E4 := Eq.wr W3
    have F5 := Fo0.other W3 (Or.inr (slot_ne (Or.inr (own_w hw 13)) (Or.inl (own_w hw 29)) (by decide) (t := (.array (.array .boolean))) (t' := .int) (by decide) (by decide)))
    have F6 := Fo1.other W3 (Or.inr (slot_ne (Or.inr (own_w hw 16)) (Or.inl (own_w hw 29)) (by decide) (t := (.array .int)) (t' := .int) (by decide) (by decide)))
    have F7 := Fo2.other W3 (Or.inr (slot_ne (Or.inr (own_w hw 20)) (Or.inl (own_w hw 29)) (by decide) (t := (.array (.array .int))) (t' := .int) (by decide) (by decide)))
    have F8 := Fo3.other W3 (Or.inr (slot_ne (Or.inr (own_w hw 22)) (Or.inl (own_w hw 29)) (by decide) (t := (.array .int)) (t' := .int) (by decide) (by decide)))
    have F9 := Fo4.same W3
    have V10 := Vo0.other W3 (own_neq (by omega))
    have V11 := Vo1.other W3 (own_neq (by omega))
    have V12 := Vo2.other W3 (own_neq (by omega))
    have V13 := Vo3.other W3 (own_neq (by omega))
    have V14 := Vo4.other W3 (own_neq (by omega))
    have V15 := Vo5.other W3 (own_neq (by omega))
    have V16 := Vo6.other W3 (own_neq (by omega))
    have V17 := Vo7.other W3 (own_neq (by omega))
    have Zs18 : n0 ≤ h3.size := Nat.le_trans Z0 (Keep.of_wr W3).1
    have N19 := Fr.snoc X3 N0 (show n0 ≤ this by omega)
    show own_Go p e below _ (T3.setTop (mkF m 69 #[oR this, oI (0 : Int32), .unset, .unset] []))
    have hT : own_TC Z h3 n0 this (own_mk (0 : Int32) (0 : Int32) (0 : Int32) (0 : Int32) wt0 wt1 ws00 ws01 ws10 ws11 (0 : Int32) (0 : Int32) (0 : Int32)) := ⟨amo, am0, am1, ata, aso, as0, as1, aca, ck1, ck2, ck3, ck4, ck5, ck6, ck7, ck8, ⟨by omega, by omega, by omega, by omega, by omega, by omega, by omega, by omega, by omega⟩, E4, F5, F6, F7, F8, F9, V10, V11, V12, V13, V14, V15, V16, V17⟩
    obtain ⟨fs, hr, hrun, hended, hW, hsame⟩ := X3.leave (v := none) (fun _ => rfl)
    refine ⟨_, _, X3.returnOut hx Bd.returns (hb hby d4_69) hr, hrun, hended, _, _, rfl, ?_, ⟨_, rfl⟩, hW, hsame.mono (by decide) (by decide)⟩
    show Q4 Z this (0 : Int32) (0 : Int32) (0 : Int32) (0 : Int32) wt0 wt1 ws00 ws01 ws10 ws11 (0 : Int32) (0 : Int32) (0 : Int32) h0 n0 _ T3.heap _
    rw [e3]
    exact ⟨rfl, N19, Zs18, _, _, _, _, _, _, hT⟩
  · obtain ⟨rfl, rfl⟩ := own_row0 hr1
    obtain ⟨amo, am0, am1, ata, aso, as0, as1, aca, ck1, ck2, ck3, ck4, ck5, ck6, ck7, ck8, ⟨ch0, ch1, ch2, ch3, ch4, ch5, ch6, ch7, ch8⟩, Eq, Fq0, Fq1, Fq2, Fq3, Fq4, Vq0, Vq1, Vq2, Vq3, Vq4, Vq5, Vq6, Vq7⟩ := TC
    have Fo0 : Fld Z h0 this "com/example/matchloom/matchloom/league/TouchedCells" "marked" "[[Z" (.ref amo) := Fq0
    have Fo1 : Fld Z h0 this "com/example/matchloom/matchloom/league/TouchedCells" "teams" "[I" (.ref ata) := Fq1
    have Fo2 : Fld Z h0 this "com/example/matchloom/matchloom/league/TouchedCells" "slots" "[[I" (.ref aso) := Fq2
    have Fo3 : Fld Z h0 this "com/example/matchloom/matchloom/league/TouchedCells" "slotCount" "[I" (.ref aca) := Fq3
    have Fo4 : Fld Z h0 this "com/example/matchloom/matchloom/league/TouchedCells" "teamCount" "I" (.int (1 : Int32)) := Fq4
    have Vo0 : Arv Z h0 amo ck1 (.array .boolean) (2 : Int32) [(.ref am0), (.ref am1)] .null := Vq0
    have Vo1 : Arv Z h0 am0 ck2 .boolean (2 : Int32) [(.int wm00), (.int wm01)] (.int (0 : Int32)) := Vq1
    have Vo2 : Arv Z h0 am1 ck3 .boolean (2 : Int32) [(.int (0 : Int32)), (.int (0 : Int32))] (.int (0 : Int32)) := Vq2
    have Vo3 : Arv Z h0 ata ck4 .int (2 : Int32) [(.int (0 : Int32)), (.int wt1)] (.int (0 : Int32)) := Vq3
    have Vo4 : Arv Z h0 aso ck5 (.array .int) (2 : Int32) [(.ref as0), (.ref as1)] .null := Vq4
    have Vo5 : Arv Z h0 as0 ck6 .int (2 : Int32) [(.int ws00), (.int ws01)] (.int (0 : Int32)) := Vq5
    have Vo6 : Arv Z h0 as1 ck7 .int (2 : Int32) [(.int ws10), (.int ws11)] (.int (0 : Int32)) := Vq6
    have Vo7 : Arv Z h0 aca ck8 .int (2 : Int32) [(.int wc0), (.int (0 : Int32))] (.int (0 : Int32)) := Vq7
    show own_Go p e below _ (s₁.setTop (mkF m 0 #[oR this, .unset, .unset, .unset] []))
    refine own_via (fun t kz => XS.iconst X0.here hx rfl (hb hby d4_0) kz) ?_
    show own_Go p e below _ (s₁.setTop (mkF m 1 #[oR this, .unset, .unset, .unset] [(.int (0 : Int32))]))
    refine own_via (fun t kz => XS.istoreN X0.here hx rfl (hb hby d4_1) rfl (l' := #[oR this, oI (0 : Int32), .unset, .unset]) rfl kz) ?_
    show own_Go p e below _ (s₁.setTop (mkF m 2 #[oR this, oI (0 : Int32), .unset, .unset] []))
    refine own_via (fun t kz => XS.iloadN X0.here hx rfl (hb hby d4_2) rfl kz) ?_
    show own_Go p e below _ (s₁.setTop (mkF m 3 #[oR this, oI (0 : Int32), .unset, .unset] [(.int (0 : Int32))]))
    refine own_via (fun t kz => XS.aloadN X0.here hx rfl (hb hby d4_3) rfl rfl kz) ?_
    show own_Go p e below _ (s₁.setTop (mkF m 4 #[oR this, oI (0 : Int32), .unset, .unset] [(.ref this), (.int (0 : Int32))]))
    obtain ⟨T22, X22, e22, st22⟩ := getF X0 hx hZ hown (host := "") (Or.inl (own_w hw 28)) Via.refl e0 Fo4 (g := (mkF m 4 #[oR this, oI (0 : Int32), .unset, .unset] [(.ref this), (.int (0 : Int32))])) rfl rfl (hb hby d4_4)
    refine own_via st22 ?_
    show own_Go p e below _ (T22.setTop (mkF m 7 #[oR this, oI (0 : Int32), .unset, .unset] [(.int (1 : Int32)), (.int (0 : Int32))]))
    refine own_via (fun t kz => XS.icmpNo X22.here hx rfl (hb hby d4_7) rfl (tlt (by decide : (0 : Int32) < (1 : Int32))).2.1 kz) ?_
    show own_Go p e below _ (T22.setTop (mkF m 10 #[oR this, oI (0 : Int32), .unset, .unset] []))
    refine own_via (fun t kz => XS.aloadN X22.here hx rfl (hb hby d4_10) rfl rfl kz) ?_
    show own_Go p e below _ (T22.setTop (mkF m 11 #[oR this, oI (0 : Int32), .unset, .unset] [(.ref this)]))
    obtain ⟨T23, X23, e23, st23⟩ := getF X22 hx hZ hown (host := "") (Or.inl (own_w hw 15)) Via.refl e22 Fo1 (g := (mkF m 11 #[oR this, oI (0 : Int32), .unset, .unset] [(.ref this)])) rfl rfl (hb hby d4_11)
    refine own_via st23 ?_
    show own_Go p e below _ (T23.setTop (mkF m 14 #[oR this, oI (0 : Int32), .unset, .unset] [(.ref ata)]))
    refine own_via (fun t kz => XS.iloadN X23.here hx rfl (hb hby d4_14) rfl kz) ?_
    show own_Go p e below _ (T23.setTop (mkF m 15 #[oR this, oI (0 : Int32), .unset, .unset] [(.int (0 : Int32)), (.ref ata)]))
    obtain ⟨cl24, Ar24, kc24, Sz24, Nn24, Hs24, Gs24⟩ := id Vo3
    have in24 := inb_of (j := (0 : Int32)) Sz24 ⟨by decide, by decide⟩
    have at24 : cl24.slots[((0 : Int32)).toNatClampNeg]? = some (.int (0 : Int32)) := Hs24.at in24 rfl
    refine own_via (fun t kz => X23.iaload hx (j := (0 : Int32)) (v := (.int (0 : Int32))) (by rw [e23]; exact Ar24.1) (State.isArrayOf_alike hZ.alike Ar24.2.1) Ar24.2.2 in24 at24 (g := (mkF m 15 #[oR this, oI (0 : Int32), .unset, .unset] [(.int (0 : Int32)), (.ref ata)])) rfl rfl (hb hby d4_15) t kz) ?_
    show own_Go p e below _ (T23.setTop (mkF m 16 #[oR this, oI (0 : Int32), .unset, .unset] [(.int (0 : Int32))]))
    refine own_via (fun t kz => XS.istoreN X23.here hx rfl (hb hby d4_16) rfl (l' := #[oR this, oI (0 : Int32), oI (0 : Int32), .unset]) rfl kz) ?_
    show own_Go p e below _ (T23.setTop (mkF m 17 #[oR this, oI (0 : Int32), oI (0 : Int32), .unset] []))
    refine own_via (fun t kz => XS.iconst X23.here hx rfl (hb hby d4_17) kz) ?_
    show own_Go p e below _ (T23.setTop (mkF m 18 #[oR this, oI (0 : Int32), oI (0 : Int32), .unset] [(.int (0 : Int32))]))
    refine own_via (fun t kz => XS.istoreN X23.here hx rfl (hb hby d4_18) rfl (l' := #[oR this, oI (0 : Int32), oI (0 : Int32), oI (0 : Int32)]) rfl kz) ?_
    have hT25 : own_TC Z h0 n0 this (own_mk wm00 wm01 (0 : Int32) (0 : Int32) (0 : Int32) wt1 ws00 ws01 ws10 ws11 wc0 (0 : Int32) (1 : Int32)) := ⟨amo, am0, am1, ata, aso, as0, as1, aca, ck1, ck2, ck3, ck4, ck5, ck6, ck7, ck8, ⟨by omega, by omega, by omega, by omega, by omega, by omega, by omega, by omega, by omega⟩, Eq, Fo0, Fo1, Fo2, Fo3, Fo4, Vo0, Vo1, Vo2, Vo3, Vo4, Vo5, Vo6, Vo7⟩
    obtain ⟨B25, st25, T25, h25, lc25, rfl, X25, e25, N25, Zs25, TC25⟩ := own_in0 this (0 : Int32) wm00 wm01 (0 : Int32) (0 : Int32) (0 : Int32) wt1 ws00 ws01 ws10 ws11 wc0 (0 : Int32) (1 : Int32) X23 hx hZ hw hby hml hown e23 N0 Z0 hT25 hr0
    refine own_via st25 ?_
    obtain ⟨amo, am0, am1, ata, aso, as0, as1, aca, ck1, ck2, ck3, ck4, ck5, ck6, ck7, ck8, ⟨ch0, ch1, ch2, ch3, ch4, ch5, ch6, ch7, ch8⟩, Eq, Fq0, Fq1, Fq2, Fq3, Fq4, Vq0, Vq1, Vq2, Vq3, Vq4, Vq5, Vq6, Vq7⟩ := TC25
    have Fo0 : Fld Z h25 this "com/example/matchloom/matchloom/league/TouchedCells" "marked" "[[Z" (.ref amo) := Fq0
    have Fo1 : Fld Z h25 this "com/example/matchloom/matchloom/league/TouchedCells" "teams" "[I" (.ref ata) := Fq1
    have Fo2 : Fld Z h25 this "com/example/matchloom/matchloom/league/TouchedCells" "slots" "[[I" (.ref aso) := Fq2
    have Fo3 : Fld Z h25 this "com/example/matchloom/matchloom/league/TouchedCells" "slotCount" "[I" (.ref aca) := Fq3
    have Fo4 : Fld Z h25 this "com/example/matchloom/matchloom/league/TouchedCells" "teamCount" "I" (.int (1 : Int32)) := Fq4
    have Vo0 : Arv Z h25 amo ck1 (.array .boolean) (2 : Int32) [(.ref am0), (.ref am1)] .null := Vq0
    have Vo1 : Arv Z h25 am0 ck2 .boolean (2 : Int32) [(.int (0 : Int32)), (.int (0 : Int32))] (.int (0 : Int32)) := Vq1
    have Vo2 : Arv Z h25 am1 ck3 .boolean (2 : Int32) [(.int (0 : Int32)), (.int (0 : Int32))] (.int (0 : Int32)) := Vq2
    have Vo3 : Arv Z h25 ata ck4 .int (2 : Int32) [(.int (0 : Int32)), (.int wt1)] (.int (0 : Int32)) := Vq3
    have Vo4 : Arv Z h25 aso ck5 (.array .int) (2 : Int32) [(.ref as0), (.ref as1)] .null := Vq4
    have Vo5 : Arv Z h25 as0 ck6 .int (2 : Int32) [(.int ws00), (.int ws01)] (.int (0 : Int32)) := Vq5
    have Vo6 : Arv Z h25 as1 ck7 .int (2 : Int32) [(.int ws10), (.int ws11)] (.int (0 : Int32)) := Vq6
    have Vo7 : Arv Z h25 aca ck8 .int (2 : Int32) [(.int wc0), (.int (0 : Int32))] (.int (0 : Int32)) := Vq7
    show own_Go p e below _ (T25.setTop (mkF m 51 #[oR this, oI (0 : Int32), oI (0 : Int32), oI wc0] []))
    refine own_via (fun t kz => XS.aloadN X25.here hx rfl (hb hby d4_51) rfl rfl kz) ?_
    show own_Go p e below _ (T25.setTop (mkF m 52 #[oR this, oI (0 : Int32), oI (0 : Int32), oI wc0] [(.ref this)]))
    obtain ⟨T27, X27, e27, st27⟩ := getF X25 hx hZ hown (host := "") (Or.inl (own_w hw 21)) Via.refl e25 Fo3 (g := (mkF m 52 #[oR this, oI (0 : Int32), oI (0 : Int32), oI wc0] [(.ref this)])) rfl rfl (hb hby d4_52)
    refine own_via st27 ?_
    show own_Go p e below _ (T27.setTop (mkF m 55 #[oR this, oI (0 : Int32), oI (0 : Int32), oI wc0] [(.ref aca)]))
    refine own_via (fun t kz => XS.iloadN X27.here hx rfl (hb hby d4_55) rfl kz) ?_
    show own_Go p e below _ (T27.setTop (mkF m 56 #[oR this, oI (0 : Int32), oI (0 : Int32), oI wc0] [(.int (0 : Int32)), (.ref aca)]))
    refine own_via (fun t kz => XS.iconst X27.here hx rfl (hb hby d4_56) kz) ?_
    show own_Go p e below _ (T27.setTop (mkF m 57 #[oR this, oI (0 : Int32), oI (0 : Int32), oI wc0] [(.int (0 : Int32)), (.int (0 : Int32)), (.ref aca)]))
    obtain ⟨cl28, Ar28, kc28, Sz28, Nn28, Hs28, Gs28⟩ := id Vo7
    obtain ⟨T28, h28, X28, e28, W28, st28⟩ := stI X27 hx hZ e27 Ar28 (j := (0 : Int32)) (inb_of Sz28 ⟨by decide, by decide⟩) (g := (mkF m 57 #[oR this, oI (0 : Int32), oI (0 : Int32), oI wc0] [(.int (0 : Int32)), (.int (0 : Int32)), (.ref aca)])) rfl rfl (hb hby d4_57)
    refine own_via st28 ?_
    have E29 := Eq.wr W28
    have F30 := Fo0.other W28 (Or.inl (own_neq (by omega)))
    have F31 := Fo1.other W28 (Or.inl (own_neq (by omega)))
    have F32 := Fo2.other W28 (Or.inl (own_neq (by omega)))
    have F33 := Fo3.other W28 (Or.inl (own_neq (by omega)))
    have F34 := Fo4.other W28 (Or.inl (own_neq (by omega)))
    have V35 := Vo0.other W28 (own_neq (by omega))
    have V36 := Vo1.other W28 (own_neq (by omega))
    have V37 := Vo2.other W28 (own_neq (by omega))
    have V38 := Vo3.other W28 (own_neq (by omega))
    have V39 := Vo4.other W28 (own_neq (by omega))
    have V40 := Vo5.other W28 (own_neq (by omega))
    have V41 := Vo6.other W28 (own_neq (by omega))
    have Zs42 : n0 ≤ h28.size := Nat.le_trans Zs25 (Keep.of_wr W28).1
    have N43 := Fr.snoc X28 N25 (show n0 ≤ aca by omega)
    have V44 : Arv Z h28 aca ck8 .int (2 : Int32) [(.int (0 : Int32)), (.int (0 : Int32))] (.int (0 : Int32)) := Arv.set Ar28 kc28 Sz28 Nn28 Hs28 Gs28 rfl W28 0 (by first | decide | (show 0 < 2; decide)) (by first | decide | (show 0 < 2; decide))
    show own_Go p e below _ (T28.setTop (mkF m 58 #[oR this, oI (0 : Int32), oI (0 : Int32), oI wc0] []))
    refine own_via (fun t kz => XS.iinc X28.here hx rfl (hb hby d4_58) rfl (l' := #[oR this, oI (1 : Int32), oI (0 : Int32), oI wc0]) rfl kz) ?_
    show own_Go p e below _ (T28.setTop (mkF m 61 #[oR this, oI (1 : Int32), oI (0 : Int32), oI wc0] []))
    refine own_via (fun t kz => XS.goto X28.here hx rfl (pc0 := 61) (pc' := 2) rfl (hb hby d4_61) (by decide) (by decide) kz) ?_
    show own_Go p e below _ (T28.setTop (mkF m 2 #[oR this, oI (1 : Int32), oI (0 : Int32), oI wc0] []))
    refine own_via (fun t kz => XS.iloadN X28.here hx rfl (hb hby d4_2) rfl kz) ?_
    show own_Go p e below _ (T28.setTop (mkF m 3 #[oR this, oI (1 : Int32), oI (0 : Int32), oI wc0] [(.int (1 : Int32))]))
    refine own_via (fun t kz => XS.aloadN X28.here hx rfl (hb hby d4_3) rfl rfl kz) ?_
    show own_Go p e below _ (T28.setTop (mkF m 4 #[oR this, oI (1 : Int32), oI (0 : Int32), oI wc0] [(.ref this), (.int (1 : Int32))]))
    obtain ⟨T45, X45, e45, st45⟩ := getF X28 hx hZ hown (host := "") (Or.inl (own_w hw 28)) Via.refl e28 F34 (g := (mkF m 4 #[oR this, oI (1 : Int32), oI (0 : Int32), oI wc0] [(.ref this), (.int (1 : Int32))])) rfl rfl (hb hby d4_4)
    refine own_via st45 ?_
    show own_Go p e below _ (T45.setTop (mkF m 7 #[oR this, oI (1 : Int32), oI (0 : Int32), oI wc0] [(.int (1 : Int32)), (.int (1 : Int32))]))
    refine own_via (fun t kz => XS.icmpYes X45.here hx rfl (pc0 := 7) (pc' := 64) rfl (hb hby d4_7) rfl (flt (by decide : ¬ ((1 : Int32) < (1 : Int32)))).2.1 (by decide) (by decide) kz) ?_
    show own_Go p e below _ (T45.setTop (mkF m 64 #[oR this, oI (1 : Int32), oI (0 : Int32), oI wc0] []))
    refine own_via (fun t kz => XS.aloadN X45.here hx rfl (hb hby d4_64) rfl rfl kz) ?_
    show own_Go p e below _ (T45.setTop (mkF m 65 #[oR this, oI (1 : Int32), oI (0 : Int32), oI wc0] [(.ref this)]))
    refine own_via (fun t kz => XS.iconst X45.here hx rfl (hb hby d4_65) kz) ?_
    show own_Go p e below _ (T45.setTop (mkF m 66 #[oR this, oI (1 : Int32), oI (0 : Int32), oI wc0] [(.int (0 : Int32)), (.ref this)]))
    obtain ⟨T46, h46, X46, e46, W46, st46⟩ := putF X45 hx hZ hown (host := "") (Or.inl (own_w hw 28)) Via.refl e45 F34 E29 (Or.inl (own_w hw 29)) (own_w hw 1) (ty := .int) (by decide) rfl rfl (g := (mkF m 66 #[oR this, oI (1 : Int32), oI (0 : Int32), oI wc0] [(.int (0 : Int32)), (.ref this)])) rfl rfl (hb hby d4_66)
    refine own_via st46 ?_
    have E47 := E29.wr W46
    have F48 := F30.other W46 (Or.inr (slot_ne (Or.inr (own_w hw 13)) (Or.inl (own_w hw 29)) (by decide) (t := (.array (.array .boolean))) (t' := .int) (by decide) (by decide)))
    have F49 := F31.other W46 (Or.inr (slot_ne (Or.inr (own_w hw 16)) (Or.inl (own_w hw 29)) (by decide) (t := (.array .int)) (t' := .int) (by decide) (by decide)))
    have F50 := F32.other W46 (Or.inr (slot_ne (Or.inr (own_w hw 20)) (Or.inl (own_w hw 29)) (by decide) (t := (.array (.array .int))) (t' := .int) (by decide) (by decide)))
    have F51 := F33.other W46 (Or.inr (slot_ne (Or.inr (own_w hw 22)) (Or.inl (own_w hw 29)) (by decide) (t := (.array .int)) (t' := .int) (by decide) (by decide)))
    have F52 := F34.same W46
    have V53 := V35.other W46 (own_neq (by omega))
    have V54 := V36.other W46 (own_neq (by omega))
    have V55 := V37.other W46 (own_neq (by omega))
    have V56 := V38.other W46 (own_neq (by omega))
    have V57 := V39.other W46 (own_neq (by omega))
    have V58 := V40.other W46 (own_neq (by omega))
    have V59 := V41.other W46 (own_neq (by omega))
    have V60 := V44.other W46 (own_neq (by omega))
    have Zs61 : n0 ≤ h46.size := Nat.le_trans Zs42 (Keep.of_wr W46).1
    have N62 := Fr.snoc X46 N43 (show n0 ≤ this by omega)
    show own_Go p e below _ (T46.setTop (mkF m 69 #[oR this, oI (1 : Int32), oI (0 : Int32), oI wc0] []))
    have hT : own_TC Z h46 n0 this (own_mk (0 : Int32) (0 : Int32) (0 : Int32) (0 : Int32) (0 : Int32) wt1 ws00 ws01 ws10 ws11 (0 : Int32) (0 : Int32) (0 : Int32)) := ⟨amo, am0, am1, ata, aso, as0, as1, aca, ck1, ck2, ck3, ck4, ck5, ck6, ck7, ck8, ⟨by omega, by omega, by omega, by omega, by omega, by omega, by omega, by omega, by omega⟩, E47, F48, F49, F50, F51, F52, V53, V54, V55, V56, V57, V58, V59, V60⟩
    obtain ⟨fs, hr, hrun, hended, hW, hsame⟩ := X46.leave (v := none) (fun _ => rfl)
    refine ⟨_, _, X46.returnOut hx Bd.returns (hb hby d4_69) hr, hrun, hended, _, _, rfl, ?_, ⟨_, rfl⟩, hW, hsame.mono (by decide) (by decide)⟩
    show Q4 Z this wm00 wm01 (0 : Int32) (0 : Int32) (0 : Int32) wt1 ws00 ws01 ws10 ws11 wc0 (0 : Int32) (1 : Int32) h0 n0 _ T46.heap _
    rw [e46]
    exact ⟨rfl, N62, Zs61, _, _, _, _, _, _, hT⟩
  · obtain ⟨rfl, rfl⟩ := own_row0 hr0
    obtain ⟨amo, am0, am1, ata, aso, as0, as1, aca, ck1, ck2, ck3, ck4, ck5, ck6, ck7, ck8, ⟨ch0, ch1, ch2, ch3, ch4, ch5, ch6, ch7, ch8⟩, Eq, Fq0, Fq1, Fq2, Fq3, Fq4, Vq0, Vq1, Vq2, Vq3, Vq4, Vq5, Vq6, Vq7⟩ := TC
    have Fo0 : Fld Z h0 this "com/example/matchloom/matchloom/league/TouchedCells" "marked" "[[Z" (.ref amo) := Fq0
    have Fo1 : Fld Z h0 this "com/example/matchloom/matchloom/league/TouchedCells" "teams" "[I" (.ref ata) := Fq1
    have Fo2 : Fld Z h0 this "com/example/matchloom/matchloom/league/TouchedCells" "slots" "[[I" (.ref aso) := Fq2
    have Fo3 : Fld Z h0 this "com/example/matchloom/matchloom/league/TouchedCells" "slotCount" "[I" (.ref aca) := Fq3
    have Fo4 : Fld Z h0 this "com/example/matchloom/matchloom/league/TouchedCells" "teamCount" "I" (.int (1 : Int32)) := Fq4
    have Vo0 : Arv Z h0 amo ck1 (.array .boolean) (2 : Int32) [(.ref am0), (.ref am1)] .null := Vq0
    have Vo1 : Arv Z h0 am0 ck2 .boolean (2 : Int32) [(.int (0 : Int32)), (.int (0 : Int32))] (.int (0 : Int32)) := Vq1
    have Vo2 : Arv Z h0 am1 ck3 .boolean (2 : Int32) [(.int wm10), (.int wm11)] (.int (0 : Int32)) := Vq2
    have Vo3 : Arv Z h0 ata ck4 .int (2 : Int32) [(.int (1 : Int32)), (.int wt1)] (.int (0 : Int32)) := Vq3
    have Vo4 : Arv Z h0 aso ck5 (.array .int) (2 : Int32) [(.ref as0), (.ref as1)] .null := Vq4
    have Vo5 : Arv Z h0 as0 ck6 .int (2 : Int32) [(.int ws00), (.int ws01)] (.int (0 : Int32)) := Vq5
    have Vo6 : Arv Z h0 as1 ck7 .int (2 : Int32) [(.int ws10), (.int ws11)] (.int (0 : Int32)) := Vq6
    have Vo7 : Arv Z h0 aca ck8 .int (2 : Int32) [(.int (0 : Int32)), (.int wc1)] (.int (0 : Int32)) := Vq7
    show own_Go p e below _ (s₁.setTop (mkF m 0 #[oR this, .unset, .unset, .unset] []))
    refine own_via (fun t kz => XS.iconst X0.here hx rfl (hb hby d4_0) kz) ?_
    show own_Go p e below _ (s₁.setTop (mkF m 1 #[oR this, .unset, .unset, .unset] [(.int (0 : Int32))]))
    refine own_via (fun t kz => XS.istoreN X0.here hx rfl (hb hby d4_1) rfl (l' := #[oR this, oI (0 : Int32), .unset, .unset]) rfl kz) ?_
    show own_Go p e below _ (s₁.setTop (mkF m 2 #[oR this, oI (0 : Int32), .unset, .unset] []))
    refine own_via (fun t kz => XS.iloadN X0.here hx rfl (hb hby d4_2) rfl kz) ?_
    show own_Go p e below _ (s₁.setTop (mkF m 3 #[oR this, oI (0 : Int32), .unset, .unset] [(.int (0 : Int32))]))
    refine own_via (fun t kz => XS.aloadN X0.here hx rfl (hb hby d4_3) rfl rfl kz) ?_
    show own_Go p e below _ (s₁.setTop (mkF m 4 #[oR this, oI (0 : Int32), .unset, .unset] [(.ref this), (.int (0 : Int32))]))
    obtain ⟨T65, X65, e65, st65⟩ := getF X0 hx hZ hown (host := "") (Or.inl (own_w hw 28)) Via.refl e0 Fo4 (g := (mkF m 4 #[oR this, oI (0 : Int32), .unset, .unset] [(.ref this), (.int (0 : Int32))])) rfl rfl (hb hby d4_4)
    refine own_via st65 ?_
    show own_Go p e below _ (T65.setTop (mkF m 7 #[oR this, oI (0 : Int32), .unset, .unset] [(.int (1 : Int32)), (.int (0 : Int32))]))
    refine own_via (fun t kz => XS.icmpNo X65.here hx rfl (hb hby d4_7) rfl (tlt (by decide : (0 : Int32) < (1 : Int32))).2.1 kz) ?_
    show own_Go p e below _ (T65.setTop (mkF m 10 #[oR this, oI (0 : Int32), .unset, .unset] []))
    refine own_via (fun t kz => XS.aloadN X65.here hx rfl (hb hby d4_10) rfl rfl kz) ?_
    show own_Go p e below _ (T65.setTop (mkF m 11 #[oR this, oI (0 : Int32), .unset, .unset] [(.ref this)]))
    obtain ⟨T66, X66, e66, st66⟩ := getF X65 hx hZ hown (host := "") (Or.inl (own_w hw 15)) Via.refl e65 Fo1 (g := (mkF m 11 #[oR this, oI (0 : Int32), .unset, .unset] [(.ref this)])) rfl rfl (hb hby d4_11)
    refine own_via st66 ?_
    show own_Go p e below _ (T66.setTop (mkF m 14 #[oR this, oI (0 : Int32), .unset, .unset] [(.ref ata)]))
    refine own_via (fun t kz => XS.iloadN X66.here hx rfl (hb hby d4_14) rfl kz) ?_
    show own_Go p e below _ (T66.setTop (mkF m 15 #[oR this, oI (0 : Int32), .unset, .unset] [(.int (0 : Int32)), (.ref ata)]))
    obtain ⟨cl67, Ar67, kc67, Sz67, Nn67, Hs67, Gs67⟩ := id Vo3
    have in67 := inb_of (j := (0 : Int32)) Sz67 ⟨by decide, by decide⟩
    have at67 : cl67.slots[((0 : Int32)).toNatClampNeg]? = some (.int (1 : Int32)) := Hs67.at in67 rfl
    refine own_via (fun t kz => X66.iaload hx (j := (0 : Int32)) (v := (.int (1 : Int32))) (by rw [e66]; exact Ar67.1) (State.isArrayOf_alike hZ.alike Ar67.2.1) Ar67.2.2 in67 at67 (g := (mkF m 15 #[oR this, oI (0 : Int32), .unset, .unset] [(.int (0 : Int32)), (.ref ata)])) rfl rfl (hb hby d4_15) t kz) ?_
    show own_Go p e below _ (T66.setTop (mkF m 16 #[oR this, oI (0 : Int32), .unset, .unset] [(.int (1 : Int32))]))
    refine own_via (fun t kz => XS.istoreN X66.here hx rfl (hb hby d4_16) rfl (l' := #[oR this, oI (0 : Int32), oI (1 : Int32), .unset]) rfl kz) ?_
    show own_Go p e below _ (T66.setTop (mkF m 17 #[oR this, oI (0 : Int32), oI (1 : Int32), .unset] []))
    refine own_via (fun t kz => XS.iconst X66.here hx rfl (hb hby d4_17) kz) ?_
    show own_Go p e below _ (T66.setTop (mkF m 18 #[oR this, oI (0 : Int32), oI (1 : Int32), .unset] [(.int (0 : Int32))]))
    refine own_via (fun t kz => XS.istoreN X66.here hx rfl (hb hby d4_18) rfl (l' := #[oR this, oI (0 : Int32), oI (1 : Int32), oI (0 : Int32)]) rfl kz) ?_
    have hT68 : own_TC Z h0 n0 this (own_mk (0 : Int32) (0 : Int32) wm10 wm11 (1 : Int32) wt1 ws00 ws01 ws10 ws11 (0 : Int32) wc1 (1 : Int32)) := ⟨amo, am0, am1, ata, aso, as0, as1, aca, ck1, ck2, ck3, ck4, ck5, ck6, ck7, ck8, ⟨by omega, by omega, by omega, by omega, by omega, by omega, by omega, by omega, by omega⟩, Eq, Fo0, Fo1, Fo2, Fo3, Fo4, Vo0, Vo1, Vo2, Vo3, Vo4, Vo5, Vo6, Vo7⟩
    obtain ⟨B68, st68, T68, h68, lc68, rfl, X68, e68, N68, Zs68, TC68⟩ := own_in1 this (0 : Int32) (0 : Int32) (0 : Int32) wm10 wm11 (1 : Int32) wt1 ws00 ws01 ws10 ws11 (0 : Int32) wc1 (1 : Int32) X66 hx hZ hw hby hml hown e66 N0 Z0 hT68 hr1
    refine own_via st68 ?_
    obtain ⟨amo, am0, am1, ata, aso, as0, as1, aca, ck1, ck2, ck3, ck4, ck5, ck6, ck7, ck8, ⟨ch0, ch1, ch2, ch3, ch4, ch5, ch6, ch7, ch8⟩, Eq, Fq0, Fq1, Fq2, Fq3, Fq4, Vq0, Vq1, Vq2, Vq3, Vq4, Vq5, Vq6, Vq7⟩ := TC68
    have Fo0 : Fld Z h68 this "com/example/matchloom/matchloom/league/TouchedCells" "marked" "[[Z" (.ref amo) := Fq0
    have Fo1 : Fld Z h68 this "com/example/matchloom/matchloom/league/TouchedCells" "teams" "[I" (.ref ata) := Fq1
    have Fo2 : Fld Z h68 this "com/example/matchloom/matchloom/league/TouchedCells" "slots" "[[I" (.ref aso) := Fq2
    have Fo3 : Fld Z h68 this "com/example/matchloom/matchloom/league/TouchedCells" "slotCount" "[I" (.ref aca) := Fq3
    have Fo4 : Fld Z h68 this "com/example/matchloom/matchloom/league/TouchedCells" "teamCount" "I" (.int (1 : Int32)) := Fq4
    have Vo0 : Arv Z h68 amo ck1 (.array .boolean) (2 : Int32) [(.ref am0), (.ref am1)] .null := Vq0
    have Vo1 : Arv Z h68 am0 ck2 .boolean (2 : Int32) [(.int (0 : Int32)), (.int (0 : Int32))] (.int (0 : Int32)) := Vq1
    have Vo2 : Arv Z h68 am1 ck3 .boolean (2 : Int32) [(.int (0 : Int32)), (.int (0 : Int32))] (.int (0 : Int32)) := Vq2
    have Vo3 : Arv Z h68 ata ck4 .int (2 : Int32) [(.int (1 : Int32)), (.int wt1)] (.int (0 : Int32)) := Vq3
    have Vo4 : Arv Z h68 aso ck5 (.array .int) (2 : Int32) [(.ref as0), (.ref as1)] .null := Vq4
    have Vo5 : Arv Z h68 as0 ck6 .int (2 : Int32) [(.int ws00), (.int ws01)] (.int (0 : Int32)) := Vq5
    have Vo6 : Arv Z h68 as1 ck7 .int (2 : Int32) [(.int ws10), (.int ws11)] (.int (0 : Int32)) := Vq6
    have Vo7 : Arv Z h68 aca ck8 .int (2 : Int32) [(.int (0 : Int32)), (.int wc1)] (.int (0 : Int32)) := Vq7
    show own_Go p e below _ (T68.setTop (mkF m 51 #[oR this, oI (0 : Int32), oI (1 : Int32), oI wc1] []))
    refine own_via (fun t kz => XS.aloadN X68.here hx rfl (hb hby d4_51) rfl rfl kz) ?_
    show own_Go p e below _ (T68.setTop (mkF m 52 #[oR this, oI (0 : Int32), oI (1 : Int32), oI wc1] [(.ref this)]))
    obtain ⟨T70, X70, e70, st70⟩ := getF X68 hx hZ hown (host := "") (Or.inl (own_w hw 21)) Via.refl e68 Fo3 (g := (mkF m 52 #[oR this, oI (0 : Int32), oI (1 : Int32), oI wc1] [(.ref this)])) rfl rfl (hb hby d4_52)
    refine own_via st70 ?_
    show own_Go p e below _ (T70.setTop (mkF m 55 #[oR this, oI (0 : Int32), oI (1 : Int32), oI wc1] [(.ref aca)]))
    refine own_via (fun t kz => XS.iloadN X70.here hx rfl (hb hby d4_55) rfl kz) ?_
    show own_Go p e below _ (T70.setTop (mkF m 56 #[oR this, oI (0 : Int32), oI (1 : Int32), oI wc1] [(.int (1 : Int32)), (.ref aca)]))
    refine own_via (fun t kz => XS.iconst X70.here hx rfl (hb hby d4_56) kz) ?_
    show own_Go p e below _ (T70.setTop (mkF m 57 #[oR this, oI (0 : Int32), oI (1 : Int32), oI wc1] [(.int (0 : Int32)), (.int (1 : Int32)), (.ref aca)]))
    obtain ⟨cl71, Ar71, kc71, Sz71, Nn71, Hs71, Gs71⟩ := id Vo7
    obtain ⟨T71, h71, X71, e71, W71, st71⟩ := stI X70 hx hZ e70 Ar71 (j := (1 : Int32)) (inb_of Sz71 ⟨by decide, by decide⟩) (g := (mkF m 57 #[oR this, oI (0 : Int32), oI (1 : Int32), oI wc1] [(.int (0 : Int32)), (.int (1 : Int32)), (.ref aca)])) rfl rfl (hb hby d4_57)
    refine own_via st71 ?_
    have E72 := Eq.wr W71
    have F73 := Fo0.other W71 (Or.inl (own_neq (by omega)))
    have F74 := Fo1.other W71 (Or.inl (own_neq (by omega)))
    have F75 := Fo2.other W71 (Or.inl (own_neq (by omega)))
    have F76 := Fo3.other W71 (Or.inl (own_neq (by omega)))
    have F77 := Fo4.other W71 (Or.inl (own_neq (by omega)))
    have V78 := Vo0.other W71 (own_neq (by omega))
    have V79 := Vo1.other W71 (own_neq (by omega))
    have V80 := Vo2.other W71 (own_neq (by omega))
    have V81 := Vo3.other W71 (own_neq (by omega))
    have V82 := Vo4.other W71 (own_neq (by omega))
    have V83 := Vo5.other W71 (own_neq (by omega))
    have V84 := Vo6.other W71 (own_neq (by omega))
    have Zs85 : n0 ≤ h71.size := Nat.le_trans Zs68 (Keep.of_wr W71).1
    have N86 := Fr.snoc X71 N68 (show n0 ≤ aca by omega)
    have V87 : Arv Z h71 aca ck8 .int (2 : Int32) [(.int (0 : Int32)), (.int (0 : Int32))] (.int (0 : Int32)) := Arv.set Ar71 kc71 Sz71 Nn71 Hs71 Gs71 rfl W71 1 (by first | decide | (show 1 < 2; decide)) (by first | decide | (show 1 < 2; decide))
    show own_Go p e below _ (T71.setTop (mkF m 58 #[oR this, oI (0 : Int32), oI (1 : Int32), oI wc1] []))
    refine own_via (fun t kz => XS.iinc X71.here hx rfl (hb hby d4_58) rfl (l' := #[oR this, oI (1 : Int32), oI (1 : Int32), oI wc1]) rfl kz) ?_
    show own_Go p e below _ (T71.setTop (mkF m 61 #[oR this, oI (1 : Int32), oI (1 : Int32), oI wc1] []))
    refine own_via (fun t kz => XS.goto X71.here hx rfl (pc0 := 61) (pc' := 2) rfl (hb hby d4_61) (by decide) (by decide) kz) ?_
    show own_Go p e below _ (T71.setTop (mkF m 2 #[oR this, oI (1 : Int32), oI (1 : Int32), oI wc1] []))
    refine own_via (fun t kz => XS.iloadN X71.here hx rfl (hb hby d4_2) rfl kz) ?_
    show own_Go p e below _ (T71.setTop (mkF m 3 #[oR this, oI (1 : Int32), oI (1 : Int32), oI wc1] [(.int (1 : Int32))]))
    refine own_via (fun t kz => XS.aloadN X71.here hx rfl (hb hby d4_3) rfl rfl kz) ?_
    show own_Go p e below _ (T71.setTop (mkF m 4 #[oR this, oI (1 : Int32), oI (1 : Int32), oI wc1] [(.ref this), (.int (1 : Int32))]))
    obtain ⟨T88, X88, e88, st88⟩ := getF X71 hx hZ hown (host := "") (Or.inl (own_w hw 28)) Via.refl e71 F77 (g := (mkF m 4 #[oR this, oI (1 : Int32), oI (1 : Int32), oI wc1] [(.ref this), (.int (1 : Int32))])) rfl rfl (hb hby d4_4)
    refine own_via st88 ?_
    show own_Go p e below _ (T88.setTop (mkF m 7 #[oR this, oI (1 : Int32), oI (1 : Int32), oI wc1] [(.int (1 : Int32)), (.int (1 : Int32))]))
    refine own_via (fun t kz => XS.icmpYes X88.here hx rfl (pc0 := 7) (pc' := 64) rfl (hb hby d4_7) rfl (flt (by decide : ¬ ((1 : Int32) < (1 : Int32)))).2.1 (by decide) (by decide) kz) ?_
    show own_Go p e below _ (T88.setTop (mkF m 64 #[oR this, oI (1 : Int32), oI (1 : Int32), oI wc1] []))
    refine own_via (fun t kz => XS.aloadN X88.here hx rfl (hb hby d4_64) rfl rfl kz) ?_
    show own_Go p e below _ (T88.setTop (mkF m 65 #[oR this, oI (1 : Int32), oI (1 : Int32), oI wc1] [(.ref this)]))
    refine own_via (fun t kz => XS.iconst X88.here hx rfl (hb hby d4_65) kz) ?_
    show own_Go p e below _ (T88.setTop (mkF m 66 #[oR this, oI (1 : Int32), oI (1 : Int32), oI wc1] [(.int (0 : Int32)), (.ref this)]))
    obtain ⟨T89, h89, X89, e89, W89, st89⟩ := putF X88 hx hZ hown (host := "") (Or.inl (own_w hw 28)) Via.refl e88 F77 E72 (Or.inl (own_w hw 29)) (own_w hw 1) (ty := .int) (by decide) rfl rfl (g := (mkF m 66 #[oR this, oI (1 : Int32), oI (1 : Int32), oI wc1] [(.int (0 : Int32)), (.ref this)])) rfl rfl (hb hby d4_66)
    refine own_via st89 ?_
    have E90 := E72.wr W89
    have F91 := F73.other W89 (Or.inr (slot_ne (Or.inr (own_w hw 13)) (Or.inl (own_w hw 29)) (by decide) (t := (.array (.array .boolean))) (t' := .int) (by decide) (by decide)))
    have F92 := F74.other W89 (Or.inr (slot_ne (Or.inr (own_w hw 16)) (Or.inl (own_w hw 29)) (by decide) (t := (.array .int)) (t' := .int) (by decide) (by decide)))
    have F93 := F75.other W89 (Or.inr (slot_ne (Or.inr (own_w hw 20)) (Or.inl (own_w hw 29)) (by decide) (t := (.array (.array .int))) (t' := .int) (by decide) (by decide)))
    have F94 := F76.other W89 (Or.inr (slot_ne (Or.inr (own_w hw 22)) (Or.inl (own_w hw 29)) (by decide) (t := (.array .int)) (t' := .int) (by decide) (by decide)))
    have F95 := F77.same W89
    have V96 := V78.other W89 (own_neq (by omega))
    have V97 := V79.other W89 (own_neq (by omega))
    have V98 := V80.other W89 (own_neq (by omega))
    have V99 := V81.other W89 (own_neq (by omega))
    have V100 := V82.other W89 (own_neq (by omega))
    have V101 := V83.other W89 (own_neq (by omega))
    have V102 := V84.other W89 (own_neq (by omega))
    have V103 := V87.other W89 (own_neq (by omega))
    have Zs104 : n0 ≤ h89.size := Nat.le_trans Zs85 (Keep.of_wr W89).1
    have N105 := Fr.snoc X89 N86 (show n0 ≤ this by omega)
    show own_Go p e below _ (T89.setTop (mkF m 69 #[oR this, oI (1 : Int32), oI (1 : Int32), oI wc1] []))
    have hT : own_TC Z h89 n0 this (own_mk (0 : Int32) (0 : Int32) (0 : Int32) (0 : Int32) (1 : Int32) wt1 ws00 ws01 ws10 ws11 (0 : Int32) (0 : Int32) (0 : Int32)) := ⟨amo, am0, am1, ata, aso, as0, as1, aca, ck1, ck2, ck3, ck4, ck5, ck6, ck7, ck8, ⟨by omega, by omega, by omega, by omega, by omega, by omega, by omega, by omega, by omega⟩, E90, F91, F92, F93, F94, F95, V96, V97, V98, V99, V100, V101, V102, V103⟩
    obtain ⟨fs, hr, hrun, hended, hW, hsame⟩ := X89.leave (v := none) (fun _ => rfl)
    refine ⟨_, _, X89.returnOut hx Bd.returns (hb hby d4_69) hr, hrun, hended, _, _, rfl, ?_, ⟨_, rfl⟩, hW, hsame.mono (by decide) (by decide)⟩
    show Q4 Z this (0 : Int32) (0 : Int32) wm10 wm11 (1 : Int32) wt1 ws00 ws01 ws10 ws11 (0 : Int32) wc1 (1 : Int32) h0 n0 _ T89.heap _
    rw [e89]
    exact ⟨rfl, N105, Zs104, _, _, _, _, _, _, hT⟩
  · obtain ⟨amo, am0, am1, ata, aso, as0, as1, aca, ck1, ck2, ck3, ck4, ck5, ck6, ck7, ck8, ⟨ch0, ch1, ch2, ch3, ch4, ch5, ch6, ch7, ch8⟩, Eq, Fq0, Fq1, Fq2, Fq3, Fq4, Vq0, Vq1, Vq2, Vq3, Vq4, Vq5, Vq6, Vq7⟩ := TC
    have Fo0 : Fld Z h0 this "com/example/matchloom/matchloom/league/TouchedCells" "marked" "[[Z" (.ref amo) := Fq0
    have Fo1 : Fld Z h0 this "com/example/matchloom/matchloom/league/TouchedCells" "teams" "[I" (.ref ata) := Fq1
    have Fo2 : Fld Z h0 this "com/example/matchloom/matchloom/league/TouchedCells" "slots" "[[I" (.ref aso) := Fq2
    have Fo3 : Fld Z h0 this "com/example/matchloom/matchloom/league/TouchedCells" "slotCount" "[I" (.ref aca) := Fq3
    have Fo4 : Fld Z h0 this "com/example/matchloom/matchloom/league/TouchedCells" "teamCount" "I" (.int (2 : Int32)) := Fq4
    have Vo0 : Arv Z h0 amo ck1 (.array .boolean) (2 : Int32) [(.ref am0), (.ref am1)] .null := Vq0
    have Vo1 : Arv Z h0 am0 ck2 .boolean (2 : Int32) [(.int wm00), (.int wm01)] (.int (0 : Int32)) := Vq1
    have Vo2 : Arv Z h0 am1 ck3 .boolean (2 : Int32) [(.int wm10), (.int wm11)] (.int (0 : Int32)) := Vq2
    have Vo3 : Arv Z h0 ata ck4 .int (2 : Int32) [(.int (0 : Int32)), (.int (1 : Int32))] (.int (0 : Int32)) := Vq3
    have Vo4 : Arv Z h0 aso ck5 (.array .int) (2 : Int32) [(.ref as0), (.ref as1)] .null := Vq4
    have Vo5 : Arv Z h0 as0 ck6 .int (2 : Int32) [(.int ws00), (.int ws01)] (.int (0 : Int32)) := Vq5
    have Vo6 : Arv Z h0 as1 ck7 .int (2 : Int32) [(.int ws10), (.int ws11)] (.int (0 : Int32)) := Vq6
    have Vo7 : Arv Z h0 aca ck8 .int (2 : Int32) [(.int wc0), (.int wc1)] (.int (0 : Int32)) := Vq7
    show own_Go p e below _ (s₁.setTop (mkF m 0 #[oR this, .unset, .unset, .unset] []))
    refine own_via (fun t kz => XS.iconst X0.here hx rfl (hb hby d4_0) kz) ?_
    show own_Go p e below _ (s₁.setTop (mkF m 1 #[oR this, .unset, .unset, .unset] [(.int (0 : Int32))]))
    refine own_via (fun t kz => XS.istoreN X0.here hx rfl (hb hby d4_1) rfl (l' := #[oR this, oI (0 : Int32), .unset, .unset]) rfl kz) ?_
    show own_Go p e below _ (s₁.setTop (mkF m 2 #[oR this, oI (0 : Int32), .unset, .unset] []))
    refine own_via (fun t kz => XS.iloadN X0.here hx rfl (hb hby d4_2) rfl kz) ?_
    show own_Go p e below _ (s₁.setTop (mkF m 3 #[oR this, oI (0 : Int32), .unset, .unset] [(.int (0 : Int32))]))
    refine own_via (fun t kz => XS.aloadN X0.here hx rfl (hb hby d4_3) rfl rfl kz) ?_
    show own_Go p e below _ (s₁.setTop (mkF m 4 #[oR this, oI (0 : Int32), .unset, .unset] [(.ref this), (.int (0 : Int32))]))
    obtain ⟨T108, X108, e108, st108⟩ := getF X0 hx hZ hown (host := "") (Or.inl (own_w hw 28)) Via.refl e0 Fo4 (g := (mkF m 4 #[oR this, oI (0 : Int32), .unset, .unset] [(.ref this), (.int (0 : Int32))])) rfl rfl (hb hby d4_4)
    refine own_via st108 ?_
    show own_Go p e below _ (T108.setTop (mkF m 7 #[oR this, oI (0 : Int32), .unset, .unset] [(.int (2 : Int32)), (.int (0 : Int32))]))
    refine own_via (fun t kz => XS.icmpNo X108.here hx rfl (hb hby d4_7) rfl (tlt (by decide : (0 : Int32) < (2 : Int32))).2.1 kz) ?_
    show own_Go p e below _ (T108.setTop (mkF m 10 #[oR this, oI (0 : Int32), .unset, .unset] []))
    refine own_via (fun t kz => XS.aloadN X108.here hx rfl (hb hby d4_10) rfl rfl kz) ?_
    show own_Go p e below _ (T108.setTop (mkF m 11 #[oR this, oI (0 : Int32), .unset, .unset] [(.ref this)]))
    obtain ⟨T109, X109, e109, st109⟩ := getF X108 hx hZ hown (host := "") (Or.inl (own_w hw 15)) Via.refl e108 Fo1 (g := (mkF m 11 #[oR this, oI (0 : Int32), .unset, .unset] [(.ref this)])) rfl rfl (hb hby d4_11)
    refine own_via st109 ?_
    show own_Go p e below _ (T109.setTop (mkF m 14 #[oR this, oI (0 : Int32), .unset, .unset] [(.ref ata)]))
    refine own_via (fun t kz => XS.iloadN X109.here hx rfl (hb hby d4_14) rfl kz) ?_
    show own_Go p e below _ (T109.setTop (mkF m 15 #[oR this, oI (0 : Int32), .unset, .unset] [(.int (0 : Int32)), (.ref ata)]))
    obtain ⟨cl110, Ar110, kc110, Sz110, Nn110, Hs110, Gs110⟩ := id Vo3
    have in110 := inb_of (j := (0 : Int32)) Sz110 ⟨by decide, by decide⟩
    have at110 : cl110.slots[((0 : Int32)).toNatClampNeg]? = some (.int (0 : Int32)) := Hs110.at in110 rfl
    refine own_via (fun t kz => X109.iaload hx (j := (0 : Int32)) (v := (.int (0 : Int32))) (by rw [e109]; exact Ar110.1) (State.isArrayOf_alike hZ.alike Ar110.2.1) Ar110.2.2 in110 at110 (g := (mkF m 15 #[oR this, oI (0 : Int32), .unset, .unset] [(.int (0 : Int32)), (.ref ata)])) rfl rfl (hb hby d4_15) t kz) ?_
    show own_Go p e below _ (T109.setTop (mkF m 16 #[oR this, oI (0 : Int32), .unset, .unset] [(.int (0 : Int32))]))
    refine own_via (fun t kz => XS.istoreN X109.here hx rfl (hb hby d4_16) rfl (l' := #[oR this, oI (0 : Int32), oI (0 : Int32), .unset]) rfl kz) ?_
    show own_Go p e below _ (T109.setTop (mkF m 17 #[oR this, oI (0 : Int32), oI (0 : Int32), .unset] []))
    refine own_via (fun t kz => XS.iconst X109.here hx rfl (hb hby d4_17) kz) ?_
    show own_Go p e below _ (T109.setTop (mkF m 18 #[oR this, oI (0 : Int32), oI (0 : Int32), .unset] [(.int (0 : Int32))]))
    refine own_via (fun t kz => XS.istoreN X109.here hx rfl (hb hby d4_18) rfl (l' := #[oR this, oI (0 : Int32), oI (0 : Int32), oI (0 : Int32)]) rfl kz) ?_
    have hT111 : own_TC Z h0 n0 this (own_mk wm00 wm01 wm10 wm11 (0 : Int32) (1 : Int32) ws00 ws01 ws10 ws11 wc0 wc1 (2 : Int32)) := ⟨amo, am0, am1, ata, aso, as0, as1, aca, ck1, ck2, ck3, ck4, ck5, ck6, ck7, ck8, ⟨by omega, by omega, by omega, by omega, by omega, by omega, by omega, by omega, by omega⟩, Eq, Fo0, Fo1, Fo2, Fo3, Fo4, Vo0, Vo1, Vo2, Vo3, Vo4, Vo5, Vo6, Vo7⟩
    obtain ⟨B111, st111, T111, h111, lc111, rfl, X111, e111, N111, Zs111, TC111⟩ := own_in0 this (0 : Int32) wm00 wm01 wm10 wm11 (0 : Int32) (1 : Int32) ws00 ws01 ws10 ws11 wc0 wc1 (2 : Int32) X109 hx hZ hw hby hml hown e109 N0 Z0 hT111 hr0
    refine own_via st111 ?_
    obtain ⟨amo, am0, am1, ata, aso, as0, as1, aca, ck1, ck2, ck3, ck4, ck5, ck6, ck7, ck8, ⟨ch0, ch1, ch2, ch3, ch4, ch5, ch6, ch7, ch8⟩, Eq, Fq0, Fq1, Fq2, Fq3, Fq4, Vq0, Vq1, Vq2, Vq3, Vq4, Vq5, Vq6, Vq7⟩ := TC111
    have Fo0 : Fld Z h111 this "com/example/matchloom/matchloom/league/TouchedCells" "marked" "[[Z" (.ref amo) := Fq0
    have Fo1 : Fld Z h111 this "com/example/matchloom/matchloom/league/TouchedCells" "teams" "[I" (.ref ata) := Fq1
    have Fo2 : Fld Z h111 this "com/example/matchloom/matchloom/league/TouchedCells" "slots" "[[I" (.ref aso) := Fq2
    have Fo3 : Fld Z h111 this "com/example/matchloom/matchloom/league/TouchedCells" "slotCount" "[I" (.ref aca) := Fq3
    have Fo4 : Fld Z h111 this "com/example/matchloom/matchloom/league/TouchedCells" "teamCount" "I" (.int (2 : Int32)) := Fq4
    have Vo0 : Arv Z h111 amo ck1 (.array .boolean) (2 : Int32) [(.ref am0), (.ref am1)] .null := Vq0
    have Vo1 : Arv Z h111 am0 ck2 .boolean (2 : Int32) [(.int (0 : Int32)), (.int (0 : Int32))] (.int (0 : Int32)) := Vq1
    have Vo2 : Arv Z h111 am1 ck3 .boolean (2 : Int32) [(.int wm10), (.int wm11)] (.int (0 : Int32)) := Vq2
    have Vo3 : Arv Z h111 ata ck4 .int (2 : Int32) [(.int (0 : Int32)), (.int (1 : Int32))] (.int (0 : Int32)) := Vq3
    have Vo4 : Arv Z h111 aso ck5 (.array .int) (2 : Int32) [(.ref as0), (.ref as1)] .null := Vq4
    have Vo5 : Arv Z h111 as0 ck6 .int (2 : Int32) [(.int ws00), (.int ws01)] (.int (0 : Int32)) := Vq5
    have Vo6 : Arv Z h111 as1 ck7 .int (2 : Int32) [(.int ws10), (.int ws11)] (.int (0 : Int32)) := Vq6
    have Vo7 : Arv Z h111 aca ck8 .int (2 : Int32) [(.int wc0), (.int wc1)] (.int (0 : Int32)) := Vq7
    show own_Go p e below _ (T111.setTop (mkF m 51 #[oR this, oI (0 : Int32), oI (0 : Int32), oI wc0] []))
    refine own_via (fun t kz => XS.aloadN X111.here hx rfl (hb hby d4_51) rfl rfl kz) ?_
    show own_Go p e below _ (T111.setTop (mkF m 52 #[oR this, oI (0 : Int32), oI (0 : Int32), oI wc0] [(.ref this)]))
    obtain ⟨T113, X113, e113, st113⟩ := getF X111 hx hZ hown (host := "") (Or.inl (own_w hw 21)) Via.refl e111 Fo3 (g := (mkF m 52 #[oR this, oI (0 : Int32), oI (0 : Int32), oI wc0] [(.ref this)])) rfl rfl (hb hby d4_52)
    refine own_via st113 ?_
    show own_Go p e below _ (T113.setTop (mkF m 55 #[oR this, oI (0 : Int32), oI (0 : Int32), oI wc0] [(.ref aca)]))
    refine own_via (fun t kz => XS.iloadN X113.here hx rfl (hb hby d4_55) rfl kz) ?_
    show own_Go p e below _ (T113.setTop (mkF m 56 #[oR this, oI (0 : Int32), oI (0 : Int32), oI wc0] [(.int (0 : Int32)), (.ref aca)]))
    refine own_via (fun t kz => XS.iconst X113.here hx rfl (hb hby d4_56) kz) ?_
    show own_Go p e below _ (T113.setTop (mkF m 57 #[oR this, oI (0 : Int32), oI (0 : Int32), oI wc0] [(.int (0 : Int32)), (.int (0 : Int32)), (.ref aca)]))
    obtain ⟨cl114, Ar114, kc114, Sz114, Nn114, Hs114, Gs114⟩ := id Vo7
    obtain ⟨T114, h114, X114, e114, W114, st114⟩ := stI X113 hx hZ e113 Ar114 (j := (0 : Int32)) (inb_of Sz114 ⟨by decide, by decide⟩) (g := (mkF m 57 #[oR this, oI (0 : Int32), oI (0 : Int32), oI wc0] [(.int (0 : Int32)), (.int (0 : Int32)), (.ref aca)])) rfl rfl (hb hby d4_57)
    refine own_via st114 ?_
    have E115 := Eq.wr W114
    have F116 := Fo0.other W114 (Or.inl (own_neq (by omega)))
    have F117 := Fo1.other W114 (Or.inl (own_neq (by omega)))
    have F118 := Fo2.other W114 (Or.inl (own_neq (by omega)))
    have F119 := Fo3.other W114 (Or.inl (own_neq (by omega)))
    have F120 := Fo4.other W114 (Or.inl (own_neq (by omega)))
    have V121 := Vo0.other W114 (own_neq (by omega))
    have V122 := Vo1.other W114 (own_neq (by omega))
    have V123 := Vo2.other W114 (own_neq (by omega))
    have V124 := Vo3.other W114 (own_neq (by omega))
    have V125 := Vo4.other W114 (own_neq (by omega))
    have V126 := Vo5.other W114 (own_neq (by omega))
    have V127 := Vo6.other W114 (own_neq (by omega))
    have Zs128 : n0 ≤ h114.size := Nat.le_trans Zs111 (Keep.of_wr W114).1
    have N129 := Fr.snoc X114 N111 (show n0 ≤ aca by omega)
    have V130 : Arv Z h114 aca ck8 .int (2 : Int32) [(.int (0 : Int32)), (.int wc1)] (.int (0 : Int32)) := Arv.set Ar114 kc114 Sz114 Nn114 Hs114 Gs114 rfl W114 0 (by first | decide | (show 0 < 2; decide)) (by first | decide | (show 0 < 2; decide))
    show own_Go p e below _ (T114.setTop (mkF m 58 #[oR this, oI (0 : Int32), oI (0 : Int32), oI wc0] []))
    refine own_via (fun t kz => XS.iinc X114.here hx rfl (hb hby d4_58) rfl (l' := #[oR this, oI (1 : Int32), oI (0 : Int32), oI wc0]) rfl kz) ?_
    show own_Go p e below _ (T114.setTop (mkF m 61 #[oR this, oI (1 : Int32), oI (0 : Int32), oI wc0] []))
    refine own_via (fun t kz => XS.goto X114.here hx rfl (pc0 := 61) (pc' := 2) rfl (hb hby d4_61) (by decide) (by decide) kz) ?_
    show own_Go p e below _ (T114.setTop (mkF m 2 #[oR this, oI (1 : Int32), oI (0 : Int32), oI wc0] []))
    refine own_via (fun t kz => XS.iloadN X114.here hx rfl (hb hby d4_2) rfl kz) ?_
    show own_Go p e below _ (T114.setTop (mkF m 3 #[oR this, oI (1 : Int32), oI (0 : Int32), oI wc0] [(.int (1 : Int32))]))
    refine own_via (fun t kz => XS.aloadN X114.here hx rfl (hb hby d4_3) rfl rfl kz) ?_
    show own_Go p e below _ (T114.setTop (mkF m 4 #[oR this, oI (1 : Int32), oI (0 : Int32), oI wc0] [(.ref this), (.int (1 : Int32))]))
    obtain ⟨T131, X131, e131, st131⟩ := getF X114 hx hZ hown (host := "") (Or.inl (own_w hw 28)) Via.refl e114 F120 (g := (mkF m 4 #[oR this, oI (1 : Int32), oI (0 : Int32), oI wc0] [(.ref this), (.int (1 : Int32))])) rfl rfl (hb hby d4_4)
    refine own_via st131 ?_
    show own_Go p e below _ (T131.setTop (mkF m 7 #[oR this, oI (1 : Int32), oI (0 : Int32), oI wc0] [(.int (2 : Int32)), (.int (1 : Int32))]))
    refine own_via (fun t kz => XS.icmpNo X131.here hx rfl (hb hby d4_7) rfl (tlt (by decide : (1 : Int32) < (2 : Int32))).2.1 kz) ?_
    show own_Go p e below _ (T131.setTop (mkF m 10 #[oR this, oI (1 : Int32), oI (0 : Int32), oI wc0] []))
    refine own_via (fun t kz => XS.aloadN X131.here hx rfl (hb hby d4_10) rfl rfl kz) ?_
    show own_Go p e below _ (T131.setTop (mkF m 11 #[oR this, oI (1 : Int32), oI (0 : Int32), oI wc0] [(.ref this)]))
    obtain ⟨T132, X132, e132, st132⟩ := getF X131 hx hZ hown (host := "") (Or.inl (own_w hw 15)) Via.refl e131 F117 (g := (mkF m 11 #[oR this, oI (1 : Int32), oI (0 : Int32), oI wc0] [(.ref this)])) rfl rfl (hb hby d4_11)
    refine own_via st132 ?_
    show own_Go p e below _ (T132.setTop (mkF m 14 #[oR this, oI (1 : Int32), oI (0 : Int32), oI wc0] [(.ref ata)]))
    refine own_via (fun t kz => XS.iloadN X132.here hx rfl (hb hby d4_14) rfl kz) ?_
    show own_Go p e below _ (T132.setTop (mkF m 15 #[oR this, oI (1 : Int32), oI (0 : Int32), oI wc0] [(.int (1 : Int32)), (.ref ata)]))
    obtain ⟨cl133, Ar133, kc133, Sz133, Nn133, Hs133, Gs133⟩ := id V124
    have in133 := inb_of (j := (1 : Int32)) Sz133 ⟨by decide, by decide⟩
    have at133 : cl133.slots[((1 : Int32)).toNatClampNeg]? = some (.int (1 : Int32)) := Hs133.at in133 rfl
    refine own_via (fun t kz => X132.iaload hx (j := (1 : Int32)) (v := (.int (1 : Int32))) (by rw [e132]; exact Ar133.1) (State.isArrayOf_alike hZ.alike Ar133.2.1) Ar133.2.2 in133 at133 (g := (mkF m 15 #[oR this, oI (1 : Int32), oI (0 : Int32), oI wc0] [(.int (1 : Int32)), (.ref ata)])) rfl rfl (hb hby d4_15) t kz) ?_
    show own_Go p e below _ (T132.setTop (mkF m 16 #[oR this, oI (1 : Int32), oI (0 : Int32), oI wc0] [(.int (1 : Int32))]))
    refine own_via (fun t kz => XS.istoreN X132.here hx rfl (hb hby d4_16) rfl (l' := #[oR this, oI (1 : Int32), oI (1 : Int32), oI wc0]) rfl kz) ?_
    show own_Go p e below _ (T132.setTop (mkF m 17 #[oR this, oI (1 : Int32), oI (1 : Int32), oI wc0] []))
    refine own_via (fun t kz => XS.iconst X132.here hx rfl (hb hby d4_17) kz) ?_
    show own_Go p e below _ (T132.setTop (mkF m 18 #[oR this, oI (1 : Int32), oI (1 : Int32), oI wc0] [(.int (0 : Int32))]))
    refine own_via (fun t kz => XS.istoreN X132.here hx rfl (hb hby d4_18) rfl (l' := #[oR this, oI (1 : Int32), oI (1 : Int32), oI (0 : Int32)]) rfl kz) ?_
    have hT134 : own_TC Z h114 n0 this (own_mk (0 : Int32) (0 : Int32) wm10 wm11 (0 : Int32) (1 : Int32) ws00 ws01 ws10 ws11 (0 : Int32) wc1 (2 : Int32)) := ⟨amo, am0, am1, ata, aso, as0, as1, aca, ck1, ck2, ck3, ck4, ck5, ck6, ck7, ck8, ⟨by omega, by omega, by omega, by omega, by omega, by omega, by omega, by omega, by omega⟩, E115, F116, F117, F118, F119, F120, V121, V122, V123, V124, V125, V126, V127, V130⟩
    obtain ⟨B134, st134, T134, h134, lc134, rfl, X134, e134, N134, Zs134, TC134⟩ := own_in1 this (1 : Int32) (0 : Int32) (0 : Int32) wm10 wm11 (0 : Int32) (1 : Int32) ws00 ws01 ws10 ws11 (0 : Int32) wc1 (2 : Int32) X132 hx hZ hw hby hml hown e132 N129 Zs128 hT134 hr1
    refine own_via st134 ?_
    obtain ⟨amo, am0, am1, ata, aso, as0, as1, aca, ck1, ck2, ck3, ck4, ck5, ck6, ck7, ck8, ⟨ch0, ch1, ch2, ch3, ch4, ch5, ch6, ch7, ch8⟩, Eq, Fq0, Fq1, Fq2, Fq3, Fq4, Vq0, Vq1, Vq2, Vq3, Vq4, Vq5, Vq6, Vq7⟩ := TC134
    have Fo0 : Fld Z h134 this "com/example/matchloom/matchloom/league/TouchedCells" "marked" "[[Z" (.ref amo) := Fq0
    have Fo1 : Fld Z h134 this "com/example/matchloom/matchloom/league/TouchedCells" "teams" "[I" (.ref ata) := Fq1
    have Fo2 : Fld Z h134 this "com/example/matchloom/matchloom/league/TouchedCells" "slots" "[[I" (.ref aso) := Fq2
    have Fo3 : Fld Z h134 this "com/example/matchloom/matchloom/league/TouchedCells" "slotCount" "[I" (.ref aca) := Fq3
    have Fo4 : Fld Z h134 this "com/example/matchloom/matchloom/league/TouchedCells" "teamCount" "I" (.int (2 : Int32)) := Fq4
    have Vo0 : Arv Z h134 amo ck1 (.array .boolean) (2 : Int32) [(.ref am0), (.ref am1)] .null := Vq0
    have Vo1 : Arv Z h134 am0 ck2 .boolean (2 : Int32) [(.int (0 : Int32)), (.int (0 : Int32))] (.int (0 : Int32)) := Vq1
    have Vo2 : Arv Z h134 am1 ck3 .boolean (2 : Int32) [(.int (0 : Int32)), (.int (0 : Int32))] (.int (0 : Int32)) := Vq2
    have Vo3 : Arv Z h134 ata ck4 .int (2 : Int32) [(.int (0 : Int32)), (.int (1 : Int32))] (.int (0 : Int32)) := Vq3
    have Vo4 : Arv Z h134 aso ck5 (.array .int) (2 : Int32) [(.ref as0), (.ref as1)] .null := Vq4
    have Vo5 : Arv Z h134 as0 ck6 .int (2 : Int32) [(.int ws00), (.int ws01)] (.int (0 : Int32)) := Vq5
    have Vo6 : Arv Z h134 as1 ck7 .int (2 : Int32) [(.int ws10), (.int ws11)] (.int (0 : Int32)) := Vq6
    have Vo7 : Arv Z h134 aca ck8 .int (2 : Int32) [(.int (0 : Int32)), (.int wc1)] (.int (0 : Int32)) := Vq7
    show own_Go p e below _ (T134.setTop (mkF m 51 #[oR this, oI (1 : Int32), oI (1 : Int32), oI wc1] []))
    refine own_via (fun t kz => XS.aloadN X134.here hx rfl (hb hby d4_51) rfl rfl kz) ?_
    show own_Go p e below _ (T134.setTop (mkF m 52 #[oR this, oI (1 : Int32), oI (1 : Int32), oI wc1] [(.ref this)]))
    obtain ⟨T136, X136, e136, st136⟩ := getF X134 hx hZ hown (host := "") (Or.inl (own_w hw 21)) Via.refl e134 Fo3 (g := (mkF m 52 #[oR this, oI (1 : Int32), oI (1 : Int32), oI wc1] [(.ref this)])) rfl rfl (hb hby d4_52)
    refine own_via st136 ?_
    show own_Go p e below _ (T136.setTop (mkF m 55 #[oR this, oI (1 : Int32), oI (1 : Int32), oI wc1] [(.ref aca)]))
    refine own_via (fun t kz => XS.iloadN X136.here hx rfl (hb hby d4_55) rfl kz) ?_
    show own_Go p e below _ (T136.setTop (mkF m 56 #[oR this, oI (1 : Int32), oI (1 : Int32), oI wc1] [(.int (1 : Int32)), (.ref aca)]))
    refine own_via (fun t kz => XS.iconst X136.here hx rfl (hb hby d4_56) kz) ?_
    show own_Go p e below _ (T136.setTop (mkF m 57 #[oR this, oI (1 : Int32), oI (1 : Int32), oI wc1] [(.int (0 : Int32)), (.int (1 : Int32)), (.ref aca)]))
    obtain ⟨cl137, Ar137, kc137, Sz137, Nn137, Hs137, Gs137⟩ := id Vo7
    obtain ⟨T137, h137, X137, e137, W137, st137⟩ := stI X136 hx hZ e136 Ar137 (j := (1 : Int32)) (inb_of Sz137 ⟨by decide, by decide⟩) (g := (mkF m 57 #[oR this, oI (1 : Int32), oI (1 : Int32), oI wc1] [(.int (0 : Int32)), (.int (1 : Int32)), (.ref aca)])) rfl rfl (hb hby d4_57)
    refine own_via st137 ?_
    have E138 := Eq.wr W137
    have F139 := Fo0.other W137 (Or.inl (own_neq (by omega)))
    have F140 := Fo1.other W137 (Or.inl (own_neq (by omega)))
    have F141 := Fo2.other W137 (Or.inl (own_neq (by omega)))
    have F142 := Fo3.other W137 (Or.inl (own_neq (by omega)))
    have F143 := Fo4.other W137 (Or.inl (own_neq (by omega)))
    have V144 := Vo0.other W137 (own_neq (by omega))
    have V145 := Vo1.other W137 (own_neq (by omega))
    have V146 := Vo2.other W137 (own_neq (by omega))
    have V147 := Vo3.other W137 (own_neq (by omega))
    have V148 := Vo4.other W137 (own_neq (by omega))
    have V149 := Vo5.other W137 (own_neq (by omega))
    have V150 := Vo6.other W137 (own_neq (by omega))
    have Zs151 : n0 ≤ h137.size := Nat.le_trans Zs134 (Keep.of_wr W137).1
    have N152 := Fr.snoc X137 N134 (show n0 ≤ aca by omega)
    have V153 : Arv Z h137 aca ck8 .int (2 : Int32) [(.int (0 : Int32)), (.int (0 : Int32))] (.int (0 : Int32)) := Arv.set Ar137 kc137 Sz137 Nn137 Hs137 Gs137 rfl W137 1 (by first | decide | (show 1 < 2; decide)) (by first | decide | (show 1 < 2; decide))
    show own_Go p e below _ (T137.setTop (mkF m 58 #[oR this, oI (1 : Int32), oI (1 : Int32), oI wc1] []))
    refine own_via (fun t kz => XS.iinc X137.here hx rfl (hb hby d4_58) rfl (l' := #[oR this, oI (2 : Int32), oI (1 : Int32), oI wc1]) rfl kz) ?_
    show own_Go p e below _ (T137.setTop (mkF m 61 #[oR this, oI (2 : Int32), oI (1 : Int32), oI wc1] []))
    refine own_via (fun t kz => XS.goto X137.here hx rfl (pc0 := 61) (pc' := 2) rfl (hb hby d4_61) (by decide) (by decide) kz) ?_
    show own_Go p e below _ (T137.setTop (mkF m 2 #[oR this, oI (2 : Int32), oI (1 : Int32), oI wc1] []))
    refine own_via (fun t kz => XS.iloadN X137.here hx rfl (hb hby d4_2) rfl kz) ?_
    show own_Go p e below _ (T137.setTop (mkF m 3 #[oR this, oI (2 : Int32), oI (1 : Int32), oI wc1] [(.int (2 : Int32))]))
    refine own_via (fun t kz => XS.aloadN X137.here hx rfl (hb hby d4_3) rfl rfl kz) ?_
    show own_Go p e below _ (T137.setTop (mkF m 4 #[oR this, oI (2 : Int32), oI (1 : Int32), oI wc1] [(.ref this), (.int (2 : Int32))]))
    obtain ⟨T154, X154, e154, st154⟩ := getF X137 hx hZ hown (host := "") (Or.inl (own_w hw 28)) Via.refl e137 F143 (g := (mkF m 4 #[oR this, oI (2 : Int32), oI (1 : Int32), oI wc1] [(.ref this), (.int (2 : Int32))])) rfl rfl (hb hby d4_4)
    refine own_via st154 ?_
    show own_Go p e below _ (T154.setTop (mkF m 7 #[oR this, oI (2 : Int32), oI (1 : Int32), oI wc1] [(.int (2 : Int32)), (.int (2 : Int32))]))
    refine own_via (fun t kz => XS.icmpYes X154.here hx rfl (pc0 := 7) (pc' := 64) rfl (hb hby d4_7) rfl (flt (by decide : ¬ ((2 : Int32) < (2 : Int32)))).2.1 (by decide) (by decide) kz) ?_
    show own_Go p e below _ (T154.setTop (mkF m 64 #[oR this, oI (2 : Int32), oI (1 : Int32), oI wc1] []))
    refine own_via (fun t kz => XS.aloadN X154.here hx rfl (hb hby d4_64) rfl rfl kz) ?_
    show own_Go p e below _ (T154.setTop (mkF m 65 #[oR this, oI (2 : Int32), oI (1 : Int32), oI wc1] [(.ref this)]))
    refine own_via (fun t kz => XS.iconst X154.here hx rfl (hb hby d4_65) kz) ?_
    show own_Go p e below _ (T154.setTop (mkF m 66 #[oR this, oI (2 : Int32), oI (1 : Int32), oI wc1] [(.int (0 : Int32)), (.ref this)]))
    obtain ⟨T155, h155, X155, e155, W155, st155⟩ := putF X154 hx hZ hown (host := "") (Or.inl (own_w hw 28)) Via.refl e154 F143 E138 (Or.inl (own_w hw 29)) (own_w hw 1) (ty := .int) (by decide) rfl rfl (g := (mkF m 66 #[oR this, oI (2 : Int32), oI (1 : Int32), oI wc1] [(.int (0 : Int32)), (.ref this)])) rfl rfl (hb hby d4_66)
    refine own_via st155 ?_
    have E156 := E138.wr W155
    have F157 := F139.other W155 (Or.inr (slot_ne (Or.inr (own_w hw 13)) (Or.inl (own_w hw 29)) (by decide) (t := (.array (.array .boolean))) (t' := .int) (by decide) (by decide)))
    have F158 := F140.other W155 (Or.inr (slot_ne (Or.inr (own_w hw 16)) (Or.inl (own_w hw 29)) (by decide) (t := (.array .int)) (t' := .int) (by decide) (by decide)))
    have F159 := F141.other W155 (Or.inr (slot_ne (Or.inr (own_w hw 20)) (Or.inl (own_w hw 29)) (by decide) (t := (.array (.array .int))) (t' := .int) (by decide) (by decide)))
    have F160 := F142.other W155 (Or.inr (slot_ne (Or.inr (own_w hw 22)) (Or.inl (own_w hw 29)) (by decide) (t := (.array .int)) (t' := .int) (by decide) (by decide)))
    have F161 := F143.same W155
    have V162 := V144.other W155 (own_neq (by omega))
    have V163 := V145.other W155 (own_neq (by omega))
    have V164 := V146.other W155 (own_neq (by omega))
    have V165 := V147.other W155 (own_neq (by omega))
    have V166 := V148.other W155 (own_neq (by omega))
    have V167 := V149.other W155 (own_neq (by omega))
    have V168 := V150.other W155 (own_neq (by omega))
    have V169 := V153.other W155 (own_neq (by omega))
    have Zs170 : n0 ≤ h155.size := Nat.le_trans Zs151 (Keep.of_wr W155).1
    have N171 := Fr.snoc X155 N152 (show n0 ≤ this by omega)
    show own_Go p e below _ (T155.setTop (mkF m 69 #[oR this, oI (2 : Int32), oI (1 : Int32), oI wc1] []))
    have hT : own_TC Z h155 n0 this (own_mk (0 : Int32) (0 : Int32) (0 : Int32) (0 : Int32) (0 : Int32) (1 : Int32) ws00 ws01 ws10 ws11 (0 : Int32) (0 : Int32) (0 : Int32)) := ⟨amo, am0, am1, ata, aso, as0, as1, aca, ck1, ck2, ck3, ck4, ck5, ck6, ck7, ck8, ⟨by omega, by omega, by omega, by omega, by omega, by omega, by omega, by omega, by omega⟩, E156, F157, F158, F159, F160, F161, V162, V163, V164, V165, V166, V167, V168, V169⟩
    obtain ⟨fs, hr, hrun, hended, hW, hsame⟩ := X155.leave (v := none) (fun _ => rfl)
    refine ⟨_, _, X155.returnOut hx Bd.returns (hb hby d4_69) hr, hrun, hended, _, _, rfl, ?_, ⟨_, rfl⟩, hW, hsame.mono (by decide) (by decide)⟩
    show Q4 Z this wm00 wm01 wm10 wm11 (0 : Int32) (1 : Int32) ws00 ws01 ws10 ws11 wc0 wc1 (2 : Int32) h0 n0 _ T155.heap _
    rw [e155]
    exact ⟨rfl, N171, Zs170, _, _, _, _, _, _, hT⟩
  · obtain ⟨amo, am0, am1, ata, aso, as0, as1, aca, ck1, ck2, ck3, ck4, ck5, ck6, ck7, ck8, ⟨ch0, ch1, ch2, ch3, ch4, ch5, ch6, ch7, ch8⟩, Eq, Fq0, Fq1, Fq2, Fq3, Fq4, Vq0, Vq1, Vq2, Vq3, Vq4, Vq5, Vq6, Vq7⟩ := TC
    have Fo0 : Fld Z h0 this "com/example/matchloom/matchloom/league/TouchedCells" "marked" "[[Z" (.ref amo) := Fq0
    have Fo1 : Fld Z h0 this "com/example/matchloom/matchloom/league/TouchedCells" "teams" "[I" (.ref ata) := Fq1
    have Fo2 : Fld Z h0 this "com/example/matchloom/matchloom/league/TouchedCells" "slots" "[[I" (.ref aso) := Fq2
    have Fo3 : Fld Z h0 this "com/example/matchloom/matchloom/league/TouchedCells" "slotCount" "[I" (.ref aca) := Fq3
    have Fo4 : Fld Z h0 this "com/example/matchloom/matchloom/league/TouchedCells" "teamCount" "I" (.int (2 : Int32)) := Fq4
    have Vo0 : Arv Z h0 amo ck1 (.array .boolean) (2 : Int32) [(.ref am0), (.ref am1)] .null := Vq0
    have Vo1 : Arv Z h0 am0 ck2 .boolean (2 : Int32) [(.int wm00), (.int wm01)] (.int (0 : Int32)) := Vq1
    have Vo2 : Arv Z h0 am1 ck3 .boolean (2 : Int32) [(.int wm10), (.int wm11)] (.int (0 : Int32)) := Vq2
    have Vo3 : Arv Z h0 ata ck4 .int (2 : Int32) [(.int (1 : Int32)), (.int (0 : Int32))] (.int (0 : Int32)) := Vq3
    have Vo4 : Arv Z h0 aso ck5 (.array .int) (2 : Int32) [(.ref as0), (.ref as1)] .null := Vq4
    have Vo5 : Arv Z h0 as0 ck6 .int (2 : Int32) [(.int ws00), (.int ws01)] (.int (0 : Int32)) := Vq5
    have Vo6 : Arv Z h0 as1 ck7 .int (2 : Int32) [(.int ws10), (.int ws11)] (.int (0 : Int32)) := Vq6
    have Vo7 : Arv Z h0 aca ck8 .int (2 : Int32) [(.int wc0), (.int wc1)] (.int (0 : Int32)) := Vq7
    show own_Go p e below _ (s₁.setTop (mkF m 0 #[oR this, .unset, .unset, .unset] []))
    refine own_via (fun t kz => XS.iconst X0.here hx rfl (hb hby d4_0) kz) ?_
    show own_Go p e below _ (s₁.setTop (mkF m 1 #[oR this, .unset, .unset, .unset] [(.int (0 : Int32))]))
    refine own_via (fun t kz => XS.istoreN X0.here hx rfl (hb hby d4_1) rfl (l' := #[oR this, oI (0 : Int32), .unset, .unset]) rfl kz) ?_
    show own_Go p e below _ (s₁.setTop (mkF m 2 #[oR this, oI (0 : Int32), .unset, .unset] []))
    refine own_via (fun t kz => XS.iloadN X0.here hx rfl (hb hby d4_2) rfl kz) ?_
    show own_Go p e below _ (s₁.setTop (mkF m 3 #[oR this, oI (0 : Int32), .unset, .unset] [(.int (0 : Int32))]))
    refine own_via (fun t kz => XS.aloadN X0.here hx rfl (hb hby d4_3) rfl rfl kz) ?_
    show own_Go p e below _ (s₁.setTop (mkF m 4 #[oR this, oI (0 : Int32), .unset, .unset] [(.ref this), (.int (0 : Int32))]))
    obtain ⟨T174, X174, e174, st174⟩ := getF X0 hx hZ hown (host := "") (Or.inl (own_w hw 28)) Via.refl e0 Fo4 (g := (mkF m 4 #[oR this, oI (0 : Int32), .unset, .unset] [(.ref this), (.int (0 : Int32))])) rfl rfl (hb hby d4_4)
    refine own_via st174 ?_
    show own_Go p e below _ (T174.setTop (mkF m 7 #[oR this, oI (0 : Int32), .unset, .unset] [(.int (2 : Int32)), (.int (0 : Int32))]))
    refine own_via (fun t kz => XS.icmpNo X174.here hx rfl (hb hby d4_7) rfl (tlt (by decide : (0 : Int32) < (2 : Int32))).2.1 kz) ?_
    show own_Go p e below _ (T174.setTop (mkF m 10 #[oR this, oI (0 : Int32), .unset, .unset] []))
    refine own_via (fun t kz => XS.aloadN X174.here hx rfl (hb hby d4_10) rfl rfl kz) ?_
    show own_Go p e below _ (T174.setTop (mkF m 11 #[oR this, oI (0 : Int32), .unset, .unset] [(.ref this)]))
    obtain ⟨T175, X175, e175, st175⟩ := getF X174 hx hZ hown (host := "") (Or.inl (own_w hw 15)) Via.refl e174 Fo1 (g := (mkF m 11 #[oR this, oI (0 : Int32), .unset, .unset] [(.ref this)])) rfl rfl (hb hby d4_11)
    refine own_via st175 ?_
    show own_Go p e below _ (T175.setTop (mkF m 14 #[oR this, oI (0 : Int32), .unset, .unset] [(.ref ata)]))
    refine own_via (fun t kz => XS.iloadN X175.here hx rfl (hb hby d4_14) rfl kz) ?_
    show own_Go p e below _ (T175.setTop (mkF m 15 #[oR this, oI (0 : Int32), .unset, .unset] [(.int (0 : Int32)), (.ref ata)]))
    obtain ⟨cl176, Ar176, kc176, Sz176, Nn176, Hs176, Gs176⟩ := id Vo3
    have in176 := inb_of (j := (0 : Int32)) Sz176 ⟨by decide, by decide⟩
    have at176 : cl176.slots[((0 : Int32)).toNatClampNeg]? = some (.int (1 : Int32)) := Hs176.at in176 rfl
    refine own_via (fun t kz => X175.iaload hx (j := (0 : Int32)) (v := (.int (1 : Int32))) (by rw [e175]; exact Ar176.1) (State.isArrayOf_alike hZ.alike Ar176.2.1) Ar176.2.2 in176 at176 (g := (mkF m 15 #[oR this, oI (0 : Int32), .unset, .unset] [(.int (0 : Int32)), (.ref ata)])) rfl rfl (hb hby d4_15) t kz) ?_
    show own_Go p e below _ (T175.setTop (mkF m 16 #[oR this, oI (0 : Int32), .unset, .unset] [(.int (1 : Int32))]))
    refine own_via (fun t kz => XS.istoreN X175.here hx rfl (hb hby d4_16) rfl (l' := #[oR this, oI (0 : Int32), oI (1 : Int32), .unset]) rfl kz) ?_
    show own_Go p e below _ (T175.setTop (mkF m 17 #[oR this, oI (0 : Int32), oI (1 : Int32), .unset] []))
    refine own_via (fun t kz => XS.iconst X175.here hx rfl (hb hby d4_17) kz) ?_
    show own_Go p e below _ (T175.setTop (mkF m 18 #[oR this, oI (0 : Int32), oI (1 : Int32), .unset] [(.int (0 : Int32))]))
    refine own_via (fun t kz => XS.istoreN X175.here hx rfl (hb hby d4_18) rfl (l' := #[oR this, oI (0 : Int32), oI (1 : Int32), oI (0 : Int32)]) rfl kz) ?_
    have hT177 : own_TC Z h0 n0 this (own_mk wm00 wm01 wm10 wm11 (1 : Int32) (0 : Int32) ws00 ws01 ws10 ws11 wc0 wc1 (2 : Int32)) := ⟨amo, am0, am1, ata, aso, as0, as1, aca, ck1, ck2, ck3, ck4, ck5, ck6, ck7, ck8, ⟨by omega, by omega, by omega, by omega, by omega, by omega, by omega, by omega, by omega⟩, Eq, Fo0, Fo1, Fo2, Fo3, Fo4, Vo0, Vo1, Vo2, Vo3, Vo4, Vo5, Vo6, Vo7⟩
    obtain ⟨B177, st177, T177, h177, lc177, rfl, X177, e177, N177, Zs177, TC177⟩ := own_in1 this (0 : Int32) wm00 wm01 wm10 wm11 (1 : Int32) (0 : Int32) ws00 ws01 ws10 ws11 wc0 wc1 (2 : Int32) X175 hx hZ hw hby hml hown e175 N0 Z0 hT177 hr1
    refine own_via st177 ?_
    obtain ⟨amo, am0, am1, ata, aso, as0, as1, aca, ck1, ck2, ck3, ck4, ck5, ck6, ck7, ck8, ⟨ch0, ch1, ch2, ch3, ch4, ch5, ch6, ch7, ch8⟩, Eq, Fq0, Fq1, Fq2, Fq3, Fq4, Vq0, Vq1, Vq2, Vq3, Vq4, Vq5, Vq6, Vq7⟩ := TC177
    have Fo0 : Fld Z h177 this "com/example/matchloom/matchloom/league/TouchedCells" "marked" "[[Z" (.ref amo) := Fq0
    have Fo1 : Fld Z h177 this "com/example/matchloom/matchloom/league/TouchedCells" "teams" "[I" (.ref ata) := Fq1
    have Fo2 : Fld Z h177 this "com/example/matchloom/matchloom/league/TouchedCells" "slots" "[[I" (.ref aso) := Fq2
    have Fo3 : Fld Z h177 this "com/example/matchloom/matchloom/league/TouchedCells" "slotCount" "[I" (.ref aca) := Fq3
    have Fo4 : Fld Z h177 this "com/example/matchloom/matchloom/league/TouchedCells" "teamCount" "I" (.int (2 : Int32)) := Fq4
    have Vo0 : Arv Z h177 amo ck1 (.array .boolean) (2 : Int32) [(.ref am0), (.ref am1)] .null := Vq0
    have Vo1 : Arv Z h177 am0 ck2 .boolean (2 : Int32) [(.int wm00), (.int wm01)] (.int (0 : Int32)) := Vq1
    have Vo2 : Arv Z h177 am1 ck3 .boolean (2 : Int32) [(.int (0 : Int32)), (.int (0 : Int32))] (.int (0 : Int32)) := Vq2
    have Vo3 : Arv Z h177 ata ck4 .int (2 : Int32) [(.int (1 : Int32)), (.int (0 : Int32))] (.int (0 : Int32)) := Vq3
    have Vo4 : Arv Z h177 aso ck5 (.array .int) (2 : Int32) [(.ref as0), (.ref as1)] .null := Vq4
    have Vo5 : Arv Z h177 as0 ck6 .int (2 : Int32) [(.int ws00), (.int ws01)] (.int (0 : Int32)) := Vq5
    have Vo6 : Arv Z h177 as1 ck7 .int (2 : Int32) [(.int ws10), (.int ws11)] (.int (0 : Int32)) := Vq6
    have Vo7 : Arv Z h177 aca ck8 .int (2 : Int32) [(.int wc0), (.int wc1)] (.int (0 : Int32)) := Vq7
    show own_Go p e below _ (T177.setTop (mkF m 51 #[oR this, oI (0 : Int32), oI (1 : Int32), oI wc1] []))
    refine own_via (fun t kz => XS.aloadN X177.here hx rfl (hb hby d4_51) rfl rfl kz) ?_
    show own_Go p e below _ (T177.setTop (mkF m 52 #[oR this, oI (0 : Int32), oI (1 : Int32), oI wc1] [(.ref this)]))
    obtain ⟨T179, X179, e179, st179⟩ := getF X177 hx hZ hown (host := "") (Or.inl (own_w hw 21)) Via.refl e177 Fo3 (g := (mkF m 52 #[oR this, oI (0 : Int32), oI (1 : Int32), oI wc1] [(.ref this)])) rfl rfl (hb hby d4_52)
    refine own_via st179 ?_
    show own_Go p e below _ (T179.setTop (mkF m 55 #[oR this, oI (0 : Int32), oI (1 : Int32), oI wc1] [(.ref aca)]))
    refine own_via (fun t kz => XS.iloadN X179.here hx rfl (hb hby d4_55) rfl kz) ?_
    show own_Go p e below _ (T179.setTop (mkF m 56 #[oR this, oI (0 : Int32), oI (1 : Int32), oI wc1] [(.int (1 : Int32)), (.ref aca)]))
    refine own_via (fun t kz => XS.iconst X179.here hx rfl (hb hby d4_56) kz) ?_
    show own_Go p e below _ (T179.setTop (mkF m 57 #[oR this, oI (0 : Int32), oI (1 : Int32), oI wc1] [(.int (0 : Int32)), (.int (1 : Int32)), (.ref aca)]))
    obtain ⟨cl180, Ar180, kc180, Sz180, Nn180, Hs180, Gs180⟩ := id Vo7
    obtain ⟨T180, h180, X180, e180, W180, st180⟩ := stI X179 hx hZ e179 Ar180 (j := (1 : Int32)) (inb_of Sz180 ⟨by decide, by decide⟩) (g := (mkF m 57 #[oR this, oI (0 : Int32), oI (1 : Int32), oI wc1] [(.int (0 : Int32)), (.int (1 : Int32)), (.ref aca)])) rfl rfl (hb hby d4_57)
    refine own_via st180 ?_
    have E181 := Eq.wr W180
    have F182 := Fo0.other W180 (Or.inl (own_neq (by omega)))
    have F183 := Fo1.other W180 (Or.inl (own_neq (by omega)))
    have F184 := Fo2.other W180 (Or.inl (own_neq (by omega)))
    have F185 := Fo3.other W180 (Or.inl (own_neq (by omega)))
    have F186 := Fo4.other W180 (Or.inl (own_neq (by omega)))
    have V187 := Vo0.other W180 (own_neq (by omega))
    have V188 := Vo1.other W180 (own_neq (by omega))
    have V189 := Vo2.other W180 (own_neq (by omega))
    have V190 := Vo3.other W180 (own_neq (by omega))
    have V191 := Vo4.other W180 (own_neq (by omega))
    have V192 := Vo5.other W180 (own_neq (by omega))
    have V193 := Vo6.other W180 (own_neq (by omega))
    have Zs194 : n0 ≤ h180.size := Nat.le_trans Zs177 (Keep.of_wr W180).1
    have N195 := Fr.snoc X180 N177 (show n0 ≤ aca by omega)
    have V196 : Arv Z h180 aca ck8 .int (2 : Int32) [(.int wc0), (.int (0 : Int32))] (.int (0 : Int32)) := Arv.set Ar180 kc180 Sz180 Nn180 Hs180 Gs180 rfl W180 1 (by first | decide | (show 1 < 2; decide)) (by first | decide | (show 1 < 2; decide))
    show own_Go p e below _ (T180.setTop (mkF m 58 #[oR this, oI (0 : Int32), oI (1 : Int32), oI wc1] []))
    refine own_via (fun t kz => XS.iinc X180.here hx rfl (hb hby d4_58) rfl (l' := #[oR this, oI (1 : Int32), oI (1 : Int32), oI wc1]) rfl kz) ?_
    show own_Go p e below _ (T180.setTop (mkF m 61 #[oR this, oI (1 : Int32), oI (1 : Int32), oI wc1] []))
    refine own_via (fun t kz => XS.goto X180.here hx rfl (pc0 := 61) (pc' := 2) rfl (hb hby d4_61) (by decide) (by decide) kz) ?_
    show own_Go p e below _ (T180.setTop (mkF m 2 #[oR this, oI (1 : Int32), oI (1 : Int32), oI wc1] []))
    refine own_via (fun t kz => XS.iloadN X180.here hx rfl (hb hby d4_2) rfl kz) ?_
    show own_Go p e below _ (T180.setTop (mkF m 3 #[oR this, oI (1 : Int32), oI (1 : Int32), oI wc1] [(.int (1 : Int32))]))
    refine own_via (fun t kz => XS.aloadN X180.here hx rfl (hb hby d4_3) rfl rfl kz) ?_
    show own_Go p e below _ (T180.setTop (mkF m 4 #[oR this, oI (1 : Int32), oI (1 : Int32), oI wc1] [(.ref this), (.int (1 : Int32))]))
    obtain ⟨T197, X197, e197, st197⟩ := getF X180 hx hZ hown (host := "") (Or.inl (own_w hw 28)) Via.refl e180 F186 (g := (mkF m 4 #[oR this, oI (1 : Int32), oI (1 : Int32), oI wc1] [(.ref this), (.int (1 : Int32))])) rfl rfl (hb hby d4_4)
    refine own_via st197 ?_
    show own_Go p e below _ (T197.setTop (mkF m 7 #[oR this, oI (1 : Int32), oI (1 : Int32), oI wc1] [(.int (2 : Int32)), (.int (1 : Int32))]))
    refine own_via (fun t kz => XS.icmpNo X197.here hx rfl (hb hby d4_7) rfl (tlt (by decide : (1 : Int32) < (2 : Int32))).2.1 kz) ?_
    show own_Go p e below _ (T197.setTop (mkF m 10 #[oR this, oI (1 : Int32), oI (1 : Int32), oI wc1] []))
    refine own_via (fun t kz => XS.aloadN X197.here hx rfl (hb hby d4_10) rfl rfl kz) ?_
    show own_Go p e below _ (T197.setTop (mkF m 11 #[oR this, oI (1 : Int32), oI (1 : Int32), oI wc1] [(.ref this)]))
    obtain ⟨T198, X198, e198, st198⟩ := getF X197 hx hZ hown (host := "") (Or.inl (own_w hw 15)) Via.refl e197 F183 (g := (mkF m 11 #[oR this, oI (1 : Int32), oI (1 : Int32), oI wc1] [(.ref this)])) rfl rfl (hb hby d4_11)
    refine own_via st198 ?_
    show own_Go p e below _ (T198.setTop (mkF m 14 #[oR this, oI (1 : Int32), oI (1 : Int32), oI wc1] [(.ref ata)]))
    refine own_via (fun t kz => XS.iloadN X198.here hx rfl (hb hby d4_14) rfl kz) ?_
    show own_Go p e below _ (T198.setTop (mkF m 15 #[oR this, oI (1 : Int32), oI (1 : Int32), oI wc1] [(.int (1 : Int32)), (.ref ata)]))
    obtain ⟨cl199, Ar199, kc199, Sz199, Nn199, Hs199, Gs199⟩ := id V190
    have in199 := inb_of (j := (1 : Int32)) Sz199 ⟨by decide, by decide⟩
    have at199 : cl199.slots[((1 : Int32)).toNatClampNeg]? = some (.int (0 : Int32)) := Hs199.at in199 rfl
    refine own_via (fun t kz => X198.iaload hx (j := (1 : Int32)) (v := (.int (0 : Int32))) (by rw [e198]; exact Ar199.1) (State.isArrayOf_alike hZ.alike Ar199.2.1) Ar199.2.2 in199 at199 (g := (mkF m 15 #[oR this, oI (1 : Int32), oI (1 : Int32), oI wc1] [(.int (1 : Int32)), (.ref ata)])) rfl rfl (hb hby d4_15) t kz) ?_
    show own_Go p e below _ (T198.setTop (mkF m 16 #[oR this, oI (1 : Int32), oI (1 : Int32), oI wc1] [(.int (0 : Int32))]))
    refine own_via (fun t kz => XS.istoreN X198.here hx rfl (hb hby d4_16) rfl (l' := #[oR this, oI (1 : Int32), oI (0 : Int32), oI wc1]) rfl kz) ?_
    show own_Go p e below _ (T198.setTop (mkF m 17 #[oR this, oI (1 : Int32), oI (0 : Int32), oI wc1] []))
    refine own_via (fun t kz => XS.iconst X198.here hx rfl (hb hby d4_17) kz) ?_
    show own_Go p e below _ (T198.setTop (mkF m 18 #[oR this, oI (1 : Int32), oI (0 : Int32), oI wc1] [(.int (0 : Int32))]))
    refine own_via (fun t kz => XS.istoreN X198.here hx rfl (hb hby d4_18) rfl (l' := #[oR this, oI (1 : Int32), oI (0 : Int32), oI (0 : Int32)]) rfl kz) ?_
    have hT200 : own_TC Z h180 n0 this (own_mk wm00 wm01 (0 : Int32) (0 : Int32) (1 : Int32) (0 : Int32) ws00 ws01 ws10 ws11 wc0 (0 : Int32) (2 : Int32)) := ⟨amo, am0, am1, ata, aso, as0, as1, aca, ck1, ck2, ck3, ck4, ck5, ck6, ck7, ck8, ⟨by omega, by omega, by omega, by omega, by omega, by omega, by omega, by omega, by omega⟩, E181, F182, F183, F184, F185, F186, V187, V188, V189, V190, V191, V192, V193, V196⟩
    obtain ⟨B200, st200, T200, h200, lc200, rfl, X200, e200, N200, Zs200, TC200⟩ := own_in0 this (1 : Int32) wm00 wm01 (0 : Int32) (0 : Int32) (1 : Int32) (0 : Int32) ws00 ws01 ws10 ws11 wc0 (0 : Int32) (2 : Int32) X198 hx hZ hw hby hml hown e198 N195 Zs194 hT200 hr0
    refine own_via st200 ?_
    obtain ⟨amo, am0, am1, ata, aso, as0, as1, aca, ck1, ck2, ck3, ck4, ck5, ck6, ck7, ck8, ⟨ch0, ch1, ch2, ch3, ch4, ch5, ch6, ch7, ch8⟩, Eq, Fq0, Fq1, Fq2, Fq3, Fq4, Vq0, Vq1, Vq2, Vq3, Vq4, Vq5, Vq6, Vq7⟩ := TC200
    have Fo0 : Fld Z h200 this "com/example/matchloom/matchloom/league/TouchedCells" "marked" "[[Z" (.ref amo) := Fq0
    have Fo1 : Fld Z h200 this "com/example/matchloom/matchloom/league/TouchedCells" "teams" "[I" (.ref ata) := Fq1
    have Fo2 : Fld Z h200 this "com/example/matchloom/matchloom/league/TouchedCells" "slots" "[[I" (.ref aso) := Fq2
    have Fo3 : Fld Z h200 this "com/example/matchloom/matchloom/league/TouchedCells" "slotCount" "[I" (.ref aca) := Fq3
    have Fo4 : Fld Z h200 this "com/example/matchloom/matchloom/league/TouchedCells" "teamCount" "I" (.int (2 : Int32)) := Fq4
    have Vo0 : Arv Z h200 amo ck1 (.array .boolean) (2 : Int32) [(.ref am0), (.ref am1)] .null := Vq0
    have Vo1 : Arv Z h200 am0 ck2 .boolean (2 : Int32) [(.int (0 : Int32)), (.int (0 : Int32))] (.int (0 : Int32)) := Vq1
    have Vo2 : Arv Z h200 am1 ck3 .boolean (2 : Int32) [(.int (0 : Int32)), (.int (0 : Int32))] (.int (0 : Int32)) := Vq2
    have Vo3 : Arv Z h200 ata ck4 .int (2 : Int32) [(.int (1 : Int32)), (.int (0 : Int32))] (.int (0 : Int32)) := Vq3
    have Vo4 : Arv Z h200 aso ck5 (.array .int) (2 : Int32) [(.ref as0), (.ref as1)] .null := Vq4
    have Vo5 : Arv Z h200 as0 ck6 .int (2 : Int32) [(.int ws00), (.int ws01)] (.int (0 : Int32)) := Vq5
    have Vo6 : Arv Z h200 as1 ck7 .int (2 : Int32) [(.int ws10), (.int ws11)] (.int (0 : Int32)) := Vq6
    have Vo7 : Arv Z h200 aca ck8 .int (2 : Int32) [(.int wc0), (.int (0 : Int32))] (.int (0 : Int32)) := Vq7
    show own_Go p e below _ (T200.setTop (mkF m 51 #[oR this, oI (1 : Int32), oI (0 : Int32), oI wc0] []))
    refine own_via (fun t kz => XS.aloadN X200.here hx rfl (hb hby d4_51) rfl rfl kz) ?_
    show own_Go p e below _ (T200.setTop (mkF m 52 #[oR this, oI (1 : Int32), oI (0 : Int32), oI wc0] [(.ref this)]))
    obtain ⟨T202, X202, e202, st202⟩ := getF X200 hx hZ hown (host := "") (Or.inl (own_w hw 21)) Via.refl e200 Fo3 (g := (mkF m 52 #[oR this, oI (1 : Int32), oI (0 : Int32), oI wc0] [(.ref this)])) rfl rfl (hb hby d4_52)
    refine own_via st202 ?_
    show own_Go p e below _ (T202.setTop (mkF m 55 #[oR this, oI (1 : Int32), oI (0 : Int32), oI wc0] [(.ref aca)]))
    refine own_via (fun t kz => XS.iloadN X202.here hx rfl (hb hby d4_55) rfl kz) ?_
    show own_Go p e below _ (T202.setTop (mkF m 56 #[oR this, oI (1 : Int32), oI (0 : Int32), oI wc0] [(.int (0 : Int32)), (.ref aca)]))
    refine own_via (fun t kz => XS.iconst X202.here hx rfl (hb hby d4_56) kz) ?_
    show own_Go p e below _ (T202.setTop (mkF m 57 #[oR this, oI (1 : Int32), oI (0 : Int32), oI wc0] [(.int (0 : Int32)), (.int (0 : Int32)), (.ref aca)]))
    obtain ⟨cl203, Ar203, kc203, Sz203, Nn203, Hs203, Gs203⟩ := id Vo7
    obtain ⟨T203, h203, X203, e203, W203, st203⟩ := stI X202 hx hZ e202 Ar203 (j := (0 : Int32)) (inb_of Sz203 ⟨by decide, by decide⟩) (g := (mkF m 57 #[oR this, oI (1 : Int32), oI (0 : Int32), oI wc0] [(.int (0 : Int32)), (.int (0 : Int32)), (.ref aca)])) rfl rfl (hb hby d4_57)
    refine own_via st203 ?_
    have E204 := Eq.wr W203
    have F205 := Fo0.other W203 (Or.inl (own_neq (by omega)))
    have F206 := Fo1.other W203 (Or.inl (own_neq (by omega)))
    have F207 := Fo2.other W203 (Or.inl (own_neq (by omega)))
    have F208 := Fo3.other W203 (Or.inl (own_neq (by omega)))
    have F209 := Fo4.other W203 (Or.inl (own_neq (by omega)))
    have V210 := Vo0.other W203 (own_neq (by omega))
    have V211 := Vo1.other W203 (own_neq (by omega))
    have V212 := Vo2.other W203 (own_neq (by omega))
    have V213 := Vo3.other W203 (own_neq (by omega))
    have V214 := Vo4.other W203 (own_neq (by omega))
    have V215 := Vo5.other W203 (own_neq (by omega))
    have V216 := Vo6.other W203 (own_neq (by omega))
    have Zs217 : n0 ≤ h203.size := Nat.le_trans Zs200 (Keep.of_wr W203).1
    have N218 := Fr.snoc X203 N200 (show n0 ≤ aca by omega)
    have V219 : Arv Z h203 aca ck8 .int (2 : Int32) [(.int (0 : Int32)), (.int (0 : Int32))] (.int (0 : Int32)) := Arv.set Ar203 kc203 Sz203 Nn203 Hs203 Gs203 rfl W203 0 (by first | decide | (show 0 < 2; decide)) (by first | decide | (show 0 < 2; decide))
    show own_Go p e below _ (T203.setTop (mkF m 58 #[oR this, oI (1 : Int32), oI (0 : Int32), oI wc0] []))
    refine own_via (fun t kz => XS.iinc X203.here hx rfl (hb hby d4_58) rfl (l' := #[oR this, oI (2 : Int32), oI (0 : Int32), oI wc0]) rfl kz) ?_
    show own_Go p e below _ (T203.setTop (mkF m 61 #[oR this, oI (2 : Int32), oI (0 : Int32), oI wc0] []))
    refine own_via (fun t kz => XS.goto X203.here hx rfl (pc0 := 61) (pc' := 2) rfl (hb hby d4_61) (by decide) (by decide) kz) ?_
    show own_Go p e below _ (T203.setTop (mkF m 2 #[oR this, oI (2 : Int32), oI (0 : Int32), oI wc0] []))
    refine own_via (fun t kz => XS.iloadN X203.here hx rfl (hb hby d4_2) rfl kz) ?_
    show own_Go p e below _ (T203.setTop (mkF m 3 #[oR this, oI (2 : Int32), oI (0 : Int32), oI wc0] [(.int (2 : Int32))]))
    refine own_via (fun t kz => XS.aloadN X203.here hx rfl (hb hby d4_3) rfl rfl kz) ?_
    show own_Go p e below _ (T203.setTop (mkF m 4 #[oR this, oI (2 : Int32), oI (0 : Int32), oI wc0] [(.ref this), (.int (2 : Int32))]))
    obtain ⟨T220, X220, e220, st220⟩ := getF X203 hx hZ hown (host := "") (Or.inl (own_w hw 28)) Via.refl e203 F209 (g := (mkF m 4 #[oR this, oI (2 : Int32), oI (0 : Int32), oI wc0] [(.ref this), (.int (2 : Int32))])) rfl rfl (hb hby d4_4)
    refine own_via st220 ?_
    show own_Go p e below _ (T220.setTop (mkF m 7 #[oR this, oI (2 : Int32), oI (0 : Int32), oI wc0] [(.int (2 : Int32)), (.int (2 : Int32))]))
    refine own_via (fun t kz => XS.icmpYes X220.here hx rfl (pc0 := 7) (pc' := 64) rfl (hb hby d4_7) rfl (flt (by decide : ¬ ((2 : Int32) < (2 : Int32)))).2.1 (by decide) (by decide) kz) ?_
    show own_Go p e below _ (T220.setTop (mkF m 64 #[oR this, oI (2 : Int32), oI (0 : Int32), oI wc0] []))
    refine own_via (fun t kz => XS.aloadN X220.here hx rfl (hb hby d4_64) rfl rfl kz) ?_
    show own_Go p e below _ (T220.setTop (mkF m 65 #[oR this, oI (2 : Int32), oI (0 : Int32), oI wc0] [(.ref this)]))
    refine own_via (fun t kz => XS.iconst X220.here hx rfl (hb hby d4_65) kz) ?_
    show own_Go p e below _ (T220.setTop (mkF m 66 #[oR this, oI (2 : Int32), oI (0 : Int32), oI wc0] [(.int (0 : Int32)), (.ref this)]))
    obtain ⟨T221, h221, X221, e221, W221, st221⟩ := putF X220 hx hZ hown (host := "") (Or.inl (own_w hw 28)) Via.refl e220 F209 E204 (Or.inl (own_w hw 29)) (own_w hw 1) (ty := .int) (by decide) rfl rfl (g := (mkF m 66 #[oR this, oI (2 : Int32), oI (0 : Int32), oI wc0] [(.int (0 : Int32)), (.ref this)])) rfl rfl (hb hby d4_66)
    refine own_via st221 ?_
    have E222 := E204.wr W221
    have F223 := F205.other W221 (Or.inr (slot_ne (Or.inr (own_w hw 13)) (Or.inl (own_w hw 29)) (by decide) (t := (.array (.array .boolean))) (t' := .int) (by decide) (by decide)))
    have F224 := F206.other W221 (Or.inr (slot_ne (Or.inr (own_w hw 16)) (Or.inl (own_w hw 29)) (by decide) (t := (.array .int)) (t' := .int) (by decide) (by decide)))
    have F225 := F207.other W221 (Or.inr (slot_ne (Or.inr (own_w hw 20)) (Or.inl (own_w hw 29)) (by decide) (t := (.array (.array .int))) (t' := .int) (by decide) (by decide)))
    have F226 := F208.other W221 (Or.inr (slot_ne (Or.inr (own_w hw 22)) (Or.inl (own_w hw 29)) (by decide) (t := (.array .int)) (t' := .int) (by decide) (by decide)))
    have F227 := F209.same W221
    have V228 := V210.other W221 (own_neq (by omega))
    have V229 := V211.other W221 (own_neq (by omega))
    have V230 := V212.other W221 (own_neq (by omega))
    have V231 := V213.other W221 (own_neq (by omega))
    have V232 := V214.other W221 (own_neq (by omega))
    have V233 := V215.other W221 (own_neq (by omega))
    have V234 := V216.other W221 (own_neq (by omega))
    have V235 := V219.other W221 (own_neq (by omega))
    have Zs236 : n0 ≤ h221.size := Nat.le_trans Zs217 (Keep.of_wr W221).1
    have N237 := Fr.snoc X221 N218 (show n0 ≤ this by omega)
    show own_Go p e below _ (T221.setTop (mkF m 69 #[oR this, oI (2 : Int32), oI (0 : Int32), oI wc0] []))
    have hT : own_TC Z h221 n0 this (own_mk (0 : Int32) (0 : Int32) (0 : Int32) (0 : Int32) (1 : Int32) (0 : Int32) ws00 ws01 ws10 ws11 (0 : Int32) (0 : Int32) (0 : Int32)) := ⟨amo, am0, am1, ata, aso, as0, as1, aca, ck1, ck2, ck3, ck4, ck5, ck6, ck7, ck8, ⟨by omega, by omega, by omega, by omega, by omega, by omega, by omega, by omega, by omega⟩, E222, F223, F224, F225, F226, F227, V228, V229, V230, V231, V232, V233, V234, V235⟩
    obtain ⟨fs, hr, hrun, hended, hW, hsame⟩ := X221.leave (v := none) (fun _ => rfl)
    refine ⟨_, _, X221.returnOut hx Bd.returns (hb hby d4_69) hr, hrun, hended, _, _, rfl, ?_, ⟨_, rfl⟩, hW, hsame.mono (by decide) (by decide)⟩
    show Q4 Z this wm00 wm01 wm10 wm11 (1 : Int32) (0 : Int32) ws00 ws01 ws10 ws11 wc0 wc1 (2 : Int32) h0 n0 _ T221.heap _
    rw [e221]
    exact ⟨rfl, N237, Zs236, _, _, _, _, _, _, hT⟩
def f5 (wn : Int32) : Int32 := wn
theorem d5_0 : decode prog_45_method_4_code 0 = .ok (.aload_n 0, 1) := by decide +kernel
theorem d5_1 : decode prog_45_method_4_code 1 = .ok (.getfield 26, 3) := by decide +kernel
theorem d5_4 : decode prog_45_method_4_code 4 = .ok (.ireturn, 1) := by decide +kernel
theorem ef_rm5 (m : MethodId) (q0 : Addr) : entryFrame m #[(.ref q0)] 1 = mkF m 0 #[oR q0] [] := by first | (simp [entryFrame, mkF, argsToLocals, Value.category]; done) | rfl
def Q5 (Z : State) (this : Addr) (wm00 : Int32) (wm01 : Int32) (wm10 : Int32) (wm11 : Int32) (wt0 : Int32) (wt1 : Int32) (ws00 : Int32) (ws01 : Int32) (ws10 : Int32) (ws11 : Int32) (wc0 : Int32) (wc1 : Int32) (wn : Int32) (r : Int32) (h0 : Heap) (n0 : Nat) (v : Option Value) (h : Heap) (L : List Loc) : Prop := v = some (.int r) ∧ Fr n0 L ∧ h = h0
set_option maxRecDepth 65536 in
set_option maxHeartbeats 40000000 in
theorem rm5 (l : Launch) (Z : State) (a0 : Array Value) (hw : ∀ d ∈ tables_1, d.before a0 Z = true) (ws : List Jvm.Cond) (this : Addr) (wm00 : Int32) (wm01 : Int32) (wm10 : Int32) (wm11 : Int32) (wt0 : Int32) (wt1 : Int32) (ws00 : Int32) (ws01 : Int32) (ws10 : Int32) (ws11 : Int32) (wc0 : Int32) (wc1 : Int32) (wn : Int32) (r : Int32) (h0 : Heap) (n0 : Nat) (Z0 : n0 ≤ h0.size) (TC : own_TC Z h0 n0 this (own_mk wm00 wm01 wm10 wm11 wt0 wt1 ws00 ws01 ws10 ws11 wc0 wc1 wn)) (hr0 : (f5 wn) = r) :
    MetFree l (⟨"com/example/matchloom/matchloom/league/TouchedCells", "teams", "()I"⟩ : MethodName) (head1 (Jvm.Cond.code (⟨"com/example/matchloom/matchloom/league/TouchedCells", "teams", "()I"⟩ : MethodName) prog_45_method_4_code 1 (some .int) :: ws) ({ frames := 0, cells := 0, slots := 0, locals := 0 } : Room)) (fun a U => a = #[(.ref this)] ∧ Z.Warmed39 U.vm ∧ U.heap = h0) (fun _ _ _ _ _ => True) (fun _ U o U' => ∃ v L, o = .returned v ∧ Q5 Z this wm00 wm01 wm10 wm11 wt0 wt1 ws00 ws01 ws10 ws11 wc0 wc1 wn r h0 n0 v U'.heap L ∧ FrameEnd U o U' L ({ frames := 0, cells := 0, slots := 0, locals := 0 } : Room).cells ({ frames := 0, cells := 0, slots := 0, locals := 0 } : Room).slots) := by
  refine MetFree.of_bodySF (plainFor_of_name pn_1) hisR ?_
  intro p e s m args below meth c s₁ Bd hml0 hP hK
  obtain ⟨rfl, hZ, hh⟩ := hP
  have hx := Bd.exec
  have hby := Bd.bytes
  have hml : c.maxLocals = 1 := hml0
  have hown : s.vm.findClass "com/example/matchloom/matchloom/league/TouchedCells" = some m.cls := findClass_of_methodNamed Bd.named
  have hnm := (name_of_methodNamed Bd.named Bd.method).1
  have X0 : Stand p l e ({ frames := 0, cells := 0, slots := 0, locals := 0 } : Room) s m #[(.ref this)] below meth c s₁ [] 0 0 := Stand.of_body Bd
  have e0 : s₁.heap = h0 := by rw [← hh, Bd.state]; rfl
  have N0 := Fr.nil n0
  refine own_start ?_
  refine own_via (fun t k => castTop (ef_rm5 m this) k) ?_
  obtain ⟨amo, am0, am1, ata, aso, as0, as1, aca, ck1, ck2, ck3, ck4, ck5, ck6, ck7, ck8, ⟨ch0, ch1, ch2, ch3, ch4, ch5, ch6, ch7, ch8⟩, Eq, Fq0, Fq1, Fq2, Fq3, Fq4, Vq0, Vq1, Vq2, Vq3, Vq4, Vq5, Vq6, Vq7⟩ := TC
  have Fo0 : Fld Z h0 this "com/example/matchloom/matchloom/league/TouchedCells" "marked" "[[Z" (.ref amo) := Fq0
  have Fo1 : Fld Z h0 this "com/example/matchloom/matchloom/league/TouchedCells" "teams" "[I" (.ref ata) := Fq1
  have Fo2 : Fld Z h0 this "com/example/matchloom/matchloom/league/TouchedCells" "slots" "[[I" (.ref aso) := Fq2
  have Fo3 : Fld Z h0 this "com/example/matchloom/matchloom/league/TouchedCells" "slotCount" "[I" (.ref aca) := Fq3
  have Fo4 : Fld Z h0 this "com/example/matchloom/matchloom/league/TouchedCells" "teamCount" "I" (.int wn) := Fq4
  have Vo0 : Arv Z h0 amo ck1 (.array .boolean) (2 : Int32) [(.ref am0), (.ref am1)] .null := Vq0
  have Vo1 : Arv Z h0 am0 ck2 .boolean (2 : Int32) [(.int wm00), (.int wm01)] (.int (0 : Int32)) := Vq1
  have Vo2 : Arv Z h0 am1 ck3 .boolean (2 : Int32) [(.int wm10), (.int wm11)] (.int (0 : Int32)) := Vq2
  have Vo3 : Arv Z h0 ata ck4 .int (2 : Int32) [(.int wt0), (.int wt1)] (.int (0 : Int32)) := Vq3
  have Vo4 : Arv Z h0 aso ck5 (.array .int) (2 : Int32) [(.ref as0), (.ref as1)] .null := Vq4
  have Vo5 : Arv Z h0 as0 ck6 .int (2 : Int32) [(.int ws00), (.int ws01)] (.int (0 : Int32)) := Vq5
  have Vo6 : Arv Z h0 as1 ck7 .int (2 : Int32) [(.int ws10), (.int ws11)] (.int (0 : Int32)) := Vq6
  have Vo7 : Arv Z h0 aca ck8 .int (2 : Int32) [(.int wc0), (.int wc1)] (.int (0 : Int32)) := Vq7
  show own_Go p e below _ (s₁.setTop (mkF m 0 #[oR this] []))
  refine own_via (fun t kz => XS.aloadN X0.here hx rfl (hb hby d5_0) rfl rfl kz) ?_
  show own_Go p e below _ (s₁.setTop (mkF m 1 #[oR this] [(.ref this)]))
  obtain ⟨T2, X2, e2, st2⟩ := getF X0 hx hZ hown (host := "") (Or.inl (own_w hw 28)) Via.refl e0 Fo4 (g := (mkF m 1 #[oR this] [(.ref this)])) rfl rfl (hb hby d5_1)
  refine own_via st2 ?_
  show own_Go p e below _ (T2.setTop (mkF m 4 #[oR this] [(.int wn)]))
  have hv : (f5 wn) = wn := by unfold f5; rfl
  obtain ⟨fs, hr, hrun, hended, hW, hsame⟩ := X2.leave (v := some (.int wn)) (fun h => by rw [Bd.returns] at h; cases h)
  refine ⟨_, _, retI X2 hx Bd.returns (hb hby d5_4) hr, hrun, hended, _, _, rfl, ?_, ⟨_, rfl⟩, hW, hsame.mono (by decide) (by decide)⟩
  show Q5 Z this wm00 wm01 wm10 wm11 wt0 wt1 ws00 ws01 ws10 ws11 wc0 wc1 wn r h0 n0 _ T2.heap _
  rw [e2]
  exact ⟨by rw [← hr0, hv], N0, rfl⟩
def f6 (p1 : Int32) (wt0 : Int32) (wt1 : Int32) : Int32 := (if p1 = (0 : Int32) then wt0 else wt1)
theorem d6_0 : decode prog_45_method_5_code 0 = .ok (.aload_n 0, 1) := by decide +kernel
theorem d6_1 : decode prog_45_method_5_code 1 = .ok (.getfield 14, 3) := by decide +kernel
theorem d6_4 : decode prog_45_method_5_code 4 = .ok (.iload_n 1, 1) := by decide +kernel
theorem d6_5 : decode prog_45_method_5_code 5 = .ok (.iaload, 1) := by decide +kernel
theorem d6_6 : decode prog_45_method_5_code 6 = .ok (.ireturn, 1) := by decide +kernel
theorem ef_rm6 (m : MethodId) (q0 : Addr) (q1 : Int32) : entryFrame m #[(.ref q0), (.int q1)] 2 = mkF m 0 #[oR q0, oI q1] [] := by first | (simp [entryFrame, mkF, argsToLocals, Value.category]; done) | rfl
def Q6 (Z : State) (this : Addr) (p1 : Int32) (wm00 : Int32) (wm01 : Int32) (wm10 : Int32) (wm11 : Int32) (wt0 : Int32) (wt1 : Int32) (ws00 : Int32) (ws01 : Int32) (ws10 : Int32) (ws11 : Int32) (wc0 : Int32) (wc1 : Int32) (wn : Int32) (r : Int32) (h0 : Heap) (n0 : Nat) (v : Option Value) (h : Heap) (L : List Loc) : Prop := v = some (.int r) ∧ Fr n0 L ∧ h = h0
set_option maxRecDepth 65536 in
set_option maxHeartbeats 40000000 in
theorem rm6 (l : Launch) (Z : State) (a0 : Array Value) (hw : ∀ d ∈ tables_1, d.before a0 Z = true) (ws : List Jvm.Cond) (this : Addr) (p1 : Int32) (wm00 : Int32) (wm01 : Int32) (wm10 : Int32) (wm11 : Int32) (wt0 : Int32) (wt1 : Int32) (ws00 : Int32) (ws01 : Int32) (ws10 : Int32) (ws11 : Int32) (wc0 : Int32) (wc1 : Int32) (wn : Int32) (r : Int32) (h0 : Heap) (n0 : Nat) (Z0 : n0 ≤ h0.size) (TC : own_TC Z h0 n0 this (own_mk wm00 wm01 wm10 wm11 wt0 wt1 ws00 ws01 ws10 ws11 wc0 wc1 wn)) (ht : p1 = 0 ∨ p1 = 1) (hr0 : (f6 p1 wt0 wt1) = r) :
    MetFree l (⟨"com/example/matchloom/matchloom/league/TouchedCells", "team", "(I)I"⟩ : MethodName) (head1 (Jvm.Cond.code (⟨"com/example/matchloom/matchloom/league/TouchedCells", "team", "(I)I"⟩ : MethodName) prog_45_method_5_code 2 (some .int) :: ws) ({ frames := 0, cells := 0, slots := 0, locals := 0 } : Room)) (fun a U => a = #[(.ref this), (.int p1)] ∧ Z.Warmed39 U.vm ∧ U.heap = h0) (fun _ _ _ _ _ => True) (fun _ U o U' => ∃ v L, o = .returned v ∧ Q6 Z this p1 wm00 wm01 wm10 wm11 wt0 wt1 ws00 ws01 ws10 ws11 wc0 wc1 wn r h0 n0 v U'.heap L ∧ FrameEnd U o U' L ({ frames := 0, cells := 0, slots := 0, locals := 0 } : Room).cells ({ frames := 0, cells := 0, slots := 0, locals := 0 } : Room).slots) := by
  refine MetFree.of_bodySF (plainFor_of_name pn_1) hisR ?_
  intro p e s m args below meth c s₁ Bd hml0 hP hK
  obtain ⟨rfl, hZ, hh⟩ := hP
  have hx := Bd.exec
  have hby := Bd.bytes
  have hml : c.maxLocals = 2 := hml0
  have hown : s.vm.findClass "com/example/matchloom/matchloom/league/TouchedCells" = some m.cls := findClass_of_methodNamed Bd.named
  have hnm := (name_of_methodNamed Bd.named Bd.method).1
  have X0 : Stand p l e ({ frames := 0, cells := 0, slots := 0, locals := 0 } : Room) s m #[(.ref this), (.int p1)] below meth c s₁ [] 0 0 := Stand.of_body Bd
  have e0 : s₁.heap = h0 := by rw [← hh, Bd.state]; rfl
  have N0 := Fr.nil n0
  refine own_start ?_
  refine own_via (fun t k => castTop (ef_rm6 m this p1) k) ?_
  obtain ⟨amo, am0, am1, ata, aso, as0, as1, aca, ck1, ck2, ck3, ck4, ck5, ck6, ck7, ck8, ⟨ch0, ch1, ch2, ch3, ch4, ch5, ch6, ch7, ch8⟩, Eq, Fq0, Fq1, Fq2, Fq3, Fq4, Vq0, Vq1, Vq2, Vq3, Vq4, Vq5, Vq6, Vq7⟩ := TC
  have Fo0 : Fld Z h0 this "com/example/matchloom/matchloom/league/TouchedCells" "marked" "[[Z" (.ref amo) := Fq0
  have Fo1 : Fld Z h0 this "com/example/matchloom/matchloom/league/TouchedCells" "teams" "[I" (.ref ata) := Fq1
  have Fo2 : Fld Z h0 this "com/example/matchloom/matchloom/league/TouchedCells" "slots" "[[I" (.ref aso) := Fq2
  have Fo3 : Fld Z h0 this "com/example/matchloom/matchloom/league/TouchedCells" "slotCount" "[I" (.ref aca) := Fq3
  have Fo4 : Fld Z h0 this "com/example/matchloom/matchloom/league/TouchedCells" "teamCount" "I" (.int wn) := Fq4
  have Vo0 : Arv Z h0 amo ck1 (.array .boolean) (2 : Int32) [(.ref am0), (.ref am1)] .null := Vq0
  have Vo1 : Arv Z h0 am0 ck2 .boolean (2 : Int32) [(.int wm00), (.int wm01)] (.int (0 : Int32)) := Vq1
  have Vo2 : Arv Z h0 am1 ck3 .boolean (2 : Int32) [(.int wm10), (.int wm11)] (.int (0 : Int32)) := Vq2
  have Vo3 : Arv Z h0 ata ck4 .int (2 : Int32) [(.int wt0), (.int wt1)] (.int (0 : Int32)) := Vq3
  have Vo4 : Arv Z h0 aso ck5 (.array .int) (2 : Int32) [(.ref as0), (.ref as1)] .null := Vq4
  have Vo5 : Arv Z h0 as0 ck6 .int (2 : Int32) [(.int ws00), (.int ws01)] (.int (0 : Int32)) := Vq5
  have Vo6 : Arv Z h0 as1 ck7 .int (2 : Int32) [(.int ws10), (.int ws11)] (.int (0 : Int32)) := Vq6
  have Vo7 : Arv Z h0 aca ck8 .int (2 : Int32) [(.int wc0), (.int wc1)] (.int (0 : Int32)) := Vq7
  rcases ht with rfl | rfl
  · show own_Go p e below _ (s₁.setTop (mkF m 0 #[oR this, oI (0 : Int32)] []))
    refine own_via (fun t kz => XS.aloadN X0.here hx rfl (hb hby d6_0) rfl rfl kz) ?_
    show own_Go p e below _ (s₁.setTop (mkF m 1 #[oR this, oI (0 : Int32)] [(.ref this)]))
    obtain ⟨T2, X2, e2, st2⟩ := getF X0 hx hZ hown (host := "") (Or.inl (own_w hw 15)) Via.refl e0 Fo1 (g := (mkF m 1 #[oR this, oI (0 : Int32)] [(.ref this)])) rfl rfl (hb hby d6_1)
    refine own_via st2 ?_
    show own_Go p e below _ (T2.setTop (mkF m 4 #[oR this, oI (0 : Int32)] [(.ref ata)]))
    refine own_via (fun t kz => XS.iloadN X2.here hx rfl (hb hby d6_4) rfl kz) ?_
    show own_Go p e below _ (T2.setTop (mkF m 5 #[oR this, oI (0 : Int32)] [(.int (0 : Int32)), (.ref ata)]))
    obtain ⟨cl3, Ar3, kc3, Sz3, Nn3, Hs3, Gs3⟩ := id Vo3
    have in3 := inb_of (j := (0 : Int32)) Sz3 ⟨by decide, by decide⟩
    have at3 : cl3.slots[((0 : Int32)).toNatClampNeg]? = some (.int wt0) := Hs3.at in3 rfl
    refine own_via (fun t kz => X2.iaload hx (j := (0 : Int32)) (v := (.int wt0)) (by rw [e2]; exact Ar3.1) (State.isArrayOf_alike hZ.alike Ar3.2.1) Ar3.2.2 in3 at3 (g := (mkF m 5 #[oR this, oI (0 : Int32)] [(.int (0 : Int32)), (.ref ata)])) rfl rfl (hb hby d6_5) t kz) ?_
    show own_Go p e below _ (T2.setTop (mkF m 6 #[oR this, oI (0 : Int32)] [(.int wt0)]))
    have hv : (f6 (0 : Int32) wt0 wt1) = wt0 := by unfold f6; rw [if_pos (by decide : (0 : Int32) = (0 : Int32))]
    obtain ⟨fs, hr, hrun, hended, hW, hsame⟩ := X2.leave (v := some (.int wt0)) (fun h => by rw [Bd.returns] at h; cases h)
    refine ⟨_, _, retI X2 hx Bd.returns (hb hby d6_6) hr, hrun, hended, _, _, rfl, ?_, ⟨_, rfl⟩, hW, hsame.mono (by decide) (by decide)⟩
    show Q6 Z this (0 : Int32) wm00 wm01 wm10 wm11 wt0 wt1 ws00 ws01 ws10 ws11 wc0 wc1 wn r h0 n0 _ T2.heap _
    rw [e2]
    exact ⟨by rw [← hr0, hv], N0, rfl⟩
  · show own_Go p e below _ (s₁.setTop (mkF m 0 #[oR this, oI (1 : Int32)] []))
    refine own_via (fun t kz => XS.aloadN X0.here hx rfl (hb hby d6_0) rfl rfl kz) ?_
    show own_Go p e below _ (s₁.setTop (mkF m 1 #[oR this, oI (1 : Int32)] [(.ref this)]))
    obtain ⟨T5, X5, e5, st5⟩ := getF X0 hx hZ hown (host := "") (Or.inl (own_w hw 15)) Via.refl e0 Fo1 (g := (mkF m 1 #[oR this, oI (1 : Int32)] [(.ref this)])) rfl rfl (hb hby d6_1)
    refine own_via st5 ?_
    show own_Go p e below _ (T5.setTop (mkF m 4 #[oR this, oI (1 : Int32)] [(.ref ata)]))
    refine own_via (fun t kz => XS.iloadN X5.here hx rfl (hb hby d6_4) rfl kz) ?_
    show own_Go p e below _ (T5.setTop (mkF m 5 #[oR this, oI (1 : Int32)] [(.int (1 : Int32)), (.ref ata)]))
    obtain ⟨cl6, Ar6, kc6, Sz6, Nn6, Hs6, Gs6⟩ := id Vo3
    have in6 := inb_of (j := (1 : Int32)) Sz6 ⟨by decide, by decide⟩
    have at6 : cl6.slots[((1 : Int32)).toNatClampNeg]? = some (.int wt1) := Hs6.at in6 rfl
    refine own_via (fun t kz => X5.iaload hx (j := (1 : Int32)) (v := (.int wt1)) (by rw [e5]; exact Ar6.1) (State.isArrayOf_alike hZ.alike Ar6.2.1) Ar6.2.2 in6 at6 (g := (mkF m 5 #[oR this, oI (1 : Int32)] [(.int (1 : Int32)), (.ref ata)])) rfl rfl (hb hby d6_5) t kz) ?_
    show own_Go p e below _ (T5.setTop (mkF m 6 #[oR this, oI (1 : Int32)] [(.int wt1)]))
    have hv : (f6 (1 : Int32) wt0 wt1) = wt1 := by unfold f6; rw [if_neg (by decide : ¬ ((1 : Int32) = (0 : Int32)))]
    obtain ⟨fs, hr, hrun, hended, hW, hsame⟩ := X5.leave (v := some (.int wt1)) (fun h => by rw [Bd.returns] at h; cases h)
    refine ⟨_, _, retI X5 hx Bd.returns (hb hby d6_6) hr, hrun, hended, _, _, rfl, ?_, ⟨_, rfl⟩, hW, hsame.mono (by decide) (by decide)⟩
    show Q6 Z this (1 : Int32) wm00 wm01 wm10 wm11 wt0 wt1 ws00 ws01 ws10 ws11 wc0 wc1 wn r h0 n0 _ T5.heap _
    rw [e5]
    exact ⟨by rw [← hr0, hv], N0, rfl⟩
def f7 (p1 : Int32) (wc0 : Int32) (wc1 : Int32) : Int32 := (if p1 = (0 : Int32) then wc0 else wc1)
theorem d7_0 : decode prog_45_method_6_code 0 = .ok (.aload_n 0, 1) := by decide +kernel
theorem d7_1 : decode prog_45_method_6_code 1 = .ok (.getfield 23, 3) := by decide +kernel
theorem d7_4 : decode prog_45_method_6_code 4 = .ok (.iload_n 1, 1) := by decide +kernel
theorem d7_5 : decode prog_45_method_6_code 5 = .ok (.iaload, 1) := by decide +kernel
theorem d7_6 : decode prog_45_method_6_code 6 = .ok (.ireturn, 1) := by decide +kernel
theorem ef_rm7 (m : MethodId) (q0 : Addr) (q1 : Int32) : entryFrame m #[(.ref q0), (.int q1)] 2 = mkF m 0 #[oR q0, oI q1] [] := by first | (simp [entryFrame, mkF, argsToLocals, Value.category]; done) | rfl
def Q7 (Z : State) (this : Addr) (p1 : Int32) (wm00 : Int32) (wm01 : Int32) (wm10 : Int32) (wm11 : Int32) (wt0 : Int32) (wt1 : Int32) (ws00 : Int32) (ws01 : Int32) (ws10 : Int32) (ws11 : Int32) (wc0 : Int32) (wc1 : Int32) (wn : Int32) (r : Int32) (h0 : Heap) (n0 : Nat) (v : Option Value) (h : Heap) (L : List Loc) : Prop := v = some (.int r) ∧ Fr n0 L ∧ h = h0
set_option maxRecDepth 65536 in
set_option maxHeartbeats 40000000 in
theorem rm7 (l : Launch) (Z : State) (a0 : Array Value) (hw : ∀ d ∈ tables_1, d.before a0 Z = true) (ws : List Jvm.Cond) (this : Addr) (p1 : Int32) (wm00 : Int32) (wm01 : Int32) (wm10 : Int32) (wm11 : Int32) (wt0 : Int32) (wt1 : Int32) (ws00 : Int32) (ws01 : Int32) (ws10 : Int32) (ws11 : Int32) (wc0 : Int32) (wc1 : Int32) (wn : Int32) (r : Int32) (h0 : Heap) (n0 : Nat) (Z0 : n0 ≤ h0.size) (TC : own_TC Z h0 n0 this (own_mk wm00 wm01 wm10 wm11 wt0 wt1 ws00 ws01 ws10 ws11 wc0 wc1 wn)) (ht : p1 = 0 ∨ p1 = 1) (hr0 : (f7 p1 wc0 wc1) = r) :
    MetFree l (⟨"com/example/matchloom/matchloom/league/TouchedCells", "slots", "(I)I"⟩ : MethodName) (head1 (Jvm.Cond.code (⟨"com/example/matchloom/matchloom/league/TouchedCells", "slots", "(I)I"⟩ : MethodName) prog_45_method_6_code 2 (some .int) :: ws) ({ frames := 0, cells := 0, slots := 0, locals := 0 } : Room)) (fun a U => a = #[(.ref this), (.int p1)] ∧ Z.Warmed39 U.vm ∧ U.heap = h0) (fun _ _ _ _ _ => True) (fun _ U o U' => ∃ v L, o = .returned v ∧ Q7 Z this p1 wm00 wm01 wm10 wm11 wt0 wt1 ws00 ws01 ws10 ws11 wc0 wc1 wn r h0 n0 v U'.heap L ∧ FrameEnd U o U' L ({ frames := 0, cells := 0, slots := 0, locals := 0 } : Room).cells ({ frames := 0, cells := 0, slots := 0, locals := 0 } : Room).slots) := by
  refine MetFree.of_bodySF (plainFor_of_name pn_1) hisR ?_
  intro p e s m args below meth c s₁ Bd hml0 hP hK
  obtain ⟨rfl, hZ, hh⟩ := hP
  have hx := Bd.exec
  have hby := Bd.bytes
  have hml : c.maxLocals = 2 := hml0
  have hown : s.vm.findClass "com/example/matchloom/matchloom/league/TouchedCells" = some m.cls := findClass_of_methodNamed Bd.named
  have hnm := (name_of_methodNamed Bd.named Bd.method).1
  have X0 : Stand p l e ({ frames := 0, cells := 0, slots := 0, locals := 0 } : Room) s m #[(.ref this), (.int p1)] below meth c s₁ [] 0 0 := Stand.of_body Bd
  have e0 : s₁.heap = h0 := by rw [← hh, Bd.state]; rfl
  have N0 := Fr.nil n0
  refine own_start ?_
  refine own_via (fun t k => castTop (ef_rm7 m this p1) k) ?_
  obtain ⟨amo, am0, am1, ata, aso, as0, as1, aca, ck1, ck2, ck3, ck4, ck5, ck6, ck7, ck8, ⟨ch0, ch1, ch2, ch3, ch4, ch5, ch6, ch7, ch8⟩, Eq, Fq0, Fq1, Fq2, Fq3, Fq4, Vq0, Vq1, Vq2, Vq3, Vq4, Vq5, Vq6, Vq7⟩ := TC
  have Fo0 : Fld Z h0 this "com/example/matchloom/matchloom/league/TouchedCells" "marked" "[[Z" (.ref amo) := Fq0
  have Fo1 : Fld Z h0 this "com/example/matchloom/matchloom/league/TouchedCells" "teams" "[I" (.ref ata) := Fq1
  have Fo2 : Fld Z h0 this "com/example/matchloom/matchloom/league/TouchedCells" "slots" "[[I" (.ref aso) := Fq2
  have Fo3 : Fld Z h0 this "com/example/matchloom/matchloom/league/TouchedCells" "slotCount" "[I" (.ref aca) := Fq3
  have Fo4 : Fld Z h0 this "com/example/matchloom/matchloom/league/TouchedCells" "teamCount" "I" (.int wn) := Fq4
  have Vo0 : Arv Z h0 amo ck1 (.array .boolean) (2 : Int32) [(.ref am0), (.ref am1)] .null := Vq0
  have Vo1 : Arv Z h0 am0 ck2 .boolean (2 : Int32) [(.int wm00), (.int wm01)] (.int (0 : Int32)) := Vq1
  have Vo2 : Arv Z h0 am1 ck3 .boolean (2 : Int32) [(.int wm10), (.int wm11)] (.int (0 : Int32)) := Vq2
  have Vo3 : Arv Z h0 ata ck4 .int (2 : Int32) [(.int wt0), (.int wt1)] (.int (0 : Int32)) := Vq3
  have Vo4 : Arv Z h0 aso ck5 (.array .int) (2 : Int32) [(.ref as0), (.ref as1)] .null := Vq4
  have Vo5 : Arv Z h0 as0 ck6 .int (2 : Int32) [(.int ws00), (.int ws01)] (.int (0 : Int32)) := Vq5
  have Vo6 : Arv Z h0 as1 ck7 .int (2 : Int32) [(.int ws10), (.int ws11)] (.int (0 : Int32)) := Vq6
  have Vo7 : Arv Z h0 aca ck8 .int (2 : Int32) [(.int wc0), (.int wc1)] (.int (0 : Int32)) := Vq7
  rcases ht with rfl | rfl
  · show own_Go p e below _ (s₁.setTop (mkF m 0 #[oR this, oI (0 : Int32)] []))
    refine own_via (fun t kz => XS.aloadN X0.here hx rfl (hb hby d7_0) rfl rfl kz) ?_
    show own_Go p e below _ (s₁.setTop (mkF m 1 #[oR this, oI (0 : Int32)] [(.ref this)]))
    obtain ⟨T2, X2, e2, st2⟩ := getF X0 hx hZ hown (host := "") (Or.inl (own_w hw 21)) Via.refl e0 Fo3 (g := (mkF m 1 #[oR this, oI (0 : Int32)] [(.ref this)])) rfl rfl (hb hby d7_1)
    refine own_via st2 ?_
    show own_Go p e below _ (T2.setTop (mkF m 4 #[oR this, oI (0 : Int32)] [(.ref aca)]))
    refine own_via (fun t kz => XS.iloadN X2.here hx rfl (hb hby d7_4) rfl kz) ?_
    show own_Go p e below _ (T2.setTop (mkF m 5 #[oR this, oI (0 : Int32)] [(.int (0 : Int32)), (.ref aca)]))
    obtain ⟨cl3, Ar3, kc3, Sz3, Nn3, Hs3, Gs3⟩ := id Vo7
    have in3 := inb_of (j := (0 : Int32)) Sz3 ⟨by decide, by decide⟩
    have at3 : cl3.slots[((0 : Int32)).toNatClampNeg]? = some (.int wc0) := Hs3.at in3 rfl
    refine own_via (fun t kz => X2.iaload hx (j := (0 : Int32)) (v := (.int wc0)) (by rw [e2]; exact Ar3.1) (State.isArrayOf_alike hZ.alike Ar3.2.1) Ar3.2.2 in3 at3 (g := (mkF m 5 #[oR this, oI (0 : Int32)] [(.int (0 : Int32)), (.ref aca)])) rfl rfl (hb hby d7_5) t kz) ?_
    show own_Go p e below _ (T2.setTop (mkF m 6 #[oR this, oI (0 : Int32)] [(.int wc0)]))
    have hv : (f7 (0 : Int32) wc0 wc1) = wc0 := by unfold f7; rw [if_pos (by decide : (0 : Int32) = (0 : Int32))]
    obtain ⟨fs, hr, hrun, hended, hW, hsame⟩ := X2.leave (v := some (.int wc0)) (fun h => by rw [Bd.returns] at h; cases h)
    refine ⟨_, _, retI X2 hx Bd.returns (hb hby d7_6) hr, hrun, hended, _, _, rfl, ?_, ⟨_, rfl⟩, hW, hsame.mono (by decide) (by decide)⟩
    show Q7 Z this (0 : Int32) wm00 wm01 wm10 wm11 wt0 wt1 ws00 ws01 ws10 ws11 wc0 wc1 wn r h0 n0 _ T2.heap _
    rw [e2]
    exact ⟨by rw [← hr0, hv], N0, rfl⟩
  · show own_Go p e below _ (s₁.setTop (mkF m 0 #[oR this, oI (1 : Int32)] []))
    refine own_via (fun t kz => XS.aloadN X0.here hx rfl (hb hby d7_0) rfl rfl kz) ?_
    show own_Go p e below _ (s₁.setTop (mkF m 1 #[oR this, oI (1 : Int32)] [(.ref this)]))
    obtain ⟨T5, X5, e5, st5⟩ := getF X0 hx hZ hown (host := "") (Or.inl (own_w hw 21)) Via.refl e0 Fo3 (g := (mkF m 1 #[oR this, oI (1 : Int32)] [(.ref this)])) rfl rfl (hb hby d7_1)
    refine own_via st5 ?_
    show own_Go p e below _ (T5.setTop (mkF m 4 #[oR this, oI (1 : Int32)] [(.ref aca)]))
    refine own_via (fun t kz => XS.iloadN X5.here hx rfl (hb hby d7_4) rfl kz) ?_
    show own_Go p e below _ (T5.setTop (mkF m 5 #[oR this, oI (1 : Int32)] [(.int (1 : Int32)), (.ref aca)]))
    obtain ⟨cl6, Ar6, kc6, Sz6, Nn6, Hs6, Gs6⟩ := id Vo7
    have in6 := inb_of (j := (1 : Int32)) Sz6 ⟨by decide, by decide⟩
    have at6 : cl6.slots[((1 : Int32)).toNatClampNeg]? = some (.int wc1) := Hs6.at in6 rfl
    refine own_via (fun t kz => X5.iaload hx (j := (1 : Int32)) (v := (.int wc1)) (by rw [e5]; exact Ar6.1) (State.isArrayOf_alike hZ.alike Ar6.2.1) Ar6.2.2 in6 at6 (g := (mkF m 5 #[oR this, oI (1 : Int32)] [(.int (1 : Int32)), (.ref aca)])) rfl rfl (hb hby d7_5) t kz) ?_
    show own_Go p e below _ (T5.setTop (mkF m 6 #[oR this, oI (1 : Int32)] [(.int wc1)]))
    have hv : (f7 (1 : Int32) wc0 wc1) = wc1 := by unfold f7; rw [if_neg (by decide : ¬ ((1 : Int32) = (0 : Int32)))]
    obtain ⟨fs, hr, hrun, hended, hW, hsame⟩ := X5.leave (v := some (.int wc1)) (fun h => by rw [Bd.returns] at h; cases h)
    refine ⟨_, _, retI X5 hx Bd.returns (hb hby d7_6) hr, hrun, hended, _, _, rfl, ?_, ⟨_, rfl⟩, hW, hsame.mono (by decide) (by decide)⟩
    show Q7 Z this (1 : Int32) wm00 wm01 wm10 wm11 wt0 wt1 ws00 ws01 ws10 ws11 wc0 wc1 wn r h0 n0 _ T5.heap _
    rw [e5]
    exact ⟨by rw [← hr0, hv], N0, rfl⟩
def f8 (p1 : Int32) (p2 : Int32) (ws00 : Int32) (ws01 : Int32) (ws10 : Int32) (ws11 : Int32) : Int32 := (if p1 = (0 : Int32) then (if p2 = (0 : Int32) then ws00 else ws01) else (if p2 = (0 : Int32) then ws10 else ws11))
theorem d8_0 : decode prog_45_method_7_code 0 = .ok (.aload_n 0, 1) := by decide +kernel
theorem d8_1 : decode prog_45_method_7_code 1 = .ok (.getfield 20, 3) := by decide +kernel
theorem d8_4 : decode prog_45_method_7_code 4 = .ok (.iload_n 1, 1) := by decide +kernel
theorem d8_5 : decode prog_45_method_7_code 5 = .ok (.aaload, 1) := by decide +kernel
theorem d8_6 : decode prog_45_method_7_code 6 = .ok (.iload_n 2, 1) := by decide +kernel
theorem d8_7 : decode prog_45_method_7_code 7 = .ok (.iaload, 1) := by decide +kernel
theorem d8_8 : decode prog_45_method_7_code 8 = .ok (.ireturn, 1) := by decide +kernel
theorem ef_rm8 (m : MethodId) (q0 : Addr) (q1 : Int32) (q2 : Int32) : entryFrame m #[(.ref q0), (.int q1), (.int q2)] 3 = mkF m 0 #[oR q0, oI q1, oI q2] [] := by first | (simp [entryFrame, mkF, argsToLocals, Value.category]; done) | rfl
def Q8 (Z : State) (this : Addr) (p1 : Int32) (p2 : Int32) (wm00 : Int32) (wm01 : Int32) (wm10 : Int32) (wm11 : Int32) (wt0 : Int32) (wt1 : Int32) (ws00 : Int32) (ws01 : Int32) (ws10 : Int32) (ws11 : Int32) (wc0 : Int32) (wc1 : Int32) (wn : Int32) (r : Int32) (h0 : Heap) (n0 : Nat) (v : Option Value) (h : Heap) (L : List Loc) : Prop := v = some (.int r) ∧ Fr n0 L ∧ h = h0
set_option maxRecDepth 65536 in
set_option maxHeartbeats 40000000 in
theorem rm8 (l : Launch) (Z : State) (a0 : Array Value) (hw : ∀ d ∈ tables_1, d.before a0 Z = true) (ws : List Jvm.Cond) (this : Addr) (p1 : Int32) (p2 : Int32) (wm00 : Int32) (wm01 : Int32) (wm10 : Int32) (wm11 : Int32) (wt0 : Int32) (wt1 : Int32) (ws00 : Int32) (ws01 : Int32) (ws10 : Int32) (ws11 : Int32) (wc0 : Int32) (wc1 : Int32) (wn : Int32) (r : Int32) (h0 : Heap) (n0 : Nat) (Z0 : n0 ≤ h0.size) (TC : own_TC Z h0 n0 this (own_mk wm00 wm01 wm10 wm11 wt0 wt1 ws00 ws01 ws10 ws11 wc0 wc1 wn)) (ht : p1 = 0 ∨ p1 = 1) (hs : p2 = 0 ∨ p2 = 1) (hr0 : (f8 p1 p2 ws00 ws01 ws10 ws11) = r) :
    MetFree l (⟨"com/example/matchloom/matchloom/league/TouchedCells", "slot", "(II)I"⟩ : MethodName) (head1 (Jvm.Cond.code (⟨"com/example/matchloom/matchloom/league/TouchedCells", "slot", "(II)I"⟩ : MethodName) prog_45_method_7_code 3 (some .int) :: ws) ({ frames := 0, cells := 0, slots := 0, locals := 0 } : Room)) (fun a U => a = #[(.ref this), (.int p1), (.int p2)] ∧ Z.Warmed39 U.vm ∧ U.heap = h0) (fun _ _ _ _ _ => True) (fun _ U o U' => ∃ v L, o = .returned v ∧ Q8 Z this p1 p2 wm00 wm01 wm10 wm11 wt0 wt1 ws00 ws01 ws10 ws11 wc0 wc1 wn r h0 n0 v U'.heap L ∧ FrameEnd U o U' L ({ frames := 0, cells := 0, slots := 0, locals := 0 } : Room).cells ({ frames := 0, cells := 0, slots := 0, locals := 0 } : Room).slots) := by
  refine MetFree.of_bodySF (plainFor_of_name pn_1) hisR ?_
  intro p e s m args below meth c s₁ Bd hml0 hP hK
  obtain ⟨rfl, hZ, hh⟩ := hP
  have hx := Bd.exec
  have hby := Bd.bytes
  have hml : c.maxLocals = 3 := hml0
  have hown : s.vm.findClass "com/example/matchloom/matchloom/league/TouchedCells" = some m.cls := findClass_of_methodNamed Bd.named
  have hnm := (name_of_methodNamed Bd.named Bd.method).1
  have X0 : Stand p l e ({ frames := 0, cells := 0, slots := 0, locals := 0 } : Room) s m #[(.ref this), (.int p1), (.int p2)] below meth c s₁ [] 0 0 := Stand.of_body Bd
  have e0 : s₁.heap = h0 := by rw [← hh, Bd.state]; rfl
  have N0 := Fr.nil n0
  refine own_start ?_
  refine own_via (fun t k => castTop (ef_rm8 m this p1 p2) k) ?_
  obtain ⟨amo, am0, am1, ata, aso, as0, as1, aca, ck1, ck2, ck3, ck4, ck5, ck6, ck7, ck8, ⟨ch0, ch1, ch2, ch3, ch4, ch5, ch6, ch7, ch8⟩, Eq, Fq0, Fq1, Fq2, Fq3, Fq4, Vq0, Vq1, Vq2, Vq3, Vq4, Vq5, Vq6, Vq7⟩ := TC
  have Fo0 : Fld Z h0 this "com/example/matchloom/matchloom/league/TouchedCells" "marked" "[[Z" (.ref amo) := Fq0
  have Fo1 : Fld Z h0 this "com/example/matchloom/matchloom/league/TouchedCells" "teams" "[I" (.ref ata) := Fq1
  have Fo2 : Fld Z h0 this "com/example/matchloom/matchloom/league/TouchedCells" "slots" "[[I" (.ref aso) := Fq2
  have Fo3 : Fld Z h0 this "com/example/matchloom/matchloom/league/TouchedCells" "slotCount" "[I" (.ref aca) := Fq3
  have Fo4 : Fld Z h0 this "com/example/matchloom/matchloom/league/TouchedCells" "teamCount" "I" (.int wn) := Fq4
  have Vo0 : Arv Z h0 amo ck1 (.array .boolean) (2 : Int32) [(.ref am0), (.ref am1)] .null := Vq0
  have Vo1 : Arv Z h0 am0 ck2 .boolean (2 : Int32) [(.int wm00), (.int wm01)] (.int (0 : Int32)) := Vq1
  have Vo2 : Arv Z h0 am1 ck3 .boolean (2 : Int32) [(.int wm10), (.int wm11)] (.int (0 : Int32)) := Vq2
  have Vo3 : Arv Z h0 ata ck4 .int (2 : Int32) [(.int wt0), (.int wt1)] (.int (0 : Int32)) := Vq3
  have Vo4 : Arv Z h0 aso ck5 (.array .int) (2 : Int32) [(.ref as0), (.ref as1)] .null := Vq4
  have Vo5 : Arv Z h0 as0 ck6 .int (2 : Int32) [(.int ws00), (.int ws01)] (.int (0 : Int32)) := Vq5
  have Vo6 : Arv Z h0 as1 ck7 .int (2 : Int32) [(.int ws10), (.int ws11)] (.int (0 : Int32)) := Vq6
  have Vo7 : Arv Z h0 aca ck8 .int (2 : Int32) [(.int wc0), (.int wc1)] (.int (0 : Int32)) := Vq7
  rcases ht with rfl | rfl
  · rcases hs with rfl | rfl
    · show own_Go p e below _ (s₁.setTop (mkF m 0 #[oR this, oI (0 : Int32), oI (0 : Int32)] []))
      refine own_via (fun t kz => XS.aloadN X0.here hx rfl (hb hby d8_0) rfl rfl kz) ?_
      show own_Go p e below _ (s₁.setTop (mkF m 1 #[oR this, oI (0 : Int32), oI (0 : Int32)] [(.ref this)]))
      obtain ⟨T2, X2, e2, st2⟩ := getF X0 hx hZ hown (host := "") (Or.inl (own_w hw 19)) Via.refl e0 Fo2 (g := (mkF m 1 #[oR this, oI (0 : Int32), oI (0 : Int32)] [(.ref this)])) rfl rfl (hb hby d8_1)
      refine own_via st2 ?_
      show own_Go p e below _ (T2.setTop (mkF m 4 #[oR this, oI (0 : Int32), oI (0 : Int32)] [(.ref aso)]))
      refine own_via (fun t kz => XS.iloadN X2.here hx rfl (hb hby d8_4) rfl kz) ?_
      show own_Go p e below _ (T2.setTop (mkF m 5 #[oR this, oI (0 : Int32), oI (0 : Int32)] [(.int (0 : Int32)), (.ref aso)]))
      obtain ⟨cl3, Ar3, kc3, Sz3, Nn3, Hs3, Gs3⟩ := id Vo4
      have in3 := inb_of (j := (0 : Int32)) Sz3 ⟨by decide, by decide⟩
      have at3 : cl3.slots[((0 : Int32)).toNatClampNeg]? = some (.ref as0) := Hs3.at in3 rfl
      refine own_via (fun t kz => X2.aaload hx (j := (0 : Int32)) (v := (.ref as0)) (by rw [e2]; exact Ar3.1) (State.isArrayOf_alike hZ.alike Ar3.2.1) rfl Ar3.2.2 in3 at3 (g := (mkF m 5 #[oR this, oI (0 : Int32), oI (0 : Int32)] [(.int (0 : Int32)), (.ref aso)])) rfl rfl (hb hby d8_5) t kz) ?_
      show own_Go p e below _ (T2.setTop (mkF m 6 #[oR this, oI (0 : Int32), oI (0 : Int32)] [(.ref as0)]))
      refine own_via (fun t kz => XS.iloadN X2.here hx rfl (hb hby d8_6) rfl kz) ?_
      show own_Go p e below _ (T2.setTop (mkF m 7 #[oR this, oI (0 : Int32), oI (0 : Int32)] [(.int (0 : Int32)), (.ref as0)]))
      obtain ⟨cl4, Ar4, kc4, Sz4, Nn4, Hs4, Gs4⟩ := id Vo5
      have in4 := inb_of (j := (0 : Int32)) Sz4 ⟨by decide, by decide⟩
      have at4 : cl4.slots[((0 : Int32)).toNatClampNeg]? = some (.int ws00) := Hs4.at in4 rfl
      refine own_via (fun t kz => X2.iaload hx (j := (0 : Int32)) (v := (.int ws00)) (by rw [e2]; exact Ar4.1) (State.isArrayOf_alike hZ.alike Ar4.2.1) Ar4.2.2 in4 at4 (g := (mkF m 7 #[oR this, oI (0 : Int32), oI (0 : Int32)] [(.int (0 : Int32)), (.ref as0)])) rfl rfl (hb hby d8_7) t kz) ?_
      show own_Go p e below _ (T2.setTop (mkF m 8 #[oR this, oI (0 : Int32), oI (0 : Int32)] [(.int ws00)]))
      have hv : (f8 (0 : Int32) (0 : Int32) ws00 ws01 ws10 ws11) = ws00 := by unfold f8; rw [if_pos (by decide : (0 : Int32) = (0 : Int32)), if_pos (by decide : (0 : Int32) = (0 : Int32))]
      obtain ⟨fs, hr, hrun, hended, hW, hsame⟩ := X2.leave (v := some (.int ws00)) (fun h => by rw [Bd.returns] at h; cases h)
      refine ⟨_, _, retI X2 hx Bd.returns (hb hby d8_8) hr, hrun, hended, _, _, rfl, ?_, ⟨_, rfl⟩, hW, hsame.mono (by decide) (by decide)⟩
      show Q8 Z this (0 : Int32) (0 : Int32) wm00 wm01 wm10 wm11 wt0 wt1 ws00 ws01 ws10 ws11 wc0 wc1 wn r h0 n0 _ T2.heap _
      rw [e2]
      exact ⟨by rw [← hr0, hv], N0, rfl⟩
    · show own_Go p e below _ (s₁.setTop (mkF m 0 #[oR this, oI (0 : Int32), oI (1 : Int32)] []))
      refine own_via (fun t kz => XS.aloadN X0.here hx rfl (hb hby d8_0) rfl rfl kz) ?_
      show own_Go p e below _ (s₁.setTop (mkF m 1 #[oR this, oI (0 : Int32), oI (1 : Int32)] [(.ref this)]))
      obtain ⟨T6, X6, e6, st6⟩ := getF X0 hx hZ hown (host := "") (Or.inl (own_w hw 19)) Via.refl e0 Fo2 (g := (mkF m 1 #[oR this, oI (0 : Int32), oI (1 : Int32)] [(.ref this)])) rfl rfl (hb hby d8_1)
      refine own_via st6 ?_
      show own_Go p e below _ (T6.setTop (mkF m 4 #[oR this, oI (0 : Int32), oI (1 : Int32)] [(.ref aso)]))
      refine own_via (fun t kz => XS.iloadN X6.here hx rfl (hb hby d8_4) rfl kz) ?_
      show own_Go p e below _ (T6.setTop (mkF m 5 #[oR this, oI (0 : Int32), oI (1 : Int32)] [(.int (0 : Int32)), (.ref aso)]))
      obtain ⟨cl7, Ar7, kc7, Sz7, Nn7, Hs7, Gs7⟩ := id Vo4
      have in7 := inb_of (j := (0 : Int32)) Sz7 ⟨by decide, by decide⟩
      have at7 : cl7.slots[((0 : Int32)).toNatClampNeg]? = some (.ref as0) := Hs7.at in7 rfl
      refine own_via (fun t kz => X6.aaload hx (j := (0 : Int32)) (v := (.ref as0)) (by rw [e6]; exact Ar7.1) (State.isArrayOf_alike hZ.alike Ar7.2.1) rfl Ar7.2.2 in7 at7 (g := (mkF m 5 #[oR this, oI (0 : Int32), oI (1 : Int32)] [(.int (0 : Int32)), (.ref aso)])) rfl rfl (hb hby d8_5) t kz) ?_
      show own_Go p e below _ (T6.setTop (mkF m 6 #[oR this, oI (0 : Int32), oI (1 : Int32)] [(.ref as0)]))
      refine own_via (fun t kz => XS.iloadN X6.here hx rfl (hb hby d8_6) rfl kz) ?_
      show own_Go p e below _ (T6.setTop (mkF m 7 #[oR this, oI (0 : Int32), oI (1 : Int32)] [(.int (1 : Int32)), (.ref as0)]))
      obtain ⟨cl8, Ar8, kc8, Sz8, Nn8, Hs8, Gs8⟩ := id Vo5
      have in8 := inb_of (j := (1 : Int32)) Sz8 ⟨by decide, by decide⟩
      have at8 : cl8.slots[((1 : Int32)).toNatClampNeg]? = some (.int ws01) := Hs8.at in8 rfl
      refine own_via (fun t kz => X6.iaload hx (j := (1 : Int32)) (v := (.int ws01)) (by rw [e6]; exact Ar8.1) (State.isArrayOf_alike hZ.alike Ar8.2.1) Ar8.2.2 in8 at8 (g := (mkF m 7 #[oR this, oI (0 : Int32), oI (1 : Int32)] [(.int (1 : Int32)), (.ref as0)])) rfl rfl (hb hby d8_7) t kz) ?_
      show own_Go p e below _ (T6.setTop (mkF m 8 #[oR this, oI (0 : Int32), oI (1 : Int32)] [(.int ws01)]))
      have hv : (f8 (0 : Int32) (1 : Int32) ws00 ws01 ws10 ws11) = ws01 := by unfold f8; rw [if_pos (by decide : (0 : Int32) = (0 : Int32)), if_neg (by decide : ¬ ((1 : Int32) = (0 : Int32)))]
      obtain ⟨fs, hr, hrun, hended, hW, hsame⟩ := X6.leave (v := some (.int ws01)) (fun h => by rw [Bd.returns] at h; cases h)
      refine ⟨_, _, retI X6 hx Bd.returns (hb hby d8_8) hr, hrun, hended, _, _, rfl, ?_, ⟨_, rfl⟩, hW, hsame.mono (by decide) (by decide)⟩
      show Q8 Z this (0 : Int32) (1 : Int32) wm00 wm01 wm10 wm11 wt0 wt1 ws00 ws01 ws10 ws11 wc0 wc1 wn r h0 n0 _ T6.heap _
      rw [e6]
      exact ⟨by rw [← hr0, hv], N0, rfl⟩
  · rcases hs with rfl | rfl
    · show own_Go p e below _ (s₁.setTop (mkF m 0 #[oR this, oI (1 : Int32), oI (0 : Int32)] []))
      refine own_via (fun t kz => XS.aloadN X0.here hx rfl (hb hby d8_0) rfl rfl kz) ?_
      show own_Go p e below _ (s₁.setTop (mkF m 1 #[oR this, oI (1 : Int32), oI (0 : Int32)] [(.ref this)]))
      obtain ⟨T10, X10, e10, st10⟩ := getF X0 hx hZ hown (host := "") (Or.inl (own_w hw 19)) Via.refl e0 Fo2 (g := (mkF m 1 #[oR this, oI (1 : Int32), oI (0 : Int32)] [(.ref this)])) rfl rfl (hb hby d8_1)
      refine own_via st10 ?_
      show own_Go p e below _ (T10.setTop (mkF m 4 #[oR this, oI (1 : Int32), oI (0 : Int32)] [(.ref aso)]))
      refine own_via (fun t kz => XS.iloadN X10.here hx rfl (hb hby d8_4) rfl kz) ?_
      show own_Go p e below _ (T10.setTop (mkF m 5 #[oR this, oI (1 : Int32), oI (0 : Int32)] [(.int (1 : Int32)), (.ref aso)]))
      obtain ⟨cl11, Ar11, kc11, Sz11, Nn11, Hs11, Gs11⟩ := id Vo4
      have in11 := inb_of (j := (1 : Int32)) Sz11 ⟨by decide, by decide⟩
      have at11 : cl11.slots[((1 : Int32)).toNatClampNeg]? = some (.ref as1) := Hs11.at in11 rfl
      refine own_via (fun t kz => X10.aaload hx (j := (1 : Int32)) (v := (.ref as1)) (by rw [e10]; exact Ar11.1) (State.isArrayOf_alike hZ.alike Ar11.2.1) rfl Ar11.2.2 in11 at11 (g := (mkF m 5 #[oR this, oI (1 : Int32), oI (0 : Int32)] [(.int (1 : Int32)), (.ref aso)])) rfl rfl (hb hby d8_5) t kz) ?_
      show own_Go p e below _ (T10.setTop (mkF m 6 #[oR this, oI (1 : Int32), oI (0 : Int32)] [(.ref as1)]))
      refine own_via (fun t kz => XS.iloadN X10.here hx rfl (hb hby d8_6) rfl kz) ?_
      show own_Go p e below _ (T10.setTop (mkF m 7 #[oR this, oI (1 : Int32), oI (0 : Int32)] [(.int (0 : Int32)), (.ref as1)]))
      obtain ⟨cl12, Ar12, kc12, Sz12, Nn12, Hs12, Gs12⟩ := id Vo6
      have in12 := inb_of (j := (0 : Int32)) Sz12 ⟨by decide, by decide⟩
      have at12 : cl12.slots[((0 : Int32)).toNatClampNeg]? = some (.int ws10) := Hs12.at in12 rfl
      refine own_via (fun t kz => X10.iaload hx (j := (0 : Int32)) (v := (.int ws10)) (by rw [e10]; exact Ar12.1) (State.isArrayOf_alike hZ.alike Ar12.2.1) Ar12.2.2 in12 at12 (g := (mkF m 7 #[oR this, oI (1 : Int32), oI (0 : Int32)] [(.int (0 : Int32)), (.ref as1)])) rfl rfl (hb hby d8_7) t kz) ?_
      show own_Go p e below _ (T10.setTop (mkF m 8 #[oR this, oI (1 : Int32), oI (0 : Int32)] [(.int ws10)]))
      have hv : (f8 (1 : Int32) (0 : Int32) ws00 ws01 ws10 ws11) = ws10 := by unfold f8; rw [if_neg (by decide : ¬ ((1 : Int32) = (0 : Int32))), if_pos (by decide : (0 : Int32) = (0 : Int32))]
      obtain ⟨fs, hr, hrun, hended, hW, hsame⟩ := X10.leave (v := some (.int ws10)) (fun h => by rw [Bd.returns] at h; cases h)
      refine ⟨_, _, retI X10 hx Bd.returns (hb hby d8_8) hr, hrun, hended, _, _, rfl, ?_, ⟨_, rfl⟩, hW, hsame.mono (by decide) (by decide)⟩
      show Q8 Z this (1 : Int32) (0 : Int32) wm00 wm01 wm10 wm11 wt0 wt1 ws00 ws01 ws10 ws11 wc0 wc1 wn r h0 n0 _ T10.heap _
      rw [e10]
      exact ⟨by rw [← hr0, hv], N0, rfl⟩
    · show own_Go p e below _ (s₁.setTop (mkF m 0 #[oR this, oI (1 : Int32), oI (1 : Int32)] []))
      refine own_via (fun t kz => XS.aloadN X0.here hx rfl (hb hby d8_0) rfl rfl kz) ?_
      show own_Go p e below _ (s₁.setTop (mkF m 1 #[oR this, oI (1 : Int32), oI (1 : Int32)] [(.ref this)]))
      obtain ⟨T14, X14, e14, st14⟩ := getF X0 hx hZ hown (host := "") (Or.inl (own_w hw 19)) Via.refl e0 Fo2 (g := (mkF m 1 #[oR this, oI (1 : Int32), oI (1 : Int32)] [(.ref this)])) rfl rfl (hb hby d8_1)
      refine own_via st14 ?_
      show own_Go p e below _ (T14.setTop (mkF m 4 #[oR this, oI (1 : Int32), oI (1 : Int32)] [(.ref aso)]))
      refine own_via (fun t kz => XS.iloadN X14.here hx rfl (hb hby d8_4) rfl kz) ?_
      show own_Go p e below _ (T14.setTop (mkF m 5 #[oR this, oI (1 : Int32), oI (1 : Int32)] [(.int (1 : Int32)), (.ref aso)]))
      obtain ⟨cl15, Ar15, kc15, Sz15, Nn15, Hs15, Gs15⟩ := id Vo4
      have in15 := inb_of (j := (1 : Int32)) Sz15 ⟨by decide, by decide⟩
      have at15 : cl15.slots[((1 : Int32)).toNatClampNeg]? = some (.ref as1) := Hs15.at in15 rfl
      refine own_via (fun t kz => X14.aaload hx (j := (1 : Int32)) (v := (.ref as1)) (by rw [e14]; exact Ar15.1) (State.isArrayOf_alike hZ.alike Ar15.2.1) rfl Ar15.2.2 in15 at15 (g := (mkF m 5 #[oR this, oI (1 : Int32), oI (1 : Int32)] [(.int (1 : Int32)), (.ref aso)])) rfl rfl (hb hby d8_5) t kz) ?_
      show own_Go p e below _ (T14.setTop (mkF m 6 #[oR this, oI (1 : Int32), oI (1 : Int32)] [(.ref as1)]))
      refine own_via (fun t kz => XS.iloadN X14.here hx rfl (hb hby d8_6) rfl kz) ?_
      show own_Go p e below _ (T14.setTop (mkF m 7 #[oR this, oI (1 : Int32), oI (1 : Int32)] [(.int (1 : Int32)), (.ref as1)]))
      obtain ⟨cl16, Ar16, kc16, Sz16, Nn16, Hs16, Gs16⟩ := id Vo6
      have in16 := inb_of (j := (1 : Int32)) Sz16 ⟨by decide, by decide⟩
      have at16 : cl16.slots[((1 : Int32)).toNatClampNeg]? = some (.int ws11) := Hs16.at in16 rfl
      refine own_via (fun t kz => X14.iaload hx (j := (1 : Int32)) (v := (.int ws11)) (by rw [e14]; exact Ar16.1) (State.isArrayOf_alike hZ.alike Ar16.2.1) Ar16.2.2 in16 at16 (g := (mkF m 7 #[oR this, oI (1 : Int32), oI (1 : Int32)] [(.int (1 : Int32)), (.ref as1)])) rfl rfl (hb hby d8_7) t kz) ?_
      show own_Go p e below _ (T14.setTop (mkF m 8 #[oR this, oI (1 : Int32), oI (1 : Int32)] [(.int ws11)]))
      have hv : (f8 (1 : Int32) (1 : Int32) ws00 ws01 ws10 ws11) = ws11 := by unfold f8; rw [if_neg (by decide : ¬ ((1 : Int32) = (0 : Int32))), if_neg (by decide : ¬ ((1 : Int32) = (0 : Int32)))]
      obtain ⟨fs, hr, hrun, hended, hW, hsame⟩ := X14.leave (v := some (.int ws11)) (fun h => by rw [Bd.returns] at h; cases h)
      refine ⟨_, _, retI X14 hx Bd.returns (hb hby d8_8) hr, hrun, hended, _, _, rfl, ?_, ⟨_, rfl⟩, hW, hsame.mono (by decide) (by decide)⟩
      show Q8 Z this (1 : Int32) (1 : Int32) wm00 wm01 wm10 wm11 wt0 wt1 ws00 ws01 ws10 ws11 wc0 wc1 wn r h0 n0 _ T14.heap _
      rw [e14]
      exact ⟨by rw [← hr0, hv], N0, rfl⟩
def own_markS (S : own_S) (t s : Int32) : own_S := own_mark t s (own_pwm00 S) (own_pwm01 S) (own_pwm10 S) (own_pwm11 S) (own_pwt0 S) (own_pwt1 S) (own_pws00 S) (own_pws01 S) (own_pws10 S) (own_pws11 S) (own_pwc0 S) (own_pwc1 S) (own_pwn S)
def own_S0 : own_S := own_mk 0 0 0 0 0 0 0 0 0 0 0 0 0
def own_S1 (t1 s1 : Int32) : own_S := own_markS own_S0 t1 s1
def own_S2 (t1 s1 t2 s2 : Int32) : own_S := own_markS (own_S1 t1 s1) t2 s2
def own_S3 (t1 s1 t2 s2 t3 s3 : Int32) : own_S := own_markS (own_S2 t1 s1 t2 s2) t3 s3
def own_ok (S : own_S) (t s : Int32) : Prop := (own_pick t s (own_pwm00 S) (own_pwm01 S) (own_pwm10 S) (own_pwm11 S) = 0 → own_pick1 t (own_pwc0 S) (own_pwc1 S) = 0 ∨ own_pick1 t (own_pwc0 S) (own_pwc1 S) = 1) ∧ (own_pick t s (own_pwm00 S) (own_pwm01 S) (own_pwm10 S) (own_pwm11 S) = 0 → own_pick1 t (own_pwc0 S) (own_pwc1 S) = 0 → own_pwn S = 0 ∨ own_pwn S = 1)
instance (S : own_S) (t s : Int32) : Decidable (own_ok S t s) := by unfold own_ok; infer_instance
instance (a b c d e : Int32) : Decidable (own_row a b c d e) := by unfold own_row; infer_instance
instance (wm00 wm01 wm10 wm11 wt0 wt1 ws00 ws01 ws10 ws11 wc0 wc1 wn : Int32) : Decidable (own_inv wm00 wm01 wm10 wm11 wt0 wt1 ws00 ws01 ws10 ws11 wc0 wc1 wn) := by unfold own_inv; infer_instance
theorem own_and3 (x : Int32) : x &&& 3 = 0 ∨ x &&& 3 = 1 ∨ x &&& 3 = 2 ∨ x &&& 3 = 3 := by
  have h := c_mask x 3 2 (by decide) (by decide)
  simp only [← Int32.toInt_inj, Int32.reduceToInt]
  omega
theorem own_ok1 {t1 s1 : Int32} (h1 : t1 = 0 ∨ t1 = 1) (k1 : s1 = 0 ∨ s1 = 1) : own_ok own_S0 t1 s1 := by
  rcases h1 with rfl | rfl <;> rcases k1 with rfl | rfl <;> decide +kernel
theorem own_inv1 {t1 s1 : Int32} (h1 : t1 = 0 ∨ t1 = 1) (k1 : s1 = 0 ∨ s1 = 1) : own_inv (own_pwm00 (own_S1 t1 s1)) (own_pwm01 (own_S1 t1 s1)) (own_pwm10 (own_S1 t1 s1)) (own_pwm11 (own_S1 t1 s1)) (own_pwt0 (own_S1 t1 s1)) (own_pwt1 (own_S1 t1 s1)) (own_pws00 (own_S1 t1 s1)) (own_pws01 (own_S1 t1 s1)) (own_pws10 (own_S1 t1 s1)) (own_pws11 (own_S1 t1 s1)) (own_pwc0 (own_S1 t1 s1)) (own_pwc1 (own_S1 t1 s1)) (own_pwn (own_S1 t1 s1)) := by
  rcases h1 with rfl | rfl <;> rcases k1 with rfl | rfl <;> decide +kernel
theorem own_ok2 {t1 s1 t2 s2 : Int32} (h1 : t1 = 0 ∨ t1 = 1) (k1 : s1 = 0 ∨ s1 = 1) (h2 : t2 = 0 ∨ t2 = 1) (k2 : s2 = 0 ∨ s2 = 1) : own_ok (own_S1 t1 s1) t2 s2 := by
  rcases h1 with rfl | rfl <;> rcases k1 with rfl | rfl <;> rcases h2 with rfl | rfl <;> rcases k2 with rfl | rfl <;> decide +kernel
theorem own_inv2 {t1 s1 t2 s2 : Int32} (h1 : t1 = 0 ∨ t1 = 1) (k1 : s1 = 0 ∨ s1 = 1) (h2 : t2 = 0 ∨ t2 = 1) (k2 : s2 = 0 ∨ s2 = 1) : own_inv (own_pwm00 (own_S2 t1 s1 t2 s2)) (own_pwm01 (own_S2 t1 s1 t2 s2)) (own_pwm10 (own_S2 t1 s1 t2 s2)) (own_pwm11 (own_S2 t1 s1 t2 s2)) (own_pwt0 (own_S2 t1 s1 t2 s2)) (own_pwt1 (own_S2 t1 s1 t2 s2)) (own_pws00 (own_S2 t1 s1 t2 s2)) (own_pws01 (own_S2 t1 s1 t2 s2)) (own_pws10 (own_S2 t1 s1 t2 s2)) (own_pws11 (own_S2 t1 s1 t2 s2)) (own_pwc0 (own_S2 t1 s1 t2 s2)) (own_pwc1 (own_S2 t1 s1 t2 s2)) (own_pwn (own_S2 t1 s1 t2 s2)) := by
  rcases h1 with rfl | rfl <;> rcases k1 with rfl | rfl <;> rcases h2 with rfl | rfl <;> rcases k2 with rfl | rfl <;> decide +kernel
theorem own_ok3 {t1 s1 t2 s2 t3 s3 : Int32} (h1 : t1 = 0 ∨ t1 = 1) (k1 : s1 = 0 ∨ s1 = 1) (h2 : t2 = 0 ∨ t2 = 1) (k2 : s2 = 0 ∨ s2 = 1) (h3 : t3 = 0 ∨ t3 = 1) (k3 : s3 = 0 ∨ s3 = 1) : own_ok (own_S2 t1 s1 t2 s2) t3 s3 := by
  rcases h1 with rfl | rfl <;> rcases k1 with rfl | rfl <;> rcases h2 with rfl | rfl <;> rcases k2 with rfl | rfl <;> rcases h3 with rfl | rfl <;> rcases k3 with rfl | rfl <;> decide +kernel
theorem own_inv3 {t1 s1 t2 s2 t3 s3 : Int32} (h1 : t1 = 0 ∨ t1 = 1) (k1 : s1 = 0 ∨ s1 = 1) (h2 : t2 = 0 ∨ t2 = 1) (k2 : s2 = 0 ∨ s2 = 1) (h3 : t3 = 0 ∨ t3 = 1) (k3 : s3 = 0 ∨ s3 = 1) : own_inv (own_pwm00 (own_S3 t1 s1 t2 s2 t3 s3)) (own_pwm01 (own_S3 t1 s1 t2 s2 t3 s3)) (own_pwm10 (own_S3 t1 s1 t2 s2 t3 s3)) (own_pwm11 (own_S3 t1 s1 t2 s2 t3 s3)) (own_pwt0 (own_S3 t1 s1 t2 s2 t3 s3)) (own_pwt1 (own_S3 t1 s1 t2 s2 t3 s3)) (own_pws00 (own_S3 t1 s1 t2 s2 t3 s3)) (own_pws01 (own_S3 t1 s1 t2 s2 t3 s3)) (own_pws10 (own_S3 t1 s1 t2 s2 t3 s3)) (own_pws11 (own_S3 t1 s1 t2 s2 t3 s3)) (own_pwc0 (own_S3 t1 s1 t2 s2 t3 s3)) (own_pwc1 (own_S3 t1 s1 t2 s2 t3 s3)) (own_pwn (own_S3 t1 s1 t2 s2 t3 s3)) := by
  rcases h1 with rfl | rfl <;> rcases k1 with rfl | rfl <;> rcases h2 with rfl | rfl <;> rcases k2 with rfl | rfl <;> rcases h3 with rfl | rfl <;> rcases k3 with rfl | rfl <;> decide +kernel
theorem own_inv0 : own_inv (own_pwm00 own_S0) (own_pwm01 own_S0) (own_pwm10 own_S0) (own_pwm11 own_S0) (own_pwt0 own_S0) (own_pwt1 own_S0) (own_pws00 own_S0) (own_pws01 own_S0) (own_pws10 own_S0) (own_pws11 own_S0) (own_pwc0 own_S0) (own_pwc1 own_S0) (own_pwn own_S0) := by decide +kernel
theorem own_okx (x0 x1 x2 x3 x4 x5 : Int32) {t1 s1 : Int32} (h1 : t1 = 0 ∨ t1 = 1) (k1 : s1 = 0 ∨ s1 = 1) : own_ok (own_mk 0 0 0 0 x0 x1 x2 x3 x4 x5 0 0 0) t1 s1 := by
  rcases h1 with rfl | rfl <;> rcases k1 with rfl | rfl <;> exact ⟨fun _ => Or.inl rfl, fun _ _ => Or.inl rfl⟩
def own_Sx (x0 x1 x2 x3 x4 x5 t s : Int32) : own_S := own_markS (own_mk 0 0 0 0 x0 x1 x2 x3 x4 x5 0 0 0) t s
theorem own_sub {x : Int32} (h : x = 0 ∨ x = 1) : (1 : Int32) - x = 0 ∨ (1 : Int32) - x = 1 := by
  rcases h with rfl | rfl <;> decide
theorem own_chk107 (x0 x1 x2 x3 x4 x5 : Int32) {vt vs : Int32} (h1 : vt = 0 ∨ vt = 1) (h2 : vs = 0 ∨ vs = 1) : (own_pwn (own_Sx x0 x1 x2 x3 x4 x5 vt vs)) = (1 : Int32) := by
  rcases h1 with rfl | rfl <;> rcases h2 with rfl | rfl <;> rfl
theorem own_chk130 (x0 x1 x2 x3 x4 x5 : Int32) {vt vs : Int32} (h1 : vt = 0 ∨ vt = 1) (h2 : vs = 0 ∨ vs = 1) : (own_pwt0 (own_Sx x0 x1 x2 x3 x4 x5 vt vs)) = vt := by
  rcases h1 with rfl | rfl <;> rcases h2 with rfl | rfl <;> rfl
theorem own_chk153 (x0 x1 x2 x3 x4 x5 : Int32) {vt vs : Int32} (h1 : vt = 0 ∨ vt = 1) (h2 : vs = 0 ∨ vs = 1) : (f7 vt (own_pwc0 (own_Sx x0 x1 x2 x3 x4 x5 vt vs)) (own_pwc1 (own_Sx x0 x1 x2 x3 x4 x5 vt vs))) = (1 : Int32) := by
  rcases h1 with rfl | rfl <;> rcases h2 with rfl | rfl <;> rfl
theorem own_chk178 (x0 x1 x2 x3 x4 x5 : Int32) {vt vs : Int32} (h1 : vt = 0 ∨ vt = 1) (h2 : vs = 0 ∨ vs = 1) : (f8 vt (0 : Int32) (own_pws00 (own_Sx x0 x1 x2 x3 x4 x5 vt vs)) (own_pws01 (own_Sx x0 x1 x2 x3 x4 x5 vt vs)) (own_pws10 (own_Sx x0 x1 x2 x3 x4 x5 vt vs)) (own_pws11 (own_Sx x0 x1 x2 x3 x4 x5 vt vs))) = vs := by
  rcases h1 with rfl | rfl <;> rcases h2 with rfl | rfl <;> rfl
theorem own_chk202 (x0 x1 x2 x3 x4 x5 : Int32) {vt vs : Int32} (h1 : vt = 0 ∨ vt = 1) (h2 : vs = 0 ∨ vs = 1) : (f7 ((1 : Int32) - vt) (own_pwc0 (own_Sx x0 x1 x2 x3 x4 x5 vt vs)) (own_pwc1 (own_Sx x0 x1 x2 x3 x4 x5 vt vs))) = (0 : Int32) := by
  rcases h1 with rfl | rfl <;> rcases h2 with rfl | rfl <;> rfl
theorem pn_0 : plainName "com/example/matchloom/matchloom/league/TouchedCellsClearPinLaw" = true := by first | (simp [plainName, overriddenIn]; done) | decide +kernel
theorem pd_0_0 : parseMethodDescriptor "(II)V" = some ⟨[.int, .int], none⟩ := by decide +kernel
theorem pd_0_1 : parseMethodDescriptor "()V" = some ⟨[], none⟩ := by decide +kernel
theorem pd_0_2 : parseMethodDescriptor "()I" = some ⟨[], some .int⟩ := by decide +kernel
theorem pd_0_3 : parseMethodDescriptor "(I)I" = some ⟨[.int], some .int⟩ := by decide +kernel
theorem pd_0_4 : parseMethodDescriptor "(II)I" = some ⟨[.int, .int], some .int⟩ := by decide +kernel
theorem ef_rm0 (m : MethodId) (q0 : Int32) (q1 : Int32) (q2 : Int32) (q3 : Int32) (q4 : Int32) : entryFrame m #[(.int q0), (.int q1), (.int q2), (.int q3), (.int q4)] maxLocals = mkF m 0 #[oI q0, oI q1, oI q2, oI q3, oI q4, .unset, .unset, .unset, .unset, .unset] [] := by first | (simp [entryFrame, mkF, argsToLocals, Value.category, maxLocals]; done) | rfl
def Q0 (Z : State) (p0 : Int32) (p1 : Int32) (p2 : Int32) (p3 : Int32) (p4 : Int32) (h0 : Heap) (n0 : Nat) (v : Option Value) (h : Heap) (L : List Loc) : Prop := v = some (.int (1 : Int32)) ∧ Fr n0 L
set_option maxRecDepth 65536 in
set_option maxHeartbeats 40000000 in
theorem rm0 (l : Launch) (Z : State) (a0 : Array Value) (hw : ∀ d ∈ tables_1, d.before a0 Z = true) (ws : List Jvm.Cond) (p0 : Int32) (p1 : Int32) (p2 : Int32) (p3 : Int32) (p4 : Int32) (h0 : Heap) (n0 : Nat) (Z0 : n0 ≤ h0.size) :
    MetFree l x (head1 (Jvm.Cond.code x code maxLocals ret :: ws) room_1) (fun a U => a = #[(.int p0), (.int p1), (.int p2), (.int p3), (.int p4)] ∧ Z.Warmed39 U.vm ∧ U.heap = h0) (fun _ _ _ _ _ => True) (fun _ U o U' => ∃ v L, o = .returned v ∧ Q0 Z p0 p1 p2 p3 p4 h0 n0 v U'.heap L ∧ FrameEnd U o U' L room_1.cells room_1.slots) := by
  refine MetFree.of_bodySF (plainFor_of_name pn_0) hisR ?_
  intro p e s m args below meth c s₁ Bd hml0 hP hK
  obtain ⟨rfl, hZ, hh⟩ := hP
  have hx := Bd.exec
  have hby := Bd.bytes
  have hml : c.maxLocals = 10 := hml0
  have hown : s.vm.findClass "com/example/matchloom/matchloom/league/TouchedCellsClearPinLaw" = some m.cls := findClass_of_methodNamed Bd.named
  have hnm := (name_of_methodNamed Bd.named Bd.method).1
  have X0 : Stand p l e room_1 s m #[(.int p0), (.int p1), (.int p2), (.int p3), (.int p4)] below meth c s₁ [] 0 0 := Stand.of_body Bd
  have e0 : s₁.heap = h0 := by rw [← hh, Bd.state]; rfl
  have N0 := Fr.nil n0
  refine own_start ?_
  refine own_via (fun t k => castTop (ef_rm0 m p0 p1 p2 p3 p4) k) ?_
  show own_Go p e below _ (s₁.setTop (mkF m 0 #[oI p0, oI p1, oI p2, oI p3, oI p4, .unset, .unset, .unset, .unset, .unset] []))
  obtain ⟨T1, h1, X1, e1, E1, A1, D1, -, st1⟩ := newO X0 hx hZ hown (own_w hw 0) (own_w hw 1) (own_w hw 2) e0 (g := (mkF m 0 #[oI p0, oI p1, oI p2, oI p3, oI p4, .unset, .unset, .unset, .unset, .unset] [])) rfl (hb hby at_0) (by decide) (by decide)
  obtain ⟨a1, g1⟩ : ∃ z, z = h0.size := ⟨_, rfl⟩
  rw [← g1] at A1 D1 st1
  refine own_via st1 ?_
  have fr2 : n0 ≤ a1 := Nat.le_trans Z0 (Nat.le_of_eq g1.symm)
  have Zs3 : n0 ≤ h1.size := Nat.le_trans Z0 E1.1
  have F4 : Fld Z h1 a1 "com/example/matchloom/matchloom/league/TouchedCells" "marked" "[[Z" .null := D1 (Or.inr (own_w hw 13)) (ty := (.array (.array .boolean))) (by decide)
  have F5 : Fld Z h1 a1 "com/example/matchloom/matchloom/league/TouchedCells" "teams" "[I" .null := D1 (Or.inr (own_w hw 16)) (ty := (.array .int)) (by decide)
  have F6 : Fld Z h1 a1 "com/example/matchloom/matchloom/league/TouchedCells" "slots" "[[I" .null := D1 (Or.inr (own_w hw 20)) (ty := (.array (.array .int))) (by decide)
  have F7 : Fld Z h1 a1 "com/example/matchloom/matchloom/league/TouchedCells" "slotCount" "[I" .null := D1 (Or.inr (own_w hw 22)) (ty := (.array .int)) (by decide)
  have F8 : Fld Z h1 a1 "com/example/matchloom/matchloom/league/TouchedCells" "teamCount" "I" (.int (0 : Int32)) := D1 (Or.inl (own_w hw 29)) (ty := .int) (by decide)
  show own_Go p e below _ (T1.setTop (mkF m 3 #[oI p0, oI p1, oI p2, oI p3, oI p4, .unset, .unset, .unset, .unset, .unset] [(.ref a1)]))
  refine own_via (fun t kz => XS.dup X1.here hx rfl (hb hby at_3) rfl rfl kz) ?_
  show own_Go p e below _ (T1.setTop (mkF m 4 #[oI p0, oI p1, oI p2, oI p3, oI p4, .unset, .unset, .unset, .unset, .unset] [(.ref a1), (.ref a1)]))
  refine own_via (fun t kz => XS.iconst X1.here hx rfl (hb hby at_4) kz) ?_
  show own_Go p e below _ (T1.setTop (mkF m 5 #[oI p0, oI p1, oI p2, oI p3, oI p4, .unset, .unset, .unset, .unset, .unset] [(.int (2 : Int32)), (.ref a1), (.ref a1)]))
  refine own_via (fun t kz => XS.iconst X1.here hx rfl (hb hby at_5) kz) ?_
  show own_Go p e below _ (T1.setTop (mkF m 6 #[oI p0, oI p1, oI p2, oI p3, oI p4, .unset, .unset, .unset, .unset, .unset] [(.int (2 : Int32)), (.int (2 : Int32)), (.ref a1), (.ref a1)]))
  obtain ⟨_, _, ⟨T9, L9, k9, n9⟩, -, X9, ⟨Lc9, hQ9, l9, y9, z9⟩, st9⟩ := X1.specialBack hx (y := (⟨"com/example/matchloom/matchloom/league/TouchedCells", "<init>", "(II)V"⟩ : MethodName)) rfl hown (mvT hZ (own_w hw 3)) (mvT hZ (own_w hw 4)) (mvT hZ (own_w hw 5)) (by decide) (backOf (W := 1) (rm1 l Z a0 hw [] a1 h1 n0 Zs3 fr2 A1 F4 F5 F6 F7 F8) hZ (own_w hw 5) (own_w hw 2) (by decide) (by decide)) (g := (mkF m 6 #[oI p0, oI p1, oI p2, oI p3, oI p4, .unset, .unset, .unset, .unset, .unset] [(.int (2 : Int32)), (.int (2 : Int32)), (.ref a1), (.ref a1)])) rfl (by rw [hml]; rfl) (Steps.refl _) (a := a1) (argsL := [(.int (2 : Int32)), (.int (2 : Int32))]) (rest := [(.ref a1)]) (lenOf pd_0_0 rfl) rfl (by show 2 * 0 + _ ≤ _; exact Nat.le_of_eq rfl) (hb hby at_6) (fun _ _ => ⟨rfl, e1, (by decide : 1 + 8 ≤ _), (by decide : 5 + 16 ≤ _)⟩)
  dsimp only [Pt.U, Pt.locs, Pt.cells, Pt.slots] at X9 l9 y9 z9 st9 hQ9
  subst l9 y9 z9
  obtain ⟨rfl, Nq9, Zq9, TC9⟩ := hQ9
  have N10 := Fr.app N0 Nq9
  refine own_tr st9 ?_
  have TD9 : own_TC Z T9.heap n0 a1 own_S0 := TC9
  show own_Go p e below _ (T9.setTop (mkF m 9 #[oI p0, oI p1, oI p2, oI p3, oI p4, .unset, .unset, .unset, .unset, .unset] [(.ref a1)]))
  refine own_via (fun t kz => XS.astore X9.here hx rfl (hb hby at_9) rfl rfl (l' := #[oI p0, oI p1, oI p2, oI p3, oI p4, oR a1, .unset, .unset, .unset, .unset]) rfl kz) ?_
  show own_Go p e below _ (T9.setTop (mkF m 11 #[oI p0, oI p1, oI p2, oI p3, oI p4, oR a1, .unset, .unset, .unset, .unset] []))
  refine own_via (fun t kz => XS.iloadN X9.here hx rfl (hb hby at_11) rfl kz) ?_
  show own_Go p e below _ (T9.setTop (mkF m 12 #[oI p0, oI p1, oI p2, oI p3, oI p4, oR a1, .unset, .unset, .unset, .unset] [(.int p3)]))
  refine own_via (fun t kz => XS.iconst X9.here hx rfl (hb hby at_12) kz) ?_
  show own_Go p e below _ (T9.setTop (mkF m 13 #[oI p0, oI p1, oI p2, oI p3, oI p4, oR a1, .unset, .unset, .unset, .unset] [(.int (3 : Int32)), (.int p3)]))
  refine own_via (fun t kz => XS.iand X9.here hx rfl (hb hby at_13) rfl kz) ?_
  show own_Go p e below _ (T9.setTop (mkF m 14 #[oI p0, oI p1, oI p2, oI p3, oI p4, oR a1, .unset, .unset, .unset, .unset] [(.int (p3 &&& (3 : Int32)))]))
  refine own_via (fun t kz => XS.istore X9.here hx rfl (hb hby at_14) rfl (l' := #[oI p0, oI p1, oI p2, oI p3, oI p4, oR a1, oI (p3 &&& (3 : Int32)), .unset, .unset, .unset]) rfl kz) ?_
  have hk3 := own_and3 p3
  generalize (p3 &&& (3 : Int32)) = vk at hk3 ⊢
  rcases hk3 with rfl | rfl | rfl | rfl
  · show own_Go p e below _ (T9.setTop (mkF m 16 #[oI p0, oI p1, oI p2, oI p3, oI p4, oR a1, oI (0 : Int32), .unset, .unset, .unset] []))
    refine own_via (fun t kz => XS.iload X9.here hx rfl (hb hby at_16) rfl kz) ?_
    show own_Go p e below _ (T9.setTop (mkF m 18 #[oI p0, oI p1, oI p2, oI p3, oI p4, oR a1, oI (0 : Int32), .unset, .unset, .unset] [(.int (0 : Int32))]))
    refine own_via (fun t kz => XS.iconst X9.here hx rfl (hb hby at_18) kz) ?_
    show own_Go p e below _ (T9.setTop (mkF m 19 #[oI p0, oI p1, oI p2, oI p3, oI p4, oR a1, oI (0 : Int32), .unset, .unset, .unset] [(.int (1 : Int32)), (.int (0 : Int32))]))
    refine own_via (fun t kz => XS.icmpYes X9.here hx rfl (pc0 := 19) (pc' := 35) rfl (hb hby at_19) rfl (tlt (by decide : (0 : Int32) < (1 : Int32))).1 (by decide) (by decide) kz) ?_
    show own_Go p e below _ (T9.setTop (mkF m 35 #[oI p0, oI p1, oI p2, oI p3, oI p4, oR a1, oI (0 : Int32), .unset, .unset, .unset] []))
    refine own_via (fun t kz => XS.iload X9.here hx rfl (hb hby at_35) rfl kz) ?_
    show own_Go p e below _ (T9.setTop (mkF m 37 #[oI p0, oI p1, oI p2, oI p3, oI p4, oR a1, oI (0 : Int32), .unset, .unset, .unset] [(.int (0 : Int32))]))
    refine own_via (fun t kz => XS.iconst X9.here hx rfl (hb hby at_37) kz) ?_
    show own_Go p e below _ (T9.setTop (mkF m 38 #[oI p0, oI p1, oI p2, oI p3, oI p4, oR a1, oI (0 : Int32), .unset, .unset, .unset] [(.int (2 : Int32)), (.int (0 : Int32))]))
    refine own_via (fun t kz => XS.icmpYes X9.here hx rfl (pc0 := 38) (pc' := 54) rfl (hb hby at_38) rfl (tlt (by decide : (0 : Int32) < (2 : Int32))).1 (by decide) (by decide) kz) ?_
    show own_Go p e below _ (T9.setTop (mkF m 54 #[oI p0, oI p1, oI p2, oI p3, oI p4, oR a1, oI (0 : Int32), .unset, .unset, .unset] []))
    refine own_via (fun t kz => XS.iload X9.here hx rfl (hb hby at_54) rfl kz) ?_
    show own_Go p e below _ (T9.setTop (mkF m 56 #[oI p0, oI p1, oI p2, oI p3, oI p4, oR a1, oI (0 : Int32), .unset, .unset, .unset] [(.int (0 : Int32))]))
    refine own_via (fun t kz => XS.iconst X9.here hx rfl (hb hby at_56) kz) ?_
    show own_Go p e below _ (T9.setTop (mkF m 57 #[oI p0, oI p1, oI p2, oI p3, oI p4, oR a1, oI (0 : Int32), .unset, .unset, .unset] [(.int (3 : Int32)), (.int (0 : Int32))]))
    refine own_via (fun t kz => XS.icmpYes X9.here hx rfl (pc0 := 57) (pc' := 73) rfl (hb hby at_57) rfl (tlt (by decide : (0 : Int32) < (3 : Int32))).1 (by decide) (by decide) kz) ?_
    show own_Go p e below _ (T9.setTop (mkF m 73 #[oI p0, oI p1, oI p2, oI p3, oI p4, oR a1, oI (0 : Int32), .unset, .unset, .unset] []))
    refine own_via (fun t kz => XS.aload X9.here hx rfl (hb hby at_73) rfl rfl kz) ?_
    show own_Go p e below _ (T9.setTop (mkF m 75 #[oI p0, oI p1, oI p2, oI p3, oI p4, oR a1, oI (0 : Int32), .unset, .unset, .unset] [(.ref a1)]))
    obtain ⟨cq11, kq11, qa11, qb11, qc11⟩ := isOf hZ rfl (own_exa TD9)
    obtain ⟨_, _, ⟨T11, L11, k11, n11⟩, -, X11, ⟨Lc11, hQ11, l11, y11, z11⟩, st11⟩ := X9.virtualBack hx (y := (⟨"com/example/matchloom/matchloom/league/TouchedCells", "clear", "()V"⟩ : MethodName)) (z := (⟨"com/example/matchloom/matchloom/league/TouchedCells", "clear", "()V"⟩ : MethodName)) hown (mvT hZ (own_w hw 30)) (mvT hZ (own_w hw 31)) (notFace_of_selects (args := #[]) (mvT hZ (own_w hw 33))) (mvT hZ (own_w hw 33)) (mvT hZ (own_w hw 32)) (by decide) (backOf (W := 0) (rm4 l Z a0 hw [] a1 (own_pwm00 own_S0) (own_pwm01 own_S0) (own_pwm10 own_S0) (own_pwm11 own_S0) (own_pwt0 own_S0) (own_pwt1 own_S0) (own_pws00 own_S0) (own_pws01 own_S0) (own_pws10 own_S0) (own_pws11 own_S0) (own_pwc0 own_S0) (own_pwc1 own_S0) (own_pwn own_S0) T9.heap n0 Zq9 TD9 own_inv0) hZ (own_w hw 34) (own_w hw 2) (by decide) (by decide)) qa11 qc11 (g := (mkF m 75 #[oI p0, oI p1, oI p2, oI p3, oI p4, oR a1, oI (0 : Int32), .unset, .unset, .unset] [(.ref a1)])) rfl (by rw [hml]; rfl) (Steps.refl _) (argsL := []) (rest := []) (lenOf pd_0_1 rfl) rfl (by show 2 * 0 + _ ≤ _; exact Nat.le_of_eq rfl) (hb hby at_75) (fun _ _ => ⟨rfl, rfl, (by decide : 9 + 0 ≤ _), (by decide : 21 + 0 ≤ _)⟩)
    dsimp only [Pt.U, Pt.locs, Pt.cells, Pt.slots] at X11 l11 y11 z11 st11 hQ11
    subst l11 y11 z11
    obtain ⟨rfl, Nq11, Zq11, x0, x1, x2, x3, x4, x5, TC11⟩ := hQ11
    have N12 := Fr.app N10 Nq11
    refine own_tr st11 ?_
    show own_Go p e below _ (T11.setTop (mkF m 78 #[oI p0, oI p1, oI p2, oI p3, oI p4, oR a1, oI (0 : Int32), .unset, .unset, .unset] []))
    refine own_via (fun t kz => XS.iload X11.here hx rfl (hb hby at_78) rfl kz) ?_
    show own_Go p e below _ (T11.setTop (mkF m 80 #[oI p0, oI p1, oI p2, oI p3, oI p4, oR a1, oI (0 : Int32), .unset, .unset, .unset] [(.int p4)]))
    refine own_via (fun t kz => XS.iconst X11.here hx rfl (hb hby at_80) kz) ?_
    show own_Go p e below _ (T11.setTop (mkF m 81 #[oI p0, oI p1, oI p2, oI p3, oI p4, oR a1, oI (0 : Int32), .unset, .unset, .unset] [(.int (1 : Int32)), (.int p4)]))
    refine own_via (fun t kz => XS.iand X11.here hx rfl (hb hby at_81) rfl kz) ?_
    show own_Go p e below _ (T11.setTop (mkF m 82 #[oI p0, oI p1, oI p2, oI p3, oI p4, oR a1, oI (0 : Int32), .unset, .unset, .unset] [(.int (p4 &&& (1 : Int32)))]))
    refine own_via (fun t kz => XS.istore X11.here hx rfl (hb hby at_82) rfl (l' := #[oI p0, oI p1, oI p2, oI p3, oI p4, oR a1, oI (0 : Int32), oI (p4 &&& (1 : Int32)), .unset, .unset]) rfl kz) ?_
    show own_Go p e below _ (T11.setTop (mkF m 84 #[oI p0, oI p1, oI p2, oI p3, oI p4, oR a1, oI (0 : Int32), oI (p4 &&& (1 : Int32)), .unset, .unset] []))
    refine own_via (fun t kz => XS.iload X11.here hx rfl (hb hby at_84) rfl kz) ?_
    show own_Go p e below _ (T11.setTop (mkF m 86 #[oI p0, oI p1, oI p2, oI p3, oI p4, oR a1, oI (0 : Int32), oI (p4 &&& (1 : Int32)), .unset, .unset] [(.int p4)]))
    refine own_via (fun t kz => XS.iconst X11.here hx rfl (hb hby at_86) kz) ?_
    show own_Go p e below _ (T11.setTop (mkF m 87 #[oI p0, oI p1, oI p2, oI p3, oI p4, oR a1, oI (0 : Int32), oI (p4 &&& (1 : Int32)), .unset, .unset] [(.int (1 : Int32)), (.int p4)]))
    refine own_via (fun t kz => XS.ishr X11.here hx rfl (hb hby at_87) rfl kz) ?_
    show own_Go p e below _ (T11.setTop (mkF m 88 #[oI p0, oI p1, oI p2, oI p3, oI p4, oR a1, oI (0 : Int32), oI (p4 &&& (1 : Int32)), .unset, .unset] [(.int (p4 >>> ((1 : Int32) &&& 31)))]))
    refine own_via (fun t kz => XS.iconst X11.here hx rfl (hb hby at_88) kz) ?_
    show own_Go p e below _ (T11.setTop (mkF m 89 #[oI p0, oI p1, oI p2, oI p3, oI p4, oR a1, oI (0 : Int32), oI (p4 &&& (1 : Int32)), .unset, .unset] [(.int (1 : Int32)), (.int (p4 >>> ((1 : Int32) &&& 31)))]))
    refine own_via (fun t kz => XS.iand X11.here hx rfl (hb hby at_89) rfl kz) ?_
    show own_Go p e below _ (T11.setTop (mkF m 90 #[oI p0, oI p1, oI p2, oI p3, oI p4, oR a1, oI (0 : Int32), oI (p4 &&& (1 : Int32)), .unset, .unset] [(.int ((p4 >>> ((1 : Int32) &&& 31)) &&& (1 : Int32)))]))
    refine own_via (fun t kz => XS.istore X11.here hx rfl (hb hby at_90) rfl (l' := #[oI p0, oI p1, oI p2, oI p3, oI p4, oR a1, oI (0 : Int32), oI (p4 &&& (1 : Int32)), oI ((p4 >>> ((1 : Int32) &&& 31)) &&& (1 : Int32)), .unset]) rfl kz) ?_
    have hb_vs := and_one (p4 >>> ((1 : Int32) &&& 31))
    generalize ((p4 >>> ((1 : Int32) &&& 31)) &&& (1 : Int32)) = vs at hb_vs ⊢
    have hb_vt := and_one p4
    generalize (p4 &&& (1 : Int32)) = vt at hb_vt ⊢
    show own_Go p e below _ (T11.setTop (mkF m 92 #[oI p0, oI p1, oI p2, oI p3, oI p4, oR a1, oI (0 : Int32), oI vt, oI vs, .unset] []))
    refine own_via (fun t kz => XS.aload X11.here hx rfl (hb hby at_92) rfl rfl kz) ?_
    show own_Go p e below _ (T11.setTop (mkF m 94 #[oI p0, oI p1, oI p2, oI p3, oI p4, oR a1, oI (0 : Int32), oI vt, oI vs, .unset] [(.ref a1)]))
    refine own_via (fun t kz => XS.iload X11.here hx rfl (hb hby at_94) rfl kz) ?_
    show own_Go p e below _ (T11.setTop (mkF m 96 #[oI p0, oI p1, oI p2, oI p3, oI p4, oR a1, oI (0 : Int32), oI vt, oI vs, .unset] [(.int vt), (.ref a1)]))
    refine own_via (fun t kz => XS.iload X11.here hx rfl (hb hby at_96) rfl kz) ?_
    show own_Go p e below _ (T11.setTop (mkF m 98 #[oI p0, oI p1, oI p2, oI p3, oI p4, oR a1, oI (0 : Int32), oI vt, oI vs, .unset] [(.int vs), (.int vt), (.ref a1)]))
    obtain ⟨cq13, kq13, qa13, qb13, qc13⟩ := isOf hZ rfl (own_exa TC11)
    obtain ⟨_, _, ⟨T13, L13, k13, n13⟩, -, X13, ⟨Lc13, hQ13, l13, y13, z13⟩, st13⟩ := X11.virtualBack hx (y := (⟨"com/example/matchloom/matchloom/league/TouchedCells", "mark", "(II)V"⟩ : MethodName)) (z := (⟨"com/example/matchloom/matchloom/league/TouchedCells", "mark", "(II)V"⟩ : MethodName)) hown (mvT hZ (own_w hw 23)) (mvT hZ (own_w hw 24)) (notFace_of_selects (args := #[]) (mvT hZ (own_w hw 26))) (mvT hZ (own_w hw 26)) (mvT hZ (own_w hw 25)) (by decide) (backOf (W := 0) (rm3 l Z a0 hw [] a1 vt vs (own_pwm00 (own_mk 0 0 0 0 x0 x1 x2 x3 x4 x5 0 0 0)) (own_pwm01 (own_mk 0 0 0 0 x0 x1 x2 x3 x4 x5 0 0 0)) (own_pwm10 (own_mk 0 0 0 0 x0 x1 x2 x3 x4 x5 0 0 0)) (own_pwm11 (own_mk 0 0 0 0 x0 x1 x2 x3 x4 x5 0 0 0)) (own_pwt0 (own_mk 0 0 0 0 x0 x1 x2 x3 x4 x5 0 0 0)) (own_pwt1 (own_mk 0 0 0 0 x0 x1 x2 x3 x4 x5 0 0 0)) (own_pws00 (own_mk 0 0 0 0 x0 x1 x2 x3 x4 x5 0 0 0)) (own_pws01 (own_mk 0 0 0 0 x0 x1 x2 x3 x4 x5 0 0 0)) (own_pws10 (own_mk 0 0 0 0 x0 x1 x2 x3 x4 x5 0 0 0)) (own_pws11 (own_mk 0 0 0 0 x0 x1 x2 x3 x4 x5 0 0 0)) (own_pwc0 (own_mk 0 0 0 0 x0 x1 x2 x3 x4 x5 0 0 0)) (own_pwc1 (own_mk 0 0 0 0 x0 x1 x2 x3 x4 x5 0 0 0)) (own_pwn (own_mk 0 0 0 0 x0 x1 x2 x3 x4 x5 0 0 0)) T11.heap n0 Zq11 TC11 hb_vt hb_vs (own_okx x0 x1 x2 x3 x4 x5 hb_vt hb_vs).1 (own_okx x0 x1 x2 x3 x4 x5 hb_vt hb_vs).2) hZ (own_w hw 27) (own_w hw 2) (by decide) (by decide)) qa13 qc13 (g := (mkF m 98 #[oI p0, oI p1, oI p2, oI p3, oI p4, oR a1, oI (0 : Int32), oI vt, oI vs, .unset] [(.int vs), (.int vt), (.ref a1)])) rfl (by rw [hml]; rfl) (Steps.refl _) (argsL := [(.int vt), (.int vs)]) (rest := []) (lenOf pd_0_0 rfl) rfl (by show 2 * 0 + _ ≤ _; exact Nat.le_of_eq rfl) (hb hby at_98) (fun _ _ => ⟨rfl, rfl, (by decide : 9 + 0 ≤ _), (by decide : 21 + 0 ≤ _)⟩)
    dsimp only [Pt.U, Pt.locs, Pt.cells, Pt.slots] at X13 l13 y13 z13 st13 hQ13
    subst l13 y13 z13
    obtain ⟨rfl, Nq13, Zq13, TC13⟩ := hQ13
    have N14 := Fr.app N12 Nq13
    refine own_tr st13 ?_
    have TD13 : own_TC Z T13.heap n0 a1 (own_Sx x0 x1 x2 x3 x4 x5 vt vs) := TC13
    show own_Go p e below _ (T13.setTop (mkF m 101 #[oI p0, oI p1, oI p2, oI p3, oI p4, oR a1, oI (0 : Int32), oI vt, oI vs, .unset] []))
    refine own_via (fun t kz => XS.aload X13.here hx rfl (hb hby at_101) rfl rfl kz) ?_
    show own_Go p e below _ (T13.setTop (mkF m 103 #[oI p0, oI p1, oI p2, oI p3, oI p4, oR a1, oI (0 : Int32), oI vt, oI vs, .unset] [(.ref a1)]))
    obtain ⟨cq15, kq15, qa15, qb15, qc15⟩ := isOf hZ rfl (own_exa TD13)
    obtain ⟨_, _, ⟨T15, L15, k15, n15⟩, -, X15, ⟨Lc15, hQ15, l15, y15, z15⟩, st15⟩ := X13.virtualBack hx (y := (⟨"com/example/matchloom/matchloom/league/TouchedCells", "teams", "()I"⟩ : MethodName)) (z := (⟨"com/example/matchloom/matchloom/league/TouchedCells", "teams", "()I"⟩ : MethodName)) hown (mvT hZ (own_w hw 35)) (mvT hZ (own_w hw 36)) (notFace_of_selects (args := #[]) (mvT hZ (own_w hw 38))) (mvT hZ (own_w hw 38)) (mvT hZ (own_w hw 37)) (by decide) (backOf (W := 0) (rm5 l Z a0 hw [] a1 (own_pwm00 (own_Sx x0 x1 x2 x3 x4 x5 vt vs)) (own_pwm01 (own_Sx x0 x1 x2 x3 x4 x5 vt vs)) (own_pwm10 (own_Sx x0 x1 x2 x3 x4 x5 vt vs)) (own_pwm11 (own_Sx x0 x1 x2 x3 x4 x5 vt vs)) (own_pwt0 (own_Sx x0 x1 x2 x3 x4 x5 vt vs)) (own_pwt1 (own_Sx x0 x1 x2 x3 x4 x5 vt vs)) (own_pws00 (own_Sx x0 x1 x2 x3 x4 x5 vt vs)) (own_pws01 (own_Sx x0 x1 x2 x3 x4 x5 vt vs)) (own_pws10 (own_Sx x0 x1 x2 x3 x4 x5 vt vs)) (own_pws11 (own_Sx x0 x1 x2 x3 x4 x5 vt vs)) (own_pwc0 (own_Sx x0 x1 x2 x3 x4 x5 vt vs)) (own_pwc1 (own_Sx x0 x1 x2 x3 x4 x5 vt vs)) (own_pwn (own_Sx x0 x1 x2 x3 x4 x5 vt vs)) (own_pwn (own_Sx x0 x1 x2 x3 x4 x5 vt vs)) T13.heap n0 Zq13 TD13 (by unfold f5; rfl)) hZ (own_w hw 39) (own_w hw 2) (by decide) (by decide)) qa15 qc15 (g := (mkF m 103 #[oI p0, oI p1, oI p2, oI p3, oI p4, oR a1, oI (0 : Int32), oI vt, oI vs, .unset] [(.ref a1)])) rfl (by rw [hml]; rfl) (Steps.refl _) (argsL := []) (rest := []) (lenOf pd_0_2 rfl) rfl (by show 2 * 0 + _ ≤ _; exact Nat.le_of_eq rfl) (hb hby at_103) (fun _ _ => ⟨rfl, rfl, (by decide : 9 + 0 ≤ _), (by decide : 21 + 0 ≤ _)⟩)
    dsimp only [Pt.U, Pt.locs, Pt.cells, Pt.slots] at X15 l15 y15 z15 st15 hQ15
    subst l15 y15 z15
    obtain ⟨rfl, Nq15, e15⟩ := hQ15
    have N16 := Fr.app N14 Nq15
    refine own_tr st15 ?_
    show own_Go p e below _ (T15.setTop (mkF m 106 #[oI p0, oI p1, oI p2, oI p3, oI p4, oR a1, oI (0 : Int32), oI vt, oI vs, .unset] [(.int (own_pwn (own_Sx x0 x1 x2 x3 x4 x5 vt vs)))]))
    refine own_via (fun t kz => XS.iconst X15.here hx rfl (hb hby at_106) kz) ?_
    show own_Go p e below _ (T15.setTop (mkF m 107 #[oI p0, oI p1, oI p2, oI p3, oI p4, oR a1, oI (0 : Int32), oI vt, oI vs, .unset] [(.int (1 : Int32)), (.int (own_pwn (own_Sx x0 x1 x2 x3 x4 x5 vt vs)))]))
    refine own_via (fun t kz => XS.icmpNo X15.here hx rfl (hb hby at_107) rfl (teq (own_chk107 x0 x1 x2 x3 x4 x5 hb_vt hb_vs)).2 kz) ?_
    show own_Go p e below _ (T15.setTop (mkF m 110 #[oI p0, oI p1, oI p2, oI p3, oI p4, oR a1, oI (0 : Int32), oI vt, oI vs, .unset] []))
    refine own_via (fun t kz => XS.iconst X15.here hx rfl (hb hby at_110) kz) ?_
    show own_Go p e below _ (T15.setTop (mkF m 111 #[oI p0, oI p1, oI p2, oI p3, oI p4, oR a1, oI (0 : Int32), oI vt, oI vs, .unset] [(.int (1 : Int32))]))
    refine own_via (fun t kz => XS.goto X15.here hx rfl (pc0 := 111) (pc' := 115) rfl (hb hby at_111) (by decide) (by decide) kz) ?_
    show own_Go p e below _ (T15.setTop (mkF m 115 #[oI p0, oI p1, oI p2, oI p3, oI p4, oR a1, oI (0 : Int32), oI vt, oI vs, .unset] [(.int (1 : Int32))]))
    refine own_via (fun t kz => XS.istore X15.here hx rfl (hb hby at_115) rfl (l' := #[oI p0, oI p1, oI p2, oI p3, oI p4, oR a1, oI (0 : Int32), oI vt, oI vs, oI (1 : Int32)]) rfl kz) ?_
    show own_Go p e below _ (T15.setTop (mkF m 117 #[oI p0, oI p1, oI p2, oI p3, oI p4, oR a1, oI (0 : Int32), oI vt, oI vs, oI (1 : Int32)] []))
    refine own_via (fun t kz => XS.iload X15.here hx rfl (hb hby at_117) rfl kz) ?_
    show own_Go p e below _ (T15.setTop (mkF m 119 #[oI p0, oI p1, oI p2, oI p3, oI p4, oR a1, oI (0 : Int32), oI vt, oI vs, oI (1 : Int32)] [(.int (1 : Int32))]))
    refine own_via (fun t kz => XS.ifNo X15.here hx rfl (hb hby at_119) rfl ((if0 _ _).trans (feq (by decide : ¬ ((1 : Int32) = (0 : Int32)))).1) kz) ?_
    show own_Go p e below _ (T15.setTop (mkF m 122 #[oI p0, oI p1, oI p2, oI p3, oI p4, oR a1, oI (0 : Int32), oI vt, oI vs, oI (1 : Int32)] []))
    refine own_via (fun t kz => XS.aload X15.here hx rfl (hb hby at_122) rfl rfl kz) ?_
    show own_Go p e below _ (T15.setTop (mkF m 124 #[oI p0, oI p1, oI p2, oI p3, oI p4, oR a1, oI (0 : Int32), oI vt, oI vs, oI (1 : Int32)] [(.ref a1)]))
    refine own_via (fun t kz => XS.iconst X15.here hx rfl (hb hby at_124) kz) ?_
    show own_Go p e below _ (T15.setTop (mkF m 125 #[oI p0, oI p1, oI p2, oI p3, oI p4, oR a1, oI (0 : Int32), oI vt, oI vs, oI (1 : Int32)] [(.int (0 : Int32)), (.ref a1)]))
    obtain ⟨cq17, kq17, qa17, qb17, qc17⟩ := isOf hZ e15 (own_exa TD13)
    obtain ⟨_, _, ⟨T17, L17, k17, n17⟩, -, X17, ⟨Lc17, hQ17, l17, y17, z17⟩, st17⟩ := X15.virtualBack hx (y := (⟨"com/example/matchloom/matchloom/league/TouchedCells", "team", "(I)I"⟩ : MethodName)) (z := (⟨"com/example/matchloom/matchloom/league/TouchedCells", "team", "(I)I"⟩ : MethodName)) hown (mvT hZ (own_w hw 40)) (mvT hZ (own_w hw 41)) (notFace_of_selects (args := #[]) (mvT hZ (own_w hw 43))) (mvT hZ (own_w hw 43)) (mvT hZ (own_w hw 42)) (by decide) (backOf (W := 0) (rm6 l Z a0 hw [] a1 (0 : Int32) (own_pwm00 (own_Sx x0 x1 x2 x3 x4 x5 vt vs)) (own_pwm01 (own_Sx x0 x1 x2 x3 x4 x5 vt vs)) (own_pwm10 (own_Sx x0 x1 x2 x3 x4 x5 vt vs)) (own_pwm11 (own_Sx x0 x1 x2 x3 x4 x5 vt vs)) (own_pwt0 (own_Sx x0 x1 x2 x3 x4 x5 vt vs)) (own_pwt1 (own_Sx x0 x1 x2 x3 x4 x5 vt vs)) (own_pws00 (own_Sx x0 x1 x2 x3 x4 x5 vt vs)) (own_pws01 (own_Sx x0 x1 x2 x3 x4 x5 vt vs)) (own_pws10 (own_Sx x0 x1 x2 x3 x4 x5 vt vs)) (own_pws11 (own_Sx x0 x1 x2 x3 x4 x5 vt vs)) (own_pwc0 (own_Sx x0 x1 x2 x3 x4 x5 vt vs)) (own_pwc1 (own_Sx x0 x1 x2 x3 x4 x5 vt vs)) (own_pwn (own_Sx x0 x1 x2 x3 x4 x5 vt vs)) (own_pwt0 (own_Sx x0 x1 x2 x3 x4 x5 vt vs)) T13.heap n0 Zq13 TD13 (by decide) (by unfold f6; rw [if_pos (by decide : (0 : Int32) = (0 : Int32))])) hZ (own_w hw 44) (own_w hw 2) (by decide) (by decide)) qa17 qc17 (g := (mkF m 125 #[oI p0, oI p1, oI p2, oI p3, oI p4, oR a1, oI (0 : Int32), oI vt, oI vs, oI (1 : Int32)] [(.int (0 : Int32)), (.ref a1)])) rfl (by rw [hml]; rfl) (Steps.refl _) (argsL := [(.int (0 : Int32))]) (rest := []) (lenOf pd_0_3 rfl) rfl (by show 2 * 0 + _ ≤ _; exact Nat.le_of_eq rfl) (hb hby at_125) (fun _ _ => ⟨rfl, e15, (by decide : 9 + 0 ≤ _), (by decide : 21 + 0 ≤ _)⟩)
    dsimp only [Pt.U, Pt.locs, Pt.cells, Pt.slots] at X17 l17 y17 z17 st17 hQ17
    subst l17 y17 z17
    obtain ⟨rfl, Nq17, e17⟩ := hQ17
    have N18 := Fr.app N16 Nq17
    refine own_tr st17 ?_
    show own_Go p e below _ (T17.setTop (mkF m 128 #[oI p0, oI p1, oI p2, oI p3, oI p4, oR a1, oI (0 : Int32), oI vt, oI vs, oI (1 : Int32)] [(.int (own_pwt0 (own_Sx x0 x1 x2 x3 x4 x5 vt vs)))]))
    refine own_via (fun t kz => XS.iload X17.here hx rfl (hb hby at_128) rfl kz) ?_
    show own_Go p e below _ (T17.setTop (mkF m 130 #[oI p0, oI p1, oI p2, oI p3, oI p4, oR a1, oI (0 : Int32), oI vt, oI vs, oI (1 : Int32)] [(.int vt), (.int (own_pwt0 (own_Sx x0 x1 x2 x3 x4 x5 vt vs)))]))
    refine own_via (fun t kz => XS.icmpNo X17.here hx rfl (hb hby at_130) rfl (teq (own_chk130 x0 x1 x2 x3 x4 x5 hb_vt hb_vs)).2 kz) ?_
    show own_Go p e below _ (T17.setTop (mkF m 133 #[oI p0, oI p1, oI p2, oI p3, oI p4, oR a1, oI (0 : Int32), oI vt, oI vs, oI (1 : Int32)] []))
    refine own_via (fun t kz => XS.iconst X17.here hx rfl (hb hby at_133) kz) ?_
    show own_Go p e below _ (T17.setTop (mkF m 134 #[oI p0, oI p1, oI p2, oI p3, oI p4, oR a1, oI (0 : Int32), oI vt, oI vs, oI (1 : Int32)] [(.int (1 : Int32))]))
    refine own_via (fun t kz => XS.goto X17.here hx rfl (pc0 := 134) (pc' := 138) rfl (hb hby at_134) (by decide) (by decide) kz) ?_
    show own_Go p e below _ (T17.setTop (mkF m 138 #[oI p0, oI p1, oI p2, oI p3, oI p4, oR a1, oI (0 : Int32), oI vt, oI vs, oI (1 : Int32)] [(.int (1 : Int32))]))
    refine own_via (fun t kz => XS.istore X17.here hx rfl (hb hby at_138) rfl (l' := #[oI p0, oI p1, oI p2, oI p3, oI p4, oR a1, oI (0 : Int32), oI vt, oI vs, oI (1 : Int32)]) rfl kz) ?_
    show own_Go p e below _ (T17.setTop (mkF m 140 #[oI p0, oI p1, oI p2, oI p3, oI p4, oR a1, oI (0 : Int32), oI vt, oI vs, oI (1 : Int32)] []))
    refine own_via (fun t kz => XS.iload X17.here hx rfl (hb hby at_140) rfl kz) ?_
    show own_Go p e below _ (T17.setTop (mkF m 142 #[oI p0, oI p1, oI p2, oI p3, oI p4, oR a1, oI (0 : Int32), oI vt, oI vs, oI (1 : Int32)] [(.int (1 : Int32))]))
    refine own_via (fun t kz => XS.ifNo X17.here hx rfl (hb hby at_142) rfl ((if0 _ _).trans (feq (by decide : ¬ ((1 : Int32) = (0 : Int32)))).1) kz) ?_
    show own_Go p e below _ (T17.setTop (mkF m 145 #[oI p0, oI p1, oI p2, oI p3, oI p4, oR a1, oI (0 : Int32), oI vt, oI vs, oI (1 : Int32)] []))
    refine own_via (fun t kz => XS.aload X17.here hx rfl (hb hby at_145) rfl rfl kz) ?_
    show own_Go p e below _ (T17.setTop (mkF m 147 #[oI p0, oI p1, oI p2, oI p3, oI p4, oR a1, oI (0 : Int32), oI vt, oI vs, oI (1 : Int32)] [(.ref a1)]))
    refine own_via (fun t kz => XS.iload X17.here hx rfl (hb hby at_147) rfl kz) ?_
    show own_Go p e below _ (T17.setTop (mkF m 149 #[oI p0, oI p1, oI p2, oI p3, oI p4, oR a1, oI (0 : Int32), oI vt, oI vs, oI (1 : Int32)] [(.int vt), (.ref a1)]))
    obtain ⟨cq19, kq19, qa19, qb19, qc19⟩ := isOf hZ e17 (own_exa TD13)
    obtain ⟨_, _, ⟨T19, L19, k19, n19⟩, -, X19, ⟨Lc19, hQ19, l19, y19, z19⟩, st19⟩ := X17.virtualBack hx (y := (⟨"com/example/matchloom/matchloom/league/TouchedCells", "slots", "(I)I"⟩ : MethodName)) (z := (⟨"com/example/matchloom/matchloom/league/TouchedCells", "slots", "(I)I"⟩ : MethodName)) hown (mvT hZ (own_w hw 45)) (mvT hZ (own_w hw 46)) (notFace_of_selects (args := #[]) (mvT hZ (own_w hw 48))) (mvT hZ (own_w hw 48)) (mvT hZ (own_w hw 47)) (by decide) (backOf (W := 0) (rm7 l Z a0 hw [] a1 vt (own_pwm00 (own_Sx x0 x1 x2 x3 x4 x5 vt vs)) (own_pwm01 (own_Sx x0 x1 x2 x3 x4 x5 vt vs)) (own_pwm10 (own_Sx x0 x1 x2 x3 x4 x5 vt vs)) (own_pwm11 (own_Sx x0 x1 x2 x3 x4 x5 vt vs)) (own_pwt0 (own_Sx x0 x1 x2 x3 x4 x5 vt vs)) (own_pwt1 (own_Sx x0 x1 x2 x3 x4 x5 vt vs)) (own_pws00 (own_Sx x0 x1 x2 x3 x4 x5 vt vs)) (own_pws01 (own_Sx x0 x1 x2 x3 x4 x5 vt vs)) (own_pws10 (own_Sx x0 x1 x2 x3 x4 x5 vt vs)) (own_pws11 (own_Sx x0 x1 x2 x3 x4 x5 vt vs)) (own_pwc0 (own_Sx x0 x1 x2 x3 x4 x5 vt vs)) (own_pwc1 (own_Sx x0 x1 x2 x3 x4 x5 vt vs)) (own_pwn (own_Sx x0 x1 x2 x3 x4 x5 vt vs)) (f7 vt (own_pwc0 (own_Sx x0 x1 x2 x3 x4 x5 vt vs)) (own_pwc1 (own_Sx x0 x1 x2 x3 x4 x5 vt vs))) T13.heap n0 Zq13 TD13 hb_vt rfl) hZ (own_w hw 49) (own_w hw 2) (by decide) (by decide)) qa19 qc19 (g := (mkF m 149 #[oI p0, oI p1, oI p2, oI p3, oI p4, oR a1, oI (0 : Int32), oI vt, oI vs, oI (1 : Int32)] [(.int vt), (.ref a1)])) rfl (by rw [hml]; rfl) (Steps.refl _) (argsL := [(.int vt)]) (rest := []) (lenOf pd_0_3 rfl) rfl (by show 2 * 0 + _ ≤ _; exact Nat.le_of_eq rfl) (hb hby at_149) (fun _ _ => ⟨rfl, e17, (by decide : 9 + 0 ≤ _), (by decide : 21 + 0 ≤ _)⟩)
    dsimp only [Pt.U, Pt.locs, Pt.cells, Pt.slots] at X19 l19 y19 z19 st19 hQ19
    subst l19 y19 z19
    obtain ⟨rfl, Nq19, e19⟩ := hQ19
    have N20 := Fr.app N18 Nq19
    refine own_tr st19 ?_
    show own_Go p e below _ (T19.setTop (mkF m 152 #[oI p0, oI p1, oI p2, oI p3, oI p4, oR a1, oI (0 : Int32), oI vt, oI vs, oI (1 : Int32)] [(.int (f7 vt (own_pwc0 (own_Sx x0 x1 x2 x3 x4 x5 vt vs)) (own_pwc1 (own_Sx x0 x1 x2 x3 x4 x5 vt vs))))]))
    refine own_via (fun t kz => XS.iconst X19.here hx rfl (hb hby at_152) kz) ?_
    show own_Go p e below _ (T19.setTop (mkF m 153 #[oI p0, oI p1, oI p2, oI p3, oI p4, oR a1, oI (0 : Int32), oI vt, oI vs, oI (1 : Int32)] [(.int (1 : Int32)), (.int (f7 vt (own_pwc0 (own_Sx x0 x1 x2 x3 x4 x5 vt vs)) (own_pwc1 (own_Sx x0 x1 x2 x3 x4 x5 vt vs))))]))
    refine own_via (fun t kz => XS.icmpNo X19.here hx rfl (hb hby at_153) rfl (teq (own_chk153 x0 x1 x2 x3 x4 x5 hb_vt hb_vs)).2 kz) ?_
    show own_Go p e below _ (T19.setTop (mkF m 156 #[oI p0, oI p1, oI p2, oI p3, oI p4, oR a1, oI (0 : Int32), oI vt, oI vs, oI (1 : Int32)] []))
    refine own_via (fun t kz => XS.iconst X19.here hx rfl (hb hby at_156) kz) ?_
    show own_Go p e below _ (T19.setTop (mkF m 157 #[oI p0, oI p1, oI p2, oI p3, oI p4, oR a1, oI (0 : Int32), oI vt, oI vs, oI (1 : Int32)] [(.int (1 : Int32))]))
    refine own_via (fun t kz => XS.goto X19.here hx rfl (pc0 := 157) (pc' := 161) rfl (hb hby at_157) (by decide) (by decide) kz) ?_
    show own_Go p e below _ (T19.setTop (mkF m 161 #[oI p0, oI p1, oI p2, oI p3, oI p4, oR a1, oI (0 : Int32), oI vt, oI vs, oI (1 : Int32)] [(.int (1 : Int32))]))
    refine own_via (fun t kz => XS.istore X19.here hx rfl (hb hby at_161) rfl (l' := #[oI p0, oI p1, oI p2, oI p3, oI p4, oR a1, oI (0 : Int32), oI vt, oI vs, oI (1 : Int32)]) rfl kz) ?_
    show own_Go p e below _ (T19.setTop (mkF m 163 #[oI p0, oI p1, oI p2, oI p3, oI p4, oR a1, oI (0 : Int32), oI vt, oI vs, oI (1 : Int32)] []))
    refine own_via (fun t kz => XS.iload X19.here hx rfl (hb hby at_163) rfl kz) ?_
    show own_Go p e below _ (T19.setTop (mkF m 165 #[oI p0, oI p1, oI p2, oI p3, oI p4, oR a1, oI (0 : Int32), oI vt, oI vs, oI (1 : Int32)] [(.int (1 : Int32))]))
    refine own_via (fun t kz => XS.ifNo X19.here hx rfl (hb hby at_165) rfl ((if0 _ _).trans (feq (by decide : ¬ ((1 : Int32) = (0 : Int32)))).1) kz) ?_
    show own_Go p e below _ (T19.setTop (mkF m 168 #[oI p0, oI p1, oI p2, oI p3, oI p4, oR a1, oI (0 : Int32), oI vt, oI vs, oI (1 : Int32)] []))
    refine own_via (fun t kz => XS.aload X19.here hx rfl (hb hby at_168) rfl rfl kz) ?_
    show own_Go p e below _ (T19.setTop (mkF m 170 #[oI p0, oI p1, oI p2, oI p3, oI p4, oR a1, oI (0 : Int32), oI vt, oI vs, oI (1 : Int32)] [(.ref a1)]))
    refine own_via (fun t kz => XS.iload X19.here hx rfl (hb hby at_170) rfl kz) ?_
    show own_Go p e below _ (T19.setTop (mkF m 172 #[oI p0, oI p1, oI p2, oI p3, oI p4, oR a1, oI (0 : Int32), oI vt, oI vs, oI (1 : Int32)] [(.int vt), (.ref a1)]))
    refine own_via (fun t kz => XS.iconst X19.here hx rfl (hb hby at_172) kz) ?_
    show own_Go p e below _ (T19.setTop (mkF m 173 #[oI p0, oI p1, oI p2, oI p3, oI p4, oR a1, oI (0 : Int32), oI vt, oI vs, oI (1 : Int32)] [(.int (0 : Int32)), (.int vt), (.ref a1)]))
    obtain ⟨cq21, kq21, qa21, qb21, qc21⟩ := isOf hZ e19 (own_exa TD13)
    obtain ⟨_, _, ⟨T21, L21, k21, n21⟩, -, X21, ⟨Lc21, hQ21, l21, y21, z21⟩, st21⟩ := X19.virtualBack hx (y := (⟨"com/example/matchloom/matchloom/league/TouchedCells", "slot", "(II)I"⟩ : MethodName)) (z := (⟨"com/example/matchloom/matchloom/league/TouchedCells", "slot", "(II)I"⟩ : MethodName)) hown (mvT hZ (own_w hw 50)) (mvT hZ (own_w hw 51)) (notFace_of_selects (args := #[]) (mvT hZ (own_w hw 53))) (mvT hZ (own_w hw 53)) (mvT hZ (own_w hw 52)) (by decide) (backOf (W := 0) (rm8 l Z a0 hw [] a1 vt (0 : Int32) (own_pwm00 (own_Sx x0 x1 x2 x3 x4 x5 vt vs)) (own_pwm01 (own_Sx x0 x1 x2 x3 x4 x5 vt vs)) (own_pwm10 (own_Sx x0 x1 x2 x3 x4 x5 vt vs)) (own_pwm11 (own_Sx x0 x1 x2 x3 x4 x5 vt vs)) (own_pwt0 (own_Sx x0 x1 x2 x3 x4 x5 vt vs)) (own_pwt1 (own_Sx x0 x1 x2 x3 x4 x5 vt vs)) (own_pws00 (own_Sx x0 x1 x2 x3 x4 x5 vt vs)) (own_pws01 (own_Sx x0 x1 x2 x3 x4 x5 vt vs)) (own_pws10 (own_Sx x0 x1 x2 x3 x4 x5 vt vs)) (own_pws11 (own_Sx x0 x1 x2 x3 x4 x5 vt vs)) (own_pwc0 (own_Sx x0 x1 x2 x3 x4 x5 vt vs)) (own_pwc1 (own_Sx x0 x1 x2 x3 x4 x5 vt vs)) (own_pwn (own_Sx x0 x1 x2 x3 x4 x5 vt vs)) (f8 vt (0 : Int32) (own_pws00 (own_Sx x0 x1 x2 x3 x4 x5 vt vs)) (own_pws01 (own_Sx x0 x1 x2 x3 x4 x5 vt vs)) (own_pws10 (own_Sx x0 x1 x2 x3 x4 x5 vt vs)) (own_pws11 (own_Sx x0 x1 x2 x3 x4 x5 vt vs))) T13.heap n0 Zq13 TD13 hb_vt (by decide) rfl) hZ (own_w hw 54) (own_w hw 2) (by decide) (by decide)) qa21 qc21 (g := (mkF m 173 #[oI p0, oI p1, oI p2, oI p3, oI p4, oR a1, oI (0 : Int32), oI vt, oI vs, oI (1 : Int32)] [(.int (0 : Int32)), (.int vt), (.ref a1)])) rfl (by rw [hml]; rfl) (Steps.refl _) (argsL := [(.int vt), (.int (0 : Int32))]) (rest := []) (lenOf pd_0_4 rfl) rfl (by show 2 * 0 + _ ≤ _; exact Nat.le_of_eq rfl) (hb hby at_173) (fun _ _ => ⟨rfl, e19, (by decide : 9 + 0 ≤ _), (by decide : 21 + 0 ≤ _)⟩)
    dsimp only [Pt.U, Pt.locs, Pt.cells, Pt.slots] at X21 l21 y21 z21 st21 hQ21
    subst l21 y21 z21
    obtain ⟨rfl, Nq21, e21⟩ := hQ21
    have N22 := Fr.app N20 Nq21
    refine own_tr st21 ?_
    show own_Go p e below _ (T21.setTop (mkF m 176 #[oI p0, oI p1, oI p2, oI p3, oI p4, oR a1, oI (0 : Int32), oI vt, oI vs, oI (1 : Int32)] [(.int (f8 vt (0 : Int32) (own_pws00 (own_Sx x0 x1 x2 x3 x4 x5 vt vs)) (own_pws01 (own_Sx x0 x1 x2 x3 x4 x5 vt vs)) (own_pws10 (own_Sx x0 x1 x2 x3 x4 x5 vt vs)) (own_pws11 (own_Sx x0 x1 x2 x3 x4 x5 vt vs))))]))
    refine own_via (fun t kz => XS.iload X21.here hx rfl (hb hby at_176) rfl kz) ?_
    show own_Go p e below _ (T21.setTop (mkF m 178 #[oI p0, oI p1, oI p2, oI p3, oI p4, oR a1, oI (0 : Int32), oI vt, oI vs, oI (1 : Int32)] [(.int vs), (.int (f8 vt (0 : Int32) (own_pws00 (own_Sx x0 x1 x2 x3 x4 x5 vt vs)) (own_pws01 (own_Sx x0 x1 x2 x3 x4 x5 vt vs)) (own_pws10 (own_Sx x0 x1 x2 x3 x4 x5 vt vs)) (own_pws11 (own_Sx x0 x1 x2 x3 x4 x5 vt vs))))]))
    refine own_via (fun t kz => XS.icmpNo X21.here hx rfl (hb hby at_178) rfl (teq (own_chk178 x0 x1 x2 x3 x4 x5 hb_vt hb_vs)).2 kz) ?_
    show own_Go p e below _ (T21.setTop (mkF m 181 #[oI p0, oI p1, oI p2, oI p3, oI p4, oR a1, oI (0 : Int32), oI vt, oI vs, oI (1 : Int32)] []))
    refine own_via (fun t kz => XS.iconst X21.here hx rfl (hb hby at_181) kz) ?_
    show own_Go p e below _ (T21.setTop (mkF m 182 #[oI p0, oI p1, oI p2, oI p3, oI p4, oR a1, oI (0 : Int32), oI vt, oI vs, oI (1 : Int32)] [(.int (1 : Int32))]))
    refine own_via (fun t kz => XS.goto X21.here hx rfl (pc0 := 182) (pc' := 186) rfl (hb hby at_182) (by decide) (by decide) kz) ?_
    show own_Go p e below _ (T21.setTop (mkF m 186 #[oI p0, oI p1, oI p2, oI p3, oI p4, oR a1, oI (0 : Int32), oI vt, oI vs, oI (1 : Int32)] [(.int (1 : Int32))]))
    refine own_via (fun t kz => XS.istore X21.here hx rfl (hb hby at_186) rfl (l' := #[oI p0, oI p1, oI p2, oI p3, oI p4, oR a1, oI (0 : Int32), oI vt, oI vs, oI (1 : Int32)]) rfl kz) ?_
    show own_Go p e below _ (T21.setTop (mkF m 188 #[oI p0, oI p1, oI p2, oI p3, oI p4, oR a1, oI (0 : Int32), oI vt, oI vs, oI (1 : Int32)] []))
    refine own_via (fun t kz => XS.iload X21.here hx rfl (hb hby at_188) rfl kz) ?_
    show own_Go p e below _ (T21.setTop (mkF m 190 #[oI p0, oI p1, oI p2, oI p3, oI p4, oR a1, oI (0 : Int32), oI vt, oI vs, oI (1 : Int32)] [(.int (1 : Int32))]))
    refine own_via (fun t kz => XS.ifNo X21.here hx rfl (hb hby at_190) rfl ((if0 _ _).trans (feq (by decide : ¬ ((1 : Int32) = (0 : Int32)))).1) kz) ?_
    show own_Go p e below _ (T21.setTop (mkF m 193 #[oI p0, oI p1, oI p2, oI p3, oI p4, oR a1, oI (0 : Int32), oI vt, oI vs, oI (1 : Int32)] []))
    refine own_via (fun t kz => XS.aload X21.here hx rfl (hb hby at_193) rfl rfl kz) ?_
    show own_Go p e below _ (T21.setTop (mkF m 195 #[oI p0, oI p1, oI p2, oI p3, oI p4, oR a1, oI (0 : Int32), oI vt, oI vs, oI (1 : Int32)] [(.ref a1)]))
    refine own_via (fun t kz => XS.iconst X21.here hx rfl (hb hby at_195) kz) ?_
    show own_Go p e below _ (T21.setTop (mkF m 196 #[oI p0, oI p1, oI p2, oI p3, oI p4, oR a1, oI (0 : Int32), oI vt, oI vs, oI (1 : Int32)] [(.int (1 : Int32)), (.ref a1)]))
    refine own_via (fun t kz => XS.iload X21.here hx rfl (hb hby at_196) rfl kz) ?_
    show own_Go p e below _ (T21.setTop (mkF m 198 #[oI p0, oI p1, oI p2, oI p3, oI p4, oR a1, oI (0 : Int32), oI vt, oI vs, oI (1 : Int32)] [(.int vt), (.int (1 : Int32)), (.ref a1)]))
    refine own_via (fun t kz => XS.isub X21.here hx rfl (hb hby at_198) rfl kz) ?_
    show own_Go p e below _ (T21.setTop (mkF m 199 #[oI p0, oI p1, oI p2, oI p3, oI p4, oR a1, oI (0 : Int32), oI vt, oI vs, oI (1 : Int32)] [(.int ((1 : Int32) - vt)), (.ref a1)]))
    obtain ⟨cq23, kq23, qa23, qb23, qc23⟩ := isOf hZ e21 (own_exa TD13)
    obtain ⟨_, _, ⟨T23, L23, k23, n23⟩, -, X23, ⟨Lc23, hQ23, l23, y23, z23⟩, st23⟩ := X21.virtualBack hx (y := (⟨"com/example/matchloom/matchloom/league/TouchedCells", "slots", "(I)I"⟩ : MethodName)) (z := (⟨"com/example/matchloom/matchloom/league/TouchedCells", "slots", "(I)I"⟩ : MethodName)) hown (mvT hZ (own_w hw 45)) (mvT hZ (own_w hw 46)) (notFace_of_selects (args := #[]) (mvT hZ (own_w hw 48))) (mvT hZ (own_w hw 48)) (mvT hZ (own_w hw 47)) (by decide) (backOf (W := 0) (rm7 l Z a0 hw [] a1 ((1 : Int32) - vt) (own_pwm00 (own_Sx x0 x1 x2 x3 x4 x5 vt vs)) (own_pwm01 (own_Sx x0 x1 x2 x3 x4 x5 vt vs)) (own_pwm10 (own_Sx x0 x1 x2 x3 x4 x5 vt vs)) (own_pwm11 (own_Sx x0 x1 x2 x3 x4 x5 vt vs)) (own_pwt0 (own_Sx x0 x1 x2 x3 x4 x5 vt vs)) (own_pwt1 (own_Sx x0 x1 x2 x3 x4 x5 vt vs)) (own_pws00 (own_Sx x0 x1 x2 x3 x4 x5 vt vs)) (own_pws01 (own_Sx x0 x1 x2 x3 x4 x5 vt vs)) (own_pws10 (own_Sx x0 x1 x2 x3 x4 x5 vt vs)) (own_pws11 (own_Sx x0 x1 x2 x3 x4 x5 vt vs)) (own_pwc0 (own_Sx x0 x1 x2 x3 x4 x5 vt vs)) (own_pwc1 (own_Sx x0 x1 x2 x3 x4 x5 vt vs)) (own_pwn (own_Sx x0 x1 x2 x3 x4 x5 vt vs)) (f7 ((1 : Int32) - vt) (own_pwc0 (own_Sx x0 x1 x2 x3 x4 x5 vt vs)) (own_pwc1 (own_Sx x0 x1 x2 x3 x4 x5 vt vs))) T13.heap n0 Zq13 TD13 (own_sub hb_vt) rfl) hZ (own_w hw 49) (own_w hw 2) (by decide) (by decide)) qa23 qc23 (g := (mkF m 199 #[oI p0, oI p1, oI p2, oI p3, oI p4, oR a1, oI (0 : Int32), oI vt, oI vs, oI (1 : Int32)] [(.int ((1 : Int32) - vt)), (.ref a1)])) rfl (by rw [hml]; rfl) (Steps.refl _) (argsL := [(.int ((1 : Int32) - vt))]) (rest := []) (lenOf pd_0_3 rfl) rfl (by show 2 * 0 + _ ≤ _; exact Nat.le_of_eq rfl) (hb hby at_199) (fun _ _ => ⟨rfl, e21, (by decide : 9 + 0 ≤ _), (by decide : 21 + 0 ≤ _)⟩)
    dsimp only [Pt.U, Pt.locs, Pt.cells, Pt.slots] at X23 l23 y23 z23 st23 hQ23
    subst l23 y23 z23
    obtain ⟨rfl, Nq23, e23⟩ := hQ23
    have N24 := Fr.app N22 Nq23
    refine own_tr st23 ?_
    show own_Go p e below _ (T23.setTop (mkF m 202 #[oI p0, oI p1, oI p2, oI p3, oI p4, oR a1, oI (0 : Int32), oI vt, oI vs, oI (1 : Int32)] [(.int (f7 ((1 : Int32) - vt) (own_pwc0 (own_Sx x0 x1 x2 x3 x4 x5 vt vs)) (own_pwc1 (own_Sx x0 x1 x2 x3 x4 x5 vt vs))))]))
    refine own_via (fun t kz => XS.ifNo X23.here hx rfl (hb hby at_202) rfl ((if0 _ _).trans (teq (own_chk202 x0 x1 x2 x3 x4 x5 hb_vt hb_vs)).2) kz) ?_
    show own_Go p e below _ (T23.setTop (mkF m 205 #[oI p0, oI p1, oI p2, oI p3, oI p4, oR a1, oI (0 : Int32), oI vt, oI vs, oI (1 : Int32)] []))
    refine own_via (fun t kz => XS.iconst X23.here hx rfl (hb hby at_205) kz) ?_
    show own_Go p e below _ (T23.setTop (mkF m 206 #[oI p0, oI p1, oI p2, oI p3, oI p4, oR a1, oI (0 : Int32), oI vt, oI vs, oI (1 : Int32)] [(.int (1 : Int32))]))
    refine own_via (fun t kz => XS.goto X23.here hx rfl (pc0 := 206) (pc' := 210) rfl (hb hby at_206) (by decide) (by decide) kz) ?_
    show own_Go p e below _ (T23.setTop (mkF m 210 #[oI p0, oI p1, oI p2, oI p3, oI p4, oR a1, oI (0 : Int32), oI vt, oI vs, oI (1 : Int32)] [(.int (1 : Int32))]))
    refine own_via (fun t kz => XS.istore X23.here hx rfl (hb hby at_210) rfl (l' := #[oI p0, oI p1, oI p2, oI p3, oI p4, oR a1, oI (0 : Int32), oI vt, oI vs, oI (1 : Int32)]) rfl kz) ?_
    show own_Go p e below _ (T23.setTop (mkF m 212 #[oI p0, oI p1, oI p2, oI p3, oI p4, oR a1, oI (0 : Int32), oI vt, oI vs, oI (1 : Int32)] []))
    refine own_via (fun t kz => XS.iload X23.here hx rfl (hb hby at_212) rfl kz) ?_
    show own_Go p e below _ (T23.setTop (mkF m 214 #[oI p0, oI p1, oI p2, oI p3, oI p4, oR a1, oI (0 : Int32), oI vt, oI vs, oI (1 : Int32)] [(.int (1 : Int32))]))
    obtain ⟨fs, hr, hrun, hended, hW, hsame⟩ := X23.leave (v := some (.int (1 : Int32))) (fun h => by rw [Bd.returns] at h; cases h)
    refine ⟨_, _, retN X23 hx (t := .boolean) Bd.returns (by simp) (hb hby at_214) hr, hrun, hended, _, _, rfl, ?_, ⟨_, rfl⟩, hW, hsame.mono (by decide) (by decide)⟩
    show Q0 Z p0 p1 p2 p3 p4 h0 n0 _ T23.heap _
    rw [e23]
    exact ⟨rfl, N24⟩
  · show own_Go p e below _ (T9.setTop (mkF m 16 #[oI p0, oI p1, oI p2, oI p3, oI p4, oR a1, oI (1 : Int32), .unset, .unset, .unset] []))
    refine own_via (fun t kz => XS.iload X9.here hx rfl (hb hby at_16) rfl kz) ?_
    show own_Go p e below _ (T9.setTop (mkF m 18 #[oI p0, oI p1, oI p2, oI p3, oI p4, oR a1, oI (1 : Int32), .unset, .unset, .unset] [(.int (1 : Int32))]))
    refine own_via (fun t kz => XS.iconst X9.here hx rfl (hb hby at_18) kz) ?_
    show own_Go p e below _ (T9.setTop (mkF m 19 #[oI p0, oI p1, oI p2, oI p3, oI p4, oR a1, oI (1 : Int32), .unset, .unset, .unset] [(.int (1 : Int32)), (.int (1 : Int32))]))
    refine own_via (fun t kz => XS.icmpNo X9.here hx rfl (hb hby at_19) rfl (flt (by decide : ¬ ((1 : Int32) < (1 : Int32)))).1 kz) ?_
    show own_Go p e below _ (T9.setTop (mkF m 22 #[oI p0, oI p1, oI p2, oI p3, oI p4, oR a1, oI (1 : Int32), .unset, .unset, .unset] []))
    refine own_via (fun t kz => XS.aload X9.here hx rfl (hb hby at_22) rfl rfl kz) ?_
    show own_Go p e below _ (T9.setTop (mkF m 24 #[oI p0, oI p1, oI p2, oI p3, oI p4, oR a1, oI (1 : Int32), .unset, .unset, .unset] [(.ref a1)]))
    refine own_via (fun t kz => XS.iloadN X9.here hx rfl (hb hby at_24) rfl kz) ?_
    show own_Go p e below _ (T9.setTop (mkF m 25 #[oI p0, oI p1, oI p2, oI p3, oI p4, oR a1, oI (1 : Int32), .unset, .unset, .unset] [(.int p0), (.ref a1)]))
    refine own_via (fun t kz => XS.iconst X9.here hx rfl (hb hby at_25) kz) ?_
    show own_Go p e below _ (T9.setTop (mkF m 26 #[oI p0, oI p1, oI p2, oI p3, oI p4, oR a1, oI (1 : Int32), .unset, .unset, .unset] [(.int (1 : Int32)), (.int p0), (.ref a1)]))
    refine own_via (fun t kz => XS.iand X9.here hx rfl (hb hby at_26) rfl kz) ?_
    show own_Go p e below _ (T9.setTop (mkF m 27 #[oI p0, oI p1, oI p2, oI p3, oI p4, oR a1, oI (1 : Int32), .unset, .unset, .unset] [(.int (p0 &&& (1 : Int32))), (.ref a1)]))
    refine own_via (fun t kz => XS.iloadN X9.here hx rfl (hb hby at_27) rfl kz) ?_
    show own_Go p e below _ (T9.setTop (mkF m 28 #[oI p0, oI p1, oI p2, oI p3, oI p4, oR a1, oI (1 : Int32), .unset, .unset, .unset] [(.int p0), (.int (p0 &&& (1 : Int32))), (.ref a1)]))
    refine own_via (fun t kz => XS.iconst X9.here hx rfl (hb hby at_28) kz) ?_
    show own_Go p e below _ (T9.setTop (mkF m 29 #[oI p0, oI p1, oI p2, oI p3, oI p4, oR a1, oI (1 : Int32), .unset, .unset, .unset] [(.int (1 : Int32)), (.int p0), (.int (p0 &&& (1 : Int32))), (.ref a1)]))
    refine own_via (fun t kz => XS.ishr X9.here hx rfl (hb hby at_29) rfl kz) ?_
    show own_Go p e below _ (T9.setTop (mkF m 30 #[oI p0, oI p1, oI p2, oI p3, oI p4, oR a1, oI (1 : Int32), .unset, .unset, .unset] [(.int (p0 >>> ((1 : Int32) &&& 31))), (.int (p0 &&& (1 : Int32))), (.ref a1)]))
    refine own_via (fun t kz => XS.iconst X9.here hx rfl (hb hby at_30) kz) ?_
    show own_Go p e below _ (T9.setTop (mkF m 31 #[oI p0, oI p1, oI p2, oI p3, oI p4, oR a1, oI (1 : Int32), .unset, .unset, .unset] [(.int (1 : Int32)), (.int (p0 >>> ((1 : Int32) &&& 31))), (.int (p0 &&& (1 : Int32))), (.ref a1)]))
    refine own_via (fun t kz => XS.iand X9.here hx rfl (hb hby at_31) rfl kz) ?_
    show own_Go p e below _ (T9.setTop (mkF m 32 #[oI p0, oI p1, oI p2, oI p3, oI p4, oR a1, oI (1 : Int32), .unset, .unset, .unset] [(.int ((p0 >>> ((1 : Int32) &&& 31)) &&& (1 : Int32))), (.int (p0 &&& (1 : Int32))), (.ref a1)]))
    have hb_v0b := and_one (p0 >>> ((1 : Int32) &&& 31))
    generalize ((p0 >>> ((1 : Int32) &&& 31)) &&& (1 : Int32)) = v0b at hb_v0b ⊢
    have hb_v0a := and_one p0
    generalize (p0 &&& (1 : Int32)) = v0a at hb_v0a ⊢
    show own_Go p e below _ (T9.setTop (mkF m 32 #[oI p0, oI p1, oI p2, oI p3, oI p4, oR a1, oI (1 : Int32), .unset, .unset, .unset] [(.int v0b), (.int v0a), (.ref a1)]))
    obtain ⟨cq26, kq26, qa26, qb26, qc26⟩ := isOf hZ rfl (own_exa TD9)
    obtain ⟨_, _, ⟨T26, L26, k26, n26⟩, -, X26, ⟨Lc26, hQ26, l26, y26, z26⟩, st26⟩ := X9.virtualBack hx (y := (⟨"com/example/matchloom/matchloom/league/TouchedCells", "mark", "(II)V"⟩ : MethodName)) (z := (⟨"com/example/matchloom/matchloom/league/TouchedCells", "mark", "(II)V"⟩ : MethodName)) hown (mvT hZ (own_w hw 23)) (mvT hZ (own_w hw 24)) (notFace_of_selects (args := #[]) (mvT hZ (own_w hw 26))) (mvT hZ (own_w hw 26)) (mvT hZ (own_w hw 25)) (by decide) (backOf (W := 0) (rm3 l Z a0 hw [] a1 v0a v0b (own_pwm00 own_S0) (own_pwm01 own_S0) (own_pwm10 own_S0) (own_pwm11 own_S0) (own_pwt0 own_S0) (own_pwt1 own_S0) (own_pws00 own_S0) (own_pws01 own_S0) (own_pws10 own_S0) (own_pws11 own_S0) (own_pwc0 own_S0) (own_pwc1 own_S0) (own_pwn own_S0) T9.heap n0 Zq9 TD9 hb_v0a hb_v0b (own_ok1 hb_v0a hb_v0b).1 (own_ok1 hb_v0a hb_v0b).2) hZ (own_w hw 27) (own_w hw 2) (by decide) (by decide)) qa26 qc26 (g := (mkF m 32 #[oI p0, oI p1, oI p2, oI p3, oI p4, oR a1, oI (1 : Int32), .unset, .unset, .unset] [(.int v0b), (.int v0a), (.ref a1)])) rfl (by rw [hml]; rfl) (Steps.refl _) (argsL := [(.int v0a), (.int v0b)]) (rest := []) (lenOf pd_0_0 rfl) rfl (by show 2 * 0 + _ ≤ _; exact Nat.le_of_eq rfl) (hb hby at_32) (fun _ _ => ⟨rfl, rfl, (by decide : 9 + 0 ≤ _), (by decide : 21 + 0 ≤ _)⟩)
    dsimp only [Pt.U, Pt.locs, Pt.cells, Pt.slots] at X26 l26 y26 z26 st26 hQ26
    subst l26 y26 z26
    obtain ⟨rfl, Nq26, Zq26, TC26⟩ := hQ26
    have N27 := Fr.app N10 Nq26
    refine own_tr st26 ?_
    have TD26 : own_TC Z T26.heap n0 a1 (own_S1 v0a v0b) := TC26
    show own_Go p e below _ (T26.setTop (mkF m 35 #[oI p0, oI p1, oI p2, oI p3, oI p4, oR a1, oI (1 : Int32), .unset, .unset, .unset] []))
    refine own_via (fun t kz => XS.iload X26.here hx rfl (hb hby at_35) rfl kz) ?_
    show own_Go p e below _ (T26.setTop (mkF m 37 #[oI p0, oI p1, oI p2, oI p3, oI p4, oR a1, oI (1 : Int32), .unset, .unset, .unset] [(.int (1 : Int32))]))
    refine own_via (fun t kz => XS.iconst X26.here hx rfl (hb hby at_37) kz) ?_
    show own_Go p e below _ (T26.setTop (mkF m 38 #[oI p0, oI p1, oI p2, oI p3, oI p4, oR a1, oI (1 : Int32), .unset, .unset, .unset] [(.int (2 : Int32)), (.int (1 : Int32))]))
    refine own_via (fun t kz => XS.icmpYes X26.here hx rfl (pc0 := 38) (pc' := 54) rfl (hb hby at_38) rfl (tlt (by decide : (1 : Int32) < (2 : Int32))).1 (by decide) (by decide) kz) ?_
    show own_Go p e below _ (T26.setTop (mkF m 54 #[oI p0, oI p1, oI p2, oI p3, oI p4, oR a1, oI (1 : Int32), .unset, .unset, .unset] []))
    refine own_via (fun t kz => XS.iload X26.here hx rfl (hb hby at_54) rfl kz) ?_
    show own_Go p e below _ (T26.setTop (mkF m 56 #[oI p0, oI p1, oI p2, oI p3, oI p4, oR a1, oI (1 : Int32), .unset, .unset, .unset] [(.int (1 : Int32))]))
    refine own_via (fun t kz => XS.iconst X26.here hx rfl (hb hby at_56) kz) ?_
    show own_Go p e below _ (T26.setTop (mkF m 57 #[oI p0, oI p1, oI p2, oI p3, oI p4, oR a1, oI (1 : Int32), .unset, .unset, .unset] [(.int (3 : Int32)), (.int (1 : Int32))]))
    refine own_via (fun t kz => XS.icmpYes X26.here hx rfl (pc0 := 57) (pc' := 73) rfl (hb hby at_57) rfl (tlt (by decide : (1 : Int32) < (3 : Int32))).1 (by decide) (by decide) kz) ?_
    show own_Go p e below _ (T26.setTop (mkF m 73 #[oI p0, oI p1, oI p2, oI p3, oI p4, oR a1, oI (1 : Int32), .unset, .unset, .unset] []))
    refine own_via (fun t kz => XS.aload X26.here hx rfl (hb hby at_73) rfl rfl kz) ?_
    show own_Go p e below _ (T26.setTop (mkF m 75 #[oI p0, oI p1, oI p2, oI p3, oI p4, oR a1, oI (1 : Int32), .unset, .unset, .unset] [(.ref a1)]))
    obtain ⟨cq28, kq28, qa28, qb28, qc28⟩ := isOf hZ rfl (own_exa TD26)
    obtain ⟨_, _, ⟨T28, L28, k28, n28⟩, -, X28, ⟨Lc28, hQ28, l28, y28, z28⟩, st28⟩ := X26.virtualBack hx (y := (⟨"com/example/matchloom/matchloom/league/TouchedCells", "clear", "()V"⟩ : MethodName)) (z := (⟨"com/example/matchloom/matchloom/league/TouchedCells", "clear", "()V"⟩ : MethodName)) hown (mvT hZ (own_w hw 30)) (mvT hZ (own_w hw 31)) (notFace_of_selects (args := #[]) (mvT hZ (own_w hw 33))) (mvT hZ (own_w hw 33)) (mvT hZ (own_w hw 32)) (by decide) (backOf (W := 0) (rm4 l Z a0 hw [] a1 (own_pwm00 (own_S1 v0a v0b)) (own_pwm01 (own_S1 v0a v0b)) (own_pwm10 (own_S1 v0a v0b)) (own_pwm11 (own_S1 v0a v0b)) (own_pwt0 (own_S1 v0a v0b)) (own_pwt1 (own_S1 v0a v0b)) (own_pws00 (own_S1 v0a v0b)) (own_pws01 (own_S1 v0a v0b)) (own_pws10 (own_S1 v0a v0b)) (own_pws11 (own_S1 v0a v0b)) (own_pwc0 (own_S1 v0a v0b)) (own_pwc1 (own_S1 v0a v0b)) (own_pwn (own_S1 v0a v0b)) T26.heap n0 Zq26 TD26 (own_inv1 hb_v0a hb_v0b)) hZ (own_w hw 34) (own_w hw 2) (by decide) (by decide)) qa28 qc28 (g := (mkF m 75 #[oI p0, oI p1, oI p2, oI p3, oI p4, oR a1, oI (1 : Int32), .unset, .unset, .unset] [(.ref a1)])) rfl (by rw [hml]; rfl) (Steps.refl _) (argsL := []) (rest := []) (lenOf pd_0_1 rfl) rfl (by show 2 * 0 + _ ≤ _; exact Nat.le_of_eq rfl) (hb hby at_75) (fun _ _ => ⟨rfl, rfl, (by decide : 9 + 0 ≤ _), (by decide : 21 + 0 ≤ _)⟩)
    dsimp only [Pt.U, Pt.locs, Pt.cells, Pt.slots] at X28 l28 y28 z28 st28 hQ28
    subst l28 y28 z28
    obtain ⟨rfl, Nq28, Zq28, x0, x1, x2, x3, x4, x5, TC28⟩ := hQ28
    have N29 := Fr.app N27 Nq28
    refine own_tr st28 ?_
    show own_Go p e below _ (T28.setTop (mkF m 78 #[oI p0, oI p1, oI p2, oI p3, oI p4, oR a1, oI (1 : Int32), .unset, .unset, .unset] []))
    refine own_via (fun t kz => XS.iload X28.here hx rfl (hb hby at_78) rfl kz) ?_
    show own_Go p e below _ (T28.setTop (mkF m 80 #[oI p0, oI p1, oI p2, oI p3, oI p4, oR a1, oI (1 : Int32), .unset, .unset, .unset] [(.int p4)]))
    refine own_via (fun t kz => XS.iconst X28.here hx rfl (hb hby at_80) kz) ?_
    show own_Go p e below _ (T28.setTop (mkF m 81 #[oI p0, oI p1, oI p2, oI p3, oI p4, oR a1, oI (1 : Int32), .unset, .unset, .unset] [(.int (1 : Int32)), (.int p4)]))
    refine own_via (fun t kz => XS.iand X28.here hx rfl (hb hby at_81) rfl kz) ?_
    show own_Go p e below _ (T28.setTop (mkF m 82 #[oI p0, oI p1, oI p2, oI p3, oI p4, oR a1, oI (1 : Int32), .unset, .unset, .unset] [(.int (p4 &&& (1 : Int32)))]))
    refine own_via (fun t kz => XS.istore X28.here hx rfl (hb hby at_82) rfl (l' := #[oI p0, oI p1, oI p2, oI p3, oI p4, oR a1, oI (1 : Int32), oI (p4 &&& (1 : Int32)), .unset, .unset]) rfl kz) ?_
    show own_Go p e below _ (T28.setTop (mkF m 84 #[oI p0, oI p1, oI p2, oI p3, oI p4, oR a1, oI (1 : Int32), oI (p4 &&& (1 : Int32)), .unset, .unset] []))
    refine own_via (fun t kz => XS.iload X28.here hx rfl (hb hby at_84) rfl kz) ?_
    show own_Go p e below _ (T28.setTop (mkF m 86 #[oI p0, oI p1, oI p2, oI p3, oI p4, oR a1, oI (1 : Int32), oI (p4 &&& (1 : Int32)), .unset, .unset] [(.int p4)]))
    refine own_via (fun t kz => XS.iconst X28.here hx rfl (hb hby at_86) kz) ?_
    show own_Go p e below _ (T28.setTop (mkF m 87 #[oI p0, oI p1, oI p2, oI p3, oI p4, oR a1, oI (1 : Int32), oI (p4 &&& (1 : Int32)), .unset, .unset] [(.int (1 : Int32)), (.int p4)]))
    refine own_via (fun t kz => XS.ishr X28.here hx rfl (hb hby at_87) rfl kz) ?_
    show own_Go p e below _ (T28.setTop (mkF m 88 #[oI p0, oI p1, oI p2, oI p3, oI p4, oR a1, oI (1 : Int32), oI (p4 &&& (1 : Int32)), .unset, .unset] [(.int (p4 >>> ((1 : Int32) &&& 31)))]))
    refine own_via (fun t kz => XS.iconst X28.here hx rfl (hb hby at_88) kz) ?_
    show own_Go p e below _ (T28.setTop (mkF m 89 #[oI p0, oI p1, oI p2, oI p3, oI p4, oR a1, oI (1 : Int32), oI (p4 &&& (1 : Int32)), .unset, .unset] [(.int (1 : Int32)), (.int (p4 >>> ((1 : Int32) &&& 31)))]))
    refine own_via (fun t kz => XS.iand X28.here hx rfl (hb hby at_89) rfl kz) ?_
    show own_Go p e below _ (T28.setTop (mkF m 90 #[oI p0, oI p1, oI p2, oI p3, oI p4, oR a1, oI (1 : Int32), oI (p4 &&& (1 : Int32)), .unset, .unset] [(.int ((p4 >>> ((1 : Int32) &&& 31)) &&& (1 : Int32)))]))
    refine own_via (fun t kz => XS.istore X28.here hx rfl (hb hby at_90) rfl (l' := #[oI p0, oI p1, oI p2, oI p3, oI p4, oR a1, oI (1 : Int32), oI (p4 &&& (1 : Int32)), oI ((p4 >>> ((1 : Int32) &&& 31)) &&& (1 : Int32)), .unset]) rfl kz) ?_
    have hb_vs := and_one (p4 >>> ((1 : Int32) &&& 31))
    generalize ((p4 >>> ((1 : Int32) &&& 31)) &&& (1 : Int32)) = vs at hb_vs ⊢
    have hb_vt := and_one p4
    generalize (p4 &&& (1 : Int32)) = vt at hb_vt ⊢
    show own_Go p e below _ (T28.setTop (mkF m 92 #[oI p0, oI p1, oI p2, oI p3, oI p4, oR a1, oI (1 : Int32), oI vt, oI vs, .unset] []))
    refine own_via (fun t kz => XS.aload X28.here hx rfl (hb hby at_92) rfl rfl kz) ?_
    show own_Go p e below _ (T28.setTop (mkF m 94 #[oI p0, oI p1, oI p2, oI p3, oI p4, oR a1, oI (1 : Int32), oI vt, oI vs, .unset] [(.ref a1)]))
    refine own_via (fun t kz => XS.iload X28.here hx rfl (hb hby at_94) rfl kz) ?_
    show own_Go p e below _ (T28.setTop (mkF m 96 #[oI p0, oI p1, oI p2, oI p3, oI p4, oR a1, oI (1 : Int32), oI vt, oI vs, .unset] [(.int vt), (.ref a1)]))
    refine own_via (fun t kz => XS.iload X28.here hx rfl (hb hby at_96) rfl kz) ?_
    show own_Go p e below _ (T28.setTop (mkF m 98 #[oI p0, oI p1, oI p2, oI p3, oI p4, oR a1, oI (1 : Int32), oI vt, oI vs, .unset] [(.int vs), (.int vt), (.ref a1)]))
    obtain ⟨cq30, kq30, qa30, qb30, qc30⟩ := isOf hZ rfl (own_exa TC28)
    obtain ⟨_, _, ⟨T30, L30, k30, n30⟩, -, X30, ⟨Lc30, hQ30, l30, y30, z30⟩, st30⟩ := X28.virtualBack hx (y := (⟨"com/example/matchloom/matchloom/league/TouchedCells", "mark", "(II)V"⟩ : MethodName)) (z := (⟨"com/example/matchloom/matchloom/league/TouchedCells", "mark", "(II)V"⟩ : MethodName)) hown (mvT hZ (own_w hw 23)) (mvT hZ (own_w hw 24)) (notFace_of_selects (args := #[]) (mvT hZ (own_w hw 26))) (mvT hZ (own_w hw 26)) (mvT hZ (own_w hw 25)) (by decide) (backOf (W := 0) (rm3 l Z a0 hw [] a1 vt vs (own_pwm00 (own_mk 0 0 0 0 x0 x1 x2 x3 x4 x5 0 0 0)) (own_pwm01 (own_mk 0 0 0 0 x0 x1 x2 x3 x4 x5 0 0 0)) (own_pwm10 (own_mk 0 0 0 0 x0 x1 x2 x3 x4 x5 0 0 0)) (own_pwm11 (own_mk 0 0 0 0 x0 x1 x2 x3 x4 x5 0 0 0)) (own_pwt0 (own_mk 0 0 0 0 x0 x1 x2 x3 x4 x5 0 0 0)) (own_pwt1 (own_mk 0 0 0 0 x0 x1 x2 x3 x4 x5 0 0 0)) (own_pws00 (own_mk 0 0 0 0 x0 x1 x2 x3 x4 x5 0 0 0)) (own_pws01 (own_mk 0 0 0 0 x0 x1 x2 x3 x4 x5 0 0 0)) (own_pws10 (own_mk 0 0 0 0 x0 x1 x2 x3 x4 x5 0 0 0)) (own_pws11 (own_mk 0 0 0 0 x0 x1 x2 x3 x4 x5 0 0 0)) (own_pwc0 (own_mk 0 0 0 0 x0 x1 x2 x3 x4 x5 0 0 0)) (own_pwc1 (own_mk 0 0 0 0 x0 x1 x2 x3 x4 x5 0 0 0)) (own_pwn (own_mk 0 0 0 0 x0 x1 x2 x3 x4 x5 0 0 0)) T28.heap n0 Zq28 TC28 hb_vt hb_vs (own_okx x0 x1 x2 x3 x4 x5 hb_vt hb_vs).1 (own_okx x0 x1 x2 x3 x4 x5 hb_vt hb_vs).2) hZ (own_w hw 27) (own_w hw 2) (by decide) (by decide)) qa30 qc30 (g := (mkF m 98 #[oI p0, oI p1, oI p2, oI p3, oI p4, oR a1, oI (1 : Int32), oI vt, oI vs, .unset] [(.int vs), (.int vt), (.ref a1)])) rfl (by rw [hml]; rfl) (Steps.refl _) (argsL := [(.int vt), (.int vs)]) (rest := []) (lenOf pd_0_0 rfl) rfl (by show 2 * 0 + _ ≤ _; exact Nat.le_of_eq rfl) (hb hby at_98) (fun _ _ => ⟨rfl, rfl, (by decide : 9 + 0 ≤ _), (by decide : 21 + 0 ≤ _)⟩)
    dsimp only [Pt.U, Pt.locs, Pt.cells, Pt.slots] at X30 l30 y30 z30 st30 hQ30
    subst l30 y30 z30
    obtain ⟨rfl, Nq30, Zq30, TC30⟩ := hQ30
    have N31 := Fr.app N29 Nq30
    refine own_tr st30 ?_
    have TD30 : own_TC Z T30.heap n0 a1 (own_Sx x0 x1 x2 x3 x4 x5 vt vs) := TC30
    show own_Go p e below _ (T30.setTop (mkF m 101 #[oI p0, oI p1, oI p2, oI p3, oI p4, oR a1, oI (1 : Int32), oI vt, oI vs, .unset] []))
    refine own_via (fun t kz => XS.aload X30.here hx rfl (hb hby at_101) rfl rfl kz) ?_
    show own_Go p e below _ (T30.setTop (mkF m 103 #[oI p0, oI p1, oI p2, oI p3, oI p4, oR a1, oI (1 : Int32), oI vt, oI vs, .unset] [(.ref a1)]))
    obtain ⟨cq32, kq32, qa32, qb32, qc32⟩ := isOf hZ rfl (own_exa TD30)
    obtain ⟨_, _, ⟨T32, L32, k32, n32⟩, -, X32, ⟨Lc32, hQ32, l32, y32, z32⟩, st32⟩ := X30.virtualBack hx (y := (⟨"com/example/matchloom/matchloom/league/TouchedCells", "teams", "()I"⟩ : MethodName)) (z := (⟨"com/example/matchloom/matchloom/league/TouchedCells", "teams", "()I"⟩ : MethodName)) hown (mvT hZ (own_w hw 35)) (mvT hZ (own_w hw 36)) (notFace_of_selects (args := #[]) (mvT hZ (own_w hw 38))) (mvT hZ (own_w hw 38)) (mvT hZ (own_w hw 37)) (by decide) (backOf (W := 0) (rm5 l Z a0 hw [] a1 (own_pwm00 (own_Sx x0 x1 x2 x3 x4 x5 vt vs)) (own_pwm01 (own_Sx x0 x1 x2 x3 x4 x5 vt vs)) (own_pwm10 (own_Sx x0 x1 x2 x3 x4 x5 vt vs)) (own_pwm11 (own_Sx x0 x1 x2 x3 x4 x5 vt vs)) (own_pwt0 (own_Sx x0 x1 x2 x3 x4 x5 vt vs)) (own_pwt1 (own_Sx x0 x1 x2 x3 x4 x5 vt vs)) (own_pws00 (own_Sx x0 x1 x2 x3 x4 x5 vt vs)) (own_pws01 (own_Sx x0 x1 x2 x3 x4 x5 vt vs)) (own_pws10 (own_Sx x0 x1 x2 x3 x4 x5 vt vs)) (own_pws11 (own_Sx x0 x1 x2 x3 x4 x5 vt vs)) (own_pwc0 (own_Sx x0 x1 x2 x3 x4 x5 vt vs)) (own_pwc1 (own_Sx x0 x1 x2 x3 x4 x5 vt vs)) (own_pwn (own_Sx x0 x1 x2 x3 x4 x5 vt vs)) (own_pwn (own_Sx x0 x1 x2 x3 x4 x5 vt vs)) T30.heap n0 Zq30 TD30 (by unfold f5; rfl)) hZ (own_w hw 39) (own_w hw 2) (by decide) (by decide)) qa32 qc32 (g := (mkF m 103 #[oI p0, oI p1, oI p2, oI p3, oI p4, oR a1, oI (1 : Int32), oI vt, oI vs, .unset] [(.ref a1)])) rfl (by rw [hml]; rfl) (Steps.refl _) (argsL := []) (rest := []) (lenOf pd_0_2 rfl) rfl (by show 2 * 0 + _ ≤ _; exact Nat.le_of_eq rfl) (hb hby at_103) (fun _ _ => ⟨rfl, rfl, (by decide : 9 + 0 ≤ _), (by decide : 21 + 0 ≤ _)⟩)
    dsimp only [Pt.U, Pt.locs, Pt.cells, Pt.slots] at X32 l32 y32 z32 st32 hQ32
    subst l32 y32 z32
    obtain ⟨rfl, Nq32, e32⟩ := hQ32
    have N33 := Fr.app N31 Nq32
    refine own_tr st32 ?_
    show own_Go p e below _ (T32.setTop (mkF m 106 #[oI p0, oI p1, oI p2, oI p3, oI p4, oR a1, oI (1 : Int32), oI vt, oI vs, .unset] [(.int (own_pwn (own_Sx x0 x1 x2 x3 x4 x5 vt vs)))]))
    refine own_via (fun t kz => XS.iconst X32.here hx rfl (hb hby at_106) kz) ?_
    show own_Go p e below _ (T32.setTop (mkF m 107 #[oI p0, oI p1, oI p2, oI p3, oI p4, oR a1, oI (1 : Int32), oI vt, oI vs, .unset] [(.int (1 : Int32)), (.int (own_pwn (own_Sx x0 x1 x2 x3 x4 x5 vt vs)))]))
    refine own_via (fun t kz => XS.icmpNo X32.here hx rfl (hb hby at_107) rfl (teq (own_chk107 x0 x1 x2 x3 x4 x5 hb_vt hb_vs)).2 kz) ?_
    show own_Go p e below _ (T32.setTop (mkF m 110 #[oI p0, oI p1, oI p2, oI p3, oI p4, oR a1, oI (1 : Int32), oI vt, oI vs, .unset] []))
    refine own_via (fun t kz => XS.iconst X32.here hx rfl (hb hby at_110) kz) ?_
    show own_Go p e below _ (T32.setTop (mkF m 111 #[oI p0, oI p1, oI p2, oI p3, oI p4, oR a1, oI (1 : Int32), oI vt, oI vs, .unset] [(.int (1 : Int32))]))
    refine own_via (fun t kz => XS.goto X32.here hx rfl (pc0 := 111) (pc' := 115) rfl (hb hby at_111) (by decide) (by decide) kz) ?_
    show own_Go p e below _ (T32.setTop (mkF m 115 #[oI p0, oI p1, oI p2, oI p3, oI p4, oR a1, oI (1 : Int32), oI vt, oI vs, .unset] [(.int (1 : Int32))]))
    refine own_via (fun t kz => XS.istore X32.here hx rfl (hb hby at_115) rfl (l' := #[oI p0, oI p1, oI p2, oI p3, oI p4, oR a1, oI (1 : Int32), oI vt, oI vs, oI (1 : Int32)]) rfl kz) ?_
    show own_Go p e below _ (T32.setTop (mkF m 117 #[oI p0, oI p1, oI p2, oI p3, oI p4, oR a1, oI (1 : Int32), oI vt, oI vs, oI (1 : Int32)] []))
    refine own_via (fun t kz => XS.iload X32.here hx rfl (hb hby at_117) rfl kz) ?_
    show own_Go p e below _ (T32.setTop (mkF m 119 #[oI p0, oI p1, oI p2, oI p3, oI p4, oR a1, oI (1 : Int32), oI vt, oI vs, oI (1 : Int32)] [(.int (1 : Int32))]))
    refine own_via (fun t kz => XS.ifNo X32.here hx rfl (hb hby at_119) rfl ((if0 _ _).trans (feq (by decide : ¬ ((1 : Int32) = (0 : Int32)))).1) kz) ?_
    show own_Go p e below _ (T32.setTop (mkF m 122 #[oI p0, oI p1, oI p2, oI p3, oI p4, oR a1, oI (1 : Int32), oI vt, oI vs, oI (1 : Int32)] []))
    refine own_via (fun t kz => XS.aload X32.here hx rfl (hb hby at_122) rfl rfl kz) ?_
    show own_Go p e below _ (T32.setTop (mkF m 124 #[oI p0, oI p1, oI p2, oI p3, oI p4, oR a1, oI (1 : Int32), oI vt, oI vs, oI (1 : Int32)] [(.ref a1)]))
    refine own_via (fun t kz => XS.iconst X32.here hx rfl (hb hby at_124) kz) ?_
    show own_Go p e below _ (T32.setTop (mkF m 125 #[oI p0, oI p1, oI p2, oI p3, oI p4, oR a1, oI (1 : Int32), oI vt, oI vs, oI (1 : Int32)] [(.int (0 : Int32)), (.ref a1)]))
    obtain ⟨cq34, kq34, qa34, qb34, qc34⟩ := isOf hZ e32 (own_exa TD30)
    obtain ⟨_, _, ⟨T34, L34, k34, n34⟩, -, X34, ⟨Lc34, hQ34, l34, y34, z34⟩, st34⟩ := X32.virtualBack hx (y := (⟨"com/example/matchloom/matchloom/league/TouchedCells", "team", "(I)I"⟩ : MethodName)) (z := (⟨"com/example/matchloom/matchloom/league/TouchedCells", "team", "(I)I"⟩ : MethodName)) hown (mvT hZ (own_w hw 40)) (mvT hZ (own_w hw 41)) (notFace_of_selects (args := #[]) (mvT hZ (own_w hw 43))) (mvT hZ (own_w hw 43)) (mvT hZ (own_w hw 42)) (by decide) (backOf (W := 0) (rm6 l Z a0 hw [] a1 (0 : Int32) (own_pwm00 (own_Sx x0 x1 x2 x3 x4 x5 vt vs)) (own_pwm01 (own_Sx x0 x1 x2 x3 x4 x5 vt vs)) (own_pwm10 (own_Sx x0 x1 x2 x3 x4 x5 vt vs)) (own_pwm11 (own_Sx x0 x1 x2 x3 x4 x5 vt vs)) (own_pwt0 (own_Sx x0 x1 x2 x3 x4 x5 vt vs)) (own_pwt1 (own_Sx x0 x1 x2 x3 x4 x5 vt vs)) (own_pws00 (own_Sx x0 x1 x2 x3 x4 x5 vt vs)) (own_pws01 (own_Sx x0 x1 x2 x3 x4 x5 vt vs)) (own_pws10 (own_Sx x0 x1 x2 x3 x4 x5 vt vs)) (own_pws11 (own_Sx x0 x1 x2 x3 x4 x5 vt vs)) (own_pwc0 (own_Sx x0 x1 x2 x3 x4 x5 vt vs)) (own_pwc1 (own_Sx x0 x1 x2 x3 x4 x5 vt vs)) (own_pwn (own_Sx x0 x1 x2 x3 x4 x5 vt vs)) (own_pwt0 (own_Sx x0 x1 x2 x3 x4 x5 vt vs)) T30.heap n0 Zq30 TD30 (by decide) (by unfold f6; rw [if_pos (by decide : (0 : Int32) = (0 : Int32))])) hZ (own_w hw 44) (own_w hw 2) (by decide) (by decide)) qa34 qc34 (g := (mkF m 125 #[oI p0, oI p1, oI p2, oI p3, oI p4, oR a1, oI (1 : Int32), oI vt, oI vs, oI (1 : Int32)] [(.int (0 : Int32)), (.ref a1)])) rfl (by rw [hml]; rfl) (Steps.refl _) (argsL := [(.int (0 : Int32))]) (rest := []) (lenOf pd_0_3 rfl) rfl (by show 2 * 0 + _ ≤ _; exact Nat.le_of_eq rfl) (hb hby at_125) (fun _ _ => ⟨rfl, e32, (by decide : 9 + 0 ≤ _), (by decide : 21 + 0 ≤ _)⟩)
    dsimp only [Pt.U, Pt.locs, Pt.cells, Pt.slots] at X34 l34 y34 z34 st34 hQ34
    subst l34 y34 z34
    obtain ⟨rfl, Nq34, e34⟩ := hQ34
    have N35 := Fr.app N33 Nq34
    refine own_tr st34 ?_
    show own_Go p e below _ (T34.setTop (mkF m 128 #[oI p0, oI p1, oI p2, oI p3, oI p4, oR a1, oI (1 : Int32), oI vt, oI vs, oI (1 : Int32)] [(.int (own_pwt0 (own_Sx x0 x1 x2 x3 x4 x5 vt vs)))]))
    refine own_via (fun t kz => XS.iload X34.here hx rfl (hb hby at_128) rfl kz) ?_
    show own_Go p e below _ (T34.setTop (mkF m 130 #[oI p0, oI p1, oI p2, oI p3, oI p4, oR a1, oI (1 : Int32), oI vt, oI vs, oI (1 : Int32)] [(.int vt), (.int (own_pwt0 (own_Sx x0 x1 x2 x3 x4 x5 vt vs)))]))
    refine own_via (fun t kz => XS.icmpNo X34.here hx rfl (hb hby at_130) rfl (teq (own_chk130 x0 x1 x2 x3 x4 x5 hb_vt hb_vs)).2 kz) ?_
    show own_Go p e below _ (T34.setTop (mkF m 133 #[oI p0, oI p1, oI p2, oI p3, oI p4, oR a1, oI (1 : Int32), oI vt, oI vs, oI (1 : Int32)] []))
    refine own_via (fun t kz => XS.iconst X34.here hx rfl (hb hby at_133) kz) ?_
    show own_Go p e below _ (T34.setTop (mkF m 134 #[oI p0, oI p1, oI p2, oI p3, oI p4, oR a1, oI (1 : Int32), oI vt, oI vs, oI (1 : Int32)] [(.int (1 : Int32))]))
    refine own_via (fun t kz => XS.goto X34.here hx rfl (pc0 := 134) (pc' := 138) rfl (hb hby at_134) (by decide) (by decide) kz) ?_
    show own_Go p e below _ (T34.setTop (mkF m 138 #[oI p0, oI p1, oI p2, oI p3, oI p4, oR a1, oI (1 : Int32), oI vt, oI vs, oI (1 : Int32)] [(.int (1 : Int32))]))
    refine own_via (fun t kz => XS.istore X34.here hx rfl (hb hby at_138) rfl (l' := #[oI p0, oI p1, oI p2, oI p3, oI p4, oR a1, oI (1 : Int32), oI vt, oI vs, oI (1 : Int32)]) rfl kz) ?_
    show own_Go p e below _ (T34.setTop (mkF m 140 #[oI p0, oI p1, oI p2, oI p3, oI p4, oR a1, oI (1 : Int32), oI vt, oI vs, oI (1 : Int32)] []))
    refine own_via (fun t kz => XS.iload X34.here hx rfl (hb hby at_140) rfl kz) ?_
    show own_Go p e below _ (T34.setTop (mkF m 142 #[oI p0, oI p1, oI p2, oI p3, oI p4, oR a1, oI (1 : Int32), oI vt, oI vs, oI (1 : Int32)] [(.int (1 : Int32))]))
    refine own_via (fun t kz => XS.ifNo X34.here hx rfl (hb hby at_142) rfl ((if0 _ _).trans (feq (by decide : ¬ ((1 : Int32) = (0 : Int32)))).1) kz) ?_
    show own_Go p e below _ (T34.setTop (mkF m 145 #[oI p0, oI p1, oI p2, oI p3, oI p4, oR a1, oI (1 : Int32), oI vt, oI vs, oI (1 : Int32)] []))
    refine own_via (fun t kz => XS.aload X34.here hx rfl (hb hby at_145) rfl rfl kz) ?_
    show own_Go p e below _ (T34.setTop (mkF m 147 #[oI p0, oI p1, oI p2, oI p3, oI p4, oR a1, oI (1 : Int32), oI vt, oI vs, oI (1 : Int32)] [(.ref a1)]))
    refine own_via (fun t kz => XS.iload X34.here hx rfl (hb hby at_147) rfl kz) ?_
    show own_Go p e below _ (T34.setTop (mkF m 149 #[oI p0, oI p1, oI p2, oI p3, oI p4, oR a1, oI (1 : Int32), oI vt, oI vs, oI (1 : Int32)] [(.int vt), (.ref a1)]))
    obtain ⟨cq36, kq36, qa36, qb36, qc36⟩ := isOf hZ e34 (own_exa TD30)
    obtain ⟨_, _, ⟨T36, L36, k36, n36⟩, -, X36, ⟨Lc36, hQ36, l36, y36, z36⟩, st36⟩ := X34.virtualBack hx (y := (⟨"com/example/matchloom/matchloom/league/TouchedCells", "slots", "(I)I"⟩ : MethodName)) (z := (⟨"com/example/matchloom/matchloom/league/TouchedCells", "slots", "(I)I"⟩ : MethodName)) hown (mvT hZ (own_w hw 45)) (mvT hZ (own_w hw 46)) (notFace_of_selects (args := #[]) (mvT hZ (own_w hw 48))) (mvT hZ (own_w hw 48)) (mvT hZ (own_w hw 47)) (by decide) (backOf (W := 0) (rm7 l Z a0 hw [] a1 vt (own_pwm00 (own_Sx x0 x1 x2 x3 x4 x5 vt vs)) (own_pwm01 (own_Sx x0 x1 x2 x3 x4 x5 vt vs)) (own_pwm10 (own_Sx x0 x1 x2 x3 x4 x5 vt vs)) (own_pwm11 (own_Sx x0 x1 x2 x3 x4 x5 vt vs)) (own_pwt0 (own_Sx x0 x1 x2 x3 x4 x5 vt vs)) (own_pwt1 (own_Sx x0 x1 x2 x3 x4 x5 vt vs)) (own_pws00 (own_Sx x0 x1 x2 x3 x4 x5 vt vs)) (own_pws01 (own_Sx x0 x1 x2 x3 x4 x5 vt vs)) (own_pws10 (own_Sx x0 x1 x2 x3 x4 x5 vt vs)) (own_pws11 (own_Sx x0 x1 x2 x3 x4 x5 vt vs)) (own_pwc0 (own_Sx x0 x1 x2 x3 x4 x5 vt vs)) (own_pwc1 (own_Sx x0 x1 x2 x3 x4 x5 vt vs)) (own_pwn (own_Sx x0 x1 x2 x3 x4 x5 vt vs)) (f7 vt (own_pwc0 (own_Sx x0 x1 x2 x3 x4 x5 vt vs)) (own_pwc1 (own_Sx x0 x1 x2 x3 x4 x5 vt vs))) T30.heap n0 Zq30 TD30 hb_vt rfl) hZ (own_w hw 49) (own_w hw 2) (by decide) (by decide)) qa36 qc36 (g := (mkF m 149 #[oI p0, oI p1, oI p2, oI p3, oI p4, oR a1, oI (1 : Int32), oI vt, oI vs, oI (1 : Int32)] [(.int vt), (.ref a1)])) rfl (by rw [hml]; rfl) (Steps.refl _) (argsL := [(.int vt)]) (rest := []) (lenOf pd_0_3 rfl) rfl (by show 2 * 0 + _ ≤ _; exact Nat.le_of_eq rfl) (hb hby at_149) (fun _ _ => ⟨rfl, e34, (by decide : 9 + 0 ≤ _), (by decide : 21 + 0 ≤ _)⟩)
    dsimp only [Pt.U, Pt.locs, Pt.cells, Pt.slots] at X36 l36 y36 z36 st36 hQ36
    subst l36 y36 z36
    obtain ⟨rfl, Nq36, e36⟩ := hQ36
    have N37 := Fr.app N35 Nq36
    refine own_tr st36 ?_
    show own_Go p e below _ (T36.setTop (mkF m 152 #[oI p0, oI p1, oI p2, oI p3, oI p4, oR a1, oI (1 : Int32), oI vt, oI vs, oI (1 : Int32)] [(.int (f7 vt (own_pwc0 (own_Sx x0 x1 x2 x3 x4 x5 vt vs)) (own_pwc1 (own_Sx x0 x1 x2 x3 x4 x5 vt vs))))]))
    refine own_via (fun t kz => XS.iconst X36.here hx rfl (hb hby at_152) kz) ?_
    show own_Go p e below _ (T36.setTop (mkF m 153 #[oI p0, oI p1, oI p2, oI p3, oI p4, oR a1, oI (1 : Int32), oI vt, oI vs, oI (1 : Int32)] [(.int (1 : Int32)), (.int (f7 vt (own_pwc0 (own_Sx x0 x1 x2 x3 x4 x5 vt vs)) (own_pwc1 (own_Sx x0 x1 x2 x3 x4 x5 vt vs))))]))
    refine own_via (fun t kz => XS.icmpNo X36.here hx rfl (hb hby at_153) rfl (teq (own_chk153 x0 x1 x2 x3 x4 x5 hb_vt hb_vs)).2 kz) ?_
    show own_Go p e below _ (T36.setTop (mkF m 156 #[oI p0, oI p1, oI p2, oI p3, oI p4, oR a1, oI (1 : Int32), oI vt, oI vs, oI (1 : Int32)] []))
    refine own_via (fun t kz => XS.iconst X36.here hx rfl (hb hby at_156) kz) ?_
    show own_Go p e below _ (T36.setTop (mkF m 157 #[oI p0, oI p1, oI p2, oI p3, oI p4, oR a1, oI (1 : Int32), oI vt, oI vs, oI (1 : Int32)] [(.int (1 : Int32))]))
    refine own_via (fun t kz => XS.goto X36.here hx rfl (pc0 := 157) (pc' := 161) rfl (hb hby at_157) (by decide) (by decide) kz) ?_
    show own_Go p e below _ (T36.setTop (mkF m 161 #[oI p0, oI p1, oI p2, oI p3, oI p4, oR a1, oI (1 : Int32), oI vt, oI vs, oI (1 : Int32)] [(.int (1 : Int32))]))
    refine own_via (fun t kz => XS.istore X36.here hx rfl (hb hby at_161) rfl (l' := #[oI p0, oI p1, oI p2, oI p3, oI p4, oR a1, oI (1 : Int32), oI vt, oI vs, oI (1 : Int32)]) rfl kz) ?_
    show own_Go p e below _ (T36.setTop (mkF m 163 #[oI p0, oI p1, oI p2, oI p3, oI p4, oR a1, oI (1 : Int32), oI vt, oI vs, oI (1 : Int32)] []))
    refine own_via (fun t kz => XS.iload X36.here hx rfl (hb hby at_163) rfl kz) ?_
    show own_Go p e below _ (T36.setTop (mkF m 165 #[oI p0, oI p1, oI p2, oI p3, oI p4, oR a1, oI (1 : Int32), oI vt, oI vs, oI (1 : Int32)] [(.int (1 : Int32))]))
    refine own_via (fun t kz => XS.ifNo X36.here hx rfl (hb hby at_165) rfl ((if0 _ _).trans (feq (by decide : ¬ ((1 : Int32) = (0 : Int32)))).1) kz) ?_
    show own_Go p e below _ (T36.setTop (mkF m 168 #[oI p0, oI p1, oI p2, oI p3, oI p4, oR a1, oI (1 : Int32), oI vt, oI vs, oI (1 : Int32)] []))
    refine own_via (fun t kz => XS.aload X36.here hx rfl (hb hby at_168) rfl rfl kz) ?_
    show own_Go p e below _ (T36.setTop (mkF m 170 #[oI p0, oI p1, oI p2, oI p3, oI p4, oR a1, oI (1 : Int32), oI vt, oI vs, oI (1 : Int32)] [(.ref a1)]))
    refine own_via (fun t kz => XS.iload X36.here hx rfl (hb hby at_170) rfl kz) ?_
    show own_Go p e below _ (T36.setTop (mkF m 172 #[oI p0, oI p1, oI p2, oI p3, oI p4, oR a1, oI (1 : Int32), oI vt, oI vs, oI (1 : Int32)] [(.int vt), (.ref a1)]))
    refine own_via (fun t kz => XS.iconst X36.here hx rfl (hb hby at_172) kz) ?_
    show own_Go p e below _ (T36.setTop (mkF m 173 #[oI p0, oI p1, oI p2, oI p3, oI p4, oR a1, oI (1 : Int32), oI vt, oI vs, oI (1 : Int32)] [(.int (0 : Int32)), (.int vt), (.ref a1)]))
    obtain ⟨cq38, kq38, qa38, qb38, qc38⟩ := isOf hZ e36 (own_exa TD30)
    obtain ⟨_, _, ⟨T38, L38, k38, n38⟩, -, X38, ⟨Lc38, hQ38, l38, y38, z38⟩, st38⟩ := X36.virtualBack hx (y := (⟨"com/example/matchloom/matchloom/league/TouchedCells", "slot", "(II)I"⟩ : MethodName)) (z := (⟨"com/example/matchloom/matchloom/league/TouchedCells", "slot", "(II)I"⟩ : MethodName)) hown (mvT hZ (own_w hw 50)) (mvT hZ (own_w hw 51)) (notFace_of_selects (args := #[]) (mvT hZ (own_w hw 53))) (mvT hZ (own_w hw 53)) (mvT hZ (own_w hw 52)) (by decide) (backOf (W := 0) (rm8 l Z a0 hw [] a1 vt (0 : Int32) (own_pwm00 (own_Sx x0 x1 x2 x3 x4 x5 vt vs)) (own_pwm01 (own_Sx x0 x1 x2 x3 x4 x5 vt vs)) (own_pwm10 (own_Sx x0 x1 x2 x3 x4 x5 vt vs)) (own_pwm11 (own_Sx x0 x1 x2 x3 x4 x5 vt vs)) (own_pwt0 (own_Sx x0 x1 x2 x3 x4 x5 vt vs)) (own_pwt1 (own_Sx x0 x1 x2 x3 x4 x5 vt vs)) (own_pws00 (own_Sx x0 x1 x2 x3 x4 x5 vt vs)) (own_pws01 (own_Sx x0 x1 x2 x3 x4 x5 vt vs)) (own_pws10 (own_Sx x0 x1 x2 x3 x4 x5 vt vs)) (own_pws11 (own_Sx x0 x1 x2 x3 x4 x5 vt vs)) (own_pwc0 (own_Sx x0 x1 x2 x3 x4 x5 vt vs)) (own_pwc1 (own_Sx x0 x1 x2 x3 x4 x5 vt vs)) (own_pwn (own_Sx x0 x1 x2 x3 x4 x5 vt vs)) (f8 vt (0 : Int32) (own_pws00 (own_Sx x0 x1 x2 x3 x4 x5 vt vs)) (own_pws01 (own_Sx x0 x1 x2 x3 x4 x5 vt vs)) (own_pws10 (own_Sx x0 x1 x2 x3 x4 x5 vt vs)) (own_pws11 (own_Sx x0 x1 x2 x3 x4 x5 vt vs))) T30.heap n0 Zq30 TD30 hb_vt (by decide) rfl) hZ (own_w hw 54) (own_w hw 2) (by decide) (by decide)) qa38 qc38 (g := (mkF m 173 #[oI p0, oI p1, oI p2, oI p3, oI p4, oR a1, oI (1 : Int32), oI vt, oI vs, oI (1 : Int32)] [(.int (0 : Int32)), (.int vt), (.ref a1)])) rfl (by rw [hml]; rfl) (Steps.refl _) (argsL := [(.int vt), (.int (0 : Int32))]) (rest := []) (lenOf pd_0_4 rfl) rfl (by show 2 * 0 + _ ≤ _; exact Nat.le_of_eq rfl) (hb hby at_173) (fun _ _ => ⟨rfl, e36, (by decide : 9 + 0 ≤ _), (by decide : 21 + 0 ≤ _)⟩)
    dsimp only [Pt.U, Pt.locs, Pt.cells, Pt.slots] at X38 l38 y38 z38 st38 hQ38
    subst l38 y38 z38
    obtain ⟨rfl, Nq38, e38⟩ := hQ38
    have N39 := Fr.app N37 Nq38
    refine own_tr st38 ?_
    show own_Go p e below _ (T38.setTop (mkF m 176 #[oI p0, oI p1, oI p2, oI p3, oI p4, oR a1, oI (1 : Int32), oI vt, oI vs, oI (1 : Int32)] [(.int (f8 vt (0 : Int32) (own_pws00 (own_Sx x0 x1 x2 x3 x4 x5 vt vs)) (own_pws01 (own_Sx x0 x1 x2 x3 x4 x5 vt vs)) (own_pws10 (own_Sx x0 x1 x2 x3 x4 x5 vt vs)) (own_pws11 (own_Sx x0 x1 x2 x3 x4 x5 vt vs))))]))
    refine own_via (fun t kz => XS.iload X38.here hx rfl (hb hby at_176) rfl kz) ?_
    show own_Go p e below _ (T38.setTop (mkF m 178 #[oI p0, oI p1, oI p2, oI p3, oI p4, oR a1, oI (1 : Int32), oI vt, oI vs, oI (1 : Int32)] [(.int vs), (.int (f8 vt (0 : Int32) (own_pws00 (own_Sx x0 x1 x2 x3 x4 x5 vt vs)) (own_pws01 (own_Sx x0 x1 x2 x3 x4 x5 vt vs)) (own_pws10 (own_Sx x0 x1 x2 x3 x4 x5 vt vs)) (own_pws11 (own_Sx x0 x1 x2 x3 x4 x5 vt vs))))]))
    refine own_via (fun t kz => XS.icmpNo X38.here hx rfl (hb hby at_178) rfl (teq (own_chk178 x0 x1 x2 x3 x4 x5 hb_vt hb_vs)).2 kz) ?_
    show own_Go p e below _ (T38.setTop (mkF m 181 #[oI p0, oI p1, oI p2, oI p3, oI p4, oR a1, oI (1 : Int32), oI vt, oI vs, oI (1 : Int32)] []))
    refine own_via (fun t kz => XS.iconst X38.here hx rfl (hb hby at_181) kz) ?_
    show own_Go p e below _ (T38.setTop (mkF m 182 #[oI p0, oI p1, oI p2, oI p3, oI p4, oR a1, oI (1 : Int32), oI vt, oI vs, oI (1 : Int32)] [(.int (1 : Int32))]))
    refine own_via (fun t kz => XS.goto X38.here hx rfl (pc0 := 182) (pc' := 186) rfl (hb hby at_182) (by decide) (by decide) kz) ?_
    show own_Go p e below _ (T38.setTop (mkF m 186 #[oI p0, oI p1, oI p2, oI p3, oI p4, oR a1, oI (1 : Int32), oI vt, oI vs, oI (1 : Int32)] [(.int (1 : Int32))]))
    refine own_via (fun t kz => XS.istore X38.here hx rfl (hb hby at_186) rfl (l' := #[oI p0, oI p1, oI p2, oI p3, oI p4, oR a1, oI (1 : Int32), oI vt, oI vs, oI (1 : Int32)]) rfl kz) ?_
    show own_Go p e below _ (T38.setTop (mkF m 188 #[oI p0, oI p1, oI p2, oI p3, oI p4, oR a1, oI (1 : Int32), oI vt, oI vs, oI (1 : Int32)] []))
    refine own_via (fun t kz => XS.iload X38.here hx rfl (hb hby at_188) rfl kz) ?_
    show own_Go p e below _ (T38.setTop (mkF m 190 #[oI p0, oI p1, oI p2, oI p3, oI p4, oR a1, oI (1 : Int32), oI vt, oI vs, oI (1 : Int32)] [(.int (1 : Int32))]))
    refine own_via (fun t kz => XS.ifNo X38.here hx rfl (hb hby at_190) rfl ((if0 _ _).trans (feq (by decide : ¬ ((1 : Int32) = (0 : Int32)))).1) kz) ?_
    show own_Go p e below _ (T38.setTop (mkF m 193 #[oI p0, oI p1, oI p2, oI p3, oI p4, oR a1, oI (1 : Int32), oI vt, oI vs, oI (1 : Int32)] []))
    refine own_via (fun t kz => XS.aload X38.here hx rfl (hb hby at_193) rfl rfl kz) ?_
    show own_Go p e below _ (T38.setTop (mkF m 195 #[oI p0, oI p1, oI p2, oI p3, oI p4, oR a1, oI (1 : Int32), oI vt, oI vs, oI (1 : Int32)] [(.ref a1)]))
    refine own_via (fun t kz => XS.iconst X38.here hx rfl (hb hby at_195) kz) ?_
    show own_Go p e below _ (T38.setTop (mkF m 196 #[oI p0, oI p1, oI p2, oI p3, oI p4, oR a1, oI (1 : Int32), oI vt, oI vs, oI (1 : Int32)] [(.int (1 : Int32)), (.ref a1)]))
    refine own_via (fun t kz => XS.iload X38.here hx rfl (hb hby at_196) rfl kz) ?_
    show own_Go p e below _ (T38.setTop (mkF m 198 #[oI p0, oI p1, oI p2, oI p3, oI p4, oR a1, oI (1 : Int32), oI vt, oI vs, oI (1 : Int32)] [(.int vt), (.int (1 : Int32)), (.ref a1)]))
    refine own_via (fun t kz => XS.isub X38.here hx rfl (hb hby at_198) rfl kz) ?_
    show own_Go p e below _ (T38.setTop (mkF m 199 #[oI p0, oI p1, oI p2, oI p3, oI p4, oR a1, oI (1 : Int32), oI vt, oI vs, oI (1 : Int32)] [(.int ((1 : Int32) - vt)), (.ref a1)]))
    obtain ⟨cq40, kq40, qa40, qb40, qc40⟩ := isOf hZ e38 (own_exa TD30)
    obtain ⟨_, _, ⟨T40, L40, k40, n40⟩, -, X40, ⟨Lc40, hQ40, l40, y40, z40⟩, st40⟩ := X38.virtualBack hx (y := (⟨"com/example/matchloom/matchloom/league/TouchedCells", "slots", "(I)I"⟩ : MethodName)) (z := (⟨"com/example/matchloom/matchloom/league/TouchedCells", "slots", "(I)I"⟩ : MethodName)) hown (mvT hZ (own_w hw 45)) (mvT hZ (own_w hw 46)) (notFace_of_selects (args := #[]) (mvT hZ (own_w hw 48))) (mvT hZ (own_w hw 48)) (mvT hZ (own_w hw 47)) (by decide) (backOf (W := 0) (rm7 l Z a0 hw [] a1 ((1 : Int32) - vt) (own_pwm00 (own_Sx x0 x1 x2 x3 x4 x5 vt vs)) (own_pwm01 (own_Sx x0 x1 x2 x3 x4 x5 vt vs)) (own_pwm10 (own_Sx x0 x1 x2 x3 x4 x5 vt vs)) (own_pwm11 (own_Sx x0 x1 x2 x3 x4 x5 vt vs)) (own_pwt0 (own_Sx x0 x1 x2 x3 x4 x5 vt vs)) (own_pwt1 (own_Sx x0 x1 x2 x3 x4 x5 vt vs)) (own_pws00 (own_Sx x0 x1 x2 x3 x4 x5 vt vs)) (own_pws01 (own_Sx x0 x1 x2 x3 x4 x5 vt vs)) (own_pws10 (own_Sx x0 x1 x2 x3 x4 x5 vt vs)) (own_pws11 (own_Sx x0 x1 x2 x3 x4 x5 vt vs)) (own_pwc0 (own_Sx x0 x1 x2 x3 x4 x5 vt vs)) (own_pwc1 (own_Sx x0 x1 x2 x3 x4 x5 vt vs)) (own_pwn (own_Sx x0 x1 x2 x3 x4 x5 vt vs)) (f7 ((1 : Int32) - vt) (own_pwc0 (own_Sx x0 x1 x2 x3 x4 x5 vt vs)) (own_pwc1 (own_Sx x0 x1 x2 x3 x4 x5 vt vs))) T30.heap n0 Zq30 TD30 (own_sub hb_vt) rfl) hZ (own_w hw 49) (own_w hw 2) (by decide) (by decide)) qa40 qc40 (g := (mkF m 199 #[oI p0, oI p1, oI p2, oI p3, oI p4, oR a1, oI (1 : Int32), oI vt, oI vs, oI (1 : Int32)] [(.int ((1 : Int32) - vt)), (.ref a1)])) rfl (by rw [hml]; rfl) (Steps.refl _) (argsL := [(.int ((1 : Int32) - vt))]) (rest := []) (lenOf pd_0_3 rfl) rfl (by show 2 * 0 + _ ≤ _; exact Nat.le_of_eq rfl) (hb hby at_199) (fun _ _ => ⟨rfl, e38, (by decide : 9 + 0 ≤ _), (by decide : 21 + 0 ≤ _)⟩)
    dsimp only [Pt.U, Pt.locs, Pt.cells, Pt.slots] at X40 l40 y40 z40 st40 hQ40
    subst l40 y40 z40
    obtain ⟨rfl, Nq40, e40⟩ := hQ40
    have N41 := Fr.app N39 Nq40
    refine own_tr st40 ?_
    show own_Go p e below _ (T40.setTop (mkF m 202 #[oI p0, oI p1, oI p2, oI p3, oI p4, oR a1, oI (1 : Int32), oI vt, oI vs, oI (1 : Int32)] [(.int (f7 ((1 : Int32) - vt) (own_pwc0 (own_Sx x0 x1 x2 x3 x4 x5 vt vs)) (own_pwc1 (own_Sx x0 x1 x2 x3 x4 x5 vt vs))))]))
    refine own_via (fun t kz => XS.ifNo X40.here hx rfl (hb hby at_202) rfl ((if0 _ _).trans (teq (own_chk202 x0 x1 x2 x3 x4 x5 hb_vt hb_vs)).2) kz) ?_
    show own_Go p e below _ (T40.setTop (mkF m 205 #[oI p0, oI p1, oI p2, oI p3, oI p4, oR a1, oI (1 : Int32), oI vt, oI vs, oI (1 : Int32)] []))
    refine own_via (fun t kz => XS.iconst X40.here hx rfl (hb hby at_205) kz) ?_
    show own_Go p e below _ (T40.setTop (mkF m 206 #[oI p0, oI p1, oI p2, oI p3, oI p4, oR a1, oI (1 : Int32), oI vt, oI vs, oI (1 : Int32)] [(.int (1 : Int32))]))
    refine own_via (fun t kz => XS.goto X40.here hx rfl (pc0 := 206) (pc' := 210) rfl (hb hby at_206) (by decide) (by decide) kz) ?_
    show own_Go p e below _ (T40.setTop (mkF m 210 #[oI p0, oI p1, oI p2, oI p3, oI p4, oR a1, oI (1 : Int32), oI vt, oI vs, oI (1 : Int32)] [(.int (1 : Int32))]))
    refine own_via (fun t kz => XS.istore X40.here hx rfl (hb hby at_210) rfl (l' := #[oI p0, oI p1, oI p2, oI p3, oI p4, oR a1, oI (1 : Int32), oI vt, oI vs, oI (1 : Int32)]) rfl kz) ?_
    show own_Go p e below _ (T40.setTop (mkF m 212 #[oI p0, oI p1, oI p2, oI p3, oI p4, oR a1, oI (1 : Int32), oI vt, oI vs, oI (1 : Int32)] []))
    refine own_via (fun t kz => XS.iload X40.here hx rfl (hb hby at_212) rfl kz) ?_
    show own_Go p e below _ (T40.setTop (mkF m 214 #[oI p0, oI p1, oI p2, oI p3, oI p4, oR a1, oI (1 : Int32), oI vt, oI vs, oI (1 : Int32)] [(.int (1 : Int32))]))
    obtain ⟨fs, hr, hrun, hended, hW, hsame⟩ := X40.leave (v := some (.int (1 : Int32))) (fun h => by rw [Bd.returns] at h; cases h)
    refine ⟨_, _, retN X40 hx (t := .boolean) Bd.returns (by simp) (hb hby at_214) hr, hrun, hended, _, _, rfl, ?_, ⟨_, rfl⟩, hW, hsame.mono (by decide) (by decide)⟩
    show Q0 Z p0 p1 p2 p3 p4 h0 n0 _ T40.heap _
    rw [e40]
    exact ⟨rfl, N41⟩
  · show own_Go p e below _ (T9.setTop (mkF m 16 #[oI p0, oI p1, oI p2, oI p3, oI p4, oR a1, oI (2 : Int32), .unset, .unset, .unset] []))
    refine own_via (fun t kz => XS.iload X9.here hx rfl (hb hby at_16) rfl kz) ?_
    show own_Go p e below _ (T9.setTop (mkF m 18 #[oI p0, oI p1, oI p2, oI p3, oI p4, oR a1, oI (2 : Int32), .unset, .unset, .unset] [(.int (2 : Int32))]))
    refine own_via (fun t kz => XS.iconst X9.here hx rfl (hb hby at_18) kz) ?_
    show own_Go p e below _ (T9.setTop (mkF m 19 #[oI p0, oI p1, oI p2, oI p3, oI p4, oR a1, oI (2 : Int32), .unset, .unset, .unset] [(.int (1 : Int32)), (.int (2 : Int32))]))
    refine own_via (fun t kz => XS.icmpNo X9.here hx rfl (hb hby at_19) rfl (flt (by decide : ¬ ((2 : Int32) < (1 : Int32)))).1 kz) ?_
    show own_Go p e below _ (T9.setTop (mkF m 22 #[oI p0, oI p1, oI p2, oI p3, oI p4, oR a1, oI (2 : Int32), .unset, .unset, .unset] []))
    refine own_via (fun t kz => XS.aload X9.here hx rfl (hb hby at_22) rfl rfl kz) ?_
    show own_Go p e below _ (T9.setTop (mkF m 24 #[oI p0, oI p1, oI p2, oI p3, oI p4, oR a1, oI (2 : Int32), .unset, .unset, .unset] [(.ref a1)]))
    refine own_via (fun t kz => XS.iloadN X9.here hx rfl (hb hby at_24) rfl kz) ?_
    show own_Go p e below _ (T9.setTop (mkF m 25 #[oI p0, oI p1, oI p2, oI p3, oI p4, oR a1, oI (2 : Int32), .unset, .unset, .unset] [(.int p0), (.ref a1)]))
    refine own_via (fun t kz => XS.iconst X9.here hx rfl (hb hby at_25) kz) ?_
    show own_Go p e below _ (T9.setTop (mkF m 26 #[oI p0, oI p1, oI p2, oI p3, oI p4, oR a1, oI (2 : Int32), .unset, .unset, .unset] [(.int (1 : Int32)), (.int p0), (.ref a1)]))
    refine own_via (fun t kz => XS.iand X9.here hx rfl (hb hby at_26) rfl kz) ?_
    show own_Go p e below _ (T9.setTop (mkF m 27 #[oI p0, oI p1, oI p2, oI p3, oI p4, oR a1, oI (2 : Int32), .unset, .unset, .unset] [(.int (p0 &&& (1 : Int32))), (.ref a1)]))
    refine own_via (fun t kz => XS.iloadN X9.here hx rfl (hb hby at_27) rfl kz) ?_
    show own_Go p e below _ (T9.setTop (mkF m 28 #[oI p0, oI p1, oI p2, oI p3, oI p4, oR a1, oI (2 : Int32), .unset, .unset, .unset] [(.int p0), (.int (p0 &&& (1 : Int32))), (.ref a1)]))
    refine own_via (fun t kz => XS.iconst X9.here hx rfl (hb hby at_28) kz) ?_
    show own_Go p e below _ (T9.setTop (mkF m 29 #[oI p0, oI p1, oI p2, oI p3, oI p4, oR a1, oI (2 : Int32), .unset, .unset, .unset] [(.int (1 : Int32)), (.int p0), (.int (p0 &&& (1 : Int32))), (.ref a1)]))
    refine own_via (fun t kz => XS.ishr X9.here hx rfl (hb hby at_29) rfl kz) ?_
    show own_Go p e below _ (T9.setTop (mkF m 30 #[oI p0, oI p1, oI p2, oI p3, oI p4, oR a1, oI (2 : Int32), .unset, .unset, .unset] [(.int (p0 >>> ((1 : Int32) &&& 31))), (.int (p0 &&& (1 : Int32))), (.ref a1)]))
    refine own_via (fun t kz => XS.iconst X9.here hx rfl (hb hby at_30) kz) ?_
    show own_Go p e below _ (T9.setTop (mkF m 31 #[oI p0, oI p1, oI p2, oI p3, oI p4, oR a1, oI (2 : Int32), .unset, .unset, .unset] [(.int (1 : Int32)), (.int (p0 >>> ((1 : Int32) &&& 31))), (.int (p0 &&& (1 : Int32))), (.ref a1)]))
    refine own_via (fun t kz => XS.iand X9.here hx rfl (hb hby at_31) rfl kz) ?_
    show own_Go p e below _ (T9.setTop (mkF m 32 #[oI p0, oI p1, oI p2, oI p3, oI p4, oR a1, oI (2 : Int32), .unset, .unset, .unset] [(.int ((p0 >>> ((1 : Int32) &&& 31)) &&& (1 : Int32))), (.int (p0 &&& (1 : Int32))), (.ref a1)]))
    have hb_v0b := and_one (p0 >>> ((1 : Int32) &&& 31))
    generalize ((p0 >>> ((1 : Int32) &&& 31)) &&& (1 : Int32)) = v0b at hb_v0b ⊢
    have hb_v0a := and_one p0
    generalize (p0 &&& (1 : Int32)) = v0a at hb_v0a ⊢
    show own_Go p e below _ (T9.setTop (mkF m 32 #[oI p0, oI p1, oI p2, oI p3, oI p4, oR a1, oI (2 : Int32), .unset, .unset, .unset] [(.int v0b), (.int v0a), (.ref a1)]))
    obtain ⟨cq43, kq43, qa43, qb43, qc43⟩ := isOf hZ rfl (own_exa TD9)
    obtain ⟨_, _, ⟨T43, L43, k43, n43⟩, -, X43, ⟨Lc43, hQ43, l43, y43, z43⟩, st43⟩ := X9.virtualBack hx (y := (⟨"com/example/matchloom/matchloom/league/TouchedCells", "mark", "(II)V"⟩ : MethodName)) (z := (⟨"com/example/matchloom/matchloom/league/TouchedCells", "mark", "(II)V"⟩ : MethodName)) hown (mvT hZ (own_w hw 23)) (mvT hZ (own_w hw 24)) (notFace_of_selects (args := #[]) (mvT hZ (own_w hw 26))) (mvT hZ (own_w hw 26)) (mvT hZ (own_w hw 25)) (by decide) (backOf (W := 0) (rm3 l Z a0 hw [] a1 v0a v0b (own_pwm00 own_S0) (own_pwm01 own_S0) (own_pwm10 own_S0) (own_pwm11 own_S0) (own_pwt0 own_S0) (own_pwt1 own_S0) (own_pws00 own_S0) (own_pws01 own_S0) (own_pws10 own_S0) (own_pws11 own_S0) (own_pwc0 own_S0) (own_pwc1 own_S0) (own_pwn own_S0) T9.heap n0 Zq9 TD9 hb_v0a hb_v0b (own_ok1 hb_v0a hb_v0b).1 (own_ok1 hb_v0a hb_v0b).2) hZ (own_w hw 27) (own_w hw 2) (by decide) (by decide)) qa43 qc43 (g := (mkF m 32 #[oI p0, oI p1, oI p2, oI p3, oI p4, oR a1, oI (2 : Int32), .unset, .unset, .unset] [(.int v0b), (.int v0a), (.ref a1)])) rfl (by rw [hml]; rfl) (Steps.refl _) (argsL := [(.int v0a), (.int v0b)]) (rest := []) (lenOf pd_0_0 rfl) rfl (by show 2 * 0 + _ ≤ _; exact Nat.le_of_eq rfl) (hb hby at_32) (fun _ _ => ⟨rfl, rfl, (by decide : 9 + 0 ≤ _), (by decide : 21 + 0 ≤ _)⟩)
    dsimp only [Pt.U, Pt.locs, Pt.cells, Pt.slots] at X43 l43 y43 z43 st43 hQ43
    subst l43 y43 z43
    obtain ⟨rfl, Nq43, Zq43, TC43⟩ := hQ43
    have N44 := Fr.app N10 Nq43
    refine own_tr st43 ?_
    have TD43 : own_TC Z T43.heap n0 a1 (own_S1 v0a v0b) := TC43
    show own_Go p e below _ (T43.setTop (mkF m 35 #[oI p0, oI p1, oI p2, oI p3, oI p4, oR a1, oI (2 : Int32), .unset, .unset, .unset] []))
    refine own_via (fun t kz => XS.iload X43.here hx rfl (hb hby at_35) rfl kz) ?_
    show own_Go p e below _ (T43.setTop (mkF m 37 #[oI p0, oI p1, oI p2, oI p3, oI p4, oR a1, oI (2 : Int32), .unset, .unset, .unset] [(.int (2 : Int32))]))
    refine own_via (fun t kz => XS.iconst X43.here hx rfl (hb hby at_37) kz) ?_
    show own_Go p e below _ (T43.setTop (mkF m 38 #[oI p0, oI p1, oI p2, oI p3, oI p4, oR a1, oI (2 : Int32), .unset, .unset, .unset] [(.int (2 : Int32)), (.int (2 : Int32))]))
    refine own_via (fun t kz => XS.icmpNo X43.here hx rfl (hb hby at_38) rfl (flt (by decide : ¬ ((2 : Int32) < (2 : Int32)))).1 kz) ?_
    show own_Go p e below _ (T43.setTop (mkF m 41 #[oI p0, oI p1, oI p2, oI p3, oI p4, oR a1, oI (2 : Int32), .unset, .unset, .unset] []))
    refine own_via (fun t kz => XS.aload X43.here hx rfl (hb hby at_41) rfl rfl kz) ?_
    show own_Go p e below _ (T43.setTop (mkF m 43 #[oI p0, oI p1, oI p2, oI p3, oI p4, oR a1, oI (2 : Int32), .unset, .unset, .unset] [(.ref a1)]))
    refine own_via (fun t kz => XS.iloadN X43.here hx rfl (hb hby at_43) rfl kz) ?_
    show own_Go p e below _ (T43.setTop (mkF m 44 #[oI p0, oI p1, oI p2, oI p3, oI p4, oR a1, oI (2 : Int32), .unset, .unset, .unset] [(.int p1), (.ref a1)]))
    refine own_via (fun t kz => XS.iconst X43.here hx rfl (hb hby at_44) kz) ?_
    show own_Go p e below _ (T43.setTop (mkF m 45 #[oI p0, oI p1, oI p2, oI p3, oI p4, oR a1, oI (2 : Int32), .unset, .unset, .unset] [(.int (1 : Int32)), (.int p1), (.ref a1)]))
    refine own_via (fun t kz => XS.iand X43.here hx rfl (hb hby at_45) rfl kz) ?_
    show own_Go p e below _ (T43.setTop (mkF m 46 #[oI p0, oI p1, oI p2, oI p3, oI p4, oR a1, oI (2 : Int32), .unset, .unset, .unset] [(.int (p1 &&& (1 : Int32))), (.ref a1)]))
    refine own_via (fun t kz => XS.iloadN X43.here hx rfl (hb hby at_46) rfl kz) ?_
    show own_Go p e below _ (T43.setTop (mkF m 47 #[oI p0, oI p1, oI p2, oI p3, oI p4, oR a1, oI (2 : Int32), .unset, .unset, .unset] [(.int p1), (.int (p1 &&& (1 : Int32))), (.ref a1)]))
    refine own_via (fun t kz => XS.iconst X43.here hx rfl (hb hby at_47) kz) ?_
    show own_Go p e below _ (T43.setTop (mkF m 48 #[oI p0, oI p1, oI p2, oI p3, oI p4, oR a1, oI (2 : Int32), .unset, .unset, .unset] [(.int (1 : Int32)), (.int p1), (.int (p1 &&& (1 : Int32))), (.ref a1)]))
    refine own_via (fun t kz => XS.ishr X43.here hx rfl (hb hby at_48) rfl kz) ?_
    show own_Go p e below _ (T43.setTop (mkF m 49 #[oI p0, oI p1, oI p2, oI p3, oI p4, oR a1, oI (2 : Int32), .unset, .unset, .unset] [(.int (p1 >>> ((1 : Int32) &&& 31))), (.int (p1 &&& (1 : Int32))), (.ref a1)]))
    refine own_via (fun t kz => XS.iconst X43.here hx rfl (hb hby at_49) kz) ?_
    show own_Go p e below _ (T43.setTop (mkF m 50 #[oI p0, oI p1, oI p2, oI p3, oI p4, oR a1, oI (2 : Int32), .unset, .unset, .unset] [(.int (1 : Int32)), (.int (p1 >>> ((1 : Int32) &&& 31))), (.int (p1 &&& (1 : Int32))), (.ref a1)]))
    refine own_via (fun t kz => XS.iand X43.here hx rfl (hb hby at_50) rfl kz) ?_
    show own_Go p e below _ (T43.setTop (mkF m 51 #[oI p0, oI p1, oI p2, oI p3, oI p4, oR a1, oI (2 : Int32), .unset, .unset, .unset] [(.int ((p1 >>> ((1 : Int32) &&& 31)) &&& (1 : Int32))), (.int (p1 &&& (1 : Int32))), (.ref a1)]))
    have hb_v1b := and_one (p1 >>> ((1 : Int32) &&& 31))
    generalize ((p1 >>> ((1 : Int32) &&& 31)) &&& (1 : Int32)) = v1b at hb_v1b ⊢
    have hb_v1a := and_one p1
    generalize (p1 &&& (1 : Int32)) = v1a at hb_v1a ⊢
    show own_Go p e below _ (T43.setTop (mkF m 51 #[oI p0, oI p1, oI p2, oI p3, oI p4, oR a1, oI (2 : Int32), .unset, .unset, .unset] [(.int v1b), (.int v1a), (.ref a1)]))
    obtain ⟨cq45, kq45, qa45, qb45, qc45⟩ := isOf hZ rfl (own_exa TD43)
    obtain ⟨_, _, ⟨T45, L45, k45, n45⟩, -, X45, ⟨Lc45, hQ45, l45, y45, z45⟩, st45⟩ := X43.virtualBack hx (y := (⟨"com/example/matchloom/matchloom/league/TouchedCells", "mark", "(II)V"⟩ : MethodName)) (z := (⟨"com/example/matchloom/matchloom/league/TouchedCells", "mark", "(II)V"⟩ : MethodName)) hown (mvT hZ (own_w hw 23)) (mvT hZ (own_w hw 24)) (notFace_of_selects (args := #[]) (mvT hZ (own_w hw 26))) (mvT hZ (own_w hw 26)) (mvT hZ (own_w hw 25)) (by decide) (backOf (W := 0) (rm3 l Z a0 hw [] a1 v1a v1b (own_pwm00 (own_S1 v0a v0b)) (own_pwm01 (own_S1 v0a v0b)) (own_pwm10 (own_S1 v0a v0b)) (own_pwm11 (own_S1 v0a v0b)) (own_pwt0 (own_S1 v0a v0b)) (own_pwt1 (own_S1 v0a v0b)) (own_pws00 (own_S1 v0a v0b)) (own_pws01 (own_S1 v0a v0b)) (own_pws10 (own_S1 v0a v0b)) (own_pws11 (own_S1 v0a v0b)) (own_pwc0 (own_S1 v0a v0b)) (own_pwc1 (own_S1 v0a v0b)) (own_pwn (own_S1 v0a v0b)) T43.heap n0 Zq43 TD43 hb_v1a hb_v1b (own_ok2 hb_v0a hb_v0b hb_v1a hb_v1b).1 (own_ok2 hb_v0a hb_v0b hb_v1a hb_v1b).2) hZ (own_w hw 27) (own_w hw 2) (by decide) (by decide)) qa45 qc45 (g := (mkF m 51 #[oI p0, oI p1, oI p2, oI p3, oI p4, oR a1, oI (2 : Int32), .unset, .unset, .unset] [(.int v1b), (.int v1a), (.ref a1)])) rfl (by rw [hml]; rfl) (Steps.refl _) (argsL := [(.int v1a), (.int v1b)]) (rest := []) (lenOf pd_0_0 rfl) rfl (by show 2 * 0 + _ ≤ _; exact Nat.le_of_eq rfl) (hb hby at_51) (fun _ _ => ⟨rfl, rfl, (by decide : 9 + 0 ≤ _), (by decide : 21 + 0 ≤ _)⟩)
    dsimp only [Pt.U, Pt.locs, Pt.cells, Pt.slots] at X45 l45 y45 z45 st45 hQ45
    subst l45 y45 z45
    obtain ⟨rfl, Nq45, Zq45, TC45⟩ := hQ45
    have N46 := Fr.app N44 Nq45
    refine own_tr st45 ?_
    have TD45 : own_TC Z T45.heap n0 a1 (own_S2 v0a v0b v1a v1b) := TC45
    show own_Go p e below _ (T45.setTop (mkF m 54 #[oI p0, oI p1, oI p2, oI p3, oI p4, oR a1, oI (2 : Int32), .unset, .unset, .unset] []))
    refine own_via (fun t kz => XS.iload X45.here hx rfl (hb hby at_54) rfl kz) ?_
    show own_Go p e below _ (T45.setTop (mkF m 56 #[oI p0, oI p1, oI p2, oI p3, oI p4, oR a1, oI (2 : Int32), .unset, .unset, .unset] [(.int (2 : Int32))]))
    refine own_via (fun t kz => XS.iconst X45.here hx rfl (hb hby at_56) kz) ?_
    show own_Go p e below _ (T45.setTop (mkF m 57 #[oI p0, oI p1, oI p2, oI p3, oI p4, oR a1, oI (2 : Int32), .unset, .unset, .unset] [(.int (3 : Int32)), (.int (2 : Int32))]))
    refine own_via (fun t kz => XS.icmpYes X45.here hx rfl (pc0 := 57) (pc' := 73) rfl (hb hby at_57) rfl (tlt (by decide : (2 : Int32) < (3 : Int32))).1 (by decide) (by decide) kz) ?_
    show own_Go p e below _ (T45.setTop (mkF m 73 #[oI p0, oI p1, oI p2, oI p3, oI p4, oR a1, oI (2 : Int32), .unset, .unset, .unset] []))
    refine own_via (fun t kz => XS.aload X45.here hx rfl (hb hby at_73) rfl rfl kz) ?_
    show own_Go p e below _ (T45.setTop (mkF m 75 #[oI p0, oI p1, oI p2, oI p3, oI p4, oR a1, oI (2 : Int32), .unset, .unset, .unset] [(.ref a1)]))
    obtain ⟨cq47, kq47, qa47, qb47, qc47⟩ := isOf hZ rfl (own_exa TD45)
    obtain ⟨_, _, ⟨T47, L47, k47, n47⟩, -, X47, ⟨Lc47, hQ47, l47, y47, z47⟩, st47⟩ := X45.virtualBack hx (y := (⟨"com/example/matchloom/matchloom/league/TouchedCells", "clear", "()V"⟩ : MethodName)) (z := (⟨"com/example/matchloom/matchloom/league/TouchedCells", "clear", "()V"⟩ : MethodName)) hown (mvT hZ (own_w hw 30)) (mvT hZ (own_w hw 31)) (notFace_of_selects (args := #[]) (mvT hZ (own_w hw 33))) (mvT hZ (own_w hw 33)) (mvT hZ (own_w hw 32)) (by decide) (backOf (W := 0) (rm4 l Z a0 hw [] a1 (own_pwm00 (own_S2 v0a v0b v1a v1b)) (own_pwm01 (own_S2 v0a v0b v1a v1b)) (own_pwm10 (own_S2 v0a v0b v1a v1b)) (own_pwm11 (own_S2 v0a v0b v1a v1b)) (own_pwt0 (own_S2 v0a v0b v1a v1b)) (own_pwt1 (own_S2 v0a v0b v1a v1b)) (own_pws00 (own_S2 v0a v0b v1a v1b)) (own_pws01 (own_S2 v0a v0b v1a v1b)) (own_pws10 (own_S2 v0a v0b v1a v1b)) (own_pws11 (own_S2 v0a v0b v1a v1b)) (own_pwc0 (own_S2 v0a v0b v1a v1b)) (own_pwc1 (own_S2 v0a v0b v1a v1b)) (own_pwn (own_S2 v0a v0b v1a v1b)) T45.heap n0 Zq45 TD45 (own_inv2 hb_v0a hb_v0b hb_v1a hb_v1b)) hZ (own_w hw 34) (own_w hw 2) (by decide) (by decide)) qa47 qc47 (g := (mkF m 75 #[oI p0, oI p1, oI p2, oI p3, oI p4, oR a1, oI (2 : Int32), .unset, .unset, .unset] [(.ref a1)])) rfl (by rw [hml]; rfl) (Steps.refl _) (argsL := []) (rest := []) (lenOf pd_0_1 rfl) rfl (by show 2 * 0 + _ ≤ _; exact Nat.le_of_eq rfl) (hb hby at_75) (fun _ _ => ⟨rfl, rfl, (by decide : 9 + 0 ≤ _), (by decide : 21 + 0 ≤ _)⟩)
    dsimp only [Pt.U, Pt.locs, Pt.cells, Pt.slots] at X47 l47 y47 z47 st47 hQ47
    subst l47 y47 z47
    obtain ⟨rfl, Nq47, Zq47, x0, x1, x2, x3, x4, x5, TC47⟩ := hQ47
    have N48 := Fr.app N46 Nq47
    refine own_tr st47 ?_
    show own_Go p e below _ (T47.setTop (mkF m 78 #[oI p0, oI p1, oI p2, oI p3, oI p4, oR a1, oI (2 : Int32), .unset, .unset, .unset] []))
    refine own_via (fun t kz => XS.iload X47.here hx rfl (hb hby at_78) rfl kz) ?_
    show own_Go p e below _ (T47.setTop (mkF m 80 #[oI p0, oI p1, oI p2, oI p3, oI p4, oR a1, oI (2 : Int32), .unset, .unset, .unset] [(.int p4)]))
    refine own_via (fun t kz => XS.iconst X47.here hx rfl (hb hby at_80) kz) ?_
    show own_Go p e below _ (T47.setTop (mkF m 81 #[oI p0, oI p1, oI p2, oI p3, oI p4, oR a1, oI (2 : Int32), .unset, .unset, .unset] [(.int (1 : Int32)), (.int p4)]))
    refine own_via (fun t kz => XS.iand X47.here hx rfl (hb hby at_81) rfl kz) ?_
    show own_Go p e below _ (T47.setTop (mkF m 82 #[oI p0, oI p1, oI p2, oI p3, oI p4, oR a1, oI (2 : Int32), .unset, .unset, .unset] [(.int (p4 &&& (1 : Int32)))]))
    refine own_via (fun t kz => XS.istore X47.here hx rfl (hb hby at_82) rfl (l' := #[oI p0, oI p1, oI p2, oI p3, oI p4, oR a1, oI (2 : Int32), oI (p4 &&& (1 : Int32)), .unset, .unset]) rfl kz) ?_
    show own_Go p e below _ (T47.setTop (mkF m 84 #[oI p0, oI p1, oI p2, oI p3, oI p4, oR a1, oI (2 : Int32), oI (p4 &&& (1 : Int32)), .unset, .unset] []))
    refine own_via (fun t kz => XS.iload X47.here hx rfl (hb hby at_84) rfl kz) ?_
    show own_Go p e below _ (T47.setTop (mkF m 86 #[oI p0, oI p1, oI p2, oI p3, oI p4, oR a1, oI (2 : Int32), oI (p4 &&& (1 : Int32)), .unset, .unset] [(.int p4)]))
    refine own_via (fun t kz => XS.iconst X47.here hx rfl (hb hby at_86) kz) ?_
    show own_Go p e below _ (T47.setTop (mkF m 87 #[oI p0, oI p1, oI p2, oI p3, oI p4, oR a1, oI (2 : Int32), oI (p4 &&& (1 : Int32)), .unset, .unset] [(.int (1 : Int32)), (.int p4)]))
    refine own_via (fun t kz => XS.ishr X47.here hx rfl (hb hby at_87) rfl kz) ?_
    show own_Go p e below _ (T47.setTop (mkF m 88 #[oI p0, oI p1, oI p2, oI p3, oI p4, oR a1, oI (2 : Int32), oI (p4 &&& (1 : Int32)), .unset, .unset] [(.int (p4 >>> ((1 : Int32) &&& 31)))]))
    refine own_via (fun t kz => XS.iconst X47.here hx rfl (hb hby at_88) kz) ?_
    show own_Go p e below _ (T47.setTop (mkF m 89 #[oI p0, oI p1, oI p2, oI p3, oI p4, oR a1, oI (2 : Int32), oI (p4 &&& (1 : Int32)), .unset, .unset] [(.int (1 : Int32)), (.int (p4 >>> ((1 : Int32) &&& 31)))]))
    refine own_via (fun t kz => XS.iand X47.here hx rfl (hb hby at_89) rfl kz) ?_
    show own_Go p e below _ (T47.setTop (mkF m 90 #[oI p0, oI p1, oI p2, oI p3, oI p4, oR a1, oI (2 : Int32), oI (p4 &&& (1 : Int32)), .unset, .unset] [(.int ((p4 >>> ((1 : Int32) &&& 31)) &&& (1 : Int32)))]))
    refine own_via (fun t kz => XS.istore X47.here hx rfl (hb hby at_90) rfl (l' := #[oI p0, oI p1, oI p2, oI p3, oI p4, oR a1, oI (2 : Int32), oI (p4 &&& (1 : Int32)), oI ((p4 >>> ((1 : Int32) &&& 31)) &&& (1 : Int32)), .unset]) rfl kz) ?_
    have hb_vs := and_one (p4 >>> ((1 : Int32) &&& 31))
    generalize ((p4 >>> ((1 : Int32) &&& 31)) &&& (1 : Int32)) = vs at hb_vs ⊢
    have hb_vt := and_one p4
    generalize (p4 &&& (1 : Int32)) = vt at hb_vt ⊢
    show own_Go p e below _ (T47.setTop (mkF m 92 #[oI p0, oI p1, oI p2, oI p3, oI p4, oR a1, oI (2 : Int32), oI vt, oI vs, .unset] []))
    refine own_via (fun t kz => XS.aload X47.here hx rfl (hb hby at_92) rfl rfl kz) ?_
    show own_Go p e below _ (T47.setTop (mkF m 94 #[oI p0, oI p1, oI p2, oI p3, oI p4, oR a1, oI (2 : Int32), oI vt, oI vs, .unset] [(.ref a1)]))
    refine own_via (fun t kz => XS.iload X47.here hx rfl (hb hby at_94) rfl kz) ?_
    show own_Go p e below _ (T47.setTop (mkF m 96 #[oI p0, oI p1, oI p2, oI p3, oI p4, oR a1, oI (2 : Int32), oI vt, oI vs, .unset] [(.int vt), (.ref a1)]))
    refine own_via (fun t kz => XS.iload X47.here hx rfl (hb hby at_96) rfl kz) ?_
    show own_Go p e below _ (T47.setTop (mkF m 98 #[oI p0, oI p1, oI p2, oI p3, oI p4, oR a1, oI (2 : Int32), oI vt, oI vs, .unset] [(.int vs), (.int vt), (.ref a1)]))
    obtain ⟨cq49, kq49, qa49, qb49, qc49⟩ := isOf hZ rfl (own_exa TC47)
    obtain ⟨_, _, ⟨T49, L49, k49, n49⟩, -, X49, ⟨Lc49, hQ49, l49, y49, z49⟩, st49⟩ := X47.virtualBack hx (y := (⟨"com/example/matchloom/matchloom/league/TouchedCells", "mark", "(II)V"⟩ : MethodName)) (z := (⟨"com/example/matchloom/matchloom/league/TouchedCells", "mark", "(II)V"⟩ : MethodName)) hown (mvT hZ (own_w hw 23)) (mvT hZ (own_w hw 24)) (notFace_of_selects (args := #[]) (mvT hZ (own_w hw 26))) (mvT hZ (own_w hw 26)) (mvT hZ (own_w hw 25)) (by decide) (backOf (W := 0) (rm3 l Z a0 hw [] a1 vt vs (own_pwm00 (own_mk 0 0 0 0 x0 x1 x2 x3 x4 x5 0 0 0)) (own_pwm01 (own_mk 0 0 0 0 x0 x1 x2 x3 x4 x5 0 0 0)) (own_pwm10 (own_mk 0 0 0 0 x0 x1 x2 x3 x4 x5 0 0 0)) (own_pwm11 (own_mk 0 0 0 0 x0 x1 x2 x3 x4 x5 0 0 0)) (own_pwt0 (own_mk 0 0 0 0 x0 x1 x2 x3 x4 x5 0 0 0)) (own_pwt1 (own_mk 0 0 0 0 x0 x1 x2 x3 x4 x5 0 0 0)) (own_pws00 (own_mk 0 0 0 0 x0 x1 x2 x3 x4 x5 0 0 0)) (own_pws01 (own_mk 0 0 0 0 x0 x1 x2 x3 x4 x5 0 0 0)) (own_pws10 (own_mk 0 0 0 0 x0 x1 x2 x3 x4 x5 0 0 0)) (own_pws11 (own_mk 0 0 0 0 x0 x1 x2 x3 x4 x5 0 0 0)) (own_pwc0 (own_mk 0 0 0 0 x0 x1 x2 x3 x4 x5 0 0 0)) (own_pwc1 (own_mk 0 0 0 0 x0 x1 x2 x3 x4 x5 0 0 0)) (own_pwn (own_mk 0 0 0 0 x0 x1 x2 x3 x4 x5 0 0 0)) T47.heap n0 Zq47 TC47 hb_vt hb_vs (own_okx x0 x1 x2 x3 x4 x5 hb_vt hb_vs).1 (own_okx x0 x1 x2 x3 x4 x5 hb_vt hb_vs).2) hZ (own_w hw 27) (own_w hw 2) (by decide) (by decide)) qa49 qc49 (g := (mkF m 98 #[oI p0, oI p1, oI p2, oI p3, oI p4, oR a1, oI (2 : Int32), oI vt, oI vs, .unset] [(.int vs), (.int vt), (.ref a1)])) rfl (by rw [hml]; rfl) (Steps.refl _) (argsL := [(.int vt), (.int vs)]) (rest := []) (lenOf pd_0_0 rfl) rfl (by show 2 * 0 + _ ≤ _; exact Nat.le_of_eq rfl) (hb hby at_98) (fun _ _ => ⟨rfl, rfl, (by decide : 9 + 0 ≤ _), (by decide : 21 + 0 ≤ _)⟩)
    dsimp only [Pt.U, Pt.locs, Pt.cells, Pt.slots] at X49 l49 y49 z49 st49 hQ49
    subst l49 y49 z49
    obtain ⟨rfl, Nq49, Zq49, TC49⟩ := hQ49
    have N50 := Fr.app N48 Nq49
    refine own_tr st49 ?_
    have TD49 : own_TC Z T49.heap n0 a1 (own_Sx x0 x1 x2 x3 x4 x5 vt vs) := TC49
    show own_Go p e below _ (T49.setTop (mkF m 101 #[oI p0, oI p1, oI p2, oI p3, oI p4, oR a1, oI (2 : Int32), oI vt, oI vs, .unset] []))
    refine own_via (fun t kz => XS.aload X49.here hx rfl (hb hby at_101) rfl rfl kz) ?_
    show own_Go p e below _ (T49.setTop (mkF m 103 #[oI p0, oI p1, oI p2, oI p3, oI p4, oR a1, oI (2 : Int32), oI vt, oI vs, .unset] [(.ref a1)]))
    obtain ⟨cq51, kq51, qa51, qb51, qc51⟩ := isOf hZ rfl (own_exa TD49)
    obtain ⟨_, _, ⟨T51, L51, k51, n51⟩, -, X51, ⟨Lc51, hQ51, l51, y51, z51⟩, st51⟩ := X49.virtualBack hx (y := (⟨"com/example/matchloom/matchloom/league/TouchedCells", "teams", "()I"⟩ : MethodName)) (z := (⟨"com/example/matchloom/matchloom/league/TouchedCells", "teams", "()I"⟩ : MethodName)) hown (mvT hZ (own_w hw 35)) (mvT hZ (own_w hw 36)) (notFace_of_selects (args := #[]) (mvT hZ (own_w hw 38))) (mvT hZ (own_w hw 38)) (mvT hZ (own_w hw 37)) (by decide) (backOf (W := 0) (rm5 l Z a0 hw [] a1 (own_pwm00 (own_Sx x0 x1 x2 x3 x4 x5 vt vs)) (own_pwm01 (own_Sx x0 x1 x2 x3 x4 x5 vt vs)) (own_pwm10 (own_Sx x0 x1 x2 x3 x4 x5 vt vs)) (own_pwm11 (own_Sx x0 x1 x2 x3 x4 x5 vt vs)) (own_pwt0 (own_Sx x0 x1 x2 x3 x4 x5 vt vs)) (own_pwt1 (own_Sx x0 x1 x2 x3 x4 x5 vt vs)) (own_pws00 (own_Sx x0 x1 x2 x3 x4 x5 vt vs)) (own_pws01 (own_Sx x0 x1 x2 x3 x4 x5 vt vs)) (own_pws10 (own_Sx x0 x1 x2 x3 x4 x5 vt vs)) (own_pws11 (own_Sx x0 x1 x2 x3 x4 x5 vt vs)) (own_pwc0 (own_Sx x0 x1 x2 x3 x4 x5 vt vs)) (own_pwc1 (own_Sx x0 x1 x2 x3 x4 x5 vt vs)) (own_pwn (own_Sx x0 x1 x2 x3 x4 x5 vt vs)) (own_pwn (own_Sx x0 x1 x2 x3 x4 x5 vt vs)) T49.heap n0 Zq49 TD49 (by unfold f5; rfl)) hZ (own_w hw 39) (own_w hw 2) (by decide) (by decide)) qa51 qc51 (g := (mkF m 103 #[oI p0, oI p1, oI p2, oI p3, oI p4, oR a1, oI (2 : Int32), oI vt, oI vs, .unset] [(.ref a1)])) rfl (by rw [hml]; rfl) (Steps.refl _) (argsL := []) (rest := []) (lenOf pd_0_2 rfl) rfl (by show 2 * 0 + _ ≤ _; exact Nat.le_of_eq rfl) (hb hby at_103) (fun _ _ => ⟨rfl, rfl, (by decide : 9 + 0 ≤ _), (by decide : 21 + 0 ≤ _)⟩)
    dsimp only [Pt.U, Pt.locs, Pt.cells, Pt.slots] at X51 l51 y51 z51 st51 hQ51
    subst l51 y51 z51
    obtain ⟨rfl, Nq51, e51⟩ := hQ51
    have N52 := Fr.app N50 Nq51
    refine own_tr st51 ?_
    show own_Go p e below _ (T51.setTop (mkF m 106 #[oI p0, oI p1, oI p2, oI p3, oI p4, oR a1, oI (2 : Int32), oI vt, oI vs, .unset] [(.int (own_pwn (own_Sx x0 x1 x2 x3 x4 x5 vt vs)))]))
    refine own_via (fun t kz => XS.iconst X51.here hx rfl (hb hby at_106) kz) ?_
    show own_Go p e below _ (T51.setTop (mkF m 107 #[oI p0, oI p1, oI p2, oI p3, oI p4, oR a1, oI (2 : Int32), oI vt, oI vs, .unset] [(.int (1 : Int32)), (.int (own_pwn (own_Sx x0 x1 x2 x3 x4 x5 vt vs)))]))
    refine own_via (fun t kz => XS.icmpNo X51.here hx rfl (hb hby at_107) rfl (teq (own_chk107 x0 x1 x2 x3 x4 x5 hb_vt hb_vs)).2 kz) ?_
    show own_Go p e below _ (T51.setTop (mkF m 110 #[oI p0, oI p1, oI p2, oI p3, oI p4, oR a1, oI (2 : Int32), oI vt, oI vs, .unset] []))
    refine own_via (fun t kz => XS.iconst X51.here hx rfl (hb hby at_110) kz) ?_
    show own_Go p e below _ (T51.setTop (mkF m 111 #[oI p0, oI p1, oI p2, oI p3, oI p4, oR a1, oI (2 : Int32), oI vt, oI vs, .unset] [(.int (1 : Int32))]))
    refine own_via (fun t kz => XS.goto X51.here hx rfl (pc0 := 111) (pc' := 115) rfl (hb hby at_111) (by decide) (by decide) kz) ?_
    show own_Go p e below _ (T51.setTop (mkF m 115 #[oI p0, oI p1, oI p2, oI p3, oI p4, oR a1, oI (2 : Int32), oI vt, oI vs, .unset] [(.int (1 : Int32))]))
    refine own_via (fun t kz => XS.istore X51.here hx rfl (hb hby at_115) rfl (l' := #[oI p0, oI p1, oI p2, oI p3, oI p4, oR a1, oI (2 : Int32), oI vt, oI vs, oI (1 : Int32)]) rfl kz) ?_
    show own_Go p e below _ (T51.setTop (mkF m 117 #[oI p0, oI p1, oI p2, oI p3, oI p4, oR a1, oI (2 : Int32), oI vt, oI vs, oI (1 : Int32)] []))
    refine own_via (fun t kz => XS.iload X51.here hx rfl (hb hby at_117) rfl kz) ?_
    show own_Go p e below _ (T51.setTop (mkF m 119 #[oI p0, oI p1, oI p2, oI p3, oI p4, oR a1, oI (2 : Int32), oI vt, oI vs, oI (1 : Int32)] [(.int (1 : Int32))]))
    refine own_via (fun t kz => XS.ifNo X51.here hx rfl (hb hby at_119) rfl ((if0 _ _).trans (feq (by decide : ¬ ((1 : Int32) = (0 : Int32)))).1) kz) ?_
    show own_Go p e below _ (T51.setTop (mkF m 122 #[oI p0, oI p1, oI p2, oI p3, oI p4, oR a1, oI (2 : Int32), oI vt, oI vs, oI (1 : Int32)] []))
    refine own_via (fun t kz => XS.aload X51.here hx rfl (hb hby at_122) rfl rfl kz) ?_
    show own_Go p e below _ (T51.setTop (mkF m 124 #[oI p0, oI p1, oI p2, oI p3, oI p4, oR a1, oI (2 : Int32), oI vt, oI vs, oI (1 : Int32)] [(.ref a1)]))
    refine own_via (fun t kz => XS.iconst X51.here hx rfl (hb hby at_124) kz) ?_
    show own_Go p e below _ (T51.setTop (mkF m 125 #[oI p0, oI p1, oI p2, oI p3, oI p4, oR a1, oI (2 : Int32), oI vt, oI vs, oI (1 : Int32)] [(.int (0 : Int32)), (.ref a1)]))
    obtain ⟨cq53, kq53, qa53, qb53, qc53⟩ := isOf hZ e51 (own_exa TD49)
    obtain ⟨_, _, ⟨T53, L53, k53, n53⟩, -, X53, ⟨Lc53, hQ53, l53, y53, z53⟩, st53⟩ := X51.virtualBack hx (y := (⟨"com/example/matchloom/matchloom/league/TouchedCells", "team", "(I)I"⟩ : MethodName)) (z := (⟨"com/example/matchloom/matchloom/league/TouchedCells", "team", "(I)I"⟩ : MethodName)) hown (mvT hZ (own_w hw 40)) (mvT hZ (own_w hw 41)) (notFace_of_selects (args := #[]) (mvT hZ (own_w hw 43))) (mvT hZ (own_w hw 43)) (mvT hZ (own_w hw 42)) (by decide) (backOf (W := 0) (rm6 l Z a0 hw [] a1 (0 : Int32) (own_pwm00 (own_Sx x0 x1 x2 x3 x4 x5 vt vs)) (own_pwm01 (own_Sx x0 x1 x2 x3 x4 x5 vt vs)) (own_pwm10 (own_Sx x0 x1 x2 x3 x4 x5 vt vs)) (own_pwm11 (own_Sx x0 x1 x2 x3 x4 x5 vt vs)) (own_pwt0 (own_Sx x0 x1 x2 x3 x4 x5 vt vs)) (own_pwt1 (own_Sx x0 x1 x2 x3 x4 x5 vt vs)) (own_pws00 (own_Sx x0 x1 x2 x3 x4 x5 vt vs)) (own_pws01 (own_Sx x0 x1 x2 x3 x4 x5 vt vs)) (own_pws10 (own_Sx x0 x1 x2 x3 x4 x5 vt vs)) (own_pws11 (own_Sx x0 x1 x2 x3 x4 x5 vt vs)) (own_pwc0 (own_Sx x0 x1 x2 x3 x4 x5 vt vs)) (own_pwc1 (own_Sx x0 x1 x2 x3 x4 x5 vt vs)) (own_pwn (own_Sx x0 x1 x2 x3 x4 x5 vt vs)) (own_pwt0 (own_Sx x0 x1 x2 x3 x4 x5 vt vs)) T49.heap n0 Zq49 TD49 (by decide) (by unfold f6; rw [if_pos (by decide : (0 : Int32) = (0 : Int32))])) hZ (own_w hw 44) (own_w hw 2) (by decide) (by decide)) qa53 qc53 (g := (mkF m 125 #[oI p0, oI p1, oI p2, oI p3, oI p4, oR a1, oI (2 : Int32), oI vt, oI vs, oI (1 : Int32)] [(.int (0 : Int32)), (.ref a1)])) rfl (by rw [hml]; rfl) (Steps.refl _) (argsL := [(.int (0 : Int32))]) (rest := []) (lenOf pd_0_3 rfl) rfl (by show 2 * 0 + _ ≤ _; exact Nat.le_of_eq rfl) (hb hby at_125) (fun _ _ => ⟨rfl, e51, (by decide : 9 + 0 ≤ _), (by decide : 21 + 0 ≤ _)⟩)
    dsimp only [Pt.U, Pt.locs, Pt.cells, Pt.slots] at X53 l53 y53 z53 st53 hQ53
    subst l53 y53 z53
    obtain ⟨rfl, Nq53, e53⟩ := hQ53
    have N54 := Fr.app N52 Nq53
    refine own_tr st53 ?_
    show own_Go p e below _ (T53.setTop (mkF m 128 #[oI p0, oI p1, oI p2, oI p3, oI p4, oR a1, oI (2 : Int32), oI vt, oI vs, oI (1 : Int32)] [(.int (own_pwt0 (own_Sx x0 x1 x2 x3 x4 x5 vt vs)))]))
    refine own_via (fun t kz => XS.iload X53.here hx rfl (hb hby at_128) rfl kz) ?_
    show own_Go p e below _ (T53.setTop (mkF m 130 #[oI p0, oI p1, oI p2, oI p3, oI p4, oR a1, oI (2 : Int32), oI vt, oI vs, oI (1 : Int32)] [(.int vt), (.int (own_pwt0 (own_Sx x0 x1 x2 x3 x4 x5 vt vs)))]))
    refine own_via (fun t kz => XS.icmpNo X53.here hx rfl (hb hby at_130) rfl (teq (own_chk130 x0 x1 x2 x3 x4 x5 hb_vt hb_vs)).2 kz) ?_
    show own_Go p e below _ (T53.setTop (mkF m 133 #[oI p0, oI p1, oI p2, oI p3, oI p4, oR a1, oI (2 : Int32), oI vt, oI vs, oI (1 : Int32)] []))
    refine own_via (fun t kz => XS.iconst X53.here hx rfl (hb hby at_133) kz) ?_
    show own_Go p e below _ (T53.setTop (mkF m 134 #[oI p0, oI p1, oI p2, oI p3, oI p4, oR a1, oI (2 : Int32), oI vt, oI vs, oI (1 : Int32)] [(.int (1 : Int32))]))
    refine own_via (fun t kz => XS.goto X53.here hx rfl (pc0 := 134) (pc' := 138) rfl (hb hby at_134) (by decide) (by decide) kz) ?_
    show own_Go p e below _ (T53.setTop (mkF m 138 #[oI p0, oI p1, oI p2, oI p3, oI p4, oR a1, oI (2 : Int32), oI vt, oI vs, oI (1 : Int32)] [(.int (1 : Int32))]))
    refine own_via (fun t kz => XS.istore X53.here hx rfl (hb hby at_138) rfl (l' := #[oI p0, oI p1, oI p2, oI p3, oI p4, oR a1, oI (2 : Int32), oI vt, oI vs, oI (1 : Int32)]) rfl kz) ?_
    show own_Go p e below _ (T53.setTop (mkF m 140 #[oI p0, oI p1, oI p2, oI p3, oI p4, oR a1, oI (2 : Int32), oI vt, oI vs, oI (1 : Int32)] []))
    refine own_via (fun t kz => XS.iload X53.here hx rfl (hb hby at_140) rfl kz) ?_
    show own_Go p e below _ (T53.setTop (mkF m 142 #[oI p0, oI p1, oI p2, oI p3, oI p4, oR a1, oI (2 : Int32), oI vt, oI vs, oI (1 : Int32)] [(.int (1 : Int32))]))
    refine own_via (fun t kz => XS.ifNo X53.here hx rfl (hb hby at_142) rfl ((if0 _ _).trans (feq (by decide : ¬ ((1 : Int32) = (0 : Int32)))).1) kz) ?_
    show own_Go p e below _ (T53.setTop (mkF m 145 #[oI p0, oI p1, oI p2, oI p3, oI p4, oR a1, oI (2 : Int32), oI vt, oI vs, oI (1 : Int32)] []))
    refine own_via (fun t kz => XS.aload X53.here hx rfl (hb hby at_145) rfl rfl kz) ?_
    show own_Go p e below _ (T53.setTop (mkF m 147 #[oI p0, oI p1, oI p2, oI p3, oI p4, oR a1, oI (2 : Int32), oI vt, oI vs, oI (1 : Int32)] [(.ref a1)]))
    refine own_via (fun t kz => XS.iload X53.here hx rfl (hb hby at_147) rfl kz) ?_
    show own_Go p e below _ (T53.setTop (mkF m 149 #[oI p0, oI p1, oI p2, oI p3, oI p4, oR a1, oI (2 : Int32), oI vt, oI vs, oI (1 : Int32)] [(.int vt), (.ref a1)]))
    obtain ⟨cq55, kq55, qa55, qb55, qc55⟩ := isOf hZ e53 (own_exa TD49)
    obtain ⟨_, _, ⟨T55, L55, k55, n55⟩, -, X55, ⟨Lc55, hQ55, l55, y55, z55⟩, st55⟩ := X53.virtualBack hx (y := (⟨"com/example/matchloom/matchloom/league/TouchedCells", "slots", "(I)I"⟩ : MethodName)) (z := (⟨"com/example/matchloom/matchloom/league/TouchedCells", "slots", "(I)I"⟩ : MethodName)) hown (mvT hZ (own_w hw 45)) (mvT hZ (own_w hw 46)) (notFace_of_selects (args := #[]) (mvT hZ (own_w hw 48))) (mvT hZ (own_w hw 48)) (mvT hZ (own_w hw 47)) (by decide) (backOf (W := 0) (rm7 l Z a0 hw [] a1 vt (own_pwm00 (own_Sx x0 x1 x2 x3 x4 x5 vt vs)) (own_pwm01 (own_Sx x0 x1 x2 x3 x4 x5 vt vs)) (own_pwm10 (own_Sx x0 x1 x2 x3 x4 x5 vt vs)) (own_pwm11 (own_Sx x0 x1 x2 x3 x4 x5 vt vs)) (own_pwt0 (own_Sx x0 x1 x2 x3 x4 x5 vt vs)) (own_pwt1 (own_Sx x0 x1 x2 x3 x4 x5 vt vs)) (own_pws00 (own_Sx x0 x1 x2 x3 x4 x5 vt vs)) (own_pws01 (own_Sx x0 x1 x2 x3 x4 x5 vt vs)) (own_pws10 (own_Sx x0 x1 x2 x3 x4 x5 vt vs)) (own_pws11 (own_Sx x0 x1 x2 x3 x4 x5 vt vs)) (own_pwc0 (own_Sx x0 x1 x2 x3 x4 x5 vt vs)) (own_pwc1 (own_Sx x0 x1 x2 x3 x4 x5 vt vs)) (own_pwn (own_Sx x0 x1 x2 x3 x4 x5 vt vs)) (f7 vt (own_pwc0 (own_Sx x0 x1 x2 x3 x4 x5 vt vs)) (own_pwc1 (own_Sx x0 x1 x2 x3 x4 x5 vt vs))) T49.heap n0 Zq49 TD49 hb_vt rfl) hZ (own_w hw 49) (own_w hw 2) (by decide) (by decide)) qa55 qc55 (g := (mkF m 149 #[oI p0, oI p1, oI p2, oI p3, oI p4, oR a1, oI (2 : Int32), oI vt, oI vs, oI (1 : Int32)] [(.int vt), (.ref a1)])) rfl (by rw [hml]; rfl) (Steps.refl _) (argsL := [(.int vt)]) (rest := []) (lenOf pd_0_3 rfl) rfl (by show 2 * 0 + _ ≤ _; exact Nat.le_of_eq rfl) (hb hby at_149) (fun _ _ => ⟨rfl, e53, (by decide : 9 + 0 ≤ _), (by decide : 21 + 0 ≤ _)⟩)
    dsimp only [Pt.U, Pt.locs, Pt.cells, Pt.slots] at X55 l55 y55 z55 st55 hQ55
    subst l55 y55 z55
    obtain ⟨rfl, Nq55, e55⟩ := hQ55
    have N56 := Fr.app N54 Nq55
    refine own_tr st55 ?_
    show own_Go p e below _ (T55.setTop (mkF m 152 #[oI p0, oI p1, oI p2, oI p3, oI p4, oR a1, oI (2 : Int32), oI vt, oI vs, oI (1 : Int32)] [(.int (f7 vt (own_pwc0 (own_Sx x0 x1 x2 x3 x4 x5 vt vs)) (own_pwc1 (own_Sx x0 x1 x2 x3 x4 x5 vt vs))))]))
    refine own_via (fun t kz => XS.iconst X55.here hx rfl (hb hby at_152) kz) ?_
    show own_Go p e below _ (T55.setTop (mkF m 153 #[oI p0, oI p1, oI p2, oI p3, oI p4, oR a1, oI (2 : Int32), oI vt, oI vs, oI (1 : Int32)] [(.int (1 : Int32)), (.int (f7 vt (own_pwc0 (own_Sx x0 x1 x2 x3 x4 x5 vt vs)) (own_pwc1 (own_Sx x0 x1 x2 x3 x4 x5 vt vs))))]))
    refine own_via (fun t kz => XS.icmpNo X55.here hx rfl (hb hby at_153) rfl (teq (own_chk153 x0 x1 x2 x3 x4 x5 hb_vt hb_vs)).2 kz) ?_
    show own_Go p e below _ (T55.setTop (mkF m 156 #[oI p0, oI p1, oI p2, oI p3, oI p4, oR a1, oI (2 : Int32), oI vt, oI vs, oI (1 : Int32)] []))
    refine own_via (fun t kz => XS.iconst X55.here hx rfl (hb hby at_156) kz) ?_
    show own_Go p e below _ (T55.setTop (mkF m 157 #[oI p0, oI p1, oI p2, oI p3, oI p4, oR a1, oI (2 : Int32), oI vt, oI vs, oI (1 : Int32)] [(.int (1 : Int32))]))
    refine own_via (fun t kz => XS.goto X55.here hx rfl (pc0 := 157) (pc' := 161) rfl (hb hby at_157) (by decide) (by decide) kz) ?_
    show own_Go p e below _ (T55.setTop (mkF m 161 #[oI p0, oI p1, oI p2, oI p3, oI p4, oR a1, oI (2 : Int32), oI vt, oI vs, oI (1 : Int32)] [(.int (1 : Int32))]))
    refine own_via (fun t kz => XS.istore X55.here hx rfl (hb hby at_161) rfl (l' := #[oI p0, oI p1, oI p2, oI p3, oI p4, oR a1, oI (2 : Int32), oI vt, oI vs, oI (1 : Int32)]) rfl kz) ?_
    show own_Go p e below _ (T55.setTop (mkF m 163 #[oI p0, oI p1, oI p2, oI p3, oI p4, oR a1, oI (2 : Int32), oI vt, oI vs, oI (1 : Int32)] []))
    refine own_via (fun t kz => XS.iload X55.here hx rfl (hb hby at_163) rfl kz) ?_
    show own_Go p e below _ (T55.setTop (mkF m 165 #[oI p0, oI p1, oI p2, oI p3, oI p4, oR a1, oI (2 : Int32), oI vt, oI vs, oI (1 : Int32)] [(.int (1 : Int32))]))
    refine own_via (fun t kz => XS.ifNo X55.here hx rfl (hb hby at_165) rfl ((if0 _ _).trans (feq (by decide : ¬ ((1 : Int32) = (0 : Int32)))).1) kz) ?_
    show own_Go p e below _ (T55.setTop (mkF m 168 #[oI p0, oI p1, oI p2, oI p3, oI p4, oR a1, oI (2 : Int32), oI vt, oI vs, oI (1 : Int32)] []))
    refine own_via (fun t kz => XS.aload X55.here hx rfl (hb hby at_168) rfl rfl kz) ?_
    show own_Go p e below _ (T55.setTop (mkF m 170 #[oI p0, oI p1, oI p2, oI p3, oI p4, oR a1, oI (2 : Int32), oI vt, oI vs, oI (1 : Int32)] [(.ref a1)]))
    refine own_via (fun t kz => XS.iload X55.here hx rfl (hb hby at_170) rfl kz) ?_
    show own_Go p e below _ (T55.setTop (mkF m 172 #[oI p0, oI p1, oI p2, oI p3, oI p4, oR a1, oI (2 : Int32), oI vt, oI vs, oI (1 : Int32)] [(.int vt), (.ref a1)]))
    refine own_via (fun t kz => XS.iconst X55.here hx rfl (hb hby at_172) kz) ?_
    show own_Go p e below _ (T55.setTop (mkF m 173 #[oI p0, oI p1, oI p2, oI p3, oI p4, oR a1, oI (2 : Int32), oI vt, oI vs, oI (1 : Int32)] [(.int (0 : Int32)), (.int vt), (.ref a1)]))
    obtain ⟨cq57, kq57, qa57, qb57, qc57⟩ := isOf hZ e55 (own_exa TD49)
    obtain ⟨_, _, ⟨T57, L57, k57, n57⟩, -, X57, ⟨Lc57, hQ57, l57, y57, z57⟩, st57⟩ := X55.virtualBack hx (y := (⟨"com/example/matchloom/matchloom/league/TouchedCells", "slot", "(II)I"⟩ : MethodName)) (z := (⟨"com/example/matchloom/matchloom/league/TouchedCells", "slot", "(II)I"⟩ : MethodName)) hown (mvT hZ (own_w hw 50)) (mvT hZ (own_w hw 51)) (notFace_of_selects (args := #[]) (mvT hZ (own_w hw 53))) (mvT hZ (own_w hw 53)) (mvT hZ (own_w hw 52)) (by decide) (backOf (W := 0) (rm8 l Z a0 hw [] a1 vt (0 : Int32) (own_pwm00 (own_Sx x0 x1 x2 x3 x4 x5 vt vs)) (own_pwm01 (own_Sx x0 x1 x2 x3 x4 x5 vt vs)) (own_pwm10 (own_Sx x0 x1 x2 x3 x4 x5 vt vs)) (own_pwm11 (own_Sx x0 x1 x2 x3 x4 x5 vt vs)) (own_pwt0 (own_Sx x0 x1 x2 x3 x4 x5 vt vs)) (own_pwt1 (own_Sx x0 x1 x2 x3 x4 x5 vt vs)) (own_pws00 (own_Sx x0 x1 x2 x3 x4 x5 vt vs)) (own_pws01 (own_Sx x0 x1 x2 x3 x4 x5 vt vs)) (own_pws10 (own_Sx x0 x1 x2 x3 x4 x5 vt vs)) (own_pws11 (own_Sx x0 x1 x2 x3 x4 x5 vt vs)) (own_pwc0 (own_Sx x0 x1 x2 x3 x4 x5 vt vs)) (own_pwc1 (own_Sx x0 x1 x2 x3 x4 x5 vt vs)) (own_pwn (own_Sx x0 x1 x2 x3 x4 x5 vt vs)) (f8 vt (0 : Int32) (own_pws00 (own_Sx x0 x1 x2 x3 x4 x5 vt vs)) (own_pws01 (own_Sx x0 x1 x2 x3 x4 x5 vt vs)) (own_pws10 (own_Sx x0 x1 x2 x3 x4 x5 vt vs)) (own_pws11 (own_Sx x0 x1 x2 x3 x4 x5 vt vs))) T49.heap n0 Zq49 TD49 hb_vt (by decide) rfl) hZ (own_w hw 54) (own_w hw 2) (by decide) (by decide)) qa57 qc57 (g := (mkF m 173 #[oI p0, oI p1, oI p2, oI p3, oI p4, oR a1, oI (2 : Int32), oI vt, oI vs, oI (1 : Int32)] [(.int (0 : Int32)), (.int vt), (.ref a1)])) rfl (by rw [hml]; rfl) (Steps.refl _) (argsL := [(.int vt), (.int (0 : Int32))]) (rest := []) (lenOf pd_0_4 rfl) rfl (by show 2 * 0 + _ ≤ _; exact Nat.le_of_eq rfl) (hb hby at_173) (fun _ _ => ⟨rfl, e55, (by decide : 9 + 0 ≤ _), (by decide : 21 + 0 ≤ _)⟩)
    dsimp only [Pt.U, Pt.locs, Pt.cells, Pt.slots] at X57 l57 y57 z57 st57 hQ57
    subst l57 y57 z57
    obtain ⟨rfl, Nq57, e57⟩ := hQ57
    have N58 := Fr.app N56 Nq57
    refine own_tr st57 ?_
    show own_Go p e below _ (T57.setTop (mkF m 176 #[oI p0, oI p1, oI p2, oI p3, oI p4, oR a1, oI (2 : Int32), oI vt, oI vs, oI (1 : Int32)] [(.int (f8 vt (0 : Int32) (own_pws00 (own_Sx x0 x1 x2 x3 x4 x5 vt vs)) (own_pws01 (own_Sx x0 x1 x2 x3 x4 x5 vt vs)) (own_pws10 (own_Sx x0 x1 x2 x3 x4 x5 vt vs)) (own_pws11 (own_Sx x0 x1 x2 x3 x4 x5 vt vs))))]))
    refine own_via (fun t kz => XS.iload X57.here hx rfl (hb hby at_176) rfl kz) ?_
    show own_Go p e below _ (T57.setTop (mkF m 178 #[oI p0, oI p1, oI p2, oI p3, oI p4, oR a1, oI (2 : Int32), oI vt, oI vs, oI (1 : Int32)] [(.int vs), (.int (f8 vt (0 : Int32) (own_pws00 (own_Sx x0 x1 x2 x3 x4 x5 vt vs)) (own_pws01 (own_Sx x0 x1 x2 x3 x4 x5 vt vs)) (own_pws10 (own_Sx x0 x1 x2 x3 x4 x5 vt vs)) (own_pws11 (own_Sx x0 x1 x2 x3 x4 x5 vt vs))))]))
    refine own_via (fun t kz => XS.icmpNo X57.here hx rfl (hb hby at_178) rfl (teq (own_chk178 x0 x1 x2 x3 x4 x5 hb_vt hb_vs)).2 kz) ?_
    show own_Go p e below _ (T57.setTop (mkF m 181 #[oI p0, oI p1, oI p2, oI p3, oI p4, oR a1, oI (2 : Int32), oI vt, oI vs, oI (1 : Int32)] []))
    refine own_via (fun t kz => XS.iconst X57.here hx rfl (hb hby at_181) kz) ?_
    show own_Go p e below _ (T57.setTop (mkF m 182 #[oI p0, oI p1, oI p2, oI p3, oI p4, oR a1, oI (2 : Int32), oI vt, oI vs, oI (1 : Int32)] [(.int (1 : Int32))]))
    refine own_via (fun t kz => XS.goto X57.here hx rfl (pc0 := 182) (pc' := 186) rfl (hb hby at_182) (by decide) (by decide) kz) ?_
    show own_Go p e below _ (T57.setTop (mkF m 186 #[oI p0, oI p1, oI p2, oI p3, oI p4, oR a1, oI (2 : Int32), oI vt, oI vs, oI (1 : Int32)] [(.int (1 : Int32))]))
    refine own_via (fun t kz => XS.istore X57.here hx rfl (hb hby at_186) rfl (l' := #[oI p0, oI p1, oI p2, oI p3, oI p4, oR a1, oI (2 : Int32), oI vt, oI vs, oI (1 : Int32)]) rfl kz) ?_
    show own_Go p e below _ (T57.setTop (mkF m 188 #[oI p0, oI p1, oI p2, oI p3, oI p4, oR a1, oI (2 : Int32), oI vt, oI vs, oI (1 : Int32)] []))
    refine own_via (fun t kz => XS.iload X57.here hx rfl (hb hby at_188) rfl kz) ?_
    show own_Go p e below _ (T57.setTop (mkF m 190 #[oI p0, oI p1, oI p2, oI p3, oI p4, oR a1, oI (2 : Int32), oI vt, oI vs, oI (1 : Int32)] [(.int (1 : Int32))]))
    refine own_via (fun t kz => XS.ifNo X57.here hx rfl (hb hby at_190) rfl ((if0 _ _).trans (feq (by decide : ¬ ((1 : Int32) = (0 : Int32)))).1) kz) ?_
    show own_Go p e below _ (T57.setTop (mkF m 193 #[oI p0, oI p1, oI p2, oI p3, oI p4, oR a1, oI (2 : Int32), oI vt, oI vs, oI (1 : Int32)] []))
    refine own_via (fun t kz => XS.aload X57.here hx rfl (hb hby at_193) rfl rfl kz) ?_
    show own_Go p e below _ (T57.setTop (mkF m 195 #[oI p0, oI p1, oI p2, oI p3, oI p4, oR a1, oI (2 : Int32), oI vt, oI vs, oI (1 : Int32)] [(.ref a1)]))
    refine own_via (fun t kz => XS.iconst X57.here hx rfl (hb hby at_195) kz) ?_
    show own_Go p e below _ (T57.setTop (mkF m 196 #[oI p0, oI p1, oI p2, oI p3, oI p4, oR a1, oI (2 : Int32), oI vt, oI vs, oI (1 : Int32)] [(.int (1 : Int32)), (.ref a1)]))
    refine own_via (fun t kz => XS.iload X57.here hx rfl (hb hby at_196) rfl kz) ?_
    show own_Go p e below _ (T57.setTop (mkF m 198 #[oI p0, oI p1, oI p2, oI p3, oI p4, oR a1, oI (2 : Int32), oI vt, oI vs, oI (1 : Int32)] [(.int vt), (.int (1 : Int32)), (.ref a1)]))
    refine own_via (fun t kz => XS.isub X57.here hx rfl (hb hby at_198) rfl kz) ?_
    show own_Go p e below _ (T57.setTop (mkF m 199 #[oI p0, oI p1, oI p2, oI p3, oI p4, oR a1, oI (2 : Int32), oI vt, oI vs, oI (1 : Int32)] [(.int ((1 : Int32) - vt)), (.ref a1)]))
    obtain ⟨cq59, kq59, qa59, qb59, qc59⟩ := isOf hZ e57 (own_exa TD49)
    obtain ⟨_, _, ⟨T59, L59, k59, n59⟩, -, X59, ⟨Lc59, hQ59, l59, y59, z59⟩, st59⟩ := X57.virtualBack hx (y := (⟨"com/example/matchloom/matchloom/league/TouchedCells", "slots", "(I)I"⟩ : MethodName)) (z := (⟨"com/example/matchloom/matchloom/league/TouchedCells", "slots", "(I)I"⟩ : MethodName)) hown (mvT hZ (own_w hw 45)) (mvT hZ (own_w hw 46)) (notFace_of_selects (args := #[]) (mvT hZ (own_w hw 48))) (mvT hZ (own_w hw 48)) (mvT hZ (own_w hw 47)) (by decide) (backOf (W := 0) (rm7 l Z a0 hw [] a1 ((1 : Int32) - vt) (own_pwm00 (own_Sx x0 x1 x2 x3 x4 x5 vt vs)) (own_pwm01 (own_Sx x0 x1 x2 x3 x4 x5 vt vs)) (own_pwm10 (own_Sx x0 x1 x2 x3 x4 x5 vt vs)) (own_pwm11 (own_Sx x0 x1 x2 x3 x4 x5 vt vs)) (own_pwt0 (own_Sx x0 x1 x2 x3 x4 x5 vt vs)) (own_pwt1 (own_Sx x0 x1 x2 x3 x4 x5 vt vs)) (own_pws00 (own_Sx x0 x1 x2 x3 x4 x5 vt vs)) (own_pws01 (own_Sx x0 x1 x2 x3 x4 x5 vt vs)) (own_pws10 (own_Sx x0 x1 x2 x3 x4 x5 vt vs)) (own_pws11 (own_Sx x0 x1 x2 x3 x4 x5 vt vs)) (own_pwc0 (own_Sx x0 x1 x2 x3 x4 x5 vt vs)) (own_pwc1 (own_Sx x0 x1 x2 x3 x4 x5 vt vs)) (own_pwn (own_Sx x0 x1 x2 x3 x4 x5 vt vs)) (f7 ((1 : Int32) - vt) (own_pwc0 (own_Sx x0 x1 x2 x3 x4 x5 vt vs)) (own_pwc1 (own_Sx x0 x1 x2 x3 x4 x5 vt vs))) T49.heap n0 Zq49 TD49 (own_sub hb_vt) rfl) hZ (own_w hw 49) (own_w hw 2) (by decide) (by decide)) qa59 qc59 (g := (mkF m 199 #[oI p0, oI p1, oI p2, oI p3, oI p4, oR a1, oI (2 : Int32), oI vt, oI vs, oI (1 : Int32)] [(.int ((1 : Int32) - vt)), (.ref a1)])) rfl (by rw [hml]; rfl) (Steps.refl _) (argsL := [(.int ((1 : Int32) - vt))]) (rest := []) (lenOf pd_0_3 rfl) rfl (by show 2 * 0 + _ ≤ _; exact Nat.le_of_eq rfl) (hb hby at_199) (fun _ _ => ⟨rfl, e57, (by decide : 9 + 0 ≤ _), (by decide : 21 + 0 ≤ _)⟩)
    dsimp only [Pt.U, Pt.locs, Pt.cells, Pt.slots] at X59 l59 y59 z59 st59 hQ59
    subst l59 y59 z59
    obtain ⟨rfl, Nq59, e59⟩ := hQ59
    have N60 := Fr.app N58 Nq59
    refine own_tr st59 ?_
    show own_Go p e below _ (T59.setTop (mkF m 202 #[oI p0, oI p1, oI p2, oI p3, oI p4, oR a1, oI (2 : Int32), oI vt, oI vs, oI (1 : Int32)] [(.int (f7 ((1 : Int32) - vt) (own_pwc0 (own_Sx x0 x1 x2 x3 x4 x5 vt vs)) (own_pwc1 (own_Sx x0 x1 x2 x3 x4 x5 vt vs))))]))
    refine own_via (fun t kz => XS.ifNo X59.here hx rfl (hb hby at_202) rfl ((if0 _ _).trans (teq (own_chk202 x0 x1 x2 x3 x4 x5 hb_vt hb_vs)).2) kz) ?_
    show own_Go p e below _ (T59.setTop (mkF m 205 #[oI p0, oI p1, oI p2, oI p3, oI p4, oR a1, oI (2 : Int32), oI vt, oI vs, oI (1 : Int32)] []))
    refine own_via (fun t kz => XS.iconst X59.here hx rfl (hb hby at_205) kz) ?_
    show own_Go p e below _ (T59.setTop (mkF m 206 #[oI p0, oI p1, oI p2, oI p3, oI p4, oR a1, oI (2 : Int32), oI vt, oI vs, oI (1 : Int32)] [(.int (1 : Int32))]))
    refine own_via (fun t kz => XS.goto X59.here hx rfl (pc0 := 206) (pc' := 210) rfl (hb hby at_206) (by decide) (by decide) kz) ?_
    show own_Go p e below _ (T59.setTop (mkF m 210 #[oI p0, oI p1, oI p2, oI p3, oI p4, oR a1, oI (2 : Int32), oI vt, oI vs, oI (1 : Int32)] [(.int (1 : Int32))]))
    refine own_via (fun t kz => XS.istore X59.here hx rfl (hb hby at_210) rfl (l' := #[oI p0, oI p1, oI p2, oI p3, oI p4, oR a1, oI (2 : Int32), oI vt, oI vs, oI (1 : Int32)]) rfl kz) ?_
    show own_Go p e below _ (T59.setTop (mkF m 212 #[oI p0, oI p1, oI p2, oI p3, oI p4, oR a1, oI (2 : Int32), oI vt, oI vs, oI (1 : Int32)] []))
    refine own_via (fun t kz => XS.iload X59.here hx rfl (hb hby at_212) rfl kz) ?_
    show own_Go p e below _ (T59.setTop (mkF m 214 #[oI p0, oI p1, oI p2, oI p3, oI p4, oR a1, oI (2 : Int32), oI vt, oI vs, oI (1 : Int32)] [(.int (1 : Int32))]))
    obtain ⟨fs, hr, hrun, hended, hW, hsame⟩ := X59.leave (v := some (.int (1 : Int32))) (fun h => by rw [Bd.returns] at h; cases h)
    refine ⟨_, _, retN X59 hx (t := .boolean) Bd.returns (by simp) (hb hby at_214) hr, hrun, hended, _, _, rfl, ?_, ⟨_, rfl⟩, hW, hsame.mono (by decide) (by decide)⟩
    show Q0 Z p0 p1 p2 p3 p4 h0 n0 _ T59.heap _
    rw [e59]
    exact ⟨rfl, N60⟩
  · show own_Go p e below _ (T9.setTop (mkF m 16 #[oI p0, oI p1, oI p2, oI p3, oI p4, oR a1, oI (3 : Int32), .unset, .unset, .unset] []))
    refine own_via (fun t kz => XS.iload X9.here hx rfl (hb hby at_16) rfl kz) ?_
    show own_Go p e below _ (T9.setTop (mkF m 18 #[oI p0, oI p1, oI p2, oI p3, oI p4, oR a1, oI (3 : Int32), .unset, .unset, .unset] [(.int (3 : Int32))]))
    refine own_via (fun t kz => XS.iconst X9.here hx rfl (hb hby at_18) kz) ?_
    show own_Go p e below _ (T9.setTop (mkF m 19 #[oI p0, oI p1, oI p2, oI p3, oI p4, oR a1, oI (3 : Int32), .unset, .unset, .unset] [(.int (1 : Int32)), (.int (3 : Int32))]))
    refine own_via (fun t kz => XS.icmpNo X9.here hx rfl (hb hby at_19) rfl (flt (by decide : ¬ ((3 : Int32) < (1 : Int32)))).1 kz) ?_
    show own_Go p e below _ (T9.setTop (mkF m 22 #[oI p0, oI p1, oI p2, oI p3, oI p4, oR a1, oI (3 : Int32), .unset, .unset, .unset] []))
    refine own_via (fun t kz => XS.aload X9.here hx rfl (hb hby at_22) rfl rfl kz) ?_
    show own_Go p e below _ (T9.setTop (mkF m 24 #[oI p0, oI p1, oI p2, oI p3, oI p4, oR a1, oI (3 : Int32), .unset, .unset, .unset] [(.ref a1)]))
    refine own_via (fun t kz => XS.iloadN X9.here hx rfl (hb hby at_24) rfl kz) ?_
    show own_Go p e below _ (T9.setTop (mkF m 25 #[oI p0, oI p1, oI p2, oI p3, oI p4, oR a1, oI (3 : Int32), .unset, .unset, .unset] [(.int p0), (.ref a1)]))
    refine own_via (fun t kz => XS.iconst X9.here hx rfl (hb hby at_25) kz) ?_
    show own_Go p e below _ (T9.setTop (mkF m 26 #[oI p0, oI p1, oI p2, oI p3, oI p4, oR a1, oI (3 : Int32), .unset, .unset, .unset] [(.int (1 : Int32)), (.int p0), (.ref a1)]))
    refine own_via (fun t kz => XS.iand X9.here hx rfl (hb hby at_26) rfl kz) ?_
    show own_Go p e below _ (T9.setTop (mkF m 27 #[oI p0, oI p1, oI p2, oI p3, oI p4, oR a1, oI (3 : Int32), .unset, .unset, .unset] [(.int (p0 &&& (1 : Int32))), (.ref a1)]))
    refine own_via (fun t kz => XS.iloadN X9.here hx rfl (hb hby at_27) rfl kz) ?_
    show own_Go p e below _ (T9.setTop (mkF m 28 #[oI p0, oI p1, oI p2, oI p3, oI p4, oR a1, oI (3 : Int32), .unset, .unset, .unset] [(.int p0), (.int (p0 &&& (1 : Int32))), (.ref a1)]))
    refine own_via (fun t kz => XS.iconst X9.here hx rfl (hb hby at_28) kz) ?_
    show own_Go p e below _ (T9.setTop (mkF m 29 #[oI p0, oI p1, oI p2, oI p3, oI p4, oR a1, oI (3 : Int32), .unset, .unset, .unset] [(.int (1 : Int32)), (.int p0), (.int (p0 &&& (1 : Int32))), (.ref a1)]))
    refine own_via (fun t kz => XS.ishr X9.here hx rfl (hb hby at_29) rfl kz) ?_
    show own_Go p e below _ (T9.setTop (mkF m 30 #[oI p0, oI p1, oI p2, oI p3, oI p4, oR a1, oI (3 : Int32), .unset, .unset, .unset] [(.int (p0 >>> ((1 : Int32) &&& 31))), (.int (p0 &&& (1 : Int32))), (.ref a1)]))
    refine own_via (fun t kz => XS.iconst X9.here hx rfl (hb hby at_30) kz) ?_
    show own_Go p e below _ (T9.setTop (mkF m 31 #[oI p0, oI p1, oI p2, oI p3, oI p4, oR a1, oI (3 : Int32), .unset, .unset, .unset] [(.int (1 : Int32)), (.int (p0 >>> ((1 : Int32) &&& 31))), (.int (p0 &&& (1 : Int32))), (.ref a1)]))
    refine own_via (fun t kz => XS.iand X9.here hx rfl (hb hby at_31) rfl kz) ?_
    show own_Go p e below _ (T9.setTop (mkF m 32 #[oI p0, oI p1, oI p2, oI p3, oI p4, oR a1, oI (3 : Int32), .unset, .unset, .unset] [(.int ((p0 >>> ((1 : Int32) &&& 31)) &&& (1 : Int32))), (.int (p0 &&& (1 : Int32))), (.ref a1)]))
    have hb_v0b := and_one (p0 >>> ((1 : Int32) &&& 31))
    generalize ((p0 >>> ((1 : Int32) &&& 31)) &&& (1 : Int32)) = v0b at hb_v0b ⊢
    have hb_v0a := and_one p0
    generalize (p0 &&& (1 : Int32)) = v0a at hb_v0a ⊢
    show own_Go p e below _ (T9.setTop (mkF m 32 #[oI p0, oI p1, oI p2, oI p3, oI p4, oR a1, oI (3 : Int32), .unset, .unset, .unset] [(.int v0b), (.int v0a), (.ref a1)]))
    obtain ⟨cq62, kq62, qa62, qb62, qc62⟩ := isOf hZ rfl (own_exa TD9)
    obtain ⟨_, _, ⟨T62, L62, k62, n62⟩, -, X62, ⟨Lc62, hQ62, l62, y62, z62⟩, st62⟩ := X9.virtualBack hx (y := (⟨"com/example/matchloom/matchloom/league/TouchedCells", "mark", "(II)V"⟩ : MethodName)) (z := (⟨"com/example/matchloom/matchloom/league/TouchedCells", "mark", "(II)V"⟩ : MethodName)) hown (mvT hZ (own_w hw 23)) (mvT hZ (own_w hw 24)) (notFace_of_selects (args := #[]) (mvT hZ (own_w hw 26))) (mvT hZ (own_w hw 26)) (mvT hZ (own_w hw 25)) (by decide) (backOf (W := 0) (rm3 l Z a0 hw [] a1 v0a v0b (own_pwm00 own_S0) (own_pwm01 own_S0) (own_pwm10 own_S0) (own_pwm11 own_S0) (own_pwt0 own_S0) (own_pwt1 own_S0) (own_pws00 own_S0) (own_pws01 own_S0) (own_pws10 own_S0) (own_pws11 own_S0) (own_pwc0 own_S0) (own_pwc1 own_S0) (own_pwn own_S0) T9.heap n0 Zq9 TD9 hb_v0a hb_v0b (own_ok1 hb_v0a hb_v0b).1 (own_ok1 hb_v0a hb_v0b).2) hZ (own_w hw 27) (own_w hw 2) (by decide) (by decide)) qa62 qc62 (g := (mkF m 32 #[oI p0, oI p1, oI p2, oI p3, oI p4, oR a1, oI (3 : Int32), .unset, .unset, .unset] [(.int v0b), (.int v0a), (.ref a1)])) rfl (by rw [hml]; rfl) (Steps.refl _) (argsL := [(.int v0a), (.int v0b)]) (rest := []) (lenOf pd_0_0 rfl) rfl (by show 2 * 0 + _ ≤ _; exact Nat.le_of_eq rfl) (hb hby at_32) (fun _ _ => ⟨rfl, rfl, (by decide : 9 + 0 ≤ _), (by decide : 21 + 0 ≤ _)⟩)
    dsimp only [Pt.U, Pt.locs, Pt.cells, Pt.slots] at X62 l62 y62 z62 st62 hQ62
    subst l62 y62 z62
    obtain ⟨rfl, Nq62, Zq62, TC62⟩ := hQ62
    have N63 := Fr.app N10 Nq62
    refine own_tr st62 ?_
    have TD62 : own_TC Z T62.heap n0 a1 (own_S1 v0a v0b) := TC62
    show own_Go p e below _ (T62.setTop (mkF m 35 #[oI p0, oI p1, oI p2, oI p3, oI p4, oR a1, oI (3 : Int32), .unset, .unset, .unset] []))
    refine own_via (fun t kz => XS.iload X62.here hx rfl (hb hby at_35) rfl kz) ?_
    show own_Go p e below _ (T62.setTop (mkF m 37 #[oI p0, oI p1, oI p2, oI p3, oI p4, oR a1, oI (3 : Int32), .unset, .unset, .unset] [(.int (3 : Int32))]))
    refine own_via (fun t kz => XS.iconst X62.here hx rfl (hb hby at_37) kz) ?_
    show own_Go p e below _ (T62.setTop (mkF m 38 #[oI p0, oI p1, oI p2, oI p3, oI p4, oR a1, oI (3 : Int32), .unset, .unset, .unset] [(.int (2 : Int32)), (.int (3 : Int32))]))
    refine own_via (fun t kz => XS.icmpNo X62.here hx rfl (hb hby at_38) rfl (flt (by decide : ¬ ((3 : Int32) < (2 : Int32)))).1 kz) ?_
    show own_Go p e below _ (T62.setTop (mkF m 41 #[oI p0, oI p1, oI p2, oI p3, oI p4, oR a1, oI (3 : Int32), .unset, .unset, .unset] []))
    refine own_via (fun t kz => XS.aload X62.here hx rfl (hb hby at_41) rfl rfl kz) ?_
    show own_Go p e below _ (T62.setTop (mkF m 43 #[oI p0, oI p1, oI p2, oI p3, oI p4, oR a1, oI (3 : Int32), .unset, .unset, .unset] [(.ref a1)]))
    refine own_via (fun t kz => XS.iloadN X62.here hx rfl (hb hby at_43) rfl kz) ?_
    show own_Go p e below _ (T62.setTop (mkF m 44 #[oI p0, oI p1, oI p2, oI p3, oI p4, oR a1, oI (3 : Int32), .unset, .unset, .unset] [(.int p1), (.ref a1)]))
    refine own_via (fun t kz => XS.iconst X62.here hx rfl (hb hby at_44) kz) ?_
    show own_Go p e below _ (T62.setTop (mkF m 45 #[oI p0, oI p1, oI p2, oI p3, oI p4, oR a1, oI (3 : Int32), .unset, .unset, .unset] [(.int (1 : Int32)), (.int p1), (.ref a1)]))
    refine own_via (fun t kz => XS.iand X62.here hx rfl (hb hby at_45) rfl kz) ?_
    show own_Go p e below _ (T62.setTop (mkF m 46 #[oI p0, oI p1, oI p2, oI p3, oI p4, oR a1, oI (3 : Int32), .unset, .unset, .unset] [(.int (p1 &&& (1 : Int32))), (.ref a1)]))
    refine own_via (fun t kz => XS.iloadN X62.here hx rfl (hb hby at_46) rfl kz) ?_
    show own_Go p e below _ (T62.setTop (mkF m 47 #[oI p0, oI p1, oI p2, oI p3, oI p4, oR a1, oI (3 : Int32), .unset, .unset, .unset] [(.int p1), (.int (p1 &&& (1 : Int32))), (.ref a1)]))
    refine own_via (fun t kz => XS.iconst X62.here hx rfl (hb hby at_47) kz) ?_
    show own_Go p e below _ (T62.setTop (mkF m 48 #[oI p0, oI p1, oI p2, oI p3, oI p4, oR a1, oI (3 : Int32), .unset, .unset, .unset] [(.int (1 : Int32)), (.int p1), (.int (p1 &&& (1 : Int32))), (.ref a1)]))
    refine own_via (fun t kz => XS.ishr X62.here hx rfl (hb hby at_48) rfl kz) ?_
    show own_Go p e below _ (T62.setTop (mkF m 49 #[oI p0, oI p1, oI p2, oI p3, oI p4, oR a1, oI (3 : Int32), .unset, .unset, .unset] [(.int (p1 >>> ((1 : Int32) &&& 31))), (.int (p1 &&& (1 : Int32))), (.ref a1)]))
    refine own_via (fun t kz => XS.iconst X62.here hx rfl (hb hby at_49) kz) ?_
    show own_Go p e below _ (T62.setTop (mkF m 50 #[oI p0, oI p1, oI p2, oI p3, oI p4, oR a1, oI (3 : Int32), .unset, .unset, .unset] [(.int (1 : Int32)), (.int (p1 >>> ((1 : Int32) &&& 31))), (.int (p1 &&& (1 : Int32))), (.ref a1)]))
    refine own_via (fun t kz => XS.iand X62.here hx rfl (hb hby at_50) rfl kz) ?_
    show own_Go p e below _ (T62.setTop (mkF m 51 #[oI p0, oI p1, oI p2, oI p3, oI p4, oR a1, oI (3 : Int32), .unset, .unset, .unset] [(.int ((p1 >>> ((1 : Int32) &&& 31)) &&& (1 : Int32))), (.int (p1 &&& (1 : Int32))), (.ref a1)]))
    have hb_v1b := and_one (p1 >>> ((1 : Int32) &&& 31))
    generalize ((p1 >>> ((1 : Int32) &&& 31)) &&& (1 : Int32)) = v1b at hb_v1b ⊢
    have hb_v1a := and_one p1
    generalize (p1 &&& (1 : Int32)) = v1a at hb_v1a ⊢
    show own_Go p e below _ (T62.setTop (mkF m 51 #[oI p0, oI p1, oI p2, oI p3, oI p4, oR a1, oI (3 : Int32), .unset, .unset, .unset] [(.int v1b), (.int v1a), (.ref a1)]))
    obtain ⟨cq64, kq64, qa64, qb64, qc64⟩ := isOf hZ rfl (own_exa TD62)
    obtain ⟨_, _, ⟨T64, L64, k64, n64⟩, -, X64, ⟨Lc64, hQ64, l64, y64, z64⟩, st64⟩ := X62.virtualBack hx (y := (⟨"com/example/matchloom/matchloom/league/TouchedCells", "mark", "(II)V"⟩ : MethodName)) (z := (⟨"com/example/matchloom/matchloom/league/TouchedCells", "mark", "(II)V"⟩ : MethodName)) hown (mvT hZ (own_w hw 23)) (mvT hZ (own_w hw 24)) (notFace_of_selects (args := #[]) (mvT hZ (own_w hw 26))) (mvT hZ (own_w hw 26)) (mvT hZ (own_w hw 25)) (by decide) (backOf (W := 0) (rm3 l Z a0 hw [] a1 v1a v1b (own_pwm00 (own_S1 v0a v0b)) (own_pwm01 (own_S1 v0a v0b)) (own_pwm10 (own_S1 v0a v0b)) (own_pwm11 (own_S1 v0a v0b)) (own_pwt0 (own_S1 v0a v0b)) (own_pwt1 (own_S1 v0a v0b)) (own_pws00 (own_S1 v0a v0b)) (own_pws01 (own_S1 v0a v0b)) (own_pws10 (own_S1 v0a v0b)) (own_pws11 (own_S1 v0a v0b)) (own_pwc0 (own_S1 v0a v0b)) (own_pwc1 (own_S1 v0a v0b)) (own_pwn (own_S1 v0a v0b)) T62.heap n0 Zq62 TD62 hb_v1a hb_v1b (own_ok2 hb_v0a hb_v0b hb_v1a hb_v1b).1 (own_ok2 hb_v0a hb_v0b hb_v1a hb_v1b).2) hZ (own_w hw 27) (own_w hw 2) (by decide) (by decide)) qa64 qc64 (g := (mkF m 51 #[oI p0, oI p1, oI p2, oI p3, oI p4, oR a1, oI (3 : Int32), .unset, .unset, .unset] [(.int v1b), (.int v1a), (.ref a1)])) rfl (by rw [hml]; rfl) (Steps.refl _) (argsL := [(.int v1a), (.int v1b)]) (rest := []) (lenOf pd_0_0 rfl) rfl (by show 2 * 0 + _ ≤ _; exact Nat.le_of_eq rfl) (hb hby at_51) (fun _ _ => ⟨rfl, rfl, (by decide : 9 + 0 ≤ _), (by decide : 21 + 0 ≤ _)⟩)
    dsimp only [Pt.U, Pt.locs, Pt.cells, Pt.slots] at X64 l64 y64 z64 st64 hQ64
    subst l64 y64 z64
    obtain ⟨rfl, Nq64, Zq64, TC64⟩ := hQ64
    have N65 := Fr.app N63 Nq64
    refine own_tr st64 ?_
    have TD64 : own_TC Z T64.heap n0 a1 (own_S2 v0a v0b v1a v1b) := TC64
    show own_Go p e below _ (T64.setTop (mkF m 54 #[oI p0, oI p1, oI p2, oI p3, oI p4, oR a1, oI (3 : Int32), .unset, .unset, .unset] []))
    refine own_via (fun t kz => XS.iload X64.here hx rfl (hb hby at_54) rfl kz) ?_
    show own_Go p e below _ (T64.setTop (mkF m 56 #[oI p0, oI p1, oI p2, oI p3, oI p4, oR a1, oI (3 : Int32), .unset, .unset, .unset] [(.int (3 : Int32))]))
    refine own_via (fun t kz => XS.iconst X64.here hx rfl (hb hby at_56) kz) ?_
    show own_Go p e below _ (T64.setTop (mkF m 57 #[oI p0, oI p1, oI p2, oI p3, oI p4, oR a1, oI (3 : Int32), .unset, .unset, .unset] [(.int (3 : Int32)), (.int (3 : Int32))]))
    refine own_via (fun t kz => XS.icmpNo X64.here hx rfl (hb hby at_57) rfl (flt (by decide : ¬ ((3 : Int32) < (3 : Int32)))).1 kz) ?_
    show own_Go p e below _ (T64.setTop (mkF m 60 #[oI p0, oI p1, oI p2, oI p3, oI p4, oR a1, oI (3 : Int32), .unset, .unset, .unset] []))
    refine own_via (fun t kz => XS.aload X64.here hx rfl (hb hby at_60) rfl rfl kz) ?_
    show own_Go p e below _ (T64.setTop (mkF m 62 #[oI p0, oI p1, oI p2, oI p3, oI p4, oR a1, oI (3 : Int32), .unset, .unset, .unset] [(.ref a1)]))
    refine own_via (fun t kz => XS.iloadN X64.here hx rfl (hb hby at_62) rfl kz) ?_
    show own_Go p e below _ (T64.setTop (mkF m 63 #[oI p0, oI p1, oI p2, oI p3, oI p4, oR a1, oI (3 : Int32), .unset, .unset, .unset] [(.int p2), (.ref a1)]))
    refine own_via (fun t kz => XS.iconst X64.here hx rfl (hb hby at_63) kz) ?_
    show own_Go p e below _ (T64.setTop (mkF m 64 #[oI p0, oI p1, oI p2, oI p3, oI p4, oR a1, oI (3 : Int32), .unset, .unset, .unset] [(.int (1 : Int32)), (.int p2), (.ref a1)]))
    refine own_via (fun t kz => XS.iand X64.here hx rfl (hb hby at_64) rfl kz) ?_
    show own_Go p e below _ (T64.setTop (mkF m 65 #[oI p0, oI p1, oI p2, oI p3, oI p4, oR a1, oI (3 : Int32), .unset, .unset, .unset] [(.int (p2 &&& (1 : Int32))), (.ref a1)]))
    refine own_via (fun t kz => XS.iloadN X64.here hx rfl (hb hby at_65) rfl kz) ?_
    show own_Go p e below _ (T64.setTop (mkF m 66 #[oI p0, oI p1, oI p2, oI p3, oI p4, oR a1, oI (3 : Int32), .unset, .unset, .unset] [(.int p2), (.int (p2 &&& (1 : Int32))), (.ref a1)]))
    refine own_via (fun t kz => XS.iconst X64.here hx rfl (hb hby at_66) kz) ?_
    show own_Go p e below _ (T64.setTop (mkF m 67 #[oI p0, oI p1, oI p2, oI p3, oI p4, oR a1, oI (3 : Int32), .unset, .unset, .unset] [(.int (1 : Int32)), (.int p2), (.int (p2 &&& (1 : Int32))), (.ref a1)]))
    refine own_via (fun t kz => XS.ishr X64.here hx rfl (hb hby at_67) rfl kz) ?_
    show own_Go p e below _ (T64.setTop (mkF m 68 #[oI p0, oI p1, oI p2, oI p3, oI p4, oR a1, oI (3 : Int32), .unset, .unset, .unset] [(.int (p2 >>> ((1 : Int32) &&& 31))), (.int (p2 &&& (1 : Int32))), (.ref a1)]))
    refine own_via (fun t kz => XS.iconst X64.here hx rfl (hb hby at_68) kz) ?_
    show own_Go p e below _ (T64.setTop (mkF m 69 #[oI p0, oI p1, oI p2, oI p3, oI p4, oR a1, oI (3 : Int32), .unset, .unset, .unset] [(.int (1 : Int32)), (.int (p2 >>> ((1 : Int32) &&& 31))), (.int (p2 &&& (1 : Int32))), (.ref a1)]))
    refine own_via (fun t kz => XS.iand X64.here hx rfl (hb hby at_69) rfl kz) ?_
    show own_Go p e below _ (T64.setTop (mkF m 70 #[oI p0, oI p1, oI p2, oI p3, oI p4, oR a1, oI (3 : Int32), .unset, .unset, .unset] [(.int ((p2 >>> ((1 : Int32) &&& 31)) &&& (1 : Int32))), (.int (p2 &&& (1 : Int32))), (.ref a1)]))
    have hb_v2b := and_one (p2 >>> ((1 : Int32) &&& 31))
    generalize ((p2 >>> ((1 : Int32) &&& 31)) &&& (1 : Int32)) = v2b at hb_v2b ⊢
    have hb_v2a := and_one p2
    generalize (p2 &&& (1 : Int32)) = v2a at hb_v2a ⊢
    show own_Go p e below _ (T64.setTop (mkF m 70 #[oI p0, oI p1, oI p2, oI p3, oI p4, oR a1, oI (3 : Int32), .unset, .unset, .unset] [(.int v2b), (.int v2a), (.ref a1)]))
    obtain ⟨cq66, kq66, qa66, qb66, qc66⟩ := isOf hZ rfl (own_exa TD64)
    obtain ⟨_, _, ⟨T66, L66, k66, n66⟩, -, X66, ⟨Lc66, hQ66, l66, y66, z66⟩, st66⟩ := X64.virtualBack hx (y := (⟨"com/example/matchloom/matchloom/league/TouchedCells", "mark", "(II)V"⟩ : MethodName)) (z := (⟨"com/example/matchloom/matchloom/league/TouchedCells", "mark", "(II)V"⟩ : MethodName)) hown (mvT hZ (own_w hw 23)) (mvT hZ (own_w hw 24)) (notFace_of_selects (args := #[]) (mvT hZ (own_w hw 26))) (mvT hZ (own_w hw 26)) (mvT hZ (own_w hw 25)) (by decide) (backOf (W := 0) (rm3 l Z a0 hw [] a1 v2a v2b (own_pwm00 (own_S2 v0a v0b v1a v1b)) (own_pwm01 (own_S2 v0a v0b v1a v1b)) (own_pwm10 (own_S2 v0a v0b v1a v1b)) (own_pwm11 (own_S2 v0a v0b v1a v1b)) (own_pwt0 (own_S2 v0a v0b v1a v1b)) (own_pwt1 (own_S2 v0a v0b v1a v1b)) (own_pws00 (own_S2 v0a v0b v1a v1b)) (own_pws01 (own_S2 v0a v0b v1a v1b)) (own_pws10 (own_S2 v0a v0b v1a v1b)) (own_pws11 (own_S2 v0a v0b v1a v1b)) (own_pwc0 (own_S2 v0a v0b v1a v1b)) (own_pwc1 (own_S2 v0a v0b v1a v1b)) (own_pwn (own_S2 v0a v0b v1a v1b)) T64.heap n0 Zq64 TD64 hb_v2a hb_v2b (own_ok3 hb_v0a hb_v0b hb_v1a hb_v1b hb_v2a hb_v2b).1 (own_ok3 hb_v0a hb_v0b hb_v1a hb_v1b hb_v2a hb_v2b).2) hZ (own_w hw 27) (own_w hw 2) (by decide) (by decide)) qa66 qc66 (g := (mkF m 70 #[oI p0, oI p1, oI p2, oI p3, oI p4, oR a1, oI (3 : Int32), .unset, .unset, .unset] [(.int v2b), (.int v2a), (.ref a1)])) rfl (by rw [hml]; rfl) (Steps.refl _) (argsL := [(.int v2a), (.int v2b)]) (rest := []) (lenOf pd_0_0 rfl) rfl (by show 2 * 0 + _ ≤ _; exact Nat.le_of_eq rfl) (hb hby at_70) (fun _ _ => ⟨rfl, rfl, (by decide : 9 + 0 ≤ _), (by decide : 21 + 0 ≤ _)⟩)
    dsimp only [Pt.U, Pt.locs, Pt.cells, Pt.slots] at X66 l66 y66 z66 st66 hQ66
    subst l66 y66 z66
    obtain ⟨rfl, Nq66, Zq66, TC66⟩ := hQ66
    have N67 := Fr.app N65 Nq66
    refine own_tr st66 ?_
    have TD66 : own_TC Z T66.heap n0 a1 (own_S3 v0a v0b v1a v1b v2a v2b) := TC66
    show own_Go p e below _ (T66.setTop (mkF m 73 #[oI p0, oI p1, oI p2, oI p3, oI p4, oR a1, oI (3 : Int32), .unset, .unset, .unset] []))
    refine own_via (fun t kz => XS.aload X66.here hx rfl (hb hby at_73) rfl rfl kz) ?_
    show own_Go p e below _ (T66.setTop (mkF m 75 #[oI p0, oI p1, oI p2, oI p3, oI p4, oR a1, oI (3 : Int32), .unset, .unset, .unset] [(.ref a1)]))
    obtain ⟨cq68, kq68, qa68, qb68, qc68⟩ := isOf hZ rfl (own_exa TD66)
    obtain ⟨_, _, ⟨T68, L68, k68, n68⟩, -, X68, ⟨Lc68, hQ68, l68, y68, z68⟩, st68⟩ := X66.virtualBack hx (y := (⟨"com/example/matchloom/matchloom/league/TouchedCells", "clear", "()V"⟩ : MethodName)) (z := (⟨"com/example/matchloom/matchloom/league/TouchedCells", "clear", "()V"⟩ : MethodName)) hown (mvT hZ (own_w hw 30)) (mvT hZ (own_w hw 31)) (notFace_of_selects (args := #[]) (mvT hZ (own_w hw 33))) (mvT hZ (own_w hw 33)) (mvT hZ (own_w hw 32)) (by decide) (backOf (W := 0) (rm4 l Z a0 hw [] a1 (own_pwm00 (own_S3 v0a v0b v1a v1b v2a v2b)) (own_pwm01 (own_S3 v0a v0b v1a v1b v2a v2b)) (own_pwm10 (own_S3 v0a v0b v1a v1b v2a v2b)) (own_pwm11 (own_S3 v0a v0b v1a v1b v2a v2b)) (own_pwt0 (own_S3 v0a v0b v1a v1b v2a v2b)) (own_pwt1 (own_S3 v0a v0b v1a v1b v2a v2b)) (own_pws00 (own_S3 v0a v0b v1a v1b v2a v2b)) (own_pws01 (own_S3 v0a v0b v1a v1b v2a v2b)) (own_pws10 (own_S3 v0a v0b v1a v1b v2a v2b)) (own_pws11 (own_S3 v0a v0b v1a v1b v2a v2b)) (own_pwc0 (own_S3 v0a v0b v1a v1b v2a v2b)) (own_pwc1 (own_S3 v0a v0b v1a v1b v2a v2b)) (own_pwn (own_S3 v0a v0b v1a v1b v2a v2b)) T66.heap n0 Zq66 TD66 (own_inv3 hb_v0a hb_v0b hb_v1a hb_v1b hb_v2a hb_v2b)) hZ (own_w hw 34) (own_w hw 2) (by decide) (by decide)) qa68 qc68 (g := (mkF m 75 #[oI p0, oI p1, oI p2, oI p3, oI p4, oR a1, oI (3 : Int32), .unset, .unset, .unset] [(.ref a1)])) rfl (by rw [hml]; rfl) (Steps.refl _) (argsL := []) (rest := []) (lenOf pd_0_1 rfl) rfl (by show 2 * 0 + _ ≤ _; exact Nat.le_of_eq rfl) (hb hby at_75) (fun _ _ => ⟨rfl, rfl, (by decide : 9 + 0 ≤ _), (by decide : 21 + 0 ≤ _)⟩)
    dsimp only [Pt.U, Pt.locs, Pt.cells, Pt.slots] at X68 l68 y68 z68 st68 hQ68
    subst l68 y68 z68
    obtain ⟨rfl, Nq68, Zq68, x0, x1, x2, x3, x4, x5, TC68⟩ := hQ68
    have N69 := Fr.app N67 Nq68
    refine own_tr st68 ?_
    show own_Go p e below _ (T68.setTop (mkF m 78 #[oI p0, oI p1, oI p2, oI p3, oI p4, oR a1, oI (3 : Int32), .unset, .unset, .unset] []))
    refine own_via (fun t kz => XS.iload X68.here hx rfl (hb hby at_78) rfl kz) ?_
    show own_Go p e below _ (T68.setTop (mkF m 80 #[oI p0, oI p1, oI p2, oI p3, oI p4, oR a1, oI (3 : Int32), .unset, .unset, .unset] [(.int p4)]))
    refine own_via (fun t kz => XS.iconst X68.here hx rfl (hb hby at_80) kz) ?_
    show own_Go p e below _ (T68.setTop (mkF m 81 #[oI p0, oI p1, oI p2, oI p3, oI p4, oR a1, oI (3 : Int32), .unset, .unset, .unset] [(.int (1 : Int32)), (.int p4)]))
    refine own_via (fun t kz => XS.iand X68.here hx rfl (hb hby at_81) rfl kz) ?_
    show own_Go p e below _ (T68.setTop (mkF m 82 #[oI p0, oI p1, oI p2, oI p3, oI p4, oR a1, oI (3 : Int32), .unset, .unset, .unset] [(.int (p4 &&& (1 : Int32)))]))
    refine own_via (fun t kz => XS.istore X68.here hx rfl (hb hby at_82) rfl (l' := #[oI p0, oI p1, oI p2, oI p3, oI p4, oR a1, oI (3 : Int32), oI (p4 &&& (1 : Int32)), .unset, .unset]) rfl kz) ?_
    show own_Go p e below _ (T68.setTop (mkF m 84 #[oI p0, oI p1, oI p2, oI p3, oI p4, oR a1, oI (3 : Int32), oI (p4 &&& (1 : Int32)), .unset, .unset] []))
    refine own_via (fun t kz => XS.iload X68.here hx rfl (hb hby at_84) rfl kz) ?_
    show own_Go p e below _ (T68.setTop (mkF m 86 #[oI p0, oI p1, oI p2, oI p3, oI p4, oR a1, oI (3 : Int32), oI (p4 &&& (1 : Int32)), .unset, .unset] [(.int p4)]))
    refine own_via (fun t kz => XS.iconst X68.here hx rfl (hb hby at_86) kz) ?_
    show own_Go p e below _ (T68.setTop (mkF m 87 #[oI p0, oI p1, oI p2, oI p3, oI p4, oR a1, oI (3 : Int32), oI (p4 &&& (1 : Int32)), .unset, .unset] [(.int (1 : Int32)), (.int p4)]))
    refine own_via (fun t kz => XS.ishr X68.here hx rfl (hb hby at_87) rfl kz) ?_
    show own_Go p e below _ (T68.setTop (mkF m 88 #[oI p0, oI p1, oI p2, oI p3, oI p4, oR a1, oI (3 : Int32), oI (p4 &&& (1 : Int32)), .unset, .unset] [(.int (p4 >>> ((1 : Int32) &&& 31)))]))
    refine own_via (fun t kz => XS.iconst X68.here hx rfl (hb hby at_88) kz) ?_
    show own_Go p e below _ (T68.setTop (mkF m 89 #[oI p0, oI p1, oI p2, oI p3, oI p4, oR a1, oI (3 : Int32), oI (p4 &&& (1 : Int32)), .unset, .unset] [(.int (1 : Int32)), (.int (p4 >>> ((1 : Int32) &&& 31)))]))
    refine own_via (fun t kz => XS.iand X68.here hx rfl (hb hby at_89) rfl kz) ?_
    show own_Go p e below _ (T68.setTop (mkF m 90 #[oI p0, oI p1, oI p2, oI p3, oI p4, oR a1, oI (3 : Int32), oI (p4 &&& (1 : Int32)), .unset, .unset] [(.int ((p4 >>> ((1 : Int32) &&& 31)) &&& (1 : Int32)))]))
    refine own_via (fun t kz => XS.istore X68.here hx rfl (hb hby at_90) rfl (l' := #[oI p0, oI p1, oI p2, oI p3, oI p4, oR a1, oI (3 : Int32), oI (p4 &&& (1 : Int32)), oI ((p4 >>> ((1 : Int32) &&& 31)) &&& (1 : Int32)), .unset]) rfl kz) ?_
    have hb_vs := and_one (p4 >>> ((1 : Int32) &&& 31))
    generalize ((p4 >>> ((1 : Int32) &&& 31)) &&& (1 : Int32)) = vs at hb_vs ⊢
    have hb_vt := and_one p4
    generalize (p4 &&& (1 : Int32)) = vt at hb_vt ⊢
    show own_Go p e below _ (T68.setTop (mkF m 92 #[oI p0, oI p1, oI p2, oI p3, oI p4, oR a1, oI (3 : Int32), oI vt, oI vs, .unset] []))
    refine own_via (fun t kz => XS.aload X68.here hx rfl (hb hby at_92) rfl rfl kz) ?_
    show own_Go p e below _ (T68.setTop (mkF m 94 #[oI p0, oI p1, oI p2, oI p3, oI p4, oR a1, oI (3 : Int32), oI vt, oI vs, .unset] [(.ref a1)]))
    refine own_via (fun t kz => XS.iload X68.here hx rfl (hb hby at_94) rfl kz) ?_
    show own_Go p e below _ (T68.setTop (mkF m 96 #[oI p0, oI p1, oI p2, oI p3, oI p4, oR a1, oI (3 : Int32), oI vt, oI vs, .unset] [(.int vt), (.ref a1)]))
    refine own_via (fun t kz => XS.iload X68.here hx rfl (hb hby at_96) rfl kz) ?_
    show own_Go p e below _ (T68.setTop (mkF m 98 #[oI p0, oI p1, oI p2, oI p3, oI p4, oR a1, oI (3 : Int32), oI vt, oI vs, .unset] [(.int vs), (.int vt), (.ref a1)]))
    obtain ⟨cq70, kq70, qa70, qb70, qc70⟩ := isOf hZ rfl (own_exa TC68)
    obtain ⟨_, _, ⟨T70, L70, k70, n70⟩, -, X70, ⟨Lc70, hQ70, l70, y70, z70⟩, st70⟩ := X68.virtualBack hx (y := (⟨"com/example/matchloom/matchloom/league/TouchedCells", "mark", "(II)V"⟩ : MethodName)) (z := (⟨"com/example/matchloom/matchloom/league/TouchedCells", "mark", "(II)V"⟩ : MethodName)) hown (mvT hZ (own_w hw 23)) (mvT hZ (own_w hw 24)) (notFace_of_selects (args := #[]) (mvT hZ (own_w hw 26))) (mvT hZ (own_w hw 26)) (mvT hZ (own_w hw 25)) (by decide) (backOf (W := 0) (rm3 l Z a0 hw [] a1 vt vs (own_pwm00 (own_mk 0 0 0 0 x0 x1 x2 x3 x4 x5 0 0 0)) (own_pwm01 (own_mk 0 0 0 0 x0 x1 x2 x3 x4 x5 0 0 0)) (own_pwm10 (own_mk 0 0 0 0 x0 x1 x2 x3 x4 x5 0 0 0)) (own_pwm11 (own_mk 0 0 0 0 x0 x1 x2 x3 x4 x5 0 0 0)) (own_pwt0 (own_mk 0 0 0 0 x0 x1 x2 x3 x4 x5 0 0 0)) (own_pwt1 (own_mk 0 0 0 0 x0 x1 x2 x3 x4 x5 0 0 0)) (own_pws00 (own_mk 0 0 0 0 x0 x1 x2 x3 x4 x5 0 0 0)) (own_pws01 (own_mk 0 0 0 0 x0 x1 x2 x3 x4 x5 0 0 0)) (own_pws10 (own_mk 0 0 0 0 x0 x1 x2 x3 x4 x5 0 0 0)) (own_pws11 (own_mk 0 0 0 0 x0 x1 x2 x3 x4 x5 0 0 0)) (own_pwc0 (own_mk 0 0 0 0 x0 x1 x2 x3 x4 x5 0 0 0)) (own_pwc1 (own_mk 0 0 0 0 x0 x1 x2 x3 x4 x5 0 0 0)) (own_pwn (own_mk 0 0 0 0 x0 x1 x2 x3 x4 x5 0 0 0)) T68.heap n0 Zq68 TC68 hb_vt hb_vs (own_okx x0 x1 x2 x3 x4 x5 hb_vt hb_vs).1 (own_okx x0 x1 x2 x3 x4 x5 hb_vt hb_vs).2) hZ (own_w hw 27) (own_w hw 2) (by decide) (by decide)) qa70 qc70 (g := (mkF m 98 #[oI p0, oI p1, oI p2, oI p3, oI p4, oR a1, oI (3 : Int32), oI vt, oI vs, .unset] [(.int vs), (.int vt), (.ref a1)])) rfl (by rw [hml]; rfl) (Steps.refl _) (argsL := [(.int vt), (.int vs)]) (rest := []) (lenOf pd_0_0 rfl) rfl (by show 2 * 0 + _ ≤ _; exact Nat.le_of_eq rfl) (hb hby at_98) (fun _ _ => ⟨rfl, rfl, (by decide : 9 + 0 ≤ _), (by decide : 21 + 0 ≤ _)⟩)
    dsimp only [Pt.U, Pt.locs, Pt.cells, Pt.slots] at X70 l70 y70 z70 st70 hQ70
    subst l70 y70 z70
    obtain ⟨rfl, Nq70, Zq70, TC70⟩ := hQ70
    have N71 := Fr.app N69 Nq70
    refine own_tr st70 ?_
    have TD70 : own_TC Z T70.heap n0 a1 (own_Sx x0 x1 x2 x3 x4 x5 vt vs) := TC70
    show own_Go p e below _ (T70.setTop (mkF m 101 #[oI p0, oI p1, oI p2, oI p3, oI p4, oR a1, oI (3 : Int32), oI vt, oI vs, .unset] []))
    refine own_via (fun t kz => XS.aload X70.here hx rfl (hb hby at_101) rfl rfl kz) ?_
    show own_Go p e below _ (T70.setTop (mkF m 103 #[oI p0, oI p1, oI p2, oI p3, oI p4, oR a1, oI (3 : Int32), oI vt, oI vs, .unset] [(.ref a1)]))
    obtain ⟨cq72, kq72, qa72, qb72, qc72⟩ := isOf hZ rfl (own_exa TD70)
    obtain ⟨_, _, ⟨T72, L72, k72, n72⟩, -, X72, ⟨Lc72, hQ72, l72, y72, z72⟩, st72⟩ := X70.virtualBack hx (y := (⟨"com/example/matchloom/matchloom/league/TouchedCells", "teams", "()I"⟩ : MethodName)) (z := (⟨"com/example/matchloom/matchloom/league/TouchedCells", "teams", "()I"⟩ : MethodName)) hown (mvT hZ (own_w hw 35)) (mvT hZ (own_w hw 36)) (notFace_of_selects (args := #[]) (mvT hZ (own_w hw 38))) (mvT hZ (own_w hw 38)) (mvT hZ (own_w hw 37)) (by decide) (backOf (W := 0) (rm5 l Z a0 hw [] a1 (own_pwm00 (own_Sx x0 x1 x2 x3 x4 x5 vt vs)) (own_pwm01 (own_Sx x0 x1 x2 x3 x4 x5 vt vs)) (own_pwm10 (own_Sx x0 x1 x2 x3 x4 x5 vt vs)) (own_pwm11 (own_Sx x0 x1 x2 x3 x4 x5 vt vs)) (own_pwt0 (own_Sx x0 x1 x2 x3 x4 x5 vt vs)) (own_pwt1 (own_Sx x0 x1 x2 x3 x4 x5 vt vs)) (own_pws00 (own_Sx x0 x1 x2 x3 x4 x5 vt vs)) (own_pws01 (own_Sx x0 x1 x2 x3 x4 x5 vt vs)) (own_pws10 (own_Sx x0 x1 x2 x3 x4 x5 vt vs)) (own_pws11 (own_Sx x0 x1 x2 x3 x4 x5 vt vs)) (own_pwc0 (own_Sx x0 x1 x2 x3 x4 x5 vt vs)) (own_pwc1 (own_Sx x0 x1 x2 x3 x4 x5 vt vs)) (own_pwn (own_Sx x0 x1 x2 x3 x4 x5 vt vs)) (own_pwn (own_Sx x0 x1 x2 x3 x4 x5 vt vs)) T70.heap n0 Zq70 TD70 (by unfold f5; rfl)) hZ (own_w hw 39) (own_w hw 2) (by decide) (by decide)) qa72 qc72 (g := (mkF m 103 #[oI p0, oI p1, oI p2, oI p3, oI p4, oR a1, oI (3 : Int32), oI vt, oI vs, .unset] [(.ref a1)])) rfl (by rw [hml]; rfl) (Steps.refl _) (argsL := []) (rest := []) (lenOf pd_0_2 rfl) rfl (by show 2 * 0 + _ ≤ _; exact Nat.le_of_eq rfl) (hb hby at_103) (fun _ _ => ⟨rfl, rfl, (by decide : 9 + 0 ≤ _), (by decide : 21 + 0 ≤ _)⟩)
    dsimp only [Pt.U, Pt.locs, Pt.cells, Pt.slots] at X72 l72 y72 z72 st72 hQ72
    subst l72 y72 z72
    obtain ⟨rfl, Nq72, e72⟩ := hQ72
    have N73 := Fr.app N71 Nq72
    refine own_tr st72 ?_
    show own_Go p e below _ (T72.setTop (mkF m 106 #[oI p0, oI p1, oI p2, oI p3, oI p4, oR a1, oI (3 : Int32), oI vt, oI vs, .unset] [(.int (own_pwn (own_Sx x0 x1 x2 x3 x4 x5 vt vs)))]))
    refine own_via (fun t kz => XS.iconst X72.here hx rfl (hb hby at_106) kz) ?_
    show own_Go p e below _ (T72.setTop (mkF m 107 #[oI p0, oI p1, oI p2, oI p3, oI p4, oR a1, oI (3 : Int32), oI vt, oI vs, .unset] [(.int (1 : Int32)), (.int (own_pwn (own_Sx x0 x1 x2 x3 x4 x5 vt vs)))]))
    refine own_via (fun t kz => XS.icmpNo X72.here hx rfl (hb hby at_107) rfl (teq (own_chk107 x0 x1 x2 x3 x4 x5 hb_vt hb_vs)).2 kz) ?_
    show own_Go p e below _ (T72.setTop (mkF m 110 #[oI p0, oI p1, oI p2, oI p3, oI p4, oR a1, oI (3 : Int32), oI vt, oI vs, .unset] []))
    refine own_via (fun t kz => XS.iconst X72.here hx rfl (hb hby at_110) kz) ?_
    show own_Go p e below _ (T72.setTop (mkF m 111 #[oI p0, oI p1, oI p2, oI p3, oI p4, oR a1, oI (3 : Int32), oI vt, oI vs, .unset] [(.int (1 : Int32))]))
    refine own_via (fun t kz => XS.goto X72.here hx rfl (pc0 := 111) (pc' := 115) rfl (hb hby at_111) (by decide) (by decide) kz) ?_
    show own_Go p e below _ (T72.setTop (mkF m 115 #[oI p0, oI p1, oI p2, oI p3, oI p4, oR a1, oI (3 : Int32), oI vt, oI vs, .unset] [(.int (1 : Int32))]))
    refine own_via (fun t kz => XS.istore X72.here hx rfl (hb hby at_115) rfl (l' := #[oI p0, oI p1, oI p2, oI p3, oI p4, oR a1, oI (3 : Int32), oI vt, oI vs, oI (1 : Int32)]) rfl kz) ?_
    show own_Go p e below _ (T72.setTop (mkF m 117 #[oI p0, oI p1, oI p2, oI p3, oI p4, oR a1, oI (3 : Int32), oI vt, oI vs, oI (1 : Int32)] []))
    refine own_via (fun t kz => XS.iload X72.here hx rfl (hb hby at_117) rfl kz) ?_
    show own_Go p e below _ (T72.setTop (mkF m 119 #[oI p0, oI p1, oI p2, oI p3, oI p4, oR a1, oI (3 : Int32), oI vt, oI vs, oI (1 : Int32)] [(.int (1 : Int32))]))
    refine own_via (fun t kz => XS.ifNo X72.here hx rfl (hb hby at_119) rfl ((if0 _ _).trans (feq (by decide : ¬ ((1 : Int32) = (0 : Int32)))).1) kz) ?_
    show own_Go p e below _ (T72.setTop (mkF m 122 #[oI p0, oI p1, oI p2, oI p3, oI p4, oR a1, oI (3 : Int32), oI vt, oI vs, oI (1 : Int32)] []))
    refine own_via (fun t kz => XS.aload X72.here hx rfl (hb hby at_122) rfl rfl kz) ?_
    show own_Go p e below _ (T72.setTop (mkF m 124 #[oI p0, oI p1, oI p2, oI p3, oI p4, oR a1, oI (3 : Int32), oI vt, oI vs, oI (1 : Int32)] [(.ref a1)]))
    refine own_via (fun t kz => XS.iconst X72.here hx rfl (hb hby at_124) kz) ?_
    show own_Go p e below _ (T72.setTop (mkF m 125 #[oI p0, oI p1, oI p2, oI p3, oI p4, oR a1, oI (3 : Int32), oI vt, oI vs, oI (1 : Int32)] [(.int (0 : Int32)), (.ref a1)]))
    obtain ⟨cq74, kq74, qa74, qb74, qc74⟩ := isOf hZ e72 (own_exa TD70)
    obtain ⟨_, _, ⟨T74, L74, k74, n74⟩, -, X74, ⟨Lc74, hQ74, l74, y74, z74⟩, st74⟩ := X72.virtualBack hx (y := (⟨"com/example/matchloom/matchloom/league/TouchedCells", "team", "(I)I"⟩ : MethodName)) (z := (⟨"com/example/matchloom/matchloom/league/TouchedCells", "team", "(I)I"⟩ : MethodName)) hown (mvT hZ (own_w hw 40)) (mvT hZ (own_w hw 41)) (notFace_of_selects (args := #[]) (mvT hZ (own_w hw 43))) (mvT hZ (own_w hw 43)) (mvT hZ (own_w hw 42)) (by decide) (backOf (W := 0) (rm6 l Z a0 hw [] a1 (0 : Int32) (own_pwm00 (own_Sx x0 x1 x2 x3 x4 x5 vt vs)) (own_pwm01 (own_Sx x0 x1 x2 x3 x4 x5 vt vs)) (own_pwm10 (own_Sx x0 x1 x2 x3 x4 x5 vt vs)) (own_pwm11 (own_Sx x0 x1 x2 x3 x4 x5 vt vs)) (own_pwt0 (own_Sx x0 x1 x2 x3 x4 x5 vt vs)) (own_pwt1 (own_Sx x0 x1 x2 x3 x4 x5 vt vs)) (own_pws00 (own_Sx x0 x1 x2 x3 x4 x5 vt vs)) (own_pws01 (own_Sx x0 x1 x2 x3 x4 x5 vt vs)) (own_pws10 (own_Sx x0 x1 x2 x3 x4 x5 vt vs)) (own_pws11 (own_Sx x0 x1 x2 x3 x4 x5 vt vs)) (own_pwc0 (own_Sx x0 x1 x2 x3 x4 x5 vt vs)) (own_pwc1 (own_Sx x0 x1 x2 x3 x4 x5 vt vs)) (own_pwn (own_Sx x0 x1 x2 x3 x4 x5 vt vs)) (own_pwt0 (own_Sx x0 x1 x2 x3 x4 x5 vt vs)) T70.heap n0 Zq70 TD70 (by decide) (by unfold f6; rw [if_pos (by decide : (0 : Int32) = (0 : Int32))])) hZ (own_w hw 44) (own_w hw 2) (by decide) (by decide)) qa74 qc74 (g := (mkF m 125 #[oI p0, oI p1, oI p2, oI p3, oI p4, oR a1, oI (3 : Int32), oI vt, oI vs, oI (1 : Int32)] [(.int (0 : Int32)), (.ref a1)])) rfl (by rw [hml]; rfl) (Steps.refl _) (argsL := [(.int (0 : Int32))]) (rest := []) (lenOf pd_0_3 rfl) rfl (by show 2 * 0 + _ ≤ _; exact Nat.le_of_eq rfl) (hb hby at_125) (fun _ _ => ⟨rfl, e72, (by decide : 9 + 0 ≤ _), (by decide : 21 + 0 ≤ _)⟩)
    dsimp only [Pt.U, Pt.locs, Pt.cells, Pt.slots] at X74 l74 y74 z74 st74 hQ74
    subst l74 y74 z74
    obtain ⟨rfl, Nq74, e74⟩ := hQ74
    have N75 := Fr.app N73 Nq74
    refine own_tr st74 ?_
    show own_Go p e below _ (T74.setTop (mkF m 128 #[oI p0, oI p1, oI p2, oI p3, oI p4, oR a1, oI (3 : Int32), oI vt, oI vs, oI (1 : Int32)] [(.int (own_pwt0 (own_Sx x0 x1 x2 x3 x4 x5 vt vs)))]))
    refine own_via (fun t kz => XS.iload X74.here hx rfl (hb hby at_128) rfl kz) ?_
    show own_Go p e below _ (T74.setTop (mkF m 130 #[oI p0, oI p1, oI p2, oI p3, oI p4, oR a1, oI (3 : Int32), oI vt, oI vs, oI (1 : Int32)] [(.int vt), (.int (own_pwt0 (own_Sx x0 x1 x2 x3 x4 x5 vt vs)))]))
    refine own_via (fun t kz => XS.icmpNo X74.here hx rfl (hb hby at_130) rfl (teq (own_chk130 x0 x1 x2 x3 x4 x5 hb_vt hb_vs)).2 kz) ?_
    show own_Go p e below _ (T74.setTop (mkF m 133 #[oI p0, oI p1, oI p2, oI p3, oI p4, oR a1, oI (3 : Int32), oI vt, oI vs, oI (1 : Int32)] []))
    refine own_via (fun t kz => XS.iconst X74.here hx rfl (hb hby at_133) kz) ?_
    show own_Go p e below _ (T74.setTop (mkF m 134 #[oI p0, oI p1, oI p2, oI p3, oI p4, oR a1, oI (3 : Int32), oI vt, oI vs, oI (1 : Int32)] [(.int (1 : Int32))]))
    refine own_via (fun t kz => XS.goto X74.here hx rfl (pc0 := 134) (pc' := 138) rfl (hb hby at_134) (by decide) (by decide) kz) ?_
    show own_Go p e below _ (T74.setTop (mkF m 138 #[oI p0, oI p1, oI p2, oI p3, oI p4, oR a1, oI (3 : Int32), oI vt, oI vs, oI (1 : Int32)] [(.int (1 : Int32))]))
    refine own_via (fun t kz => XS.istore X74.here hx rfl (hb hby at_138) rfl (l' := #[oI p0, oI p1, oI p2, oI p3, oI p4, oR a1, oI (3 : Int32), oI vt, oI vs, oI (1 : Int32)]) rfl kz) ?_
    show own_Go p e below _ (T74.setTop (mkF m 140 #[oI p0, oI p1, oI p2, oI p3, oI p4, oR a1, oI (3 : Int32), oI vt, oI vs, oI (1 : Int32)] []))
    refine own_via (fun t kz => XS.iload X74.here hx rfl (hb hby at_140) rfl kz) ?_
    show own_Go p e below _ (T74.setTop (mkF m 142 #[oI p0, oI p1, oI p2, oI p3, oI p4, oR a1, oI (3 : Int32), oI vt, oI vs, oI (1 : Int32)] [(.int (1 : Int32))]))
    refine own_via (fun t kz => XS.ifNo X74.here hx rfl (hb hby at_142) rfl ((if0 _ _).trans (feq (by decide : ¬ ((1 : Int32) = (0 : Int32)))).1) kz) ?_
    show own_Go p e below _ (T74.setTop (mkF m 145 #[oI p0, oI p1, oI p2, oI p3, oI p4, oR a1, oI (3 : Int32), oI vt, oI vs, oI (1 : Int32)] []))
    refine own_via (fun t kz => XS.aload X74.here hx rfl (hb hby at_145) rfl rfl kz) ?_
    show own_Go p e below _ (T74.setTop (mkF m 147 #[oI p0, oI p1, oI p2, oI p3, oI p4, oR a1, oI (3 : Int32), oI vt, oI vs, oI (1 : Int32)] [(.ref a1)]))
    refine own_via (fun t kz => XS.iload X74.here hx rfl (hb hby at_147) rfl kz) ?_
    show own_Go p e below _ (T74.setTop (mkF m 149 #[oI p0, oI p1, oI p2, oI p3, oI p4, oR a1, oI (3 : Int32), oI vt, oI vs, oI (1 : Int32)] [(.int vt), (.ref a1)]))
    obtain ⟨cq76, kq76, qa76, qb76, qc76⟩ := isOf hZ e74 (own_exa TD70)
    obtain ⟨_, _, ⟨T76, L76, k76, n76⟩, -, X76, ⟨Lc76, hQ76, l76, y76, z76⟩, st76⟩ := X74.virtualBack hx (y := (⟨"com/example/matchloom/matchloom/league/TouchedCells", "slots", "(I)I"⟩ : MethodName)) (z := (⟨"com/example/matchloom/matchloom/league/TouchedCells", "slots", "(I)I"⟩ : MethodName)) hown (mvT hZ (own_w hw 45)) (mvT hZ (own_w hw 46)) (notFace_of_selects (args := #[]) (mvT hZ (own_w hw 48))) (mvT hZ (own_w hw 48)) (mvT hZ (own_w hw 47)) (by decide) (backOf (W := 0) (rm7 l Z a0 hw [] a1 vt (own_pwm00 (own_Sx x0 x1 x2 x3 x4 x5 vt vs)) (own_pwm01 (own_Sx x0 x1 x2 x3 x4 x5 vt vs)) (own_pwm10 (own_Sx x0 x1 x2 x3 x4 x5 vt vs)) (own_pwm11 (own_Sx x0 x1 x2 x3 x4 x5 vt vs)) (own_pwt0 (own_Sx x0 x1 x2 x3 x4 x5 vt vs)) (own_pwt1 (own_Sx x0 x1 x2 x3 x4 x5 vt vs)) (own_pws00 (own_Sx x0 x1 x2 x3 x4 x5 vt vs)) (own_pws01 (own_Sx x0 x1 x2 x3 x4 x5 vt vs)) (own_pws10 (own_Sx x0 x1 x2 x3 x4 x5 vt vs)) (own_pws11 (own_Sx x0 x1 x2 x3 x4 x5 vt vs)) (own_pwc0 (own_Sx x0 x1 x2 x3 x4 x5 vt vs)) (own_pwc1 (own_Sx x0 x1 x2 x3 x4 x5 vt vs)) (own_pwn (own_Sx x0 x1 x2 x3 x4 x5 vt vs)) (f7 vt (own_pwc0 (own_Sx x0 x1 x2 x3 x4 x5 vt vs)) (own_pwc1 (own_Sx x0 x1 x2 x3 x4 x5 vt vs))) T70.heap n0 Zq70 TD70 hb_vt rfl) hZ (own_w hw 49) (own_w hw 2) (by decide) (by decide)) qa76 qc76 (g := (mkF m 149 #[oI p0, oI p1, oI p2, oI p3, oI p4, oR a1, oI (3 : Int32), oI vt, oI vs, oI (1 : Int32)] [(.int vt), (.ref a1)])) rfl (by rw [hml]; rfl) (Steps.refl _) (argsL := [(.int vt)]) (rest := []) (lenOf pd_0_3 rfl) rfl (by show 2 * 0 + _ ≤ _; exact Nat.le_of_eq rfl) (hb hby at_149) (fun _ _ => ⟨rfl, e74, (by decide : 9 + 0 ≤ _), (by decide : 21 + 0 ≤ _)⟩)
    dsimp only [Pt.U, Pt.locs, Pt.cells, Pt.slots] at X76 l76 y76 z76 st76 hQ76
    subst l76 y76 z76
    obtain ⟨rfl, Nq76, e76⟩ := hQ76
    have N77 := Fr.app N75 Nq76
    refine own_tr st76 ?_
    show own_Go p e below _ (T76.setTop (mkF m 152 #[oI p0, oI p1, oI p2, oI p3, oI p4, oR a1, oI (3 : Int32), oI vt, oI vs, oI (1 : Int32)] [(.int (f7 vt (own_pwc0 (own_Sx x0 x1 x2 x3 x4 x5 vt vs)) (own_pwc1 (own_Sx x0 x1 x2 x3 x4 x5 vt vs))))]))
    refine own_via (fun t kz => XS.iconst X76.here hx rfl (hb hby at_152) kz) ?_
    show own_Go p e below _ (T76.setTop (mkF m 153 #[oI p0, oI p1, oI p2, oI p3, oI p4, oR a1, oI (3 : Int32), oI vt, oI vs, oI (1 : Int32)] [(.int (1 : Int32)), (.int (f7 vt (own_pwc0 (own_Sx x0 x1 x2 x3 x4 x5 vt vs)) (own_pwc1 (own_Sx x0 x1 x2 x3 x4 x5 vt vs))))]))
    refine own_via (fun t kz => XS.icmpNo X76.here hx rfl (hb hby at_153) rfl (teq (own_chk153 x0 x1 x2 x3 x4 x5 hb_vt hb_vs)).2 kz) ?_
    show own_Go p e below _ (T76.setTop (mkF m 156 #[oI p0, oI p1, oI p2, oI p3, oI p4, oR a1, oI (3 : Int32), oI vt, oI vs, oI (1 : Int32)] []))
    refine own_via (fun t kz => XS.iconst X76.here hx rfl (hb hby at_156) kz) ?_
    show own_Go p e below _ (T76.setTop (mkF m 157 #[oI p0, oI p1, oI p2, oI p3, oI p4, oR a1, oI (3 : Int32), oI vt, oI vs, oI (1 : Int32)] [(.int (1 : Int32))]))
    refine own_via (fun t kz => XS.goto X76.here hx rfl (pc0 := 157) (pc' := 161) rfl (hb hby at_157) (by decide) (by decide) kz) ?_
    show own_Go p e below _ (T76.setTop (mkF m 161 #[oI p0, oI p1, oI p2, oI p3, oI p4, oR a1, oI (3 : Int32), oI vt, oI vs, oI (1 : Int32)] [(.int (1 : Int32))]))
    refine own_via (fun t kz => XS.istore X76.here hx rfl (hb hby at_161) rfl (l' := #[oI p0, oI p1, oI p2, oI p3, oI p4, oR a1, oI (3 : Int32), oI vt, oI vs, oI (1 : Int32)]) rfl kz) ?_
    show own_Go p e below _ (T76.setTop (mkF m 163 #[oI p0, oI p1, oI p2, oI p3, oI p4, oR a1, oI (3 : Int32), oI vt, oI vs, oI (1 : Int32)] []))
    refine own_via (fun t kz => XS.iload X76.here hx rfl (hb hby at_163) rfl kz) ?_
    show own_Go p e below _ (T76.setTop (mkF m 165 #[oI p0, oI p1, oI p2, oI p3, oI p4, oR a1, oI (3 : Int32), oI vt, oI vs, oI (1 : Int32)] [(.int (1 : Int32))]))
    refine own_via (fun t kz => XS.ifNo X76.here hx rfl (hb hby at_165) rfl ((if0 _ _).trans (feq (by decide : ¬ ((1 : Int32) = (0 : Int32)))).1) kz) ?_
    show own_Go p e below _ (T76.setTop (mkF m 168 #[oI p0, oI p1, oI p2, oI p3, oI p4, oR a1, oI (3 : Int32), oI vt, oI vs, oI (1 : Int32)] []))
    refine own_via (fun t kz => XS.aload X76.here hx rfl (hb hby at_168) rfl rfl kz) ?_
    show own_Go p e below _ (T76.setTop (mkF m 170 #[oI p0, oI p1, oI p2, oI p3, oI p4, oR a1, oI (3 : Int32), oI vt, oI vs, oI (1 : Int32)] [(.ref a1)]))
    refine own_via (fun t kz => XS.iload X76.here hx rfl (hb hby at_170) rfl kz) ?_
    show own_Go p e below _ (T76.setTop (mkF m 172 #[oI p0, oI p1, oI p2, oI p3, oI p4, oR a1, oI (3 : Int32), oI vt, oI vs, oI (1 : Int32)] [(.int vt), (.ref a1)]))
    refine own_via (fun t kz => XS.iconst X76.here hx rfl (hb hby at_172) kz) ?_
    show own_Go p e below _ (T76.setTop (mkF m 173 #[oI p0, oI p1, oI p2, oI p3, oI p4, oR a1, oI (3 : Int32), oI vt, oI vs, oI (1 : Int32)] [(.int (0 : Int32)), (.int vt), (.ref a1)]))
    obtain ⟨cq78, kq78, qa78, qb78, qc78⟩ := isOf hZ e76 (own_exa TD70)
    obtain ⟨_, _, ⟨T78, L78, k78, n78⟩, -, X78, ⟨Lc78, hQ78, l78, y78, z78⟩, st78⟩ := X76.virtualBack hx (y := (⟨"com/example/matchloom/matchloom/league/TouchedCells", "slot", "(II)I"⟩ : MethodName)) (z := (⟨"com/example/matchloom/matchloom/league/TouchedCells", "slot", "(II)I"⟩ : MethodName)) hown (mvT hZ (own_w hw 50)) (mvT hZ (own_w hw 51)) (notFace_of_selects (args := #[]) (mvT hZ (own_w hw 53))) (mvT hZ (own_w hw 53)) (mvT hZ (own_w hw 52)) (by decide) (backOf (W := 0) (rm8 l Z a0 hw [] a1 vt (0 : Int32) (own_pwm00 (own_Sx x0 x1 x2 x3 x4 x5 vt vs)) (own_pwm01 (own_Sx x0 x1 x2 x3 x4 x5 vt vs)) (own_pwm10 (own_Sx x0 x1 x2 x3 x4 x5 vt vs)) (own_pwm11 (own_Sx x0 x1 x2 x3 x4 x5 vt vs)) (own_pwt0 (own_Sx x0 x1 x2 x3 x4 x5 vt vs)) (own_pwt1 (own_Sx x0 x1 x2 x3 x4 x5 vt vs)) (own_pws00 (own_Sx x0 x1 x2 x3 x4 x5 vt vs)) (own_pws01 (own_Sx x0 x1 x2 x3 x4 x5 vt vs)) (own_pws10 (own_Sx x0 x1 x2 x3 x4 x5 vt vs)) (own_pws11 (own_Sx x0 x1 x2 x3 x4 x5 vt vs)) (own_pwc0 (own_Sx x0 x1 x2 x3 x4 x5 vt vs)) (own_pwc1 (own_Sx x0 x1 x2 x3 x4 x5 vt vs)) (own_pwn (own_Sx x0 x1 x2 x3 x4 x5 vt vs)) (f8 vt (0 : Int32) (own_pws00 (own_Sx x0 x1 x2 x3 x4 x5 vt vs)) (own_pws01 (own_Sx x0 x1 x2 x3 x4 x5 vt vs)) (own_pws10 (own_Sx x0 x1 x2 x3 x4 x5 vt vs)) (own_pws11 (own_Sx x0 x1 x2 x3 x4 x5 vt vs))) T70.heap n0 Zq70 TD70 hb_vt (by decide) rfl) hZ (own_w hw 54) (own_w hw 2) (by decide) (by decide)) qa78 qc78 (g := (mkF m 173 #[oI p0, oI p1, oI p2, oI p3, oI p4, oR a1, oI (3 : Int32), oI vt, oI vs, oI (1 : Int32)] [(.int (0 : Int32)), (.int vt), (.ref a1)])) rfl (by rw [hml]; rfl) (Steps.refl _) (argsL := [(.int vt), (.int (0 : Int32))]) (rest := []) (lenOf pd_0_4 rfl) rfl (by show 2 * 0 + _ ≤ _; exact Nat.le_of_eq rfl) (hb hby at_173) (fun _ _ => ⟨rfl, e76, (by decide : 9 + 0 ≤ _), (by decide : 21 + 0 ≤ _)⟩)
    dsimp only [Pt.U, Pt.locs, Pt.cells, Pt.slots] at X78 l78 y78 z78 st78 hQ78
    subst l78 y78 z78
    obtain ⟨rfl, Nq78, e78⟩ := hQ78
    have N79 := Fr.app N77 Nq78
    refine own_tr st78 ?_
    show own_Go p e below _ (T78.setTop (mkF m 176 #[oI p0, oI p1, oI p2, oI p3, oI p4, oR a1, oI (3 : Int32), oI vt, oI vs, oI (1 : Int32)] [(.int (f8 vt (0 : Int32) (own_pws00 (own_Sx x0 x1 x2 x3 x4 x5 vt vs)) (own_pws01 (own_Sx x0 x1 x2 x3 x4 x5 vt vs)) (own_pws10 (own_Sx x0 x1 x2 x3 x4 x5 vt vs)) (own_pws11 (own_Sx x0 x1 x2 x3 x4 x5 vt vs))))]))
    refine own_via (fun t kz => XS.iload X78.here hx rfl (hb hby at_176) rfl kz) ?_
    show own_Go p e below _ (T78.setTop (mkF m 178 #[oI p0, oI p1, oI p2, oI p3, oI p4, oR a1, oI (3 : Int32), oI vt, oI vs, oI (1 : Int32)] [(.int vs), (.int (f8 vt (0 : Int32) (own_pws00 (own_Sx x0 x1 x2 x3 x4 x5 vt vs)) (own_pws01 (own_Sx x0 x1 x2 x3 x4 x5 vt vs)) (own_pws10 (own_Sx x0 x1 x2 x3 x4 x5 vt vs)) (own_pws11 (own_Sx x0 x1 x2 x3 x4 x5 vt vs))))]))
    refine own_via (fun t kz => XS.icmpNo X78.here hx rfl (hb hby at_178) rfl (teq (own_chk178 x0 x1 x2 x3 x4 x5 hb_vt hb_vs)).2 kz) ?_
    show own_Go p e below _ (T78.setTop (mkF m 181 #[oI p0, oI p1, oI p2, oI p3, oI p4, oR a1, oI (3 : Int32), oI vt, oI vs, oI (1 : Int32)] []))
    refine own_via (fun t kz => XS.iconst X78.here hx rfl (hb hby at_181) kz) ?_
    show own_Go p e below _ (T78.setTop (mkF m 182 #[oI p0, oI p1, oI p2, oI p3, oI p4, oR a1, oI (3 : Int32), oI vt, oI vs, oI (1 : Int32)] [(.int (1 : Int32))]))
    refine own_via (fun t kz => XS.goto X78.here hx rfl (pc0 := 182) (pc' := 186) rfl (hb hby at_182) (by decide) (by decide) kz) ?_
    show own_Go p e below _ (T78.setTop (mkF m 186 #[oI p0, oI p1, oI p2, oI p3, oI p4, oR a1, oI (3 : Int32), oI vt, oI vs, oI (1 : Int32)] [(.int (1 : Int32))]))
    refine own_via (fun t kz => XS.istore X78.here hx rfl (hb hby at_186) rfl (l' := #[oI p0, oI p1, oI p2, oI p3, oI p4, oR a1, oI (3 : Int32), oI vt, oI vs, oI (1 : Int32)]) rfl kz) ?_
    show own_Go p e below _ (T78.setTop (mkF m 188 #[oI p0, oI p1, oI p2, oI p3, oI p4, oR a1, oI (3 : Int32), oI vt, oI vs, oI (1 : Int32)] []))
    refine own_via (fun t kz => XS.iload X78.here hx rfl (hb hby at_188) rfl kz) ?_
    show own_Go p e below _ (T78.setTop (mkF m 190 #[oI p0, oI p1, oI p2, oI p3, oI p4, oR a1, oI (3 : Int32), oI vt, oI vs, oI (1 : Int32)] [(.int (1 : Int32))]))
    refine own_via (fun t kz => XS.ifNo X78.here hx rfl (hb hby at_190) rfl ((if0 _ _).trans (feq (by decide : ¬ ((1 : Int32) = (0 : Int32)))).1) kz) ?_
    show own_Go p e below _ (T78.setTop (mkF m 193 #[oI p0, oI p1, oI p2, oI p3, oI p4, oR a1, oI (3 : Int32), oI vt, oI vs, oI (1 : Int32)] []))
    refine own_via (fun t kz => XS.aload X78.here hx rfl (hb hby at_193) rfl rfl kz) ?_
    show own_Go p e below _ (T78.setTop (mkF m 195 #[oI p0, oI p1, oI p2, oI p3, oI p4, oR a1, oI (3 : Int32), oI vt, oI vs, oI (1 : Int32)] [(.ref a1)]))
    refine own_via (fun t kz => XS.iconst X78.here hx rfl (hb hby at_195) kz) ?_
    show own_Go p e below _ (T78.setTop (mkF m 196 #[oI p0, oI p1, oI p2, oI p3, oI p4, oR a1, oI (3 : Int32), oI vt, oI vs, oI (1 : Int32)] [(.int (1 : Int32)), (.ref a1)]))
    refine own_via (fun t kz => XS.iload X78.here hx rfl (hb hby at_196) rfl kz) ?_
    show own_Go p e below _ (T78.setTop (mkF m 198 #[oI p0, oI p1, oI p2, oI p3, oI p4, oR a1, oI (3 : Int32), oI vt, oI vs, oI (1 : Int32)] [(.int vt), (.int (1 : Int32)), (.ref a1)]))
    refine own_via (fun t kz => XS.isub X78.here hx rfl (hb hby at_198) rfl kz) ?_
    show own_Go p e below _ (T78.setTop (mkF m 199 #[oI p0, oI p1, oI p2, oI p3, oI p4, oR a1, oI (3 : Int32), oI vt, oI vs, oI (1 : Int32)] [(.int ((1 : Int32) - vt)), (.ref a1)]))
    obtain ⟨cq80, kq80, qa80, qb80, qc80⟩ := isOf hZ e78 (own_exa TD70)
    obtain ⟨_, _, ⟨T80, L80, k80, n80⟩, -, X80, ⟨Lc80, hQ80, l80, y80, z80⟩, st80⟩ := X78.virtualBack hx (y := (⟨"com/example/matchloom/matchloom/league/TouchedCells", "slots", "(I)I"⟩ : MethodName)) (z := (⟨"com/example/matchloom/matchloom/league/TouchedCells", "slots", "(I)I"⟩ : MethodName)) hown (mvT hZ (own_w hw 45)) (mvT hZ (own_w hw 46)) (notFace_of_selects (args := #[]) (mvT hZ (own_w hw 48))) (mvT hZ (own_w hw 48)) (mvT hZ (own_w hw 47)) (by decide) (backOf (W := 0) (rm7 l Z a0 hw [] a1 ((1 : Int32) - vt) (own_pwm00 (own_Sx x0 x1 x2 x3 x4 x5 vt vs)) (own_pwm01 (own_Sx x0 x1 x2 x3 x4 x5 vt vs)) (own_pwm10 (own_Sx x0 x1 x2 x3 x4 x5 vt vs)) (own_pwm11 (own_Sx x0 x1 x2 x3 x4 x5 vt vs)) (own_pwt0 (own_Sx x0 x1 x2 x3 x4 x5 vt vs)) (own_pwt1 (own_Sx x0 x1 x2 x3 x4 x5 vt vs)) (own_pws00 (own_Sx x0 x1 x2 x3 x4 x5 vt vs)) (own_pws01 (own_Sx x0 x1 x2 x3 x4 x5 vt vs)) (own_pws10 (own_Sx x0 x1 x2 x3 x4 x5 vt vs)) (own_pws11 (own_Sx x0 x1 x2 x3 x4 x5 vt vs)) (own_pwc0 (own_Sx x0 x1 x2 x3 x4 x5 vt vs)) (own_pwc1 (own_Sx x0 x1 x2 x3 x4 x5 vt vs)) (own_pwn (own_Sx x0 x1 x2 x3 x4 x5 vt vs)) (f7 ((1 : Int32) - vt) (own_pwc0 (own_Sx x0 x1 x2 x3 x4 x5 vt vs)) (own_pwc1 (own_Sx x0 x1 x2 x3 x4 x5 vt vs))) T70.heap n0 Zq70 TD70 (own_sub hb_vt) rfl) hZ (own_w hw 49) (own_w hw 2) (by decide) (by decide)) qa80 qc80 (g := (mkF m 199 #[oI p0, oI p1, oI p2, oI p3, oI p4, oR a1, oI (3 : Int32), oI vt, oI vs, oI (1 : Int32)] [(.int ((1 : Int32) - vt)), (.ref a1)])) rfl (by rw [hml]; rfl) (Steps.refl _) (argsL := [(.int ((1 : Int32) - vt))]) (rest := []) (lenOf pd_0_3 rfl) rfl (by show 2 * 0 + _ ≤ _; exact Nat.le_of_eq rfl) (hb hby at_199) (fun _ _ => ⟨rfl, e78, (by decide : 9 + 0 ≤ _), (by decide : 21 + 0 ≤ _)⟩)
    dsimp only [Pt.U, Pt.locs, Pt.cells, Pt.slots] at X80 l80 y80 z80 st80 hQ80
    subst l80 y80 z80
    obtain ⟨rfl, Nq80, e80⟩ := hQ80
    have N81 := Fr.app N79 Nq80
    refine own_tr st80 ?_
    show own_Go p e below _ (T80.setTop (mkF m 202 #[oI p0, oI p1, oI p2, oI p3, oI p4, oR a1, oI (3 : Int32), oI vt, oI vs, oI (1 : Int32)] [(.int (f7 ((1 : Int32) - vt) (own_pwc0 (own_Sx x0 x1 x2 x3 x4 x5 vt vs)) (own_pwc1 (own_Sx x0 x1 x2 x3 x4 x5 vt vs))))]))
    refine own_via (fun t kz => XS.ifNo X80.here hx rfl (hb hby at_202) rfl ((if0 _ _).trans (teq (own_chk202 x0 x1 x2 x3 x4 x5 hb_vt hb_vs)).2) kz) ?_
    show own_Go p e below _ (T80.setTop (mkF m 205 #[oI p0, oI p1, oI p2, oI p3, oI p4, oR a1, oI (3 : Int32), oI vt, oI vs, oI (1 : Int32)] []))
    refine own_via (fun t kz => XS.iconst X80.here hx rfl (hb hby at_205) kz) ?_
    show own_Go p e below _ (T80.setTop (mkF m 206 #[oI p0, oI p1, oI p2, oI p3, oI p4, oR a1, oI (3 : Int32), oI vt, oI vs, oI (1 : Int32)] [(.int (1 : Int32))]))
    refine own_via (fun t kz => XS.goto X80.here hx rfl (pc0 := 206) (pc' := 210) rfl (hb hby at_206) (by decide) (by decide) kz) ?_
    show own_Go p e below _ (T80.setTop (mkF m 210 #[oI p0, oI p1, oI p2, oI p3, oI p4, oR a1, oI (3 : Int32), oI vt, oI vs, oI (1 : Int32)] [(.int (1 : Int32))]))
    refine own_via (fun t kz => XS.istore X80.here hx rfl (hb hby at_210) rfl (l' := #[oI p0, oI p1, oI p2, oI p3, oI p4, oR a1, oI (3 : Int32), oI vt, oI vs, oI (1 : Int32)]) rfl kz) ?_
    show own_Go p e below _ (T80.setTop (mkF m 212 #[oI p0, oI p1, oI p2, oI p3, oI p4, oR a1, oI (3 : Int32), oI vt, oI vs, oI (1 : Int32)] []))
    refine own_via (fun t kz => XS.iload X80.here hx rfl (hb hby at_212) rfl kz) ?_
    show own_Go p e below _ (T80.setTop (mkF m 214 #[oI p0, oI p1, oI p2, oI p3, oI p4, oR a1, oI (3 : Int32), oI vt, oI vs, oI (1 : Int32)] [(.int (1 : Int32))]))
    obtain ⟨fs, hr, hrun, hended, hW, hsame⟩ := X80.leave (v := some (.int (1 : Int32))) (fun h => by rw [Bd.returns] at h; cases h)
    refine ⟨_, _, retN X80 hx (t := .boolean) Bd.returns (by simp) (hb hby at_214) hr, hrun, hended, _, _, rfl, ?_, ⟨_, rfl⟩, hW, hsame.mono (by decide) (by decide)⟩
    show Q0 Z p0 p1 p2 p3 p4 h0 n0 _ T80.heap _
    rw [e80]
    exact ⟨rfl, N81⟩
set_option maxRecDepth 65536 in
set_option maxHeartbeats 40000000 in
theorem comes_1 {Post : Tables → Env → Array Value → State → Outcome → State → Prop} (hpost : ∀ tb e args s v u, (limb_1_1.after args s (.returned v) u = true ∧ limb_1_2.after args s (.returned v) u = true ∧ True) → FrameEnd s (.returned v) u (Jvm.fieldLocs frame_1_writes args s ++ Jvm.arrayLocs frame_1_arrays args s ++ Jvm.staticLocs frame_1_statics s) 32 128 → Post tb e args s (.returned v) u) :
    ArmFor flags0 classFile x code maxLocals ret World_1 tables_1 room_1 Calls_1 rest_1 Pre_1 Post := by
  intro l hfl _ _ p e ha hc hk s m args below hf hA hF happ hP
  obtain ⟨hcalls, hrest, hpre⟩ := hP
  obtain ⟨-, -, -, hnamed, -, -, -, hat⟩ := (Spec.applies_iff hf).mp happ
  obtain ⟨hg, hn⟩ := and_e (Cond.before_iff.mp (show (Jvm.Cond.and given_1 narrow_1).before args s = true from hpre))
  obtain ⟨g1, g2⟩ := and_e hg
  obtain ⟨g3, g4⟩ := and_e g2
  obtain ⟨g5, g6⟩ := and_e g4
  obtain ⟨g7, g8⟩ := and_e g6
  obtain ⟨g9, g10⟩ := and_e g8
  obtain ⟨w0, w1, w2, w3, w4, rfl⟩ : ∃ w0 w1 w2 w3 w4 : Value, args = #[w0, w1, w2, w3, w4] := by
    have hs : args.size = 5 := by simpa [Cond.value, given_1] using g1
    obtain ⟨L⟩ := args
    match L, hs with
    | [w0, w1, w2, w3, w4], _ => exact ⟨w0, w1, w2, w3, w4, rfl⟩
  have hw := fun d (hd : d ∈ tables_1) => atoms_spec (ws := Jvm.Cond.code x code maxLocals ret :: tables_1) hat d (List.mem_cons_of_mem _ hd)
  obtain ⟨i0, ei0⟩ := is_v g3
  obtain rfl : w0 = (.int i0) := Option.some.inj ei0
  obtain ⟨i1, ei1⟩ := is_v g5
  obtain rfl : w1 = (.int i1) := Option.some.inj ei1
  obtain ⟨i2, ei2⟩ := is_v g7
  obtain rfl : w2 = (.int i2) := Option.some.inj ei2
  obtain ⟨i3, ei3⟩ := is_v g9
  obtain rfl : w3 = (.int i3) := Option.some.inj ei3
  obtain ⟨i4, ei4⟩ := is_v g10
  obtain rfl : w4 = (.int i4) := Option.some.inj ei4
  obtain ⟨n, o, h1, h2, h3, _, L, rfl, ⟨rfl, N⟩, hq⟩ := rm0 l s _ hw tables_1 i0 i1 i2 i3 i4 s.heap s.heap.size (Nat.le_refl _)  p e ha hc hk s m _ below hf ((Spec.applies_iff_loose hf).mp happ).1 ⟨rfl, State.Warmed39.refl s, rfl⟩ trivial
  refine ⟨n, _, h1, h2, h3, hpost _ _ _ _ _ _ ⟨Cond.after_iff.mpr rfl, Cond.after_iff.mpr (eq_i res_at (Term.int_eval (1)) rfl), trivial⟩ ⟨hq.1, hq.2.1, (hq.2.2.sift fun y hy => Or.inr (N y hy)).mono (by decide) (by decide)⟩⟩
theorem main_1_1 : Claimed_1_1 := comes_1 fun _ _ _ _ _ _ h hF => ⟨h.1, hF⟩
theorem main_1_2 : Claimed_1_2 := comes_1 fun _ _ _ _ _ _ h hF => ⟨h.2.1, hF⟩
end Jvm.Pilot.@@N@@
namespace Jvm.Pilot.@@N@@
open Jvm Jvm.ClassFile Sem Op Lib Jvm.Free Jvm.Stand Jvm.Pilot.@@N@@.Jvm.D
/-! MADE BY PROGRAM (witnessworld.py) out of the Statement's table words and the real class files: 13 classes; the members and pool entries that the words name. The judged class is class 1, her method 1. -/
namespace start1
open Jvm.ClassFile
def u (s : String) : CpInfo := .utf8 (stringToUtf16 s)
/-- a pool by its gaps: so many unusable entries, then the entry; so many at the end -/
def gap : Nat → List CpInfo → List CpInfo
  | 0, r => r
  | n + 1, r => .unusable :: gap n r
def poolList (es : List (Nat × CpInfo)) (last : Nat) : List CpInfo := es.foldr (fun e r => gap e.1 (e.2 :: r)) (gap last [])
def pool (es : List (Nat × CpInfo)) (last : Nat) : Array CpInfo := ⟨poolList es last⟩
def fileOf (pool : Array CpInfo) (this : Nat) (attrs : Array Attribute := #[]) (ms : Array MethodInfo := #[]) (fl : Nat := 33) (sup : Nat := 0) (ifs : Array Nat := #[]) (fds : Array FieldInfo := #[]) : ClassFile where
  minorVersion := 0
  majorVersion := 65
  constantPool := pool
  accessFlags := fl
  thisClass := this
  superClass := sup
  interfaces := ifs
  fields := fds
  methods := ms
  attributes := attrs
def plain (name : String) (sup : Option ClassId) : Class where
  name := name
  kind := .ordinary
  loader := none
  accessFlags := 33
  super := sup
  interfaces := #[]
  cf := none
  fields := #[]
  methods := #[]
  instanceTypes := #[]
  staticTypes := #[]
  resolved := #[]
  callSites := []
  init := .initialized
  statics := none
  mirror := none

def pool0 : Array CpInfo := pool [(5, u "<init>"), (0, u "()V"), (1, .class_ 10), (1, u "java/lang/Object")] 113

def k0c0 : Code := { maxStack := 0, maxLocals := 1, code := object_method_1_code, exceptionTable := #[], attributes := #[] }
def k0m0 : Method := { name := "<init>", desc := "()V", sig := { parameters := [], returnType := none }, accessFlags := 1, code := some k0c0 }
/-- java/lang/Object -/
def k0 : Class := { plain "java/lang/Object" none with
  accessFlags := 33
  interfaces := #[]
  cf := some (fileOf pool0 8 #[] #[{ accessFlags := 1, nameIndex := 5, descriptorIndex := 6, attributes := #[] }] 33 0 #[] #[])
  fields := #[]
  methods := #[k0m0]
  instanceTypes := #[]
  staticTypes := #[]
  resolved := Array.replicate 124 none
  statics := none }

def pool1 : Array CpInfo := pool [(2, .class_ 4), (1, u "java/lang/Object"), (0, u "<init>"), (0, u "()V"), (0, .class_ 8), (0, u "com/example/matchloom/matchloom/league/TouchedCells"), (0, .methodref 7 10), (0, .nameAndType 5 11), (0, u "(II)V"), (0, .methodref 7 13), (0, .nameAndType 14 11), (0, u "mark"), (0, .methodref 7 16), (0, .nameAndType 17 6), (0, u "clear"), (0, .methodref 7 19), (0, .nameAndType 20 21), (0, u "teams"), (0, u "()I"), (0, .methodref 7 23), (0, .nameAndType 24 25), (0, u "team"), (0, u "(I)I"), (0, .methodref 7 27), (0, .nameAndType 28 25), (0, u "slots"), (0, .methodref 7 30), (0, .nameAndType 31 32), (0, u "slot"), (0, u "(II)I"), (0, .class_ 34), (0, u "com/example/matchloom/matchloom/league/TouchedCellsClearPinLaw"), (2, u "law"), (0, u "(IIIII)Z")] 3

def k1m0 : Method := { name := "<init>", desc := "()V", sig := { parameters := [], returnType := none }, accessFlags := 1, code := none }
def k1c1 : Code := { maxStack := 4, maxLocals := 10, code := code, exceptionTable := #[], attributes := #[] }
def k1m1 : Method := { name := "law", desc := "(IIIII)Z", sig := { parameters := [.int, .int, .int, .int, .int], returnType := some .boolean }, accessFlags := 9, code := some k1c1 }
/-- com/example/matchloom/matchloom/league/TouchedCellsClearPinLaw -/
def k1 : Class := { plain "com/example/matchloom/matchloom/league/TouchedCellsClearPinLaw" (some 0) with
  accessFlags := 49
  interfaces := #[]
  cf := some (fileOf pool1 33 #[] #[{ accessFlags := 1, nameIndex := 5, descriptorIndex := 6, attributes := #[] }, { accessFlags := 9, nameIndex := 37, descriptorIndex := 38, attributes := #[] }] 49 2 #[] #[])
  fields := #[]
  methods := #[k1m0, k1m1]
  instanceTypes := #[]
  staticTypes := #[]
  resolved := Array.replicate 42 none
  statics := none }

def pool2 : Array CpInfo := pool [(1, .methodref 2 3), (0, .class_ 4), (0, .nameAndType 5 6), (0, u "java/lang/Object"), (0, u "<init>"), (0, u "()V"), (0, .class_ 8), (0, u "[[Z"), (0, .fieldref 10 11), (0, .class_ 12), (0, .nameAndType 13 8), (0, u "com/example/matchloom/matchloom/league/TouchedCells"), (0, u "marked"), (0, .fieldref 10 15), (0, .nameAndType 16 17), (0, u "teams"), (0, u "[I"), (0, .class_ 19), (0, u "[[I"), (0, .fieldref 10 21), (0, .nameAndType 22 19), (0, u "slots"), (0, .fieldref 10 24), (0, .nameAndType 25 17), (0, u "slotCount"), (0, .fieldref 10 27), (0, .nameAndType 28 29), (0, u "teamCount"), (0, u "I"), (0, u "(II)V"), (2, u "mark"), (1, u "clear"), (0, u "()I"), (0, u "team"), (0, u "(I)I"), (0, u "slot"), (0, u "(II)I")] 2

def k2c0 : Code := { maxStack := 3, maxLocals := 3, code := prog_45_method_1_code, exceptionTable := #[], attributes := #[] }
def k2m0 : Method := { name := "<init>", desc := "(II)V", sig := { parameters := [.int, .int], returnType := none }, accessFlags := 0, code := some k2c0 }
def k2c1 : Code := { maxStack := 6, maxLocals := 3, code := prog_45_method_2_code, exceptionTable := #[], attributes := #[] }
def k2m1 : Method := { name := "mark", desc := "(II)V", sig := { parameters := [.int, .int], returnType := none }, accessFlags := 0, code := some k2c1 }
def k2c2 : Code := { maxStack := 3, maxLocals := 4, code := prog_45_method_3_code, exceptionTable := #[], attributes := #[] }
def k2m2 : Method := { name := "clear", desc := "()V", sig := { parameters := [], returnType := none }, accessFlags := 0, code := some k2c2 }
def k2c3 : Code := { maxStack := 1, maxLocals := 1, code := prog_45_method_4_code, exceptionTable := #[], attributes := #[] }
def k2m3 : Method := { name := "teams", desc := "()I", sig := { parameters := [], returnType := some .int }, accessFlags := 0, code := some k2c3 }
def k2c4 : Code := { maxStack := 2, maxLocals := 2, code := prog_45_method_5_code, exceptionTable := #[], attributes := #[] }
def k2m4 : Method := { name := "team", desc := "(I)I", sig := { parameters := [.int], returnType := some .int }, accessFlags := 0, code := some k2c4 }
def k2c5 : Code := { maxStack := 2, maxLocals := 2, code := prog_45_method_6_code, exceptionTable := #[], attributes := #[] }
def k2m5 : Method := { name := "slots", desc := "(I)I", sig := { parameters := [.int], returnType := some .int }, accessFlags := 0, code := some k2c5 }
def k2c6 : Code := { maxStack := 2, maxLocals := 3, code := prog_45_method_7_code, exceptionTable := #[], attributes := #[] }
def k2m6 : Method := { name := "slot", desc := "(II)I", sig := { parameters := [.int, .int], returnType := some .int }, accessFlags := 0, code := some k2c6 }
/-- com/example/matchloom/matchloom/league/TouchedCells -/
def k2 : Class := { plain "com/example/matchloom/matchloom/league/TouchedCells" (some 0) with
  accessFlags := 48
  interfaces := #[]
  cf := some (fileOf pool2 10 #[] #[{ accessFlags := 0, nameIndex := 5, descriptorIndex := 30, attributes := #[] }, { accessFlags := 0, nameIndex := 33, descriptorIndex := 30, attributes := #[] }, { accessFlags := 0, nameIndex := 35, descriptorIndex := 6, attributes := #[] }, { accessFlags := 0, nameIndex := 16, descriptorIndex := 36, attributes := #[] }, { accessFlags := 0, nameIndex := 37, descriptorIndex := 38, attributes := #[] }, { accessFlags := 0, nameIndex := 22, descriptorIndex := 38, attributes := #[] }, { accessFlags := 0, nameIndex := 39, descriptorIndex := 40, attributes := #[] }] 48 2 #[] #[{ accessFlags := 18, nameIndex := 13, descriptorIndex := 8, attributes := #[] }, { accessFlags := 18, nameIndex := 16, descriptorIndex := 17, attributes := #[] }, { accessFlags := 2, nameIndex := 28, descriptorIndex := 29, attributes := #[] }, { accessFlags := 18, nameIndex := 22, descriptorIndex := 19, attributes := #[] }, { accessFlags := 18, nameIndex := 25, descriptorIndex := 17, attributes := #[] }])
  fields := #[{ name := "marked", type := (.array (.array .boolean)), accessFlags := 18, slot := 0, constantValue := 0 }, { name := "teams", type := (.array .int), accessFlags := 18, slot := 1, constantValue := 0 }, { name := "teamCount", type := .int, accessFlags := 2, slot := 2, constantValue := 0 }, { name := "slots", type := (.array (.array .int)), accessFlags := 18, slot := 3, constantValue := 0 }, { name := "slotCount", type := (.array .int), accessFlags := 18, slot := 4, constantValue := 0 }]
  methods := #[k2m0, k2m1, k2m2, k2m3, k2m4, k2m5, k2m6]
  instanceTypes := #[(.array (.array .boolean)), (.array .int), .int, (.array (.array .int)), (.array .int)]
  staticTypes := #[]
  resolved := Array.replicate 43 none
  statics := none }

def pool3 : Array CpInfo := pool [(1, u "java/lang/Cloneable"), (0, .class_ 1), (0, u "java/lang/Object"), (0, .class_ 3)] 3

/-- java/lang/Cloneable -/
def k3 : Class := { plain "java/lang/Cloneable" (some 0) with
  accessFlags := 1537
  interfaces := #[]
  cf := some (fileOf pool3 2 #[] #[] 1537 4 #[] #[])
  fields := #[]
  methods := #[]
  instanceTypes := #[]
  staticTypes := #[]
  resolved := Array.replicate 8 none
  statics := none }

def pool4 : Array CpInfo := pool [(1, u "java/io/Serializable"), (0, .class_ 1), (0, u "java/lang/Object"), (0, .class_ 3)] 3

/-- java/io/Serializable -/
def k4 : Class := { plain "java/io/Serializable" (some 0) with
  accessFlags := 1537
  interfaces := #[]
  cf := some (fileOf pool4 2 #[] #[] 1537 4 #[] #[])
  fields := #[]
  methods := #[]
  instanceTypes := #[]
  staticTypes := #[]
  resolved := Array.replicate 8 none
  statics := none }

/-- the primitive boolean -/
def k5 : Class := { plain "boolean" none with kind := .primitive 'Z', accessFlags := 0x411 }
/-- [Z -/
def k6 : Class := { plain "[Z" (some 0) with kind := .array 5 .boolean, interfaces := #[3, 4], accessFlags := 1041 }

/-- the primitive byte -/
def k7 : Class := { plain "byte" none with kind := .primitive 'B', accessFlags := 0x411 }
/-- [B -/
def k8 : Class := { plain "[B" (some 0) with kind := .array 7 .byte, interfaces := #[3, 4], accessFlags := 1041 }

/-- the primitive int -/
def k9 : Class := { plain "int" none with kind := .primitive 'I', accessFlags := 0x411 }
/-- [I -/
def k10 : Class := { plain "[I" (some 0) with kind := .array 9 .int, interfaces := #[3, 4], accessFlags := 1041 }

/-- [[Z -/
def k11 : Class := { plain "[[Z" (some 0) with kind := .array 6 (.array .boolean), interfaces := #[3, 4], accessFlags := 1041 }

/-- [[I -/
def k12 : Class := { plain "[[I" (some 0) with kind := .array 10 (.array .int), interfaces := #[3, 4], accessFlags := 1041 }

def heap : Heap := #[]
def classes : Array Class := #[k0, k1, k2, k3, k4, k5, k6, k7, k8, k9, k10, k11, k12]
def interned : List (Array UInt16 × Addr) := []
def slotsUsed : Nat := 0
def theMethod : MethodId := ⟨1, 1⟩
def args0 : Array Value := #[.int 5, .int 3, .int 2, .int 2, .int 1]
def aboutOver (below : List Frame) : State where
  vm := { classes := classes, interned := interned.toArray }
  heap := heap
  slotsUsed := slotsUsed
  threads := #[{ frames := .invoking theMethod args0 :: below }]
def below0 : List Frame := [.native { method := ⟨0, 0⟩, args := #[] }]
def about1 : State := aboutOver below0
def p0 : Program := .bare "" "" ""
def e0 : Env := launch0.env 0 0 0
theorem w_frames : about1.frames = Frame.invoking theMethod args0 :: below0 := rfl
set_option maxRecDepth 65536 in
theorem w_args : argsFit about1.vm theMethod args0 = true := by decide +kernel
set_option maxRecDepth 65536 in
theorem w_heap : heapFits about1 = true := by decide +kernel
set_option maxRecDepth 65536 in
theorem w_runnable : about1.curStatus? = some .runnable := by decide +kernel
set_option maxRecDepth 65536 in
theorem w_alone : about1.alone = true := by decide +kernel
set_option maxRecDepth 65536 in
theorem w_named : about1.methodNamed? x = some theMethod := by decide +kernel
set_option maxRecDepth 65536 in
theorem w_hears : about1.hears theMethod below0 = true := by decide +kernel
set_option maxRecDepth 65536 in
theorem w_ripe : about1.ripe theMethod args0 below0 = true := by decide +kernel
theorem w_running : about1.status = .running := rfl
set_option maxRecDepth 65536 in
theorem w_room : about1.hasRoom e0.platform room_1 = true :=
  launch0.hasRoom_least _ room_1 (by decide +kernel) (by decide +kernel) (by decide +kernel) (by decide +kernel) (by decide +kernel) (by decide +kernel)
theorem allAtoms_all (ts : List Jvm.Cond) (a : Array Jvm.Value) (st : Jvm.State) : (allAtoms ts).before a st = ts.all (fun c => c.before a st) := by
  induction ts with
  | nil => rfl
  | cons c t ih =>
    show (Jvm.Cond.and c (allAtoms t)).before a st = _
    rw [Jvm.Cond.before_and, ih, List.all_cons]
def words1 : List Jvm.Cond := Jvm.Cond.code x code maxLocals ret :: tables_1
/-- a 'code' word, met by the world's own term for the bytes: nothing is compared byte by byte -/
theorem code_word {y : MethodName} {bytes : ByteArray} {mx : Nat} {rt : Option FieldType} {a : Array Value} {s : State} {m : MethodId} {meth : Method} {c : Code} (h1 : s.methodNamed? y = some m) (h2 : s.vm.method? m = some meth) (h3 : meth.code = some c) (h4 : c.code = bytes)
    (h5 : (c.maxLocals == mx && c.exceptionTable.isEmpty && decide (c.maxStack ≤ mostOperands) && decide (meth.sig.returnType = rt) && !meth.locks && decide (parseMethodDescriptor y.desc = some meth.sig)) = true) : (Jvm.Cond.code y bytes mx rt).before a s = true := by
  simp only [Bool.and_eq_true, beq_iff_eq, Bool.not_eq_true', decide_eq_true_eq] at h5
  obtain ⟨⟨⟨⟨⟨g1, g2⟩, g3⟩, g4⟩, g5⟩, g6⟩ := h5
  simp [Cond.before, Cond.holds, Cond.value, h1, h2, h3, h4, g1, g2, g3, g4, g5, g6]
def isCode : Jvm.Cond → Bool
  | .code _ _ _ _ => true
  | _ => false
theorem all_split {L : List Jvm.Cond} {P : Jvm.Cond → Bool} (h1 : L.all (fun c => isCode c || P c) = true) (h2 : ∀ c ∈ L.filter isCode, P c = true) : L.all P = true := by
  refine List.all_eq_true.mpr fun c hc => ?_
  have h := List.all_eq_true.mp h1 c hc
  rcases Bool.eq_false_or_eq_true (isCode c) with hi | hi
  · exact h2 c (List.mem_filter.mpr ⟨hc, hi⟩)
  · simpa [hi] using h
set_option maxRecDepth 65536 in
theorem w_c0 : (Jvm.Cond.code x code maxLocals ret).before args0 about1 = true := code_word (m := ⟨1, 1⟩) (meth := k1m1) (c := k1c1) (by decide +kernel) rfl rfl rfl (by decide +kernel)
set_option maxRecDepth 65536 in
theorem w_c1 : (Jvm.Cond.code ({ cls := "com/example/matchloom/matchloom/league/TouchedCells", name := "<init>", desc := "(II)V" } : Jvm.MethodName) prog_45_method_1_code (3 : Nat) (Option.none : Option Jvm.ClassFile.FieldType)).before args0 about1 = true := code_word (m := ⟨2, 0⟩) (meth := k2m0) (c := k2c0) (by decide +kernel) rfl rfl rfl (by decide +kernel)
set_option maxRecDepth 65536 in
theorem w_c2 : (Jvm.Cond.code ({ cls := "java/lang/Object", name := "<init>", desc := "()V" } : Jvm.MethodName) object_method_1_code (1 : Nat) (Option.none : Option Jvm.ClassFile.FieldType)).before args0 about1 = true := code_word (m := ⟨0, 0⟩) (meth := k0m0) (c := k0c0) (by decide +kernel) rfl rfl rfl (by decide +kernel)
set_option maxRecDepth 65536 in
theorem w_c3 : (Jvm.Cond.code ({ cls := "com/example/matchloom/matchloom/league/TouchedCells", name := "mark", desc := "(II)V" } : Jvm.MethodName) prog_45_method_2_code (3 : Nat) (Option.none : Option Jvm.ClassFile.FieldType)).before args0 about1 = true := code_word (m := ⟨2, 1⟩) (meth := k2m1) (c := k2c1) (by decide +kernel) rfl rfl rfl (by decide +kernel)
set_option maxRecDepth 65536 in
theorem w_c4 : (Jvm.Cond.code ({ cls := "com/example/matchloom/matchloom/league/TouchedCells", name := "clear", desc := "()V" } : Jvm.MethodName) prog_45_method_3_code (4 : Nat) (Option.none : Option Jvm.ClassFile.FieldType)).before args0 about1 = true := code_word (m := ⟨2, 2⟩) (meth := k2m2) (c := k2c2) (by decide +kernel) rfl rfl rfl (by decide +kernel)
set_option maxRecDepth 65536 in
theorem w_c5 : (Jvm.Cond.code ({ cls := "com/example/matchloom/matchloom/league/TouchedCells", name := "teams", desc := "()I" } : Jvm.MethodName) prog_45_method_4_code (1 : Nat) (Option.some Jvm.ClassFile.FieldType.int)).before args0 about1 = true := code_word (m := ⟨2, 3⟩) (meth := k2m3) (c := k2c3) (by decide +kernel) rfl rfl rfl (by decide +kernel)
set_option maxRecDepth 65536 in
theorem w_c6 : (Jvm.Cond.code ({ cls := "com/example/matchloom/matchloom/league/TouchedCells", name := "team", desc := "(I)I" } : Jvm.MethodName) prog_45_method_5_code (2 : Nat) (Option.some Jvm.ClassFile.FieldType.int)).before args0 about1 = true := code_word (m := ⟨2, 4⟩) (meth := k2m4) (c := k2c4) (by decide +kernel) rfl rfl rfl (by decide +kernel)
set_option maxRecDepth 65536 in
theorem w_c7 : (Jvm.Cond.code ({ cls := "com/example/matchloom/matchloom/league/TouchedCells", name := "slots", desc := "(I)I" } : Jvm.MethodName) prog_45_method_6_code (2 : Nat) (Option.some Jvm.ClassFile.FieldType.int)).before args0 about1 = true := code_word (m := ⟨2, 5⟩) (meth := k2m5) (c := k2c5) (by decide +kernel) rfl rfl rfl (by decide +kernel)
set_option maxRecDepth 65536 in
theorem w_c8 : (Jvm.Cond.code ({ cls := "com/example/matchloom/matchloom/league/TouchedCells", name := "slot", desc := "(II)I" } : Jvm.MethodName) prog_45_method_7_code (3 : Nat) (Option.some Jvm.ClassFile.FieldType.int)).before args0 about1 = true := code_word (m := ⟨2, 6⟩) (meth := k2m6) (c := k2c6) (by decide +kernel) rfl rfl rfl (by decide +kernel)
def codes1 : List Jvm.Cond := [Jvm.Cond.code x code maxLocals ret, Jvm.Cond.code ({ cls := "com/example/matchloom/matchloom/league/TouchedCells", name := "<init>", desc := "(II)V" } : Jvm.MethodName) prog_45_method_1_code (3 : Nat) (Option.none : Option Jvm.ClassFile.FieldType), Jvm.Cond.code ({ cls := "java/lang/Object", name := "<init>", desc := "()V" } : Jvm.MethodName) object_method_1_code (1 : Nat) (Option.none : Option Jvm.ClassFile.FieldType), Jvm.Cond.code ({ cls := "com/example/matchloom/matchloom/league/TouchedCells", name := "mark", desc := "(II)V" } : Jvm.MethodName) prog_45_method_2_code (3 : Nat) (Option.none : Option Jvm.ClassFile.FieldType), Jvm.Cond.code ({ cls := "com/example/matchloom/matchloom/league/TouchedCells", name := "clear", desc := "()V" } : Jvm.MethodName) prog_45_method_3_code (4 : Nat) (Option.none : Option Jvm.ClassFile.FieldType), Jvm.Cond.code ({ cls := "com/example/matchloom/matchloom/league/TouchedCells", name := "teams", desc := "()I" } : Jvm.MethodName) prog_45_method_4_code (1 : Nat) (Option.some Jvm.ClassFile.FieldType.int), Jvm.Cond.code ({ cls := "com/example/matchloom/matchloom/league/TouchedCells", name := "team", desc := "(I)I" } : Jvm.MethodName) prog_45_method_5_code (2 : Nat) (Option.some Jvm.ClassFile.FieldType.int), Jvm.Cond.code ({ cls := "com/example/matchloom/matchloom/league/TouchedCells", name := "slots", desc := "(I)I" } : Jvm.MethodName) prog_45_method_6_code (2 : Nat) (Option.some Jvm.ClassFile.FieldType.int), Jvm.Cond.code ({ cls := "com/example/matchloom/matchloom/league/TouchedCells", name := "slot", desc := "(II)I" } : Jvm.MethodName) prog_45_method_7_code (3 : Nat) (Option.some Jvm.ClassFile.FieldType.int)]
set_option maxRecDepth 65536 in
theorem codes_eq : words1.filter isCode = codes1 := rfl
theorem w_codes : ∀ c ∈ words1.filter isCode, c.before args0 about1 = true := by
  rw [codes_eq]
  intro c hc
  simp only [codes1, List.mem_cons, List.not_mem_nil, or_false] at hc
  rcases hc with rfl | rfl | rfl | rfl | rfl | rfl | rfl | rfl | rfl
  · exact w_c0
  · exact w_c1
  · exact w_c2
  · exact w_c3
  · exact w_c4
  · exact w_c5
  · exact w_c6
  · exact w_c7
  · exact w_c8
set_option maxRecDepth 65536 in
theorem w_t1 : (words1.take 24).all (fun c => isCode c || c.before args0 about1) = true := by decide +kernel
set_option maxRecDepth 65536 in
theorem w_t2 : ((words1.drop 24).take 24).all (fun c => isCode c || c.before args0 about1) = true := by decide +kernel
set_option maxRecDepth 65536 in
theorem w_t3 : ((words1.drop 24).drop 24).all (fun c => isCode c || c.before args0 about1) = true := by decide +kernel
theorem w_tables : (allAtoms (Jvm.Cond.code x code maxLocals ret :: tables_1)).before args0 about1 = true := by
  rw [allAtoms_all]
  show words1.all (fun c => c.before args0 about1) = true
  refine all_split ?_ w_codes
  rw [← List.take_append_drop 24 words1, List.all_append, w_t1, ← List.take_append_drop 24 (words1.drop 24), List.all_append, w_t2, w_t3]
  rfl
set_option maxRecDepth 65536 in
theorem w_case : (Jvm.Cond.and given_1 narrow_1).before args0 about1 = true := by decide +kernel
theorem w_applies : (headSpec (Jvm.Cond.code x code maxLocals ret :: tables_1) room_1).applies x e0.platform about1 = true :=
  (Spec.applies_iff w_frames).mpr ⟨w_running, w_runnable, w_alone, w_named, w_hears, w_ripe, w_room, w_tables⟩
theorem atStart : AtStart classFile x code maxLocals ret World_1 tables_1 room_1 Calls_1 rest_1 Pre_1 launch0 p0 e0 about1 theMethod args0 below0 :=
  ⟨lists_1, trivial, launch0.admits_env _ _ _, launch0.least_env, fairChoices_fair.cas, fairChoices_fair.clock, w_frames, w_args, w_heap, w_applies, trivial, trivial, w_case⟩
end start1
theorem witness_1 : WitnessClaimed_1 := ⟨start1.p0, start1.e0, start1.about1, start1.theMethod, start1.args0, start1.below0, start1.atStart⟩
end Jvm.Pilot.@@N@@
